import JvmDerived
import JvmDerived.Pilot.@@N@@Statement
import JvmDerived.Pilot.@@N@@Code
set_option linter.unusedVariables false
set_option linter.unusedSimpArgs false
namespace Jvm.RoadKit
open Sem ClassFile Op Lib Jvm.Stand Jvm.Free Jvm.LawKit
/-! own_: walks written forward: 'Goes P T g': from the frame g at T the run comes to a state that P takes. -/
def Goes (p : Program) (e : Env) (below : List Frame) (P : State → Prop) (T : State) (g : JFrame) : Prop := ∃ t, Steps p.tables e below (T.setTop g) t ∧ P t
/-- how a body ends: it returned v, and Q holds of v, the heap and the places written -/
def Fin1 (below : List Frame) (s : State) (rm : Room) (Q : Option Value → Heap → List Loc → Prop) (t : State) : Prop :=
  ∃ o, t.status = .running ∧ Ended t below o ∧ ∃ v L, o = .returned v ∧ Q v t.heap L ∧ FrameEnd s o t L rm.cells rm.slots
/-- a body's contract -/
def Does (l : Launch) (y : MethodName) (bytes : ByteArray) (maxL : Nat) (ret : Option FieldType) (ws : List Cond) (rm : Room) (Z : State) (as' : Array Value) (h : Heap) (Q : Option Value → Heap → List Loc → Prop) : Prop :=
  MetFree l y (head1 (Cond.code y bytes maxL ret :: ws) rm) (fun a U => a = as' ∧ Z.Warmed39 U.vm ∧ U.heap = h) (fun _ _ _ _ _ => True) (fun _ U o U' => ∃ v L, o = .returned v ∧ Q v U'.heap L ∧ FrameEnd U o U' L rm.cells rm.slots)
section Own
variable {p : Program} {l : Launch} {e : Env} {R : Room} {s : State} {m : MethodId} {args : Array Value} {below : List Frame} {meth : Method} {c : Code} {T T' : State} {locs : List Loc} {cells slots : Nat} {Z : State} {a0 : Array Value} {h h' : Heap} {g g' : JFrame} {P : State → Prop}
theorem Goes.by (st : ∀ target, Steps p.tables e below (T'.setTop g') target → Steps p.tables e below (T.setTop g) target) (k : Goes p e below P T' g') : Goes p e below P T g := by
  obtain ⟨t, h1, h2⟩ := k
  exact ⟨t, st _ h1, h2⟩
theorem Goes.cast (q : g = g') (k : Goes p e below P T g') : Goes p e below P T g := q ▸ k
theorem Does.of {y : MethodName} {bytes : ByteArray} {maxL : Nat} {ret : Option FieldType} {ws : List Cond} {rm : Room} {as' : Array Value} {Q : Option Value → Heap → List Loc → Prop} (hp : plainFor y = true)
    (body : ∀ (p : Program) (e : Env) (s : State) (m : MethodId) (below : List Frame) (meth : Method) (c : Code) (s₁ : State), p.tables.exec = Jvm.exec → c.code = bytes → c.maxLocals = maxL → meth.sig.returnType = ret → meth.locks = false → Z.Warmed39 s.vm → s.vm.findClass y.cls = some m.cls → meth.name = y.name → Stand p l e rm s m as' below meth c s₁ [] 0 0 → s₁.heap = h →
      Goes p e below (Fin1 below s rm Q) s₁ (entryFrame m as' maxL)) : Does l y bytes maxL ret ws rm Z as' h Q := by
  refine MetFree.of_bodySF hp hisR ?_
  intro p e s m args below meth c s₁ Bd hml0 hP hK
  obtain ⟨rfl, hZ, hh⟩ := hP
  have e0 : s₁.heap = h := by rw [← hh, Bd.state]; rfl
  obtain ⟨t, h1, o, h2⟩ := body p e s m below meth c s₁ Bd.exec Bd.bytes hml0 Bd.returns Bd.notSynchronized hZ (findClass_of_methodNamed Bd.named) ((name_of_methodNamed Bd.named Bd.method).1) (Stand.of_body Bd) e0
  exact ⟨t, o, h1, h2⟩
theorem fin_of {rm : Room} {Q : Option Value → Heap → List Loc → Prop} {v : Option Value} (X : Stand p l e R s m args below meth c T locs cells slots) (hlk : meth.locks = false) (hv : meth.sig.returnType = none → v = none) (hQ : Q v T.heap locs) (hc : cells ≤ rm.cells) (hs : slots ≤ rm.slots)
    (st : ∀ fs, (∀ (f : JFrame) (acts : List Action), f.method = m → f.locked = none → f.entered = [] → (doReturn e (T.setTop f) acts v).1 = T.setFrames fs) → Steps p.tables e below (T.setTop g) (T.setFrames fs)) : Goes p e below (Fin1 below s rm Q) T g := by
  obtain ⟨fs, hr, hrun, hended, hW, hsame⟩ := X.leave (v := v) hv hlk
  exact ⟨_, st fs hr, _, hrun, hended, _, _, rfl, hQ, ⟨_, rfl⟩, hW, hsame.mono hc hs⟩
theorem outV {rm : Room} {Q : Option Value → Heap → List Loc → Prop} {pc : Nat} {Ls : Array Slot} (X : Stand p l e R s m args below meth c T locs cells slots) (hx : p.tables.exec = Jvm.exec) (hlk : meth.locks = false) (hret : meth.sig.returnType = none) (hd : decode c.code pc = .ok (.return_, 1)) (hQ : Q none T.heap locs) (hc : cells ≤ rm.cells) (hs : slots ≤ rm.slots) : Goes p e below (Fin1 below s rm Q) T (mkF m pc Ls []) :=
  fin_of X hlk (fun _ => rfl) hQ hc hs fun fs hr => X.returnOut hx hret hd hr
theorem outZ {rm : Room} {Q : Option Value → Heap → List Loc → Prop} {pc : Nat} {Ls : Array Slot} {z : Int32} {rest : List Value} (X : Stand p l e R s m args below meth c T locs cells slots) (hx : p.tables.exec = Jvm.exec) (hlk : meth.locks = false) (hret : meth.sig.returnType = some .boolean) (hd : decode c.code pc = .ok (.ireturn, 1)) (hQ : Q (some (.int (nar .boolean z))) T.heap locs) (hc : cells ≤ rm.cells) (hs : slots ≤ rm.slots) : Goes p e below (Fin1 below s rm Q) T (mkF m pc Ls (.int z :: rest)) :=
  fin_of X hlk (fun h => by rw [hret] at h; cases h) hQ hc hs fun fs hr => retN X hx (t := .boolean) hret (by simp) hd hr
theorem outO {rm : Room} {Q : Option Value → Heap → List Loc → Prop} {pc : Nat} {Ls : Array Slot} {w : Value} {t : FieldType} {i : Instr} {rest : List Value} (X : Stand p l e R s m args below meth c T locs cells slots) (hx : p.tables.exec = Jvm.exec) (hlk : meth.locks = false) (hret : meth.sig.returnType = some t) (hn : narrow t w = w)
    (hi : (i = .ireturn ∧ (t = .int ∨ t = .boolean ∨ t = .byte ∨ t = .char ∨ t = .short) ∧ ∃ z, w = .int z) ∨ (i = .lreturn ∧ t = .long ∧ ∃ z, w = .long z) ∨ (i = .dreturn ∧ t = .double ∧ ∃ z, w = .double z) ∨ (i = .freturn ∧ t = .float ∧ ∃ z, w = .float z) ∨ (i = .areturn ∧ t.isReference = true ∧ w.isRef = true))
    (hd : decode c.code pc = .ok (i, 1)) (hQ : Q (some w) T.heap locs) (hc : cells ≤ rm.cells) (hs : slots ≤ rm.slots) : Goes p e below (Fin1 below s rm Q) T (mkF m pc Ls (w :: rest)) :=
  fin_of X hlk (fun h => by rw [hret] at h; cases h) hQ hc hs fun fs hr => retOut X hx hret hn hi hd hr
theorem outI {rm : Room} {Q : Option Value → Heap → List Loc → Prop} {pc : Nat} {Ls : Array Slot} {z : Int32} {rest : List Value} (X : Stand p l e R s m args below meth c T locs cells slots) (hx : p.tables.exec = Jvm.exec) (hlk : meth.locks = false) (hret : meth.sig.returnType = some .int) (hd : decode c.code pc = .ok (.ireturn, 1)) (hQ : Q (some (.int z)) T.heap locs) (hc : cells ≤ rm.cells) (hs : slots ≤ rm.slots) : Goes p e below (Fin1 below s rm Q) T (mkF m pc Ls (.int z :: rest)) :=
  outO X hx hlk hret rfl (Or.inl ⟨rfl, Or.inl rfl, _, rfl⟩) hd hQ hc hs
theorem outJ {rm : Room} {Q : Option Value → Heap → List Loc → Prop} {pc : Nat} {Ls : Array Slot} {z : Int64} {rest : List Value} (X : Stand p l e R s m args below meth c T locs cells slots) (hx : p.tables.exec = Jvm.exec) (hlk : meth.locks = false) (hret : meth.sig.returnType = some .long) (hd : decode c.code pc = .ok (.lreturn, 1)) (hQ : Q (some (.long z)) T.heap locs) (hc : cells ≤ rm.cells) (hs : slots ≤ rm.slots) : Goes p e below (Fin1 below s rm Q) T (mkF m pc Ls (.long z :: rest)) :=
  outO X hx hlk hret rfl (Or.inr (Or.inl ⟨rfl, rfl, _, rfl⟩)) hd hQ hc hs
theorem outD {rm : Room} {Q : Option Value → Heap → List Loc → Prop} {pc : Nat} {Ls : Array Slot} {z : UInt64} {rest : List Value} (X : Stand p l e R s m args below meth c T locs cells slots) (hx : p.tables.exec = Jvm.exec) (hlk : meth.locks = false) (hret : meth.sig.returnType = some .double) (hd : decode c.code pc = .ok (.dreturn, 1)) (hQ : Q (some (.double z)) T.heap locs) (hc : cells ≤ rm.cells) (hs : slots ≤ rm.slots) : Goes p e below (Fin1 below s rm Q) T (mkF m pc Ls (.double z :: rest)) :=
  outO X hx hlk hret rfl (Or.inr (Or.inr (Or.inl ⟨rfl, rfl, _, rfl⟩))) hd hQ hc hs
theorem outA {rm : Room} {Q : Option Value → Heap → List Loc → Prop} {pc : Nat} {Ls : Array Slot} {w : Value} {t : FieldType} {rest : List Value} (X : Stand p l e R s m args below meth c T locs cells slots) (hx : p.tables.exec = Jvm.exec) (hlk : meth.locks = false) (hret : meth.sig.returnType = some t) (ht : t.isReference = true) (hw : w.isRef = true) (hn : narrow t w = w) (hd : decode c.code pc = .ok (.areturn, 1)) (hQ : Q (some w) T.heap locs) (hc : cells ≤ rm.cells) (hs : slots ≤ rm.slots) : Goes p e below (Fin1 below s rm Q) T (mkF m pc Ls (w :: rest)) :=
  outO X hx hlk hret hn (Or.inr (Or.inr (Or.inr (Or.inr ⟨rfl, ht, hw⟩)))) hd hQ hc hs
/-! calls by a contract -/
theorem callI (X : Stand p l e R s m args below meth c T locs cells slots) (hx : p.tables.exec = Jvm.exec) (hZ : Z.Warmed39 s.vm) {own : String} {index : Nat} {y : MethodName} (hy1 : y.name = "<init>") (hown : s.vm.findClass own = some m.cls) {bytes : ByteArray} {maxL : Nat} {rm : Room}
    (w1 : (Cond.methodLink own index y).before a0 Z = true) (w2 : (Cond.instanceMethod y).before a0 Z = true) (w3 : (Cond.code y bytes maxL none).before a0 Z = true) (w4 : (Cond.initialized y.cls).before a0 Z = true) (hy : y.cls ≠ "java/lang/invoke/MethodHandle" ∧ y.cls ≠ "java/lang/invoke/VarHandle")
    (eT : T.heap = h) {a : Addr} {argsL rest : List Value} {as' : Array Value} {Q : Option Value → Heap → List Loc → Prop} {W : Nat} (hM : Does l y bytes maxL none [] rm Z as' h Q) (has : (.ref a :: argsL).toArray = as') (hf : rm.frames + 1 ≤ R.frames) (hl : W + (maxL + 11) + rm.locals ≤ R.locals)
    (hcc : cells + rm.cells ≤ R.cells) (hss : slots + rm.slots ≤ R.slots) {g : JFrame} (hg : g.method = m) (hsize : g.locals.size = c.maxLocals) (hlen : ∀ sig, parseMethodDescriptor y.desc = some sig → argsL.length = sig.parameters.length) (hst : g.stack = argsL.reverse ++ .ref a :: rest) (hW : 2 * g.monitorRoom + (rest.map fun v => v.category).sum ≤ W) (hd : decode c.code g.pc = .ok (.invokespecial index, 3)) :
    ∃ v T' L, Stand p l e R s m args below meth c T' (locs ++ L) (cells + rm.cells) (slots + rm.slots) ∧ Q v T'.heap L ∧ ∀ target, Steps p.tables e below (T'.setTop { g with pc := g.pc + 3, stack := v.toList ++ rest }) target → Steps p.tables e below (T.setTop g) target := by
  obtain ⟨v, vm1, ⟨T', L', k', n'⟩, -, X', ⟨L, hQ, e1, e2, e3⟩, st⟩ := X.specialBack hx (y := y) hy1 hown (mvT hZ w1) (mvT hZ w2) (mvT hZ w3) hy (backOf (W := W) hM hZ w3 w4 hf hl) hg hsize (Steps.refl _) hlen hst hW hd (fun _ _ => ⟨has, eT, hcc, hss⟩)
  dsimp only [Pt.U, Pt.locs, Pt.cells, Pt.slots] at X' e1 e2 e3 st hQ
  subst e1 e2 e3
  exact ⟨v, T', L, X', hQ, fun t k => st.trans k⟩
theorem callV (X : Stand p l e R s m args below meth c T locs cells slots) (hx : p.tables.exec = Jvm.exec) (hZ : Z.Warmed39 s.vm) {own C : String} {index : Nat} {y : MethodName} (hown : s.vm.findClass own = some m.cls) {bytes : ByteArray} {maxL : Nat} {ret : Option FieldType} {rm : Room}
    (w1 : (Cond.methodLink own index y).before a0 Z = true) (w2 : (Cond.declares y).before a0 Z = true) (w3 : (Cond.selects C y y).before a0 Z = true) (w4 : (Cond.instanceMethod y).before a0 Z = true) (w5 : (Cond.code y bytes maxL ret).before a0 Z = true) (w6 : (Cond.initialized y.cls).before a0 Z = true) (hy : y.cls ≠ "java/lang/invoke/MethodHandle" ∧ y.cls ≠ "java/lang/invoke/VarHandle")
    (eT : T.heap = h) {a : Addr} (E : Exa Z h a C) {argsL rest : List Value} {as' : Array Value} {Q : Option Value → Heap → List Loc → Prop} {W : Nat} (hM : Does l y bytes maxL ret [] rm Z as' h Q) (has : (.ref a :: argsL).toArray = as') (hf : rm.frames + 1 ≤ R.frames) (hl : W + (maxL + 11) + rm.locals ≤ R.locals)
    (hcc : cells + rm.cells ≤ R.cells) (hss : slots + rm.slots ≤ R.slots) {g : JFrame} (hg : g.method = m) (hsize : g.locals.size = c.maxLocals) (hlen : ∀ sig, parseMethodDescriptor y.desc = some sig → argsL.length = sig.parameters.length) (hst : g.stack = argsL.reverse ++ .ref a :: rest) (hW : 2 * g.monitorRoom + (rest.map fun v => v.category).sum ≤ W) (hd : decode c.code g.pc = .ok (.invokevirtual index, 3)) :
    ∃ v T' L, Stand p l e R s m args below meth c T' (locs ++ L) (cells + rm.cells) (slots + rm.slots) ∧ Q v T'.heap L ∧ ∀ target, Steps p.tables e below (T'.setTop { g with pc := g.pc + 3, stack := v.toList ++ rest }) target → Steps p.tables e below (T.setTop g) target := by
  obtain ⟨cB, kB, q1, q2, q3⟩ := isOf hZ eT E
  obtain ⟨v, vm1, ⟨T', L', k', n'⟩, -, X', ⟨L, hQ, e1, e2, e3⟩, st⟩ := X.virtualBack hx (y := y) (z := y) hown (mvT hZ w1) (mvT hZ w2) (notFace_of_selects (args := args) (mvT hZ w3)) (mvT hZ w3) (mvT hZ w4) hy (backOf (W := W) hM hZ w5 w6 hf hl) q1 q3 hg hsize (Steps.refl _) hlen hst hW hd (fun _ _ => ⟨has, eT, hcc, hss⟩)
  dsimp only [Pt.U, Pt.locs, Pt.cells, Pt.slots] at X' e1 e2 e3 st hQ
  subst e1 e2 e3
  exact ⟨v, T', L, X', hQ, fun t k => st.trans k⟩
theorem callC (X : Stand p l e R s m args below meth c T locs cells slots) (hx : p.tables.exec = Jvm.exec) (hZ : Z.Warmed39 s.vm) {own : String} {index : Nat} {y : MethodName} (hown : s.vm.findClass own = some m.cls) {bytes : ByteArray} {maxL : Nat} {ret : Option FieldType} {rm : Room}
    (w1 : (Cond.methodLink own index y).before a0 Z = true) (w2 : (Cond.static y).before a0 Z = true) (w3 : (Cond.code y bytes maxL ret).before a0 Z = true) (w4 : (Cond.initialized y.cls).before a0 Z = true) (hy : y.cls ≠ "java/lang/invoke/MethodHandle" ∧ y.cls ≠ "java/lang/invoke/VarHandle")
    (eT : T.heap = h) {argsL rest : List Value} {as' : Array Value} {Q : Option Value → Heap → List Loc → Prop} {W : Nat} (hM : Does l y bytes maxL ret [] rm Z as' h Q) (has : argsL.toArray = as') (hf : rm.frames + 1 ≤ R.frames) (hl : W + (maxL + 11) + rm.locals ≤ R.locals)
    (hcc : cells + rm.cells ≤ R.cells) (hss : slots + rm.slots ≤ R.slots) {g : JFrame} (hg : g.method = m) (hsize : g.locals.size = c.maxLocals) (hlen : ∀ sig, parseMethodDescriptor y.desc = some sig → argsL.length = sig.parameters.length) (hst : g.stack = argsL.reverse ++ rest) (hW : 2 * g.monitorRoom + (rest.map fun v => v.category).sum ≤ W) (hd : decode c.code g.pc = .ok (.invokestatic index, 3)) :
    ∃ v T' L, Stand p l e R s m args below meth c T' (locs ++ L) (cells + rm.cells) (slots + rm.slots) ∧ Q v T'.heap L ∧ ∀ target, Steps p.tables e below (T'.setTop { g with pc := g.pc + 3, stack := v.toList ++ rest }) target → Steps p.tables e below (T.setTop g) target := by
  obtain ⟨v, vm1, ⟨T', L', k', n'⟩, -, X', ⟨L, hQ, e1, e2, e3⟩, st⟩ := Jvm.LawKit.callS X hx (y := y) hown (mvT hZ w1) (mvT hZ w2) (mvT hZ w4) (mvT hZ w3) hy (backOf (W := W) hM hZ w3 w4 hf hl) hg hsize hlen hst hW hd (fun _ _ => ⟨has, eT, hcc, hss⟩)
  dsimp only [Pt.U, Pt.locs, Pt.cells, Pt.slots] at X' e1 e2 e3 st hQ
  subst e1 e2 e3
  exact ⟨v, T', L, X', hQ, st⟩
end Own
end Jvm.RoadKit
namespace Jvm.Free.XS
open Sem ClassFile Op Lib
theorem lcmpS {tb : Tables} [Ours tb] {e : Env} {below : List Frame} {T target : State} {m : MethodId} {c : Code} {g : JFrame} (h : At T m c below) (hx : tb.exec = Jvm.exec) (hg : g.method = m) {x y : Int64} {v : Int32} {rest : List Value} (hd : decode c.code g.pc = .ok (.lcmp, 1)) (hs : g.stack = .long y :: .long x :: rest) (hv : Jvm.RoadKit.lcmpW x y = v)
    (hr : Steps tb e below (T.setTop { g with pc := g.pc + 1, stack := .int v :: rest }) target) : Steps tb e below (T.setTop g) target := by
  subst hv
  exact lcmp h hx hg hd hs hr
end Jvm.Free.XS
namespace Jvm.RoadKit
open Sem ClassFile Op Lib Jvm.Stand Jvm.Free Jvm.LawKit Jvm.FP Jvm.Free.Fl
section OwnD
theorem own_cmp (i j : Int) : compare i j = if i < j then Ordering.lt else if i = j then Ordering.eq else Ordering.gt := rfl
theorem cmpL_lt {x y : Int64} (h : x < y) : lcmpW x y = -1 := by
  have h' := Int64.lt_iff_toInt_lt.mp h
  show (if y < x then (1 : Int32) else if x = y then 0 else -1) = -1
  rw [if_neg (fun q => by have := Int64.lt_iff_toInt_lt.mp q; omega), if_neg (fun q => by rw [q] at h'; omega)]
theorem cmpL_eq {x y : Int64} (h : x = y) : lcmpW x y = 0 := by
  subst h
  show (if x < x then (1 : Int32) else if x = x then 0 else -1) = 0
  rw [if_neg (fun q => by have := Int64.lt_iff_toInt_lt.mp q; omega), if_pos rfl]
theorem cmpL_gt {x y : Int64} (h : y < x) : lcmpW x y = 1 := by
  show (if y < x then (1 : Int32) else if x = y then 0 else -1) = 1
  rw [if_pos h]
theorem DInt_nn {i : Int} {x : UInt64} (h : Core.DInt i x) : NoNaN64 x := val64_no.mpr (Core.DInt_ne_nan h)
theorem DInt_fin {i : Int} {x : UInt64} (h : Core.DInt i x) : Fin64 x := fin64_core.mpr (by
  have h' : Core.Whole i (Core.val64 x) := h
  cases q : Core.val64 x with
  | nan => rw [q] at h'; exact h'.elim
  | inf s => rw [q] at h'; exact h'.elim
  | fin s c e => exact ⟨s, c, e, q⟩)
theorem cmpD_lt {i j : Int} {x y : UInt64} (hx : Core.DInt i x) (hy : Core.DInt j y) (h : i < j) (o : CmpOp) : cmpValue (FP.dcmp x y) o = -1 := by
  rw [show FP.dcmp x y = _ from Core.dcmp_int hx hy, own_cmp, if_pos h]; rfl
theorem cmpD_eq {i j : Int} {x y : UInt64} (hx : Core.DInt i x) (hy : Core.DInt j y) (h : i = j) (o : CmpOp) : cmpValue (FP.dcmp x y) o = 0 := by
  rw [show FP.dcmp x y = _ from Core.dcmp_int hx hy, own_cmp, if_neg (by omega), if_pos h]; rfl
theorem cmpD_gt {i j : Int} {x y : UInt64} (hx : Core.DInt i x) (hy : Core.DInt j y) (h : j < i) (o : CmpOp) : cmpValue (FP.dcmp x y) o = 1 := by
  rw [show FP.dcmp x y = _ from Core.dcmp_int hx hy, own_cmp, if_neg (by omega), if_neg (by omega)]; rfl
theorem DInt_zero : Core.DInt 0 0 := by
  have h := Core.l2d_int (a := 0) (by decide)
  rw [show Core.l2d 0 = 0 from l2d_zero] at h
  exact h
theorem DInt_i2d {x : Int32} {d : UInt64} (q : FP.i2d x = d) : Core.DInt x.toInt d := q ▸ Core.i2d_int x
theorem DInt_l2d {x : Int64} {d : UInt64} (q : FP.l2d x = d) (h : x.toInt.natAbs ≤ 2 ^ 53) : Core.DInt x.toInt d := q ▸ Core.l2d_int h
theorem DInt_add {i j : Int} {a b d : UInt64} (q : FP.dadd a b = d) (ha : Core.DInt i a) (hb : Core.DInt j b) (h : (i + j).natAbs ≤ 2 ^ 53) : Core.DInt (i + j) d := q ▸ Core.dadd_int ha hb h
theorem DInt_sub {i j : Int} {a b d : UInt64} (q : FP.dsub a b = d) (ha : Core.DInt i a) (hb : Core.DInt j b) (h : (i - j).natAbs ≤ 2 ^ 53) : Core.DInt (i - j) d := q ▸ Core.dsub_int ha hb h
theorem DInt_mul {i j : Int} {a b d : UInt64} (q : FP.dmul a b = d) (ha : Core.DInt i a) (hb : Core.DInt j b) (h : (i * j).natAbs ≤ 2 ^ 53) : Core.DInt (i * j) d := q ▸ Core.dmul_int ha hb h
end OwnD
/-! an array by the list of its values -/
def Sar (Z : State) (h : Heap) (a : Addr) (ty : FieldType) (vs : List Value) : Prop := ∃ c : Cell, Arr Z h a c ty ∧ c.slots = vs.toArray
section OwnA
variable {p : Program} {l : Launch} {e : Env} {R : Room} {s : State} {m : MethodId} {args : Array Value} {below : List Frame} {meth : Method} {c : Code} {T : State} {locs : List Loc} {cells slots : Nat} {Z : State} {a0 : Array Value} {h h' : Heap} {a b : Addr} {ty : FieldType} {vs : List Value} {sl : Nat} {v : Value} {ws : List Addr}
theorem Sar.lt (F : Sar Z h a ty vs) : a < h.size := by obtain ⟨c, A, -⟩ := F; exact A.lt
theorem Sar.ext (F : Sar Z h a ty vs) (E : Ext h h') : Sar Z h' a ty vs := by obtain ⟨c, A, r⟩ := F; exact ⟨c, A.ext E, r⟩
theorem Sar.other (F : Sar Z h b ty vs) (W : Wr h h' a sl v) (q : b ≠ a) : Sar Z h' b ty vs := by obtain ⟨c, A, r⟩ := F; exact ⟨c, A.other W q, r⟩
theorem Sar.keep (F : Sar Z h a ty vs) (K : Keep h h' ws) (q : a ∉ ws) : Sar Z h' a ty vs := by obtain ⟨c, A, r⟩ := F; exact ⟨c, ⟨K.2.1 a c A.1 q, A.2⟩, r⟩
theorem Sar.new {k : ClassId} {z : Int32} {n : Nat} (A : Arr Z h a (newA k ty z) ty) (hn : z.toNatClampNeg = n) : Sar Z h a ty (List.replicate n (defaultValue ty)) := ⟨_, A, by subst hn; show Array.replicate _ _ = _; simp⟩
theorem Sar.in {cl : Cell} {j : Int32} {i : Nat} (S : cl.slots = vs.toArray) (hj : j.toInt = i) (hi : i < vs.length) : ¬ (j < 0 ∨ cl.slots.size ≤ j.toNatClampNeg) := by
  rw [S]
  have q : j.toNatClampNeg = i := by show j.toInt.toNat = i; omega
  have r : ¬ j < 0 := fun z => by have z' := Int32.lt_iff_toInt_lt.mp z; rw [hj] at z'; simp at z'; omega
  rw [q]
  simp only [List.size_toArray]
  intro z
  rcases z with z | z
  · exact r z
  · omega
theorem Sar.nat {j : Int32} {i : Nat} (hj : j.toInt = i) : j.toNatClampNeg = i := by show j.toInt.toNat = i; omega
theorem stDS (X : Stand p l e R s m args below meth c T locs cells slots) (hx : p.tables.exec = Jvm.exec) (hZ : Z.Warmed39 s.vm) (eT : T.heap = h) (V : Sar Z h a .double vs) {j : Int32} {x : UInt64} (i : Nat) (hj : j.toInt = i) (hi : i < vs.length) {g : JFrame} (hg : g.method = m) {rest : List Value} (hs : g.stack = .double x :: .int j :: .ref a :: rest) (hd : decode c.code g.pc = .ok (.dastore, 1)) :
    ∃ T' h', Stand p l e R s m args below meth c T' (locs ++ [⟨a, i⟩]) cells slots ∧ T'.heap = h' ∧ Wr h h' a i (.double x) ∧ Sar Z h' a .double (vs.set i (.double x)) ∧ ∀ target, Steps p.tables e below (T'.setTop { g with pc := g.pc + 1, stack := rest }) target → Steps p.tables e below (T.setTop g) target := by
  obtain ⟨cl, A, S⟩ := V
  obtain ⟨T', h', X', e', W, st⟩ := stD X hx hZ eT A (Sar.in S hj hi) hg hs hd
  rw [Sar.nat hj] at X' W
  exact ⟨T', h', X', e', W, ⟨_, A.same W, by show cl.slots.setIfInBounds _ _ = _; rw [S]; simp⟩, st⟩
theorem stIS (X : Stand p l e R s m args below meth c T locs cells slots) (hx : p.tables.exec = Jvm.exec) (hZ : Z.Warmed39 s.vm) (eT : T.heap = h) (V : Sar Z h a .int vs) {j : Int32} {x : Int32} (i : Nat) (hj : j.toInt = i) (hi : i < vs.length) {g : JFrame} (hg : g.method = m) {rest : List Value} (hs : g.stack = .int x :: .int j :: .ref a :: rest) (hd : decode c.code g.pc = .ok (.iastore, 1)) :
    ∃ T' h', Stand p l e R s m args below meth c T' (locs ++ [⟨a, i⟩]) cells slots ∧ T'.heap = h' ∧ Wr h h' a i (.int x) ∧ Sar Z h' a .int (vs.set i (.int x)) ∧ ∀ target, Steps p.tables e below (T'.setTop { g with pc := g.pc + 1, stack := rest }) target → Steps p.tables e below (T.setTop g) target := by
  obtain ⟨cl, A, S⟩ := V
  obtain ⟨T', h', X', e', W, st⟩ := stI X hx hZ eT A (Sar.in S hj hi) hg hs hd
  rw [Sar.nat hj] at X' W
  exact ⟨T', h', X', e', W, ⟨_, A.same W, by show cl.slots.setIfInBounds _ _ = _; rw [S]; simp⟩, st⟩
theorem ldDS (X : Stand p l e R s m args below meth c T locs cells slots) (hx : p.tables.exec = Jvm.exec) (hZ : Z.Warmed39 s.vm) (eT : T.heap = h) (V : Sar Z h a .double vs) {j : Int32} (i : Nat) (hj : j.toInt = i) (hv : vs[i]? = some v) {g : JFrame} (hg : g.method = m) {rest : List Value} (hs : g.stack = .int j :: .ref a :: rest) (hd : decode c.code g.pc = .ok (.daload, 1)) :
    ∀ target, Steps p.tables e below (T.setTop { g with pc := g.pc + 1, stack := v :: rest }) target → Steps p.tables e below (T.setTop g) target := by
  obtain ⟨cl, A, S⟩ := V
  have hi : i < vs.length := (List.getElem?_eq_some_iff.mp hv).1
  exact X.daload hx (by rw [eT]; exact A.1) (State.isArrayOf_alike hZ.alike A.2.1) A.2.2 (Sar.in S hj hi) (by rw [S, Sar.nat hj]; simpa using hv) hg hs hd
theorem ldIS (X : Stand p l e R s m args below meth c T locs cells slots) (hx : p.tables.exec = Jvm.exec) (hZ : Z.Warmed39 s.vm) (eT : T.heap = h) (V : Sar Z h a .int vs) {j : Int32} (i : Nat) (hj : j.toInt = i) (hv : vs[i]? = some v) {g : JFrame} (hg : g.method = m) {rest : List Value} (hs : g.stack = .int j :: .ref a :: rest) (hd : decode c.code g.pc = .ok (.iaload, 1)) :
    ∀ target, Steps p.tables e below (T.setTop { g with pc := g.pc + 1, stack := v :: rest }) target → Steps p.tables e below (T.setTop g) target := by
  obtain ⟨cl, A, S⟩ := V
  have hi : i < vs.length := (List.getElem?_eq_some_iff.mp hv).1
  exact X.iaload hx (by rw [eT]; exact A.1) (State.isArrayOf_alike hZ.alike A.2.1) A.2.2 (Sar.in S hj hi) (by rw [S, Sar.nat hj]; simpa using hv) hg hs hd
theorem lenS (X : Stand p l e R s m args below meth c T locs cells slots) (hx : p.tables.exec = Jvm.exec) (hZ : Z.Warmed39 s.vm) (eT : T.heap = h) (V : Sar Z h a ty vs) {n : Int32} (hn : vs.length.toInt32 = n) {g : JFrame} (hg : g.method = m) {rest : List Value} (hs : g.stack = .ref a :: rest) (hd : decode c.code g.pc = .ok (.arraylength, 1)) :
    ∀ target, Steps p.tables e below (T.setTop { g with pc := g.pc + 1, stack := .int n :: rest }) target → Steps p.tables e below (T.setTop g) target := by
  obtain ⟨cl, A, S⟩ := V
  intro target k
  refine X.arraylength hx (by rw [eT]; exact A.1) (State.isArrayOf_alike hZ.alike A.2.1) hg hs hd target ?_
  rw [S]
  simp only [List.size_toArray, hn]
  exact k
end OwnA
end Jvm.RoadKit
namespace Jvm.RoadKit
open Jvm.FP Jvm.Free.Fl
theorem DInt_nz {i : Int} {x : UInt64} (h : Core.DInt i x) (hi : i ≠ 0) : Nz64 x := nz64_core.mpr fun z => by
  obtain ⟨s, q, e⟩ := z
  have h' : Core.Whole i (Core.val64 x) := h
  rw [e] at h'
  exact hi ((Core.whole_zero h').mp rfl)
theorem DInt_one : Core.DInt 1 4607182418800017408 := Core.dint_one
end Jvm.RoadKit
namespace Jvm.RoadKit
open Jvm.FP Jvm.Free.Fl Op
theorem cmpD_le {i j : Int} {x y : UInt64} (hx : Core.DInt i x) (hy : Core.DInt j y) (h : i ≤ j) (o : ClassFile.CmpOp) : ∃ v : Int32, cmpValue (FP.dcmp x y) o = v ∧ ¬ (0 : Int32) < v := by
  by_cases q : i < j
  · exact ⟨-1, cmpD_lt hx hy q o, by decide⟩
  · exact ⟨0, cmpD_eq hx hy (by omega) o, by decide⟩
theorem cmpD_ge {i j : Int} {x y : UInt64} (hx : Core.DInt i x) (hy : Core.DInt j y) (h : j ≤ i) (o : ClassFile.CmpOp) : ∃ v : Int32, cmpValue (FP.dcmp x y) o = v ∧ ¬ v < (0 : Int32) := by
  by_cases q : j < i
  · exact ⟨1, cmpD_gt hx hy q o, by decide⟩
  · exact ⟨0, cmpD_eq hx hy (by omega) o, by decide⟩
end Jvm.RoadKit
namespace Jvm.RoadKit
open Jvm.Free
theorem cmpL_le {x y : Int64} (h : ¬ y.toInt < x.toInt) : ∃ v : Int32, lcmpW x y = v ∧ ¬ (0 : Int32) < v := by
  by_cases q : x.toInt < y.toInt
  · exact ⟨-1, cmpL_lt (Int64.lt_iff_toInt_lt.mpr q), by decide⟩
  · exact ⟨0, cmpL_eq (Int64.toInt_inj.mp (by omega)), by decide⟩
theorem cmpL_gtI {x y : Int64} (h : y.toInt < x.toInt) : lcmpW x y = 1 := cmpL_gt (Int64.lt_iff_toInt_lt.mpr h)
end Jvm.RoadKit
namespace Jvm.RoadKit
open Jvm.Free
theorem cmpL_ge {x y : Int64} (h : ¬ x.toInt < y.toInt) : ∃ v : Int32, lcmpW x y = v ∧ ¬ v < (0 : Int32) := by
  by_cases q : y.toInt < x.toInt
  · exact ⟨1, cmpL_gtI q, by decide⟩
  · exact ⟨0, cmpL_eq (Int64.toInt_inj.mp (by omega)), by decide⟩
end Jvm.RoadKit
namespace Jvm.RoadKit
section OwnN
theorem own_mb {i j : Int} {A B : Nat} (hi : i.natAbs ≤ A) (hj : j.natAbs ≤ B) : (i * j).natAbs ≤ A * B := by rw [Int.natAbs_mul]; exact Nat.mul_le_mul hi hj
theorem own_mb2 {i j : Int} {A B : Nat} (hi : -(A : Int) ≤ i ∧ i ≤ A) (hj : -(B : Int) ≤ j ∧ j ≤ B) : -((A * B : Nat) : Int) ≤ i * j ∧ i * j ≤ ((A * B : Nat) : Int) := by
  have h := own_mb (i := i) (j := j) (A := A) (B := B) (by omega) (by omega)
  omega
theorem own_ladd {a b : Int64} (h1 : -9223372036854775808 ≤ a.toInt + b.toInt) (h2 : a.toInt + b.toInt < 9223372036854775808) : (a + b).toInt = a.toInt + b.toInt := by
  have := c_ladd a b; have := rng64 (a + b); omega
theorem own_lsub {a b : Int64} (h1 : -9223372036854775808 ≤ a.toInt - b.toInt) (h2 : a.toInt - b.toInt < 9223372036854775808) : (a - b).toInt = a.toInt - b.toInt := by
  have := c_lsub a b; have := rng64 (a - b); omega
theorem own_lmul {a b : Int64} (h : (a.toInt * b.toInt).natAbs < 9223372036854775808) : (a * b).toInt = a.toInt * b.toInt := by
  have := c_lmul a b; have := rng64 (a * b); omega
theorem own_short (x : Int32) : (x.toInt16.toInt32).toInt.natAbs ≤ 32768 := by
  have := c_i2s x; omega
theorem own_and3 (x : Int32) : (x &&& 3) = 0 ∨ (x &&& 3) = 1 ∨ (x &&& 3) = 2 ∨ (x &&& 3) = 3 := by
  have h := c_and x 3 (by decide)
  have e : (3 : Int32).toInt = 3 := by decide
  simp only [← Int32.toInt_inj]
  rw [show (0 : Int32).toInt = 0 from by decide, show (1 : Int32).toInt = 1 from by decide, show (2 : Int32).toInt = 2 from by decide, e]
  omega
end OwnN
end Jvm.RoadKit
namespace Jvm.Pilot.@@N@@
open Jvm Jvm.ClassFile Sem Op Lib Jvm.Free Jvm.Stand Jvm.LawKit Jvm.RoadKit Jvm.FP Jvm.Free.Fl Bundle Jvm.Pilot.@@N@@.Jvm.D
theorem d1_0 : decode prog_47_method_1_code 0 = .ok (.aload_n 0, 1) := by decide +kernel
theorem d1_1 : decode prog_47_method_1_code 1 = .ok (.invokespecial 1, 3) := by decide +kernel
theorem d1_4 : decode prog_47_method_1_code 4 = .ok (.aload_n 0, 1) := by decide +kernel
theorem d1_5 : decode prog_47_method_1_code 5 = .ok (.iload_n 1, 1) := by decide +kernel
theorem d1_6 : decode prog_47_method_1_code 6 = .ok (.newarray .double, 2) := by decide +kernel
theorem d1_8 : decode prog_47_method_1_code 8 = .ok (.putfield 7, 3) := by decide +kernel
theorem d1_11 : decode prog_47_method_1_code 11 = .ok (.aload_n 0, 1) := by decide +kernel
theorem d1_12 : decode prog_47_method_1_code 12 = .ok (.iload_n 1, 1) := by decide +kernel
theorem d1_13 : decode prog_47_method_1_code 13 = .ok (.newarray .double, 2) := by decide +kernel
theorem d1_15 : decode prog_47_method_1_code 15 = .ok (.putfield 13, 3) := by decide +kernel
theorem d1_18 : decode prog_47_method_1_code 18 = .ok (.aload_n 0, 1) := by decide +kernel
theorem d1_19 : decode prog_47_method_1_code 19 = .ok (.iload_n 1, 1) := by decide +kernel
theorem d1_20 : decode prog_47_method_1_code 20 = .ok (.newarray .double, 2) := by decide +kernel
theorem d1_22 : decode prog_47_method_1_code 22 = .ok (.putfield 16, 3) := by decide +kernel
theorem d1_25 : decode prog_47_method_1_code 25 = .ok (.return_, 1) := by decide +kernel
theorem pn0 : plainName "com/example/brinewright/brinewright/ResidualHelmholtz" = true := by first | (simp [plainName, overriddenIn]; done) | decide +kernel
theorem pd0 : parseMethodDescriptor "(I)V" = some ⟨[.int], none⟩ := by decide +kernel
theorem ef_rm_init (m : MethodId) (x0 : Addr) (x1 : Int32) : entryFrame m #[(.ref x0), (.int x1)] 2 = mkF m 0 #[.val (.ref x0), .val (.int x1)] [] := by first | (simp [entryFrame, mkF, argsToLocals, Value.category, maxLocals]; done) | rfl
set_option maxRecDepth 65536 in
set_option maxHeartbeats 40000000 in
theorem rm_init (l : Launch) (Z : State) (a0 : Array Value) (hw : ∀ d ∈ tables_1, d.before a0 Z = true) (a : Addr) (h0 : Heap) (n0 : Nat) (Z0 : n0 ≤ h0.size) (EA : Exa Z h0 a "com/example/brinewright/brinewright/ResidualHelmholtz") (F_dN_a : Fld Z h0 a "com/example/brinewright/brinewright/ResidualHelmholtz" "dN" "[D" .null) (F_dNdV_a : Fld Z h0 a "com/example/brinewright/brinewright/ResidualHelmholtz" "dNdV" "[D" .null) (F_dNAtFreeVolume_a : Fld Z h0 a "com/example/brinewright/brinewright/ResidualHelmholtz" "dNAtFreeVolume" "[D" .null) (F_value_a : Fld Z h0 a "com/example/brinewright/brinewright/ResidualHelmholtz" "value" "D" (.double (0 : UInt64))) (F_dV_a : Fld Z h0 a "com/example/brinewright/brinewright/ResidualHelmholtz" "dV" "D" (.double (0 : UInt64))) (F_dV2_a : Fld Z h0 a "com/example/brinewright/brinewright/ResidualHelmholtz" "dV2" "D" (.double (0 : UInt64))) (ga : n0 ≤ a) :
    Does l (⟨"com/example/brinewright/brinewright/ResidualHelmholtz", "<init>", "(I)V"⟩ : MethodName) prog_47_method_1_code 2 none [] ({ frames := 1, cells := 3, slots := 6, locals := 12 } : Room) Z #[(.ref a), (.int (2 : Int32))] h0 (fun v h L => v = none ∧ (∃ b0 b1 b2, h0.size ≤ b0 ∧ h0.size ≤ b1 ∧ h0.size ≤ b2 ∧ Fld Z h a "com/example/brinewright/brinewright/ResidualHelmholtz" "dN" "[D" (.ref b0) ∧ Fld Z h a "com/example/brinewright/brinewright/ResidualHelmholtz" "dNdV" "[D" (.ref b1) ∧ Fld Z h a "com/example/brinewright/brinewright/ResidualHelmholtz" "dNAtFreeVolume" "[D" (.ref b2) ∧ Fld Z h a "com/example/brinewright/brinewright/ResidualHelmholtz" "value" "D" (.double (0 : UInt64)) ∧ Fld Z h a "com/example/brinewright/brinewright/ResidualHelmholtz" "dV" "D" (.double (0 : UInt64)) ∧ Fld Z h a "com/example/brinewright/brinewright/ResidualHelmholtz" "dV2" "D" (.double (0 : UInt64)) ∧ Sar Z h b0 .double [(.double (0 : UInt64)), (.double (0 : UInt64))] ∧ Sar Z h b1 .double [(.double (0 : UInt64)), (.double (0 : UInt64))] ∧ Sar Z h b2 .double [(.double (0 : UInt64)), (.double (0 : UInt64))] ∧ b0 ≠ b1 ∧ b0 ≠ b2 ∧ b1 ≠ b2) ∧ Keep h0 h [a] ∧ Fr n0 L) := by
  refine Does.of (plainFor_of_name pn0) ?_
  intro p e s m below meth c s₁ hx hby hml hret hlk hZ hown hnm X0 e0
  have N0 := Fr.nil n0
  refine Goes.cast (g' := mkF m 0 #[.val (.ref a), .val (.int (2 : Int32))] []) (ef_rm_init m a (2 : Int32)) ?_
  have K0 := Keep.refl h0 [a]
  refine Goes.by (T' := s₁) (g' := (mkF m 1 #[.val (.ref a), .val (.int (2 : Int32))] [(.ref a)])) (fun _ k => XS.aloadN X0.here hx rfl (hb hby d1_0) rfl rfl k) ?_
  obtain ⟨T1, X1, e1, st1⟩ := initO X0 hx hZ hown (hw _ (List.mem_of_getElem? (i := 6) rfl)) (hw _ (List.mem_of_getElem? (i := 7) rfl)) (hw _ (List.mem_of_getElem? (i := 8) rfl)) e0 (g := (mkF m 1 #[.val (.ref a), .val (.int (2 : Int32))] [(.ref a)])) rfl (by rw [hml]; rfl) rfl (hb hby d1_1) (by decide) (W := 0) (by show 2 * 0 + _ ≤ _; exact Nat.le_of_eq rfl) (by decide)
  refine Goes.by (T' := T1) (g' := (mkF m 4 #[.val (.ref a), .val (.int (2 : Int32))] [])) st1 ?_
  refine Goes.by (T' := T1) (g' := (mkF m 5 #[.val (.ref a), .val (.int (2 : Int32))] [(.ref a)])) (fun _ k => XS.aloadN X1.here hx rfl (hb hby d1_4) rfl rfl k) ?_
  refine Goes.by (T' := T1) (g' := (mkF m 6 #[.val (.ref a), .val (.int (2 : Int32))] [(.int (2 : Int32)), (.ref a)])) (fun _ k => XS.iloadN X1.here hx rfl (hb hby d1_5) rfl k) ?_
  obtain ⟨T2, h2, k2, X2, e2, E2, A2, st2⟩ := newP X1 hx hZ (hw _ (List.mem_of_getElem? (i := 9) rfl)) e1 (g := (mkF m 6 #[.val (.ref a), .val (.int (2 : Int32))] [(.int (2 : Int32)), (.ref a)])) rfl (hb hby d1_6) rfl (by decide) (cap := 2) (by decide) (by decide) (by decide) (by decide)
  obtain ⟨b0, g2⟩ : ∃ z, z = h0.size := ⟨_, rfl⟩
  rw [← g2] at A2 st2
  have ne_a_b0 : a ≠ b0 := fun q => Nat.lt_irrefl _ (Nat.lt_of_lt_of_eq EA.lt (g2.symm.trans q.symm))
  have ge_b0 : n0 ≤ b0 := Nat.le_trans Z0 (Nat.le_of_eq g2.symm)
  have sz_b0 : h0.size ≤ b0 := Nat.le_trans K0.1 (Nat.le_of_eq g2.symm)
  have EA := EA.ext E2
  have F_dN_a := F_dN_a.ext E2
  have F_dNdV_a := F_dNdV_a.ext E2
  have F_dNAtFreeVolume_a := F_dNAtFreeVolume_a.ext E2
  have F_value_a := F_value_a.ext E2
  have F_dV_a := F_dV_a.ext E2
  have F_dV2_a := F_dV2_a.ext E2
  have Z0 := Nat.le_trans Z0 E2.1
  have K0 := K0.ext E2
  have V_b0 : Sar Z h2 b0 .double [(.double (0 : UInt64)), (.double (0 : UInt64))] := Sar.new (n := 2) A2 (by decide)
  refine Goes.by (T' := T2) (g' := (mkF m 8 #[.val (.ref a), .val (.int (2 : Int32))] [(.ref b0), (.ref a)])) st2 ?_
  obtain ⟨T3, h3, X3, e3, W3, st3⟩ := putF X2 hx hZ hown (host := "") (Or.inl (hw _ (List.mem_of_getElem? (i := 10) rfl))) Via.refl e2 F_dN_a EA (Or.inr ⟨(hw _ (List.mem_of_getElem? (i := 11) rfl)), rfl, hnm⟩) (hw _ (List.mem_of_getElem? (i := 1) rfl)) (ty := (.array .double)) (by decide) rfl rfl (g := (mkF m 8 #[.val (.ref a), .val (.int (2 : Int32))] [(.ref b0), (.ref a)])) rfl rfl (hb hby d1_8)
  have N0 := Fr.snoc X3 N0 ga
  have EA := EA.wr W3
  have F_dN_a := F_dN_a.same W3
  have F_dNdV_a := F_dNdV_a.other W3 (Or.inr (slot_ne (t := (.array .double)) (t' := (.array .double)) (Or.inr (hw _ (List.mem_of_getElem? (i := 13) rfl))) (Or.inr (hw _ (List.mem_of_getElem? (i := 11) rfl))) (by decide) (by decide) (by decide)))
  have F_dNAtFreeVolume_a := F_dNAtFreeVolume_a.other W3 (Or.inr (slot_ne (t := (.array .double)) (t' := (.array .double)) (Or.inr (hw _ (List.mem_of_getElem? (i := 15) rfl))) (Or.inr (hw _ (List.mem_of_getElem? (i := 11) rfl))) (by decide) (by decide) (by decide)))
  have F_value_a := F_value_a.other W3 (Or.inr (slot_ne (t := .double) (t' := (.array .double)) (Or.inl (hw _ (List.mem_of_getElem? (i := 22) rfl))) (Or.inr (hw _ (List.mem_of_getElem? (i := 11) rfl))) (by decide) (by decide) (by decide)))
  have F_dV_a := F_dV_a.other W3 (Or.inr (slot_ne (t := .double) (t' := (.array .double)) (Or.inl (hw _ (List.mem_of_getElem? (i := 24) rfl))) (Or.inr (hw _ (List.mem_of_getElem? (i := 11) rfl))) (by decide) (by decide) (by decide)))
  have F_dV2_a := F_dV2_a.other W3 (Or.inr (slot_ne (t := .double) (t' := (.array .double)) (Or.inl (hw _ (List.mem_of_getElem? (i := 26) rfl))) (Or.inr (hw _ (List.mem_of_getElem? (i := 11) rfl))) (by decide) (by decide) (by decide)))
  have V_b0 := V_b0.other W3 (Ne.symm ne_a_b0)
  have Z0 := Nat.le_trans Z0 (Nat.le_of_eq W3.size.symm)
  have K0 := K0.wr W3 (Or.inl (List.mem_singleton.mpr rfl))
  refine Goes.by (T' := T3) (g' := (mkF m 11 #[.val (.ref a), .val (.int (2 : Int32))] [])) st3 ?_
  refine Goes.by (T' := T3) (g' := (mkF m 12 #[.val (.ref a), .val (.int (2 : Int32))] [(.ref a)])) (fun _ k => XS.aloadN X3.here hx rfl (hb hby d1_11) rfl rfl k) ?_
  refine Goes.by (T' := T3) (g' := (mkF m 13 #[.val (.ref a), .val (.int (2 : Int32))] [(.int (2 : Int32)), (.ref a)])) (fun _ k => XS.iloadN X3.here hx rfl (hb hby d1_12) rfl k) ?_
  obtain ⟨T4, h4, k4, X4, e4, E4, A4, st4⟩ := newP X3 hx hZ (hw _ (List.mem_of_getElem? (i := 9) rfl)) e3 (g := (mkF m 13 #[.val (.ref a), .val (.int (2 : Int32))] [(.int (2 : Int32)), (.ref a)])) rfl (hb hby d1_13) rfl (by decide) (cap := 2) (by decide) (by decide) (by decide) (by decide)
  obtain ⟨b1, g4⟩ : ∃ z, z = h3.size := ⟨_, rfl⟩
  rw [← g4] at A4 st4
  have ne_a_b1 : a ≠ b1 := fun q => Nat.lt_irrefl _ (Nat.lt_of_lt_of_eq EA.lt (g4.symm.trans q.symm))
  have ne_b0_b1 : b0 ≠ b1 := fun q => Nat.lt_irrefl _ (Nat.lt_of_lt_of_eq V_b0.lt (g4.symm.trans q.symm))
  have ge_b1 : n0 ≤ b1 := Nat.le_trans Z0 (Nat.le_of_eq g4.symm)
  have sz_b1 : h0.size ≤ b1 := Nat.le_trans K0.1 (Nat.le_of_eq g4.symm)
  have EA := EA.ext E4
  have F_dN_a := F_dN_a.ext E4
  have F_dNdV_a := F_dNdV_a.ext E4
  have F_dNAtFreeVolume_a := F_dNAtFreeVolume_a.ext E4
  have F_value_a := F_value_a.ext E4
  have F_dV_a := F_dV_a.ext E4
  have F_dV2_a := F_dV2_a.ext E4
  have V_b0 := V_b0.ext E4
  have Z0 := Nat.le_trans Z0 E4.1
  have K0 := K0.ext E4
  have V_b1 : Sar Z h4 b1 .double [(.double (0 : UInt64)), (.double (0 : UInt64))] := Sar.new (n := 2) A4 (by decide)
  refine Goes.by (T' := T4) (g' := (mkF m 15 #[.val (.ref a), .val (.int (2 : Int32))] [(.ref b1), (.ref a)])) st4 ?_
  obtain ⟨T5, h5, X5, e5, W5, st5⟩ := putF X4 hx hZ hown (host := "") (Or.inl (hw _ (List.mem_of_getElem? (i := 12) rfl))) Via.refl e4 F_dNdV_a EA (Or.inr ⟨(hw _ (List.mem_of_getElem? (i := 13) rfl)), rfl, hnm⟩) (hw _ (List.mem_of_getElem? (i := 1) rfl)) (ty := (.array .double)) (by decide) rfl rfl (g := (mkF m 15 #[.val (.ref a), .val (.int (2 : Int32))] [(.ref b1), (.ref a)])) rfl rfl (hb hby d1_15)
  have N0 := Fr.snoc X5 N0 ga
  have EA := EA.wr W5
  have F_dN_a := F_dN_a.other W5 (Or.inr (slot_ne (t := (.array .double)) (t' := (.array .double)) (Or.inr (hw _ (List.mem_of_getElem? (i := 11) rfl))) (Or.inr (hw _ (List.mem_of_getElem? (i := 13) rfl))) (by decide) (by decide) (by decide)))
  have F_dNdV_a := F_dNdV_a.same W5
  have F_dNAtFreeVolume_a := F_dNAtFreeVolume_a.other W5 (Or.inr (slot_ne (t := (.array .double)) (t' := (.array .double)) (Or.inr (hw _ (List.mem_of_getElem? (i := 15) rfl))) (Or.inr (hw _ (List.mem_of_getElem? (i := 13) rfl))) (by decide) (by decide) (by decide)))
  have F_value_a := F_value_a.other W5 (Or.inr (slot_ne (t := .double) (t' := (.array .double)) (Or.inl (hw _ (List.mem_of_getElem? (i := 22) rfl))) (Or.inr (hw _ (List.mem_of_getElem? (i := 13) rfl))) (by decide) (by decide) (by decide)))
  have F_dV_a := F_dV_a.other W5 (Or.inr (slot_ne (t := .double) (t' := (.array .double)) (Or.inl (hw _ (List.mem_of_getElem? (i := 24) rfl))) (Or.inr (hw _ (List.mem_of_getElem? (i := 13) rfl))) (by decide) (by decide) (by decide)))
  have F_dV2_a := F_dV2_a.other W5 (Or.inr (slot_ne (t := .double) (t' := (.array .double)) (Or.inl (hw _ (List.mem_of_getElem? (i := 26) rfl))) (Or.inr (hw _ (List.mem_of_getElem? (i := 13) rfl))) (by decide) (by decide) (by decide)))
  have V_b0 := V_b0.other W5 (Ne.symm ne_a_b0)
  have V_b1 := V_b1.other W5 (Ne.symm ne_a_b1)
  have Z0 := Nat.le_trans Z0 (Nat.le_of_eq W5.size.symm)
  have K0 := K0.wr W5 (Or.inl (List.mem_singleton.mpr rfl))
  refine Goes.by (T' := T5) (g' := (mkF m 18 #[.val (.ref a), .val (.int (2 : Int32))] [])) st5 ?_
  refine Goes.by (T' := T5) (g' := (mkF m 19 #[.val (.ref a), .val (.int (2 : Int32))] [(.ref a)])) (fun _ k => XS.aloadN X5.here hx rfl (hb hby d1_18) rfl rfl k) ?_
  refine Goes.by (T' := T5) (g' := (mkF m 20 #[.val (.ref a), .val (.int (2 : Int32))] [(.int (2 : Int32)), (.ref a)])) (fun _ k => XS.iloadN X5.here hx rfl (hb hby d1_19) rfl k) ?_
  obtain ⟨T6, h6, k6, X6, e6, E6, A6, st6⟩ := newP X5 hx hZ (hw _ (List.mem_of_getElem? (i := 9) rfl)) e5 (g := (mkF m 20 #[.val (.ref a), .val (.int (2 : Int32))] [(.int (2 : Int32)), (.ref a)])) rfl (hb hby d1_20) rfl (by decide) (cap := 2) (by decide) (by decide) (by decide) (by decide)
  obtain ⟨b2, g6⟩ : ∃ z, z = h5.size := ⟨_, rfl⟩
  rw [← g6] at A6 st6
  have ne_a_b2 : a ≠ b2 := fun q => Nat.lt_irrefl _ (Nat.lt_of_lt_of_eq EA.lt (g6.symm.trans q.symm))
  have ne_b0_b2 : b0 ≠ b2 := fun q => Nat.lt_irrefl _ (Nat.lt_of_lt_of_eq V_b0.lt (g6.symm.trans q.symm))
  have ne_b1_b2 : b1 ≠ b2 := fun q => Nat.lt_irrefl _ (Nat.lt_of_lt_of_eq V_b1.lt (g6.symm.trans q.symm))
  have ge_b2 : n0 ≤ b2 := Nat.le_trans Z0 (Nat.le_of_eq g6.symm)
  have sz_b2 : h0.size ≤ b2 := Nat.le_trans K0.1 (Nat.le_of_eq g6.symm)
  have EA := EA.ext E6
  have F_dN_a := F_dN_a.ext E6
  have F_dNdV_a := F_dNdV_a.ext E6
  have F_dNAtFreeVolume_a := F_dNAtFreeVolume_a.ext E6
  have F_value_a := F_value_a.ext E6
  have F_dV_a := F_dV_a.ext E6
  have F_dV2_a := F_dV2_a.ext E6
  have V_b0 := V_b0.ext E6
  have V_b1 := V_b1.ext E6
  have Z0 := Nat.le_trans Z0 E6.1
  have K0 := K0.ext E6
  have V_b2 : Sar Z h6 b2 .double [(.double (0 : UInt64)), (.double (0 : UInt64))] := Sar.new (n := 2) A6 (by decide)
  refine Goes.by (T' := T6) (g' := (mkF m 22 #[.val (.ref a), .val (.int (2 : Int32))] [(.ref b2), (.ref a)])) st6 ?_
  obtain ⟨T7, h7, X7, e7, W7, st7⟩ := putF X6 hx hZ hown (host := "") (Or.inl (hw _ (List.mem_of_getElem? (i := 14) rfl))) Via.refl e6 F_dNAtFreeVolume_a EA (Or.inr ⟨(hw _ (List.mem_of_getElem? (i := 15) rfl)), rfl, hnm⟩) (hw _ (List.mem_of_getElem? (i := 1) rfl)) (ty := (.array .double)) (by decide) rfl rfl (g := (mkF m 22 #[.val (.ref a), .val (.int (2 : Int32))] [(.ref b2), (.ref a)])) rfl rfl (hb hby d1_22)
  have N0 := Fr.snoc X7 N0 ga
  have EA := EA.wr W7
  have F_dN_a := F_dN_a.other W7 (Or.inr (slot_ne (t := (.array .double)) (t' := (.array .double)) (Or.inr (hw _ (List.mem_of_getElem? (i := 11) rfl))) (Or.inr (hw _ (List.mem_of_getElem? (i := 15) rfl))) (by decide) (by decide) (by decide)))
  have F_dNdV_a := F_dNdV_a.other W7 (Or.inr (slot_ne (t := (.array .double)) (t' := (.array .double)) (Or.inr (hw _ (List.mem_of_getElem? (i := 13) rfl))) (Or.inr (hw _ (List.mem_of_getElem? (i := 15) rfl))) (by decide) (by decide) (by decide)))
  have F_dNAtFreeVolume_a := F_dNAtFreeVolume_a.same W7
  have F_value_a := F_value_a.other W7 (Or.inr (slot_ne (t := .double) (t' := (.array .double)) (Or.inl (hw _ (List.mem_of_getElem? (i := 22) rfl))) (Or.inr (hw _ (List.mem_of_getElem? (i := 15) rfl))) (by decide) (by decide) (by decide)))
  have F_dV_a := F_dV_a.other W7 (Or.inr (slot_ne (t := .double) (t' := (.array .double)) (Or.inl (hw _ (List.mem_of_getElem? (i := 24) rfl))) (Or.inr (hw _ (List.mem_of_getElem? (i := 15) rfl))) (by decide) (by decide) (by decide)))
  have F_dV2_a := F_dV2_a.other W7 (Or.inr (slot_ne (t := .double) (t' := (.array .double)) (Or.inl (hw _ (List.mem_of_getElem? (i := 26) rfl))) (Or.inr (hw _ (List.mem_of_getElem? (i := 15) rfl))) (by decide) (by decide) (by decide)))
  have V_b0 := V_b0.other W7 (Ne.symm ne_a_b0)
  have V_b1 := V_b1.other W7 (Ne.symm ne_a_b1)
  have V_b2 := V_b2.other W7 (Ne.symm ne_a_b2)
  have Z0 := Nat.le_trans Z0 (Nat.le_of_eq W7.size.symm)
  have K0 := K0.wr W7 (Or.inl (List.mem_singleton.mpr rfl))
  refine Goes.by (T' := T7) (g' := (mkF m 25 #[.val (.ref a), .val (.int (2 : Int32))] [])) st7 ?_
  exact outV X7 hx hlk hret (hb hby d1_25) (by rw [e7]; exact ⟨rfl, ⟨b0, b1, b2, sz_b0, sz_b1, sz_b2, F_dN_a, F_dNdV_a, F_dNAtFreeVolume_a, F_value_a, F_dV_a, F_dV2_a, V_b0, V_b1, V_b2, ne_b0_b1, ne_b0_b2, ne_b1_b2⟩, K0, N0⟩) (by decide) (by decide)
theorem d3_0 : decode prog_47_method_2_code 0 = .ok (.aload_n 0, 1) := by decide +kernel
theorem d3_1 : decode prog_47_method_2_code 1 = .ok (.dup, 1) := by decide +kernel
theorem d3_2 : decode prog_47_method_2_code 2 = .ok (.getfield 19, 3) := by decide +kernel
theorem d3_5 : decode prog_47_method_2_code 5 = .ok (.dload_n 1, 1) := by decide +kernel
theorem d3_6 : decode prog_47_method_2_code 6 = .ok (.dadd, 1) := by decide +kernel
theorem d3_7 : decode prog_47_method_2_code 7 = .ok (.putfield 19, 3) := by decide +kernel
theorem d3_10 : decode prog_47_method_2_code 10 = .ok (.aload_n 0, 1) := by decide +kernel
theorem d3_11 : decode prog_47_method_2_code 11 = .ok (.dup, 1) := by decide +kernel
theorem d3_12 : decode prog_47_method_2_code 12 = .ok (.getfield 23, 3) := by decide +kernel
theorem d3_15 : decode prog_47_method_2_code 15 = .ok (.dload_n 3, 1) := by decide +kernel
theorem d3_16 : decode prog_47_method_2_code 16 = .ok (.dadd, 1) := by decide +kernel
theorem d3_17 : decode prog_47_method_2_code 17 = .ok (.putfield 23, 3) := by decide +kernel
theorem d3_20 : decode prog_47_method_2_code 20 = .ok (.aload_n 0, 1) := by decide +kernel
theorem d3_21 : decode prog_47_method_2_code 21 = .ok (.dup, 1) := by decide +kernel
theorem d3_22 : decode prog_47_method_2_code 22 = .ok (.getfield 26, 3) := by decide +kernel
theorem d3_25 : decode prog_47_method_2_code 25 = .ok (.dload 5, 2) := by decide +kernel
theorem d3_27 : decode prog_47_method_2_code 27 = .ok (.dadd, 1) := by decide +kernel
theorem d3_28 : decode prog_47_method_2_code 28 = .ok (.putfield 26, 3) := by decide +kernel
theorem d3_31 : decode prog_47_method_2_code 31 = .ok (.return_, 1) := by decide +kernel
theorem pd1 : parseMethodDescriptor "(DDD)V" = some ⟨[.double, .double, .double], none⟩ := by decide +kernel
theorem ef_rm_add (m : MethodId) (x0 : Addr) (x1 : UInt64) (x2 : UInt64) (x3 : UInt64) : entryFrame m #[(.ref x0), (.double x1), (.double x2), (.double x3)] 7 = mkF m 0 #[.val (.ref x0), .val (.double x1), .second, .val (.double x2), .second, .val (.double x3), .second] [] := by first | (simp [entryFrame, mkF, argsToLocals, Value.category, maxLocals]; done) | rfl
set_option maxRecDepth 65536 in
set_option maxHeartbeats 40000000 in
theorem rm_add (l : Launch) (Z : State) (a0 : Array Value) (hw : ∀ d ∈ tables_1, d.before a0 Z = true) (a b0 b1 b2 : Addr) (u0 u1 u2 v0 v1 v2 : UInt64) (i0 i1 i2 j0 j1 j2 : Int) (h0 : Heap) (n0 : Nat) (Z0 : n0 ≤ h0.size) (EA : Exa Z h0 a "com/example/brinewright/brinewright/ResidualHelmholtz") (F_dN_a : Fld Z h0 a "com/example/brinewright/brinewright/ResidualHelmholtz" "dN" "[D" (.ref b0)) (F_dNdV_a : Fld Z h0 a "com/example/brinewright/brinewright/ResidualHelmholtz" "dNdV" "[D" (.ref b1)) (F_dNAtFreeVolume_a : Fld Z h0 a "com/example/brinewright/brinewright/ResidualHelmholtz" "dNAtFreeVolume" "[D" (.ref b2)) (F_value_a : Fld Z h0 a "com/example/brinewright/brinewright/ResidualHelmholtz" "value" "D" (.double u0)) (F_dV_a : Fld Z h0 a "com/example/brinewright/brinewright/ResidualHelmholtz" "dV" "D" (.double u1)) (F_dV2_a : Fld Z h0 a "com/example/brinewright/brinewright/ResidualHelmholtz" "dV2" "D" (.double u2)) (ga : n0 ≤ a) (I0 : Core.DInt i0 u0) (J0 : Core.DInt j0 v0) (bi0 : i0.natAbs ≤ 4294967296) (bj0 : j0.natAbs ≤ 4294967296) (I1 : Core.DInt i1 u1) (J1 : Core.DInt j1 v1) (bi1 : i1.natAbs ≤ 4294967296) (bj1 : j1.natAbs ≤ 4294967296) (I2 : Core.DInt i2 u2) (J2 : Core.DInt j2 v2) (bi2 : i2.natAbs ≤ 4294967296) (bj2 : j2.natAbs ≤ 4294967296)  :
    Does l (⟨"com/example/brinewright/brinewright/ResidualHelmholtz", "add", "(DDD)V"⟩ : MethodName) prog_47_method_2_code 7 none [] ({ frames := 0, cells := 0, slots := 0, locals := 0 } : Room) Z #[(.ref a), (.double v0), (.double v1), (.double v2)] h0 (fun v h L => v = none ∧ (∃ s0 s1 s2, Core.DInt (i0 + j0) s0 ∧ Core.DInt (i1 + j1) s1 ∧ Core.DInt (i2 + j2) s2 ∧ Fld Z h a "com/example/brinewright/brinewright/ResidualHelmholtz" "dN" "[D" (.ref b0) ∧ Fld Z h a "com/example/brinewright/brinewright/ResidualHelmholtz" "dNdV" "[D" (.ref b1) ∧ Fld Z h a "com/example/brinewright/brinewright/ResidualHelmholtz" "dNAtFreeVolume" "[D" (.ref b2) ∧ Fld Z h a "com/example/brinewright/brinewright/ResidualHelmholtz" "value" "D" (.double s0) ∧ Fld Z h a "com/example/brinewright/brinewright/ResidualHelmholtz" "dV" "D" (.double s1) ∧ Fld Z h a "com/example/brinewright/brinewright/ResidualHelmholtz" "dV2" "D" (.double s2)) ∧ Keep h0 h [a] ∧ Fr n0 L) := by
  refine Does.of (plainFor_of_name pn0) ?_
  intro p e s m below meth c s₁ hx hby hml hret hlk hZ hown hnm X0 e0
  have N0 := Fr.nil n0
  refine Goes.cast (g' := mkF m 0 #[.val (.ref a), .val (.double v0), .second, .val (.double v1), .second, .val (.double v2), .second] []) (ef_rm_add m a v0 v1 v2) ?_
  have K0 := Keep.refl h0 [a]
  refine Goes.by (T' := s₁) (g' := (mkF m 1 #[.val (.ref a), .val (.double v0), .second, .val (.double v1), .second, .val (.double v2), .second] [(.ref a)])) (fun _ k => XS.aloadN X0.here hx rfl (hb hby d3_0) rfl rfl k) ?_
  refine Goes.by (T' := s₁) (g' := (mkF m 2 #[.val (.ref a), .val (.double v0), .second, .val (.double v1), .second, .val (.double v2), .second] [(.ref a), (.ref a)])) (fun _ k => XS.dup X0.here hx rfl (hb hby d3_1) rfl rfl k) ?_
  obtain ⟨T8, X8, e8, st8⟩ := getF X0 hx hZ hown (host := "") (Or.inl (hw _ (List.mem_of_getElem? (i := 21) rfl))) Via.refl e0 F_value_a (g := (mkF m 2 #[.val (.ref a), .val (.double v0), .second, .val (.double v1), .second, .val (.double v2), .second] [(.ref a), (.ref a)])) rfl rfl (hb hby d3_2)
  refine Goes.by (T' := T8) (g' := (mkF m 5 #[.val (.ref a), .val (.double v0), .second, .val (.double v1), .second, .val (.double v2), .second] [(.double u0), (.ref a)])) st8 ?_
  refine Goes.by (T' := T8) (g' := (mkF m 6 #[.val (.ref a), .val (.double v0), .second, .val (.double v1), .second, .val (.double v2), .second] [(.double v0), (.double u0), (.ref a)])) (fun _ k => XS.dloadN X8.here hx rfl (hb hby d3_5) rfl k) ?_
  obtain ⟨s0, q_s0⟩ : ∃ zz, FP.dadd u0 v0 = zz := ⟨_, rfl⟩
  have DS0 := DInt_add q_s0 I0 J0 (by omega)
  refine Goes.by (T' := T8) (g' := (mkF m 7 #[.val (.ref a), .val (.double v0), .second, .val (.double v1), .second, .val (.double v2), .second] [(.double s0), (.ref a)])) (fun _ k => XS.daddS X8.here hx rfl (hb hby d3_6) rfl (by rw [q_s0]; exact DInt_nn DS0) q_s0 k) ?_
  obtain ⟨T9, h9, X9, e9, W9, st9⟩ := putF X8 hx hZ hown (host := "") (Or.inl (hw _ (List.mem_of_getElem? (i := 21) rfl))) Via.refl e8 F_value_a EA (Or.inl (hw _ (List.mem_of_getElem? (i := 22) rfl))) (hw _ (List.mem_of_getElem? (i := 1) rfl)) (ty := .double) (by decide) rfl rfl (g := (mkF m 7 #[.val (.ref a), .val (.double v0), .second, .val (.double v1), .second, .val (.double v2), .second] [(.double s0), (.ref a)])) rfl rfl (hb hby d3_7)
  have N0 := Fr.snoc X9 N0 ga
  have EA := EA.wr W9
  have F_value_a := F_value_a.same W9
  have F_dV_a := F_dV_a.other W9 (Or.inr (slot_ne (t := .double) (t' := .double) (Or.inl (hw _ (List.mem_of_getElem? (i := 24) rfl))) (Or.inl (hw _ (List.mem_of_getElem? (i := 22) rfl))) (by decide) (by decide) (by decide)))
  have F_dV2_a := F_dV2_a.other W9 (Or.inr (slot_ne (t := .double) (t' := .double) (Or.inl (hw _ (List.mem_of_getElem? (i := 26) rfl))) (Or.inl (hw _ (List.mem_of_getElem? (i := 22) rfl))) (by decide) (by decide) (by decide)))
  have F_dN_a := F_dN_a.other W9 (Or.inr (slot_ne (t := (.array .double)) (t' := .double) (Or.inr (hw _ (List.mem_of_getElem? (i := 11) rfl))) (Or.inl (hw _ (List.mem_of_getElem? (i := 22) rfl))) (by decide) (by decide) (by decide)))
  have F_dNdV_a := F_dNdV_a.other W9 (Or.inr (slot_ne (t := (.array .double)) (t' := .double) (Or.inr (hw _ (List.mem_of_getElem? (i := 13) rfl))) (Or.inl (hw _ (List.mem_of_getElem? (i := 22) rfl))) (by decide) (by decide) (by decide)))
  have F_dNAtFreeVolume_a := F_dNAtFreeVolume_a.other W9 (Or.inr (slot_ne (t := (.array .double)) (t' := .double) (Or.inr (hw _ (List.mem_of_getElem? (i := 15) rfl))) (Or.inl (hw _ (List.mem_of_getElem? (i := 22) rfl))) (by decide) (by decide) (by decide)))
  have Z0 := Nat.le_trans Z0 (Nat.le_of_eq W9.size.symm)
  have K0 := K0.wr W9 (Or.inl (List.mem_singleton.mpr rfl))
  refine Goes.by (T' := T9) (g' := (mkF m 10 #[.val (.ref a), .val (.double v0), .second, .val (.double v1), .second, .val (.double v2), .second] [])) st9 ?_
  refine Goes.by (T' := T9) (g' := (mkF m 11 #[.val (.ref a), .val (.double v0), .second, .val (.double v1), .second, .val (.double v2), .second] [(.ref a)])) (fun _ k => XS.aloadN X9.here hx rfl (hb hby d3_10) rfl rfl k) ?_
  refine Goes.by (T' := T9) (g' := (mkF m 12 #[.val (.ref a), .val (.double v0), .second, .val (.double v1), .second, .val (.double v2), .second] [(.ref a), (.ref a)])) (fun _ k => XS.dup X9.here hx rfl (hb hby d3_11) rfl rfl k) ?_
  obtain ⟨T10, X10, e10, st10⟩ := getF X9 hx hZ hown (host := "") (Or.inl (hw _ (List.mem_of_getElem? (i := 23) rfl))) Via.refl e9 F_dV_a (g := (mkF m 12 #[.val (.ref a), .val (.double v0), .second, .val (.double v1), .second, .val (.double v2), .second] [(.ref a), (.ref a)])) rfl rfl (hb hby d3_12)
  refine Goes.by (T' := T10) (g' := (mkF m 15 #[.val (.ref a), .val (.double v0), .second, .val (.double v1), .second, .val (.double v2), .second] [(.double u1), (.ref a)])) st10 ?_
  refine Goes.by (T' := T10) (g' := (mkF m 16 #[.val (.ref a), .val (.double v0), .second, .val (.double v1), .second, .val (.double v2), .second] [(.double v1), (.double u1), (.ref a)])) (fun _ k => XS.dloadN X10.here hx rfl (hb hby d3_15) rfl k) ?_
  obtain ⟨s1, q_s1⟩ : ∃ zz, FP.dadd u1 v1 = zz := ⟨_, rfl⟩
  have DS1 := DInt_add q_s1 I1 J1 (by omega)
  refine Goes.by (T' := T10) (g' := (mkF m 17 #[.val (.ref a), .val (.double v0), .second, .val (.double v1), .second, .val (.double v2), .second] [(.double s1), (.ref a)])) (fun _ k => XS.daddS X10.here hx rfl (hb hby d3_16) rfl (by rw [q_s1]; exact DInt_nn DS1) q_s1 k) ?_
  obtain ⟨T11, h11, X11, e11, W11, st11⟩ := putF X10 hx hZ hown (host := "") (Or.inl (hw _ (List.mem_of_getElem? (i := 23) rfl))) Via.refl e10 F_dV_a EA (Or.inl (hw _ (List.mem_of_getElem? (i := 24) rfl))) (hw _ (List.mem_of_getElem? (i := 1) rfl)) (ty := .double) (by decide) rfl rfl (g := (mkF m 17 #[.val (.ref a), .val (.double v0), .second, .val (.double v1), .second, .val (.double v2), .second] [(.double s1), (.ref a)])) rfl rfl (hb hby d3_17)
  have N0 := Fr.snoc X11 N0 ga
  have EA := EA.wr W11
  have F_value_a := F_value_a.other W11 (Or.inr (slot_ne (t := .double) (t' := .double) (Or.inl (hw _ (List.mem_of_getElem? (i := 22) rfl))) (Or.inl (hw _ (List.mem_of_getElem? (i := 24) rfl))) (by decide) (by decide) (by decide)))
  have F_dV_a := F_dV_a.same W11
  have F_dV2_a := F_dV2_a.other W11 (Or.inr (slot_ne (t := .double) (t' := .double) (Or.inl (hw _ (List.mem_of_getElem? (i := 26) rfl))) (Or.inl (hw _ (List.mem_of_getElem? (i := 24) rfl))) (by decide) (by decide) (by decide)))
  have F_dN_a := F_dN_a.other W11 (Or.inr (slot_ne (t := (.array .double)) (t' := .double) (Or.inr (hw _ (List.mem_of_getElem? (i := 11) rfl))) (Or.inl (hw _ (List.mem_of_getElem? (i := 24) rfl))) (by decide) (by decide) (by decide)))
  have F_dNdV_a := F_dNdV_a.other W11 (Or.inr (slot_ne (t := (.array .double)) (t' := .double) (Or.inr (hw _ (List.mem_of_getElem? (i := 13) rfl))) (Or.inl (hw _ (List.mem_of_getElem? (i := 24) rfl))) (by decide) (by decide) (by decide)))
  have F_dNAtFreeVolume_a := F_dNAtFreeVolume_a.other W11 (Or.inr (slot_ne (t := (.array .double)) (t' := .double) (Or.inr (hw _ (List.mem_of_getElem? (i := 15) rfl))) (Or.inl (hw _ (List.mem_of_getElem? (i := 24) rfl))) (by decide) (by decide) (by decide)))
  have Z0 := Nat.le_trans Z0 (Nat.le_of_eq W11.size.symm)
  have K0 := K0.wr W11 (Or.inl (List.mem_singleton.mpr rfl))
  refine Goes.by (T' := T11) (g' := (mkF m 20 #[.val (.ref a), .val (.double v0), .second, .val (.double v1), .second, .val (.double v2), .second] [])) st11 ?_
  refine Goes.by (T' := T11) (g' := (mkF m 21 #[.val (.ref a), .val (.double v0), .second, .val (.double v1), .second, .val (.double v2), .second] [(.ref a)])) (fun _ k => XS.aloadN X11.here hx rfl (hb hby d3_20) rfl rfl k) ?_
  refine Goes.by (T' := T11) (g' := (mkF m 22 #[.val (.ref a), .val (.double v0), .second, .val (.double v1), .second, .val (.double v2), .second] [(.ref a), (.ref a)])) (fun _ k => XS.dup X11.here hx rfl (hb hby d3_21) rfl rfl k) ?_
  obtain ⟨T12, X12, e12, st12⟩ := getF X11 hx hZ hown (host := "") (Or.inl (hw _ (List.mem_of_getElem? (i := 25) rfl))) Via.refl e11 F_dV2_a (g := (mkF m 22 #[.val (.ref a), .val (.double v0), .second, .val (.double v1), .second, .val (.double v2), .second] [(.ref a), (.ref a)])) rfl rfl (hb hby d3_22)
  refine Goes.by (T' := T12) (g' := (mkF m 25 #[.val (.ref a), .val (.double v0), .second, .val (.double v1), .second, .val (.double v2), .second] [(.double u2), (.ref a)])) st12 ?_
  refine Goes.by (T' := T12) (g' := (mkF m 27 #[.val (.ref a), .val (.double v0), .second, .val (.double v1), .second, .val (.double v2), .second] [(.double v2), (.double u2), (.ref a)])) (fun _ k => XS.dload X12.here hx rfl (hb hby d3_25) rfl k) ?_
  obtain ⟨s2, q_s2⟩ : ∃ zz, FP.dadd u2 v2 = zz := ⟨_, rfl⟩
  have DS2 := DInt_add q_s2 I2 J2 (by omega)
  refine Goes.by (T' := T12) (g' := (mkF m 28 #[.val (.ref a), .val (.double v0), .second, .val (.double v1), .second, .val (.double v2), .second] [(.double s2), (.ref a)])) (fun _ k => XS.daddS X12.here hx rfl (hb hby d3_27) rfl (by rw [q_s2]; exact DInt_nn DS2) q_s2 k) ?_
  obtain ⟨T13, h13, X13, e13, W13, st13⟩ := putF X12 hx hZ hown (host := "") (Or.inl (hw _ (List.mem_of_getElem? (i := 25) rfl))) Via.refl e12 F_dV2_a EA (Or.inl (hw _ (List.mem_of_getElem? (i := 26) rfl))) (hw _ (List.mem_of_getElem? (i := 1) rfl)) (ty := .double) (by decide) rfl rfl (g := (mkF m 28 #[.val (.ref a), .val (.double v0), .second, .val (.double v1), .second, .val (.double v2), .second] [(.double s2), (.ref a)])) rfl rfl (hb hby d3_28)
  have N0 := Fr.snoc X13 N0 ga
  have EA := EA.wr W13
  have F_value_a := F_value_a.other W13 (Or.inr (slot_ne (t := .double) (t' := .double) (Or.inl (hw _ (List.mem_of_getElem? (i := 22) rfl))) (Or.inl (hw _ (List.mem_of_getElem? (i := 26) rfl))) (by decide) (by decide) (by decide)))
  have F_dV_a := F_dV_a.other W13 (Or.inr (slot_ne (t := .double) (t' := .double) (Or.inl (hw _ (List.mem_of_getElem? (i := 24) rfl))) (Or.inl (hw _ (List.mem_of_getElem? (i := 26) rfl))) (by decide) (by decide) (by decide)))
  have F_dV2_a := F_dV2_a.same W13
  have F_dN_a := F_dN_a.other W13 (Or.inr (slot_ne (t := (.array .double)) (t' := .double) (Or.inr (hw _ (List.mem_of_getElem? (i := 11) rfl))) (Or.inl (hw _ (List.mem_of_getElem? (i := 26) rfl))) (by decide) (by decide) (by decide)))
  have F_dNdV_a := F_dNdV_a.other W13 (Or.inr (slot_ne (t := (.array .double)) (t' := .double) (Or.inr (hw _ (List.mem_of_getElem? (i := 13) rfl))) (Or.inl (hw _ (List.mem_of_getElem? (i := 26) rfl))) (by decide) (by decide) (by decide)))
  have F_dNAtFreeVolume_a := F_dNAtFreeVolume_a.other W13 (Or.inr (slot_ne (t := (.array .double)) (t' := .double) (Or.inr (hw _ (List.mem_of_getElem? (i := 15) rfl))) (Or.inl (hw _ (List.mem_of_getElem? (i := 26) rfl))) (by decide) (by decide) (by decide)))
  have Z0 := Nat.le_trans Z0 (Nat.le_of_eq W13.size.symm)
  have K0 := K0.wr W13 (Or.inl (List.mem_singleton.mpr rfl))
  refine Goes.by (T' := T13) (g' := (mkF m 31 #[.val (.ref a), .val (.double v0), .second, .val (.double v1), .second, .val (.double v2), .second] [])) st13 ?_
  exact outV X13 hx hlk hret (hb hby d3_31) (by rw [e13]; exact ⟨rfl, ⟨s0, s1, s2, DS0, DS1, DS2, F_dN_a, F_dNdV_a, F_dNAtFreeVolume_a, F_value_a, F_dV_a, F_dV2_a⟩, K0, N0⟩) (by decide) (by decide)
theorem d4_0 : decode prog_47_method_4_code 0 = .ok (.aload_n 0, 1) := by decide +kernel
theorem d4_1 : decode prog_47_method_4_code 1 = .ok (.getfield 19, 3) := by decide +kernel
theorem d4_4 : decode prog_47_method_4_code 4 = .ok (.dreturn, 1) := by decide +kernel
theorem pd2 : parseMethodDescriptor "()D" = some ⟨[], some .double⟩ := by decide +kernel
theorem ef_rm_value (m : MethodId) (x0 : Addr) : entryFrame m #[(.ref x0)] 1 = mkF m 0 #[.val (.ref x0)] [] := by first | (simp [entryFrame, mkF, argsToLocals, Value.category, maxLocals]; done) | rfl
set_option maxRecDepth 65536 in
set_option maxHeartbeats 40000000 in
theorem rm_value (l : Launch) (Z : State) (a0 : Array Value) (hw : ∀ d ∈ tables_1, d.before a0 Z = true) (a : Addr) (u : UInt64) (h0 : Heap) (n0 : Nat) (Z0 : n0 ≤ h0.size) (F1 : Fld Z h0 a "com/example/brinewright/brinewright/ResidualHelmholtz" "value" "D" (.double u)) :
    Does l (⟨"com/example/brinewright/brinewright/ResidualHelmholtz", "value", "()D"⟩ : MethodName) prog_47_method_4_code 1 (some .double) [] ({ frames := 0, cells := 0, slots := 0, locals := 0 } : Room) Z #[(.ref a)] h0 (fun v h L => v = some (.double u) ∧ Fr n0 L ∧ h = h0) := by
  refine Does.of (plainFor_of_name pn0) ?_
  intro p e s m below meth c s₁ hx hby hml hret hlk hZ hown hnm X0 e0
  have N0 := Fr.nil n0
  refine Goes.cast (g' := mkF m 0 #[.val (.ref a)] []) (ef_rm_value m a) ?_
  refine Goes.by (T' := s₁) (g' := (mkF m 1 #[.val (.ref a)] [(.ref a)])) (fun _ k => XS.aloadN X0.here hx rfl (hb hby d4_0) rfl rfl k) ?_
  obtain ⟨T14, X14, e14, st14⟩ := getF X0 hx hZ hown (host := "") (Or.inl (hw _ (List.mem_of_getElem? (i := 21) rfl))) Via.refl e0 F1 (g := (mkF m 1 #[.val (.ref a)] [(.ref a)])) rfl rfl (hb hby d4_1)
  refine Goes.by (T' := T14) (g' := (mkF m 4 #[.val (.ref a)] [(.double u)])) st14 ?_
  exact outD X14 hx hlk hret (hb hby d4_4) (by rw [e14]; exact ⟨rfl, N0, rfl⟩) (by decide) (by decide)
theorem d5_0 : decode prog_47_method_5_code 0 = .ok (.aload_n 0, 1) := by decide +kernel
theorem d5_1 : decode prog_47_method_5_code 1 = .ok (.getfield 23, 3) := by decide +kernel
theorem d5_4 : decode prog_47_method_5_code 4 = .ok (.dreturn, 1) := by decide +kernel
theorem ef_rm_dV (m : MethodId) (x0 : Addr) : entryFrame m #[(.ref x0)] 1 = mkF m 0 #[.val (.ref x0)] [] := by first | (simp [entryFrame, mkF, argsToLocals, Value.category, maxLocals]; done) | rfl
set_option maxRecDepth 65536 in
set_option maxHeartbeats 40000000 in
theorem rm_dV (l : Launch) (Z : State) (a0 : Array Value) (hw : ∀ d ∈ tables_1, d.before a0 Z = true) (a : Addr) (u : UInt64) (h0 : Heap) (n0 : Nat) (Z0 : n0 ≤ h0.size) (F1 : Fld Z h0 a "com/example/brinewright/brinewright/ResidualHelmholtz" "dV" "D" (.double u)) :
    Does l (⟨"com/example/brinewright/brinewright/ResidualHelmholtz", "dV", "()D"⟩ : MethodName) prog_47_method_5_code 1 (some .double) [] ({ frames := 0, cells := 0, slots := 0, locals := 0 } : Room) Z #[(.ref a)] h0 (fun v h L => v = some (.double u) ∧ Fr n0 L ∧ h = h0) := by
  refine Does.of (plainFor_of_name pn0) ?_
  intro p e s m below meth c s₁ hx hby hml hret hlk hZ hown hnm X0 e0
  have N0 := Fr.nil n0
  refine Goes.cast (g' := mkF m 0 #[.val (.ref a)] []) (ef_rm_dV m a) ?_
  refine Goes.by (T' := s₁) (g' := (mkF m 1 #[.val (.ref a)] [(.ref a)])) (fun _ k => XS.aloadN X0.here hx rfl (hb hby d5_0) rfl rfl k) ?_
  obtain ⟨T15, X15, e15, st15⟩ := getF X0 hx hZ hown (host := "") (Or.inl (hw _ (List.mem_of_getElem? (i := 23) rfl))) Via.refl e0 F1 (g := (mkF m 1 #[.val (.ref a)] [(.ref a)])) rfl rfl (hb hby d5_1)
  refine Goes.by (T' := T15) (g' := (mkF m 4 #[.val (.ref a)] [(.double u)])) st15 ?_
  exact outD X15 hx hlk hret (hb hby d5_4) (by rw [e15]; exact ⟨rfl, N0, rfl⟩) (by decide) (by decide)
theorem d6_0 : decode prog_47_method_6_code 0 = .ok (.aload_n 0, 1) := by decide +kernel
theorem d6_1 : decode prog_47_method_6_code 1 = .ok (.getfield 26, 3) := by decide +kernel
theorem d6_4 : decode prog_47_method_6_code 4 = .ok (.dreturn, 1) := by decide +kernel
theorem ef_rm_dV2 (m : MethodId) (x0 : Addr) : entryFrame m #[(.ref x0)] 1 = mkF m 0 #[.val (.ref x0)] [] := by first | (simp [entryFrame, mkF, argsToLocals, Value.category, maxLocals]; done) | rfl
set_option maxRecDepth 65536 in
set_option maxHeartbeats 40000000 in
theorem rm_dV2 (l : Launch) (Z : State) (a0 : Array Value) (hw : ∀ d ∈ tables_1, d.before a0 Z = true) (a : Addr) (u : UInt64) (h0 : Heap) (n0 : Nat) (Z0 : n0 ≤ h0.size) (F1 : Fld Z h0 a "com/example/brinewright/brinewright/ResidualHelmholtz" "dV2" "D" (.double u)) :
    Does l (⟨"com/example/brinewright/brinewright/ResidualHelmholtz", "dV2", "()D"⟩ : MethodName) prog_47_method_6_code 1 (some .double) [] ({ frames := 0, cells := 0, slots := 0, locals := 0 } : Room) Z #[(.ref a)] h0 (fun v h L => v = some (.double u) ∧ Fr n0 L ∧ h = h0) := by
  refine Does.of (plainFor_of_name pn0) ?_
  intro p e s m below meth c s₁ hx hby hml hret hlk hZ hown hnm X0 e0
  have N0 := Fr.nil n0
  refine Goes.cast (g' := mkF m 0 #[.val (.ref a)] []) (ef_rm_dV2 m a) ?_
  refine Goes.by (T' := s₁) (g' := (mkF m 1 #[.val (.ref a)] [(.ref a)])) (fun _ k => XS.aloadN X0.here hx rfl (hb hby d6_0) rfl rfl k) ?_
  obtain ⟨T16, X16, e16, st16⟩ := getF X0 hx hZ hown (host := "") (Or.inl (hw _ (List.mem_of_getElem? (i := 25) rfl))) Via.refl e0 F1 (g := (mkF m 1 #[.val (.ref a)] [(.ref a)])) rfl rfl (hb hby d6_1)
  refine Goes.by (T' := T16) (g' := (mkF m 4 #[.val (.ref a)] [(.double u)])) st16 ?_
  exact outD X16 hx hlk hret (hb hby d6_4) (by rw [e16]; exact ⟨rfl, N0, rfl⟩) (by decide) (by decide)
theorem d7_0 : decode prog_47_method_7_code 0 = .ok (.aload_n 0, 1) := by decide +kernel
theorem d7_1 : decode prog_47_method_7_code 1 = .ok (.getfield 7, 3) := by decide +kernel
theorem d7_4 : decode prog_47_method_7_code 4 = .ok (.iload_n 1, 1) := by decide +kernel
theorem d7_5 : decode prog_47_method_7_code 5 = .ok (.daload, 1) := by decide +kernel
theorem d7_6 : decode prog_47_method_7_code 6 = .ok (.dreturn, 1) := by decide +kernel
theorem pd3 : parseMethodDescriptor "(I)D" = some ⟨[.int], some .double⟩ := by decide +kernel
theorem ef_rm_dN (m : MethodId) (x0 : Addr) (x1 : Int32) : entryFrame m #[(.ref x0), (.int x1)] 2 = mkF m 0 #[.val (.ref x0), .val (.int x1)] [] := by first | (simp [entryFrame, mkF, argsToLocals, Value.category, maxLocals]; done) | rfl
set_option maxRecDepth 65536 in
set_option maxHeartbeats 40000000 in
theorem rm_dN (l : Launch) (Z : State) (a0 : Array Value) (hw : ∀ d ∈ tables_1, d.before a0 Z = true) (a b : Addr) (i : Int32) (us : List Value) (k : Nat) (u : UInt64) (h0 : Heap) (n0 : Nat) (Z0 : n0 ≤ h0.size) (F1 : Fld Z h0 a "com/example/brinewright/brinewright/ResidualHelmholtz" "dN" "[D" (.ref b)) (V1 : Sar Z h0 b .double us) (hk : i.toInt = k) (hu : us[k]? = some (.double u)) :
    Does l (⟨"com/example/brinewright/brinewright/ResidualHelmholtz", "dN", "(I)D"⟩ : MethodName) prog_47_method_7_code 2 (some .double) [] ({ frames := 0, cells := 0, slots := 0, locals := 0 } : Room) Z #[(.ref a), (.int i)] h0 (fun v h L => v = some (.double u) ∧ Fr n0 L ∧ h = h0) := by
  refine Does.of (plainFor_of_name pn0) ?_
  intro p e s m below meth c s₁ hx hby hml hret hlk hZ hown hnm X0 e0
  have N0 := Fr.nil n0
  refine Goes.cast (g' := mkF m 0 #[.val (.ref a), .val (.int i)] []) (ef_rm_dN m a i) ?_
  refine Goes.by (T' := s₁) (g' := (mkF m 1 #[.val (.ref a), .val (.int i)] [(.ref a)])) (fun _ k => XS.aloadN X0.here hx rfl (hb hby d7_0) rfl rfl k) ?_
  obtain ⟨T17, X17, e17, st17⟩ := getF X0 hx hZ hown (host := "") (Or.inl (hw _ (List.mem_of_getElem? (i := 10) rfl))) Via.refl e0 F1 (g := (mkF m 1 #[.val (.ref a), .val (.int i)] [(.ref a)])) rfl rfl (hb hby d7_1)
  refine Goes.by (T' := T17) (g' := (mkF m 4 #[.val (.ref a), .val (.int i)] [(.ref b)])) st17 ?_
  refine Goes.by (T' := T17) (g' := (mkF m 5 #[.val (.ref a), .val (.int i)] [(.int i), (.ref b)])) (fun _ k => XS.iloadN X17.here hx rfl (hb hby d7_4) rfl k) ?_
  refine Goes.by (T' := T17) (g' := (mkF m 6 #[.val (.ref a), .val (.int i)] [(.double u)])) (ldDS X17 hx hZ e17 V1 (v := (.double u)) (j := i) k hk hu (g := (mkF m 5 #[.val (.ref a), .val (.int i)] [(.int i), (.ref b)])) rfl rfl (hb hby d7_5)) ?_
  exact outD X17 hx hlk hret (hb hby d7_6) (by rw [e17]; exact ⟨rfl, N0, rfl⟩) (by decide) (by decide)
theorem d8_0 : decode prog_47_method_8_code 0 = .ok (.aload_n 0, 1) := by decide +kernel
theorem d8_1 : decode prog_47_method_8_code 1 = .ok (.getfield 13, 3) := by decide +kernel
theorem d8_4 : decode prog_47_method_8_code 4 = .ok (.iload_n 1, 1) := by decide +kernel
theorem d8_5 : decode prog_47_method_8_code 5 = .ok (.daload, 1) := by decide +kernel
theorem d8_6 : decode prog_47_method_8_code 6 = .ok (.dreturn, 1) := by decide +kernel
theorem ef_rm_dNdV (m : MethodId) (x0 : Addr) (x1 : Int32) : entryFrame m #[(.ref x0), (.int x1)] 2 = mkF m 0 #[.val (.ref x0), .val (.int x1)] [] := by first | (simp [entryFrame, mkF, argsToLocals, Value.category, maxLocals]; done) | rfl
set_option maxRecDepth 65536 in
set_option maxHeartbeats 40000000 in
theorem rm_dNdV (l : Launch) (Z : State) (a0 : Array Value) (hw : ∀ d ∈ tables_1, d.before a0 Z = true) (a b : Addr) (i : Int32) (us : List Value) (k : Nat) (u : UInt64) (h0 : Heap) (n0 : Nat) (Z0 : n0 ≤ h0.size) (F1 : Fld Z h0 a "com/example/brinewright/brinewright/ResidualHelmholtz" "dNdV" "[D" (.ref b)) (V1 : Sar Z h0 b .double us) (hk : i.toInt = k) (hu : us[k]? = some (.double u)) :
    Does l (⟨"com/example/brinewright/brinewright/ResidualHelmholtz", "dNdV", "(I)D"⟩ : MethodName) prog_47_method_8_code 2 (some .double) [] ({ frames := 0, cells := 0, slots := 0, locals := 0 } : Room) Z #[(.ref a), (.int i)] h0 (fun v h L => v = some (.double u) ∧ Fr n0 L ∧ h = h0) := by
  refine Does.of (plainFor_of_name pn0) ?_
  intro p e s m below meth c s₁ hx hby hml hret hlk hZ hown hnm X0 e0
  have N0 := Fr.nil n0
  refine Goes.cast (g' := mkF m 0 #[.val (.ref a), .val (.int i)] []) (ef_rm_dNdV m a i) ?_
  refine Goes.by (T' := s₁) (g' := (mkF m 1 #[.val (.ref a), .val (.int i)] [(.ref a)])) (fun _ k => XS.aloadN X0.here hx rfl (hb hby d8_0) rfl rfl k) ?_
  obtain ⟨T18, X18, e18, st18⟩ := getF X0 hx hZ hown (host := "") (Or.inl (hw _ (List.mem_of_getElem? (i := 12) rfl))) Via.refl e0 F1 (g := (mkF m 1 #[.val (.ref a), .val (.int i)] [(.ref a)])) rfl rfl (hb hby d8_1)
  refine Goes.by (T' := T18) (g' := (mkF m 4 #[.val (.ref a), .val (.int i)] [(.ref b)])) st18 ?_
  refine Goes.by (T' := T18) (g' := (mkF m 5 #[.val (.ref a), .val (.int i)] [(.int i), (.ref b)])) (fun _ k => XS.iloadN X18.here hx rfl (hb hby d8_4) rfl k) ?_
  refine Goes.by (T' := T18) (g' := (mkF m 6 #[.val (.ref a), .val (.int i)] [(.double u)])) (ldDS X18 hx hZ e18 V1 (v := (.double u)) (j := i) k hk hu (g := (mkF m 5 #[.val (.ref a), .val (.int i)] [(.int i), (.ref b)])) rfl rfl (hb hby d8_5)) ?_
  exact outD X18 hx hlk hret (hb hby d8_6) (by rw [e18]; exact ⟨rfl, N0, rfl⟩) (by decide) (by decide)
theorem d9_0 : decode prog_47_method_9_code 0 = .ok (.aload_n 0, 1) := by decide +kernel
theorem d9_1 : decode prog_47_method_9_code 1 = .ok (.getfield 16, 3) := by decide +kernel
theorem d9_4 : decode prog_47_method_9_code 4 = .ok (.iload_n 1, 1) := by decide +kernel
theorem d9_5 : decode prog_47_method_9_code 5 = .ok (.daload, 1) := by decide +kernel
theorem d9_6 : decode prog_47_method_9_code 6 = .ok (.dreturn, 1) := by decide +kernel
theorem ef_rm_dNAtFreeVolume (m : MethodId) (x0 : Addr) (x1 : Int32) : entryFrame m #[(.ref x0), (.int x1)] 2 = mkF m 0 #[.val (.ref x0), .val (.int x1)] [] := by first | (simp [entryFrame, mkF, argsToLocals, Value.category, maxLocals]; done) | rfl
set_option maxRecDepth 65536 in
set_option maxHeartbeats 40000000 in
theorem rm_dNAtFreeVolume (l : Launch) (Z : State) (a0 : Array Value) (hw : ∀ d ∈ tables_1, d.before a0 Z = true) (a b : Addr) (i : Int32) (us : List Value) (k : Nat) (u : UInt64) (h0 : Heap) (n0 : Nat) (Z0 : n0 ≤ h0.size) (F1 : Fld Z h0 a "com/example/brinewright/brinewright/ResidualHelmholtz" "dNAtFreeVolume" "[D" (.ref b)) (V1 : Sar Z h0 b .double us) (hk : i.toInt = k) (hu : us[k]? = some (.double u)) :
    Does l (⟨"com/example/brinewright/brinewright/ResidualHelmholtz", "dNAtFreeVolume", "(I)D"⟩ : MethodName) prog_47_method_9_code 2 (some .double) [] ({ frames := 0, cells := 0, slots := 0, locals := 0 } : Room) Z #[(.ref a), (.int i)] h0 (fun v h L => v = some (.double u) ∧ Fr n0 L ∧ h = h0) := by
  refine Does.of (plainFor_of_name pn0) ?_
  intro p e s m below meth c s₁ hx hby hml hret hlk hZ hown hnm X0 e0
  have N0 := Fr.nil n0
  refine Goes.cast (g' := mkF m 0 #[.val (.ref a), .val (.int i)] []) (ef_rm_dNAtFreeVolume m a i) ?_
  refine Goes.by (T' := s₁) (g' := (mkF m 1 #[.val (.ref a), .val (.int i)] [(.ref a)])) (fun _ k => XS.aloadN X0.here hx rfl (hb hby d9_0) rfl rfl k) ?_
  obtain ⟨T19, X19, e19, st19⟩ := getF X0 hx hZ hown (host := "") (Or.inl (hw _ (List.mem_of_getElem? (i := 14) rfl))) Via.refl e0 F1 (g := (mkF m 1 #[.val (.ref a), .val (.int i)] [(.ref a)])) rfl rfl (hb hby d9_1)
  refine Goes.by (T' := T19) (g' := (mkF m 4 #[.val (.ref a), .val (.int i)] [(.ref b)])) st19 ?_
  refine Goes.by (T' := T19) (g' := (mkF m 5 #[.val (.ref a), .val (.int i)] [(.int i), (.ref b)])) (fun _ k => XS.iloadN X19.here hx rfl (hb hby d9_4) rfl k) ?_
  refine Goes.by (T' := T19) (g' := (mkF m 6 #[.val (.ref a), .val (.int i)] [(.double u)])) (ldDS X19 hx hZ e19 V1 (v := (.double u)) (j := i) k hk hu (g := (mkF m 5 #[.val (.ref a), .val (.int i)] [(.int i), (.ref b)])) rfl rfl (hb hby d9_5)) ?_
  exact outD X19 hx hlk hret (hb hby d9_6) (by rw [e19]; exact ⟨rfl, N0, rfl⟩) (by decide) (by decide)
theorem pn1 : plainName "com/example/brinewright/brinewright/ResidualHelmholtzAddPinLaw" = true := by first | (simp [plainName, overriddenIn]; done) | decide +kernel
theorem ef_rm_law (m : MethodId) (x0 : Int32) (x1 : Int32) (x2 : Int32) (x3 : Int32) (x4 : Int32) (x5 : Int32) : entryFrame m #[(.int x0), (.int x1), (.int x2), (.int x3), (.int x4), (.int x5)] maxLocals = mkF m 0 #[.val (.int x0), .val (.int x1), .val (.int x2), .val (.int x3), .val (.int x4), .val (.int x5), .unset, .unset, .unset, .unset, .unset, .unset, .unset, .unset, .unset] [] := by first | (simp [entryFrame, mkF, argsToLocals, Value.category, maxLocals]; done) | rfl
set_option maxRecDepth 65536 in
set_option maxHeartbeats 40000000 in
theorem rm_law (l : Launch) (Z : State) (a0 : Array Value) (hw : ∀ d ∈ tables_1, d.before a0 Z = true) (x0 x1 x2 x3 x4 x5 : Int32) (h0 : Heap) (n0 : Nat) (Z0 : n0 ≤ h0.size)  :
    Does l x code maxLocals ret tables_1 room_1 Z #[(.int x0), (.int x1), (.int x2), (.int x3), (.int x4), (.int x5)] h0 (fun v h L => v = some (.int 1) ∧ Fr n0 L) := by
  refine Does.of (plainFor_of_name pn1) ?_
  intro p e s m below meth c s₁ hx hby hml hret hlk hZ hown hnm X0 e0
  have N0 := Fr.nil n0
  refine Goes.cast (g' := mkF m 0 #[.val (.int x0), .val (.int x1), .val (.int x2), .val (.int x3), .val (.int x4), .val (.int x5), .unset, .unset, .unset, .unset, .unset, .unset, .unset, .unset, .unset] []) (ef_rm_law m x0 x1 x2 x3 x4 x5) ?_
  obtain ⟨T20, h20, X20, e20, E20, A20, D20, -, st20⟩ := newO X0 hx hZ hown (hw _ (List.mem_of_getElem? (i := 0) rfl)) (hw _ (List.mem_of_getElem? (i := 1) rfl)) (hw _ (List.mem_of_getElem? (i := 2) rfl)) e0 (g := (mkF m 0 #[.val (.int x0), .val (.int x1), .val (.int x2), .val (.int x3), .val (.int x4), .val (.int x5), .unset, .unset, .unset, .unset, .unset, .unset, .unset, .unset, .unset] [])) rfl (hb hby at_0) (by decide) (by decide)
  obtain ⟨a, g20⟩ : ∃ z, z = h0.size := ⟨_, rfl⟩
  rw [← g20] at A20 D20 st20
  have ge_a : n0 ≤ a := Nat.le_trans Z0 (Nat.le_of_eq g20.symm)
  have Z0 := Nat.le_trans Z0 E20.1
  have E_a := A20
  have F_dN_a : Fld Z h20 a "com/example/brinewright/brinewright/ResidualHelmholtz" "dN" "[D" .null := D20 (Or.inr (hw _ (List.mem_of_getElem? (i := 11) rfl))) (ty := (.array .double)) (by decide)
  have F_dNdV_a : Fld Z h20 a "com/example/brinewright/brinewright/ResidualHelmholtz" "dNdV" "[D" .null := D20 (Or.inr (hw _ (List.mem_of_getElem? (i := 13) rfl))) (ty := (.array .double)) (by decide)
  have F_dNAtFreeVolume_a : Fld Z h20 a "com/example/brinewright/brinewright/ResidualHelmholtz" "dNAtFreeVolume" "[D" .null := D20 (Or.inr (hw _ (List.mem_of_getElem? (i := 15) rfl))) (ty := (.array .double)) (by decide)
  have F_value_a : Fld Z h20 a "com/example/brinewright/brinewright/ResidualHelmholtz" "value" "D" (.double (0 : UInt64)) := D20 (Or.inl (hw _ (List.mem_of_getElem? (i := 22) rfl))) (ty := .double) (by decide)
  have F_dV_a : Fld Z h20 a "com/example/brinewright/brinewright/ResidualHelmholtz" "dV" "D" (.double (0 : UInt64)) := D20 (Or.inl (hw _ (List.mem_of_getElem? (i := 24) rfl))) (ty := .double) (by decide)
  have F_dV2_a : Fld Z h20 a "com/example/brinewright/brinewright/ResidualHelmholtz" "dV2" "D" (.double (0 : UInt64)) := D20 (Or.inl (hw _ (List.mem_of_getElem? (i := 26) rfl))) (ty := .double) (by decide)
  refine Goes.by (T' := T20) (g' := (mkF m 3 #[.val (.int x0), .val (.int x1), .val (.int x2), .val (.int x3), .val (.int x4), .val (.int x5), .unset, .unset, .unset, .unset, .unset, .unset, .unset, .unset, .unset] [(.ref a)])) st20 ?_
  refine Goes.by (T' := T20) (g' := (mkF m 4 #[.val (.int x0), .val (.int x1), .val (.int x2), .val (.int x3), .val (.int x4), .val (.int x5), .unset, .unset, .unset, .unset, .unset, .unset, .unset, .unset, .unset] [(.ref a), (.ref a)])) (fun _ k => XS.dup X20.here hx rfl (hb hby at_3) rfl rfl k) ?_
  refine Goes.by (T' := T20) (g' := (mkF m 5 #[.val (.int x0), .val (.int x1), .val (.int x2), .val (.int x3), .val (.int x4), .val (.int x5), .unset, .unset, .unset, .unset, .unset, .unset, .unset, .unset, .unset] [(.int (2 : Int32)), (.ref a), (.ref a)])) (fun _ k => XS.iconst X20.here hx rfl (hb hby at_4)  k) ?_
  obtain ⟨v21, T21, L21, X21, hQ21, st21⟩ := callI X20 hx hZ (y := (⟨"com/example/brinewright/brinewright/ResidualHelmholtz", "<init>", "(I)V"⟩ : MethodName)) rfl hown (hw _ (List.mem_of_getElem? (i := 3) rfl)) (hw _ (List.mem_of_getElem? (i := 4) rfl)) (hw _ (List.mem_of_getElem? (i := 5) rfl)) (hw _ (List.mem_of_getElem? (i := 2) rfl)) (by decide) e20 (a := a) (argsL := [(.int (2 : Int32))]) (rest := [(.ref a)]) (W := 1) (rm_init l Z a0 hw a h20 n0 Z0 E_a F_dN_a F_dNdV_a F_dNAtFreeVolume_a F_value_a F_dV_a F_dV2_a ge_a) rfl (by decide) (by decide) (by decide) (by decide) (g := (mkF m 5 #[.val (.int x0), .val (.int x1), .val (.int x2), .val (.int x3), .val (.int x4), .val (.int x5), .unset, .unset, .unset, .unset, .unset, .unset, .unset, .unset, .unset] [(.int (2 : Int32)), (.ref a), (.ref a)])) rfl (by rw [hml]; rfl) (lenOf pd0 rfl) rfl (by show 2 * 0 + _ ≤ _; exact Nat.le_of_eq rfl) (hb hby at_5)
  obtain ⟨rfl, ⟨b0, b1, b2, sz0, sz1, sz2, G_dN, G_dNdV, G_dNAtFreeVolume, G_value, G_dV, G_dV2, V_b0, V_b1, V_b2, ne_b0_b1, ne_b0_b2, ne_b1_b2⟩, K21, NL21⟩ := hQ21
  have N0 := Fr.app N0 NL21
  have ne_a_b0 : a ≠ b0 := fun q => Nat.lt_irrefl _ (Nat.lt_of_lt_of_le E_a.lt (Nat.le_trans sz0 (Nat.le_of_eq q.symm)))
  have ge_b0 : n0 ≤ b0 := Nat.le_trans Z0 sz0
  have ne_a_b1 : a ≠ b1 := fun q => Nat.lt_irrefl _ (Nat.lt_of_lt_of_le E_a.lt (Nat.le_trans sz1 (Nat.le_of_eq q.symm)))
  have ge_b1 : n0 ≤ b1 := Nat.le_trans Z0 sz1
  have ne_a_b2 : a ≠ b2 := fun q => Nat.lt_irrefl _ (Nat.lt_of_lt_of_le E_a.lt (Nat.le_trans sz2 (Nat.le_of_eq q.symm)))
  have ge_b2 : n0 ≤ b2 := Nat.le_trans Z0 sz2
  have e21 : T21.heap = T21.heap := rfl
  have E_a := E_a.keep K21
  have Z0 := Nat.le_trans Z0 K21.1
  refine Goes.by (T' := T21) (g' := (mkF m 8 #[.val (.int x0), .val (.int x1), .val (.int x2), .val (.int x3), .val (.int x4), .val (.int x5), .unset, .unset, .unset, .unset, .unset, .unset, .unset, .unset, .unset] [(.ref a)])) st21 ?_
  have F_dN_a := G_dN
  have F_dNdV_a := G_dNdV
  have F_dNAtFreeVolume_a := G_dNAtFreeVolume
  have F_value_a := G_value
  have F_dV_a := G_dV
  have F_dV2_a := G_dV2
  have bx0 : x0.toInt.natAbs ≤ 2147483648 := by have := rng32 x0; omega
  have bx1 : x1.toInt.natAbs ≤ 2147483648 := by have := rng32 x1; omega
  have bx2 : x2.toInt.natAbs ≤ 2147483648 := by have := rng32 x2; omega
  have bx3 : x3.toInt.natAbs ≤ 2147483648 := by have := rng32 x3; omega
  have bx4 : x4.toInt.natAbs ≤ 2147483648 := by have := rng32 x4; omega
  have bx5 : x5.toInt.natAbs ≤ 2147483648 := by have := rng32 x5; omega
  refine Goes.by (T' := T21) (g' := (mkF m 10 #[.val (.int x0), .val (.int x1), .val (.int x2), .val (.int x3), .val (.int x4), .val (.int x5), .val (.ref a), .unset, .unset, .unset, .unset, .unset, .unset, .unset, .unset] [])) (fun _ k => XS.astore X21.here hx rfl (hb hby at_8) rfl rfl (l' := #[.val (.int x0), .val (.int x1), .val (.int x2), .val (.int x3), .val (.int x4), .val (.int x5), .val (.ref a), .unset, .unset, .unset, .unset, .unset, .unset, .unset, .unset]) rfl k) ?_
  refine Goes.by (T' := T21) (g' := (mkF m 12 #[.val (.int x0), .val (.int x1), .val (.int x2), .val (.int x3), .val (.int x4), .val (.int x5), .val (.ref a), .unset, .unset, .unset, .unset, .unset, .unset, .unset, .unset] [(.ref a)])) (fun _ k => XS.aload X21.here hx rfl (hb hby at_10) rfl rfl k) ?_
  refine Goes.by (T' := T21) (g' := (mkF m 13 #[.val (.int x0), .val (.int x1), .val (.int x2), .val (.int x3), .val (.int x4), .val (.int x5), .val (.ref a), .unset, .unset, .unset, .unset, .unset, .unset, .unset, .unset] [(.int x0), (.ref a)])) (fun _ k => XS.iloadN X21.here hx rfl (hb hby at_12) rfl k) ?_
  obtain ⟨v0, q_v0⟩ : ∃ zz, FP.i2d x0 = zz := ⟨_, rfl⟩
  refine Goes.by (T' := T21) (g' := (mkF m 14 #[.val (.int x0), .val (.int x1), .val (.int x2), .val (.int x3), .val (.int x4), .val (.int x5), .val (.ref a), .unset, .unset, .unset, .unset, .unset, .unset, .unset, .unset] [(.double v0), (.ref a)])) (fun _ k => XS.i2dS X21.here hx rfl (hb hby at_13) rfl q_v0 k) ?_
  refine Goes.by (T' := T21) (g' := (mkF m 15 #[.val (.int x0), .val (.int x1), .val (.int x2), .val (.int x3), .val (.int x4), .val (.int x5), .val (.ref a), .unset, .unset, .unset, .unset, .unset, .unset, .unset, .unset] [(.int x1), (.double v0), (.ref a)])) (fun _ k => XS.iloadN X21.here hx rfl (hb hby at_14) rfl k) ?_
  obtain ⟨v1, q_v1⟩ : ∃ zz, FP.i2d x1 = zz := ⟨_, rfl⟩
  refine Goes.by (T' := T21) (g' := (mkF m 16 #[.val (.int x0), .val (.int x1), .val (.int x2), .val (.int x3), .val (.int x4), .val (.int x5), .val (.ref a), .unset, .unset, .unset, .unset, .unset, .unset, .unset, .unset] [(.double v1), (.double v0), (.ref a)])) (fun _ k => XS.i2dS X21.here hx rfl (hb hby at_15) rfl q_v1 k) ?_
  refine Goes.by (T' := T21) (g' := (mkF m 17 #[.val (.int x0), .val (.int x1), .val (.int x2), .val (.int x3), .val (.int x4), .val (.int x5), .val (.ref a), .unset, .unset, .unset, .unset, .unset, .unset, .unset, .unset] [(.int x2), (.double v1), (.double v0), (.ref a)])) (fun _ k => XS.iloadN X21.here hx rfl (hb hby at_16) rfl k) ?_
  obtain ⟨v2, q_v2⟩ : ∃ zz, FP.i2d x2 = zz := ⟨_, rfl⟩
  refine Goes.by (T' := T21) (g' := (mkF m 18 #[.val (.int x0), .val (.int x1), .val (.int x2), .val (.int x3), .val (.int x4), .val (.int x5), .val (.ref a), .unset, .unset, .unset, .unset, .unset, .unset, .unset, .unset] [(.double v2), (.double v1), (.double v0), (.ref a)])) (fun _ k => XS.i2dS X21.here hx rfl (hb hby at_17) rfl q_v2 k) ?_
  obtain ⟨v22, T22, L22, X22, hQ22, st22⟩ := callV X21 hx hZ (y := (⟨"com/example/brinewright/brinewright/ResidualHelmholtz", "add", "(DDD)V"⟩ : MethodName)) hown (hw _ (List.mem_of_getElem? (i := 16) rfl)) (hw _ (List.mem_of_getElem? (i := 17) rfl)) (hw _ (List.mem_of_getElem? (i := 19) rfl)) (hw _ (List.mem_of_getElem? (i := 18) rfl)) (hw _ (List.mem_of_getElem? (i := 20) rfl)) (hw _ (List.mem_of_getElem? (i := 2) rfl)) (by decide) e21 E_a (argsL := [(.double v0), (.double v1), (.double v2)]) (rest := []) (W := 0) (rm_add l Z a0 hw a b0 b1 b2 (0 : UInt64) (0 : UInt64) (0 : UInt64) v0 v1 v2 0 0 0 x0.toInt x1.toInt x2.toInt T21.heap n0 Z0 E_a F_dN_a F_dNdV_a F_dNAtFreeVolume_a F_value_a F_dV_a F_dV2_a ge_a DInt_zero (DInt_i2d q_v0) (by omega) (by omega) DInt_zero (DInt_i2d q_v1) (by omega) (by omega) DInt_zero (DInt_i2d q_v2) (by omega) (by omega)) rfl (by decide) (by decide) (by decide) (by decide) (g := (mkF m 18 #[.val (.int x0), .val (.int x1), .val (.int x2), .val (.int x3), .val (.int x4), .val (.int x5), .val (.ref a), .unset, .unset, .unset, .unset, .unset, .unset, .unset, .unset] [(.double v2), (.double v1), (.double v0), (.ref a)])) rfl (by rw [hml]; rfl) (lenOf pd1 rfl) rfl (by show 2 * 0 + _ ≤ _; exact Nat.le_of_eq rfl) (hb hby at_18)
  obtain ⟨rfl, ⟨s0, s1, s2, DS0, DS1, DS2, G_dN, G_dNdV, G_dNAtFreeVolume, G_value, G_dV, G_dV2⟩, K22, NL22⟩ := hQ22
  have N0 := Fr.app N0 NL22
  have e22 : T22.heap = T22.heap := rfl
  have E_a := E_a.keep K22
  have V_b0 := V_b0.keep K22 (ninS (Ne.symm ne_a_b0) nin0)
  have V_b1 := V_b1.keep K22 (ninS (Ne.symm ne_a_b1) nin0)
  have V_b2 := V_b2.keep K22 (ninS (Ne.symm ne_a_b2) nin0)
  have Z0 := Nat.le_trans Z0 K22.1
  refine Goes.by (T' := T22) (g' := (mkF m 21 #[.val (.int x0), .val (.int x1), .val (.int x2), .val (.int x3), .val (.int x4), .val (.int x5), .val (.ref a), .unset, .unset, .unset, .unset, .unset, .unset, .unset, .unset] [])) st22 ?_
  have F_dN_a := G_dN
  have F_dNdV_a := G_dNdV
  have F_dNAtFreeVolume_a := G_dNAtFreeVolume
  have F_value_a := G_value
  have F_dV_a := G_dV
  have F_dV2_a := G_dV2
  refine Goes.by (T' := T22) (g' := (mkF m 23 #[.val (.int x0), .val (.int x1), .val (.int x2), .val (.int x3), .val (.int x4), .val (.int x5), .val (.ref a), .unset, .unset, .unset, .unset, .unset, .unset, .unset, .unset] [(.ref a)])) (fun _ k => XS.aload X22.here hx rfl (hb hby at_21) rfl rfl k) ?_
  refine Goes.by (T' := T22) (g' := (mkF m 24 #[.val (.int x0), .val (.int x1), .val (.int x2), .val (.int x3), .val (.int x4), .val (.int x5), .val (.ref a), .unset, .unset, .unset, .unset, .unset, .unset, .unset, .unset] [(.int x3), (.ref a)])) (fun _ k => XS.iloadN X22.here hx rfl (hb hby at_23) rfl k) ?_
  obtain ⟨v3, q_v3⟩ : ∃ zz, FP.i2d x3 = zz := ⟨_, rfl⟩
  refine Goes.by (T' := T22) (g' := (mkF m 25 #[.val (.int x0), .val (.int x1), .val (.int x2), .val (.int x3), .val (.int x4), .val (.int x5), .val (.ref a), .unset, .unset, .unset, .unset, .unset, .unset, .unset, .unset] [(.double v3), (.ref a)])) (fun _ k => XS.i2dS X22.here hx rfl (hb hby at_24) rfl q_v3 k) ?_
  refine Goes.by (T' := T22) (g' := (mkF m 27 #[.val (.int x0), .val (.int x1), .val (.int x2), .val (.int x3), .val (.int x4), .val (.int x5), .val (.ref a), .unset, .unset, .unset, .unset, .unset, .unset, .unset, .unset] [(.int x4), (.double v3), (.ref a)])) (fun _ k => XS.iload X22.here hx rfl (hb hby at_25) rfl k) ?_
  obtain ⟨v4, q_v4⟩ : ∃ zz, FP.i2d x4 = zz := ⟨_, rfl⟩
  refine Goes.by (T' := T22) (g' := (mkF m 28 #[.val (.int x0), .val (.int x1), .val (.int x2), .val (.int x3), .val (.int x4), .val (.int x5), .val (.ref a), .unset, .unset, .unset, .unset, .unset, .unset, .unset, .unset] [(.double v4), (.double v3), (.ref a)])) (fun _ k => XS.i2dS X22.here hx rfl (hb hby at_27) rfl q_v4 k) ?_
  refine Goes.by (T' := T22) (g' := (mkF m 30 #[.val (.int x0), .val (.int x1), .val (.int x2), .val (.int x3), .val (.int x4), .val (.int x5), .val (.ref a), .unset, .unset, .unset, .unset, .unset, .unset, .unset, .unset] [(.int x5), (.double v4), (.double v3), (.ref a)])) (fun _ k => XS.iload X22.here hx rfl (hb hby at_28) rfl k) ?_
  obtain ⟨v5, q_v5⟩ : ∃ zz, FP.i2d x5 = zz := ⟨_, rfl⟩
  refine Goes.by (T' := T22) (g' := (mkF m 31 #[.val (.int x0), .val (.int x1), .val (.int x2), .val (.int x3), .val (.int x4), .val (.int x5), .val (.ref a), .unset, .unset, .unset, .unset, .unset, .unset, .unset, .unset] [(.double v5), (.double v4), (.double v3), (.ref a)])) (fun _ k => XS.i2dS X22.here hx rfl (hb hby at_30) rfl q_v5 k) ?_
  obtain ⟨v23, T23, L23, X23, hQ23, st23⟩ := callV X22 hx hZ (y := (⟨"com/example/brinewright/brinewright/ResidualHelmholtz", "add", "(DDD)V"⟩ : MethodName)) hown (hw _ (List.mem_of_getElem? (i := 16) rfl)) (hw _ (List.mem_of_getElem? (i := 17) rfl)) (hw _ (List.mem_of_getElem? (i := 19) rfl)) (hw _ (List.mem_of_getElem? (i := 18) rfl)) (hw _ (List.mem_of_getElem? (i := 20) rfl)) (hw _ (List.mem_of_getElem? (i := 2) rfl)) (by decide) e22 E_a (argsL := [(.double v3), (.double v4), (.double v5)]) (rest := []) (W := 0) (rm_add l Z a0 hw a b0 b1 b2 s0 s1 s2 v3 v4 v5 (0 + x0.toInt) (0 + x1.toInt) (0 + x2.toInt) x3.toInt x4.toInt x5.toInt T22.heap n0 Z0 E_a F_dN_a F_dNdV_a F_dNAtFreeVolume_a F_value_a F_dV_a F_dV2_a ge_a DS0 (DInt_i2d q_v3) (by omega) (by omega) DS1 (DInt_i2d q_v4) (by omega) (by omega) DS2 (DInt_i2d q_v5) (by omega) (by omega)) rfl (by decide) (by decide) (by decide) (by decide) (g := (mkF m 31 #[.val (.int x0), .val (.int x1), .val (.int x2), .val (.int x3), .val (.int x4), .val (.int x5), .val (.ref a), .unset, .unset, .unset, .unset, .unset, .unset, .unset, .unset] [(.double v5), (.double v4), (.double v3), (.ref a)])) rfl (by rw [hml]; rfl) (lenOf pd1 rfl) rfl (by show 2 * 0 + _ ≤ _; exact Nat.le_of_eq rfl) (hb hby at_31)
  obtain ⟨rfl, ⟨t0, t1, t2, DT0, DT1, DT2, G_dN, G_dNdV, G_dNAtFreeVolume, G_value, G_dV, G_dV2⟩, K23, NL23⟩ := hQ23
  have N0 := Fr.app N0 NL23
  have e23 : T23.heap = T23.heap := rfl
  have E_a := E_a.keep K23
  have V_b0 := V_b0.keep K23 (ninS (Ne.symm ne_a_b0) nin0)
  have V_b1 := V_b1.keep K23 (ninS (Ne.symm ne_a_b1) nin0)
  have V_b2 := V_b2.keep K23 (ninS (Ne.symm ne_a_b2) nin0)
  have Z0 := Nat.le_trans Z0 K23.1
  refine Goes.by (T' := T23) (g' := (mkF m 34 #[.val (.int x0), .val (.int x1), .val (.int x2), .val (.int x3), .val (.int x4), .val (.int x5), .val (.ref a), .unset, .unset, .unset, .unset, .unset, .unset, .unset, .unset] [])) st23 ?_
  have F_dN_a := G_dN
  have F_dNdV_a := G_dNdV
  have F_dNAtFreeVolume_a := G_dNAtFreeVolume
  have F_value_a := G_value
  have F_dV_a := G_dV
  have F_dV2_a := G_dV2
  refine Goes.by (T' := T23) (g' := (mkF m 35 #[.val (.int x0), .val (.int x1), .val (.int x2), .val (.int x3), .val (.int x4), .val (.int x5), .val (.ref a), .unset, .unset, .unset, .unset, .unset, .unset, .unset, .unset] [(.int x0)])) (fun _ k => XS.iloadN X23.here hx rfl (hb hby at_34) rfl k) ?_
  refine Goes.by (T' := T23) (g' := (mkF m 36 #[.val (.int x0), .val (.int x1), .val (.int x2), .val (.int x3), .val (.int x4), .val (.int x5), .val (.ref a), .unset, .unset, .unset, .unset, .unset, .unset, .unset, .unset] [(.long ((x0).toInt64))])) (fun _ k => XS.i2l X23.here hx rfl (hb hby at_35) rfl k) ?_
  refine Goes.by (T' := T23) (g' := (mkF m 37 #[.val (.int x0), .val (.int x1), .val (.int x2), .val (.int x3), .val (.int x4), .val (.int x5), .val (.ref a), .unset, .unset, .unset, .unset, .unset, .unset, .unset, .unset] [(.int x3), (.long ((x0).toInt64))])) (fun _ k => XS.iloadN X23.here hx rfl (hb hby at_36) rfl k) ?_
  refine Goes.by (T' := T23) (g' := (mkF m 38 #[.val (.int x0), .val (.int x1), .val (.int x2), .val (.int x3), .val (.int x4), .val (.int x5), .val (.ref a), .unset, .unset, .unset, .unset, .unset, .unset, .unset, .unset] [(.long ((x3).toInt64)), (.long ((x0).toInt64))])) (fun _ k => XS.i2l X23.here hx rfl (hb hby at_37) rfl k) ?_
  refine Goes.by (T' := T23) (g' := (mkF m 39 #[.val (.int x0), .val (.int x1), .val (.int x2), .val (.int x3), .val (.int x4), .val (.int x5), .val (.ref a), .unset, .unset, .unset, .unset, .unset, .unset, .unset, .unset] [(.long (((x0).toInt64) + ((x3).toInt64)))])) (fun _ k => XS.ladd X23.here hx rfl (hb hby at_38) rfl k) ?_
  obtain ⟨y0, q_y0⟩ : ∃ zz : Int64, zz = (((x0).toInt64) + ((x3).toInt64)) := ⟨_, rfl⟩
  rw [← q_y0]
  have ey0 : y0.toInt = x0.toInt + x3.toInt := by rw [q_y0, own_ladd (by rw [c_i2l, c_i2l]; omega) (by rw [c_i2l, c_i2l]; omega), c_i2l, c_i2l]
  obtain ⟨ev0, q_ev0⟩ : ∃ zz, FP.l2d y0 = zz := ⟨_, rfl⟩
  refine Goes.by (T' := T23) (g' := (mkF m 40 #[.val (.int x0), .val (.int x1), .val (.int x2), .val (.int x3), .val (.int x4), .val (.int x5), .val (.ref a), .unset, .unset, .unset, .unset, .unset, .unset, .unset, .unset] [(.double ev0)])) (fun _ k => XS.l2dS X23.here hx rfl (hb hby at_39) rfl q_ev0 k) ?_
  have DE0 : Core.DInt y0.toInt ev0 := DInt_l2d q_ev0 (by rw [ey0]; omega)
  refine Goes.by (T' := T23) (g' := (mkF m 42 #[.val (.int x0), .val (.int x1), .val (.int x2), .val (.int x3), .val (.int x4), .val (.int x5), .val (.ref a), .val (.double ev0), .second, .unset, .unset, .unset, .unset, .unset, .unset] [])) (fun _ k => XS.dstore X23.here hx rfl (hb hby at_40) rfl (l' := #[.val (.int x0), .val (.int x1), .val (.int x2), .val (.int x3), .val (.int x4), .val (.int x5), .val (.ref a), .val (.double ev0), .second, .unset, .unset, .unset, .unset, .unset, .unset]) rfl k) ?_
  refine Goes.by (T' := T23) (g' := (mkF m 43 #[.val (.int x0), .val (.int x1), .val (.int x2), .val (.int x3), .val (.int x4), .val (.int x5), .val (.ref a), .val (.double ev0), .second, .unset, .unset, .unset, .unset, .unset, .unset] [(.int x1)])) (fun _ k => XS.iloadN X23.here hx rfl (hb hby at_42) rfl k) ?_
  refine Goes.by (T' := T23) (g' := (mkF m 44 #[.val (.int x0), .val (.int x1), .val (.int x2), .val (.int x3), .val (.int x4), .val (.int x5), .val (.ref a), .val (.double ev0), .second, .unset, .unset, .unset, .unset, .unset, .unset] [(.long ((x1).toInt64))])) (fun _ k => XS.i2l X23.here hx rfl (hb hby at_43) rfl k) ?_
  refine Goes.by (T' := T23) (g' := (mkF m 46 #[.val (.int x0), .val (.int x1), .val (.int x2), .val (.int x3), .val (.int x4), .val (.int x5), .val (.ref a), .val (.double ev0), .second, .unset, .unset, .unset, .unset, .unset, .unset] [(.int x4), (.long ((x1).toInt64))])) (fun _ k => XS.iload X23.here hx rfl (hb hby at_44) rfl k) ?_
  refine Goes.by (T' := T23) (g' := (mkF m 47 #[.val (.int x0), .val (.int x1), .val (.int x2), .val (.int x3), .val (.int x4), .val (.int x5), .val (.ref a), .val (.double ev0), .second, .unset, .unset, .unset, .unset, .unset, .unset] [(.long ((x4).toInt64)), (.long ((x1).toInt64))])) (fun _ k => XS.i2l X23.here hx rfl (hb hby at_46) rfl k) ?_
  refine Goes.by (T' := T23) (g' := (mkF m 48 #[.val (.int x0), .val (.int x1), .val (.int x2), .val (.int x3), .val (.int x4), .val (.int x5), .val (.ref a), .val (.double ev0), .second, .unset, .unset, .unset, .unset, .unset, .unset] [(.long (((x1).toInt64) + ((x4).toInt64)))])) (fun _ k => XS.ladd X23.here hx rfl (hb hby at_47) rfl k) ?_
  obtain ⟨y1, q_y1⟩ : ∃ zz : Int64, zz = (((x1).toInt64) + ((x4).toInt64)) := ⟨_, rfl⟩
  rw [← q_y1]
  have ey1 : y1.toInt = x1.toInt + x4.toInt := by rw [q_y1, own_ladd (by rw [c_i2l, c_i2l]; omega) (by rw [c_i2l, c_i2l]; omega), c_i2l, c_i2l]
  obtain ⟨ev1, q_ev1⟩ : ∃ zz, FP.l2d y1 = zz := ⟨_, rfl⟩
  refine Goes.by (T' := T23) (g' := (mkF m 49 #[.val (.int x0), .val (.int x1), .val (.int x2), .val (.int x3), .val (.int x4), .val (.int x5), .val (.ref a), .val (.double ev0), .second, .unset, .unset, .unset, .unset, .unset, .unset] [(.double ev1)])) (fun _ k => XS.l2dS X23.here hx rfl (hb hby at_48) rfl q_ev1 k) ?_
  have DE1 : Core.DInt y1.toInt ev1 := DInt_l2d q_ev1 (by rw [ey1]; omega)
  refine Goes.by (T' := T23) (g' := (mkF m 51 #[.val (.int x0), .val (.int x1), .val (.int x2), .val (.int x3), .val (.int x4), .val (.int x5), .val (.ref a), .val (.double ev0), .second, .val (.double ev1), .second, .unset, .unset, .unset, .unset] [])) (fun _ k => XS.dstore X23.here hx rfl (hb hby at_49) rfl (l' := #[.val (.int x0), .val (.int x1), .val (.int x2), .val (.int x3), .val (.int x4), .val (.int x5), .val (.ref a), .val (.double ev0), .second, .val (.double ev1), .second, .unset, .unset, .unset, .unset]) rfl k) ?_
  refine Goes.by (T' := T23) (g' := (mkF m 52 #[.val (.int x0), .val (.int x1), .val (.int x2), .val (.int x3), .val (.int x4), .val (.int x5), .val (.ref a), .val (.double ev0), .second, .val (.double ev1), .second, .unset, .unset, .unset, .unset] [(.int x2)])) (fun _ k => XS.iloadN X23.here hx rfl (hb hby at_51) rfl k) ?_
  refine Goes.by (T' := T23) (g' := (mkF m 53 #[.val (.int x0), .val (.int x1), .val (.int x2), .val (.int x3), .val (.int x4), .val (.int x5), .val (.ref a), .val (.double ev0), .second, .val (.double ev1), .second, .unset, .unset, .unset, .unset] [(.long ((x2).toInt64))])) (fun _ k => XS.i2l X23.here hx rfl (hb hby at_52) rfl k) ?_
  refine Goes.by (T' := T23) (g' := (mkF m 55 #[.val (.int x0), .val (.int x1), .val (.int x2), .val (.int x3), .val (.int x4), .val (.int x5), .val (.ref a), .val (.double ev0), .second, .val (.double ev1), .second, .unset, .unset, .unset, .unset] [(.int x5), (.long ((x2).toInt64))])) (fun _ k => XS.iload X23.here hx rfl (hb hby at_53) rfl k) ?_
  refine Goes.by (T' := T23) (g' := (mkF m 56 #[.val (.int x0), .val (.int x1), .val (.int x2), .val (.int x3), .val (.int x4), .val (.int x5), .val (.ref a), .val (.double ev0), .second, .val (.double ev1), .second, .unset, .unset, .unset, .unset] [(.long ((x5).toInt64)), (.long ((x2).toInt64))])) (fun _ k => XS.i2l X23.here hx rfl (hb hby at_55) rfl k) ?_
  refine Goes.by (T' := T23) (g' := (mkF m 57 #[.val (.int x0), .val (.int x1), .val (.int x2), .val (.int x3), .val (.int x4), .val (.int x5), .val (.ref a), .val (.double ev0), .second, .val (.double ev1), .second, .unset, .unset, .unset, .unset] [(.long (((x2).toInt64) + ((x5).toInt64)))])) (fun _ k => XS.ladd X23.here hx rfl (hb hby at_56) rfl k) ?_
  obtain ⟨y2, q_y2⟩ : ∃ zz : Int64, zz = (((x2).toInt64) + ((x5).toInt64)) := ⟨_, rfl⟩
  rw [← q_y2]
  have ey2 : y2.toInt = x2.toInt + x5.toInt := by rw [q_y2, own_ladd (by rw [c_i2l, c_i2l]; omega) (by rw [c_i2l, c_i2l]; omega), c_i2l, c_i2l]
  obtain ⟨ev2, q_ev2⟩ : ∃ zz, FP.l2d y2 = zz := ⟨_, rfl⟩
  refine Goes.by (T' := T23) (g' := (mkF m 58 #[.val (.int x0), .val (.int x1), .val (.int x2), .val (.int x3), .val (.int x4), .val (.int x5), .val (.ref a), .val (.double ev0), .second, .val (.double ev1), .second, .unset, .unset, .unset, .unset] [(.double ev2)])) (fun _ k => XS.l2dS X23.here hx rfl (hb hby at_57) rfl q_ev2 k) ?_
  have DE2 : Core.DInt y2.toInt ev2 := DInt_l2d q_ev2 (by rw [ey2]; omega)
  refine Goes.by (T' := T23) (g' := (mkF m 60 #[.val (.int x0), .val (.int x1), .val (.int x2), .val (.int x3), .val (.int x4), .val (.int x5), .val (.ref a), .val (.double ev0), .second, .val (.double ev1), .second, .val (.double ev2), .second, .unset, .unset] [])) (fun _ k => XS.dstore X23.here hx rfl (hb hby at_58) rfl (l' := #[.val (.int x0), .val (.int x1), .val (.int x2), .val (.int x3), .val (.int x4), .val (.int x5), .val (.ref a), .val (.double ev0), .second, .val (.double ev1), .second, .val (.double ev2), .second, .unset, .unset]) rfl k) ?_
  refine Goes.by (T' := T23) (g' := (mkF m 62 #[.val (.int x0), .val (.int x1), .val (.int x2), .val (.int x3), .val (.int x4), .val (.int x5), .val (.ref a), .val (.double ev0), .second, .val (.double ev1), .second, .val (.double ev2), .second, .unset, .unset] [(.ref a)])) (fun _ k => XS.aload X23.here hx rfl (hb hby at_60) rfl rfl k) ?_
  obtain ⟨v24, T24, L24, X24, hQ24, st24⟩ := callV X23 hx hZ (y := (⟨"com/example/brinewright/brinewright/ResidualHelmholtz", "value", "()D"⟩ : MethodName)) hown (hw _ (List.mem_of_getElem? (i := 27) rfl)) (hw _ (List.mem_of_getElem? (i := 28) rfl)) (hw _ (List.mem_of_getElem? (i := 30) rfl)) (hw _ (List.mem_of_getElem? (i := 29) rfl)) (hw _ (List.mem_of_getElem? (i := 31) rfl)) (hw _ (List.mem_of_getElem? (i := 2) rfl)) (by decide) e23 E_a (argsL := []) (rest := []) (W := 0) (rm_value l Z a0 hw a t0 T23.heap n0 Z0 F_value_a) rfl (by decide) (by decide) (by decide) (by decide) (g := (mkF m 62 #[.val (.int x0), .val (.int x1), .val (.int x2), .val (.int x3), .val (.int x4), .val (.int x5), .val (.ref a), .val (.double ev0), .second, .val (.double ev1), .second, .val (.double ev2), .second, .unset, .unset] [(.ref a)])) rfl (by rw [hml]; rfl) (lenOf pd2 rfl) rfl (by show 2 * 0 + _ ≤ _; exact Nat.le_of_eq rfl) (hb hby at_62)
  obtain ⟨rfl, NL24, hk24⟩ := hQ24
  have N0 := Fr.app N0 NL24
  refine Goes.by (T' := T24) (g' := (mkF m 65 #[.val (.int x0), .val (.int x1), .val (.int x2), .val (.int x3), .val (.int x4), .val (.int x5), .val (.ref a), .val (.double ev0), .second, .val (.double ev1), .second, .val (.double ev2), .second, .unset, .unset] [(.double t0)])) st24 ?_
  refine Goes.by (T' := T24) (g' := (mkF m 67 #[.val (.int x0), .val (.int x1), .val (.int x2), .val (.int x3), .val (.int x4), .val (.int x5), .val (.ref a), .val (.double ev0), .second, .val (.double ev1), .second, .val (.double ev2), .second, .unset, .unset] [(.double ev0), (.double t0)])) (fun _ k => XS.dload X24.here hx rfl (hb hby at_65) rfl k) ?_
  refine Goes.by (T' := T24) (g' := (mkF m 68 #[.val (.int x0), .val (.int x1), .val (.int x2), .val (.int x3), .val (.int x4), .val (.int x5), .val (.ref a), .val (.double ev0), .second, .val (.double ev1), .second, .val (.double ev2), .second, .unset, .unset] [(.int (0 : Int32))])) (fun _ k => XS.dcmpS X24.here hx rfl (hb hby at_67) rfl (cmpD_eq DT0 DE0 (by rw [ey0]; omega) _) k) ?_
  refine Goes.by (T' := T24) (g' := (mkF m 71 #[.val (.int x0), .val (.int x1), .val (.int x2), .val (.int x3), .val (.int x4), .val (.int x5), .val (.ref a), .val (.double ev0), .second, .val (.double ev1), .second, .val (.double ev2), .second, .unset, .unset] [])) (fun _ k => XS.ifNo X24.here hx rfl (hb hby at_68) rfl (by decide) k) ?_
  refine Goes.by (T' := T24) (g' := (mkF m 73 #[.val (.int x0), .val (.int x1), .val (.int x2), .val (.int x3), .val (.int x4), .val (.int x5), .val (.ref a), .val (.double ev0), .second, .val (.double ev1), .second, .val (.double ev2), .second, .unset, .unset] [(.ref a)])) (fun _ k => XS.aload X24.here hx rfl (hb hby at_71) rfl rfl k) ?_
  obtain ⟨v25, T25, L25, X25, hQ25, st25⟩ := callV X24 hx hZ (y := (⟨"com/example/brinewright/brinewright/ResidualHelmholtz", "dV", "()D"⟩ : MethodName)) hown (hw _ (List.mem_of_getElem? (i := 32) rfl)) (hw _ (List.mem_of_getElem? (i := 33) rfl)) (hw _ (List.mem_of_getElem? (i := 35) rfl)) (hw _ (List.mem_of_getElem? (i := 34) rfl)) (hw _ (List.mem_of_getElem? (i := 36) rfl)) (hw _ (List.mem_of_getElem? (i := 2) rfl)) (by decide) hk24 E_a (argsL := []) (rest := []) (W := 0) (rm_dV l Z a0 hw a t1 T23.heap n0 Z0 F_dV_a) rfl (by decide) (by decide) (by decide) (by decide) (g := (mkF m 73 #[.val (.int x0), .val (.int x1), .val (.int x2), .val (.int x3), .val (.int x4), .val (.int x5), .val (.ref a), .val (.double ev0), .second, .val (.double ev1), .second, .val (.double ev2), .second, .unset, .unset] [(.ref a)])) rfl (by rw [hml]; rfl) (lenOf pd2 rfl) rfl (by show 2 * 0 + _ ≤ _; exact Nat.le_of_eq rfl) (hb hby at_73)
  obtain ⟨rfl, NL25, hk25⟩ := hQ25
  have N0 := Fr.app N0 NL25
  refine Goes.by (T' := T25) (g' := (mkF m 76 #[.val (.int x0), .val (.int x1), .val (.int x2), .val (.int x3), .val (.int x4), .val (.int x5), .val (.ref a), .val (.double ev0), .second, .val (.double ev1), .second, .val (.double ev2), .second, .unset, .unset] [(.double t1)])) st25 ?_
  refine Goes.by (T' := T25) (g' := (mkF m 78 #[.val (.int x0), .val (.int x1), .val (.int x2), .val (.int x3), .val (.int x4), .val (.int x5), .val (.ref a), .val (.double ev0), .second, .val (.double ev1), .second, .val (.double ev2), .second, .unset, .unset] [(.double ev1), (.double t1)])) (fun _ k => XS.dload X25.here hx rfl (hb hby at_76) rfl k) ?_
  refine Goes.by (T' := T25) (g' := (mkF m 79 #[.val (.int x0), .val (.int x1), .val (.int x2), .val (.int x3), .val (.int x4), .val (.int x5), .val (.ref a), .val (.double ev0), .second, .val (.double ev1), .second, .val (.double ev2), .second, .unset, .unset] [(.int (0 : Int32))])) (fun _ k => XS.dcmpS X25.here hx rfl (hb hby at_78) rfl (cmpD_eq DT1 DE1 (by rw [ey1]; omega) _) k) ?_
  refine Goes.by (T' := T25) (g' := (mkF m 82 #[.val (.int x0), .val (.int x1), .val (.int x2), .val (.int x3), .val (.int x4), .val (.int x5), .val (.ref a), .val (.double ev0), .second, .val (.double ev1), .second, .val (.double ev2), .second, .unset, .unset] [])) (fun _ k => XS.ifNo X25.here hx rfl (hb hby at_79) rfl (by decide) k) ?_
  refine Goes.by (T' := T25) (g' := (mkF m 84 #[.val (.int x0), .val (.int x1), .val (.int x2), .val (.int x3), .val (.int x4), .val (.int x5), .val (.ref a), .val (.double ev0), .second, .val (.double ev1), .second, .val (.double ev2), .second, .unset, .unset] [(.ref a)])) (fun _ k => XS.aload X25.here hx rfl (hb hby at_82) rfl rfl k) ?_
  obtain ⟨v26, T26, L26, X26, hQ26, st26⟩ := callV X25 hx hZ (y := (⟨"com/example/brinewright/brinewright/ResidualHelmholtz", "dV2", "()D"⟩ : MethodName)) hown (hw _ (List.mem_of_getElem? (i := 37) rfl)) (hw _ (List.mem_of_getElem? (i := 38) rfl)) (hw _ (List.mem_of_getElem? (i := 40) rfl)) (hw _ (List.mem_of_getElem? (i := 39) rfl)) (hw _ (List.mem_of_getElem? (i := 41) rfl)) (hw _ (List.mem_of_getElem? (i := 2) rfl)) (by decide) hk25 E_a (argsL := []) (rest := []) (W := 0) (rm_dV2 l Z a0 hw a t2 T23.heap n0 Z0 F_dV2_a) rfl (by decide) (by decide) (by decide) (by decide) (g := (mkF m 84 #[.val (.int x0), .val (.int x1), .val (.int x2), .val (.int x3), .val (.int x4), .val (.int x5), .val (.ref a), .val (.double ev0), .second, .val (.double ev1), .second, .val (.double ev2), .second, .unset, .unset] [(.ref a)])) rfl (by rw [hml]; rfl) (lenOf pd2 rfl) rfl (by show 2 * 0 + _ ≤ _; exact Nat.le_of_eq rfl) (hb hby at_84)
  obtain ⟨rfl, NL26, hk26⟩ := hQ26
  have N0 := Fr.app N0 NL26
  refine Goes.by (T' := T26) (g' := (mkF m 87 #[.val (.int x0), .val (.int x1), .val (.int x2), .val (.int x3), .val (.int x4), .val (.int x5), .val (.ref a), .val (.double ev0), .second, .val (.double ev1), .second, .val (.double ev2), .second, .unset, .unset] [(.double t2)])) st26 ?_
  refine Goes.by (T' := T26) (g' := (mkF m 89 #[.val (.int x0), .val (.int x1), .val (.int x2), .val (.int x3), .val (.int x4), .val (.int x5), .val (.ref a), .val (.double ev0), .second, .val (.double ev1), .second, .val (.double ev2), .second, .unset, .unset] [(.double ev2), (.double t2)])) (fun _ k => XS.dload X26.here hx rfl (hb hby at_87) rfl k) ?_
  refine Goes.by (T' := T26) (g' := (mkF m 90 #[.val (.int x0), .val (.int x1), .val (.int x2), .val (.int x3), .val (.int x4), .val (.int x5), .val (.ref a), .val (.double ev0), .second, .val (.double ev1), .second, .val (.double ev2), .second, .unset, .unset] [(.int (0 : Int32))])) (fun _ k => XS.dcmpS X26.here hx rfl (hb hby at_89) rfl (cmpD_eq DT2 DE2 (by rw [ey2]; omega) _) k) ?_
  refine Goes.by (T' := T26) (g' := (mkF m 93 #[.val (.int x0), .val (.int x1), .val (.int x2), .val (.int x3), .val (.int x4), .val (.int x5), .val (.ref a), .val (.double ev0), .second, .val (.double ev1), .second, .val (.double ev2), .second, .unset, .unset] [])) (fun _ k => XS.ifNo X26.here hx rfl (hb hby at_90) rfl (by decide) k) ?_
  refine Goes.by (T' := T26) (g' := (mkF m 94 #[.val (.int x0), .val (.int x1), .val (.int x2), .val (.int x3), .val (.int x4), .val (.int x5), .val (.ref a), .val (.double ev0), .second, .val (.double ev1), .second, .val (.double ev2), .second, .unset, .unset] [(.int (1 : Int32))])) (fun _ k => XS.iconst X26.here hx rfl (hb hby at_93)  k) ?_
  refine Goes.by (T' := T26) (g' := (mkF m 98 #[.val (.int x0), .val (.int x1), .val (.int x2), .val (.int x3), .val (.int x4), .val (.int x5), .val (.ref a), .val (.double ev0), .second, .val (.double ev1), .second, .val (.double ev2), .second, .unset, .unset] [(.int (1 : Int32))])) (fun _ k => XS.goto X26.here hx rfl (pc0 := 94) (pc' := 98) rfl (hb hby at_94) (by decide) (by decide) k) ?_
  refine Goes.by (T' := T26) (g' := (mkF m 100 #[.val (.int x0), .val (.int x1), .val (.int x2), .val (.int x3), .val (.int x4), .val (.int x5), .val (.ref a), .val (.double ev0), .second, .val (.double ev1), .second, .val (.double ev2), .second, .val (.int (1 : Int32)), .unset] [])) (fun _ k => XS.istore X26.here hx rfl (hb hby at_98) rfl (l' := #[.val (.int x0), .val (.int x1), .val (.int x2), .val (.int x3), .val (.int x4), .val (.int x5), .val (.ref a), .val (.double ev0), .second, .val (.double ev1), .second, .val (.double ev2), .second, .val (.int (1 : Int32)), .unset]) rfl k) ?_
  refine Goes.by (T' := T26) (g' := (mkF m 102 #[.val (.int x0), .val (.int x1), .val (.int x2), .val (.int x3), .val (.int x4), .val (.int x5), .val (.ref a), .val (.double ev0), .second, .val (.double ev1), .second, .val (.double ev2), .second, .val (.int (1 : Int32)), .unset] [(.ref a)])) (fun _ k => XS.aload X26.here hx rfl (hb hby at_100) rfl rfl k) ?_
  refine Goes.by (T' := T26) (g' := (mkF m 103 #[.val (.int x0), .val (.int x1), .val (.int x2), .val (.int x3), .val (.int x4), .val (.int x5), .val (.ref a), .val (.double ev0), .second, .val (.double ev1), .second, .val (.double ev2), .second, .val (.int (1 : Int32)), .unset] [(.int (0 : Int32)), (.ref a)])) (fun _ k => XS.iconst X26.here hx rfl (hb hby at_102)  k) ?_
  obtain ⟨v27, T27, L27, X27, hQ27, st27⟩ := callV X26 hx hZ (y := (⟨"com/example/brinewright/brinewright/ResidualHelmholtz", "dN", "(I)D"⟩ : MethodName)) hown (hw _ (List.mem_of_getElem? (i := 42) rfl)) (hw _ (List.mem_of_getElem? (i := 43) rfl)) (hw _ (List.mem_of_getElem? (i := 45) rfl)) (hw _ (List.mem_of_getElem? (i := 44) rfl)) (hw _ (List.mem_of_getElem? (i := 46) rfl)) (hw _ (List.mem_of_getElem? (i := 2) rfl)) (by decide) hk26 E_a (argsL := [(.int (0 : Int32))]) (rest := []) (W := 0) (rm_dN l Z a0 hw a b0 (0 : Int32) [(.double (0 : UInt64)), (.double (0 : UInt64))] 0 (0 : UInt64) T23.heap n0 Z0 F_dN_a V_b0 (by decide) rfl) rfl (by decide) (by decide) (by decide) (by decide) (g := (mkF m 103 #[.val (.int x0), .val (.int x1), .val (.int x2), .val (.int x3), .val (.int x4), .val (.int x5), .val (.ref a), .val (.double ev0), .second, .val (.double ev1), .second, .val (.double ev2), .second, .val (.int (1 : Int32)), .unset] [(.int (0 : Int32)), (.ref a)])) rfl (by rw [hml]; rfl) (lenOf pd3 rfl) rfl (by show 2 * 0 + _ ≤ _; exact Nat.le_of_eq rfl) (hb hby at_103)
  obtain ⟨rfl, NL27, hk27⟩ := hQ27
  have N0 := Fr.app N0 NL27
  refine Goes.by (T' := T27) (g' := (mkF m 106 #[.val (.int x0), .val (.int x1), .val (.int x2), .val (.int x3), .val (.int x4), .val (.int x5), .val (.ref a), .val (.double ev0), .second, .val (.double ev1), .second, .val (.double ev2), .second, .val (.int (1 : Int32)), .unset] [(.double (0 : UInt64))])) st27 ?_
  refine Goes.by (T' := T27) (g' := (mkF m 107 #[.val (.int x0), .val (.int x1), .val (.int x2), .val (.int x3), .val (.int x4), .val (.int x5), .val (.ref a), .val (.double ev0), .second, .val (.double ev1), .second, .val (.double ev2), .second, .val (.int (1 : Int32)), .unset] [(.double (0 : UInt64)), (.double (0 : UInt64))])) (fun _ k => XS.dconst0 X27.here hx rfl (hb hby at_106) rfl k) ?_
  refine Goes.by (T' := T27) (g' := (mkF m 108 #[.val (.int x0), .val (.int x1), .val (.int x2), .val (.int x3), .val (.int x4), .val (.int x5), .val (.ref a), .val (.double ev0), .second, .val (.double ev1), .second, .val (.double ev2), .second, .val (.int (1 : Int32)), .unset] [(.int (0 : Int32))])) (fun _ k => XS.dcmpS X27.here hx rfl (hb hby at_107) rfl (cmpD_eq DInt_zero DInt_zero rfl _) k) ?_
  refine Goes.by (T' := T27) (g' := (mkF m 111 #[.val (.int x0), .val (.int x1), .val (.int x2), .val (.int x3), .val (.int x4), .val (.int x5), .val (.ref a), .val (.double ev0), .second, .val (.double ev1), .second, .val (.double ev2), .second, .val (.int (1 : Int32)), .unset] [])) (fun _ k => XS.ifNo X27.here hx rfl (hb hby at_108) rfl (by decide) k) ?_
  refine Goes.by (T' := T27) (g' := (mkF m 113 #[.val (.int x0), .val (.int x1), .val (.int x2), .val (.int x3), .val (.int x4), .val (.int x5), .val (.ref a), .val (.double ev0), .second, .val (.double ev1), .second, .val (.double ev2), .second, .val (.int (1 : Int32)), .unset] [(.ref a)])) (fun _ k => XS.aload X27.here hx rfl (hb hby at_111) rfl rfl k) ?_
  refine Goes.by (T' := T27) (g' := (mkF m 114 #[.val (.int x0), .val (.int x1), .val (.int x2), .val (.int x3), .val (.int x4), .val (.int x5), .val (.ref a), .val (.double ev0), .second, .val (.double ev1), .second, .val (.double ev2), .second, .val (.int (1 : Int32)), .unset] [(.int (0 : Int32)), (.ref a)])) (fun _ k => XS.iconst X27.here hx rfl (hb hby at_113)  k) ?_
  obtain ⟨v28, T28, L28, X28, hQ28, st28⟩ := callV X27 hx hZ (y := (⟨"com/example/brinewright/brinewright/ResidualHelmholtz", "dNdV", "(I)D"⟩ : MethodName)) hown (hw _ (List.mem_of_getElem? (i := 47) rfl)) (hw _ (List.mem_of_getElem? (i := 48) rfl)) (hw _ (List.mem_of_getElem? (i := 50) rfl)) (hw _ (List.mem_of_getElem? (i := 49) rfl)) (hw _ (List.mem_of_getElem? (i := 51) rfl)) (hw _ (List.mem_of_getElem? (i := 2) rfl)) (by decide) hk27 E_a (argsL := [(.int (0 : Int32))]) (rest := []) (W := 0) (rm_dNdV l Z a0 hw a b1 (0 : Int32) [(.double (0 : UInt64)), (.double (0 : UInt64))] 0 (0 : UInt64) T23.heap n0 Z0 F_dNdV_a V_b1 (by decide) rfl) rfl (by decide) (by decide) (by decide) (by decide) (g := (mkF m 114 #[.val (.int x0), .val (.int x1), .val (.int x2), .val (.int x3), .val (.int x4), .val (.int x5), .val (.ref a), .val (.double ev0), .second, .val (.double ev1), .second, .val (.double ev2), .second, .val (.int (1 : Int32)), .unset] [(.int (0 : Int32)), (.ref a)])) rfl (by rw [hml]; rfl) (lenOf pd3 rfl) rfl (by show 2 * 0 + _ ≤ _; exact Nat.le_of_eq rfl) (hb hby at_114)
  obtain ⟨rfl, NL28, hk28⟩ := hQ28
  have N0 := Fr.app N0 NL28
  refine Goes.by (T' := T28) (g' := (mkF m 117 #[.val (.int x0), .val (.int x1), .val (.int x2), .val (.int x3), .val (.int x4), .val (.int x5), .val (.ref a), .val (.double ev0), .second, .val (.double ev1), .second, .val (.double ev2), .second, .val (.int (1 : Int32)), .unset] [(.double (0 : UInt64))])) st28 ?_
  refine Goes.by (T' := T28) (g' := (mkF m 118 #[.val (.int x0), .val (.int x1), .val (.int x2), .val (.int x3), .val (.int x4), .val (.int x5), .val (.ref a), .val (.double ev0), .second, .val (.double ev1), .second, .val (.double ev2), .second, .val (.int (1 : Int32)), .unset] [(.double (0 : UInt64)), (.double (0 : UInt64))])) (fun _ k => XS.dconst0 X28.here hx rfl (hb hby at_117) rfl k) ?_
  refine Goes.by (T' := T28) (g' := (mkF m 119 #[.val (.int x0), .val (.int x1), .val (.int x2), .val (.int x3), .val (.int x4), .val (.int x5), .val (.ref a), .val (.double ev0), .second, .val (.double ev1), .second, .val (.double ev2), .second, .val (.int (1 : Int32)), .unset] [(.int (0 : Int32))])) (fun _ k => XS.dcmpS X28.here hx rfl (hb hby at_118) rfl (cmpD_eq DInt_zero DInt_zero rfl _) k) ?_
  refine Goes.by (T' := T28) (g' := (mkF m 122 #[.val (.int x0), .val (.int x1), .val (.int x2), .val (.int x3), .val (.int x4), .val (.int x5), .val (.ref a), .val (.double ev0), .second, .val (.double ev1), .second, .val (.double ev2), .second, .val (.int (1 : Int32)), .unset] [])) (fun _ k => XS.ifNo X28.here hx rfl (hb hby at_119) rfl (by decide) k) ?_
  refine Goes.by (T' := T28) (g' := (mkF m 124 #[.val (.int x0), .val (.int x1), .val (.int x2), .val (.int x3), .val (.int x4), .val (.int x5), .val (.ref a), .val (.double ev0), .second, .val (.double ev1), .second, .val (.double ev2), .second, .val (.int (1 : Int32)), .unset] [(.ref a)])) (fun _ k => XS.aload X28.here hx rfl (hb hby at_122) rfl rfl k) ?_
  refine Goes.by (T' := T28) (g' := (mkF m 125 #[.val (.int x0), .val (.int x1), .val (.int x2), .val (.int x3), .val (.int x4), .val (.int x5), .val (.ref a), .val (.double ev0), .second, .val (.double ev1), .second, .val (.double ev2), .second, .val (.int (1 : Int32)), .unset] [(.int (0 : Int32)), (.ref a)])) (fun _ k => XS.iconst X28.here hx rfl (hb hby at_124)  k) ?_
  obtain ⟨v29, T29, L29, X29, hQ29, st29⟩ := callV X28 hx hZ (y := (⟨"com/example/brinewright/brinewright/ResidualHelmholtz", "dNAtFreeVolume", "(I)D"⟩ : MethodName)) hown (hw _ (List.mem_of_getElem? (i := 52) rfl)) (hw _ (List.mem_of_getElem? (i := 53) rfl)) (hw _ (List.mem_of_getElem? (i := 55) rfl)) (hw _ (List.mem_of_getElem? (i := 54) rfl)) (hw _ (List.mem_of_getElem? (i := 56) rfl)) (hw _ (List.mem_of_getElem? (i := 2) rfl)) (by decide) hk28 E_a (argsL := [(.int (0 : Int32))]) (rest := []) (W := 0) (rm_dNAtFreeVolume l Z a0 hw a b2 (0 : Int32) [(.double (0 : UInt64)), (.double (0 : UInt64))] 0 (0 : UInt64) T23.heap n0 Z0 F_dNAtFreeVolume_a V_b2 (by decide) rfl) rfl (by decide) (by decide) (by decide) (by decide) (g := (mkF m 125 #[.val (.int x0), .val (.int x1), .val (.int x2), .val (.int x3), .val (.int x4), .val (.int x5), .val (.ref a), .val (.double ev0), .second, .val (.double ev1), .second, .val (.double ev2), .second, .val (.int (1 : Int32)), .unset] [(.int (0 : Int32)), (.ref a)])) rfl (by rw [hml]; rfl) (lenOf pd3 rfl) rfl (by show 2 * 0 + _ ≤ _; exact Nat.le_of_eq rfl) (hb hby at_125)
  obtain ⟨rfl, NL29, hk29⟩ := hQ29
  have N0 := Fr.app N0 NL29
  refine Goes.by (T' := T29) (g' := (mkF m 128 #[.val (.int x0), .val (.int x1), .val (.int x2), .val (.int x3), .val (.int x4), .val (.int x5), .val (.ref a), .val (.double ev0), .second, .val (.double ev1), .second, .val (.double ev2), .second, .val (.int (1 : Int32)), .unset] [(.double (0 : UInt64))])) st29 ?_
  refine Goes.by (T' := T29) (g' := (mkF m 129 #[.val (.int x0), .val (.int x1), .val (.int x2), .val (.int x3), .val (.int x4), .val (.int x5), .val (.ref a), .val (.double ev0), .second, .val (.double ev1), .second, .val (.double ev2), .second, .val (.int (1 : Int32)), .unset] [(.double (0 : UInt64)), (.double (0 : UInt64))])) (fun _ k => XS.dconst0 X29.here hx rfl (hb hby at_128) rfl k) ?_
  refine Goes.by (T' := T29) (g' := (mkF m 130 #[.val (.int x0), .val (.int x1), .val (.int x2), .val (.int x3), .val (.int x4), .val (.int x5), .val (.ref a), .val (.double ev0), .second, .val (.double ev1), .second, .val (.double ev2), .second, .val (.int (1 : Int32)), .unset] [(.int (0 : Int32))])) (fun _ k => XS.dcmpS X29.here hx rfl (hb hby at_129) rfl (cmpD_eq DInt_zero DInt_zero rfl _) k) ?_
  refine Goes.by (T' := T29) (g' := (mkF m 133 #[.val (.int x0), .val (.int x1), .val (.int x2), .val (.int x3), .val (.int x4), .val (.int x5), .val (.ref a), .val (.double ev0), .second, .val (.double ev1), .second, .val (.double ev2), .second, .val (.int (1 : Int32)), .unset] [])) (fun _ k => XS.ifNo X29.here hx rfl (hb hby at_130) rfl (by decide) k) ?_
  refine Goes.by (T' := T29) (g' := (mkF m 134 #[.val (.int x0), .val (.int x1), .val (.int x2), .val (.int x3), .val (.int x4), .val (.int x5), .val (.ref a), .val (.double ev0), .second, .val (.double ev1), .second, .val (.double ev2), .second, .val (.int (1 : Int32)), .unset] [(.int (1 : Int32))])) (fun _ k => XS.iconst X29.here hx rfl (hb hby at_133)  k) ?_
  refine Goes.by (T' := T29) (g' := (mkF m 138 #[.val (.int x0), .val (.int x1), .val (.int x2), .val (.int x3), .val (.int x4), .val (.int x5), .val (.ref a), .val (.double ev0), .second, .val (.double ev1), .second, .val (.double ev2), .second, .val (.int (1 : Int32)), .unset] [(.int (1 : Int32))])) (fun _ k => XS.goto X29.here hx rfl (pc0 := 134) (pc' := 138) rfl (hb hby at_134) (by decide) (by decide) k) ?_
  refine Goes.by (T' := T29) (g' := (mkF m 140 #[.val (.int x0), .val (.int x1), .val (.int x2), .val (.int x3), .val (.int x4), .val (.int x5), .val (.ref a), .val (.double ev0), .second, .val (.double ev1), .second, .val (.double ev2), .second, .val (.int (1 : Int32)), .val (.int (1 : Int32))] [])) (fun _ k => XS.istore X29.here hx rfl (hb hby at_138) rfl (l' := #[.val (.int x0), .val (.int x1), .val (.int x2), .val (.int x3), .val (.int x4), .val (.int x5), .val (.ref a), .val (.double ev0), .second, .val (.double ev1), .second, .val (.double ev2), .second, .val (.int (1 : Int32)), .val (.int (1 : Int32))]) rfl k) ?_
  refine Goes.by (T' := T29) (g' := (mkF m 142 #[.val (.int x0), .val (.int x1), .val (.int x2), .val (.int x3), .val (.int x4), .val (.int x5), .val (.ref a), .val (.double ev0), .second, .val (.double ev1), .second, .val (.double ev2), .second, .val (.int (1 : Int32)), .val (.int (1 : Int32))] [(.int (1 : Int32))])) (fun _ k => XS.iload X29.here hx rfl (hb hby at_140) rfl k) ?_
  refine Goes.by (T' := T29) (g' := (mkF m 145 #[.val (.int x0), .val (.int x1), .val (.int x2), .val (.int x3), .val (.int x4), .val (.int x5), .val (.ref a), .val (.double ev0), .second, .val (.double ev1), .second, .val (.double ev2), .second, .val (.int (1 : Int32)), .val (.int (1 : Int32))] [])) (fun _ k => XS.ifNo X29.here hx rfl (hb hby at_142) rfl (by decide) k) ?_
  refine Goes.by (T' := T29) (g' := (mkF m 147 #[.val (.int x0), .val (.int x1), .val (.int x2), .val (.int x3), .val (.int x4), .val (.int x5), .val (.ref a), .val (.double ev0), .second, .val (.double ev1), .second, .val (.double ev2), .second, .val (.int (1 : Int32)), .val (.int (1 : Int32))] [(.int (1 : Int32))])) (fun _ k => XS.iload X29.here hx rfl (hb hby at_145) rfl k) ?_
  refine Goes.by (T' := T29) (g' := (mkF m 150 #[.val (.int x0), .val (.int x1), .val (.int x2), .val (.int x3), .val (.int x4), .val (.int x5), .val (.ref a), .val (.double ev0), .second, .val (.double ev1), .second, .val (.double ev2), .second, .val (.int (1 : Int32)), .val (.int (1 : Int32))] [])) (fun _ k => XS.ifNo X29.here hx rfl (hb hby at_147) rfl (by decide) k) ?_
  refine Goes.by (T' := T29) (g' := (mkF m 151 #[.val (.int x0), .val (.int x1), .val (.int x2), .val (.int x3), .val (.int x4), .val (.int x5), .val (.ref a), .val (.double ev0), .second, .val (.double ev1), .second, .val (.double ev2), .second, .val (.int (1 : Int32)), .val (.int (1 : Int32))] [(.int (1 : Int32))])) (fun _ k => XS.iconst X29.here hx rfl (hb hby at_150)  k) ?_
  refine Goes.by (T' := T29) (g' := (mkF m 155 #[.val (.int x0), .val (.int x1), .val (.int x2), .val (.int x3), .val (.int x4), .val (.int x5), .val (.ref a), .val (.double ev0), .second, .val (.double ev1), .second, .val (.double ev2), .second, .val (.int (1 : Int32)), .val (.int (1 : Int32))] [(.int (1 : Int32))])) (fun _ k => XS.goto X29.here hx rfl (pc0 := 151) (pc' := 155) rfl (hb hby at_151) (by decide) (by decide) k) ?_
  exact outZ X29 hx hlk hret (hb hby at_155) (by exact ⟨rfl, N0⟩) (by decide) (by decide)
set_option maxRecDepth 65536 in
set_option maxHeartbeats 40000000 in
theorem comes_1 {Post : Tables → Env → Array Value → State → Outcome → State → Prop} (hpost : ∀ tb e args s v u, (limb_1_1.after args s (.returned v) u = true ∧ limb_1_2.after args s (.returned v) u = true ∧ True) → FrameEnd s (.returned v) u (Jvm.fieldLocs frame_1_writes args s ++ Jvm.arrayLocs frame_1_arrays args s ++ Jvm.staticLocs frame_1_statics s) 16 128 → Post tb e args s (.returned v) u) :
    ArmFor flags0 classFile x code maxLocals ret World_1 tables_1 room_1 Calls_1 rest_1 Pre_1 Post := by
  intro l hfl _ _ p e ha hc hk s m args below hf hA hF happ hP
  obtain ⟨hcalls, hrest, hpre⟩ := hP
  obtain ⟨-, -, -, hnamed, -, -, -, hat⟩ := (Spec.applies_iff hf).mp happ
  obtain ⟨hg, hn⟩ := and_e (Cond.before_iff.mp (show (Jvm.Cond.and given_1 narrow_1).before args s = true from hpre))
  obtain ⟨g0, t0⟩ := and_e hg
  obtain ⟨g1, t1⟩ := and_e t0
  obtain ⟨g2, t2⟩ := and_e t1
  obtain ⟨g3, t3⟩ := and_e t2
  obtain ⟨g4, t4⟩ := and_e t3
  obtain ⟨g5, t5⟩ := and_e t4
  obtain ⟨w0, w1, w2, w3, w4, w5, rfl⟩ : ∃ w0 w1 w2 w3 w4 w5 : Value, args = #[w0, w1, w2, w3, w4, w5] := by
    have hs : args.size = 6 := by simpa [Cond.value, given_1] using g0
    obtain ⟨L⟩ := args
    match L, hs with
    | [w0, w1, w2, w3, w4, w5], _ => exact ⟨w0, w1, w2, w3, w4, w5, rfl⟩
  have hw := fun d (hd : d ∈ tables_1) => atoms_spec (ws := Jvm.Cond.code x code maxLocals ret :: tables_1) hat d (List.mem_cons_of_mem _ hd)
  obtain ⟨i0, e0⟩ := is_v g1
  obtain rfl : w0 = (.int i0) := Option.some.inj e0
  obtain ⟨i1, e1⟩ := is_v g2
  obtain rfl : w1 = (.int i1) := Option.some.inj e1
  obtain ⟨i2, e2⟩ := is_v g3
  obtain rfl : w2 = (.int i2) := Option.some.inj e2
  obtain ⟨i3, e3⟩ := is_v g4
  obtain rfl : w3 = (.int i3) := Option.some.inj e3
  obtain ⟨i4, e4⟩ := is_v g5
  obtain rfl : w4 = (.int i4) := Option.some.inj e4
  obtain ⟨i5, e5⟩ := is_v t5
  obtain rfl : w5 = (.int i5) := Option.some.inj e5
  obtain ⟨n, o, h1, h2, h3, _, L, rfl, ⟨rfl, N⟩, hq⟩ := rm_law l s _ hw i0 i1 i2 i3 i4 i5 s.heap s.heap.size (Nat.le_refl _)  p e ha hc hk s m _ below hf ((Spec.applies_iff_loose hf).mp happ).1 ⟨rfl, State.Warmed39.refl s, rfl⟩ trivial
  refine ⟨n, _, h1, h2, h3, hpost _ _ _ _ _ _ ⟨Cond.after_iff.mpr rfl, Cond.after_iff.mpr (eq_i res_at (Term.int_eval (1)) rfl), trivial⟩ ⟨hq.1, hq.2.1, (hq.2.2.sift fun y hy => Or.inr (N y hy)).mono (by decide) (by decide)⟩⟩
theorem main_1_1 : Claimed_1_1 := comes_1 fun _ _ _ _ _ _ h hF => ⟨h.1, hF⟩
theorem main_1_2 : Claimed_1_2 := comes_1 fun _ _ _ _ _ _ h hF => ⟨h.2.1, hF⟩
end Jvm.Pilot.@@N@@
namespace Jvm.Pilot.@@N@@
open Jvm Jvm.ClassFile Sem Op Lib Jvm.Free Jvm.Stand Jvm.Pilot.@@N@@.Jvm.D
/-! MADE BY PROGRAM (witnessworld.py) out of the Statement's table words and the real class files: 9 classes; the members and pool entries that the words name. The judged class is class 1, her method 1. -/
namespace start1
open Jvm.ClassFile
def u (s : String) : CpInfo := .utf8 (stringToUtf16 s)
/-- a pool by its gaps: so many unusable entries, then the entry; so many at the end -/
def gap : Nat → List CpInfo → List CpInfo
  | 0, r => r
  | n + 1, r => .unusable :: gap n r
def poolList (es : List (Nat × CpInfo)) (last : Nat) : List CpInfo := es.foldr (fun e r => gap e.1 (e.2 :: r)) (gap last [])
def pool (es : List (Nat × CpInfo)) (last : Nat) : Array CpInfo := ⟨poolList es last⟩
def fileOf (pool : Array CpInfo) (this : Nat) (attrs : Array Attribute := #[]) (ms : Array MethodInfo := #[]) (fl : Nat := 33) (sup : Nat := 0) (ifs : Array Nat := #[]) (fds : Array FieldInfo := #[]) : ClassFile where
  minorVersion := 0
  majorVersion := 65
  constantPool := pool
  accessFlags := fl
  thisClass := this
  superClass := sup
  interfaces := ifs
  fields := fds
  methods := ms
  attributes := attrs
def plain (name : String) (sup : Option ClassId) : Class where
  name := name
  kind := .ordinary
  loader := none
  accessFlags := 33
  super := sup
  interfaces := #[]
  cf := none
  fields := #[]
  methods := #[]
  instanceTypes := #[]
  staticTypes := #[]
  resolved := #[]
  callSites := []
  init := .initialized
  statics := none
  mirror := none

def pool0 : Array CpInfo := pool [(5, u "<init>"), (0, u "()V"), (1, .class_ 10), (1, u "java/lang/Object")] 113

def k0c0 : Code := { maxStack := 0, maxLocals := 1, code := object_method_1_code, exceptionTable := #[], attributes := #[] }
def k0m0 : Method := { name := "<init>", desc := "()V", sig := { parameters := [], returnType := none }, accessFlags := 1, code := some k0c0 }
/-- java/lang/Object -/
def k0 : Class := { plain "java/lang/Object" none with
  accessFlags := 33
  interfaces := #[]
  cf := some (fileOf pool0 8 #[] #[{ accessFlags := 1, nameIndex := 5, descriptorIndex := 6, attributes := #[] }] 33 0 #[] #[])
  fields := #[]
  methods := #[k0m0]
  instanceTypes := #[]
  staticTypes := #[]
  resolved := Array.replicate 124 none
  statics := none }

def pool1 : Array CpInfo := pool [(2, .class_ 4), (1, u "java/lang/Object"), (0, u "<init>"), (0, u "()V"), (0, .class_ 8), (0, u "com/example/brinewright/brinewright/ResidualHelmholtz"), (0, .methodref 7 10), (0, .nameAndType 5 11), (0, u "(I)V"), (0, .methodref 7 13), (0, .nameAndType 14 15), (0, u "add"), (0, u "(DDD)V"), (0, .methodref 7 17), (0, .nameAndType 18 19), (0, u "value"), (0, u "()D"), (0, .methodref 7 21), (0, .nameAndType 22 19), (0, u "dV"), (0, .methodref 7 24), (0, .nameAndType 25 19), (0, u "dV2"), (0, .methodref 7 27), (0, .nameAndType 28 29), (0, u "dN"), (0, u "(I)D"), (0, .methodref 7 31), (0, .nameAndType 32 29), (0, u "dNdV"), (0, .methodref 7 34), (0, .nameAndType 35 29), (0, u "dNAtFreeVolume"), (0, .class_ 37), (0, u "com/example/brinewright/brinewright/ResidualHelmholtzAddPinLaw"), (2, u "law"), (0, u "(IIIIII)Z")] 3

def k1m0 : Method := { name := "<init>", desc := "()V", sig := { parameters := [], returnType := none }, accessFlags := 1, code := none }
def k1c1 : Code := { maxStack := 7, maxLocals := 15, code := code, exceptionTable := #[], attributes := #[] }
def k1m1 : Method := { name := "law", desc := "(IIIIII)Z", sig := { parameters := [.int, .int, .int, .int, .int, .int], returnType := some .boolean }, accessFlags := 9, code := some k1c1 }
/-- com/example/brinewright/brinewright/ResidualHelmholtzAddPinLaw -/
def k1 : Class := { plain "com/example/brinewright/brinewright/ResidualHelmholtzAddPinLaw" (some 0) with
  accessFlags := 49
  interfaces := #[]
  cf := some (fileOf pool1 36 #[] #[{ accessFlags := 1, nameIndex := 5, descriptorIndex := 6, attributes := #[] }, { accessFlags := 9, nameIndex := 40, descriptorIndex := 41, attributes := #[] }] 49 2 #[] #[])
  fields := #[]
  methods := #[k1m0, k1m1]
  instanceTypes := #[]
  staticTypes := #[]
  resolved := Array.replicate 45 none
  statics := none }

def pool2 : Array CpInfo := pool [(1, .methodref 2 3), (0, .class_ 4), (0, .nameAndType 5 6), (0, u "java/lang/Object"), (0, u "<init>"), (0, u "()V"), (0, .fieldref 8 9), (0, .class_ 10), (0, .nameAndType 11 12), (0, u "com/example/brinewright/brinewright/ResidualHelmholtz"), (0, u "dN"), (0, u "[D"), (0, .fieldref 8 14), (0, .nameAndType 15 12), (0, u "dNdV"), (0, .fieldref 8 17), (0, .nameAndType 18 12), (0, u "dNAtFreeVolume"), (0, .fieldref 8 20), (0, .nameAndType 21 22), (0, u "value"), (0, u "D"), (0, .fieldref 8 24), (0, .nameAndType 25 22), (0, u "dV"), (0, .fieldref 8 27), (0, .nameAndType 28 22), (0, u "dV2"), (0, u "(I)V"), (2, u "add"), (0, u "(DDD)V"), (2, u "()D"), (0, u "(I)D")] 2

def k2c0 : Code := { maxStack := 2, maxLocals := 2, code := prog_47_method_1_code, exceptionTable := #[], attributes := #[] }
def k2m0 : Method := { name := "<init>", desc := "(I)V", sig := { parameters := [.int], returnType := none }, accessFlags := 0, code := some k2c0 }
def k2c1 : Code := { maxStack := 5, maxLocals := 7, code := prog_47_method_2_code, exceptionTable := #[], attributes := #[] }
def k2m1 : Method := { name := "add", desc := "(DDD)V", sig := { parameters := [.double, .double, .double], returnType := none }, accessFlags := 0, code := some k2c1 }
def k2c2 : Code := { maxStack := 2, maxLocals := 1, code := prog_47_method_4_code, exceptionTable := #[], attributes := #[] }
def k2m2 : Method := { name := "value", desc := "()D", sig := { parameters := [], returnType := some .double }, accessFlags := 0, code := some k2c2 }
def k2c3 : Code := { maxStack := 2, maxLocals := 1, code := prog_47_method_5_code, exceptionTable := #[], attributes := #[] }
def k2m3 : Method := { name := "dV", desc := "()D", sig := { parameters := [], returnType := some .double }, accessFlags := 0, code := some k2c3 }
def k2c4 : Code := { maxStack := 2, maxLocals := 1, code := prog_47_method_6_code, exceptionTable := #[], attributes := #[] }
def k2m4 : Method := { name := "dV2", desc := "()D", sig := { parameters := [], returnType := some .double }, accessFlags := 0, code := some k2c4 }
def k2c5 : Code := { maxStack := 2, maxLocals := 2, code := prog_47_method_7_code, exceptionTable := #[], attributes := #[] }
def k2m5 : Method := { name := "dN", desc := "(I)D", sig := { parameters := [.int], returnType := some .double }, accessFlags := 0, code := some k2c5 }
def k2c6 : Code := { maxStack := 2, maxLocals := 2, code := prog_47_method_8_code, exceptionTable := #[], attributes := #[] }
def k2m6 : Method := { name := "dNdV", desc := "(I)D", sig := { parameters := [.int], returnType := some .double }, accessFlags := 0, code := some k2c6 }
def k2c7 : Code := { maxStack := 2, maxLocals := 2, code := prog_47_method_9_code, exceptionTable := #[], attributes := #[] }
def k2m7 : Method := { name := "dNAtFreeVolume", desc := "(I)D", sig := { parameters := [.int], returnType := some .double }, accessFlags := 0, code := some k2c7 }
/-- com/example/brinewright/brinewright/ResidualHelmholtz -/
def k2 : Class := { plain "com/example/brinewright/brinewright/ResidualHelmholtz" (some 0) with
  accessFlags := 48
  interfaces := #[]
  cf := some (fileOf pool2 8 #[] #[{ accessFlags := 0, nameIndex := 5, descriptorIndex := 29, attributes := #[] }, { accessFlags := 0, nameIndex := 32, descriptorIndex := 33, attributes := #[] }, { accessFlags := 0, nameIndex := 21, descriptorIndex := 36, attributes := #[] }, { accessFlags := 0, nameIndex := 25, descriptorIndex := 36, attributes := #[] }, { accessFlags := 0, nameIndex := 28, descriptorIndex := 36, attributes := #[] }, { accessFlags := 0, nameIndex := 11, descriptorIndex := 37, attributes := #[] }, { accessFlags := 0, nameIndex := 15, descriptorIndex := 37, attributes := #[] }, { accessFlags := 0, nameIndex := 18, descriptorIndex := 37, attributes := #[] }] 48 2 #[] #[{ accessFlags := 2, nameIndex := 21, descriptorIndex := 22, attributes := #[] }, { accessFlags := 2, nameIndex := 25, descriptorIndex := 22, attributes := #[] }, { accessFlags := 2, nameIndex := 28, descriptorIndex := 22, attributes := #[] }, { accessFlags := 18, nameIndex := 11, descriptorIndex := 12, attributes := #[] }, { accessFlags := 18, nameIndex := 15, descriptorIndex := 12, attributes := #[] }, { accessFlags := 18, nameIndex := 18, descriptorIndex := 12, attributes := #[] }])
  fields := #[{ name := "value", type := .double, accessFlags := 2, slot := 0, constantValue := 0 }, { name := "dV", type := .double, accessFlags := 2, slot := 1, constantValue := 0 }, { name := "dV2", type := .double, accessFlags := 2, slot := 2, constantValue := 0 }, { name := "dN", type := (.array .double), accessFlags := 18, slot := 3, constantValue := 0 }, { name := "dNdV", type := (.array .double), accessFlags := 18, slot := 4, constantValue := 0 }, { name := "dNAtFreeVolume", type := (.array .double), accessFlags := 18, slot := 5, constantValue := 0 }]
  methods := #[k2m0, k2m1, k2m2, k2m3, k2m4, k2m5, k2m6, k2m7]
  instanceTypes := #[.double, .double, .double, (.array .double), (.array .double), (.array .double)]
  staticTypes := #[]
  resolved := Array.replicate 40 none
  statics := none }

def pool3 : Array CpInfo := pool [(1, u "java/lang/Cloneable"), (0, .class_ 1), (0, u "java/lang/Object"), (0, .class_ 3)] 3

/-- java/lang/Cloneable -/
def k3 : Class := { plain "java/lang/Cloneable" (some 0) with
  accessFlags := 1537
  interfaces := #[]
  cf := some (fileOf pool3 2 #[] #[] 1537 4 #[] #[])
  fields := #[]
  methods := #[]
  instanceTypes := #[]
  staticTypes := #[]
  resolved := Array.replicate 8 none
  statics := none }

def pool4 : Array CpInfo := pool [(1, u "java/io/Serializable"), (0, .class_ 1), (0, u "java/lang/Object"), (0, .class_ 3)] 3

/-- java/io/Serializable -/
def k4 : Class := { plain "java/io/Serializable" (some 0) with
  accessFlags := 1537
  interfaces := #[]
  cf := some (fileOf pool4 2 #[] #[] 1537 4 #[] #[])
  fields := #[]
  methods := #[]
  instanceTypes := #[]
  staticTypes := #[]
  resolved := Array.replicate 8 none
  statics := none }

/-- the primitive byte -/
def k5 : Class := { plain "byte" none with kind := .primitive 'B', accessFlags := 0x411 }
/-- [B -/
def k6 : Class := { plain "[B" (some 0) with kind := .array 5 .byte, interfaces := #[3, 4], accessFlags := 1041 }

/-- the primitive int -/
def k7 : Class := { plain "int" none with kind := .primitive 'I', accessFlags := 0x411 }
/-- [I -/
def k8 : Class := { plain "[I" (some 0) with kind := .array 7 .int, interfaces := #[3, 4], accessFlags := 1041 }

/-- the primitive double -/
def k9 : Class := { plain "double" none with kind := .primitive 'D', accessFlags := 0x411 }
/-- [D -/
def k10 : Class := { plain "[D" (some 0) with kind := .array 9 .double, interfaces := #[3, 4], accessFlags := 1041 }
def heap : Heap := #[]
def classes : Array Class := #[k0, k1, k2, k3, k4, k5, k6, k7, k8, k9, k10]
def interned : List (Array UInt16 × Addr) := []
def slotsUsed : Nat := 0
def theMethod : MethodId := ⟨1, 1⟩
def args0 : Array Value := #[.int 5, .int 5, .int 5, .int 5, .int 5, .int 5]
def aboutOver (below : List Frame) : State where
  vm := { classes := classes, interned := interned.toArray }
  heap := heap
  slotsUsed := slotsUsed
  threads := #[{ frames := .invoking theMethod args0 :: below }]
def below0 : List Frame := [.native { method := ⟨0, 0⟩, args := #[] }]
def about1 : State := aboutOver below0
def p0 : Program := .bare "" "" ""
def e0 : Env := launch0.env 0 0 0
theorem w_frames : about1.frames = Frame.invoking theMethod args0 :: below0 := rfl
set_option maxRecDepth 65536 in
theorem w_args : argsFit about1.vm theMethod args0 = true := by decide +kernel
set_option maxRecDepth 65536 in
theorem w_heap : heapFits about1 = true := by decide +kernel
set_option maxRecDepth 65536 in
theorem w_runnable : about1.curStatus? = some .runnable := by decide +kernel
set_option maxRecDepth 65536 in
theorem w_alone : about1.alone = true := by decide +kernel
set_option maxRecDepth 65536 in
theorem w_named : about1.methodNamed? x = some theMethod := by decide +kernel
set_option maxRecDepth 65536 in
theorem w_hears : about1.hears theMethod below0 = true := by decide +kernel
set_option maxRecDepth 65536 in
theorem w_ripe : about1.ripe theMethod args0 below0 = true := by decide +kernel
theorem w_running : about1.status = .running := rfl
set_option maxRecDepth 65536 in
theorem w_room : about1.hasRoom e0.platform room_1 = true :=
  launch0.hasRoom_least _ room_1 (by decide +kernel) (by decide +kernel) (by decide +kernel) (by decide +kernel) (by decide +kernel) (by decide +kernel)
theorem allAtoms_all (ts : List Jvm.Cond) (a : Array Jvm.Value) (st : Jvm.State) : (allAtoms ts).before a st = ts.all (fun c => c.before a st) := by
  induction ts with
  | nil => rfl
  | cons c t ih =>
    show (Jvm.Cond.and c (allAtoms t)).before a st = _
    rw [Jvm.Cond.before_and, ih, List.all_cons]
def words1 : List Jvm.Cond := Jvm.Cond.code x code maxLocals ret :: tables_1
/-- a 'code' word, met by the world's own term for the bytes: nothing is compared byte by byte -/
theorem code_word {y : MethodName} {bytes : ByteArray} {mx : Nat} {rt : Option FieldType} {a : Array Value} {s : State} {m : MethodId} {meth : Method} {c : Code} (h1 : s.methodNamed? y = some m) (h2 : s.vm.method? m = some meth) (h3 : meth.code = some c) (h4 : c.code = bytes)
    (h5 : (c.maxLocals == mx && c.exceptionTable.isEmpty && decide (c.maxStack ≤ mostOperands) && decide (meth.sig.returnType = rt) && !meth.locks && decide (parseMethodDescriptor y.desc = some meth.sig)) = true) : (Jvm.Cond.code y bytes mx rt).before a s = true := by
  simp only [Bool.and_eq_true, beq_iff_eq, Bool.not_eq_true', decide_eq_true_eq] at h5
  obtain ⟨⟨⟨⟨⟨g1, g2⟩, g3⟩, g4⟩, g5⟩, g6⟩ := h5
  simp [Cond.before, Cond.holds, Cond.value, h1, h2, h3, h4, g1, g2, g3, g4, g5, g6]
def isCode : Jvm.Cond → Bool
  | .code _ _ _ _ => true
  | _ => false
theorem all_split {L : List Jvm.Cond} {P : Jvm.Cond → Bool} (h1 : L.all (fun c => isCode c || P c) = true) (h2 : ∀ c ∈ L.filter isCode, P c = true) : L.all P = true := by
  refine List.all_eq_true.mpr fun c hc => ?_
  have h := List.all_eq_true.mp h1 c hc
  rcases Bool.eq_false_or_eq_true (isCode c) with hi | hi
  · exact h2 c (List.mem_filter.mpr ⟨hc, hi⟩)
  · simpa [hi] using h
set_option maxRecDepth 65536 in
theorem w_c0 : (Jvm.Cond.code x code maxLocals ret).before args0 about1 = true := code_word (m := ⟨1, 1⟩) (meth := k1m1) (c := k1c1) (by decide +kernel) rfl rfl rfl (by decide +kernel)
set_option maxRecDepth 65536 in
theorem w_c1 : (Jvm.Cond.code ({ cls := "com/example/brinewright/brinewright/ResidualHelmholtz", name := "<init>", desc := "(I)V" } : Jvm.MethodName) prog_47_method_1_code (2 : Nat) (Option.none : Option Jvm.ClassFile.FieldType)).before args0 about1 = true := code_word (m := ⟨2, 0⟩) (meth := k2m0) (c := k2c0) (by decide +kernel) rfl rfl rfl (by decide +kernel)
set_option maxRecDepth 65536 in
theorem w_c2 : (Jvm.Cond.code ({ cls := "java/lang/Object", name := "<init>", desc := "()V" } : Jvm.MethodName) object_method_1_code (1 : Nat) (Option.none : Option Jvm.ClassFile.FieldType)).before args0 about1 = true := code_word (m := ⟨0, 0⟩) (meth := k0m0) (c := k0c0) (by decide +kernel) rfl rfl rfl (by decide +kernel)
set_option maxRecDepth 65536 in
theorem w_c3 : (Jvm.Cond.code ({ cls := "com/example/brinewright/brinewright/ResidualHelmholtz", name := "add", desc := "(DDD)V" } : Jvm.MethodName) prog_47_method_2_code (7 : Nat) (Option.none : Option Jvm.ClassFile.FieldType)).before args0 about1 = true := code_word (m := ⟨2, 1⟩) (meth := k2m1) (c := k2c1) (by decide +kernel) rfl rfl rfl (by decide +kernel)
set_option maxRecDepth 65536 in
theorem w_c4 : (Jvm.Cond.code ({ cls := "com/example/brinewright/brinewright/ResidualHelmholtz", name := "value", desc := "()D" } : Jvm.MethodName) prog_47_method_4_code (1 : Nat) (Option.some Jvm.ClassFile.FieldType.double)).before args0 about1 = true := code_word (m := ⟨2, 2⟩) (meth := k2m2) (c := k2c2) (by decide +kernel) rfl rfl rfl (by decide +kernel)
set_option maxRecDepth 65536 in
theorem w_c5 : (Jvm.Cond.code ({ cls := "com/example/brinewright/brinewright/ResidualHelmholtz", name := "dV", desc := "()D" } : Jvm.MethodName) prog_47_method_5_code (1 : Nat) (Option.some Jvm.ClassFile.FieldType.double)).before args0 about1 = true := code_word (m := ⟨2, 3⟩) (meth := k2m3) (c := k2c3) (by decide +kernel) rfl rfl rfl (by decide +kernel)
set_option maxRecDepth 65536 in
theorem w_c6 : (Jvm.Cond.code ({ cls := "com/example/brinewright/brinewright/ResidualHelmholtz", name := "dV2", desc := "()D" } : Jvm.MethodName) prog_47_method_6_code (1 : Nat) (Option.some Jvm.ClassFile.FieldType.double)).before args0 about1 = true := code_word (m := ⟨2, 4⟩) (meth := k2m4) (c := k2c4) (by decide +kernel) rfl rfl rfl (by decide +kernel)
set_option maxRecDepth 65536 in
theorem w_c7 : (Jvm.Cond.code ({ cls := "com/example/brinewright/brinewright/ResidualHelmholtz", name := "dN", desc := "(I)D" } : Jvm.MethodName) prog_47_method_7_code (2 : Nat) (Option.some Jvm.ClassFile.FieldType.double)).before args0 about1 = true := code_word (m := ⟨2, 5⟩) (meth := k2m5) (c := k2c5) (by decide +kernel) rfl rfl rfl (by decide +kernel)
set_option maxRecDepth 65536 in
theorem w_c8 : (Jvm.Cond.code ({ cls := "com/example/brinewright/brinewright/ResidualHelmholtz", name := "dNdV", desc := "(I)D" } : Jvm.MethodName) prog_47_method_8_code (2 : Nat) (Option.some Jvm.ClassFile.FieldType.double)).before args0 about1 = true := code_word (m := ⟨2, 6⟩) (meth := k2m6) (c := k2c6) (by decide +kernel) rfl rfl rfl (by decide +kernel)
set_option maxRecDepth 65536 in
theorem w_c9 : (Jvm.Cond.code ({ cls := "com/example/brinewright/brinewright/ResidualHelmholtz", name := "dNAtFreeVolume", desc := "(I)D" } : Jvm.MethodName) prog_47_method_9_code (2 : Nat) (Option.some Jvm.ClassFile.FieldType.double)).before args0 about1 = true := code_word (m := ⟨2, 7⟩) (meth := k2m7) (c := k2c7) (by decide +kernel) rfl rfl rfl (by decide +kernel)
def codes1 : List Jvm.Cond := [Jvm.Cond.code x code maxLocals ret, Jvm.Cond.code ({ cls := "com/example/brinewright/brinewright/ResidualHelmholtz", name := "<init>", desc := "(I)V" } : Jvm.MethodName) prog_47_method_1_code (2 : Nat) (Option.none : Option Jvm.ClassFile.FieldType), Jvm.Cond.code ({ cls := "java/lang/Object", name := "<init>", desc := "()V" } : Jvm.MethodName) object_method_1_code (1 : Nat) (Option.none : Option Jvm.ClassFile.FieldType), Jvm.Cond.code ({ cls := "com/example/brinewright/brinewright/ResidualHelmholtz", name := "add", desc := "(DDD)V" } : Jvm.MethodName) prog_47_method_2_code (7 : Nat) (Option.none : Option Jvm.ClassFile.FieldType), Jvm.Cond.code ({ cls := "com/example/brinewright/brinewright/ResidualHelmholtz", name := "value", desc := "()D" } : Jvm.MethodName) prog_47_method_4_code (1 : Nat) (Option.some Jvm.ClassFile.FieldType.double), Jvm.Cond.code ({ cls := "com/example/brinewright/brinewright/ResidualHelmholtz", name := "dV", desc := "()D" } : Jvm.MethodName) prog_47_method_5_code (1 : Nat) (Option.some Jvm.ClassFile.FieldType.double), Jvm.Cond.code ({ cls := "com/example/brinewright/brinewright/ResidualHelmholtz", name := "dV2", desc := "()D" } : Jvm.MethodName) prog_47_method_6_code (1 : Nat) (Option.some Jvm.ClassFile.FieldType.double), Jvm.Cond.code ({ cls := "com/example/brinewright/brinewright/ResidualHelmholtz", name := "dN", desc := "(I)D" } : Jvm.MethodName) prog_47_method_7_code (2 : Nat) (Option.some Jvm.ClassFile.FieldType.double), Jvm.Cond.code ({ cls := "com/example/brinewright/brinewright/ResidualHelmholtz", name := "dNdV", desc := "(I)D" } : Jvm.MethodName) prog_47_method_8_code (2 : Nat) (Option.some Jvm.ClassFile.FieldType.double), Jvm.Cond.code ({ cls := "com/example/brinewright/brinewright/ResidualHelmholtz", name := "dNAtFreeVolume", desc := "(I)D" } : Jvm.MethodName) prog_47_method_9_code (2 : Nat) (Option.some Jvm.ClassFile.FieldType.double)]
set_option maxRecDepth 65536 in
theorem codes_eq : words1.filter isCode = codes1 := rfl
theorem w_codes : ∀ c ∈ words1.filter isCode, c.before args0 about1 = true := by
  rw [codes_eq]
  intro c hc
  simp only [codes1, List.mem_cons, List.not_mem_nil, or_false] at hc
  rcases hc with rfl | rfl | rfl | rfl | rfl | rfl | rfl | rfl | rfl | rfl
  · exact w_c0
  · exact w_c1
  · exact w_c2
  · exact w_c3
  · exact w_c4
  · exact w_c5
  · exact w_c6
  · exact w_c7
  · exact w_c8
  · exact w_c9
set_option maxRecDepth 65536 in
theorem w_t1 : (words1.take 24).all (fun c => isCode c || c.before args0 about1) = true := by decide +kernel
set_option maxRecDepth 65536 in
theorem w_t2 : ((words1.drop 24).take 24).all (fun c => isCode c || c.before args0 about1) = true := by decide +kernel
set_option maxRecDepth 65536 in
theorem w_t3 : ((words1.drop 24).drop 24).all (fun c => isCode c || c.before args0 about1) = true := by decide +kernel
theorem w_tables : (allAtoms (Jvm.Cond.code x code maxLocals ret :: tables_1)).before args0 about1 = true := by
  rw [allAtoms_all]
  show words1.all (fun c => c.before args0 about1) = true
  refine all_split ?_ w_codes
  rw [← List.take_append_drop 24 words1, List.all_append, w_t1, ← List.take_append_drop 24 (words1.drop 24), List.all_append, w_t2, w_t3]
  rfl
set_option maxRecDepth 65536 in
theorem w_case : (Jvm.Cond.and given_1 narrow_1).before args0 about1 = true := by decide +kernel
theorem w_applies : (headSpec (Jvm.Cond.code x code maxLocals ret :: tables_1) room_1).applies x e0.platform about1 = true :=
  (Spec.applies_iff w_frames).mpr ⟨w_running, w_runnable, w_alone, w_named, w_hears, w_ripe, w_room, w_tables⟩
theorem atStart : AtStart classFile x code maxLocals ret World_1 tables_1 room_1 Calls_1 rest_1 Pre_1 launch0 p0 e0 about1 theMethod args0 below0 :=
  ⟨lists_1, trivial, launch0.admits_env _ _ _, launch0.least_env, fairChoices_fair.cas, fairChoices_fair.clock, w_frames, w_args, w_heap, w_applies, trivial, trivial, w_case⟩
end start1
theorem witness_1 : WitnessClaimed_1 := ⟨start1.p0, start1.e0, start1.about1, start1.theMethod, start1.args0, start1.below0, start1.atStart⟩
end Jvm.Pilot.@@N@@
