import JvmDerived
import JvmDerived.Pilot.@@N@@Statement
import JvmDerived.Pilot.@@N@@Code
set_option linter.unusedVariables false
set_option linter.unusedSimpArgs false
namespace Jvm.RoadKit
open Sem ClassFile Op Lib Jvm.Stand Jvm.Free Jvm.LawKit
/-! own_: walks written forward: 'Goes P T g': from the frame g at T the run comes to a state that P takes. -/
def Goes (p : Program) (e : Env) (below : List Frame) (P : State → Prop) (T : State) (g : JFrame) : Prop := ∃ t, Steps p.tables e below (T.setTop g) t ∧ P t
/-- how a body ends: it returned v, and Q holds of v, the heap and the places written -/
def Fin1 (below : List Frame) (s : State) (rm : Room) (Q : Option Value → Heap → List Loc → Prop) (t : State) : Prop :=
  ∃ o, t.status = .running ∧ Ended t below o ∧ ∃ v L, o = .returned v ∧ Q v t.heap L ∧ FrameEnd s o t L rm.cells rm.slots
/-- a body's contract -/
def Does (l : Launch) (y : MethodName) (bytes : ByteArray) (maxL : Nat) (ret : Option FieldType) (ws : List Cond) (rm : Room) (Z : State) (as' : Array Value) (h : Heap) (Q : Option Value → Heap → List Loc → Prop) : Prop :=
  MetFree l y (head1 (Cond.code y bytes maxL ret :: ws) rm) (fun a U => a = as' ∧ Z.Warmed39 U.vm ∧ U.heap = h) (fun _ _ _ _ _ => True) (fun _ U o U' => ∃ v L, o = .returned v ∧ Q v U'.heap L ∧ FrameEnd U o U' L rm.cells rm.slots)
section Own
variable {p : Program} {l : Launch} {e : Env} {R : Room} {s : State} {m : MethodId} {args : Array Value} {below : List Frame} {meth : Method} {c : Code} {T T' : State} {locs : List Loc} {cells slots : Nat} {Z : State} {a0 : Array Value} {h h' : Heap} {g g' : JFrame} {P : State → Prop}
theorem Goes.by (st : ∀ target, Steps p.tables e below (T'.setTop g') target → Steps p.tables e below (T.setTop g) target) (k : Goes p e below P T' g') : Goes p e below P T g := by
  obtain ⟨t, h1, h2⟩ := k
  exact ⟨t, st _ h1, h2⟩
theorem Goes.cast (q : g = g') (k : Goes p e below P T g') : Goes p e below P T g := q ▸ k
theorem Does.of {y : MethodName} {bytes : ByteArray} {maxL : Nat} {ret : Option FieldType} {ws : List Cond} {rm : Room} {as' : Array Value} {Q : Option Value → Heap → List Loc → Prop} (hp : plainFor y = true)
    (body : ∀ (p : Program) (e : Env) (s : State) (m : MethodId) (below : List Frame) (meth : Method) (c : Code) (s₁ : State), p.tables.exec = Jvm.exec → c.code = bytes → c.maxLocals = maxL → meth.sig.returnType = ret → meth.locks = false → Z.Warmed39 s.vm → s.vm.findClass y.cls = some m.cls → meth.name = y.name → Stand p l e rm s m as' below meth c s₁ [] 0 0 → s₁.heap = h →
      Goes p e below (Fin1 below s rm Q) s₁ (entryFrame m as' maxL)) : Does l y bytes maxL ret ws rm Z as' h Q := by
  refine MetFree.of_bodySF hp hisR ?_
  intro p e s m args below meth c s₁ Bd hml0 hP hK
  obtain ⟨rfl, hZ, hh⟩ := hP
  have e0 : s₁.heap = h := by rw [← hh, Bd.state]; rfl
  obtain ⟨t, h1, o, h2⟩ := body p e s m below meth c s₁ Bd.exec Bd.bytes hml0 Bd.returns Bd.notSynchronized hZ (findClass_of_methodNamed Bd.named) ((name_of_methodNamed Bd.named Bd.method).1) (Stand.of_body Bd) e0
  exact ⟨t, o, h1, h2⟩
theorem fin_of {rm : Room} {Q : Option Value → Heap → List Loc → Prop} {v : Option Value} (X : Stand p l e R s m args below meth c T locs cells slots) (hlk : meth.locks = false) (hv : meth.sig.returnType = none → v = none) (hQ : Q v T.heap locs) (hc : cells ≤ rm.cells) (hs : slots ≤ rm.slots)
    (st : ∀ fs, (∀ (f : JFrame) (acts : List Action), f.method = m → f.locked = none → f.entered = [] → (doReturn e (T.setTop f) acts v).1 = T.setFrames fs) → Steps p.tables e below (T.setTop g) (T.setFrames fs)) : Goes p e below (Fin1 below s rm Q) T g := by
  obtain ⟨fs, hr, hrun, hended, hW, hsame⟩ := X.leave (v := v) hv hlk
  exact ⟨_, st fs hr, _, hrun, hended, _, _, rfl, hQ, ⟨_, rfl⟩, hW, hsame.mono hc hs⟩
theorem outV {rm : Room} {Q : Option Value → Heap → List Loc → Prop} {pc : Nat} {Ls : Array Slot} (X : Stand p l e R s m args below meth c T locs cells slots) (hx : p.tables.exec = Jvm.exec) (hlk : meth.locks = false) (hret : meth.sig.returnType = none) (hd : decode c.code pc = .ok (.return_, 1)) (hQ : Q none T.heap locs) (hc : cells ≤ rm.cells) (hs : slots ≤ rm.slots) : Goes p e below (Fin1 below s rm Q) T (mkF m pc Ls []) :=
  fin_of X hlk (fun _ => rfl) hQ hc hs fun fs hr => X.returnOut hx hret hd hr
theorem outZ {rm : Room} {Q : Option Value → Heap → List Loc → Prop} {pc : Nat} {Ls : Array Slot} {z : Int32} {rest : List Value} (X : Stand p l e R s m args below meth c T locs cells slots) (hx : p.tables.exec = Jvm.exec) (hlk : meth.locks = false) (hret : meth.sig.returnType = some .boolean) (hd : decode c.code pc = .ok (.ireturn, 1)) (hQ : Q (some (.int (nar .boolean z))) T.heap locs) (hc : cells ≤ rm.cells) (hs : slots ≤ rm.slots) : Goes p e below (Fin1 below s rm Q) T (mkF m pc Ls (.int z :: rest)) :=
  fin_of X hlk (fun h => by rw [hret] at h; cases h) hQ hc hs fun fs hr => retN X hx (t := .boolean) hret (by simp) hd hr
theorem outO {rm : Room} {Q : Option Value → Heap → List Loc → Prop} {pc : Nat} {Ls : Array Slot} {w : Value} {t : FieldType} {i : Instr} {rest : List Value} (X : Stand p l e R s m args below meth c T locs cells slots) (hx : p.tables.exec = Jvm.exec) (hlk : meth.locks = false) (hret : meth.sig.returnType = some t) (hn : narrow t w = w)
    (hi : (i = .ireturn ∧ (t = .int ∨ t = .boolean ∨ t = .byte ∨ t = .char ∨ t = .short) ∧ ∃ z, w = .int z) ∨ (i = .lreturn ∧ t = .long ∧ ∃ z, w = .long z) ∨ (i = .dreturn ∧ t = .double ∧ ∃ z, w = .double z) ∨ (i = .freturn ∧ t = .float ∧ ∃ z, w = .float z) ∨ (i = .areturn ∧ t.isReference = true ∧ w.isRef = true))
    (hd : decode c.code pc = .ok (i, 1)) (hQ : Q (some w) T.heap locs) (hc : cells ≤ rm.cells) (hs : slots ≤ rm.slots) : Goes p e below (Fin1 below s rm Q) T (mkF m pc Ls (w :: rest)) :=
  fin_of X hlk (fun h => by rw [hret] at h; cases h) hQ hc hs fun fs hr => retOut X hx hret hn hi hd hr
theorem outI {rm : Room} {Q : Option Value → Heap → List Loc → Prop} {pc : Nat} {Ls : Array Slot} {z : Int32} {rest : List Value} (X : Stand p l e R s m args below meth c T locs cells slots) (hx : p.tables.exec = Jvm.exec) (hlk : meth.locks = false) (hret : meth.sig.returnType = some .int) (hd : decode c.code pc = .ok (.ireturn, 1)) (hQ : Q (some (.int z)) T.heap locs) (hc : cells ≤ rm.cells) (hs : slots ≤ rm.slots) : Goes p e below (Fin1 below s rm Q) T (mkF m pc Ls (.int z :: rest)) :=
  outO X hx hlk hret rfl (Or.inl ⟨rfl, Or.inl rfl, _, rfl⟩) hd hQ hc hs
theorem outJ {rm : Room} {Q : Option Value → Heap → List Loc → Prop} {pc : Nat} {Ls : Array Slot} {z : Int64} {rest : List Value} (X : Stand p l e R s m args below meth c T locs cells slots) (hx : p.tables.exec = Jvm.exec) (hlk : meth.locks = false) (hret : meth.sig.returnType = some .long) (hd : decode c.code pc = .ok (.lreturn, 1)) (hQ : Q (some (.long z)) T.heap locs) (hc : cells ≤ rm.cells) (hs : slots ≤ rm.slots) : Goes p e below (Fin1 below s rm Q) T (mkF m pc Ls (.long z :: rest)) :=
  outO X hx hlk hret rfl (Or.inr (Or.inl ⟨rfl, rfl, _, rfl⟩)) hd hQ hc hs
theorem outD {rm : Room} {Q : Option Value → Heap → List Loc → Prop} {pc : Nat} {Ls : Array Slot} {z : UInt64} {rest : List Value} (X : Stand p l e R s m args below meth c T locs cells slots) (hx : p.tables.exec = Jvm.exec) (hlk : meth.locks = false) (hret : meth.sig.returnType = some .double) (hd : decode c.code pc = .ok (.dreturn, 1)) (hQ : Q (some (.double z)) T.heap locs) (hc : cells ≤ rm.cells) (hs : slots ≤ rm.slots) : Goes p e below (Fin1 below s rm Q) T (mkF m pc Ls (.double z :: rest)) :=
  outO X hx hlk hret rfl (Or.inr (Or.inr (Or.inl ⟨rfl, rfl, _, rfl⟩))) hd hQ hc hs
theorem outA {rm : Room} {Q : Option Value → Heap → List Loc → Prop} {pc : Nat} {Ls : Array Slot} {w : Value} {t : FieldType} {rest : List Value} (X : Stand p l e R s m args below meth c T locs cells slots) (hx : p.tables.exec = Jvm.exec) (hlk : meth.locks = false) (hret : meth.sig.returnType = some t) (ht : t.isReference = true) (hw : w.isRef = true) (hn : narrow t w = w) (hd : decode c.code pc = .ok (.areturn, 1)) (hQ : Q (some w) T.heap locs) (hc : cells ≤ rm.cells) (hs : slots ≤ rm.slots) : Goes p e below (Fin1 below s rm Q) T (mkF m pc Ls (w :: rest)) :=
  outO X hx hlk hret hn (Or.inr (Or.inr (Or.inr (Or.inr ⟨rfl, ht, hw⟩)))) hd hQ hc hs
/-! calls by a contract -/
theorem callI (X : Stand p l e R s m args below meth c T locs cells slots) (hx : p.tables.exec = Jvm.exec) (hZ : Z.Warmed39 s.vm) {own : String} {index : Nat} {y : MethodName} (hy1 : y.name = "<init>") (hown : s.vm.findClass own = some m.cls) {bytes : ByteArray} {maxL : Nat} {rm : Room}
    (w1 : (Cond.methodLink own index y).before a0 Z = true) (w2 : (Cond.instanceMethod y).before a0 Z = true) (w3 : (Cond.code y bytes maxL none).before a0 Z = true) (w4 : (Cond.initialized y.cls).before a0 Z = true) (hy : y.cls ≠ "java/lang/invoke/MethodHandle" ∧ y.cls ≠ "java/lang/invoke/VarHandle")
    (eT : T.heap = h) {a : Addr} {argsL rest : List Value} {as' : Array Value} {Q : Option Value → Heap → List Loc → Prop} {W : Nat} (hM : Does l y bytes maxL none [] rm Z as' h Q) (has : (.ref a :: argsL).toArray = as') (hf : rm.frames + 1 ≤ R.frames) (hl : W + (maxL + 11) + rm.locals ≤ R.locals)
    (hcc : cells + rm.cells ≤ R.cells) (hss : slots + rm.slots ≤ R.slots) {g : JFrame} (hg : g.method = m) (hsize : g.locals.size = c.maxLocals) (hlen : ∀ sig, parseMethodDescriptor y.desc = some sig → argsL.length = sig.parameters.length) (hst : g.stack = argsL.reverse ++ .ref a :: rest) (hW : 2 * g.monitorRoom + (rest.map fun v => v.category).sum ≤ W) (hd : decode c.code g.pc = .ok (.invokespecial index, 3)) :
    ∃ v T' L, Stand p l e R s m args below meth c T' (locs ++ L) (cells + rm.cells) (slots + rm.slots) ∧ Q v T'.heap L ∧ ∀ target, Steps p.tables e below (T'.setTop { g with pc := g.pc + 3, stack := v.toList ++ rest }) target → Steps p.tables e below (T.setTop g) target := by
  obtain ⟨v, vm1, ⟨T', L', k', n'⟩, -, X', ⟨L, hQ, e1, e2, e3⟩, st⟩ := X.specialBack hx (y := y) hy1 hown (mvT hZ w1) (mvT hZ w2) (mvT hZ w3) hy (backOf (W := W) hM hZ w3 w4 hf hl) hg hsize (Steps.refl _) hlen hst hW hd (fun _ _ => ⟨has, eT, hcc, hss⟩)
  dsimp only [Pt.U, Pt.locs, Pt.cells, Pt.slots] at X' e1 e2 e3 st hQ
  subst e1 e2 e3
  exact ⟨v, T', L, X', hQ, fun t k => st.trans k⟩
theorem callV (X : Stand p l e R s m args below meth c T locs cells slots) (hx : p.tables.exec = Jvm.exec) (hZ : Z.Warmed39 s.vm) {own C : String} {index : Nat} {y : MethodName} (hown : s.vm.findClass own = some m.cls) {bytes : ByteArray} {maxL : Nat} {ret : Option FieldType} {rm : Room}
    (w1 : (Cond.methodLink own index y).before a0 Z = true) (w2 : (Cond.declares y).before a0 Z = true) (w3 : (Cond.selects C y y).before a0 Z = true) (w4 : (Cond.instanceMethod y).before a0 Z = true) (w5 : (Cond.code y bytes maxL ret).before a0 Z = true) (w6 : (Cond.initialized y.cls).before a0 Z = true) (hy : y.cls ≠ "java/lang/invoke/MethodHandle" ∧ y.cls ≠ "java/lang/invoke/VarHandle")
    (eT : T.heap = h) {a : Addr} (E : Exa Z h a C) {argsL rest : List Value} {as' : Array Value} {Q : Option Value → Heap → List Loc → Prop} {W : Nat} (hM : Does l y bytes maxL ret [] rm Z as' h Q) (has : (.ref a :: argsL).toArray = as') (hf : rm.frames + 1 ≤ R.frames) (hl : W + (maxL + 11) + rm.locals ≤ R.locals)
    (hcc : cells + rm.cells ≤ R.cells) (hss : slots + rm.slots ≤ R.slots) {g : JFrame} (hg : g.method = m) (hsize : g.locals.size = c.maxLocals) (hlen : ∀ sig, parseMethodDescriptor y.desc = some sig → argsL.length = sig.parameters.length) (hst : g.stack = argsL.reverse ++ .ref a :: rest) (hW : 2 * g.monitorRoom + (rest.map fun v => v.category).sum ≤ W) (hd : decode c.code g.pc = .ok (.invokevirtual index, 3)) :
    ∃ v T' L, Stand p l e R s m args below meth c T' (locs ++ L) (cells + rm.cells) (slots + rm.slots) ∧ Q v T'.heap L ∧ ∀ target, Steps p.tables e below (T'.setTop { g with pc := g.pc + 3, stack := v.toList ++ rest }) target → Steps p.tables e below (T.setTop g) target := by
  obtain ⟨cB, kB, q1, q2, q3⟩ := isOf hZ eT E
  obtain ⟨v, vm1, ⟨T', L', k', n'⟩, -, X', ⟨L, hQ, e1, e2, e3⟩, st⟩ := X.virtualBack hx (y := y) (z := y) hown (mvT hZ w1) (mvT hZ w2) (notFace_of_selects (args := args) (mvT hZ w3)) (mvT hZ w3) (mvT hZ w4) hy (backOf (W := W) hM hZ w5 w6 hf hl) q1 q3 hg hsize (Steps.refl _) hlen hst hW hd (fun _ _ => ⟨has, eT, hcc, hss⟩)
  dsimp only [Pt.U, Pt.locs, Pt.cells, Pt.slots] at X' e1 e2 e3 st hQ
  subst e1 e2 e3
  exact ⟨v, T', L, X', hQ, fun t k => st.trans k⟩
theorem callC (X : Stand p l e R s m args below meth c T locs cells slots) (hx : p.tables.exec = Jvm.exec) (hZ : Z.Warmed39 s.vm) {own : String} {index : Nat} {y : MethodName} (hown : s.vm.findClass own = some m.cls) {bytes : ByteArray} {maxL : Nat} {ret : Option FieldType} {rm : Room}
    (w1 : (Cond.methodLink own index y).before a0 Z = true) (w2 : (Cond.static y).before a0 Z = true) (w3 : (Cond.code y bytes maxL ret).before a0 Z = true) (w4 : (Cond.initialized y.cls).before a0 Z = true) (hy : y.cls ≠ "java/lang/invoke/MethodHandle" ∧ y.cls ≠ "java/lang/invoke/VarHandle")
    (eT : T.heap = h) {argsL rest : List Value} {as' : Array Value} {Q : Option Value → Heap → List Loc → Prop} {W : Nat} (hM : Does l y bytes maxL ret [] rm Z as' h Q) (has : argsL.toArray = as') (hf : rm.frames + 1 ≤ R.frames) (hl : W + (maxL + 11) + rm.locals ≤ R.locals)
    (hcc : cells + rm.cells ≤ R.cells) (hss : slots + rm.slots ≤ R.slots) {g : JFrame} (hg : g.method = m) (hsize : g.locals.size = c.maxLocals) (hlen : ∀ sig, parseMethodDescriptor y.desc = some sig → argsL.length = sig.parameters.length) (hst : g.stack = argsL.reverse ++ rest) (hW : 2 * g.monitorRoom + (rest.map fun v => v.category).sum ≤ W) (hd : decode c.code g.pc = .ok (.invokestatic index, 3)) :
    ∃ v T' L, Stand p l e R s m args below meth c T' (locs ++ L) (cells + rm.cells) (slots + rm.slots) ∧ Q v T'.heap L ∧ ∀ target, Steps p.tables e below (T'.setTop { g with pc := g.pc + 3, stack := v.toList ++ rest }) target → Steps p.tables e below (T.setTop g) target := by
  obtain ⟨v, vm1, ⟨T', L', k', n'⟩, -, X', ⟨L, hQ, e1, e2, e3⟩, st⟩ := Jvm.LawKit.callS X hx (y := y) hown (mvT hZ w1) (mvT hZ w2) (mvT hZ w4) (mvT hZ w3) hy (backOf (W := W) hM hZ w3 w4 hf hl) hg hsize hlen hst hW hd (fun _ _ => ⟨has, eT, hcc, hss⟩)
  dsimp only [Pt.U, Pt.locs, Pt.cells, Pt.slots] at X' e1 e2 e3 st hQ
  subst e1 e2 e3
  exact ⟨v, T', L, X', hQ, st⟩
end Own
end Jvm.RoadKit
namespace Jvm.Free.XS
open Sem ClassFile Op Lib
theorem lcmpS {tb : Tables} [Ours tb] {e : Env} {below : List Frame} {T target : State} {m : MethodId} {c : Code} {g : JFrame} (h : At T m c below) (hx : tb.exec = Jvm.exec) (hg : g.method = m) {x y : Int64} {v : Int32} {rest : List Value} (hd : decode c.code g.pc = .ok (.lcmp, 1)) (hs : g.stack = .long y :: .long x :: rest) (hv : Jvm.RoadKit.lcmpW x y = v)
    (hr : Steps tb e below (T.setTop { g with pc := g.pc + 1, stack := .int v :: rest }) target) : Steps tb e below (T.setTop g) target := by
  subst hv
  exact lcmp h hx hg hd hs hr
end Jvm.Free.XS
namespace Jvm.RoadKit
open Sem ClassFile Op Lib Jvm.Stand Jvm.Free Jvm.LawKit Jvm.FP Jvm.Free.Fl
section OwnD
theorem own_cmp (i j : Int) : compare i j = if i < j then Ordering.lt else if i = j then Ordering.eq else Ordering.gt := rfl
theorem cmpL_lt {x y : Int64} (h : x < y) : lcmpW x y = -1 := by
  have h' := Int64.lt_iff_toInt_lt.mp h
  show (if y < x then (1 : Int32) else if x = y then 0 else -1) = -1
  rw [if_neg (fun q => by have := Int64.lt_iff_toInt_lt.mp q; omega), if_neg (fun q => by rw [q] at h'; omega)]
theorem cmpL_eq {x y : Int64} (h : x = y) : lcmpW x y = 0 := by
  subst h
  show (if x < x then (1 : Int32) else if x = x then 0 else -1) = 0
  rw [if_neg (fun q => by have := Int64.lt_iff_toInt_lt.mp q; omega), if_pos rfl]
theorem cmpL_gt {x y : Int64} (h : y < x) : lcmpW x y = 1 := by
  show (if y < x then (1 : Int32) else if x = y then 0 else -1) = 1
  rw [if_pos h]
theorem DInt_nn {i : Int} {x : UInt64} (h : Core.DInt i x) : NoNaN64 x := val64_no.mpr (Core.DInt_ne_nan h)
theorem DInt_fin {i : Int} {x : UInt64} (h : Core.DInt i x) : Fin64 x := fin64_core.mpr (by
  have h' : Core.Whole i (Core.val64 x) := h
  cases q : Core.val64 x with
  | nan => rw [q] at h'; exact h'.elim
  | inf s => rw [q] at h'; exact h'.elim
  | fin s c e => exact ⟨s, c, e, q⟩)
theorem cmpD_lt {i j : Int} {x y : UInt64} (hx : Core.DInt i x) (hy : Core.DInt j y) (h : i < j) (o : CmpOp) : cmpValue (FP.dcmp x y) o = -1 := by
  rw [show FP.dcmp x y = _ from Core.dcmp_int hx hy, own_cmp, if_pos h]; rfl
theorem cmpD_eq {i j : Int} {x y : UInt64} (hx : Core.DInt i x) (hy : Core.DInt j y) (h : i = j) (o : CmpOp) : cmpValue (FP.dcmp x y) o = 0 := by
  rw [show FP.dcmp x y = _ from Core.dcmp_int hx hy, own_cmp, if_neg (by omega), if_pos h]; rfl
theorem cmpD_gt {i j : Int} {x y : UInt64} (hx : Core.DInt i x) (hy : Core.DInt j y) (h : j < i) (o : CmpOp) : cmpValue (FP.dcmp x y) o = 1 := by
  rw [show FP.dcmp x y = _ from Core.dcmp_int hx hy, own_cmp, if_neg (by omega), if_neg (by omega)]; rfl
theorem DInt_zero : Core.DInt 0 0 := by
  have h := Core.l2d_int (a := 0) (by decide)
  rw [show Core.l2d 0 = 0 from l2d_zero] at h
  exact h
theorem DInt_i2d {x : Int32} {d : UInt64} (q : FP.i2d x = d) : Core.DInt x.toInt d := q ▸ Core.i2d_int x
theorem DInt_l2d {x : Int64} {d : UInt64} (q : FP.l2d x = d) (h : x.toInt.natAbs ≤ 2 ^ 53) : Core.DInt x.toInt d := q ▸ Core.l2d_int h
theorem DInt_add {i j : Int} {a b d : UInt64} (q : FP.dadd a b = d) (ha : Core.DInt i a) (hb : Core.DInt j b) (h : (i + j).natAbs ≤ 2 ^ 53) : Core.DInt (i + j) d := q ▸ Core.dadd_int ha hb h
theorem DInt_sub {i j : Int} {a b d : UInt64} (q : FP.dsub a b = d) (ha : Core.DInt i a) (hb : Core.DInt j b) (h : (i - j).natAbs ≤ 2 ^ 53) : Core.DInt (i - j) d := q ▸ Core.dsub_int ha hb h
theorem DInt_mul {i j : Int} {a b d : UInt64} (q : FP.dmul a b = d) (ha : Core.DInt i a) (hb : Core.DInt j b) (h : (i * j).natAbs ≤ 2 ^ 53) : Core.DInt (i * j) d := q ▸ Core.dmul_int ha hb h
end OwnD
/-! an array by the list of its values -/
def Sar (Z : State) (h : Heap) (a : Addr) (ty : FieldType) (vs : List Value) : Prop := ∃ c : Cell, Arr Z h a c ty ∧ c.slots = vs.toArray
section OwnA
variable {p : Program} {l : Launch} {e : Env} {R : Room} {s : State} {m : MethodId} {args : Array Value} {below : List Frame} {meth : Method} {c : Code} {T : State} {locs : List Loc} {cells slots : Nat} {Z : State} {a0 : Array Value} {h h' : Heap} {a b : Addr} {ty : FieldType} {vs : List Value} {sl : Nat} {v : Value} {ws : List Addr}
theorem Sar.lt (F : Sar Z h a ty vs) : a < h.size := by obtain ⟨c, A, -⟩ := F; exact A.lt
theorem Sar.ext (F : Sar Z h a ty vs) (E : Ext h h') : Sar Z h' a ty vs := by obtain ⟨c, A, r⟩ := F; exact ⟨c, A.ext E, r⟩
theorem Sar.other (F : Sar Z h b ty vs) (W : Wr h h' a sl v) (q : b ≠ a) : Sar Z h' b ty vs := by obtain ⟨c, A, r⟩ := F; exact ⟨c, A.other W q, r⟩
theorem Sar.keep (F : Sar Z h a ty vs) (K : Keep h h' ws) (q : a ∉ ws) : Sar Z h' a ty vs := by obtain ⟨c, A, r⟩ := F; exact ⟨c, ⟨K.2.1 a c A.1 q, A.2⟩, r⟩
theorem Sar.new {k : ClassId} {z : Int32} {n : Nat} (A : Arr Z h a (newA k ty z) ty) (hn : z.toNatClampNeg = n) : Sar Z h a ty (List.replicate n (defaultValue ty)) := ⟨_, A, by subst hn; show Array.replicate _ _ = _; simp⟩
theorem Sar.in {cl : Cell} {j : Int32} {i : Nat} (S : cl.slots = vs.toArray) (hj : j.toInt = i) (hi : i < vs.length) : ¬ (j < 0 ∨ cl.slots.size ≤ j.toNatClampNeg) := by
  rw [S]
  have q : j.toNatClampNeg = i := by show j.toInt.toNat = i; omega
  have r : ¬ j < 0 := fun z => by have z' := Int32.lt_iff_toInt_lt.mp z; rw [hj] at z'; simp at z'; omega
  rw [q]
  simp only [List.size_toArray]
  intro z
  rcases z with z | z
  · exact r z
  · omega
theorem Sar.nat {j : Int32} {i : Nat} (hj : j.toInt = i) : j.toNatClampNeg = i := by show j.toInt.toNat = i; omega
theorem stDS (X : Stand p l e R s m args below meth c T locs cells slots) (hx : p.tables.exec = Jvm.exec) (hZ : Z.Warmed39 s.vm) (eT : T.heap = h) (V : Sar Z h a .double vs) {j : Int32} {x : UInt64} (i : Nat) (hj : j.toInt = i) (hi : i < vs.length) {g : JFrame} (hg : g.method = m) {rest : List Value} (hs : g.stack = .double x :: .int j :: .ref a :: rest) (hd : decode c.code g.pc = .ok (.dastore, 1)) :
    ∃ T' h', Stand p l e R s m args below meth c T' (locs ++ [⟨a, i⟩]) cells slots ∧ T'.heap = h' ∧ Wr h h' a i (.double x) ∧ Sar Z h' a .double (vs.set i (.double x)) ∧ ∀ target, Steps p.tables e below (T'.setTop { g with pc := g.pc + 1, stack := rest }) target → Steps p.tables e below (T.setTop g) target := by
  obtain ⟨cl, A, S⟩ := V
  obtain ⟨T', h', X', e', W, st⟩ := stD X hx hZ eT A (Sar.in S hj hi) hg hs hd
  rw [Sar.nat hj] at X' W
  exact ⟨T', h', X', e', W, ⟨_, A.same W, by show cl.slots.setIfInBounds _ _ = _; rw [S]; simp⟩, st⟩
theorem stIS (X : Stand p l e R s m args below meth c T locs cells slots) (hx : p.tables.exec = Jvm.exec) (hZ : Z.Warmed39 s.vm) (eT : T.heap = h) (V : Sar Z h a .int vs) {j : Int32} {x : Int32} (i : Nat) (hj : j.toInt = i) (hi : i < vs.length) {g : JFrame} (hg : g.method = m) {rest : List Value} (hs : g.stack = .int x :: .int j :: .ref a :: rest) (hd : decode c.code g.pc = .ok (.iastore, 1)) :
    ∃ T' h', Stand p l e R s m args below meth c T' (locs ++ [⟨a, i⟩]) cells slots ∧ T'.heap = h' ∧ Wr h h' a i (.int x) ∧ Sar Z h' a .int (vs.set i (.int x)) ∧ ∀ target, Steps p.tables e below (T'.setTop { g with pc := g.pc + 1, stack := rest }) target → Steps p.tables e below (T.setTop g) target := by
  obtain ⟨cl, A, S⟩ := V
  obtain ⟨T', h', X', e', W, st⟩ := stI X hx hZ eT A (Sar.in S hj hi) hg hs hd
  rw [Sar.nat hj] at X' W
  exact ⟨T', h', X', e', W, ⟨_, A.same W, by show cl.slots.setIfInBounds _ _ = _; rw [S]; simp⟩, st⟩
theorem ldDS (X : Stand p l e R s m args below meth c T locs cells slots) (hx : p.tables.exec = Jvm.exec) (hZ : Z.Warmed39 s.vm) (eT : T.heap = h) (V : Sar Z h a .double vs) {j : Int32} (i : Nat) (hj : j.toInt = i) (hv : vs[i]? = some v) {g : JFrame} (hg : g.method = m) {rest : List Value} (hs : g.stack = .int j :: .ref a :: rest) (hd : decode c.code g.pc = .ok (.daload, 1)) :
    ∀ target, Steps p.tables e below (T.setTop { g with pc := g.pc + 1, stack := v :: rest }) target → Steps p.tables e below (T.setTop g) target := by
  obtain ⟨cl, A, S⟩ := V
  have hi : i < vs.length := (List.getElem?_eq_some_iff.mp hv).1
  exact X.daload hx (by rw [eT]; exact A.1) (State.isArrayOf_alike hZ.alike A.2.1) A.2.2 (Sar.in S hj hi) (by rw [S, Sar.nat hj]; simpa using hv) hg hs hd
theorem ldIS (X : Stand p l e R s m args below meth c T locs cells slots) (hx : p.tables.exec = Jvm.exec) (hZ : Z.Warmed39 s.vm) (eT : T.heap = h) (V : Sar Z h a .int vs) {j : Int32} (i : Nat) (hj : j.toInt = i) (hv : vs[i]? = some v) {g : JFrame} (hg : g.method = m) {rest : List Value} (hs : g.stack = .int j :: .ref a :: rest) (hd : decode c.code g.pc = .ok (.iaload, 1)) :
    ∀ target, Steps p.tables e below (T.setTop { g with pc := g.pc + 1, stack := v :: rest }) target → Steps p.tables e below (T.setTop g) target := by
  obtain ⟨cl, A, S⟩ := V
  have hi : i < vs.length := (List.getElem?_eq_some_iff.mp hv).1
  exact X.iaload hx (by rw [eT]; exact A.1) (State.isArrayOf_alike hZ.alike A.2.1) A.2.2 (Sar.in S hj hi) (by rw [S, Sar.nat hj]; simpa using hv) hg hs hd
theorem lenS (X : Stand p l e R s m args below meth c T locs cells slots) (hx : p.tables.exec = Jvm.exec) (hZ : Z.Warmed39 s.vm) (eT : T.heap = h) (V : Sar Z h a ty vs) {n : Int32} (hn : vs.length.toInt32 = n) {g : JFrame} (hg : g.method = m) {rest : List Value} (hs : g.stack = .ref a :: rest) (hd : decode c.code g.pc = .ok (.arraylength, 1)) :
    ∀ target, Steps p.tables e below (T.setTop { g with pc := g.pc + 1, stack := .int n :: rest }) target → Steps p.tables e below (T.setTop g) target := by
  obtain ⟨cl, A, S⟩ := V
  intro target k
  refine X.arraylength hx (by rw [eT]; exact A.1) (State.isArrayOf_alike hZ.alike A.2.1) hg hs hd target ?_
  rw [S]
  simp only [List.size_toArray, hn]
  exact k
end OwnA
end Jvm.RoadKit
namespace Jvm.RoadKit
open Jvm.FP Jvm.Free.Fl
theorem DInt_nz {i : Int} {x : UInt64} (h : Core.DInt i x) (hi : i ≠ 0) : Nz64 x := nz64_core.mpr fun z => by
  obtain ⟨s, q, e⟩ := z
  have h' : Core.Whole i (Core.val64 x) := h
  rw [e] at h'
  exact hi ((Core.whole_zero h').mp rfl)
theorem DInt_one : Core.DInt 1 4607182418800017408 := Core.dint_one
end Jvm.RoadKit
namespace Jvm.RoadKit
open Jvm.FP Jvm.Free.Fl Op
theorem cmpD_le {i j : Int} {x y : UInt64} (hx : Core.DInt i x) (hy : Core.DInt j y) (h : i ≤ j) (o : ClassFile.CmpOp) : ∃ v : Int32, cmpValue (FP.dcmp x y) o = v ∧ ¬ (0 : Int32) < v := by
  by_cases q : i < j
  · exact ⟨-1, cmpD_lt hx hy q o, by decide⟩
  · exact ⟨0, cmpD_eq hx hy (by omega) o, by decide⟩
theorem cmpD_ge {i j : Int} {x y : UInt64} (hx : Core.DInt i x) (hy : Core.DInt j y) (h : j ≤ i) (o : ClassFile.CmpOp) : ∃ v : Int32, cmpValue (FP.dcmp x y) o = v ∧ ¬ v < (0 : Int32) := by
  by_cases q : j < i
  · exact ⟨1, cmpD_gt hx hy q o, by decide⟩
  · exact ⟨0, cmpD_eq hx hy (by omega) o, by decide⟩
end Jvm.RoadKit
namespace Jvm.RoadKit
open Jvm.Free
theorem cmpL_le {x y : Int64} (h : ¬ y.toInt < x.toInt) : ∃ v : Int32, lcmpW x y = v ∧ ¬ (0 : Int32) < v := by
  by_cases q : x.toInt < y.toInt
  · exact ⟨-1, cmpL_lt (Int64.lt_iff_toInt_lt.mpr q), by decide⟩
  · exact ⟨0, cmpL_eq (Int64.toInt_inj.mp (by omega)), by decide⟩
theorem cmpL_gtI {x y : Int64} (h : y.toInt < x.toInt) : lcmpW x y = 1 := cmpL_gt (Int64.lt_iff_toInt_lt.mpr h)
end Jvm.RoadKit
namespace Jvm.RoadKit
open Jvm.Free
theorem cmpL_ge {x y : Int64} (h : ¬ x.toInt < y.toInt) : ∃ v : Int32, lcmpW x y = v ∧ ¬ v < (0 : Int32) := by
  by_cases q : y.toInt < x.toInt
  · exact ⟨1, cmpL_gtI q, by decide⟩
  · exact ⟨0, cmpL_eq (Int64.toInt_inj.mp (by omega)), by decide⟩
end Jvm.RoadKit
namespace Jvm.RoadKit
section OwnN
theorem own_mb {i j : Int} {A B : Nat} (hi : i.natAbs ≤ A) (hj : j.natAbs ≤ B) : (i * j).natAbs ≤ A * B := by rw [Int.natAbs_mul]; exact Nat.mul_le_mul hi hj
theorem own_mb2 {i j : Int} {A B : Nat} (hi : -(A : Int) ≤ i ∧ i ≤ A) (hj : -(B : Int) ≤ j ∧ j ≤ B) : -((A * B : Nat) : Int) ≤ i * j ∧ i * j ≤ ((A * B : Nat) : Int) := by
  have h := own_mb (i := i) (j := j) (A := A) (B := B) (by omega) (by omega)
  omega
theorem own_ladd {a b : Int64} (h1 : -9223372036854775808 ≤ a.toInt + b.toInt) (h2 : a.toInt + b.toInt < 9223372036854775808) : (a + b).toInt = a.toInt + b.toInt := by
  have := c_ladd a b; have := rng64 (a + b); omega
theorem own_lsub {a b : Int64} (h1 : -9223372036854775808 ≤ a.toInt - b.toInt) (h2 : a.toInt - b.toInt < 9223372036854775808) : (a - b).toInt = a.toInt - b.toInt := by
  have := c_lsub a b; have := rng64 (a - b); omega
theorem own_lmul {a b : Int64} (h : (a.toInt * b.toInt).natAbs < 9223372036854775808) : (a * b).toInt = a.toInt * b.toInt := by
  have := c_lmul a b; have := rng64 (a * b); omega
theorem own_short (x : Int32) : (x.toInt16.toInt32).toInt.natAbs ≤ 32768 := by
  have := c_i2s x; omega
theorem own_and3 (x : Int32) : (x &&& 3) = 0 ∨ (x &&& 3) = 1 ∨ (x &&& 3) = 2 ∨ (x &&& 3) = 3 := by
  have h := c_and x 3 (by decide)
  have e : (3 : Int32).toInt = 3 := by decide
  simp only [← Int32.toInt_inj]
  rw [show (0 : Int32).toInt = 0 from by decide, show (1 : Int32).toInt = 1 from by decide, show (2 : Int32).toInt = 2 from by decide, e]
  omega
end OwnN
end Jvm.RoadKit
namespace Jvm.RoadKit
open Jvm.FP Jvm.Free.Fl Op
theorem own_fin_le {x : UInt64} (h : Fin64 x) (o : ClassFile.CmpOp) : ∃ v : Int32, cmpValue (FP.dcmp (x &&& 9223372036854775807) 9218868437227405311) o = v ∧ ¬ (0 : Int32) < v := by
  have q : relLe (FP.dcmp (x &&& 9223372036854775807) 9218868437227405311) = true := (le_max_iff h.noNaN).mpr h
  rcases hc : FP.dcmp (x &&& 9223372036854775807) 9218868437227405311 with _ | (_ | _ | _) <;> rw [hc] at q
  · exact absurd q (by decide)
  · exact ⟨-1, rfl, by decide⟩
  · exact ⟨0, rfl, by decide⟩
  · exact absurd q (by decide)
end Jvm.RoadKit
namespace Jvm.RoadKit
theorem own_cancel {A B u v x y : Nat} (h : A * 2 ^ u = B * 2 ^ v) (e : u + y = v + x) : A * 2 ^ x = B * 2 ^ y := by
  refine Nat.eq_of_mul_eq_mul_right (Nat.two_pow_pos v) ?_
  rw [Nat.mul_assoc, ← Nat.pow_add, Nat.add_comm x v, ← e, Nat.pow_add, ← Nat.mul_assoc, h, Nat.mul_assoc, Nat.mul_assoc, Nat.mul_comm (2 ^ v)]
end Jvm.RoadKit
namespace Jvm.RoadKit
open Jvm.FP Jvm.Free.Fl
section OwnQ
/-- the quotient of two positive whole doubles: the rounded ratio of the two numbers -/
theorem own_quot {i j : Int} {a b : UInt64} (ha : Core.DInt i a) (hb : Core.DInt j b) (hi : 0 < i) (hj : 0 < j) : Core.val64 (Core.ddiv a b) = Core.roundRatio Core.b64 false i.natAbs j.natAbs 0 := by
  rw [Core.val64_ddiv]
  have ha' : Core.Whole i (Core.val64 a) := ha
  have hb' : Core.Whole j (Core.val64 b) := hb
  cases qa : Core.val64 a with
  | nan => rw [qa] at ha'; exact ha'.elim
  | inf s => rw [qa] at ha'; exact ha'.elim
  | fin s c q =>
    cases qb : Core.val64 b with
    | nan => rw [qb] at hb'; exact hb'.elim
    | inf s => rw [qb] at hb'; exact hb'.elim
    | fin t d r =>
      rw [qa] at ha'; rw [qb] at hb'
      have hs : s = false := by rw [Core.whole_sign ha' (by omega)]; exact decide_eq_false (by omega)
      have ht : t = false := by rw [Core.whole_sign hb' (by omega)]; exact decide_eq_false (by omega)
      have hd : d ≠ 0 := fun z => by have := (Core.whole_zero hb').mp z; omega
      have h1 := Core.whole_natAbs ha'
      have h2 := Core.whole_natAbs hb'
      subst hs ht
      show (if d = 0 then _ else Core.roundRatio Core.b64 (false != false) c d (q - r)) = _
      rw [if_neg hd]
      refine Core.roundRatio_congr (Nat.pos_of_ne_zero hd) (by omega) ?_
      have h3 : c * j.natAbs * 2 ^ (q.toNat + (-r).toNat) = i.natAbs * d * 2 ^ ((-q).toNat + r.toNat) := by
        rw [Nat.pow_add, Nat.pow_add]
        calc c * j.natAbs * (2 ^ q.toNat * 2 ^ (-r).toNat) = (c * 2 ^ q.toNat) * (j.natAbs * 2 ^ (-r).toNat) := Nat.mul_mul_mul_comm _ _ _ _
          _ = (i.natAbs * 2 ^ (-q).toNat) * (d * 2 ^ r.toNat) := by rw [h1, h2]
          _ = _ := Nat.mul_mul_mul_comm _ _ _ _
      exact own_cancel h3 (by omega)
theorem own_share {i j : Int} {a b : UInt64} (ha : Core.DInt i a) (hb : Core.DInt j b) (hi : 0 < i) (hij : i ≤ j) (hj : j ≤ 2147483648) :
    NoNaN64 (FP.ddiv a b) ∧ FP.dcmp (FP.ddiv a b) 0 = some .gt ∧ (FP.dcmp (FP.ddiv a b) 4607182418800017408 = some .lt ∨ FP.dcmp (FP.ddiv a b) 4607182418800017408 = some .eq) := by
  have hv : Core.val64 (FP.ddiv a b) = Core.roundRatio Core.b64 false i.natAbs j.natAbs 0 := own_quot ha hb hi (by omega)
  have hn : Core.val64 (FP.ddiv a b) ≠ .nan := by rw [hv]; exact Core.roundRatio_ne_nan _ _ _ _ _
  have hs : Core.zval Core.b64 (Core.val64 (FP.ddiv a b)) = (Core.zmag Core.b64 (Core.roundRatio Core.b64 false i.natAbs j.natAbs 0) : Int) := by
    show Core.signed (Core.sgn _) _ = _
    rw [hv, Core.sgn_roundRatio]; rfl
  have hone : Core.val64 4607182418800017408 = .fin false (2 ^ 52) (-52) := by decide +kernel
  have hq : Core.b64.qmin = -1074 := by decide
  have h1 : (1 : Nat) ≤ Core.zmag Core.b64 (Core.roundRatio Core.b64 false i.natAbs j.natAbs 0) := by
    have h := Core.zmag_roundRatio_ge Core.good_b64 (s := false) (A := i.natAbs) (B := j.natAbs) (e := 0) (e0 := Core.b64.qmin) (V := .fin false 1 Core.b64.qmin) (by omega) (by unfold Core.fits; decide) (Int.le_refl _) (by rw [hq]; decide) (by
      show 1 * 2 ^ (Core.b64.qmin - Core.b64.qmin).toNat * 2 ^ (Core.b64.qmin - Core.b64.qmin).toNat * j.natAbs ≤ i.natAbs * 2 ^ (0 - Core.b64.qmin).toNat
      rw [Int.sub_self, hq]
      show 1 * 2 ^ 0 * 2 ^ 0 * j.natAbs ≤ i.natAbs * 2 ^ 1074
      have p : 2147483648 ≤ 2 ^ 1074 := by decide +kernel
      have q : 1 * 2 ^ 1074 ≤ i.natAbs * 2 ^ 1074 := Nat.mul_le_mul_right _ (by omega)
      generalize 2 ^ 1074 = M at p q
      generalize i.natAbs * M = K at q
      omega)
    have e : Core.zmag Core.b64 (.fin false 1 Core.b64.qmin) = 1 := by decide +kernel
    rw [e] at h; exact h
  have h2 : Core.zmag Core.b64 (Core.roundRatio Core.b64 false i.natAbs j.natAbs 0) ≤ Core.zmag Core.b64 (.fin false (2 ^ 52) (-52)) := by
    refine Core.zmag_roundRatio_le Core.good_b64 (e0 := Core.b64.qmin) (by omega) (hone ▸ Core.val64_fits _) (by simp) (Int.le_refl _) (by rw [hq]; decide) ?_
    have e : Core.zmag Core.b64 (.fin false (2 ^ 52) (-52)) = 2 ^ 1074 := by decide +kernel
    rw [e]
    show i.natAbs * 2 ^ (0 - Core.b64.qmin).toNat ≤ 2 ^ 1074 * 2 ^ (Core.b64.qmin - Core.b64.qmin).toNat * j.natAbs
    rw [Int.sub_self, hq]
    rw [show ((0 : Int) - -1074).toNat = 1074 from by decide, show (0 : Int).toNat = 0 from rfl, Nat.pow_zero, Nat.mul_one, Nat.mul_comm]
    exact Nat.mul_le_mul_left _ (by omega)
  refine ⟨val64_no.mpr hn, Core.dcmp_gt.mpr ⟨hn, by decide +kernel, ?_⟩, Core.dcmp_le.mpr ⟨hn, by rw [hone]; simp, ?_⟩⟩
  · rw [Core.zval64_zero, hs]; omega
  · rw [hs, hone]
    show (Core.zmag Core.b64 (Core.roundRatio Core.b64 false i.natAbs j.natAbs 0) : Int) ≤ Core.signed false (Core.zmag Core.b64 (.fin false (2 ^ 52) (-52)))
    show (Core.zmag Core.b64 (Core.roundRatio Core.b64 false i.natAbs j.natAbs 0) : Int) ≤ ((Core.zmag Core.b64 (.fin false (2 ^ 52) (-52)) : Nat) : Int)
    omega
end OwnQ
end Jvm.RoadKit
namespace Jvm.RoadKit
open Jvm.FP Jvm.Free.Fl Op
section OwnZ
/-- the double x is finite, and worth m units of 2^-1074 -/
def Zv (m : Int) (x : UInt64) : Prop := Core.DFin x ∧ Core.zval Core.b64 (Core.val64 x) = m
theorem Zv.fin {m : Int} {x : UInt64} (h : Zv m x) : Fin64 x := fin64_core.mpr h.1
theorem Zv.ne {m : Int} {x : UInt64} (h : Zv m x) : Core.val64 x ≠ .nan := by obtain ⟨⟨s, c, q, e⟩, -⟩ := h; rw [e]; exact fun z => nomatch z
theorem Zv.nn {m : Int} {x : UInt64} (h : Zv m x) : NoNaN64 x := val64_no.mpr h.ne
theorem Zv.lt {m n : Int} {x y : UInt64} (hx : Zv m x) (hy : Zv n y) (h : m < n) : FP.dcmp x y = some .lt := Core.dcmp_lt.mpr ⟨hx.ne, hy.ne, by rw [hx.2, hy.2]; exact h⟩
theorem Zv.gt {m n : Int} {x y : UInt64} (hx : Zv m x) (hy : Zv n y) (h : n < m) : FP.dcmp x y = some .gt := Core.dcmp_gt.mpr ⟨hx.ne, hy.ne, by rw [hx.2, hy.2]; exact h⟩
theorem Zv.eq {m n : Int} {x y : UInt64} (hx : Zv m x) (hy : Zv n y) (h : m = n) : FP.dcmp x y = some .eq := Core.dcmp_eq.mpr ⟨hx.ne, hy.ne, by rw [hx.2, hy.2]; exact h⟩
theorem Zv.cmp_lt {m n : Int} {x y : UInt64} (hx : Zv m x) (hy : Zv n y) (h : m < n) (o : ClassFile.CmpOp) : cmpValue (FP.dcmp x y) o = -1 := by rw [hx.lt hy h]; rfl
theorem Zv.cmp_gt {m n : Int} {x y : UInt64} (hx : Zv m x) (hy : Zv n y) (h : n < m) (o : ClassFile.CmpOp) : cmpValue (FP.dcmp x y) o = 1 := by rw [hx.gt hy h]; rfl
theorem Zv.cmp_eq {m n : Int} {x y : UInt64} (hx : Zv m x) (hy : Zv n y) (h : m = n) (o : ClassFile.CmpOp) : cmpValue (FP.dcmp x y) o = 0 := by rw [hx.eq hy h]; rfl
theorem Zv.cmp_le {m n : Int} {x y : UInt64} (hx : Zv m x) (hy : Zv n y) (h : m ≤ n) (o : ClassFile.CmpOp) : ∃ v : Int32, cmpValue (FP.dcmp x y) o = v ∧ ¬ (0 : Int32) < v := by
  by_cases q : m < n
  · exact ⟨-1, hx.cmp_lt hy q o, by decide⟩
  · exact ⟨0, hx.cmp_eq hy (by omega) o, by decide⟩
theorem Zv.cmp_ge {m n : Int} {x y : UInt64} (hx : Zv m x) (hy : Zv n y) (h : n ≤ m) (o : ClassFile.CmpOp) : ∃ v : Int32, cmpValue (FP.dcmp x y) o = v ∧ ¬ v < (0 : Int32) := by
  by_cases q : n < m
  · exact ⟨1, hx.cmp_gt hy q o, by decide⟩
  · exact ⟨0, hx.cmp_eq hy (by omega) o, by decide⟩
theorem own_qmin : Core.b64.qmin = -1074 := by decide
theorem own_M : ((2 ^ 1074 : Nat) : Int) = (Core.one64 : Int) := rfl
theorem Zv.of_int {i : Int} {x : UInt64} (h : Core.DInt i x) : Zv (i * ((2 ^ 1074 : Nat) : Int)) x := by
  refine ⟨fin64_core.mp (DInt_fin h), ?_⟩
  rw [Core.DInt_zval h]; rfl
/-- what of n * 2^(1074 - t) units the format holds exactly -/
theorem own_fit (s : Bool) {n t : Nat} (hn : n ≤ 2 ^ 53) (ht : t ≤ 1074) : ∃ c q, Core.roundRatio Core.b64 s n 1 (-(t : Int)) = .fin s c q ∧ Core.zmag Core.b64 (.fin s c q) = n * 2 ^ (1074 - t) := by
  have hp : Core.b64.p = 53 := by decide
  have hq := own_qmin
  have hM : Core.b64.qmax = 971 := by decide
  by_cases h : n = 2 ^ 53
  · subst h
    obtain ⟨c, q, e1, e2⟩ := Core.round_exact Core.good_b64 s (c := 2 ^ 52) (q := 1 - (t : Int)) (by rw [hp]; decide) (by rw [hq]; omega) (by rw [hM]; omega)
    refine ⟨c, q, ?_, ?_⟩
    · rw [← e1]
      show _ = Core.roundRatio Core.b64 s (2 ^ 52) 1 (1 - (t : Int))
      refine Core.roundRatio_congr (by decide) (by decide) ?_
      rw [show (-(t : Int) - (1 - (t : Int))).toNat = 0 by omega, show (1 - (t : Int) - -(t : Int)).toNat = 1 by omega]
    · show Core.inUnits c q Core.b64.qmin = _
      rw [e2]
      show 2 ^ 52 * 2 ^ (1 - (t : Int) - Core.b64.qmin).toNat = _
      rw [hq, show (1 - (t : Int) - -1074).toNat = (1074 - t) + 1 by omega, show (2 : Nat) ^ 53 = 2 ^ 52 * 2 from rfl, Nat.mul_assoc, Nat.pow_succ' (m := 2) (n := 1074 - t)]
  · obtain ⟨c, q, e1, e2⟩ := Core.round_exact Core.good_b64 s (c := n) (q := -(t : Int)) (by rw [hp]; omega) (by rw [hq]; omega) (by rw [hM]; omega)
    refine ⟨c, q, e1, ?_⟩
    show Core.inUnits c q Core.b64.qmin = _
    rw [e2]
    show n * 2 ^ (-(t : Int) - Core.b64.qmin).toNat = _
    rw [hq, show (-(t : Int) - -1074).toNat = 1074 - t by omega]
theorem Zv.mk {x : UInt64} {s : Bool} {A B : Nat} {e : Int} {m : Int} {n t : Nat} (hv : Core.val64 x = Core.roundRatio Core.b64 s A B e) (hB : 0 < B) (hn : n ≤ 2 ^ 53) (ht : t ≤ 1074) (h : A * 2 ^ (e + t).toNat = n * B * 2 ^ (-(t : Int) - e).toNat) (hm : Core.signed s (n * 2 ^ (1074 - t)) = m) : Zv m x := by
  have e1 : Core.roundRatio Core.b64 s A B e = Core.roundRatio Core.b64 s n 1 (-(t : Int)) := Core.roundRatio_congr hB (by decide) (by
    rw [show e - -(t : Int) = e + t by omega, Nat.mul_one]; exact h)
  obtain ⟨c, q, e2, e3⟩ := own_fit s hn ht
  rw [e1, e2] at hv
  refine ⟨⟨s, c, q, hv⟩, ?_⟩
  rw [hv]
  show Core.signed s (Core.zmag Core.b64 (.fin s c q)) = m
  rw [e3]; exact hm
theorem Zv.parts {m : Int} {x : UInt64} (h : Zv m x) : ∃ s c q, Core.val64 x = .fin s c q ∧ -1074 ≤ q ∧ m = Core.signed s (c * 2 ^ (q + 1074).toNat) := by
  obtain ⟨⟨s, c, q, e⟩, hz⟩ := h
  have hf := Core.val64_fits x
  rw [e] at hf hz
  have hq : Core.b64.qmin ≤ q := hf.2.1
  rw [own_qmin] at hq
  refine ⟨s, c, q, e, hq, ?_⟩
  rw [← hz]
  show Core.signed s (c * 2 ^ (q - Core.b64.qmin).toNat) = _
  rw [own_qmin, show q - -1074 = q + 1074 by omega]
theorem own_signed_abs (s : Bool) (c : Nat) : (Core.signed s c).natAbs = c := Core.natAbs_signed s c
/-- a product that the format holds -/
theorem Zv.mul {a b m : Int} {x y d : UInt64} {n t : Nat} (hx : Zv a x) (hy : Zv b y) (qd : FP.dmul x y = d) (h : a * b = m * ((2 ^ 1074 : Nat) : Int)) (hm : m.natAbs = n * 2 ^ (1074 - t)) (hn : n ≤ 2 ^ 53) (ht : t ≤ 1074) : Zv m d := by
  obtain ⟨s, c, q, e1, hq, rfl⟩ := hx.parts
  obtain ⟨t', c', r, e2, hr, rfl⟩ := hy.parts
  have hv : Core.val64 d = Core.roundRatio Core.b64 (s != t') (c * c') 1 (q + r) := by
    rw [← qd]
    show Core.val64 (Core.dmul x y) = _
    rw [Core.val64_dmul, e1, e2]; rfl
  rw [← Core.signed_xor] at h
  have habs : c * 2 ^ (q + 1074).toNat * (c' * 2 ^ (r + 1074).toNat) = n * 2 ^ (1074 - t) * 2 ^ 1074 := by
    have := congrArg Int.natAbs h
    rw [own_signed_abs, Int.natAbs_mul, hm, Int.natAbs_natCast] at this
    exact this
  refine Zv.mk hv (by decide) hn ht ?_ ?_
  · have h2 : c * c' * 2 ^ ((q + 1074).toNat + (r + 1074).toNat) = n * 2 ^ (1074 - t + 1074) := by
      rw [Nat.pow_add, Nat.pow_add, ← Nat.mul_assoc n, ← habs]
      exact Nat.mul_mul_mul_comm _ _ _ _
    rw [Nat.mul_one]
    exact own_cancel h2 (by omega)
  · have hp : (0 : Int) < ((2 ^ 1074 : Nat) : Int) := by have := Nat.two_pow_pos 1074; omega
    refine Int.eq_of_mul_eq_mul_right (Int.ne_of_gt hp) ?_
    rw [← h, ← Core.signed_mul, habs]
/-- a quotient that the format holds -/
theorem Zv.div {a b m : Int} {x y d : UInt64} {n t : Nat} (hx : Zv a x) (hy : Zv b y) (hb : b ≠ 0) (qd : FP.ddiv x y = d) (h : a * ((2 ^ 1074 : Nat) : Int) = m * b) (hm : m.natAbs = n * 2 ^ (1074 - t)) (hn : n ≤ 2 ^ 53) (ht : t ≤ 1074) : Zv m d := by
  obtain ⟨s, c, q, e1, hq, rfl⟩ := hx.parts
  obtain ⟨t', c', r, e2, hr, rfl⟩ := hy.parts
  have hc' : c' ≠ 0 := fun z => hb (by rw [z, Nat.zero_mul, Core.signed_zero])
  have hv : Core.val64 d = Core.roundRatio Core.b64 (s != t') c c' (q - r) := by
    rw [← qd]
    show Core.val64 (Core.ddiv x y) = _
    rw [Core.val64_ddiv, e1, e2]
    show (if c' = 0 then _ else Core.roundRatio Core.b64 (s != t') c c' (q - r)) = _
    rw [if_neg hc']
  have habs : c * 2 ^ (q + 1074).toNat * 2 ^ 1074 = n * 2 ^ (1074 - t) * (c' * 2 ^ (r + 1074).toNat) := by
    have := congrArg Int.natAbs h
    rw [Int.natAbs_mul, Int.natAbs_mul, own_signed_abs, own_signed_abs, hm, Int.natAbs_natCast] at this
    exact this
  have hpos : (0 : Int) < ((c' * 2 ^ (r + 1074).toNat : Nat) : Int) := by
    have := Nat.mul_pos (Nat.pos_of_ne_zero hc') (Nat.two_pow_pos (r + 1074).toNat); omega
  refine Zv.mk hv (Nat.pos_of_ne_zero hc') hn ht ?_ ?_
  · have h2 : c * 2 ^ ((q + 1074).toNat + 1074) = n * c' * 2 ^ (1074 - t + (r + 1074).toNat) := by
      rw [Nat.pow_add, Nat.pow_add, ← Nat.mul_assoc, habs]
      exact Nat.mul_mul_mul_comm _ _ _ _
    exact own_cancel h2 (by omega)
  · -- the sign
    have hM : (0 : Int) < ((2 ^ 1074 : Nat) : Int) := by have := Nat.two_pow_pos 1074; omega
    refine Int.eq_of_mul_eq_mul_right (Int.ne_of_gt hpos) ?_
    have h3 : Core.signed (s != t') (n * 2 ^ (1074 - t)) * ((c' * 2 ^ (r + 1074).toNat : Nat) : Int) = Core.signed (s != t') (c * 2 ^ (q + 1074).toNat) * ((2 ^ 1074 : Nat) : Int) := by
      rw [← Core.signed_mul, ← Core.signed_mul, habs]
    rw [h3]
    cases s <;> cases t' <;> simp only [Core.signed, Bool.false_eq_true, if_false, if_true, bne_self_eq_false, Bool.true_bne, Bool.false_bne, Bool.not_true, Bool.not_false] at h ⊢ <;> first | exact h | (rw [Int.mul_neg] at h; rw [Int.neg_mul, h, Int.neg_neg]) | (rw [Int.neg_mul] at h ⊢; exact h) | (rw [Int.mul_neg, Int.neg_mul] at h; exact Int.neg_inj.mp h)
end OwnZ
end Jvm.RoadKit
namespace Jvm.RoadKit
open Jvm.FP Jvm.Free.Fl Op
/-- a sum that the format holds -/
theorem Zv.add {a b m : Int} {x y d : UInt64} {n t : Nat} (hx : Zv a x) (hy : Zv b y) (qd : FP.dadd x y = d) (h : a + b = m) (hm : m.natAbs = n * 2 ^ (1074 - t)) (hn : n ≤ 2 ^ 53) (ht : t ≤ 1074) : Zv m d := by
  obtain ⟨⟨s, c, q, e1⟩, z1⟩ := hx
  obtain ⟨⟨s', c', r, e2⟩, z2⟩ := hy
  have f1 := Core.val64_fits x
  have f2 := Core.val64_fits y
  rw [e1] at f1 z1
  rw [e2] at f2 z2
  obtain ⟨sg, k, e, h1, h2, h3⟩ := Core.sum_units f1 f2
  rw [z1, z2, h] at h3
  rw [own_qmin] at h2
  have h4 : Core.inUnits k e Core.b64.qmin = k * 2 ^ (e + 1074).toNat := by
    show k * 2 ^ (e - Core.b64.qmin).toNat = _
    rw [own_qmin, show e - -1074 = e + 1074 by omega]
  rw [h4] at h3
  have habs : k * 2 ^ (e + 1074).toNat = n * 2 ^ (1074 - t) := by
    have := congrArg Int.natAbs h3
    rw [own_signed_abs, hm] at this
    exact this
  have hv : Core.val64 d = Core.roundRatio Core.b64 sg k 1 e := by
    rw [← qd]
    show Core.val64 (Core.dadd x y) = _
    rw [Core.val64_dadd, e1, e2, h1]; rfl
  refine Zv.mk hv (by decide) hn ht ?_ (by rw [← habs]; exact h3)
  rw [Nat.mul_one]
  exact own_cancel habs (by omega)
end Jvm.RoadKit
namespace Jvm.RoadKit
open Jvm.FP Jvm.Free.Fl Op
section OwnO
theorem Zv.zero : Zv 0 0 := by
  have h := Zv.of_int DInt_zero
  rwa [Int.zero_mul] at h
theorem own_dneg {x : UInt64} (h : Core.val64 x ≠ .nan) : FP.dneg x = Core.dneg x := dneg_core ((Core.notNaN_iff x).mpr h)
theorem Zv.neg {m : Int} {x d : UInt64} (h : Zv m x) (q : FP.dneg x = d) : Zv (-m) d := by
  have hx := own_dneg h.ne
  obtain ⟨⟨s, c, e, hv⟩, h2⟩ := h
  have hd : Core.val64 d = .fin (!s) c e := by
    rw [← q, hx, Core.val64_dneg, hv]
    rfl
  refine ⟨⟨_, _, _, hd⟩, ?_⟩
  rw [hd, ← h2, hv]
  show Core.signed (!s) (Core.zmag Core.b64 (.fin s c e)) = -Core.signed s (Core.zmag Core.b64 (.fin s c e))
  cases s
  · rfl
  · show ((Core.zmag Core.b64 (.fin true c e) : Nat) : Int) = - -((Core.zmag Core.b64 (.fin true c e) : Nat) : Int)
    omega
theorem own_qpos {i j : Int} {a b r : UInt64} (ha : Core.DInt i a) (hb : Core.DInt j b) (hi : 0 < i) (hi2 : i ≤ 9007199254740992) (hj : 0 < j) (hj2 : j ≤ 2147483648) (q : FP.ddiv a b = r) : ∃ m : Int, Zv m r ∧ 0 < m ∧ m ≤ i * ((2 ^ 1074 : Nat) : Int) := by
  have hv : Core.val64 r = Core.roundRatio Core.b64 false i.natAbs j.natAbs 0 := by rw [← q]; exact own_quot ha hb hi hj
  obtain ⟨c, e, f1, f2⟩ := own_fit false (n := i.natAbs) (t := 0) (by omega) (by decide)
  have hq := own_qmin
  have h1 : (1 : Nat) ≤ Core.zmag Core.b64 (Core.roundRatio Core.b64 false i.natAbs j.natAbs 0) := by
    have h := Core.zmag_roundRatio_ge Core.good_b64 (s := false) (A := i.natAbs) (B := j.natAbs) (e := 0) (e0 := Core.b64.qmin) (V := .fin false 1 Core.b64.qmin) (by omega) (by unfold Core.fits; decide) (Int.le_refl _) (by rw [hq]; decide) (by
      show 1 * 2 ^ (Core.b64.qmin - Core.b64.qmin).toNat * 2 ^ (Core.b64.qmin - Core.b64.qmin).toNat * j.natAbs ≤ i.natAbs * 2 ^ (0 - Core.b64.qmin).toNat
      rw [Int.sub_self, hq]
      show 1 * 2 ^ 0 * 2 ^ 0 * j.natAbs ≤ i.natAbs * 2 ^ 1074
      have p : 2147483648 ≤ 2 ^ 1074 := by decide +kernel
      have q : 1 * 2 ^ 1074 ≤ i.natAbs * 2 ^ 1074 := Nat.mul_le_mul_right _ (by omega)
      generalize 2 ^ 1074 = M at p q
      generalize i.natAbs * M = K at q
      omega)
    have e : Core.zmag Core.b64 (.fin false 1 Core.b64.qmin) = 1 := by decide +kernel
    rw [e] at h; exact h
  have h2 : Core.zmag Core.b64 (Core.roundRatio Core.b64 false i.natAbs j.natAbs 0) ≤ i.natAbs * 2 ^ 1074 := by
    have f3 : Core.zmag Core.b64 (.fin false c e) = i.natAbs * 2 ^ 1074 := f2
    rw [← f3]
    refine Core.zmag_roundRatio_le Core.good_b64 (e0 := Core.b64.qmin) (by omega) (f1 ▸ Core.roundRatio_fits Core.good_b64 false _ (by decide) _) (by simp) (Int.le_refl _) (by rw [hq]; decide) ?_
    rw [f3]
    show i.natAbs * 2 ^ (0 - Core.b64.qmin).toNat ≤ i.natAbs * 2 ^ 1074 * 2 ^ (Core.b64.qmin - Core.b64.qmin).toNat * j.natAbs
    rw [Int.sub_self, hq]
    rw [show ((0 : Int) - -1074).toNat = 1074 from by decide, show (0 : Int).toNat = 0 from rfl, Nat.pow_zero, Nat.mul_one]
    exact Nat.le_mul_of_pos_right _ (by omega)
  have hfin : Core.DFin r := by
    cases z : Core.val64 r with
    | nan => rw [z] at hv; exact absurd hv.symm (Core.roundRatio_ne_nan _ _ _ _ _)
    | inf s =>
      rw [← hv, z] at h2
      have e1 : Core.zmag Core.b64 (.inf s) = 2 ^ 52 * 2 ^ 2046 := by
        show Core.b64.tails * 2 ^ (Core.b64.exps - 2) = _
        rw [show Core.b64.tails = 2 ^ 52 by decide, show Core.b64.exps - 2 = 2046 by decide]
      rw [e1] at h2
      have h3 : i.natAbs * 2 ^ 1074 ≤ 2 ^ 53 * 2 ^ 1074 := Nat.mul_le_mul (by omega) (Nat.le_refl _)
      rw [← Nat.pow_add] at h3 h2
      have := (Nat.pow_le_pow_iff_right (a := 2) (by decide)).mp (Nat.le_trans h2 h3)
      omega
    | fin s c q' => exact ⟨s, c, q', z⟩
  obtain ⟨K, hK⟩ : ∃ K, K = Core.zmag Core.b64 (Core.roundRatio Core.b64 false i.natAbs j.natAbs 0) := ⟨_, rfl⟩
  rw [← hK] at h1 h2
  refine ⟨(K : Int), ⟨hfin, ?_⟩, by omega, ?_⟩
  · rw [hv]
    show Core.signed (Core.sgn _) (Core.zmag _ _) = _
    rw [Core.sgn_roundRatio, ← hK]; rfl
  · rw [show i = ((i.natAbs : Nat) : Int) by omega, ← Int.natCast_mul]
    exact Int.ofNat_le.mpr h2
/-- the quotient by a positive whole number keeps the sign and doesn't grow -/
theorem own_q3 {i j : Int} {a b r : UInt64} (ha : Core.DInt i a) (hb : Core.DInt j b) (hi2 : i.natAbs ≤ 9007199254740992) (hj : 0 < j) (hj2 : j ≤ 2147483648) (q : FP.ddiv a b = r) :
    ∃ m : Int, Zv m r ∧ (0 < i → 0 < m ∧ m ≤ i * ((2 ^ 1074 : Nat) : Int)) ∧ (i < 0 → m < 0 ∧ i * ((2 ^ 1074 : Nat) : Int) ≤ m) ∧ (i = 0 → m = 0) := by
  rcases Int.lt_trichotomy i 0 with h | h | h
  · obtain ⟨d, qd⟩ : ∃ d, FP.dneg a = d := ⟨_, rfl⟩
    obtain ⟨t, qt⟩ : ∃ t, FP.ddiv d b = t := ⟨_, rfl⟩
    have hd : Core.DInt (-i) d := by rw [← qd, own_dneg (Core.DInt_ne_nan ha)]; exact Core.dneg_int ha
    obtain ⟨m, hm, m1, m2⟩ := own_qpos hd hb (by omega) (by omega) hj hj2 qt
    have e1 : FP.dneg t = r := by
      rw [own_dneg hm.ne, ← qt]
      have h3 : Core.ddiv (Core.dneg d) b = Core.dneg (Core.ddiv d b) := Core.ddiv_dneg d b
      rw [show Core.dneg d = a by rw [← qd, own_dneg (Core.DInt_ne_nan ha)]; exact Core.dneg_dneg (Core.DInt_ne_nan ha)] at h3
      exact h3.symm.trans q
    refine ⟨-m, hm.neg e1, fun z => by omega, fun _ => ⟨by omega, ?_⟩, fun z => by omega⟩
    rw [Int.neg_mul] at m2
    generalize i * ((2 ^ 1074 : Nat) : Int) = K at m2
    omega
  · subst h
    refine ⟨0, Zv.div (n := 0) (t := 0) (Zv.of_int ha) (Zv.of_int hb) ?_ q (by simp) (by simp) (by decide) (by decide), fun z => by omega, fun z => by omega, fun _ => rfl⟩
    intro z
    rcases Int.mul_eq_zero.mp z with z | z
    · omega
    · exact absurd z (by rw [own_M]; have := Core.one64_pos; omega)
  · obtain ⟨m, hm, m1, m2⟩ := own_qpos ha hb h (by omega) hj hj2 q
    exact ⟨m, hm, fun _ => ⟨m1, m2⟩, fun z => by omega, fun z => by omega⟩
end OwnO
end Jvm.RoadKit
namespace Jvm.RoadKit
open Sem ClassFile Op Lib Jvm.Stand Jvm.Free Jvm.LawKit
/-! own_: bodies that may load String literals -/
def Fin1S (below : List Frame) (s : State) (rm : Room) (Q : Option Value → Heap → List Loc → Prop) (t : State) : Prop :=
  ∃ o, t.status = .running ∧ Ended t below o ∧ ∃ v L, o = .returned v ∧ Q v t.heap L ∧ ReturnedEndW s o t L rm.cells rm.slots
def DoesS (l : Launch) (y : MethodName) (bytes : ByteArray) (maxL : Nat) (ret : Option FieldType) (ws : List Cond) (rm : Room) (Z : State) (as' : Array Value) (h : Heap) (Q : Option Value → Heap → List Loc → Prop) : Prop :=
  MetFree l y (head1 (Cond.code y bytes maxL ret :: ws) rm) (fun a U => a = as' ∧ Z.Warmed39 U.vm ∧ U.heap = h) (fun _ _ _ _ _ => True) (fun _ U o U' => ∃ v L, o = .returned v ∧ Q v U'.heap L ∧ ReturnedEndW U o U' L rm.cells rm.slots)
/-- .. and a literal of EL may be read -/
def DoesL (EL : List (String × Nat)) (l : Launch) (y : MethodName) (bytes : ByteArray) (maxL : Nat) (ret : Option FieldType) (ws : List Cond) (rm : Room) (Z : State) (as' : Array Value) (h : Heap) (Q : Option Value → Heap → List Loc → Prop) : Prop :=
  MetFree l y (head1 (Cond.code y bytes maxL ret :: ws) rm) (fun a U => a = as' ∧ Z.Warmed39 U.vm ∧ U.heap = h ∧ CHv Z EL U.vm h) (fun _ _ _ _ _ => True) (fun _ U o U' => ∃ v L, o = .returned v ∧ Q v U'.heap L ∧ ReturnedEndW U o U' L rm.cells rm.slots)
section OwnS
variable {p : Program} {l : Launch} {e : Env} {R : Room} {s : State} {m : MethodId} {args : Array Value} {below : List Frame} {meth : Method} {c : Code} {T T' : State} {locs : List Loc} {cells slots : Nat} {Z : State} {a0 : Array Value} {h h' : Heap} {g g' : JFrame} {P : State → Prop} {EL : List (String × Nat)} {vm0 : Vm} {k0 : Nat}
theorem DoesS.of {y : MethodName} {bytes : ByteArray} {maxL : Nat} {ret : Option FieldType} {ws : List Cond} {rm : Room} {as' : Array Value} {Q : Option Value → Heap → List Loc → Prop} (hp : plainFor y = true)
    (body : ∀ (p : Program) (e : Env) (s : State) (m : MethodId) (below : List Frame) (meth : Method) (c : Code) (s₁ : State), p.tables.exec = Jvm.exec → c.code = bytes → c.maxLocals = maxL → meth.sig.returnType = ret → meth.locks = false → Z.Warmed39 (s.setVm s.vm).vm → (s.setVm s.vm).vm.findClass y.cls = some m.cls → meth.name = y.name → Stand p l e rm (s.setVm s.vm) m as' below meth c s₁ [] 0 0 → s₁.heap = h → s.Since (s.setVm s.vm).vm 0 →
      Goes p e below (Fin1S below s rm Q) s₁ (entryFrame m as' maxL)) : DoesS l y bytes maxL ret ws rm Z as' h Q := by
  refine MetFree.of_bodySF hp hisR ?_
  intro p e s m args below meth c s₁ Bd hml0 hP hK
  obtain ⟨rfl, hZ, hh⟩ := hP
  have e0 : s₁.heap = h := by rw [← hh, Bd.state]; rfl
  obtain ⟨t, h1, o, h2⟩ := body p e s m below meth c s₁ Bd.exec Bd.bytes hml0 Bd.returns Bd.notSynchronized hZ (findClass_of_methodNamed Bd.named) ((name_of_methodNamed Bd.named Bd.method).1) (Stand.of_body Bd) e0 (State.WarmedH.since (State.WarmedH.refl s) 0)
  exact ⟨t, o, h1, h2⟩
theorem DoesL.of {y : MethodName} {bytes : ByteArray} {maxL : Nat} {ret : Option FieldType} {ws : List Cond} {rm : Room} {as' : Array Value} {Q : Option Value → Heap → List Loc → Prop} (hp : plainFor y = true)
    (body : ∀ (p : Program) (e : Env) (s : State) (m : MethodId) (below : List Frame) (meth : Method) (c : Code) (s₁ : State), p.tables.exec = Jvm.exec → c.code = bytes → c.maxLocals = maxL → meth.sig.returnType = ret → meth.locks = false → Z.Warmed39 (s.setVm s.vm).vm → (s.setVm s.vm).vm.findClass y.cls = some m.cls → meth.name = y.name → Stand p l e rm (s.setVm s.vm) m as' below meth c s₁ [] 0 0 → s₁.heap = h → s.Since (s.setVm s.vm).vm 0 → CHv Z EL s.vm h →
      Goes p e below (Fin1S below s rm Q) s₁ (entryFrame m as' maxL)) : DoesL EL l y bytes maxL ret ws rm Z as' h Q := by
  refine MetFree.of_bodySF hp hisR ?_
  intro p e s m args below meth c s₁ Bd hml0 hP hK
  obtain ⟨rfl, hZ, hh, hC⟩ := hP
  have e0 : s₁.heap = h := by rw [← hh, Bd.state]; rfl
  obtain ⟨t, h1, o, h2⟩ := body p e s m below meth c s₁ Bd.exec Bd.bytes hml0 Bd.returns Bd.notSynchronized hZ (findClass_of_methodNamed Bd.named) ((name_of_methodNamed Bd.named Bd.method).1) (Stand.of_body Bd) e0 (State.WarmedH.since (State.WarmedH.refl s) 0) hC
  exact ⟨t, o, h1, h2⟩
theorem fin_ofS {rm : Room} {Q : Option Value → Heap → List Loc → Prop} {v : Option Value} (X : Stand p l e R (s.setVm vm0) m args below meth c T locs cells slots) (hS : s.Since vm0 k0) (hk : k0 ≤ T.heap.size) (hlk : meth.locks = false) (hv : meth.sig.returnType = none → v = none) (hQ : Q v T.heap locs) (hc : cells ≤ rm.cells) (hs : slots ≤ rm.slots)
    (st : ∀ fs, (∀ (f : JFrame) (acts : List Action), f.method = m → f.locked = none → f.entered = [] → (doReturn e (T.setTop f) acts v).1 = T.setFrames fs) → Steps p.tables e below (T.setTop g) (T.setFrames fs)) : Goes p e below (Fin1S below s rm Q) T g := by
  obtain ⟨fs, hr, hrun, hended, hW⟩ := X.leaveW hS hk (v := v) hv hlk
  exact ⟨_, st fs hr, _, hrun, hended, _, _, rfl, hQ, hW.1, hW.2.1, hW.2.2.1, hW.2.2.2.mono hc hs⟩
theorem outVS {rm : Room} {Q : Option Value → Heap → List Loc → Prop} {pc : Nat} {Ls : Array Slot} (X : Stand p l e R (s.setVm vm0) m args below meth c T locs cells slots) (hS : s.Since vm0 k0) (hk : k0 ≤ T.heap.size) (hx : p.tables.exec = Jvm.exec) (hlk : meth.locks = false) (hret : meth.sig.returnType = none) (hd : decode c.code pc = .ok (.return_, 1)) (hQ : Q none T.heap locs) (hc : cells ≤ rm.cells) (hs : slots ≤ rm.slots) : Goes p e below (Fin1S below s rm Q) T (mkF m pc Ls []) :=
  fin_ofS X hS hk hlk (fun _ => rfl) hQ hc hs fun fs hr => X.returnOut hx hret hd hr
theorem outZS {rm : Room} {Q : Option Value → Heap → List Loc → Prop} {pc : Nat} {Ls : Array Slot} {z : Int32} {rest : List Value} (X : Stand p l e R (s.setVm vm0) m args below meth c T locs cells slots) (hS : s.Since vm0 k0) (hk : k0 ≤ T.heap.size) (hx : p.tables.exec = Jvm.exec) (hlk : meth.locks = false) (hret : meth.sig.returnType = some .boolean) (hd : decode c.code pc = .ok (.ireturn, 1)) (hQ : Q (some (.int (nar .boolean z))) T.heap locs) (hc : cells ≤ rm.cells) (hs : slots ≤ rm.slots) : Goes p e below (Fin1S below s rm Q) T (mkF m pc Ls (.int z :: rest)) :=
  fin_ofS X hS hk hlk (fun h => by rw [hret] at h; cases h) hQ hc hs fun fs hr => retN X hx (t := .boolean) hret (by simp) hd hr
theorem outAS {rm : Room} {Q : Option Value → Heap → List Loc → Prop} {pc : Nat} {Ls : Array Slot} {w : Value} {t : FieldType} {rest : List Value} (X : Stand p l e R (s.setVm vm0) m args below meth c T locs cells slots) (hS : s.Since vm0 k0) (hk : k0 ≤ T.heap.size) (hx : p.tables.exec = Jvm.exec) (hlk : meth.locks = false) (hret : meth.sig.returnType = some t) (ht : t.isReference = true) (hw : w.isRef = true) (hn : narrow t w = w) (hd : decode c.code pc = .ok (.areturn, 1)) (hQ : Q (some w) T.heap locs) (hc : cells ≤ rm.cells) (hs : slots ≤ rm.slots) : Goes p e below (Fin1S below s rm Q) T (mkF m pc Ls (w :: rest)) :=
  fin_ofS X hS hk hlk (fun h => by rw [hret] at h; cases h) hQ hc hs fun fs hr => retOut X hx hret hn (Or.inr (Or.inr (Or.inr (Or.inr ⟨rfl, ht, hw⟩)))) hd hr
theorem callIS (X : Stand p l e R (s.setVm vm0) m args below meth c T locs cells slots) (hS : s.Since vm0 k0) (hk0 : k0 ≤ h.size) (hx : p.tables.exec = Jvm.exec) (hZ : Z.Warmed39 (s.setVm vm0).vm) {own : String} {index : Nat} {y : MethodName} (hy1 : y.name = "<init>") (hown : (s.setVm vm0).vm.findClass own = some m.cls) {bytes : ByteArray} {maxL : Nat} {rm : Room}
    (w1 : (Cond.methodLink own index y).before a0 Z = true) (w2 : (Cond.instanceMethod y).before a0 Z = true) (w3 : (Cond.code y bytes maxL none).before a0 Z = true) (w4 : (Cond.initialized y.cls).before a0 Z = true) (hy : y.cls ≠ "java/lang/invoke/MethodHandle" ∧ y.cls ≠ "java/lang/invoke/VarHandle")
    (eT : T.heap = h) {a : Addr} {argsL rest : List Value} {as' : Array Value} {Q : Option Value → Heap → List Loc → Prop} {W : Nat} (hM : DoesS l y bytes maxL none [] rm Z as' h Q) (has : (.ref a :: argsL).toArray = as') (hf : rm.frames + 1 ≤ R.frames) (hl : W + (maxL + 11) + rm.locals ≤ R.locals)
    (hcc : cells + rm.cells ≤ R.cells) (hss : slots + rm.slots ≤ R.slots) {g : JFrame} (hg : g.method = m) (hsize : g.locals.size = c.maxLocals) (hlen : ∀ sig, parseMethodDescriptor y.desc = some sig → argsL.length = sig.parameters.length) (hst : g.stack = argsL.reverse ++ .ref a :: rest) (hW : 2 * g.monitorRoom + (rest.map fun v => v.category).sum ≤ W) (hd : decode c.code g.pc = .ok (.invokespecial index, 3)) :
    ∃ v T' L k1, Stand p l e R (s.setVm T'.vm) m args below meth c T' (locs ++ L) (cells + rm.cells) (slots + rm.slots) ∧ Q v T'.heap L ∧ s.Since T'.vm k1 ∧ k1 ≤ T'.heap.size ∧ Z.Warmed39 (s.setVm T'.vm).vm ∧ (s.setVm T'.vm).vm.findClass own = some m.cls ∧ ∀ target, Steps p.tables e below (T'.setTop { g with pc := g.pc + 3, stack := v.toList ++ rest }) target → Steps p.tables e below (T.setTop g) target := by
  obtain ⟨v, vm1, ⟨T', L', k', n'⟩, -, X', hS', hgr, ⟨L, hQ, e1, e2, e3⟩, st⟩ := X.specialBackS hx (y := y) hy1 hown (mvT hZ w1) (mvT hZ w2) (mvT hZ w3) hy (backOfS (W := W) hM hZ w3 w4 hf hl) hg hsize (Steps.refl _) hlen hst hW hd (fun _ _ => ⟨has, eT, hcc, hss⟩)
  dsimp only [Pt.U, Pt.locs, Pt.cells, Pt.slots] at X' e1 e2 e3 st hQ hS' hgr
  subst e1 e2 e3
  obtain ⟨Y, y2, y3, y4⟩ := rebS hS (by rw [eT]; exact hk0) X' hS' hgr hZ hown
  exact ⟨v, T', L, _, Y, hQ, y2, Nat.le_refl _, y3, y4, fun t k => st.trans k⟩
theorem callCS (X : Stand p l e R (s.setVm vm0) m args below meth c T locs cells slots) (hS : s.Since vm0 k0) (hk0 : k0 ≤ h.size) (hx : p.tables.exec = Jvm.exec) (hZ : Z.Warmed39 (s.setVm vm0).vm) {own : String} {index : Nat} {y : MethodName} (hown : (s.setVm vm0).vm.findClass own = some m.cls) {bytes : ByteArray} {maxL : Nat} {ret : Option FieldType} {rm : Room}
    (w1 : (Cond.methodLink own index y).before a0 Z = true) (w2 : (Cond.static y).before a0 Z = true) (w3 : (Cond.code y bytes maxL ret).before a0 Z = true) (w4 : (Cond.initialized y.cls).before a0 Z = true) (hy : y.cls ≠ "java/lang/invoke/MethodHandle" ∧ y.cls ≠ "java/lang/invoke/VarHandle")
    (eT : T.heap = h) {argsL rest : List Value} {as' : Array Value} {Q : Option Value → Heap → List Loc → Prop} {W : Nat} (hM : DoesS l y bytes maxL ret [] rm Z as' h Q) (has : argsL.toArray = as') (hf : rm.frames + 1 ≤ R.frames) (hl : W + (maxL + 11) + rm.locals ≤ R.locals)
    (hcc : cells + rm.cells ≤ R.cells) (hss : slots + rm.slots ≤ R.slots) {g : JFrame} (hg : g.method = m) (hsize : g.locals.size = c.maxLocals) (hlen : ∀ sig, parseMethodDescriptor y.desc = some sig → argsL.length = sig.parameters.length) (hst : g.stack = argsL.reverse ++ rest) (hW : 2 * g.monitorRoom + (rest.map fun v => v.category).sum ≤ W) (hd : decode c.code g.pc = .ok (.invokestatic index, 3)) :
    ∃ v T' L k1, Stand p l e R (s.setVm T'.vm) m args below meth c T' (locs ++ L) (cells + rm.cells) (slots + rm.slots) ∧ Q v T'.heap L ∧ s.Since T'.vm k1 ∧ k1 ≤ T'.heap.size ∧ Z.Warmed39 (s.setVm T'.vm).vm ∧ (s.setVm T'.vm).vm.findClass own = some m.cls ∧ ∀ target, Steps p.tables e below (T'.setTop { g with pc := g.pc + 3, stack := v.toList ++ rest }) target → Steps p.tables e below (T.setTop g) target := by
  obtain ⟨v, vm1, ⟨T', L', k', n'⟩, -, X', hS', hgr, ⟨L, hQ, e1, e2, e3⟩, st⟩ := callSS X hx (y := y) hown (mvT hZ w1) (mvT hZ w2) (mvT hZ w4) (mvT hZ w3) hy (backOfS (W := W) hM hZ w3 w4 hf hl) hg hsize hlen hst hW hd (fun _ _ => ⟨has, eT, hcc, hss⟩)
  dsimp only [Pt.U, Pt.locs, Pt.cells, Pt.slots] at X' e1 e2 e3 st hQ hS' hgr
  subst e1 e2 e3
  obtain ⟨Y, y2, y3, y4⟩ := rebS hS (by rw [eT]; exact hk0) X' hS' hgr hZ hown
  exact ⟨v, T', L, _, Y, hQ, y2, Nat.le_refl _, y3, y4, fun t k => st.trans k⟩
end OwnS
end Jvm.RoadKit
namespace Jvm.RoadKit
abbrev SI (x : Int32) : Slot := .val (.int x)
abbrev SD (x : UInt64) : Slot := .val (.double x)
abbrev SJ (x : Int64) : Slot := .val (.long x)
abbrev SA (x : Addr) : Slot := .val (.ref x)
abbrev SN : Slot := .val .null
abbrev SU : Slot := .unset
abbrev S2 : Slot := .second
end Jvm.RoadKit
namespace Jvm.Pilot.@@N@@
open Jvm Jvm.ClassFile Sem Op Lib Jvm.Free Jvm.Stand Jvm.LawKit Jvm.RoadKit Jvm.FP Jvm.Free.Fl Bundle Jvm.Pilot.@@N@@.Jvm.D
theorem own_wS {a0 : Array Value} {Z : State} (hw : ∀ d ∈ tables_1, d.before a0 Z = true) : ∀ a ∈ Bundle.stringAtoms, a.before a0 Z = true := fun d hd => by
  simp only [Bundle.stringAtoms, List.mem_cons, List.not_mem_nil, or_false] at hd
  rcases hd with rfl | rfl | rfl | rfl | rfl | rfl | rfl
  · exact hw _ (List.mem_of_getElem? (i := 10) rfl)
  · exact hw _ (List.mem_of_getElem? (i := 11) rfl)
  · exact hw _ (List.mem_of_getElem? (i := 12) rfl)
  · exact hw _ (List.mem_of_getElem? (i := 13) rfl)
  · exact hw _ (List.mem_of_getElem? (i := 14) rfl)
  · exact hw _ (List.mem_of_getElem? (i := 15) rfl)
  · exact hw _ (List.mem_of_getElem? (i := 16) rfl)
theorem own_mpos : (0 : Int) < ((2 ^ 1074 : Nat) : Int) := by have := Nat.two_pow_pos 1074; omega
theorem own_one : Zv ((2 ^ 1074 : Nat) : Int) 4607182418800017408 := by
  have h := Zv.of_int DInt_one
  rwa [Int.one_mul] at h
theorem own_l0 : (0 : Int64).toInt = 0 := by decide
theorem own_shl1 {y : Int32} {j : Nat} (hy : y.toInt = j) (hj : j < 16) : ((1 : Int32) <<< (y &&& 31)).toInt = ((2 ^ j : Nat) : Int) := by
  obtain rfl : y = Int32.ofNat j := Int32.toInt_inj.mp (by rw [hy, Int32.toInt_ofNat_small (by omega)])
  have h : ∀ j : Fin 16, ((1 : Int32) <<< (Int32.ofNat j.val &&& 31)).toInt = ((2 ^ j.val : Nat) : Int) := by decide +kernel
  exact h ⟨j, hj⟩
theorem own_pw_int {f : Nat} {d : UInt64} (hf : 8 ≤ f) (h : Core.DInt ((2 ^ (f - 8) : Nat) : Int) d) : Zv ((2 ^ (1066 + f) : Nat) : Int) d := by
  have t := Zv.of_int h
  rwa [← Int.natCast_mul, ← Nat.pow_add, show f - 8 + 1074 = 1066 + f by omega] at t
theorem own_pw_div {f : Nat} {d r : UInt64} (hf : f < 8) (h : Core.DInt ((2 ^ (8 - f) : Nat) : Int) d) (q : FP.ddiv 4607182418800017408 d = r) : Zv ((2 ^ (1066 + f) : Nat) : Int) r := by
  refine Zv.div (n := 1) (t := 8 - f) own_one (Zv.of_int h) ?_ q ?_ ?_ (by decide) (by omega)
  · rw [← Int.natCast_mul]
    have := Nat.mul_pos (Nat.two_pow_pos (8 - f)) (Nat.two_pow_pos 1074)
    omega
  · rw [← Int.natCast_mul, ← Int.natCast_mul, ← Int.natCast_mul, ← Nat.pow_add, ← Nat.pow_add, ← Nat.pow_add]
    exact congrArg (fun z : Nat => ((2 ^ z : Nat) : Int)) (show 1074 + 1074 = 1066 + f + (8 - f + 1074) by omega)
  · rw [Int.natAbs_natCast, Nat.one_mul]
    exact congrArg (fun z : Nat => 2 ^ z) (show 1066 + f = 1074 - (8 - f) by omega)
theorem own_land (x m : Int64) (hm : 0 ≤ m.toInt) : 0 ≤ (x &&& m).toInt ∧ (x &&& m).toInt ≤ m.toInt := by
  have h1 : (x &&& m).toBitVec = x.toBitVec &&& m.toBitVec := rfl
  have e1 : (x &&& m).toInt = (x.toBitVec &&& m.toBitVec).toInt := rfl
  have e2 : m.toInt = m.toBitVec.toInt := rfl
  rw [e2] at hm
  have hm2 : m.toBitVec.msb = false := by
    cases q : m.toBitVec.msb with
    | false => rfl
    | true => have := BitVec.toInt_neg_of_msb_true q; omega
  have hn : (x.toBitVec &&& m.toBitVec).msb = false := by rw [BitVec.msb_and, hm2, Bool.and_false]
  rw [e1, e2, BitVec.toInt_eq_toNat_of_msb hn, BitVec.toInt_eq_toNat_of_msb hm2, BitVec.toNat_and]
  have : x.toBitVec.toNat &&& m.toBitVec.toNat ≤ m.toBitVec.toNat := Nat.and_le_right
  omega
theorem own_arv {Z : State} {h : Heap} {b : Addr} {kc : ClassId} {v d : Value} (A : Arv Z h b kc .byte 1 [v] d) : Sar Z h b .byte [v] := by
  obtain ⟨c, h1, -, h3, -, h5, -⟩ := A
  have h3' : c.slots.size = 1 := h3
  refine ⟨c, h1, Array.ext_getElem? fun i => ?_⟩
  by_cases q : i < 1
  · obtain rfl : i = 0 := by omega
    rw [h5 0 (by omega)]
    rfl
  · rw [Array.getElem?_eq_none (by omega), Array.getElem?_eq_none (by simp; omega)]
def own_EL : List (String × Nat) := [("com/example/gaugefit/gaugefit/core/CountOffsetGetOffsetPinLaw", 19)]
theorem own_EW {a0 : Array Value} {Z : State} (hw : ∀ d ∈ tables_1, d.before a0 Z = true) : EW Z a0 own_EL := EW.cons (hw _ (List.mem_of_getElem? (i := 9) rfl)) (by decide) EW.nil
theorem own_div0 {i j : Int} {a b r : UInt64} (h1 : Core.DInt (i * j) a) (h2 : Core.DInt j b) (hj : j ≠ 0) (hi : i.natAbs ≤ 2 ^ 53) (q : FP.ddiv a b = r) : Zv (i * ((2 ^ 1074 : Nat) : Int)) r := by
  refine Zv.div (n := i.natAbs) (t := 0) (Zv.of_int h1) (Zv.of_int h2) ?_ q ?_ ?_ hi (by decide)
  · exact fun z => (Int.mul_eq_zero.mp z).elim hj (fun y => by have := own_mpos; rw [y] at this; omega)
  · generalize ((2 ^ 1074 : Nat) : Int) = M
    simp only [Int.mul_comm, Int.mul_left_comm, Int.mul_assoc]
  · rw [Int.natAbs_mul, Int.natAbs_natCast]
theorem own_sq {f : Nat} {x r : UInt64} (hf : f < 16) (Z : Zv ((2 ^ (1066 + f) : Nat) : Int) x) (q : FP.dmul x x = r) : Zv ((2 ^ (1058 + 2 * f) : Nat) : Int) r := by
  refine Zv.mul (n := 2 ^ (2 * f)) (t := 16) Z Z q ?_ ?_ (Nat.pow_le_pow_right (by decide) (by omega)) (by decide)
  · rw [← Int.natCast_mul, ← Int.natCast_mul, ← Nat.pow_add, ← Nat.pow_add]
    exact congrArg (fun z : Nat => ((2 ^ z : Nat) : Int)) (show 1066 + f + (1066 + f) = 1058 + 2 * f + 1074 by omega)
  · rw [Int.natAbs_natCast, ← Nat.pow_add]
    exact congrArg (fun z : Nat => 2 ^ z) (show 1058 + 2 * f = 2 * f + (1074 - 16) by omega)
theorem own_off2 {f : Nat} {i : Int} {r1 r2 r : UInt64} (hf : f < 16) (hi : i.natAbs ≤ 2147483648) (h1 : Core.DInt i r1) (h2 : Zv ((2 ^ (1058 + 2 * f) : Nat) : Int) r2) (q : FP.ddiv r1 r2 = r) : Zv (i * ((2 ^ (1090 - 2 * f) : Nat) : Int)) r := by
  refine Zv.div (n := i.natAbs * 2 ^ (16 - 2 * f)) (t := 2 * f - 16) (Zv.of_int h1) h2 ?_ q ?_ ?_ ?_ (by omega)
  · have := Nat.two_pow_pos (1058 + 2 * f)
    omega
  · rw [Int.mul_assoc, Int.mul_assoc, ← Int.natCast_mul, ← Int.natCast_mul, ← Nat.pow_add, ← Nat.pow_add]
    exact congrArg (fun z : Nat => i * ((2 ^ z : Nat) : Int)) (show 1074 + 1074 = 1090 - 2 * f + (1058 + 2 * f) by omega)
  · rw [Int.natAbs_mul, Int.natAbs_natCast, Nat.mul_assoc, ← Nat.pow_add]
    exact congrArg (fun z : Nat => i.natAbs * 2 ^ z) (show 1090 - 2 * f = 16 - 2 * f + (1074 - (2 * f - 16)) by omega)
  · calc i.natAbs * 2 ^ (16 - 2 * f) ≤ 2147483648 * 2 ^ 16 := Nat.mul_le_mul hi (Nat.pow_le_pow_right (by decide) (by omega))
      _ ≤ 2 ^ 53 := by decide
theorem own_back {f : Nat} {i : Int} {r2 r3 r : UInt64} (hf : f < 16) (hi : i.natAbs ≤ 2147483648) (h3 : Zv (i * ((2 ^ (1090 - 2 * f) : Nat) : Int)) r3) (h2 : Zv ((2 ^ (1058 + 2 * f) : Nat) : Int) r2) (q : FP.dmul r3 r2 = r) : Zv (i * ((2 ^ 1074 : Nat) : Int)) r := by
  refine Zv.mul (n := i.natAbs) (t := 0) h3 h2 q ?_ ?_ (by omega) (by decide)
  · rw [Int.mul_assoc, Int.mul_assoc, ← Int.natCast_mul, ← Int.natCast_mul, ← Nat.pow_add, ← Nat.pow_add]
    exact congrArg (fun z : Nat => i * ((2 ^ z : Nat) : Int)) (show 1090 - 2 * f + (1058 + 2 * f) = 1074 + 1074 by omega)
  · rw [Int.natAbs_mul, Int.natAbs_natCast]
theorem own_sgn {i : Int} {n : Nat} : (0 < i → 0 < i * ((2 ^ n : Nat) : Int)) ∧ (i < 0 → i * ((2 ^ n : Nat) : Int) < 0) ∧ (i = 0 → i * ((2 ^ n : Nat) : Int) = 0) := by
  have hp : (0 : Int) < ((2 ^ n : Nat) : Int) := by have := Nat.two_pow_pos n; omega
  exact ⟨fun h => Int.mul_pos h hp, fun h => Int.mul_neg_of_neg_of_pos h hp, fun h => by rw [h, Int.zero_mul]⟩
theorem own_s2 {x : Int} (h : 1 ≤ x ∧ x ≤ 1024) : 1 ≤ x * x ∧ x * x ≤ 1048576 := by
  have h1 : 1 * 1 ≤ x * x := Int.mul_le_mul h.1 h.1 (by omega) (by omega)
  have h2 : x * x ≤ 1024 * 1024 := Int.mul_le_mul h.2 h.2 (by omega) (by omega)
  omega
theorem own_ks {x y : Int} (h : 0 ≤ x ∧ x ≤ 65535) (g : 1 ≤ y ∧ y ≤ 1048576) : 0 ≤ x * y ∧ x * y ≤ 68718428160 := by
  have h1 : 0 ≤ x * y := Int.mul_nonneg h.1 (by omega)
  have h2 : x * y ≤ 65535 * 1048576 := Int.mul_le_mul h.2 g.2 (by omega) (by omega)
  omega
theorem own_dnegI {i : Int} {x d : UInt64} (h : Core.DInt i x) (q : FP.dneg x = d) : Core.DInt (-i) d := by
  rw [← q, own_dneg (Core.DInt_ne_nan h)]
  exact Core.dneg_int h
theorem own_mle {i j : Int} (h : i ≤ j) : i * ((2 ^ 1074 : Nat) : Int) ≤ j * ((2 ^ 1074 : Nat) : Int) := Int.mul_le_mul_of_nonneg_right h (Int.le_of_lt own_mpos)
theorem own_cmpL_ltI {x y : Int64} (h : x.toInt < y.toInt) : lcmpW x y = -1 := cmpL_lt (Int64.lt_iff_toInt_lt.mpr h)
theorem pd0 : parseMethodDescriptor "(D)D" = some ⟨[.double], some .double⟩ := by decide +kernel
theorem d10_0 : decode jdk_117_method_8_code 0 = .ok (.dload_n 0, 1) := by decide +kernel
theorem d10_1 : decode jdk_117_method_8_code 1 = .ok (.invokestatic 38, 3) := by decide +kernel
theorem d10_4 : decode jdk_117_method_8_code 4 = .ok (.ldc2_w 111, 3) := by decide +kernel
theorem d10_7 : decode jdk_117_method_8_code 7 = .ok (.dcmp .g, 1) := by decide +kernel
theorem d10_8 : decode jdk_117_method_8_code 8 = .ok (.ifCond .gt 7, 3) := by decide +kernel
theorem d10_11 : decode jdk_117_method_8_code 11 = .ok (.iconst 1, 1) := by decide +kernel
theorem d10_12 : decode jdk_117_method_8_code 12 = .ok (.goto 4, 3) := by decide +kernel
theorem d10_15 : decode jdk_117_method_8_code 15 = .ok (.iconst 0, 1) := by decide +kernel
theorem d10_16 : decode jdk_117_method_8_code 16 = .ok (.ireturn, 1) := by decide +kernel
theorem pn0 : plainName "java/lang/Double" = true := by first | (simp [plainName, overriddenIn]; done) | decide +kernel
theorem pd1 : parseMethodDescriptor "(D)Z" = some ⟨[.double], some .boolean⟩ := by decide +kernel
theorem ef_rm_fin (m : MethodId) (x0 : UInt64) : entryFrame m #[(.double x0)] 2 = mkF m 0 #[SD x0, S2] [] := by first | (simp [entryFrame, mkF, argsToLocals, Value.category, maxLocals]; done) | rfl
set_option maxRecDepth 65536 in
set_option maxHeartbeats 40000000 in
theorem rm_fin (l : Launch) (Z : State) (a0 : Array Value) (hw : ∀ d ∈ tables_1, d.before a0 Z = true) (x : UInt64) (h0 : Heap) (n0 : Nat) (Z0 : n0 ≤ h0.size) (FX : Fin64 x) :
    Does l (⟨"java/lang/Double", "isFinite", "(D)Z"⟩ : MethodName) jdk_117_method_8_code 2 (some .boolean) [] ({ frames := 1, cells := 0, slots := 0, locals := 13 } : Room) Z #[(.double x)] h0 (fun v h L => v = some (.int 1) ∧ Fr n0 L ∧ h = h0) := by
  refine Does.of (plainFor_of_name pn0) ?_
  intro p e s m below meth c s₁ hx hby hml hret hlk hZ hown hnm X0 e0
  have N0 := Fr.nil n0
  refine Goes.cast (g' := mkF m 0 #[SD x, S2] []) (ef_rm_fin m x) ?_
  refine Goes.by (T' := s₁) (g' := (mkF m 1 #[SD x, S2] [(.double x)])) (fun _ k => XS.dloadN X0.here hx rfl (hb hby d10_0) rfl k) ?_
  obtain ⟨T1, X1, e1, st1⟩ := natS X0 hx hZ hown (hw _ (List.mem_of_getElem? (i := 57) rfl)) (hw _ (List.mem_of_getElem? (i := 58) rfl)) (hw _ (List.mem_of_getElem? (i := 59) rfl)) (hw _ (List.mem_of_getElem? (i := 60) rfl)) (by decide) e0 (W := 0) (fun hc => Abs.absD_pays x hc (by decide) (by decide)) (g := (mkF m 1 #[SD x, S2] [(.double x)])) rfl (by rw [hml]; rfl) (argsL := [(.double x)]) (rest := []) (lenOf pd0 rfl) rfl (by show 2 * 0 + _ ≤ _; exact Nat.le_of_eq rfl) (hb hby d10_1) (by decide) (by decide) ⟨rfl, FX.noNaN⟩ rfl
  refine Goes.by (T' := T1) (g' := (mkF m 4 #[SD x, S2] [(.double (x &&& 9223372036854775807))])) st1 ?_
  refine Goes.by (T' := T1) (g' := (mkF m 7 #[SD x, S2] [(.double (9218868437227405311 : UInt64)), (.double (x &&& 9223372036854775807))])) (X1.ldc2DoubleC hx hown (mvT hZ (hw _ (List.mem_of_getElem? (i := 61) rfl))) (g := (mkF m 4 #[SD x, S2] [(.double (x &&& 9223372036854775807))])) rfl (hb hby d10_4)) ?_
  obtain ⟨cv, hv, hn⟩ := own_fin_le FX .g
  refine Goes.by (T' := T1) (g' := (mkF m 8 #[SD x, S2] [(.int cv)])) (fun _ k => XS.dcmpS X1.here hx rfl (hb hby d10_7) rfl hv k) ?_
  refine Goes.by (T' := T1) (g' := (mkF m 11 #[SD x, S2] [])) (fun _ k => XS.ifNo X1.here hx rfl (hb hby d10_8) rfl ((if0 _ _).trans (flt hn).2.2.1) k) ?_
  refine Goes.by (T' := T1) (g' := (mkF m 12 #[SD x, S2] [(.int (1 : Int32))])) (fun _ k => XS.iconst X1.here hx rfl (hb hby d10_11)  k) ?_
  refine Goes.by (T' := T1) (g' := (mkF m 16 #[SD x, S2] [(.int (1 : Int32))])) (fun _ k => XS.goto X1.here hx rfl (pc0 := 12) (pc' := 16) rfl (hb hby d10_12) (by decide) (by decide) k) ?_
  exact outZ X1 hx hlk hret (hb hby d10_16) (by rw [e1]; exact ⟨rfl, N0, rfl⟩) (by decide) (by decide)
theorem d9_0 : decode prog_10_method_1_code 0 = .ok (.aload_n 0, 1) := by decide +kernel
theorem d9_1 : decode prog_10_method_1_code 1 = .ok (.invokespecial 1, 3) := by decide +kernel
theorem d9_4 : decode prog_10_method_1_code 4 = .ok (.dload_n 1, 1) := by decide +kernel
theorem d9_5 : decode prog_10_method_1_code 5 = .ok (.invokestatic 7, 3) := by decide +kernel
theorem d9_8 : decode prog_10_method_1_code 8 = .ok (.ifCond .eq 10, 3) := by decide +kernel
theorem d9_11 : decode prog_10_method_1_code 11 = .ok (.dload_n 3, 1) := by decide +kernel
theorem d9_12 : decode prog_10_method_1_code 12 = .ok (.invokestatic 7, 3) := by decide +kernel
theorem d9_15 : decode prog_10_method_1_code 15 = .ok (.ifCond .ne 18, 3) := by decide +kernel
theorem d9_18 : decode prog_10_method_1_code 18 = .ok (.new 13, 3) := by decide +kernel
theorem d9_21 : decode prog_10_method_1_code 21 = .ok (.dup, 1) := by decide +kernel
theorem d9_22 : decode prog_10_method_1_code 22 = .ok (.dload_n 1, 1) := by decide +kernel
theorem d9_23 : decode prog_10_method_1_code 23 = .ok (.dload_n 3, 1) := by decide +kernel
theorem d9_29 : decode prog_10_method_1_code 29 = .ok (.invokespecial 19, 3) := by decide +kernel
theorem d9_32 : decode prog_10_method_1_code 32 = .ok (.athrow, 1) := by decide +kernel
theorem d9_33 : decode prog_10_method_1_code 33 = .ok (.dload_n 1, 1) := by decide +kernel
theorem d9_34 : decode prog_10_method_1_code 34 = .ok (.dload_n 3, 1) := by decide +kernel
theorem d9_35 : decode prog_10_method_1_code 35 = .ok (.dcmp .g, 1) := by decide +kernel
theorem d9_36 : decode prog_10_method_1_code 36 = .ok (.ifCond .lt 18, 3) := by decide +kernel
theorem d9_39 : decode prog_10_method_1_code 39 = .ok (.new 13, 3) := by decide +kernel
theorem d9_42 : decode prog_10_method_1_code 42 = .ok (.dup, 1) := by decide +kernel
theorem d9_43 : decode prog_10_method_1_code 43 = .ok (.dload_n 3, 1) := by decide +kernel
theorem d9_44 : decode prog_10_method_1_code 44 = .ok (.dload_n 1, 1) := by decide +kernel
theorem d9_50 : decode prog_10_method_1_code 50 = .ok (.invokespecial 19, 3) := by decide +kernel
theorem d9_53 : decode prog_10_method_1_code 53 = .ok (.athrow, 1) := by decide +kernel
theorem d9_54 : decode prog_10_method_1_code 54 = .ok (.aload_n 0, 1) := by decide +kernel
theorem d9_55 : decode prog_10_method_1_code 55 = .ok (.dload_n 1, 1) := by decide +kernel
theorem d9_56 : decode prog_10_method_1_code 56 = .ok (.putfield 23, 3) := by decide +kernel
theorem d9_59 : decode prog_10_method_1_code 59 = .ok (.aload_n 0, 1) := by decide +kernel
theorem d9_60 : decode prog_10_method_1_code 60 = .ok (.dload_n 3, 1) := by decide +kernel
theorem d9_61 : decode prog_10_method_1_code 61 = .ok (.putfield 29, 3) := by decide +kernel
theorem d9_64 : decode prog_10_method_1_code 64 = .ok (.return_, 1) := by decide +kernel
theorem pn1 : plainName "com/example/gaugefit/gaugefit/core/Interval" = true := by first | (simp [plainName, overriddenIn]; done) | decide +kernel
theorem pd2 : parseMethodDescriptor "(DD)V" = some ⟨[.double, .double], none⟩ := by decide +kernel
theorem ef_rm_iv (m : MethodId) (x0 : Addr) (x1 : UInt64) (x2 : UInt64) : entryFrame m #[(.ref x0), (.double x1), (.double x2)] 5 = mkF m 0 #[SA x0, SD x1, S2, SD x2, S2] [] := by first | (simp [entryFrame, mkF, argsToLocals, Value.category, maxLocals]; done) | rfl
set_option maxRecDepth 65536 in
set_option maxHeartbeats 40000000 in
theorem rm_iv (l : Launch) (Z : State) (a0 : Array Value) (hw : ∀ d ∈ tables_1, d.before a0 Z = true) (a : Addr) (u0 u1 : UInt64) (m0 m1 : Int) (h0 : Heap) (n0 : Nat) (Z0 : n0 ≤ h0.size) (EA : Exa Z h0 a "com/example/gaugefit/gaugefit/core/Interval") (F_begin_a : Fld Z h0 a "com/example/gaugefit/gaugefit/core/Interval" "begin" "D" (.double (0 : UInt64))) (F_end_a : Fld Z h0 a "com/example/gaugefit/gaugefit/core/Interval" "end" "D" (.double (0 : UInt64))) (ga : n0 ≤ a) (U0 : Zv m0 u0) (U1 : Zv m1 u1) (hlt : m0 < m1) :
    Does l (⟨"com/example/gaugefit/gaugefit/core/Interval", "<init>", "(DD)V"⟩ : MethodName) prog_10_method_1_code 5 none [] ({ frames := 2, cells := 0, slots := 0, locals := 26 } : Room) Z #[(.ref a), (.double u0), (.double u1)] h0 (fun v h L => v = none ∧ Fld Z h a "com/example/gaugefit/gaugefit/core/Interval" "begin" "D" (.double u0) ∧ Fld Z h a "com/example/gaugefit/gaugefit/core/Interval" "end" "D" (.double u1) ∧ Keep h0 h [a] ∧ Fr n0 L) := by
  refine Does.of (plainFor_of_name pn1) ?_
  intro p e s m below meth c s₁ hx hby hml hret hlk hZ hown hnm X0 e0
  have N0 := Fr.nil n0
  refine Goes.cast (g' := mkF m 0 #[SA a, SD u0, S2, SD u1, S2] []) (ef_rm_iv m a u0 u1) ?_
  have K0 := Keep.refl h0 [a]
  refine Goes.by (T' := s₁) (g' := (mkF m 1 #[SA a, SD u0, S2, SD u1, S2] [(.ref a)])) (fun _ k => XS.aloadN X0.here hx rfl (hb hby d9_0) rfl rfl k) ?_
  obtain ⟨T2, X2, e2, st2⟩ := initO X0 hx hZ hown (hw _ (List.mem_of_getElem? (i := 52) rfl)) (hw _ (List.mem_of_getElem? (i := 29) rfl)) (hw _ (List.mem_of_getElem? (i := 30) rfl)) e0 (g := (mkF m 1 #[SA a, SD u0, S2, SD u1, S2] [(.ref a)])) rfl (by rw [hml]; rfl) rfl (hb hby d9_1) (by decide) (W := 0) (by show 2 * 0 + _ ≤ _; exact Nat.le_of_eq rfl) (by decide)
  refine Goes.by (T' := T2) (g' := (mkF m 4 #[SA a, SD u0, S2, SD u1, S2] [])) st2 ?_
  refine Goes.by (T' := T2) (g' := (mkF m 5 #[SA a, SD u0, S2, SD u1, S2] [(.double u0)])) (fun _ k => XS.dloadN X2.here hx rfl (hb hby d9_4) rfl k) ?_
  obtain ⟨v3, T3, L3, X3, hQ3, st3⟩ := callC X2 hx hZ (y := (⟨"java/lang/Double", "isFinite", "(D)Z"⟩ : MethodName)) hown (hw _ (List.mem_of_getElem? (i := 53) rfl)) (hw _ (List.mem_of_getElem? (i := 54) rfl)) (hw _ (List.mem_of_getElem? (i := 56) rfl)) (hw _ (List.mem_of_getElem? (i := 55) rfl)) (by decide) e2 (argsL := [(.double u0)]) (rest := []) (W := 0) (rm_fin l Z a0 hw u0 h0 n0 Z0 U0.fin) rfl (by decide) (by decide) (by decide) (by decide) (g := (mkF m 5 #[SA a, SD u0, S2, SD u1, S2] [(.double u0)])) rfl (by rw [hml]; rfl) (lenOf pd1 rfl) rfl (by show 2 * 0 + _ ≤ _; exact Nat.le_of_eq rfl) (hb hby d9_5)
  obtain ⟨rfl, NL3, hk3⟩ := hQ3
  have N0 := Fr.app N0 NL3
  refine Goes.by (T' := T3) (g' := (mkF m 8 #[SA a, SD u0, S2, SD u1, S2] [(.int (1 : Int32))])) st3 ?_
  refine Goes.by (T' := T3) (g' := (mkF m 11 #[SA a, SD u0, S2, SD u1, S2] [])) (fun _ k => XS.ifNo X3.here hx rfl (hb hby d9_8) rfl (by decide) k) ?_
  refine Goes.by (T' := T3) (g' := (mkF m 12 #[SA a, SD u0, S2, SD u1, S2] [(.double u1)])) (fun _ k => XS.dloadN X3.here hx rfl (hb hby d9_11) rfl k) ?_
  obtain ⟨v4, T4, L4, X4, hQ4, st4⟩ := callC X3 hx hZ (y := (⟨"java/lang/Double", "isFinite", "(D)Z"⟩ : MethodName)) hown (hw _ (List.mem_of_getElem? (i := 53) rfl)) (hw _ (List.mem_of_getElem? (i := 54) rfl)) (hw _ (List.mem_of_getElem? (i := 56) rfl)) (hw _ (List.mem_of_getElem? (i := 55) rfl)) (by decide) hk3 (argsL := [(.double u1)]) (rest := []) (W := 0) (rm_fin l Z a0 hw u1 h0 n0 Z0 U1.fin) rfl (by decide) (by decide) (by decide) (by decide) (g := (mkF m 12 #[SA a, SD u0, S2, SD u1, S2] [(.double u1)])) rfl (by rw [hml]; rfl) (lenOf pd1 rfl) rfl (by show 2 * 0 + _ ≤ _; exact Nat.le_of_eq rfl) (hb hby d9_12)
  obtain ⟨rfl, NL4, hk4⟩ := hQ4
  have N0 := Fr.app N0 NL4
  refine Goes.by (T' := T4) (g' := (mkF m 15 #[SA a, SD u0, S2, SD u1, S2] [(.int (1 : Int32))])) st4 ?_
  refine Goes.by (T' := T4) (g' := (mkF m 33 #[SA a, SD u0, S2, SD u1, S2] [])) (fun _ k => XS.ifYes X4.here hx rfl (pc0 := 15) (pc' := 33) rfl (hb hby d9_15) rfl (by decide) (by decide) (by decide) k) ?_
  refine Goes.by (T' := T4) (g' := (mkF m 34 #[SA a, SD u0, S2, SD u1, S2] [(.double u0)])) (fun _ k => XS.dloadN X4.here hx rfl (hb hby d9_33) rfl k) ?_
  refine Goes.by (T' := T4) (g' := (mkF m 35 #[SA a, SD u0, S2, SD u1, S2] [(.double u1), (.double u0)])) (fun _ k => XS.dloadN X4.here hx rfl (hb hby d9_34) rfl k) ?_
  refine Goes.by (T' := T4) (g' := (mkF m 36 #[SA a, SD u0, S2, SD u1, S2] [(.int (-1 : Int32))])) (fun _ k => XS.dcmpS X4.here hx rfl (hb hby d9_35) rfl (U0.cmp_lt U1 hlt _) k) ?_
  refine Goes.by (T' := T4) (g' := (mkF m 54 #[SA a, SD u0, S2, SD u1, S2] [])) (fun _ k => XS.ifYes X4.here hx rfl (pc0 := 36) (pc' := 54) rfl (hb hby d9_36) rfl (by decide) (by decide) (by decide) k) ?_
  refine Goes.by (T' := T4) (g' := (mkF m 55 #[SA a, SD u0, S2, SD u1, S2] [(.ref a)])) (fun _ k => XS.aloadN X4.here hx rfl (hb hby d9_54) rfl rfl k) ?_
  refine Goes.by (T' := T4) (g' := (mkF m 56 #[SA a, SD u0, S2, SD u1, S2] [(.double u0), (.ref a)])) (fun _ k => XS.dloadN X4.here hx rfl (hb hby d9_55) rfl k) ?_
  obtain ⟨T5, h5, X5, e5, W5, st5⟩ := putF X4 hx hZ hown (host := "") (Or.inl (hw _ (List.mem_of_getElem? (i := 62) rfl))) Via.refl hk4 F_begin_a EA (Or.inr ⟨(hw _ (List.mem_of_getElem? (i := 63) rfl)), rfl, hnm⟩) (hw _ (List.mem_of_getElem? (i := 47) rfl)) (ty := .double) (by decide) rfl rfl (g := (mkF m 56 #[SA a, SD u0, S2, SD u1, S2] [(.double u0), (.ref a)])) rfl rfl (hb hby d9_56)
  have N0 := Fr.snoc X5 N0 ga
  have EA := EA.wr W5
  have F_begin_a := F_begin_a.same W5
  have F_end_a := F_end_a.other W5 (Or.inr (slot_ne (t := .double) (t' := .double) (Or.inr (hw _ (List.mem_of_getElem? (i := 65) rfl))) (Or.inr (hw _ (List.mem_of_getElem? (i := 63) rfl))) (by decide) (by decide) (by decide)))
  have Z0 := Nat.le_trans Z0 (Nat.le_of_eq W5.size.symm)
  have K0 := K0.wr W5 (Or.inl (List.mem_singleton.mpr rfl))
  refine Goes.by (T' := T5) (g' := (mkF m 59 #[SA a, SD u0, S2, SD u1, S2] [])) st5 ?_
  refine Goes.by (T' := T5) (g' := (mkF m 60 #[SA a, SD u0, S2, SD u1, S2] [(.ref a)])) (fun _ k => XS.aloadN X5.here hx rfl (hb hby d9_59) rfl rfl k) ?_
  refine Goes.by (T' := T5) (g' := (mkF m 61 #[SA a, SD u0, S2, SD u1, S2] [(.double u1), (.ref a)])) (fun _ k => XS.dloadN X5.here hx rfl (hb hby d9_60) rfl k) ?_
  obtain ⟨T6, h6, X6, e6, W6, st6⟩ := putF X5 hx hZ hown (host := "") (Or.inl (hw _ (List.mem_of_getElem? (i := 64) rfl))) Via.refl e5 F_end_a EA (Or.inr ⟨(hw _ (List.mem_of_getElem? (i := 65) rfl)), rfl, hnm⟩) (hw _ (List.mem_of_getElem? (i := 47) rfl)) (ty := .double) (by decide) rfl rfl (g := (mkF m 61 #[SA a, SD u0, S2, SD u1, S2] [(.double u1), (.ref a)])) rfl rfl (hb hby d9_61)
  have N0 := Fr.snoc X6 N0 ga
  have EA := EA.wr W6
  have F_begin_a := F_begin_a.other W6 (Or.inr (slot_ne (t := .double) (t' := .double) (Or.inr (hw _ (List.mem_of_getElem? (i := 63) rfl))) (Or.inr (hw _ (List.mem_of_getElem? (i := 65) rfl))) (by decide) (by decide) (by decide)))
  have F_end_a := F_end_a.same W6
  have Z0 := Nat.le_trans Z0 (Nat.le_of_eq W6.size.symm)
  have K0 := K0.wr W6 (Or.inl (List.mem_singleton.mpr rfl))
  refine Goes.by (T' := T6) (g' := (mkF m 64 #[SA a, SD u0, S2, SD u1, S2] [])) st6 ?_
  exact outV X6 hx hlk hret (hb hby d9_64) (by rw [e6]; exact ⟨rfl, F_begin_a, F_end_a, K0, N0⟩) (by decide) (by decide)
theorem d7_0 : decode jdk_31_method_11_code 0 = .ok (.aload_n 0, 1) := by decide +kernel
theorem d7_1 : decode jdk_31_method_11_code 1 = .ok (.ifnonnull 12, 3) := by decide +kernel
theorem d7_4 : decode jdk_31_method_11_code 4 = .ok (.new 84, 3) := by decide +kernel
theorem d7_7 : decode jdk_31_method_11_code 7 = .ok (.dup, 1) := by decide +kernel
theorem d7_8 : decode jdk_31_method_11_code 8 = .ok (.aload_n 1, 1) := by decide +kernel
theorem d7_9 : decode jdk_31_method_11_code 9 = .ok (.invokespecial 87, 3) := by decide +kernel
theorem d7_12 : decode jdk_31_method_11_code 12 = .ok (.athrow, 1) := by decide +kernel
theorem d7_13 : decode jdk_31_method_11_code 13 = .ok (.aload_n 0, 1) := by decide +kernel
theorem d7_14 : decode jdk_31_method_11_code 14 = .ok (.areturn, 1) := by decide +kernel
theorem pn2 : plainName "java/util/Objects" = true := by first | (simp [plainName, overriddenIn]; done) | decide +kernel
theorem pd3 : parseMethodDescriptor "(Ljava/lang/Object;Ljava/lang/String;)Ljava/lang/Object;" = some ⟨[(.object "java/lang/Object"), (.object "java/lang/String")], some (.object "java/lang/Object")⟩ := by decide +kernel
theorem ef_rm_req (m : MethodId) (x0 : Addr) (x1 : Addr) : entryFrame m #[(.ref x0), (.ref x1)] 2 = mkF m 0 #[SA x0, SA x1] [] := by first | (simp [entryFrame, mkF, argsToLocals, Value.category, maxLocals]; done) | rfl
set_option maxRecDepth 65536 in
set_option maxHeartbeats 40000000 in
theorem rm_req (l : Launch) (Z : State) (a0 : Array Value) (hw : ∀ d ∈ tables_1, d.before a0 Z = true) (a b : Addr) (h0 : Heap) (n0 : Nat) (Z0 : n0 ≤ h0.size)  :
    Does l (⟨"java/util/Objects", "requireNonNull", "(Ljava/lang/Object;Ljava/lang/String;)Ljava/lang/Object;"⟩ : MethodName) jdk_31_method_11_code 2 (some (.object "java/lang/Object")) [] ({ frames := 0, cells := 0, slots := 0, locals := 0 } : Room) Z #[(.ref a), (.ref b)] h0 (fun v h L => v = some (.ref a) ∧ Fr n0 L ∧ h = h0) := by
  refine Does.of (plainFor_of_name pn2) ?_
  intro p e s m below meth c s₁ hx hby hml hret hlk hZ hown hnm X0 e0
  have N0 := Fr.nil n0
  refine Goes.cast (g' := mkF m 0 #[SA a, SA b] []) (ef_rm_req m a b) ?_
  refine Goes.by (T' := s₁) (g' := (mkF m 1 #[SA a, SA b] [(.ref a)])) (fun _ k => XS.aloadN X0.here hx rfl (hb hby d7_0) rfl rfl k) ?_
  refine Goes.by (T' := s₁) (g' := (mkF m 13 #[SA a, SA b] [])) (fun _ k => XS.ifnonnullYes X0.here hx rfl (pc0 := 1) (pc' := 13) rfl (hb hby d7_1) rfl (by decide) (by decide) k) ?_
  refine Goes.by (T' := s₁) (g' := (mkF m 14 #[SA a, SA b] [(.ref a)])) (fun _ k => XS.aloadN X0.here hx rfl (hb hby d7_13) rfl rfl k) ?_
  exact outA X0 hx hlk hret rfl rfl rfl (hb hby d7_14) (by rw [e0]; exact ⟨rfl, N0, rfl⟩) (by decide) (by decide)
theorem d8_0 : decode jdk_42_method_55_code 0 = .ok (.aload_n 0, 1) := by decide +kernel
theorem d8_1 : decode jdk_42_method_55_code 1 = .ok (.getfield 9, 3) := by decide +kernel
theorem d8_4 : decode jdk_42_method_55_code 4 = .ok (.arraylength, 1) := by decide +kernel
theorem d8_5 : decode jdk_42_method_55_code 5 = .ok (.ifCond .ne 7, 3) := by decide +kernel
theorem d8_8 : decode jdk_42_method_55_code 8 = .ok (.iconst 1, 1) := by decide +kernel
theorem d8_9 : decode jdk_42_method_55_code 9 = .ok (.goto 4, 3) := by decide +kernel
theorem d8_12 : decode jdk_42_method_55_code 12 = .ok (.iconst 0, 1) := by decide +kernel
theorem d8_13 : decode jdk_42_method_55_code 13 = .ok (.ireturn, 1) := by decide +kernel
theorem pn3 : plainName "java/lang/String" = true := by first | (simp [plainName, overriddenIn]; done) | decide +kernel
theorem pd4 : parseMethodDescriptor "()Z" = some ⟨[], some .boolean⟩ := by decide +kernel
theorem ef_rm_emp (m : MethodId) (x0 : Addr) : entryFrame m #[(.ref x0)] 1 = mkF m 0 #[SA x0] [] := by first | (simp [entryFrame, mkF, argsToLocals, Value.category, maxLocals]; done) | rfl
set_option maxRecDepth 65536 in
set_option maxHeartbeats 40000000 in
theorem rm_emp (l : Launch) (Z : State) (a0 : Array Value) (hw : ∀ d ∈ tables_1, d.before a0 Z = true) (a b : Addr) (vb : Int32) (h0 : Heap) (n0 : Nat) (Z0 : n0 ≤ h0.size) (FV : Fld Z h0 a "java/lang/String" "value" "[B" (.ref b)) (VB : Sar Z h0 b .byte [.int vb]) :
    Does l (⟨"java/lang/String", "isEmpty", "()Z"⟩ : MethodName) jdk_42_method_55_code 1 (some .boolean) [] ({ frames := 0, cells := 0, slots := 0, locals := 0 } : Room) Z #[(.ref a)] h0 (fun v h L => v = some (.int 0) ∧ Fr n0 L ∧ h = h0) := by
  refine Does.of (plainFor_of_name pn3) ?_
  intro p e s m below meth c s₁ hx hby hml hret hlk hZ hown hnm X0 e0
  have N0 := Fr.nil n0
  refine Goes.cast (g' := mkF m 0 #[SA a] []) (ef_rm_emp m a) ?_
  refine Goes.by (T' := s₁) (g' := (mkF m 1 #[SA a] [(.ref a)])) (fun _ k => XS.aloadN X0.here hx rfl (hb hby d8_0) rfl rfl k) ?_
  obtain ⟨T7, X7, e7, st7⟩ := getF X0 hx hZ hown (host := "") (Or.inl (hw _ (List.mem_of_getElem? (i := 45) rfl))) Via.refl e0 FV (g := (mkF m 1 #[SA a] [(.ref a)])) rfl rfl (hb hby d8_1)
  refine Goes.by (T' := T7) (g' := (mkF m 4 #[SA a] [(.ref b)])) st7 ?_
  refine Goes.by (T' := T7) (g' := (mkF m 5 #[SA a] [(.int (1 : Int32))])) (lenS X7 hx hZ e7 VB (n := (1 : Int32)) rfl (g := (mkF m 4 #[SA a] [(.ref b)])) rfl rfl (hb hby d8_4)) ?_
  refine Goes.by (T' := T7) (g' := (mkF m 12 #[SA a] [])) (fun _ k => XS.ifYes X7.here hx rfl (pc0 := 5) (pc' := 12) rfl (hb hby d8_5) rfl (by decide) (by decide) (by decide) k) ?_
  refine Goes.by (T' := T7) (g' := (mkF m 13 #[SA a] [(.int (0 : Int32))])) (fun _ k => XS.iconst X7.here hx rfl (hb hby d8_12)  k) ?_
  exact outZ X7 hx hlk hret (hb hby d8_13) (by rw [e7]; exact ⟨rfl, N0, rfl⟩) (by decide) (by decide)
theorem d6_0 : decode prog_11_method_2_code 0 = .ok (.aload_n 0, 1) := by decide +kernel
theorem d6_1 : decode prog_11_method_2_code 1 = .ok (.ldc 7, 2) := by decide +kernel
theorem d6_3 : decode prog_11_method_2_code 3 = .ok (.invokestatic 9, 3) := by decide +kernel
theorem d6_6 : decode prog_11_method_2_code 6 = .ok (.pop, 1) := by decide +kernel
theorem d6_7 : decode prog_11_method_2_code 7 = .ok (.aload_n 0, 1) := by decide +kernel
theorem d6_8 : decode prog_11_method_2_code 8 = .ok (.invokevirtual 15, 3) := by decide +kernel
theorem d6_11 : decode prog_11_method_2_code 11 = .ok (.ifCond .eq 13, 3) := by decide +kernel
theorem d6_14 : decode prog_11_method_2_code 14 = .ok (.new 21, 3) := by decide +kernel
theorem d6_17 : decode prog_11_method_2_code 17 = .ok (.dup, 1) := by decide +kernel
theorem d6_18 : decode prog_11_method_2_code 18 = .ok (.ldc 23, 2) := by decide +kernel
theorem d6_20 : decode prog_11_method_2_code 20 = .ok (.invokespecial 25, 3) := by decide +kernel
theorem d6_23 : decode prog_11_method_2_code 23 = .ok (.athrow, 1) := by decide +kernel
theorem d6_24 : decode prog_11_method_2_code 24 = .ok (.aload_n 0, 1) := by decide +kernel
theorem d6_25 : decode prog_11_method_2_code 25 = .ok (.areturn, 1) := by decide +kernel
theorem pn4 : plainName "com/example/gaugefit/gaugefit/core/Links" = true := by first | (simp [plainName, overriddenIn]; done) | decide +kernel
theorem pd5 : parseMethodDescriptor "(Ljava/lang/String;)Ljava/lang/String;" = some ⟨[(.object "java/lang/String")], some (.object "java/lang/String")⟩ := by decide +kernel
theorem ef_rm_chk (m : MethodId) (x0 : Addr) : entryFrame m #[(.ref x0)] 1 = mkF m 0 #[SA x0] [] := by first | (simp [entryFrame, mkF, argsToLocals, Value.category, maxLocals]; done) | rfl
set_option maxRecDepth 65536 in
set_option maxHeartbeats 40000000 in
theorem rm_chk (l : Launch) (Z : State) (a0 : Array Value) (hw : ∀ d ∈ tables_1, d.before a0 Z = true) (st b : Addr) (vb : Int32) (h0 : Heap) (n0 : Nat) (Z0 : n0 ≤ h0.size) (ES : Exa Z h0 st "java/lang/String") (FV : Fld Z h0 st "java/lang/String" "value" "[B" (.ref b)) (VB : Sar Z h0 b .byte [.int vb]) :
    DoesS l (⟨"com/example/gaugefit/gaugefit/core/Links", "checkId", "(Ljava/lang/String;)Ljava/lang/String;"⟩ : MethodName) prog_11_method_2_code 1 (some (.object "java/lang/String")) [] ({ frames := 1, cells := 2, slots := 92, locals := 13 } : Room) Z #[(.ref st)] h0 (fun v h L => v = some (.ref st) ∧ Keep h0 h [] ∧ Fr n0 L) := by
  refine DoesS.of (plainFor_of_name pn4) ?_
  intro p e s m below meth c s₁ hx hby hml hret hlk hZ hown hnm X0 e0 hS
  have kS : 0 ≤ h0.size := Nat.zero_le _
  have N0 := Fr.nil n0
  refine Goes.cast (g' := mkF m 0 #[SA st] []) (ef_rm_chk m st) ?_
  have K0 := Keep.refl h0 []
  refine Goes.by (T' := s₁) (g' := (mkF m 1 #[SA st] [(.ref st)])) (fun _ k => XS.aloadN X0.here hx rfl (hb hby d6_0) rfl rfl k) ?_
  obtain ⟨mg, T8, h8, kk8, X8, e8, E8, hS, kN8, hZ, hown, st8⟩ := ldcS X0 hx hZ hown (hw _ (List.mem_of_getElem? (i := 35) rfl)) (own_wS hw) e0 hS kS (g := (mkF m 1 #[SA st] [(.ref st)])) rfl (hb hby d6_1) (n := 88) (by decide +kernel) (by decide) (by decide) (by decide)
  have ES := ES.ext E8
  have FV := FV.ext E8
  have VB := VB.ext E8
  have Z0 := Nat.le_trans Z0 E8.1
  have kS := Nat.le_trans kS E8.1
  have K0 := K0.ext E8
  have kS := kN8
  refine Goes.by (T' := T8) (g' := (mkF m 3 #[SA st] [(.ref mg), (.ref st)])) st8 ?_
  obtain ⟨v9, T9, L9, X9, hQ9, st9⟩ := callC X8 hx hZ (y := (⟨"java/util/Objects", "requireNonNull", "(Ljava/lang/Object;Ljava/lang/String;)Ljava/lang/Object;"⟩ : MethodName)) hown (hw _ (List.mem_of_getElem? (i := 36) rfl)) (hw _ (List.mem_of_getElem? (i := 37) rfl)) (hw _ (List.mem_of_getElem? (i := 39) rfl)) (hw _ (List.mem_of_getElem? (i := 38) rfl)) (by decide) e8 (argsL := [(.ref st), (.ref mg)]) (rest := []) (W := 0) (rm_req l Z a0 hw st mg h8 n0 Z0) rfl (by decide) (by decide) (by decide) (by decide) (g := (mkF m 3 #[SA st] [(.ref mg), (.ref st)])) rfl (by rw [hml]; rfl) (lenOf pd3 rfl) rfl (by show 2 * 0 + _ ≤ _; exact Nat.le_of_eq rfl) (hb hby d6_3)
  obtain ⟨rfl, NL9, hk9⟩ := hQ9
  have N0 := Fr.app N0 NL9
  refine Goes.by (T' := T9) (g' := (mkF m 6 #[SA st] [(.ref st)])) st9 ?_
  refine Goes.by (T' := T9) (g' := (mkF m 7 #[SA st] [])) (fun _ k => XS.pop X9.here hx rfl (hb hby d6_6) rfl rfl k) ?_
  refine Goes.by (T' := T9) (g' := (mkF m 8 #[SA st] [(.ref st)])) (fun _ k => XS.aloadN X9.here hx rfl (hb hby d6_7) rfl rfl k) ?_
  obtain ⟨v10, T10, L10, X10, hQ10, st10⟩ := callV X9 hx hZ (y := (⟨"java/lang/String", "isEmpty", "()Z"⟩ : MethodName)) hown (hw _ (List.mem_of_getElem? (i := 40) rfl)) (hw _ (List.mem_of_getElem? (i := 41) rfl)) (hw _ (List.mem_of_getElem? (i := 43) rfl)) (hw _ (List.mem_of_getElem? (i := 42) rfl)) (hw _ (List.mem_of_getElem? (i := 44) rfl)) (hw _ (List.mem_of_getElem? (i := 10) rfl)) (by decide) hk9 ES (argsL := []) (rest := []) (W := 0) (rm_emp l Z a0 hw st b vb h8 n0 Z0 FV VB) rfl (by decide) (by decide) (by decide) (by decide) (g := (mkF m 8 #[SA st] [(.ref st)])) rfl (by rw [hml]; rfl) (lenOf pd4 rfl) rfl (by show 2 * 0 + _ ≤ _; exact Nat.le_of_eq rfl) (hb hby d6_8)
  obtain ⟨rfl, NL10, hk10⟩ := hQ10
  have N0 := Fr.app N0 NL10
  refine Goes.by (T' := T10) (g' := (mkF m 11 #[SA st] [(.int (0 : Int32))])) st10 ?_
  refine Goes.by (T' := T10) (g' := (mkF m 24 #[SA st] [])) (fun _ k => XS.ifYes X10.here hx rfl (pc0 := 11) (pc' := 24) rfl (hb hby d6_11) rfl (by decide) (by decide) (by decide) k) ?_
  refine Goes.by (T' := T10) (g' := (mkF m 25 #[SA st] [(.ref st)])) (fun _ k => XS.aloadN X10.here hx rfl (hb hby d6_24) rfl rfl k) ?_
  exact outAS X10 hS (by rw [hk10]; exact kS) hx hlk hret rfl rfl rfl (hb hby d6_25) (by rw [hk10]; exact ⟨rfl, K0, N0⟩) (by decide) (by decide)
theorem d3_0 : decode jdk_2648_method_2_code 0 = .ok (.getstatic 21, 3) := by decide +kernel
theorem d3_3 : decode jdk_2648_method_2_code 3 = .ok (.areturn, 1) := by decide +kernel
theorem pn5 : plainName "java/util/OptionalDouble" = true := by first | (simp [plainName, overriddenIn]; done) | decide +kernel
theorem pd6 : parseMethodDescriptor "()Ljava/util/OptionalDouble;" = some ⟨[], some (.object "java/util/OptionalDouble")⟩ := by decide +kernel
theorem ef_rm_oe (m : MethodId)  : entryFrame m #[] 0 = mkF m 0 #[] [] := by first | (simp [entryFrame, mkF, argsToLocals, Value.category, maxLocals]; done) | rfl
set_option maxRecDepth 65536 in
set_option maxHeartbeats 40000000 in
theorem rm_oe (l : Launch) (Z : State) (a0 : Array Value) (hw : ∀ d ∈ tables_1, d.before a0 Z = true) (oe : Addr) (h0 : Heap) (n0 : Nat) (Z0 : n0 ≤ h0.size) (SO : Sta Z h0 "java/util/OptionalDouble" "EMPTY" "Ljava/util/OptionalDouble;" (.ref oe)) :
    Does l (⟨"java/util/OptionalDouble", "empty", "()Ljava/util/OptionalDouble;"⟩ : MethodName) jdk_2648_method_2_code 0 (some (.object "java/util/OptionalDouble")) [] ({ frames := 0, cells := 0, slots := 0, locals := 0 } : Room) Z #[] h0 (fun v h L => v = some (.ref oe) ∧ Fr n0 L ∧ h = h0) := by
  refine Does.of (plainFor_of_name pn5) ?_
  intro p e s m below meth c s₁ hx hby hml hret hlk hZ hown hnm X0 e0
  have N0 := Fr.nil n0
  refine Goes.cast (g' := mkF m 0 #[] []) (ef_rm_oe m ) ?_
  obtain ⟨T11, X11, e11, st11⟩ := getS X0 hx hZ (host := "") hown (hw _ (List.mem_of_getElem? (i := 24) rfl)) Via.refl e0 SO (g := (mkF m 0 #[] [])) rfl (hb hby d3_0)
  refine Goes.by (T' := T11) (g' := (mkF m 3 #[] [(.ref oe)])) st11 ?_
  exact outA X11 hx hlk hret rfl rfl rfl (hb hby d3_3) (by rw [e11]; exact ⟨rfl, N0, rfl⟩) (by decide) (by decide)
theorem d4_0 : decode prog_3_method_3_code 0 = .ok (.aload_n 0, 1) := by decide +kernel
theorem d4_1 : decode prog_3_method_3_code 1 = .ok (.invokespecial 21, 3) := by decide +kernel
theorem d4_4 : decode prog_3_method_3_code 4 = .ok (.aload_n 1, 1) := by decide +kernel
theorem d4_5 : decode prog_3_method_3_code 5 = .ok (.invokestatic 26, 3) := by decide +kernel
theorem d4_8 : decode prog_3_method_3_code 8 = .ok (.pop, 1) := by decide +kernel
theorem d4_9 : decode prog_3_method_3_code 9 = .ok (.new 32, 3) := by decide +kernel
theorem d4_12 : decode prog_3_method_3_code 12 = .ok (.dup, 1) := by decide +kernel
theorem d4_13 : decode prog_3_method_3_code 13 = .ok (.dload_n 2, 1) := by decide +kernel
theorem d4_14 : decode prog_3_method_3_code 14 = .ok (.dload 4, 2) := by decide +kernel
theorem d4_16 : decode prog_3_method_3_code 16 = .ok (.invokespecial 34, 3) := by decide +kernel
theorem d4_19 : decode prog_3_method_3_code 19 = .ok (.astore 9, 2) := by decide +kernel
theorem d4_21 : decode prog_3_method_3_code 21 = .ok (.dload 6, 2) := by decide +kernel
theorem d4_23 : decode prog_3_method_3_code 23 = .ok (.invokestatic 37, 3) := by decide +kernel
theorem d4_26 : decode prog_3_method_3_code 26 = .ok (.ifCond .eq 10, 3) := by decide +kernel
theorem d4_29 : decode prog_3_method_3_code 29 = .ok (.dload 6, 2) := by decide +kernel
theorem d4_31 : decode prog_3_method_3_code 31 = .ok (.dconst 0, 1) := by decide +kernel
theorem d4_32 : decode prog_3_method_3_code 32 = .ok (.dcmp .g, 1) := by decide +kernel
theorem d4_33 : decode prog_3_method_3_code 33 = .ok (.ifCond .ge 18, 3) := by decide +kernel
theorem d4_36 : decode prog_3_method_3_code 36 = .ok (.new 43, 3) := by decide +kernel
theorem d4_39 : decode prog_3_method_3_code 39 = .ok (.dup, 1) := by decide +kernel
theorem d4_40 : decode prog_3_method_3_code 40 = .ok (.dload 6, 2) := by decide +kernel
theorem d4_47 : decode prog_3_method_3_code 47 = .ok (.invokespecial 49, 3) := by decide +kernel
theorem d4_50 : decode prog_3_method_3_code 50 = .ok (.athrow, 1) := by decide +kernel
theorem d4_51 : decode prog_3_method_3_code 51 = .ok (.aload_n 0, 1) := by decide +kernel
theorem d4_52 : decode prog_3_method_3_code 52 = .ok (.aload_n 1, 1) := by decide +kernel
theorem d4_53 : decode prog_3_method_3_code 53 = .ok (.putfield 52, 3) := by decide +kernel
theorem d4_56 : decode prog_3_method_3_code 56 = .ok (.aload_n 0, 1) := by decide +kernel
theorem d4_57 : decode prog_3_method_3_code 57 = .ok (.aload 9, 2) := by decide +kernel
theorem d4_59 : decode prog_3_method_3_code 59 = .ok (.putfield 56, 3) := by decide +kernel
theorem d4_62 : decode prog_3_method_3_code 62 = .ok (.aload_n 0, 1) := by decide +kernel
theorem d4_63 : decode prog_3_method_3_code 63 = .ok (.dload 6, 2) := by decide +kernel
theorem d4_65 : decode prog_3_method_3_code 65 = .ok (.putfield 60, 3) := by decide +kernel
theorem d4_68 : decode prog_3_method_3_code 68 = .ok (.aload_n 0, 1) := by decide +kernel
theorem d4_69 : decode prog_3_method_3_code 69 = .ok (.aload 8, 2) := by decide +kernel
theorem d4_71 : decode prog_3_method_3_code 71 = .ok (.putfield 64, 3) := by decide +kernel
theorem d4_74 : decode prog_3_method_3_code 74 = .ok (.return_, 1) := by decide +kernel
theorem pn6 : plainName "com/example/gaugefit/gaugefit/core/Count" = true := by first | (simp [plainName, overriddenIn]; done) | decide +kernel
theorem pd7 : parseMethodDescriptor "(Ljava/lang/String;DDDLjava/util/OptionalDouble;)V" = some ⟨[(.object "java/lang/String"), .double, .double, .double, (.object "java/util/OptionalDouble")], none⟩ := by decide +kernel
theorem ef_rm_c5 (m : MethodId) (x0 : Addr) (x1 : Addr) (x2 : UInt64) (x3 : UInt64) (x4 : UInt64) (x5 : Addr) : entryFrame m #[(.ref x0), (.ref x1), (.double x2), (.double x3), (.double x4), (.ref x5)] 10 = mkF m 0 #[SA x0, SA x1, SD x2, S2, SD x3, S2, SD x4, S2, SA x5, SU] [] := by first | (simp [entryFrame, mkF, argsToLocals, Value.category, maxLocals]; done) | rfl
set_option maxRecDepth 65536 in
set_option maxHeartbeats 40000000 in
theorem rm_c5 (l : Launch) (Z : State) (a0 : Array Value) (hw : ∀ d ∈ tables_1, d.before a0 Z = true) (a st b oe : Addr) (vb : Int32) (vv : UInt64) (iv0 : Int) (h0 : Heap) (n0 : Nat) (Z0 : n0 ≤ h0.size) (EA : Exa Z h0 a "com/example/gaugefit/gaugefit/core/Count") (F_link_a : Fld Z h0 a "com/example/gaugefit/gaugefit/core/Count" "link" "Ljava/lang/String;" .null) (F_interval_a : Fld Z h0 a "com/example/gaugefit/gaugefit/core/Count" "interval" "Lcom/example/gaugefit/gaugefit/core/Interval;" .null) (F_value_a : Fld Z h0 a "com/example/gaugefit/gaugefit/core/Count" "value" "D" (.double (0 : UInt64))) (F_stddev_a : Fld Z h0 a "com/example/gaugefit/gaugefit/core/Count" "stddev" "Ljava/util/OptionalDouble;" .null) (ES : Exa Z h0 st "java/lang/String") (FV : Fld Z h0 st "java/lang/String" "value" "[B" (.ref b)) (VB : Sar Z h0 b .byte [.int vb]) (ga : n0 ≤ a) (Dv : Core.DInt iv0 vv) (hv0 : 0 ≤ iv0) :
    DoesS l (⟨"com/example/gaugefit/gaugefit/core/Count", "<init>", "(Ljava/lang/String;DDDLjava/util/OptionalDouble;)V"⟩ : MethodName) prog_3_method_3_code 10 none [] ({ frames := 3, cells := 3, slots := 94, locals := 43 } : Room) Z #[(.ref a), (.ref st), (.double (0 : UInt64)), (.double (4607182418800017408 : UInt64)), (.double vv), (.ref oe)] h0 (fun v h L => v = none ∧ Exa Z h a "com/example/gaugefit/gaugefit/core/Count" ∧ Fld Z h a "com/example/gaugefit/gaugefit/core/Count" "value" "D" (.double vv) ∧ Keep h0 h [a] ∧ Fr n0 L) := by
  refine DoesS.of (plainFor_of_name pn6) ?_
  intro p e s m below meth c s₁ hx hby hml hret hlk hZ hown hnm X0 e0 hS
  have kS : 0 ≤ h0.size := Nat.zero_le _
  have N0 := Fr.nil n0
  refine Goes.cast (g' := mkF m 0 #[SA a, SA st, SD (0 : UInt64), S2, SD (4607182418800017408 : UInt64), S2, SD vv, S2, SA oe, SU] []) (ef_rm_c5 m a st (0 : UInt64) (4607182418800017408 : UInt64) vv oe) ?_
  have K0 := Keep.refl h0 [a]
  refine Goes.by (T' := s₁) (g' := (mkF m 1 #[SA a, SA st, SD (0 : UInt64), S2, SD (4607182418800017408 : UInt64), S2, SD vv, S2, SA oe, SU] [(.ref a)])) (fun _ k => XS.aloadN X0.here hx rfl (hb hby d4_0) rfl rfl k) ?_
  obtain ⟨T12, X12, e12, st12⟩ := initO X0 hx hZ hown (hw _ (List.mem_of_getElem? (i := 28) rfl)) (hw _ (List.mem_of_getElem? (i := 29) rfl)) (hw _ (List.mem_of_getElem? (i := 30) rfl)) e0 (g := (mkF m 1 #[SA a, SA st, SD (0 : UInt64), S2, SD (4607182418800017408 : UInt64), S2, SD vv, S2, SA oe, SU] [(.ref a)])) rfl (by rw [hml]; rfl) rfl (hb hby d4_1) (by decide) (W := 0) (by show 2 * 0 + _ ≤ _; exact Nat.le_of_eq rfl) (by decide)
  refine Goes.by (T' := T12) (g' := (mkF m 4 #[SA a, SA st, SD (0 : UInt64), S2, SD (4607182418800017408 : UInt64), S2, SD vv, S2, SA oe, SU] [])) st12 ?_
  refine Goes.by (T' := T12) (g' := (mkF m 5 #[SA a, SA st, SD (0 : UInt64), S2, SD (4607182418800017408 : UInt64), S2, SD vv, S2, SA oe, SU] [(.ref st)])) (fun _ k => XS.aloadN X12.here hx rfl (hb hby d4_4) rfl rfl k) ?_
  obtain ⟨v13, T13, L13, kk13, X13, hQ13, hS, kN13, hZ, hown, st13⟩ := callCS X12 hS kS hx hZ (y := (⟨"com/example/gaugefit/gaugefit/core/Links", "checkId", "(Ljava/lang/String;)Ljava/lang/String;"⟩ : MethodName)) hown (hw _ (List.mem_of_getElem? (i := 31) rfl)) (hw _ (List.mem_of_getElem? (i := 32) rfl)) (hw _ (List.mem_of_getElem? (i := 34) rfl)) (hw _ (List.mem_of_getElem? (i := 33) rfl)) (by decide) e12 (argsL := [(.ref st)]) (rest := []) (W := 0) (rm_chk l Z a0 hw st b vb h0 n0 Z0 ES FV VB) rfl (by decide) (by decide) (by decide) (by decide) (g := (mkF m 5 #[SA a, SA st, SD (0 : UInt64), S2, SD (4607182418800017408 : UInt64), S2, SD vv, S2, SA oe, SU] [(.ref st)])) rfl (by rw [hml]; rfl) (lenOf pd5 rfl) rfl (by show 2 * 0 + _ ≤ _; exact Nat.le_of_eq rfl) (hb hby d4_5)
  obtain ⟨rfl, K13, NL13⟩ := hQ13
  have N0 := Fr.app N0 NL13
  have e13 : T13.heap = T13.heap := rfl
  have EA := EA.keep K13
  have F_link_a := F_link_a.keep K13 nin0
  have F_interval_a := F_interval_a.keep K13 nin0
  have F_value_a := F_value_a.keep K13 nin0
  have F_stddev_a := F_stddev_a.keep K13 nin0
  have ES := ES.keep K13
  have FV := FV.keep K13 nin0
  have VB := VB.keep K13 nin0
  have Z0 := Nat.le_trans Z0 K13.1
  have kS := Nat.le_trans kS K13.1
  have K0 := K0.trans K13 all0
  have kS := kN13
  refine Goes.by (T' := T13) (g' := (mkF m 8 #[SA a, SA st, SD (0 : UInt64), S2, SD (4607182418800017408 : UInt64), S2, SD vv, S2, SA oe, SU] [(.ref st)])) st13 ?_
  refine Goes.by (T' := T13) (g' := (mkF m 9 #[SA a, SA st, SD (0 : UInt64), S2, SD (4607182418800017408 : UInt64), S2, SD vv, S2, SA oe, SU] [])) (fun _ k => XS.pop X13.here hx rfl (hb hby d4_8) rfl rfl k) ?_
  obtain ⟨T14, h14, X14, e14, E14, A14, D14, -, st14⟩ := newO X13 hx hZ hown (hw _ (List.mem_of_getElem? (i := 46) rfl)) (hw _ (List.mem_of_getElem? (i := 47) rfl)) (hw _ (List.mem_of_getElem? (i := 48) rfl)) e13 (g := (mkF m 9 #[SA a, SA st, SD (0 : UInt64), S2, SD (4607182418800017408 : UInt64), S2, SD vv, S2, SA oe, SU] [])) rfl (hb hby d4_9) (by decide) (by decide)
  obtain ⟨iv, g14⟩ : ∃ z, z = T13.heap.size := ⟨_, rfl⟩
  rw [← g14] at A14 D14 st14
  have ne_a_iv : a ≠ iv := fun q => Nat.lt_irrefl _ (Nat.lt_of_lt_of_eq EA.lt (g14.symm.trans q.symm))
  have ge_iv : n0 ≤ iv := Nat.le_trans Z0 (Nat.le_of_eq g14.symm)
  have sz_iv : h0.size ≤ iv := Nat.le_trans K0.1 (Nat.le_of_eq g14.symm)
  have EA := EA.ext E14
  have F_link_a := F_link_a.ext E14
  have F_interval_a := F_interval_a.ext E14
  have F_value_a := F_value_a.ext E14
  have F_stddev_a := F_stddev_a.ext E14
  have Z0 := Nat.le_trans Z0 E14.1
  have kS := Nat.le_trans kS E14.1
  have K0 := K0.ext E14
  have E_iv := A14
  have F_begin_iv : Fld Z h14 iv "com/example/gaugefit/gaugefit/core/Interval" "begin" "D" (.double (0 : UInt64)) := D14 (Or.inr (hw _ (List.mem_of_getElem? (i := 63) rfl))) (ty := .double) (by decide)
  have F_end_iv : Fld Z h14 iv "com/example/gaugefit/gaugefit/core/Interval" "end" "D" (.double (0 : UInt64)) := D14 (Or.inr (hw _ (List.mem_of_getElem? (i := 65) rfl))) (ty := .double) (by decide)
  refine Goes.by (T' := T14) (g' := (mkF m 12 #[SA a, SA st, SD (0 : UInt64), S2, SD (4607182418800017408 : UInt64), S2, SD vv, S2, SA oe, SU] [(.ref iv)])) st14 ?_
  refine Goes.by (T' := T14) (g' := (mkF m 13 #[SA a, SA st, SD (0 : UInt64), S2, SD (4607182418800017408 : UInt64), S2, SD vv, S2, SA oe, SU] [(.ref iv), (.ref iv)])) (fun _ k => XS.dup X14.here hx rfl (hb hby d4_12) rfl rfl k) ?_
  refine Goes.by (T' := T14) (g' := (mkF m 14 #[SA a, SA st, SD (0 : UInt64), S2, SD (4607182418800017408 : UInt64), S2, SD vv, S2, SA oe, SU] [(.double (0 : UInt64)), (.ref iv), (.ref iv)])) (fun _ k => XS.dloadN X14.here hx rfl (hb hby d4_13) rfl k) ?_
  refine Goes.by (T' := T14) (g' := (mkF m 16 #[SA a, SA st, SD (0 : UInt64), S2, SD (4607182418800017408 : UInt64), S2, SD vv, S2, SA oe, SU] [(.double (4607182418800017408 : UInt64)), (.double (0 : UInt64)), (.ref iv), (.ref iv)])) (fun _ k => XS.dload X14.here hx rfl (hb hby d4_14) rfl k) ?_
  obtain ⟨v15, T15, L15, X15, hQ15, st15⟩ := callI X14 hx hZ (y := (⟨"com/example/gaugefit/gaugefit/core/Interval", "<init>", "(DD)V"⟩ : MethodName)) rfl hown (hw _ (List.mem_of_getElem? (i := 49) rfl)) (hw _ (List.mem_of_getElem? (i := 50) rfl)) (hw _ (List.mem_of_getElem? (i := 51) rfl)) (hw _ (List.mem_of_getElem? (i := 48) rfl)) (by decide) e14 (a := iv) (argsL := [(.double (0 : UInt64)), (.double (4607182418800017408 : UInt64))]) (rest := [(.ref iv)]) (W := 1) (rm_iv l Z a0 hw iv (0 : UInt64) (4607182418800017408 : UInt64) 0 ((2 ^ 1074 : Nat) : Int) h14 n0 Z0 E_iv F_begin_iv F_end_iv ge_iv Zv.zero own_one own_mpos) rfl (by decide) (by decide) (by decide) (by decide) (g := (mkF m 16 #[SA a, SA st, SD (0 : UInt64), S2, SD (4607182418800017408 : UInt64), S2, SD vv, S2, SA oe, SU] [(.double (4607182418800017408 : UInt64)), (.double (0 : UInt64)), (.ref iv), (.ref iv)])) rfl (by rw [hml]; rfl) (lenOf pd2 rfl) rfl (by show 2 * 0 + _ ≤ _; exact Nat.le_of_eq rfl) (hb hby d4_16)
  obtain ⟨rfl, -, -, K15, NL15⟩ := hQ15
  have N0 := Fr.app N0 NL15
  have e15 : T15.heap = T15.heap := rfl
  have EA := EA.keep K15
  have F_link_a := F_link_a.keep K15 (ninS ne_a_iv nin0)
  have F_interval_a := F_interval_a.keep K15 (ninS ne_a_iv nin0)
  have F_value_a := F_value_a.keep K15 (ninS ne_a_iv nin0)
  have F_stddev_a := F_stddev_a.keep K15 (ninS ne_a_iv nin0)
  have E_iv := E_iv.keep K15
  have Z0 := Nat.le_trans Z0 K15.1
  have kS := Nat.le_trans kS K15.1
  have K0 := K0.trans K15 (allS (Or.inr sz_iv) all0)
  refine Goes.by (T' := T15) (g' := (mkF m 19 #[SA a, SA st, SD (0 : UInt64), S2, SD (4607182418800017408 : UInt64), S2, SD vv, S2, SA oe, SU] [(.ref iv)])) st15 ?_
  refine Goes.by (T' := T15) (g' := (mkF m 21 #[SA a, SA st, SD (0 : UInt64), S2, SD (4607182418800017408 : UInt64), S2, SD vv, S2, SA oe, SA iv] [])) (fun _ k => XS.astore X15.here hx rfl (hb hby d4_19) rfl rfl (l' := #[SA a, SA st, SD (0 : UInt64), S2, SD (4607182418800017408 : UInt64), S2, SD vv, S2, SA oe, SA iv]) rfl k) ?_
  refine Goes.by (T' := T15) (g' := (mkF m 23 #[SA a, SA st, SD (0 : UInt64), S2, SD (4607182418800017408 : UInt64), S2, SD vv, S2, SA oe, SA iv] [(.double vv)])) (fun _ k => XS.dload X15.here hx rfl (hb hby d4_21) rfl k) ?_
  obtain ⟨v16, T16, L16, X16, hQ16, st16⟩ := callC X15 hx hZ (y := (⟨"java/lang/Double", "isFinite", "(D)Z"⟩ : MethodName)) hown (hw _ (List.mem_of_getElem? (i := 66) rfl)) (hw _ (List.mem_of_getElem? (i := 54) rfl)) (hw _ (List.mem_of_getElem? (i := 56) rfl)) (hw _ (List.mem_of_getElem? (i := 55) rfl)) (by decide) e15 (argsL := [(.double vv)]) (rest := []) (W := 0) (rm_fin l Z a0 hw vv T15.heap n0 Z0 (DInt_fin Dv)) rfl (by decide) (by decide) (by decide) (by decide) (g := (mkF m 23 #[SA a, SA st, SD (0 : UInt64), S2, SD (4607182418800017408 : UInt64), S2, SD vv, S2, SA oe, SA iv] [(.double vv)])) rfl (by rw [hml]; rfl) (lenOf pd1 rfl) rfl (by show 2 * 0 + _ ≤ _; exact Nat.le_of_eq rfl) (hb hby d4_23)
  obtain ⟨rfl, NL16, hk16⟩ := hQ16
  have N0 := Fr.app N0 NL16
  refine Goes.by (T' := T16) (g' := (mkF m 26 #[SA a, SA st, SD (0 : UInt64), S2, SD (4607182418800017408 : UInt64), S2, SD vv, S2, SA oe, SA iv] [(.int (1 : Int32))])) st16 ?_
  refine Goes.by (T' := T16) (g' := (mkF m 29 #[SA a, SA st, SD (0 : UInt64), S2, SD (4607182418800017408 : UInt64), S2, SD vv, S2, SA oe, SA iv] [])) (fun _ k => XS.ifNo X16.here hx rfl (hb hby d4_26) rfl (by decide) k) ?_
  refine Goes.by (T' := T16) (g' := (mkF m 31 #[SA a, SA st, SD (0 : UInt64), S2, SD (4607182418800017408 : UInt64), S2, SD vv, S2, SA oe, SA iv] [(.double vv)])) (fun _ k => XS.dload X16.here hx rfl (hb hby d4_29) rfl k) ?_
  refine Goes.by (T' := T16) (g' := (mkF m 32 #[SA a, SA st, SD (0 : UInt64), S2, SD (4607182418800017408 : UInt64), S2, SD vv, S2, SA oe, SA iv] [(.double (0 : UInt64)), (.double vv)])) (fun _ k => XS.dconst0 X16.here hx rfl (hb hby d4_31) rfl k) ?_
  obtain ⟨cv, hcv, hcn⟩ := cmpD_ge Dv DInt_zero hv0 .g
  refine Goes.by (T' := T16) (g' := (mkF m 33 #[SA a, SA st, SD (0 : UInt64), S2, SD (4607182418800017408 : UInt64), S2, SD vv, S2, SA oe, SA iv] [(.int cv)])) (fun _ k => XS.dcmpS X16.here hx rfl (hb hby d4_32) rfl hcv k) ?_
  refine Goes.by (T' := T16) (g' := (mkF m 51 #[SA a, SA st, SD (0 : UInt64), S2, SD (4607182418800017408 : UInt64), S2, SD vv, S2, SA oe, SA iv] [])) (fun _ k => XS.ifYes X16.here hx rfl (pc0 := 33) (pc' := 51) rfl (hb hby d4_33) rfl ((if0 _ _).trans (flt hcn).2.1) (by decide) (by decide) k) ?_
  refine Goes.by (T' := T16) (g' := (mkF m 52 #[SA a, SA st, SD (0 : UInt64), S2, SD (4607182418800017408 : UInt64), S2, SD vv, S2, SA oe, SA iv] [(.ref a)])) (fun _ k => XS.aloadN X16.here hx rfl (hb hby d4_51) rfl rfl k) ?_
  refine Goes.by (T' := T16) (g' := (mkF m 53 #[SA a, SA st, SD (0 : UInt64), S2, SD (4607182418800017408 : UInt64), S2, SD vv, S2, SA oe, SA iv] [(.ref st), (.ref a)])) (fun _ k => XS.aloadN X16.here hx rfl (hb hby d4_52) rfl rfl k) ?_
  obtain ⟨T17, h17, X17, e17, W17, st17⟩ := putF X16 hx hZ hown (host := "") (Or.inl (hw _ (List.mem_of_getElem? (i := 67) rfl))) Via.refl hk16 F_link_a EA (Or.inr ⟨(hw _ (List.mem_of_getElem? (i := 68) rfl)), rfl, hnm⟩) (hw _ (List.mem_of_getElem? (i := 7) rfl)) (ty := (.object "java/lang/String")) (by decide) rfl rfl (g := (mkF m 53 #[SA a, SA st, SD (0 : UInt64), S2, SD (4607182418800017408 : UInt64), S2, SD vv, S2, SA oe, SA iv] [(.ref st), (.ref a)])) rfl rfl (hb hby d4_53)
  have N0 := Fr.snoc X17 N0 ga
  have EA := EA.wr W17
  have F_link_a := F_link_a.same W17
  have F_interval_a := F_interval_a.other W17 (Or.inr (slot_ne (t := (.object "com/example/gaugefit/gaugefit/core/Interval")) (t' := (.object "java/lang/String")) (Or.inr (hw _ (List.mem_of_getElem? (i := 70) rfl))) (Or.inr (hw _ (List.mem_of_getElem? (i := 68) rfl))) (by decide) (by decide) (by decide)))
  have F_value_a := F_value_a.other W17 (Or.inr (slot_ne (t := .double) (t' := (.object "java/lang/String")) (Or.inr (hw _ (List.mem_of_getElem? (i := 72) rfl))) (Or.inr (hw _ (List.mem_of_getElem? (i := 68) rfl))) (by decide) (by decide) (by decide)))
  have F_stddev_a := F_stddev_a.other W17 (Or.inr (slot_ne (t := (.object "java/util/OptionalDouble")) (t' := (.object "java/lang/String")) (Or.inr (hw _ (List.mem_of_getElem? (i := 74) rfl))) (Or.inr (hw _ (List.mem_of_getElem? (i := 68) rfl))) (by decide) (by decide) (by decide)))
  have Z0 := Nat.le_trans Z0 (Nat.le_of_eq W17.size.symm)
  have kS := Nat.le_trans kS (Nat.le_of_eq W17.size.symm)
  have K0 := K0.wr W17 (Or.inl (List.mem_singleton.mpr rfl))
  refine Goes.by (T' := T17) (g' := (mkF m 56 #[SA a, SA st, SD (0 : UInt64), S2, SD (4607182418800017408 : UInt64), S2, SD vv, S2, SA oe, SA iv] [])) st17 ?_
  refine Goes.by (T' := T17) (g' := (mkF m 57 #[SA a, SA st, SD (0 : UInt64), S2, SD (4607182418800017408 : UInt64), S2, SD vv, S2, SA oe, SA iv] [(.ref a)])) (fun _ k => XS.aloadN X17.here hx rfl (hb hby d4_56) rfl rfl k) ?_
  refine Goes.by (T' := T17) (g' := (mkF m 59 #[SA a, SA st, SD (0 : UInt64), S2, SD (4607182418800017408 : UInt64), S2, SD vv, S2, SA oe, SA iv] [(.ref iv), (.ref a)])) (fun _ k => XS.aload X17.here hx rfl (hb hby d4_57) rfl rfl k) ?_
  obtain ⟨T18, h18, X18, e18, W18, st18⟩ := putF X17 hx hZ hown (host := "") (Or.inl (hw _ (List.mem_of_getElem? (i := 69) rfl))) Via.refl e17 F_interval_a EA (Or.inr ⟨(hw _ (List.mem_of_getElem? (i := 70) rfl)), rfl, hnm⟩) (hw _ (List.mem_of_getElem? (i := 7) rfl)) (ty := (.object "com/example/gaugefit/gaugefit/core/Interval")) (by decide) rfl rfl (g := (mkF m 59 #[SA a, SA st, SD (0 : UInt64), S2, SD (4607182418800017408 : UInt64), S2, SD vv, S2, SA oe, SA iv] [(.ref iv), (.ref a)])) rfl rfl (hb hby d4_59)
  have N0 := Fr.snoc X18 N0 ga
  have EA := EA.wr W18
  have F_link_a := F_link_a.other W18 (Or.inr (slot_ne (t := (.object "java/lang/String")) (t' := (.object "com/example/gaugefit/gaugefit/core/Interval")) (Or.inr (hw _ (List.mem_of_getElem? (i := 68) rfl))) (Or.inr (hw _ (List.mem_of_getElem? (i := 70) rfl))) (by decide) (by decide) (by decide)))
  have F_interval_a := F_interval_a.same W18
  have F_value_a := F_value_a.other W18 (Or.inr (slot_ne (t := .double) (t' := (.object "com/example/gaugefit/gaugefit/core/Interval")) (Or.inr (hw _ (List.mem_of_getElem? (i := 72) rfl))) (Or.inr (hw _ (List.mem_of_getElem? (i := 70) rfl))) (by decide) (by decide) (by decide)))
  have F_stddev_a := F_stddev_a.other W18 (Or.inr (slot_ne (t := (.object "java/util/OptionalDouble")) (t' := (.object "com/example/gaugefit/gaugefit/core/Interval")) (Or.inr (hw _ (List.mem_of_getElem? (i := 74) rfl))) (Or.inr (hw _ (List.mem_of_getElem? (i := 70) rfl))) (by decide) (by decide) (by decide)))
  have Z0 := Nat.le_trans Z0 (Nat.le_of_eq W18.size.symm)
  have kS := Nat.le_trans kS (Nat.le_of_eq W18.size.symm)
  have K0 := K0.wr W18 (Or.inl (List.mem_singleton.mpr rfl))
  refine Goes.by (T' := T18) (g' := (mkF m 62 #[SA a, SA st, SD (0 : UInt64), S2, SD (4607182418800017408 : UInt64), S2, SD vv, S2, SA oe, SA iv] [])) st18 ?_
  refine Goes.by (T' := T18) (g' := (mkF m 63 #[SA a, SA st, SD (0 : UInt64), S2, SD (4607182418800017408 : UInt64), S2, SD vv, S2, SA oe, SA iv] [(.ref a)])) (fun _ k => XS.aloadN X18.here hx rfl (hb hby d4_62) rfl rfl k) ?_
  refine Goes.by (T' := T18) (g' := (mkF m 65 #[SA a, SA st, SD (0 : UInt64), S2, SD (4607182418800017408 : UInt64), S2, SD vv, S2, SA oe, SA iv] [(.double vv), (.ref a)])) (fun _ k => XS.dload X18.here hx rfl (hb hby d4_63) rfl k) ?_
  obtain ⟨T19, h19, X19, e19, W19, st19⟩ := putF X18 hx hZ hown (host := "") (Or.inl (hw _ (List.mem_of_getElem? (i := 71) rfl))) Via.refl e18 F_value_a EA (Or.inr ⟨(hw _ (List.mem_of_getElem? (i := 72) rfl)), rfl, hnm⟩) (hw _ (List.mem_of_getElem? (i := 7) rfl)) (ty := .double) (by decide) rfl rfl (g := (mkF m 65 #[SA a, SA st, SD (0 : UInt64), S2, SD (4607182418800017408 : UInt64), S2, SD vv, S2, SA oe, SA iv] [(.double vv), (.ref a)])) rfl rfl (hb hby d4_65)
  have N0 := Fr.snoc X19 N0 ga
  have EA := EA.wr W19
  have F_link_a := F_link_a.other W19 (Or.inr (slot_ne (t := (.object "java/lang/String")) (t' := .double) (Or.inr (hw _ (List.mem_of_getElem? (i := 68) rfl))) (Or.inr (hw _ (List.mem_of_getElem? (i := 72) rfl))) (by decide) (by decide) (by decide)))
  have F_interval_a := F_interval_a.other W19 (Or.inr (slot_ne (t := (.object "com/example/gaugefit/gaugefit/core/Interval")) (t' := .double) (Or.inr (hw _ (List.mem_of_getElem? (i := 70) rfl))) (Or.inr (hw _ (List.mem_of_getElem? (i := 72) rfl))) (by decide) (by decide) (by decide)))
  have F_value_a := F_value_a.same W19
  have F_stddev_a := F_stddev_a.other W19 (Or.inr (slot_ne (t := (.object "java/util/OptionalDouble")) (t' := .double) (Or.inr (hw _ (List.mem_of_getElem? (i := 74) rfl))) (Or.inr (hw _ (List.mem_of_getElem? (i := 72) rfl))) (by decide) (by decide) (by decide)))
  have Z0 := Nat.le_trans Z0 (Nat.le_of_eq W19.size.symm)
  have kS := Nat.le_trans kS (Nat.le_of_eq W19.size.symm)
  have K0 := K0.wr W19 (Or.inl (List.mem_singleton.mpr rfl))
  refine Goes.by (T' := T19) (g' := (mkF m 68 #[SA a, SA st, SD (0 : UInt64), S2, SD (4607182418800017408 : UInt64), S2, SD vv, S2, SA oe, SA iv] [])) st19 ?_
  refine Goes.by (T' := T19) (g' := (mkF m 69 #[SA a, SA st, SD (0 : UInt64), S2, SD (4607182418800017408 : UInt64), S2, SD vv, S2, SA oe, SA iv] [(.ref a)])) (fun _ k => XS.aloadN X19.here hx rfl (hb hby d4_68) rfl rfl k) ?_
  refine Goes.by (T' := T19) (g' := (mkF m 71 #[SA a, SA st, SD (0 : UInt64), S2, SD (4607182418800017408 : UInt64), S2, SD vv, S2, SA oe, SA iv] [(.ref oe), (.ref a)])) (fun _ k => XS.aload X19.here hx rfl (hb hby d4_69) rfl rfl k) ?_
  obtain ⟨T20, h20, X20, e20, W20, st20⟩ := putF X19 hx hZ hown (host := "") (Or.inl (hw _ (List.mem_of_getElem? (i := 73) rfl))) Via.refl e19 F_stddev_a EA (Or.inr ⟨(hw _ (List.mem_of_getElem? (i := 74) rfl)), rfl, hnm⟩) (hw _ (List.mem_of_getElem? (i := 7) rfl)) (ty := (.object "java/util/OptionalDouble")) (by decide) rfl rfl (g := (mkF m 71 #[SA a, SA st, SD (0 : UInt64), S2, SD (4607182418800017408 : UInt64), S2, SD vv, S2, SA oe, SA iv] [(.ref oe), (.ref a)])) rfl rfl (hb hby d4_71)
  have N0 := Fr.snoc X20 N0 ga
  have EA := EA.wr W20
  have F_link_a := F_link_a.other W20 (Or.inr (slot_ne (t := (.object "java/lang/String")) (t' := (.object "java/util/OptionalDouble")) (Or.inr (hw _ (List.mem_of_getElem? (i := 68) rfl))) (Or.inr (hw _ (List.mem_of_getElem? (i := 74) rfl))) (by decide) (by decide) (by decide)))
  have F_interval_a := F_interval_a.other W20 (Or.inr (slot_ne (t := (.object "com/example/gaugefit/gaugefit/core/Interval")) (t' := (.object "java/util/OptionalDouble")) (Or.inr (hw _ (List.mem_of_getElem? (i := 70) rfl))) (Or.inr (hw _ (List.mem_of_getElem? (i := 74) rfl))) (by decide) (by decide) (by decide)))
  have F_value_a := F_value_a.other W20 (Or.inr (slot_ne (t := .double) (t' := (.object "java/util/OptionalDouble")) (Or.inr (hw _ (List.mem_of_getElem? (i := 72) rfl))) (Or.inr (hw _ (List.mem_of_getElem? (i := 74) rfl))) (by decide) (by decide) (by decide)))
  have F_stddev_a := F_stddev_a.same W20
  have Z0 := Nat.le_trans Z0 (Nat.le_of_eq W20.size.symm)
  have kS := Nat.le_trans kS (Nat.le_of_eq W20.size.symm)
  have K0 := K0.wr W20 (Or.inl (List.mem_singleton.mpr rfl))
  refine Goes.by (T' := T20) (g' := (mkF m 74 #[SA a, SA st, SD (0 : UInt64), S2, SD (4607182418800017408 : UInt64), S2, SD vv, S2, SA oe, SA iv] [])) st20 ?_
  exact outVS X20 hS (by rw [e20]; exact kS) hx hlk hret (hb hby d4_74) (by rw [e20]; exact ⟨rfl, EA, F_value_a, K0, N0⟩) (by decide) (by decide)
theorem d2_0 : decode prog_3_method_1_code 0 = .ok (.aload_n 0, 1) := by decide +kernel
theorem d2_1 : decode prog_3_method_1_code 1 = .ok (.aload_n 1, 1) := by decide +kernel
theorem d2_2 : decode prog_3_method_1_code 2 = .ok (.dload_n 2, 1) := by decide +kernel
theorem d2_3 : decode prog_3_method_1_code 3 = .ok (.dload 4, 2) := by decide +kernel
theorem d2_5 : decode prog_3_method_1_code 5 = .ok (.dload 6, 2) := by decide +kernel
theorem d2_7 : decode prog_3_method_1_code 7 = .ok (.invokestatic 1, 3) := by decide +kernel
theorem d2_10 : decode prog_3_method_1_code 10 = .ok (.invokespecial 7, 3) := by decide +kernel
theorem d2_13 : decode prog_3_method_1_code 13 = .ok (.return_, 1) := by decide +kernel
theorem pd8 : parseMethodDescriptor "(Ljava/lang/String;DDD)V" = some ⟨[(.object "java/lang/String"), .double, .double, .double], none⟩ := by decide +kernel
theorem ef_rm_c4 (m : MethodId) (x0 : Addr) (x1 : Addr) (x2 : UInt64) (x3 : UInt64) (x4 : UInt64) : entryFrame m #[(.ref x0), (.ref x1), (.double x2), (.double x3), (.double x4)] 8 = mkF m 0 #[SA x0, SA x1, SD x2, S2, SD x3, S2, SD x4, S2] [] := by first | (simp [entryFrame, mkF, argsToLocals, Value.category, maxLocals]; done) | rfl
set_option maxRecDepth 65536 in
set_option maxHeartbeats 40000000 in
theorem rm_c4 (l : Launch) (Z : State) (a0 : Array Value) (hw : ∀ d ∈ tables_1, d.before a0 Z = true) (a st b oe : Addr) (vb : Int32) (vv : UInt64) (iv0 : Int) (h0 : Heap) (n0 : Nat) (Z0 : n0 ≤ h0.size) (EA : Exa Z h0 a "com/example/gaugefit/gaugefit/core/Count") (F_link_a : Fld Z h0 a "com/example/gaugefit/gaugefit/core/Count" "link" "Ljava/lang/String;" .null) (F_interval_a : Fld Z h0 a "com/example/gaugefit/gaugefit/core/Count" "interval" "Lcom/example/gaugefit/gaugefit/core/Interval;" .null) (F_value_a : Fld Z h0 a "com/example/gaugefit/gaugefit/core/Count" "value" "D" (.double (0 : UInt64))) (F_stddev_a : Fld Z h0 a "com/example/gaugefit/gaugefit/core/Count" "stddev" "Ljava/util/OptionalDouble;" .null) (ES : Exa Z h0 st "java/lang/String") (FV : Fld Z h0 st "java/lang/String" "value" "[B" (.ref b)) (VB : Sar Z h0 b .byte [.int vb]) (SO : Sta Z h0 "java/util/OptionalDouble" "EMPTY" "Ljava/util/OptionalDouble;" (.ref oe)) (ga : n0 ≤ a) (Dv : Core.DInt iv0 vv) (hv0 : 0 ≤ iv0) :
    DoesS l (⟨"com/example/gaugefit/gaugefit/core/Count", "<init>", "(Ljava/lang/String;DDD)V"⟩ : MethodName) prog_3_method_1_code 8 none [] ({ frames := 4, cells := 3, slots := 94, locals := 64 } : Room) Z #[(.ref a), (.ref st), (.double (0 : UInt64)), (.double (4607182418800017408 : UInt64)), (.double vv)] h0 (fun v h L => v = none ∧ Exa Z h a "com/example/gaugefit/gaugefit/core/Count" ∧ Fld Z h a "com/example/gaugefit/gaugefit/core/Count" "value" "D" (.double vv) ∧ Keep h0 h [a] ∧ Fr n0 L) := by
  refine DoesS.of (plainFor_of_name pn6) ?_
  intro p e s m below meth c s₁ hx hby hml hret hlk hZ hown hnm X0 e0 hS
  have kS : 0 ≤ h0.size := Nat.zero_le _
  have N0 := Fr.nil n0
  refine Goes.cast (g' := mkF m 0 #[SA a, SA st, SD (0 : UInt64), S2, SD (4607182418800017408 : UInt64), S2, SD vv, S2] []) (ef_rm_c4 m a st (0 : UInt64) (4607182418800017408 : UInt64) vv) ?_
  have K0 := Keep.refl h0 [a]
  refine Goes.by (T' := s₁) (g' := (mkF m 1 #[SA a, SA st, SD (0 : UInt64), S2, SD (4607182418800017408 : UInt64), S2, SD vv, S2] [(.ref a)])) (fun _ k => XS.aloadN X0.here hx rfl (hb hby d2_0) rfl rfl k) ?_
  refine Goes.by (T' := s₁) (g' := (mkF m 2 #[SA a, SA st, SD (0 : UInt64), S2, SD (4607182418800017408 : UInt64), S2, SD vv, S2] [(.ref st), (.ref a)])) (fun _ k => XS.aloadN X0.here hx rfl (hb hby d2_1) rfl rfl k) ?_
  refine Goes.by (T' := s₁) (g' := (mkF m 3 #[SA a, SA st, SD (0 : UInt64), S2, SD (4607182418800017408 : UInt64), S2, SD vv, S2] [(.double (0 : UInt64)), (.ref st), (.ref a)])) (fun _ k => XS.dloadN X0.here hx rfl (hb hby d2_2) rfl k) ?_
  refine Goes.by (T' := s₁) (g' := (mkF m 5 #[SA a, SA st, SD (0 : UInt64), S2, SD (4607182418800017408 : UInt64), S2, SD vv, S2] [(.double (4607182418800017408 : UInt64)), (.double (0 : UInt64)), (.ref st), (.ref a)])) (fun _ k => XS.dload X0.here hx rfl (hb hby d2_3) rfl k) ?_
  refine Goes.by (T' := s₁) (g' := (mkF m 7 #[SA a, SA st, SD (0 : UInt64), S2, SD (4607182418800017408 : UInt64), S2, SD vv, S2] [(.double vv), (.double (4607182418800017408 : UInt64)), (.double (0 : UInt64)), (.ref st), (.ref a)])) (fun _ k => XS.dload X0.here hx rfl (hb hby d2_5) rfl k) ?_
  obtain ⟨v21, T21, L21, X21, hQ21, st21⟩ := callC X0 hx hZ (y := (⟨"java/util/OptionalDouble", "empty", "()Ljava/util/OptionalDouble;"⟩ : MethodName)) hown (hw _ (List.mem_of_getElem? (i := 20) rfl)) (hw _ (List.mem_of_getElem? (i := 21) rfl)) (hw _ (List.mem_of_getElem? (i := 23) rfl)) (hw _ (List.mem_of_getElem? (i := 22) rfl)) (by decide) e0 (argsL := []) (rest := [(.double vv), (.double (4607182418800017408 : UInt64)), (.double (0 : UInt64)), (.ref st), (.ref a)]) (W := 8) (rm_oe l Z a0 hw oe h0 n0 Z0 SO) rfl (by decide) (by decide) (by decide) (by decide) (g := (mkF m 7 #[SA a, SA st, SD (0 : UInt64), S2, SD (4607182418800017408 : UInt64), S2, SD vv, S2] [(.double vv), (.double (4607182418800017408 : UInt64)), (.double (0 : UInt64)), (.ref st), (.ref a)])) rfl (by rw [hml]; rfl) (lenOf pd6 rfl) rfl (by show 2 * 0 + _ ≤ _; exact Nat.le_of_eq rfl) (hb hby d2_7)
  obtain ⟨rfl, NL21, hk21⟩ := hQ21
  have N0 := Fr.app N0 NL21
  refine Goes.by (T' := T21) (g' := (mkF m 10 #[SA a, SA st, SD (0 : UInt64), S2, SD (4607182418800017408 : UInt64), S2, SD vv, S2] [(.ref oe), (.double vv), (.double (4607182418800017408 : UInt64)), (.double (0 : UInt64)), (.ref st), (.ref a)])) st21 ?_
  obtain ⟨v22, T22, L22, kk22, X22, hQ22, hS, kN22, hZ, hown, st22⟩ := callIS X21 hS kS hx hZ (y := (⟨"com/example/gaugefit/gaugefit/core/Count", "<init>", "(Ljava/lang/String;DDDLjava/util/OptionalDouble;)V"⟩ : MethodName)) rfl hown (hw _ (List.mem_of_getElem? (i := 25) rfl)) (hw _ (List.mem_of_getElem? (i := 26) rfl)) (hw _ (List.mem_of_getElem? (i := 27) rfl)) (hw _ (List.mem_of_getElem? (i := 8) rfl)) (by decide) hk21 (a := a) (argsL := [(.ref st), (.double (0 : UInt64)), (.double (4607182418800017408 : UInt64)), (.double vv), (.ref oe)]) (rest := []) (W := 0) (rm_c5 l Z a0 hw a st b oe vb vv iv0 h0 n0 Z0 EA F_link_a F_interval_a F_value_a F_stddev_a ES FV VB ga Dv hv0) rfl (by decide) (by decide) (by decide) (by decide) (g := (mkF m 10 #[SA a, SA st, SD (0 : UInt64), S2, SD (4607182418800017408 : UInt64), S2, SD vv, S2] [(.ref oe), (.double vv), (.double (4607182418800017408 : UInt64)), (.double (0 : UInt64)), (.ref st), (.ref a)])) rfl (by rw [hml]; rfl) (lenOf pd7 rfl) rfl (by show 2 * 0 + _ ≤ _; exact Nat.le_of_eq rfl) (hb hby d2_10)
  obtain ⟨rfl, -, FV2, K22, NL22⟩ := hQ22
  have N0 := Fr.app N0 NL22
  have e22 : T22.heap = T22.heap := rfl
  have EA := EA.keep K22
  have Z0 := Nat.le_trans Z0 K22.1
  have kS := Nat.le_trans kS K22.1
  have K0 := K0.trans K22 (allS (Or.inl (List.mem_singleton.mpr rfl)) all0)
  have kS := kN22
  refine Goes.by (T' := T22) (g' := (mkF m 13 #[SA a, SA st, SD (0 : UInt64), S2, SD (4607182418800017408 : UInt64), S2, SD vv, S2] [])) st22 ?_
  exact outVS X22 hS (by rw [e22]; exact kS) hx hlk hret (hb hby d2_13) (by rw [e22]; exact ⟨rfl, EA, FV2, K0, N0⟩) (by decide) (by decide)
theorem d13_0 : decode prog_3_method_4_code 0 = .ok (.dload_n 0, 1) := by decide +kernel
theorem d13_1 : decode prog_3_method_4_code 1 = .ok (.invokestatic 37, 3) := by decide +kernel
theorem d13_4 : decode prog_3_method_4_code 4 = .ok (.ifCond .eq 9, 3) := by decide +kernel
theorem d13_7 : decode prog_3_method_4_code 7 = .ok (.dload_n 0, 1) := by decide +kernel
theorem d13_8 : decode prog_3_method_4_code 8 = .ok (.dconst 0, 1) := by decide +kernel
theorem d13_9 : decode prog_3_method_4_code 9 = .ok (.dcmp .l, 1) := by decide +kernel
theorem d13_10 : decode prog_3_method_4_code 10 = .ok (.ifCond .gt 17, 3) := by decide +kernel
theorem d13_13 : decode prog_3_method_4_code 13 = .ok (.new 43, 3) := by decide +kernel
theorem d13_16 : decode prog_3_method_4_code 16 = .ok (.dup, 1) := by decide +kernel
theorem d13_17 : decode prog_3_method_4_code 17 = .ok (.dload_n 0, 1) := by decide +kernel
theorem d13_23 : decode prog_3_method_4_code 23 = .ok (.invokespecial 49, 3) := by decide +kernel
theorem d13_26 : decode prog_3_method_4_code 26 = .ok (.athrow, 1) := by decide +kernel
theorem d13_27 : decode prog_3_method_4_code 27 = .ok (.dload_n 0, 1) := by decide +kernel
theorem d13_28 : decode prog_3_method_4_code 28 = .ok (.dreturn, 1) := by decide +kernel
theorem ef_rm_cst (m : MethodId) (x0 : UInt64) : entryFrame m #[(.double x0)] 2 = mkF m 0 #[SD x0, S2] [] := by first | (simp [entryFrame, mkF, argsToLocals, Value.category, maxLocals]; done) | rfl
set_option maxRecDepth 65536 in
set_option maxHeartbeats 40000000 in
theorem rm_cst (l : Launch) (Z : State) (a0 : Array Value) (hw : ∀ d ∈ tables_1, d.before a0 Z = true) (x : UInt64) (mx : Int) (h0 : Heap) (n0 : Nat) (Z0 : n0 ≤ h0.size) (ZX : Zv mx x) (hpos : 0 < mx) :
    Does l (⟨"com/example/gaugefit/gaugefit/core/Count", "checkStddev", "(D)D"⟩ : MethodName) prog_3_method_4_code 2 (some .double) [] ({ frames := 2, cells := 0, slots := 0, locals := 26 } : Room) Z #[(.double x)] h0 (fun v h L => v = some (.double x) ∧ Fr n0 L ∧ h = h0) := by
  refine Does.of (plainFor_of_name pn6) ?_
  intro p e s m below meth c s₁ hx hby hml hret hlk hZ hown hnm X0 e0
  have N0 := Fr.nil n0
  refine Goes.cast (g' := mkF m 0 #[SD x, S2] []) (ef_rm_cst m x) ?_
  refine Goes.by (T' := s₁) (g' := (mkF m 1 #[SD x, S2] [(.double x)])) (fun _ k => XS.dloadN X0.here hx rfl (hb hby d13_0) rfl k) ?_
  obtain ⟨v23, T23, L23, X23, hQ23, st23⟩ := callC X0 hx hZ (y := (⟨"java/lang/Double", "isFinite", "(D)Z"⟩ : MethodName)) hown (hw _ (List.mem_of_getElem? (i := 66) rfl)) (hw _ (List.mem_of_getElem? (i := 54) rfl)) (hw _ (List.mem_of_getElem? (i := 56) rfl)) (hw _ (List.mem_of_getElem? (i := 55) rfl)) (by decide) e0 (argsL := [(.double x)]) (rest := []) (W := 0) (rm_fin l Z a0 hw x h0 n0 Z0 ZX.fin) rfl (by decide) (by decide) (by decide) (by decide) (g := (mkF m 1 #[SD x, S2] [(.double x)])) rfl (by rw [hml]; rfl) (lenOf pd1 rfl) rfl (by show 2 * 0 + _ ≤ _; exact Nat.le_of_eq rfl) (hb hby d13_1)
  obtain ⟨rfl, NL23, hk23⟩ := hQ23
  have N0 := Fr.app N0 NL23
  refine Goes.by (T' := T23) (g' := (mkF m 4 #[SD x, S2] [(.int (1 : Int32))])) st23 ?_
  refine Goes.by (T' := T23) (g' := (mkF m 7 #[SD x, S2] [])) (fun _ k => XS.ifNo X23.here hx rfl (hb hby d13_4) rfl (by decide) k) ?_
  refine Goes.by (T' := T23) (g' := (mkF m 8 #[SD x, S2] [(.double x)])) (fun _ k => XS.dloadN X23.here hx rfl (hb hby d13_7) rfl k) ?_
  refine Goes.by (T' := T23) (g' := (mkF m 9 #[SD x, S2] [(.double (0 : UInt64)), (.double x)])) (fun _ k => XS.dconst0 X23.here hx rfl (hb hby d13_8) rfl k) ?_
  refine Goes.by (T' := T23) (g' := (mkF m 10 #[SD x, S2] [(.int (1 : Int32))])) (fun _ k => XS.dcmpS X23.here hx rfl (hb hby d13_9) rfl (ZX.cmp_gt Zv.zero hpos _) k) ?_
  refine Goes.by (T' := T23) (g' := (mkF m 27 #[SD x, S2] [])) (fun _ k => XS.ifYes X23.here hx rfl (pc0 := 10) (pc' := 27) rfl (hb hby d13_10) rfl (by decide) (by decide) (by decide) k) ?_
  refine Goes.by (T' := T23) (g' := (mkF m 28 #[SD x, S2] [(.double x)])) (fun _ k => XS.dloadN X23.here hx rfl (hb hby d13_27) rfl k) ?_
  exact outD X23 hx hlk hret (hb hby d13_28) (by rw [hk23]; exact ⟨rfl, N0, rfl⟩) (by decide) (by decide)
theorem d12_0 : decode prog_4_method_1_code 0 = .ok (.aload_n 0, 1) := by decide +kernel
theorem d12_1 : decode prog_4_method_1_code 1 = .ok (.invokespecial 1, 3) := by decide +kernel
theorem d12_4 : decode prog_4_method_1_code 4 = .ok (.aload_n 1, 1) := by decide +kernel
theorem d12_5 : decode prog_4_method_1_code 5 = .ok (.ldc 7, 2) := by decide +kernel
theorem d12_7 : decode prog_4_method_1_code 7 = .ok (.invokestatic 9, 3) := by decide +kernel
theorem d12_10 : decode prog_4_method_1_code 10 = .ok (.pop, 1) := by decide +kernel
theorem d12_11 : decode prog_4_method_1_code 11 = .ok (.dload_n 2, 1) := by decide +kernel
theorem d12_12 : decode prog_4_method_1_code 12 = .ok (.invokestatic 15, 3) := by decide +kernel
theorem d12_15 : decode prog_4_method_1_code 15 = .ok (.ifCond .eq 9, 3) := by decide +kernel
theorem d12_18 : decode prog_4_method_1_code 18 = .ok (.dload_n 2, 1) := by decide +kernel
theorem d12_19 : decode prog_4_method_1_code 19 = .ok (.dconst 0, 1) := by decide +kernel
theorem d12_20 : decode prog_4_method_1_code 20 = .ok (.dcmp .g, 1) := by decide +kernel
theorem d12_21 : decode prog_4_method_1_code 21 = .ok (.ifCond .ge 17, 3) := by decide +kernel
theorem d12_24 : decode prog_4_method_1_code 24 = .ok (.new 21, 3) := by decide +kernel
theorem d12_27 : decode prog_4_method_1_code 27 = .ok (.dup, 1) := by decide +kernel
theorem d12_28 : decode prog_4_method_1_code 28 = .ok (.dload_n 2, 1) := by decide +kernel
theorem d12_34 : decode prog_4_method_1_code 34 = .ok (.invokespecial 27, 3) := by decide +kernel
theorem d12_37 : decode prog_4_method_1_code 37 = .ok (.athrow, 1) := by decide +kernel
theorem d12_38 : decode prog_4_method_1_code 38 = .ok (.aload_n 0, 1) := by decide +kernel
theorem d12_39 : decode prog_4_method_1_code 39 = .ok (.aload_n 1, 1) := by decide +kernel
theorem d12_40 : decode prog_4_method_1_code 40 = .ok (.putfield 30, 3) := by decide +kernel
theorem d12_43 : decode prog_4_method_1_code 43 = .ok (.aload_n 0, 1) := by decide +kernel
theorem d12_44 : decode prog_4_method_1_code 44 = .ok (.dload_n 2, 1) := by decide +kernel
theorem d12_45 : decode prog_4_method_1_code 45 = .ok (.putfield 36, 3) := by decide +kernel
theorem d12_48 : decode prog_4_method_1_code 48 = .ok (.aload_n 0, 1) := by decide +kernel
theorem d12_49 : decode prog_4_method_1_code 49 = .ok (.dload 4, 2) := by decide +kernel
theorem d12_51 : decode prog_4_method_1_code 51 = .ok (.invokestatic 40, 3) := by decide +kernel
theorem d12_54 : decode prog_4_method_1_code 54 = .ok (.putfield 46, 3) := by decide +kernel
theorem d12_57 : decode prog_4_method_1_code 57 = .ok (.return_, 1) := by decide +kernel
theorem pn7 : plainName "com/example/gaugefit/gaugefit/core/CountOffset" = true := by first | (simp [plainName, overriddenIn]; done) | decide +kernel
theorem pd9 : parseMethodDescriptor "(Lcom/example/gaugefit/gaugefit/core/Count;DD)V" = some ⟨[(.object "com/example/gaugefit/gaugefit/core/Count"), .double, .double], none⟩ := by decide +kernel
theorem ef_rm_cof (m : MethodId) (x0 : Addr) (x1 : Addr) (x2 : UInt64) (x3 : UInt64) : entryFrame m #[(.ref x0), (.ref x1), (.double x2), (.double x3)] 6 = mkF m 0 #[SA x0, SA x1, SD x2, S2, SD x3, S2] [] := by first | (simp [entryFrame, mkF, argsToLocals, Value.category, maxLocals]; done) | rfl
set_option maxRecDepth 65536 in
set_option maxHeartbeats 40000000 in
theorem rm_cof (l : Launch) (Z : State) (a0 : Array Value) (hw : ∀ d ∈ tables_1, d.before a0 Z = true) (a cn : Addr) (sm sd : UInt64) (is0 mx : Int) (h0 : Heap) (n0 : Nat) (Z0 : n0 ≤ h0.size) (EA : Exa Z h0 a "com/example/gaugefit/gaugefit/core/CountOffset") (F_count_a : Fld Z h0 a "com/example/gaugefit/gaugefit/core/CountOffset" "count" "Lcom/example/gaugefit/gaugefit/core/Count;" .null) (F_simulated_a : Fld Z h0 a "com/example/gaugefit/gaugefit/core/CountOffset" "simulated" "D" (.double (0 : UInt64))) (F_stddev_a : Fld Z h0 a "com/example/gaugefit/gaugefit/core/CountOffset" "stddev" "D" (.double (0 : UInt64))) (ga : n0 ≤ a) (Ds : Core.DInt is0 sm) (hs0 : 0 ≤ is0) (ZX : Zv mx sd) (hpos : 0 < mx) :
    DoesS l (⟨"com/example/gaugefit/gaugefit/core/CountOffset", "<init>", "(Lcom/example/gaugefit/gaugefit/core/Count;DD)V"⟩ : MethodName) prog_4_method_1_code 6 none [] ({ frames := 3, cells := 2, slots := 92, locals := 40 } : Room) Z #[(.ref a), (.ref cn), (.double sm), (.double sd)] h0 (fun v h L => v = none ∧ Exa Z h a "com/example/gaugefit/gaugefit/core/CountOffset" ∧ Fld Z h a "com/example/gaugefit/gaugefit/core/CountOffset" "count" "Lcom/example/gaugefit/gaugefit/core/Count;" (.ref cn) ∧ Fld Z h a "com/example/gaugefit/gaugefit/core/CountOffset" "simulated" "D" (.double sm) ∧ Fld Z h a "com/example/gaugefit/gaugefit/core/CountOffset" "stddev" "D" (.double sd) ∧ Keep h0 h [a] ∧ Fr n0 L) := by
  refine DoesS.of (plainFor_of_name pn7) ?_
  intro p e s m below meth c s₁ hx hby hml hret hlk hZ hown hnm X0 e0 hS
  have kS : 0 ≤ h0.size := Nat.zero_le _
  have N0 := Fr.nil n0
  refine Goes.cast (g' := mkF m 0 #[SA a, SA cn, SD sm, S2, SD sd, S2] []) (ef_rm_cof m a cn sm sd) ?_
  have K0 := Keep.refl h0 [a]
  refine Goes.by (T' := s₁) (g' := (mkF m 1 #[SA a, SA cn, SD sm, S2, SD sd, S2] [(.ref a)])) (fun _ k => XS.aloadN X0.here hx rfl (hb hby d12_0) rfl rfl k) ?_
  obtain ⟨T24, X24, e24, st24⟩ := initO X0 hx hZ hown (hw _ (List.mem_of_getElem? (i := 81) rfl)) (hw _ (List.mem_of_getElem? (i := 29) rfl)) (hw _ (List.mem_of_getElem? (i := 30) rfl)) e0 (g := (mkF m 1 #[SA a, SA cn, SD sm, S2, SD sd, S2] [(.ref a)])) rfl (by rw [hml]; rfl) rfl (hb hby d12_1) (by decide) (W := 0) (by show 2 * 0 + _ ≤ _; exact Nat.le_of_eq rfl) (by decide)
  refine Goes.by (T' := T24) (g' := (mkF m 4 #[SA a, SA cn, SD sm, S2, SD sd, S2] [])) st24 ?_
  refine Goes.by (T' := T24) (g' := (mkF m 5 #[SA a, SA cn, SD sm, S2, SD sd, S2] [(.ref cn)])) (fun _ k => XS.aloadN X24.here hx rfl (hb hby d12_4) rfl rfl k) ?_
  obtain ⟨mg, T25, h25, kk25, X25, e25, E25, hS, kN25, hZ, hown, st25⟩ := ldcS X24 hx hZ hown (hw _ (List.mem_of_getElem? (i := 82) rfl)) (own_wS hw) e24 hS kS (g := (mkF m 5 #[SA a, SA cn, SD sm, S2, SD sd, S2] [(.ref cn)])) rfl (hb hby d12_5) (n := 88) (by decide +kernel) (by decide) (by decide) (by decide)
  have EA := EA.ext E25
  have F_count_a := F_count_a.ext E25
  have F_simulated_a := F_simulated_a.ext E25
  have F_stddev_a := F_stddev_a.ext E25
  have Z0 := Nat.le_trans Z0 E25.1
  have kS := Nat.le_trans kS E25.1
  have K0 := K0.ext E25
  have kS := kN25
  refine Goes.by (T' := T25) (g' := (mkF m 7 #[SA a, SA cn, SD sm, S2, SD sd, S2] [(.ref mg), (.ref cn)])) st25 ?_
  obtain ⟨v26, T26, L26, X26, hQ26, st26⟩ := callC X25 hx hZ (y := (⟨"java/util/Objects", "requireNonNull", "(Ljava/lang/Object;Ljava/lang/String;)Ljava/lang/Object;"⟩ : MethodName)) hown (hw _ (List.mem_of_getElem? (i := 83) rfl)) (hw _ (List.mem_of_getElem? (i := 37) rfl)) (hw _ (List.mem_of_getElem? (i := 39) rfl)) (hw _ (List.mem_of_getElem? (i := 38) rfl)) (by decide) e25 (argsL := [(.ref cn), (.ref mg)]) (rest := []) (W := 0) (rm_req l Z a0 hw cn mg h25 n0 Z0) rfl (by decide) (by decide) (by decide) (by decide) (g := (mkF m 7 #[SA a, SA cn, SD sm, S2, SD sd, S2] [(.ref mg), (.ref cn)])) rfl (by rw [hml]; rfl) (lenOf pd3 rfl) rfl (by show 2 * 0 + _ ≤ _; exact Nat.le_of_eq rfl) (hb hby d12_7)
  obtain ⟨rfl, NL26, hk26⟩ := hQ26
  have N0 := Fr.app N0 NL26
  refine Goes.by (T' := T26) (g' := (mkF m 10 #[SA a, SA cn, SD sm, S2, SD sd, S2] [(.ref cn)])) st26 ?_
  refine Goes.by (T' := T26) (g' := (mkF m 11 #[SA a, SA cn, SD sm, S2, SD sd, S2] [])) (fun _ k => XS.pop X26.here hx rfl (hb hby d12_10) rfl rfl k) ?_
  refine Goes.by (T' := T26) (g' := (mkF m 12 #[SA a, SA cn, SD sm, S2, SD sd, S2] [(.double sm)])) (fun _ k => XS.dloadN X26.here hx rfl (hb hby d12_11) rfl k) ?_
  obtain ⟨v27, T27, L27, X27, hQ27, st27⟩ := callC X26 hx hZ (y := (⟨"java/lang/Double", "isFinite", "(D)Z"⟩ : MethodName)) hown (hw _ (List.mem_of_getElem? (i := 84) rfl)) (hw _ (List.mem_of_getElem? (i := 54) rfl)) (hw _ (List.mem_of_getElem? (i := 56) rfl)) (hw _ (List.mem_of_getElem? (i := 55) rfl)) (by decide) hk26 (argsL := [(.double sm)]) (rest := []) (W := 0) (rm_fin l Z a0 hw sm h25 n0 Z0 (DInt_fin Ds)) rfl (by decide) (by decide) (by decide) (by decide) (g := (mkF m 12 #[SA a, SA cn, SD sm, S2, SD sd, S2] [(.double sm)])) rfl (by rw [hml]; rfl) (lenOf pd1 rfl) rfl (by show 2 * 0 + _ ≤ _; exact Nat.le_of_eq rfl) (hb hby d12_12)
  obtain ⟨rfl, NL27, hk27⟩ := hQ27
  have N0 := Fr.app N0 NL27
  refine Goes.by (T' := T27) (g' := (mkF m 15 #[SA a, SA cn, SD sm, S2, SD sd, S2] [(.int (1 : Int32))])) st27 ?_
  refine Goes.by (T' := T27) (g' := (mkF m 18 #[SA a, SA cn, SD sm, S2, SD sd, S2] [])) (fun _ k => XS.ifNo X27.here hx rfl (hb hby d12_15) rfl (by decide) k) ?_
  refine Goes.by (T' := T27) (g' := (mkF m 19 #[SA a, SA cn, SD sm, S2, SD sd, S2] [(.double sm)])) (fun _ k => XS.dloadN X27.here hx rfl (hb hby d12_18) rfl k) ?_
  refine Goes.by (T' := T27) (g' := (mkF m 20 #[SA a, SA cn, SD sm, S2, SD sd, S2] [(.double (0 : UInt64)), (.double sm)])) (fun _ k => XS.dconst0 X27.here hx rfl (hb hby d12_19) rfl k) ?_
  obtain ⟨cv, hcv, hcn⟩ := cmpD_ge Ds DInt_zero hs0 .g
  refine Goes.by (T' := T27) (g' := (mkF m 21 #[SA a, SA cn, SD sm, S2, SD sd, S2] [(.int cv)])) (fun _ k => XS.dcmpS X27.here hx rfl (hb hby d12_20) rfl hcv k) ?_
  refine Goes.by (T' := T27) (g' := (mkF m 38 #[SA a, SA cn, SD sm, S2, SD sd, S2] [])) (fun _ k => XS.ifYes X27.here hx rfl (pc0 := 21) (pc' := 38) rfl (hb hby d12_21) rfl ((if0 _ _).trans (flt hcn).2.1) (by decide) (by decide) k) ?_
  refine Goes.by (T' := T27) (g' := (mkF m 39 #[SA a, SA cn, SD sm, S2, SD sd, S2] [(.ref a)])) (fun _ k => XS.aloadN X27.here hx rfl (hb hby d12_38) rfl rfl k) ?_
  refine Goes.by (T' := T27) (g' := (mkF m 40 #[SA a, SA cn, SD sm, S2, SD sd, S2] [(.ref cn), (.ref a)])) (fun _ k => XS.aloadN X27.here hx rfl (hb hby d12_39) rfl rfl k) ?_
  obtain ⟨T28, h28, X28, e28, W28, st28⟩ := putF X27 hx hZ hown (host := "") (Or.inl (hw _ (List.mem_of_getElem? (i := 85) rfl))) Via.refl hk27 F_count_a EA (Or.inr ⟨(hw _ (List.mem_of_getElem? (i := 86) rfl)), rfl, hnm⟩) (hw _ (List.mem_of_getElem? (i := 76) rfl)) (ty := (.object "com/example/gaugefit/gaugefit/core/Count")) (by decide) rfl rfl (g := (mkF m 40 #[SA a, SA cn, SD sm, S2, SD sd, S2] [(.ref cn), (.ref a)])) rfl rfl (hb hby d12_40)
  have N0 := Fr.snoc X28 N0 ga
  have EA := EA.wr W28
  have F_count_a := F_count_a.same W28
  have F_simulated_a := F_simulated_a.other W28 (Or.inr (slot_ne (t := .double) (t' := (.object "com/example/gaugefit/gaugefit/core/Count")) (Or.inr (hw _ (List.mem_of_getElem? (i := 88) rfl))) (Or.inr (hw _ (List.mem_of_getElem? (i := 86) rfl))) (by decide) (by decide) (by decide)))
  have F_stddev_a := F_stddev_a.other W28 (Or.inr (slot_ne (t := .double) (t' := (.object "com/example/gaugefit/gaugefit/core/Count")) (Or.inr (hw _ (List.mem_of_getElem? (i := 93) rfl))) (Or.inr (hw _ (List.mem_of_getElem? (i := 86) rfl))) (by decide) (by decide) (by decide)))
  have Z0 := Nat.le_trans Z0 (Nat.le_of_eq W28.size.symm)
  have kS := Nat.le_trans kS (Nat.le_of_eq W28.size.symm)
  have K0 := K0.wr W28 (Or.inl (List.mem_singleton.mpr rfl))
  refine Goes.by (T' := T28) (g' := (mkF m 43 #[SA a, SA cn, SD sm, S2, SD sd, S2] [])) st28 ?_
  refine Goes.by (T' := T28) (g' := (mkF m 44 #[SA a, SA cn, SD sm, S2, SD sd, S2] [(.ref a)])) (fun _ k => XS.aloadN X28.here hx rfl (hb hby d12_43) rfl rfl k) ?_
  refine Goes.by (T' := T28) (g' := (mkF m 45 #[SA a, SA cn, SD sm, S2, SD sd, S2] [(.double sm), (.ref a)])) (fun _ k => XS.dloadN X28.here hx rfl (hb hby d12_44) rfl k) ?_
  obtain ⟨T29, h29, X29, e29, W29, st29⟩ := putF X28 hx hZ hown (host := "") (Or.inl (hw _ (List.mem_of_getElem? (i := 87) rfl))) Via.refl e28 F_simulated_a EA (Or.inr ⟨(hw _ (List.mem_of_getElem? (i := 88) rfl)), rfl, hnm⟩) (hw _ (List.mem_of_getElem? (i := 76) rfl)) (ty := .double) (by decide) rfl rfl (g := (mkF m 45 #[SA a, SA cn, SD sm, S2, SD sd, S2] [(.double sm), (.ref a)])) rfl rfl (hb hby d12_45)
  have N0 := Fr.snoc X29 N0 ga
  have EA := EA.wr W29
  have F_count_a := F_count_a.other W29 (Or.inr (slot_ne (t := (.object "com/example/gaugefit/gaugefit/core/Count")) (t' := .double) (Or.inr (hw _ (List.mem_of_getElem? (i := 86) rfl))) (Or.inr (hw _ (List.mem_of_getElem? (i := 88) rfl))) (by decide) (by decide) (by decide)))
  have F_simulated_a := F_simulated_a.same W29
  have F_stddev_a := F_stddev_a.other W29 (Or.inr (slot_ne (t := .double) (t' := .double) (Or.inr (hw _ (List.mem_of_getElem? (i := 93) rfl))) (Or.inr (hw _ (List.mem_of_getElem? (i := 88) rfl))) (by decide) (by decide) (by decide)))
  have Z0 := Nat.le_trans Z0 (Nat.le_of_eq W29.size.symm)
  have kS := Nat.le_trans kS (Nat.le_of_eq W29.size.symm)
  have K0 := K0.wr W29 (Or.inl (List.mem_singleton.mpr rfl))
  refine Goes.by (T' := T29) (g' := (mkF m 48 #[SA a, SA cn, SD sm, S2, SD sd, S2] [])) st29 ?_
  refine Goes.by (T' := T29) (g' := (mkF m 49 #[SA a, SA cn, SD sm, S2, SD sd, S2] [(.ref a)])) (fun _ k => XS.aloadN X29.here hx rfl (hb hby d12_48) rfl rfl k) ?_
  refine Goes.by (T' := T29) (g' := (mkF m 51 #[SA a, SA cn, SD sm, S2, SD sd, S2] [(.double sd), (.ref a)])) (fun _ k => XS.dload X29.here hx rfl (hb hby d12_49) rfl k) ?_
  obtain ⟨v30, T30, L30, X30, hQ30, st30⟩ := callC X29 hx hZ (y := (⟨"com/example/gaugefit/gaugefit/core/Count", "checkStddev", "(D)D"⟩ : MethodName)) hown (hw _ (List.mem_of_getElem? (i := 89) rfl)) (hw _ (List.mem_of_getElem? (i := 90) rfl)) (hw _ (List.mem_of_getElem? (i := 91) rfl)) (hw _ (List.mem_of_getElem? (i := 8) rfl)) (by decide) e29 (argsL := [(.double sd)]) (rest := [(.ref a)]) (W := 1) (rm_cst l Z a0 hw sd mx h29 n0 Z0 ZX hpos) rfl (by decide) (by decide) (by decide) (by decide) (g := (mkF m 51 #[SA a, SA cn, SD sm, S2, SD sd, S2] [(.double sd), (.ref a)])) rfl (by rw [hml]; rfl) (lenOf pd0 rfl) rfl (by show 2 * 0 + _ ≤ _; exact Nat.le_of_eq rfl) (hb hby d12_51)
  obtain ⟨rfl, NL30, hk30⟩ := hQ30
  have N0 := Fr.app N0 NL30
  refine Goes.by (T' := T30) (g' := (mkF m 54 #[SA a, SA cn, SD sm, S2, SD sd, S2] [(.double sd), (.ref a)])) st30 ?_
  obtain ⟨T31, h31, X31, e31, W31, st31⟩ := putF X30 hx hZ hown (host := "") (Or.inl (hw _ (List.mem_of_getElem? (i := 92) rfl))) Via.refl hk30 F_stddev_a EA (Or.inr ⟨(hw _ (List.mem_of_getElem? (i := 93) rfl)), rfl, hnm⟩) (hw _ (List.mem_of_getElem? (i := 76) rfl)) (ty := .double) (by decide) rfl rfl (g := (mkF m 54 #[SA a, SA cn, SD sm, S2, SD sd, S2] [(.double sd), (.ref a)])) rfl rfl (hb hby d12_54)
  have N0 := Fr.snoc X31 N0 ga
  have EA := EA.wr W31
  have F_count_a := F_count_a.other W31 (Or.inr (slot_ne (t := (.object "com/example/gaugefit/gaugefit/core/Count")) (t' := .double) (Or.inr (hw _ (List.mem_of_getElem? (i := 86) rfl))) (Or.inr (hw _ (List.mem_of_getElem? (i := 93) rfl))) (by decide) (by decide) (by decide)))
  have F_simulated_a := F_simulated_a.other W31 (Or.inr (slot_ne (t := .double) (t' := .double) (Or.inr (hw _ (List.mem_of_getElem? (i := 88) rfl))) (Or.inr (hw _ (List.mem_of_getElem? (i := 93) rfl))) (by decide) (by decide) (by decide)))
  have F_stddev_a := F_stddev_a.same W31
  have Z0 := Nat.le_trans Z0 (Nat.le_of_eq W31.size.symm)
  have kS := Nat.le_trans kS (Nat.le_of_eq W31.size.symm)
  have K0 := K0.wr W31 (Or.inl (List.mem_singleton.mpr rfl))
  refine Goes.by (T' := T31) (g' := (mkF m 57 #[SA a, SA cn, SD sm, S2, SD sd, S2] [])) st31 ?_
  exact outVS X31 hS (by rw [e31]; exact kS) hx hlk hret (hb hby d12_57) (by rw [e31]; exact ⟨rfl, EA, F_count_a, F_simulated_a, F_stddev_a, K0, N0⟩) (by decide) (by decide)
theorem d15_0 : decode prog_3_method_9_code 0 = .ok (.aload_n 0, 1) := by decide +kernel
theorem d15_1 : decode prog_3_method_9_code 1 = .ok (.getfield 60, 3) := by decide +kernel
theorem d15_4 : decode prog_3_method_9_code 4 = .ok (.dreturn, 1) := by decide +kernel
theorem pd10 : parseMethodDescriptor "()D" = some ⟨[], some .double⟩ := by decide +kernel
theorem ef_rm_gv (m : MethodId) (x0 : Addr) : entryFrame m #[(.ref x0)] 1 = mkF m 0 #[SA x0] [] := by first | (simp [entryFrame, mkF, argsToLocals, Value.category, maxLocals]; done) | rfl
set_option maxRecDepth 65536 in
set_option maxHeartbeats 40000000 in
theorem rm_gv (l : Launch) (Z : State) (a0 : Array Value) (hw : ∀ d ∈ tables_1, d.before a0 Z = true) (a : Addr) (vv : UInt64) (h0 : Heap) (n0 : Nat) (Z0 : n0 ≤ h0.size) (FV : Fld Z h0 a "com/example/gaugefit/gaugefit/core/Count" "value" "D" (.double vv)) :
    Does l (⟨"com/example/gaugefit/gaugefit/core/Count", "getValue", "()D"⟩ : MethodName) prog_3_method_9_code 1 (some .double) [] ({ frames := 0, cells := 0, slots := 0, locals := 0 } : Room) Z #[(.ref a)] h0 (fun v h L => v = some (.double vv) ∧ Fr n0 L ∧ h = h0) := by
  refine Does.of (plainFor_of_name pn6) ?_
  intro p e s m below meth c s₁ hx hby hml hret hlk hZ hown hnm X0 e0
  have N0 := Fr.nil n0
  refine Goes.cast (g' := mkF m 0 #[SA a] []) (ef_rm_gv m a) ?_
  refine Goes.by (T' := s₁) (g' := (mkF m 1 #[SA a] [(.ref a)])) (fun _ k => XS.aloadN X0.here hx rfl (hb hby d15_0) rfl rfl k) ?_
  obtain ⟨T32, X32, e32, st32⟩ := getF X0 hx hZ hown (host := "") (Or.inl (hw _ (List.mem_of_getElem? (i := 71) rfl))) Via.refl e0 FV (g := (mkF m 1 #[SA a] [(.ref a)])) rfl rfl (hb hby d15_1)
  refine Goes.by (T' := T32) (g' := (mkF m 4 #[SA a] [(.double vv)])) st32 ?_
  exact outD X32 hx hlk hret (hb hby d15_4) (by rw [e32]; exact ⟨rfl, N0, rfl⟩) (by decide) (by decide)
theorem d14_0 : decode prog_4_method_6_code 0 = .ok (.aload_n 0, 1) := by decide +kernel
theorem d14_1 : decode prog_4_method_6_code 1 = .ok (.getfield 30, 3) := by decide +kernel
theorem d14_4 : decode prog_4_method_6_code 4 = .ok (.invokevirtual 101, 3) := by decide +kernel
theorem d14_7 : decode prog_4_method_6_code 7 = .ok (.aload_n 0, 1) := by decide +kernel
theorem d14_8 : decode prog_4_method_6_code 8 = .ok (.getfield 36, 3) := by decide +kernel
theorem d14_11 : decode prog_4_method_6_code 11 = .ok (.dsub, 1) := by decide +kernel
theorem d14_12 : decode prog_4_method_6_code 12 = .ok (.aload_n 0, 1) := by decide +kernel
theorem d14_13 : decode prog_4_method_6_code 13 = .ok (.getfield 46, 3) := by decide +kernel
theorem d14_16 : decode prog_4_method_6_code 16 = .ok (.aload_n 0, 1) := by decide +kernel
theorem d14_17 : decode prog_4_method_6_code 17 = .ok (.getfield 46, 3) := by decide +kernel
theorem d14_20 : decode prog_4_method_6_code 20 = .ok (.dmul, 1) := by decide +kernel
theorem d14_21 : decode prog_4_method_6_code 21 = .ok (.ddiv, 1) := by decide +kernel
theorem d14_22 : decode prog_4_method_6_code 22 = .ok (.dreturn, 1) := by decide +kernel
theorem ef_rm_go (m : MethodId) (x0 : Addr) : entryFrame m #[(.ref x0)] 1 = mkF m 0 #[SA x0] [] := by first | (simp [entryFrame, mkF, argsToLocals, Value.category, maxLocals]; done) | rfl
set_option maxRecDepth 65536 in
set_option maxHeartbeats 40000000 in
theorem rm_go (l : Launch) (Z : State) (a0 : Array Value) (hw : ∀ d ∈ tables_1, d.before a0 Z = true) (a cn : Addr) (vv sm sd r1 r2 r3 : UInt64) (h0 : Heap) (n0 : Nat) (Z0 : n0 ≤ h0.size) (EC : Exa Z h0 cn "com/example/gaugefit/gaugefit/core/Count") (FV : Fld Z h0 cn "com/example/gaugefit/gaugefit/core/Count" "value" "D" (.double vv)) (F1 : Fld Z h0 a "com/example/gaugefit/gaugefit/core/CountOffset" "count" "Lcom/example/gaugefit/gaugefit/core/Count;" (.ref cn)) (F2 : Fld Z h0 a "com/example/gaugefit/gaugefit/core/CountOffset" "simulated" "D" (.double sm)) (F3 : Fld Z h0 a "com/example/gaugefit/gaugefit/core/CountOffset" "stddev" "D" (.double sd)) (q1 : FP.dsub vv sm = r1) (q2 : FP.dmul sd sd = r2) (q3 : FP.ddiv r1 r2 = r3) (nn1 : NoNaN64 r1) (nn2 : NoNaN64 r2) (nn3 : NoNaN64 r3) :
    Does l (⟨"com/example/gaugefit/gaugefit/core/CountOffset", "getOffset", "()D"⟩ : MethodName) prog_4_method_6_code 1 (some .double) [] ({ frames := 1, cells := 0, slots := 0, locals := 12 } : Room) Z #[(.ref a)] h0 (fun v h L => v = some (.double r3) ∧ Fr n0 L ∧ h = h0) := by
  refine Does.of (plainFor_of_name pn7) ?_
  intro p e s m below meth c s₁ hx hby hml hret hlk hZ hown hnm X0 e0
  have N0 := Fr.nil n0
  refine Goes.cast (g' := mkF m 0 #[SA a] []) (ef_rm_go m a) ?_
  refine Goes.by (T' := s₁) (g' := (mkF m 1 #[SA a] [(.ref a)])) (fun _ k => XS.aloadN X0.here hx rfl (hb hby d14_0) rfl rfl k) ?_
  obtain ⟨T33, X33, e33, st33⟩ := getF X0 hx hZ hown (host := "") (Or.inl (hw _ (List.mem_of_getElem? (i := 85) rfl))) Via.refl e0 F1 (g := (mkF m 1 #[SA a] [(.ref a)])) rfl rfl (hb hby d14_1)
  refine Goes.by (T' := T33) (g' := (mkF m 4 #[SA a] [(.ref cn)])) st33 ?_
  obtain ⟨v34, T34, L34, X34, hQ34, st34⟩ := callV X33 hx hZ (y := (⟨"com/example/gaugefit/gaugefit/core/Count", "getValue", "()D"⟩ : MethodName)) hown (hw _ (List.mem_of_getElem? (i := 99) rfl)) (hw _ (List.mem_of_getElem? (i := 100) rfl)) (hw _ (List.mem_of_getElem? (i := 102) rfl)) (hw _ (List.mem_of_getElem? (i := 101) rfl)) (hw _ (List.mem_of_getElem? (i := 103) rfl)) (hw _ (List.mem_of_getElem? (i := 8) rfl)) (by decide) e33 EC (argsL := []) (rest := []) (W := 0) (rm_gv l Z a0 hw cn vv h0 n0 Z0 FV) rfl (by decide) (by decide) (by decide) (by decide) (g := (mkF m 4 #[SA a] [(.ref cn)])) rfl (by rw [hml]; rfl) (lenOf pd10 rfl) rfl (by show 2 * 0 + _ ≤ _; exact Nat.le_of_eq rfl) (hb hby d14_4)
  obtain ⟨rfl, NL34, hk34⟩ := hQ34
  have N0 := Fr.app N0 NL34
  refine Goes.by (T' := T34) (g' := (mkF m 7 #[SA a] [(.double vv)])) st34 ?_
  refine Goes.by (T' := T34) (g' := (mkF m 8 #[SA a] [(.ref a), (.double vv)])) (fun _ k => XS.aloadN X34.here hx rfl (hb hby d14_7) rfl rfl k) ?_
  obtain ⟨T35, X35, e35, st35⟩ := getF X34 hx hZ hown (host := "") (Or.inl (hw _ (List.mem_of_getElem? (i := 87) rfl))) Via.refl hk34 F2 (g := (mkF m 8 #[SA a] [(.ref a), (.double vv)])) rfl rfl (hb hby d14_8)
  refine Goes.by (T' := T35) (g' := (mkF m 11 #[SA a] [(.double sm), (.double vv)])) st35 ?_
  refine Goes.by (T' := T35) (g' := (mkF m 12 #[SA a] [(.double r1)])) (fun _ k => XS.dsubS X35.here hx rfl (hb hby d14_11) rfl (by rw [q1]; exact nn1) q1 k) ?_
  refine Goes.by (T' := T35) (g' := (mkF m 13 #[SA a] [(.ref a), (.double r1)])) (fun _ k => XS.aloadN X35.here hx rfl (hb hby d14_12) rfl rfl k) ?_
  obtain ⟨T36, X36, e36, st36⟩ := getF X35 hx hZ hown (host := "") (Or.inl (hw _ (List.mem_of_getElem? (i := 92) rfl))) Via.refl e35 F3 (g := (mkF m 13 #[SA a] [(.ref a), (.double r1)])) rfl rfl (hb hby d14_13)
  refine Goes.by (T' := T36) (g' := (mkF m 16 #[SA a] [(.double sd), (.double r1)])) st36 ?_
  refine Goes.by (T' := T36) (g' := (mkF m 17 #[SA a] [(.ref a), (.double sd), (.double r1)])) (fun _ k => XS.aloadN X36.here hx rfl (hb hby d14_16) rfl rfl k) ?_
  obtain ⟨T37, X37, e37, st37⟩ := getF X36 hx hZ hown (host := "") (Or.inl (hw _ (List.mem_of_getElem? (i := 92) rfl))) Via.refl e36 F3 (g := (mkF m 17 #[SA a] [(.ref a), (.double sd), (.double r1)])) rfl rfl (hb hby d14_17)
  refine Goes.by (T' := T37) (g' := (mkF m 20 #[SA a] [(.double sd), (.double sd), (.double r1)])) st37 ?_
  refine Goes.by (T' := T37) (g' := (mkF m 21 #[SA a] [(.double r2), (.double r1)])) (fun _ k => XS.dmulS X37.here hx rfl (hb hby d14_20) rfl (by rw [q2]; exact nn2) q2 k) ?_
  refine Goes.by (T' := T37) (g' := (mkF m 22 #[SA a] [(.double r3)])) (fun _ k => XS.ddivS X37.here hx rfl (hb hby d14_21) rfl (by rw [q3]; exact nn3) q3 k) ?_
  exact outD X37 hx hlk hret (hb hby d14_22) (by rw [e37]; exact ⟨rfl, N0, rfl⟩) (by decide) (by decide)
theorem d16_0 : decode jdk_29_method_61_code 0 = .ok (.lload_n 0, 1) := by decide +kernel
theorem d16_1 : decode jdk_29_method_61_code 1 = .ok (.lconst 0, 1) := by decide +kernel
theorem d16_2 : decode jdk_29_method_61_code 2 = .ok (.lcmp, 1) := by decide +kernel
theorem d16_3 : decode jdk_29_method_61_code 3 = .ok (.ifCond .ge 8, 3) := by decide +kernel
theorem d16_6 : decode jdk_29_method_61_code 6 = .ok (.lload_n 0, 1) := by decide +kernel
theorem d16_7 : decode jdk_29_method_61_code 7 = .ok (.lneg, 1) := by decide +kernel
theorem d16_8 : decode jdk_29_method_61_code 8 = .ok (.goto 4, 3) := by decide +kernel
theorem d16_11 : decode jdk_29_method_61_code 11 = .ok (.lload_n 0, 1) := by decide +kernel
theorem d16_12 : decode jdk_29_method_61_code 12 = .ok (.lreturn, 1) := by decide +kernel
theorem pd11 : parseMethodDescriptor "(J)J" = some ⟨[.long], some .long⟩ := by decide +kernel
theorem ef_rm_abs (m : MethodId) (x0 : Int64) : entryFrame m #[(.long x0)] 2 = mkF m 0 #[SJ x0, S2] [] := by first | (simp [entryFrame, mkF, argsToLocals, Value.category, maxLocals]; done) | rfl
set_option maxRecDepth 65536 in
set_option maxHeartbeats 40000000 in
theorem rm_abs (l : Launch) (Z : State) (a0 : Array Value) (hw : ∀ d ∈ tables_1, d.before a0 Z = true) (x : Int64) (h0 : Heap) (n0 : Nat) (Z0 : n0 ≤ h0.size) (hx0 : -9223372036854775808 < x.toInt) :
    Does l (⟨"java/lang/Math", "abs", "(J)J"⟩ : MethodName) jdk_29_method_61_code 2 (some .long) [] ({ frames := 0, cells := 0, slots := 0, locals := 0 } : Room) Z #[(.long x)] h0 (fun v h L => ∃ z : Int64, v = some (.long z) ∧ z.toInt = x.toInt.natAbs ∧ Fr n0 L ∧ h = h0) := by
  refine Does.of (Jvm.Free.JP.mathPlain rfl (by decide +kernel)) ?_
  intro p e s m below meth c s₁ hx hby hml hret hlk hZ hown hnm X0 e0
  have N0 := Fr.nil n0
  refine Goes.cast (g' := mkF m 0 #[SJ x, S2] []) (ef_rm_abs m x) ?_
  refine Goes.by (T' := s₁) (g' := (mkF m 1 #[SJ x, S2] [(.long x)])) (fun _ k => XS.lloadN X0.here hx rfl (hb hby d16_0) rfl k) ?_
  refine Goes.by (T' := s₁) (g' := (mkF m 2 #[SJ x, S2] [(.long (0 : Int64)), (.long x)])) (fun _ k => XS.lconst X0.here hx rfl (hb hby d16_1)  k) ?_
  by_cases hs : x.toInt < 0
  · refine Goes.by (T' := s₁) (g' := (mkF m 3 #[SJ x, S2] [(.int (-1 : Int32))])) (fun _ k => XS.lcmpS X0.here hx rfl (hb hby d16_2) rfl (cmpL_lt (Int64.lt_iff_toInt_lt.mpr (by rw [own_l0]; exact hs))) k) ?_
    refine Goes.by (T' := s₁) (g' := (mkF m 6 #[SJ x, S2] [])) (fun _ k => XS.ifNo X0.here hx rfl (hb hby d16_3) rfl (by decide) k) ?_
    refine Goes.by (T' := s₁) (g' := (mkF m 7 #[SJ x, S2] [(.long x)])) (fun _ k => XS.lloadN X0.here hx rfl (hb hby d16_6) rfl k) ?_
    refine Goes.by (T' := s₁) (g' := (mkF m 8 #[SJ x, S2] [(.long (-x))])) (fun _ k => XS.lneg X0.here hx rfl (hb hby d16_7) rfl k) ?_
    refine Goes.by (T' := s₁) (g' := (mkF m 12 #[SJ x, S2] [(.long (-x))])) (fun _ k => XS.goto X0.here hx rfl (pc0 := 8) (pc' := 12) rfl (hb hby d16_8) (by decide) (by decide) k) ?_
    exact outJ X0 hx hlk hret (hb hby d16_12) (by rw [e0]; exact ⟨_, rfl, by have t := c_lneg x; have t2 := rng64 x; have t3 := rng64 (-x); omega, N0, rfl⟩) (by decide) (by decide)
  · obtain ⟨cv, hcv, hcn⟩ := cmpL_ge (x := x) (y := 0) (by rw [own_l0]; exact hs)
    refine Goes.by (T' := s₁) (g' := (mkF m 3 #[SJ x, S2] [(.int cv)])) (fun _ k => XS.lcmpS X0.here hx rfl (hb hby d16_2) rfl hcv k) ?_
    refine Goes.by (T' := s₁) (g' := (mkF m 11 #[SJ x, S2] [])) (fun _ k => XS.ifYes X0.here hx rfl (pc0 := 3) (pc' := 11) rfl (hb hby d16_3) rfl ((if0 _ _).trans (flt hcn).2.1) (by decide) (by decide) k) ?_
    refine Goes.by (T' := s₁) (g' := (mkF m 12 #[SJ x, S2] [(.long x)])) (fun _ k => XS.lloadN X0.here hx rfl (hb hby d16_11) rfl k) ?_
    exact outJ X0 hx hlk hret (hb hby d16_12) (by rw [e0]; exact ⟨_, rfl, by omega, N0, rfl⟩) (by decide) (by decide)
theorem d1_0 : decode method_3_code 0 = .ok (.iload_n 0, 1) := by decide +kernel
theorem d1_1 : decode method_3_code 1 = .ok (.ifCond .lt 8, 3) := by decide +kernel
theorem d1_4 : decode method_3_code 4 = .ok (.iconst 1, 1) := by decide +kernel
theorem d1_5 : decode method_3_code 5 = .ok (.iload_n 0, 1) := by decide +kernel
theorem d1_6 : decode method_3_code 6 = .ok (.ishl, 1) := by decide +kernel
theorem d1_7 : decode method_3_code 7 = .ok (.i2d, 1) := by decide +kernel
theorem d1_8 : decode method_3_code 8 = .ok (.dreturn, 1) := by decide +kernel
theorem d1_9 : decode method_3_code 9 = .ok (.dconst 1, 1) := by decide +kernel
theorem d1_10 : decode method_3_code 10 = .ok (.iconst 1, 1) := by decide +kernel
theorem d1_11 : decode method_3_code 11 = .ok (.iload_n 0, 1) := by decide +kernel
theorem d1_12 : decode method_3_code 12 = .ok (.ineg, 1) := by decide +kernel
theorem d1_13 : decode method_3_code 13 = .ok (.ishl, 1) := by decide +kernel
theorem d1_14 : decode method_3_code 14 = .ok (.i2d, 1) := by decide +kernel
theorem d1_15 : decode method_3_code 15 = .ok (.ddiv, 1) := by decide +kernel
theorem d1_16 : decode method_3_code 16 = .ok (.dreturn, 1) := by decide +kernel
theorem pn8 : plainName "com/example/gaugefit/gaugefit/core/CountOffsetGetOffsetPinLaw" = true := by first | (simp [plainName, overriddenIn]; done) | decide +kernel
theorem pd12 : parseMethodDescriptor "(I)D" = some ⟨[.int], some .double⟩ := by decide +kernel
theorem ef_rm_pow (m : MethodId) (x0 : Int32) : entryFrame m #[(.int x0)] 1 = mkF m 0 #[SI x0] [] := by first | (simp [entryFrame, mkF, argsToLocals, Value.category, maxLocals]; done) | rfl
set_option maxRecDepth 65536 in
set_option maxHeartbeats 40000000 in
theorem rm_pow (l : Launch) (Z : State) (a0 : Array Value) (hw : ∀ d ∈ tables_1, d.before a0 Z = true) (x : Int32) (f : Nat) (h0 : Heap) (n0 : Nat) (Z0 : n0 ≤ h0.size) (hxf : x.toInt = (f : Int) - 8) (hf : f < 16) :
    Does l (⟨"com/example/gaugefit/gaugefit/core/CountOffsetGetOffsetPinLaw", "powerOfTwo", "(I)D"⟩ : MethodName) method_3_code 1 (some .double) [] ({ frames := 0, cells := 0, slots := 0, locals := 0 } : Room) Z #[(.int x)] h0 (fun v h L => ∃ r, v = some (.double r) ∧ Zv ((2 ^ (1066 + f) : Nat) : Int) r ∧ Fr n0 L ∧ h = h0) := by
  refine Does.of (plainFor_of_name pn8) ?_
  intro p e s m below meth c s₁ hx hby hml hret hlk hZ hown hnm X0 e0
  have N0 := Fr.nil n0
  refine Goes.cast (g' := mkF m 0 #[SI x] []) (ef_rm_pow m x) ?_
  refine Goes.by (T' := s₁) (g' := (mkF m 1 #[SI x] [(.int x)])) (fun _ k => XS.iloadN X0.here hx rfl (hb hby d1_0) rfl k) ?_
  by_cases hs : x < (0 : Int32)
  · refine Goes.by (T' := s₁) (g' := (mkF m 9 #[SI x] [])) (fun _ k => XS.ifYes X0.here hx rfl (pc0 := 1) (pc' := 9) rfl (hb hby d1_1) rfl ((if0 _ _).trans (tlt hs).1) (by decide) (by decide) k) ?_
    refine Goes.by (T' := s₁) (g' := (mkF m 10 #[SI x] [(.double (4607182418800017408 : UInt64))])) (fun _ k => XS.dconst1 X0.here hx rfl (hb hby d1_9) rfl k) ?_
    refine Goes.by (T' := s₁) (g' := (mkF m 11 #[SI x] [(.int (1 : Int32)), (.double (4607182418800017408 : UInt64))])) (fun _ k => XS.iconst X0.here hx rfl (hb hby d1_10)  k) ?_
    refine Goes.by (T' := s₁) (g' := (mkF m 12 #[SI x] [(.int x), (.int (1 : Int32)), (.double (4607182418800017408 : UInt64))])) (fun _ k => XS.iloadN X0.here hx rfl (hb hby d1_11) rfl k) ?_
    refine Goes.by (T' := s₁) (g' := (mkF m 13 #[SI x] [(.int (-x)), (.int (1 : Int32)), (.double (4607182418800017408 : UInt64))])) (fun _ k => XS.ineg X0.here hx rfl (hb hby d1_12) rfl k) ?_
    refine Goes.by (T' := s₁) (g' := (mkF m 14 #[SI x] [(.int ((1 : Int32) <<< ((-x) &&& 31))), (.double (4607182418800017408 : UInt64))])) (fun _ k => XS.ishl X0.here hx rfl (hb hby d1_13) rfl k) ?_
    obtain ⟨sh, q_sh⟩ : ∃ zz : Int32, zz = ((1 : Int32) <<< ((-x) &&& 31)) := ⟨_, rfl⟩
    rw [← q_sh]
    have hsh : sh.toInt = ((2 ^ (8 - f) : Nat) : Int) := by rw [q_sh]; exact own_shl1 (by have t := c_ineg x; have t2 := rng32 x; have t3 := rng32 (-x); have t4 := Int32.lt_iff_toInt_lt.mp hs; rw [show (0 : Int32).toInt = 0 from by decide] at t4; omega) (by omega)
    have hf8 : f < 8 := by have t4 := Int32.lt_iff_toInt_lt.mp hs; rw [show (0 : Int32).toInt = 0 from by decide] at t4; omega
    obtain ⟨dd, q_dd⟩ : ∃ zz, FP.i2d sh = zz := ⟨_, rfl⟩
    refine Goes.by (T' := s₁) (g' := (mkF m 15 #[SI x] [(.double dd), (.double (4607182418800017408 : UInt64))])) (fun _ k => XS.i2dS X0.here hx rfl (hb hby d1_14) rfl q_dd k) ?_
    have D_dd : Core.DInt ((2 ^ (8 - f) : Nat) : Int) dd := by have t := DInt_i2d q_dd; rwa [hsh] at t
    obtain ⟨rr, q_rr⟩ : ∃ zz, FP.ddiv (4607182418800017408 : UInt64) dd = zz := ⟨_, rfl⟩
    have Z_rr : Zv ((2 ^ (1066 + f) : Nat) : Int) rr := own_pw_div hf8 D_dd q_rr
    refine Goes.by (T' := s₁) (g' := (mkF m 16 #[SI x] [(.double rr)])) (fun _ k => XS.ddivS X0.here hx rfl (hb hby d1_15) rfl (by rw [q_rr]; exact Z_rr.nn) q_rr k) ?_
    exact outD X0 hx hlk hret (hb hby d1_16) (by rw [e0]; exact ⟨rr, rfl, Z_rr, N0, rfl⟩) (by decide) (by decide)
  · refine Goes.by (T' := s₁) (g' := (mkF m 4 #[SI x] [])) (fun _ k => XS.ifNo X0.here hx rfl (hb hby d1_1) rfl ((if0 _ _).trans (flt hs).1) k) ?_
    refine Goes.by (T' := s₁) (g' := (mkF m 5 #[SI x] [(.int (1 : Int32))])) (fun _ k => XS.iconst X0.here hx rfl (hb hby d1_4)  k) ?_
    refine Goes.by (T' := s₁) (g' := (mkF m 6 #[SI x] [(.int x), (.int (1 : Int32))])) (fun _ k => XS.iloadN X0.here hx rfl (hb hby d1_5) rfl k) ?_
    refine Goes.by (T' := s₁) (g' := (mkF m 7 #[SI x] [(.int ((1 : Int32) <<< (x &&& 31)))])) (fun _ k => XS.ishl X0.here hx rfl (hb hby d1_6) rfl k) ?_
    obtain ⟨sh, q_sh⟩ : ∃ zz : Int32, zz = ((1 : Int32) <<< (x &&& 31)) := ⟨_, rfl⟩
    rw [← q_sh]
    have hf8 : 8 ≤ f := by have t4 : ¬ x.toInt < (0 : Int32).toInt := fun q => hs (Int32.lt_iff_toInt_lt.mpr q); rw [show (0 : Int32).toInt = 0 from by decide] at t4; omega
    have hsh : sh.toInt = ((2 ^ (f - 8) : Nat) : Int) := by rw [q_sh]; exact own_shl1 (by omega) (by omega)
    obtain ⟨dd, q_dd⟩ : ∃ zz, FP.i2d sh = zz := ⟨_, rfl⟩
    refine Goes.by (T' := s₁) (g' := (mkF m 8 #[SI x] [(.double dd)])) (fun _ k => XS.i2dS X0.here hx rfl (hb hby d1_7) rfl q_dd k) ?_
    have Z_dd : Zv ((2 ^ (1066 + f) : Nat) : Int) dd := by have t := DInt_i2d q_dd; rw [hsh] at t; exact own_pw_int hf8 t
    exact outD X0 hx hlk hret (hb hby d1_8) (by rw [e0]; exact ⟨dd, rfl, Z_dd, N0, rfl⟩) (by decide) (by decide)
theorem ef_rm_law (m : MethodId) (x0 : Int32) (x1 : Int32) (x2 : Int32) (x3 : Int32) : entryFrame m #[(.int x0), (.int x1), (.int x2), (.int x3)] maxLocals = mkF m 0 #[SI x0, SI x1, SI x2, SI x3, SU, SU, SU, SU, SU, SU, SU, SU, SU, SU, SU, SU, SU, SU, SU, SU, SU, SU, SU, SU, SU, SU, SU, SU, SU, SU, SU, SU] [] := by first | (simp [entryFrame, mkF, argsToLocals, Value.category, maxLocals]; done) | rfl
set_option maxRecDepth 65536 in
set_option maxHeartbeats 40000000 in
theorem rm_law (l : Launch) (Z : State) (a0 : Array Value) (hw : ∀ d ∈ tables_1, d.before a0 Z = true) (y0 y1 y2 y3 : Int32) (oe : Addr) (h0 : Heap) (n0 : Nat) (Z0 : n0 ≤ h0.size) (SO : Sta Z h0 "java/util/OptionalDouble" "EMPTY" "Ljava/util/OptionalDouble;" (.ref oe)) :
    DoesL own_EL l x code maxLocals ret tables_1 room_1 Z #[(.int y0), (.int y1), (.int y2), (.int y3)] h0 (fun v h L => v = some (.int 1) ∧ Fr n0 L) := by
  refine DoesL.of (plainFor_of_name pn8) ?_
  intro p e s m below meth c s₁ hx hby hml hret hlk hZ hown hnm X0 e0 hS hCH
  have kS : 0 ≤ h0.size := Nat.zero_le _
  have N0 := Fr.nil n0
  refine Goes.cast (g' := mkF m 0 #[SI y0, SI y1, SI y2, SI y3, SU, SU, SU, SU, SU, SU, SU, SU, SU, SU, SU, SU, SU, SU, SU, SU, SU, SU, SU, SU, SU, SU, SU, SU, SU, SU, SU, SU] []) (ef_rm_law m y0 y1 y2 y3) ?_
  refine Goes.by (T' := s₁) (g' := (mkF m 1 #[SI y0, SI y1, SI y2, SI y3, SU, SU, SU, SU, SU, SU, SU, SU, SU, SU, SU, SU, SU, SU, SU, SU, SU, SU, SU, SU, SU, SU, SU, SU, SU, SU, SU, SU] [(.int y0)])) (fun _ k => XS.iloadN X0.here hx rfl (hb hby at_0) rfl k) ?_
  refine Goes.by (T' := s₁) (g' := (mkF m 2 #[SI y0, SI y1, SI y2, SI y3, SU, SU, SU, SU, SU, SU, SU, SU, SU, SU, SU, SU, SU, SU, SU, SU, SU, SU, SU, SU, SU, SU, SU, SU, SU, SU, SU, SU] [(.long ((y0).toInt64))])) (fun _ k => XS.i2l X0.here hx rfl (hb hby at_1) rfl k) ?_
  refine Goes.by (T' := s₁) (g' := (mkF m 5 #[SI y0, SI y1, SI y2, SI y3, SU, SU, SU, SU, SU, SU, SU, SU, SU, SU, SU, SU, SU, SU, SU, SU, SU, SU, SU, SU, SU, SU, SU, SU, SU, SU, SU, SU] [(.long (2147483647 : Int64)), (.long ((y0).toInt64))])) (X0.ldc2Long hx hown (mvT hZ (hw _ (List.mem_of_getElem? (i := 0) rfl))) (g := (mkF m 2 #[SI y0, SI y1, SI y2, SI y3, SU, SU, SU, SU, SU, SU, SU, SU, SU, SU, SU, SU, SU, SU, SU, SU, SU, SU, SU, SU, SU, SU, SU, SU, SU, SU, SU, SU] [(.long ((y0).toInt64))])) rfl (hb hby at_2)) ?_
  refine Goes.by (T' := s₁) (g' := (mkF m 6 #[SI y0, SI y1, SI y2, SI y3, SU, SU, SU, SU, SU, SU, SU, SU, SU, SU, SU, SU, SU, SU, SU, SU, SU, SU, SU, SU, SU, SU, SU, SU, SU, SU, SU, SU] [(.long (((y0).toInt64) &&& (2147483647 : Int64)))])) (fun _ k => XS.land X0.here hx rfl (hb hby at_5) rfl k) ?_
  obtain ⟨ba, q_ba⟩ : ∃ zz : Int64, zz = (((y0).toInt64) &&& (2147483647 : Int64)) := ⟨_, rfl⟩
  rw [← q_ba]
  refine Goes.by (T' := s₁) (g' := (mkF m 8 #[SI y0, SI y1, SI y2, SI y3, SJ ba, S2, SU, SU, SU, SU, SU, SU, SU, SU, SU, SU, SU, SU, SU, SU, SU, SU, SU, SU, SU, SU, SU, SU, SU, SU, SU, SU] [])) (fun _ k => XS.lstore X0.here hx rfl (hb hby at_6) rfl (l' := #[SI y0, SI y1, SI y2, SI y3, SJ ba, S2, SU, SU, SU, SU, SU, SU, SU, SU, SU, SU, SU, SU, SU, SU, SU, SU, SU, SU, SU, SU, SU, SU, SU, SU, SU, SU]) rfl k) ?_
  refine Goes.by (T' := s₁) (g' := (mkF m 9 #[SI y0, SI y1, SI y2, SI y3, SJ ba, S2, SU, SU, SU, SU, SU, SU, SU, SU, SU, SU, SU, SU, SU, SU, SU, SU, SU, SU, SU, SU, SU, SU, SU, SU, SU, SU] [(.int y1)])) (fun _ k => XS.iloadN X0.here hx rfl (hb hby at_8) rfl k) ?_
  refine Goes.by (T' := s₁) (g' := (mkF m 10 #[SI y0, SI y1, SI y2, SI y3, SJ ba, S2, SU, SU, SU, SU, SU, SU, SU, SU, SU, SU, SU, SU, SU, SU, SU, SU, SU, SU, SU, SU, SU, SU, SU, SU, SU, SU] [(.long ((y1).toInt64))])) (fun _ k => XS.i2l X0.here hx rfl (hb hby at_9) rfl k) ?_
  refine Goes.by (T' := s₁) (g' := (mkF m 13 #[SI y0, SI y1, SI y2, SI y3, SJ ba, S2, SU, SU, SU, SU, SU, SU, SU, SU, SU, SU, SU, SU, SU, SU, SU, SU, SU, SU, SU, SU, SU, SU, SU, SU, SU, SU] [(.long (2147483647 : Int64)), (.long ((y1).toInt64))])) (X0.ldc2Long hx hown (mvT hZ (hw _ (List.mem_of_getElem? (i := 0) rfl))) (g := (mkF m 10 #[SI y0, SI y1, SI y2, SI y3, SJ ba, S2, SU, SU, SU, SU, SU, SU, SU, SU, SU, SU, SU, SU, SU, SU, SU, SU, SU, SU, SU, SU, SU, SU, SU, SU, SU, SU] [(.long ((y1).toInt64))])) rfl (hb hby at_10)) ?_
  refine Goes.by (T' := s₁) (g' := (mkF m 14 #[SI y0, SI y1, SI y2, SI y3, SJ ba, S2, SU, SU, SU, SU, SU, SU, SU, SU, SU, SU, SU, SU, SU, SU, SU, SU, SU, SU, SU, SU, SU, SU, SU, SU, SU, SU] [(.long (((y1).toInt64) &&& (2147483647 : Int64)))])) (fun _ k => XS.land X0.here hx rfl (hb hby at_13) rfl k) ?_
  obtain ⟨ot, q_ot⟩ : ∃ zz : Int64, zz = (((y1).toInt64) &&& (2147483647 : Int64)) := ⟨_, rfl⟩
  rw [← q_ot]
  refine Goes.by (T' := s₁) (g' := (mkF m 16 #[SI y0, SI y1, SI y2, SI y3, SJ ba, S2, SJ ot, S2, SU, SU, SU, SU, SU, SU, SU, SU, SU, SU, SU, SU, SU, SU, SU, SU, SU, SU, SU, SU, SU, SU, SU, SU] [])) (fun _ k => XS.lstore X0.here hx rfl (hb hby at_14) rfl (l' := #[SI y0, SI y1, SI y2, SI y3, SJ ba, S2, SJ ot, S2, SU, SU, SU, SU, SU, SU, SU, SU, SU, SU, SU, SU, SU, SU, SU, SU, SU, SU, SU, SU, SU, SU, SU, SU]) rfl k) ?_
  refine Goes.by (T' := s₁) (g' := (mkF m 17 #[SI y0, SI y1, SI y2, SI y3, SJ ba, S2, SJ ot, S2, SU, SU, SU, SU, SU, SU, SU, SU, SU, SU, SU, SU, SU, SU, SU, SU, SU, SU, SU, SU, SU, SU, SU, SU] [(.int y2)])) (fun _ k => XS.iloadN X0.here hx rfl (hb hby at_16) rfl k) ?_
  refine Goes.by (T' := s₁) (g' := (mkF m 18 #[SI y0, SI y1, SI y2, SI y3, SJ ba, S2, SJ ot, S2, SU, SU, SU, SU, SU, SU, SU, SU, SU, SU, SU, SU, SU, SU, SU, SU, SU, SU, SU, SU, SU, SU, SU, SU] [(.int (3 : Int32)), (.int y2)])) (fun _ k => XS.iconst X0.here hx rfl (hb hby at_17)  k) ?_
  refine Goes.by (T' := s₁) (g' := (mkF m 19 #[SI y0, SI y1, SI y2, SI y3, SJ ba, S2, SJ ot, S2, SU, SU, SU, SU, SU, SU, SU, SU, SU, SU, SU, SU, SU, SU, SU, SU, SU, SU, SU, SU, SU, SU, SU, SU] [(.int (y2 &&& (3 : Int32)))])) (fun _ k => XS.iand X0.here hx rfl (hb hby at_18) rfl k) ?_
  obtain ⟨mo, q_mo⟩ : ∃ zz : Int32, zz = (y2 &&& (3 : Int32)) := ⟨_, rfl⟩
  rw [← q_mo]
  refine Goes.by (T' := s₁) (g' := (mkF m 21 #[SI y0, SI y1, SI y2, SI y3, SJ ba, S2, SJ ot, S2, SI mo, SU, SU, SU, SU, SU, SU, SU, SU, SU, SU, SU, SU, SU, SU, SU, SU, SU, SU, SU, SU, SU, SU, SU] [])) (fun _ k => XS.istore X0.here hx rfl (hb hby at_19) rfl (l' := #[SI y0, SI y1, SI y2, SI y3, SJ ba, S2, SJ ot, S2, SI mo, SU, SU, SU, SU, SU, SU, SU, SU, SU, SU, SU, SU, SU, SU, SU, SU, SU, SU, SU, SU, SU, SU, SU]) rfl k) ?_
  refine Goes.by (T' := s₁) (g' := (mkF m 22 #[SI y0, SI y1, SI y2, SI y3, SJ ba, S2, SJ ot, S2, SI mo, SU, SU, SU, SU, SU, SU, SU, SU, SU, SU, SU, SU, SU, SU, SU, SU, SU, SU, SU, SU, SU, SU, SU] [(.int y2)])) (fun _ k => XS.iloadN X0.here hx rfl (hb hby at_21) rfl k) ?_
  refine Goes.by (T' := s₁) (g' := (mkF m 23 #[SI y0, SI y1, SI y2, SI y3, SJ ba, S2, SJ ot, S2, SI mo, SU, SU, SU, SU, SU, SU, SU, SU, SU, SU, SU, SU, SU, SU, SU, SU, SU, SU, SU, SU, SU, SU, SU] [(.int (2 : Int32)), (.int y2)])) (fun _ k => XS.iconst X0.here hx rfl (hb hby at_22)  k) ?_
  refine Goes.by (T' := s₁) (g' := (mkF m 24 #[SI y0, SI y1, SI y2, SI y3, SJ ba, S2, SJ ot, S2, SI mo, SU, SU, SU, SU, SU, SU, SU, SU, SU, SU, SU, SU, SU, SU, SU, SU, SU, SU, SU, SU, SU, SU, SU] [(.int (((y2).toUInt32 >>> ((2 : Int32) &&& 31).toUInt32).toInt32))])) (fun _ k => XS.iushr X0.here hx rfl (hb hby at_23) rfl k) ?_
  refine Goes.by (T' := s₁) (g' := (mkF m 27 #[SI y0, SI y1, SI y2, SI y3, SJ ba, S2, SJ ot, S2, SI mo, SU, SU, SU, SU, SU, SU, SU, SU, SU, SU, SU, SU, SU, SU, SU, SU, SU, SU, SU, SU, SU, SU, SU] [(.int (1023 : Int32)), (.int (((y2).toUInt32 >>> ((2 : Int32) &&& 31).toUInt32).toInt32))])) (fun _ k => XS.sipush X0.here hx rfl (hb hby at_24)  k) ?_
  refine Goes.by (T' := s₁) (g' := (mkF m 28 #[SI y0, SI y1, SI y2, SI y3, SJ ba, S2, SJ ot, S2, SI mo, SU, SU, SU, SU, SU, SU, SU, SU, SU, SU, SU, SU, SU, SU, SU, SU, SU, SU, SU, SU, SU, SU, SU] [(.int ((((y2).toUInt32 >>> ((2 : Int32) &&& 31).toUInt32).toInt32) &&& (1023 : Int32)))])) (fun _ k => XS.iand X0.here hx rfl (hb hby at_27) rfl k) ?_
  obtain ⟨se, q_se⟩ : ∃ zz : Int32, zz = ((((y2).toUInt32 >>> ((2 : Int32) &&& 31).toUInt32).toInt32) &&& (1023 : Int32)) := ⟨_, rfl⟩
  rw [← q_se]
  refine Goes.by (T' := s₁) (g' := (mkF m 30 #[SI y0, SI y1, SI y2, SI y3, SJ ba, S2, SJ ot, S2, SI mo, SI se, SU, SU, SU, SU, SU, SU, SU, SU, SU, SU, SU, SU, SU, SU, SU, SU, SU, SU, SU, SU, SU, SU] [])) (fun _ k => XS.istore X0.here hx rfl (hb hby at_28) rfl (l' := #[SI y0, SI y1, SI y2, SI y3, SJ ba, S2, SJ ot, S2, SI mo, SI se, SU, SU, SU, SU, SU, SU, SU, SU, SU, SU, SU, SU, SU, SU, SU, SU, SU, SU, SU, SU, SU, SU]) rfl k) ?_
  refine Goes.by (T' := s₁) (g' := (mkF m 31 #[SI y0, SI y1, SI y2, SI y3, SJ ba, S2, SJ ot, S2, SI mo, SI se, SU, SU, SU, SU, SU, SU, SU, SU, SU, SU, SU, SU, SU, SU, SU, SU, SU, SU, SU, SU, SU, SU] [(.long (1 : Int64))])) (fun _ k => XS.lconst X0.here hx rfl (hb hby at_30)  k) ?_
  refine Goes.by (T' := s₁) (g' := (mkF m 33 #[SI y0, SI y1, SI y2, SI y3, SJ ba, S2, SJ ot, S2, SI mo, SI se, SU, SU, SU, SU, SU, SU, SU, SU, SU, SU, SU, SU, SU, SU, SU, SU, SU, SU, SU, SU, SU, SU] [(.int se), (.long (1 : Int64))])) (fun _ k => XS.iload X0.here hx rfl (hb hby at_31) rfl k) ?_
  refine Goes.by (T' := s₁) (g' := (mkF m 34 #[SI y0, SI y1, SI y2, SI y3, SJ ba, S2, SJ ot, S2, SI mo, SI se, SU, SU, SU, SU, SU, SU, SU, SU, SU, SU, SU, SU, SU, SU, SU, SU, SU, SU, SU, SU, SU, SU] [(.long ((se).toInt64)), (.long (1 : Int64))])) (fun _ k => XS.i2l X0.here hx rfl (hb hby at_33) rfl k) ?_
  refine Goes.by (T' := s₁) (g' := (mkF m 35 #[SI y0, SI y1, SI y2, SI y3, SJ ba, S2, SJ ot, S2, SI mo, SI se, SU, SU, SU, SU, SU, SU, SU, SU, SU, SU, SU, SU, SU, SU, SU, SU, SU, SU, SU, SU, SU, SU] [(.long ((1 : Int64) + ((se).toInt64)))])) (fun _ k => XS.ladd X0.here hx rfl (hb hby at_34) rfl k) ?_
  obtain ⟨si, q_si⟩ : ∃ zz : Int64, zz = ((1 : Int64) + ((se).toInt64)) := ⟨_, rfl⟩
  rw [← q_si]
  refine Goes.by (T' := s₁) (g' := (mkF m 37 #[SI y0, SI y1, SI y2, SI y3, SJ ba, S2, SJ ot, S2, SI mo, SI se, SJ si, S2, SU, SU, SU, SU, SU, SU, SU, SU, SU, SU, SU, SU, SU, SU, SU, SU, SU, SU, SU, SU] [])) (fun _ k => XS.lstore X0.here hx rfl (hb hby at_35) rfl (l' := #[SI y0, SI y1, SI y2, SI y3, SJ ba, S2, SJ ot, S2, SI mo, SI se, SJ si, S2, SU, SU, SU, SU, SU, SU, SU, SU, SU, SU, SU, SU, SU, SU, SU, SU, SU, SU, SU, SU]) rfl k) ?_
  refine Goes.by (T' := s₁) (g' := (mkF m 39 #[SI y0, SI y1, SI y2, SI y3, SJ ba, S2, SJ ot, S2, SI mo, SI se, SJ si, S2, SU, SU, SU, SU, SU, SU, SU, SU, SU, SU, SU, SU, SU, SU, SU, SU, SU, SU, SU, SU] [(.long si)])) (fun _ k => XS.lload X0.here hx rfl (hb hby at_37) rfl k) ?_
  refine Goes.by (T' := s₁) (g' := (mkF m 41 #[SI y0, SI y1, SI y2, SI y3, SJ ba, S2, SJ ot, S2, SI mo, SI se, SJ si, S2, SU, SU, SU, SU, SU, SU, SU, SU, SU, SU, SU, SU, SU, SU, SU, SU, SU, SU, SU, SU] [(.long si), (.long si)])) (fun _ k => XS.lload X0.here hx rfl (hb hby at_39) rfl k) ?_
  refine Goes.by (T' := s₁) (g' := (mkF m 42 #[SI y0, SI y1, SI y2, SI y3, SJ ba, S2, SJ ot, S2, SI mo, SI se, SJ si, S2, SU, SU, SU, SU, SU, SU, SU, SU, SU, SU, SU, SU, SU, SU, SU, SU, SU, SU, SU, SU] [(.long (si * si))])) (fun _ k => XS.lmul X0.here hx rfl (hb hby at_41) rfl k) ?_
  obtain ⟨sq, q_sq⟩ : ∃ zz : Int64, zz = (si * si) := ⟨_, rfl⟩
  rw [← q_sq]
  refine Goes.by (T' := s₁) (g' := (mkF m 44 #[SI y0, SI y1, SI y2, SI y3, SJ ba, S2, SJ ot, S2, SI mo, SI se, SJ si, S2, SJ sq, S2, SU, SU, SU, SU, SU, SU, SU, SU, SU, SU, SU, SU, SU, SU, SU, SU, SU, SU] [])) (fun _ k => XS.lstore X0.here hx rfl (hb hby at_42) rfl (l' := #[SI y0, SI y1, SI y2, SI y3, SJ ba, S2, SJ ot, S2, SI mo, SI se, SJ si, S2, SJ sq, S2, SU, SU, SU, SU, SU, SU, SU, SU, SU, SU, SU, SU, SU, SU, SU, SU, SU, SU]) rfl k) ?_
  refine Goes.by (T' := s₁) (g' := (mkF m 45 #[SI y0, SI y1, SI y2, SI y3, SJ ba, S2, SJ ot, S2, SI mo, SI se, SJ si, S2, SJ sq, S2, SU, SU, SU, SU, SU, SU, SU, SU, SU, SU, SU, SU, SU, SU, SU, SU, SU, SU] [(.int y3)])) (fun _ k => XS.iloadN X0.here hx rfl (hb hby at_44) rfl k) ?_
  refine Goes.by (T' := s₁) (g' := (mkF m 46 #[SI y0, SI y1, SI y2, SI y3, SJ ba, S2, SJ ot, S2, SI mo, SI se, SJ si, S2, SJ sq, S2, SU, SU, SU, SU, SU, SU, SU, SU, SU, SU, SU, SU, SU, SU, SU, SU, SU, SU] [(.long ((y3).toInt64))])) (fun _ k => XS.i2l X0.here hx rfl (hb hby at_45) rfl k) ?_
  refine Goes.by (T' := s₁) (g' := (mkF m 49 #[SI y0, SI y1, SI y2, SI y3, SJ ba, S2, SJ ot, S2, SI mo, SI se, SJ si, S2, SJ sq, S2, SU, SU, SU, SU, SU, SU, SU, SU, SU, SU, SU, SU, SU, SU, SU, SU, SU, SU] [(.long (65535 : Int64)), (.long ((y3).toInt64))])) (X0.ldc2Long hx hown (mvT hZ (hw _ (List.mem_of_getElem? (i := 1) rfl))) (g := (mkF m 46 #[SI y0, SI y1, SI y2, SI y3, SJ ba, S2, SJ ot, S2, SI mo, SI se, SJ si, S2, SJ sq, S2, SU, SU, SU, SU, SU, SU, SU, SU, SU, SU, SU, SU, SU, SU, SU, SU, SU, SU] [(.long ((y3).toInt64))])) rfl (hb hby at_46)) ?_
  refine Goes.by (T' := s₁) (g' := (mkF m 50 #[SI y0, SI y1, SI y2, SI y3, SJ ba, S2, SJ ot, S2, SI mo, SI se, SJ si, S2, SJ sq, S2, SU, SU, SU, SU, SU, SU, SU, SU, SU, SU, SU, SU, SU, SU, SU, SU, SU, SU] [(.long (((y3).toInt64) &&& (65535 : Int64)))])) (fun _ k => XS.land X0.here hx rfl (hb hby at_49) rfl k) ?_
  obtain ⟨kq, q_kq⟩ : ∃ zz : Int64, zz = (((y3).toInt64) &&& (65535 : Int64)) := ⟨_, rfl⟩
  rw [← q_kq]
  refine Goes.by (T' := s₁) (g' := (mkF m 52 #[SI y0, SI y1, SI y2, SI y3, SJ ba, S2, SJ ot, S2, SI mo, SI se, SJ si, S2, SJ sq, S2, SJ kq, S2, SU, SU, SU, SU, SU, SU, SU, SU, SU, SU, SU, SU, SU, SU, SU, SU] [])) (fun _ k => XS.lstore X0.here hx rfl (hb hby at_50) rfl (l' := #[SI y0, SI y1, SI y2, SI y3, SJ ba, S2, SJ ot, S2, SI mo, SI se, SJ si, S2, SJ sq, S2, SJ kq, S2, SU, SU, SU, SU, SU, SU, SU, SU, SU, SU, SU, SU, SU, SU, SU, SU]) rfl k) ?_
  refine Goes.by (T' := s₁) (g' := (mkF m 54 #[SI y0, SI y1, SI y2, SI y3, SJ ba, S2, SJ ot, S2, SI mo, SI se, SJ si, S2, SJ sq, S2, SJ kq, S2, SU, SU, SU, SU, SU, SU, SU, SU, SU, SU, SU, SU, SU, SU, SU, SU] [(.int mo)])) (fun _ k => XS.iload X0.here hx rfl (hb hby at_52) rfl k) ?_
  have m31 : (2147483647 : Int64).toInt = 2147483647 := by decide
  have m16 : (65535 : Int64).toInt = 65535 := by decide
  have l1 : (1 : Int64).toInt = 1 := by decide
  have hba : 0 ≤ ba.toInt ∧ ba.toInt ≤ 2147483647 := by rw [q_ba, ← m31]; exact own_land _ _ (by decide)
  have hot : 0 ≤ ot.toInt ∧ ot.toInt ≤ 2147483647 := by rw [q_ot, ← m31]; exact own_land _ _ (by decide)
  have hkq : 0 ≤ kq.toInt ∧ kq.toInt ≤ 65535 := by rw [q_kq, ← m16]; exact own_land _ _ (by decide)
  have hse : 0 ≤ se.toInt ∧ se.toInt ≤ 1023 := by
    have t := c_and (((y2).toUInt32 >>> ((2 : Int32) &&& 31).toUInt32).toInt32) (1023 : Int32) (by decide)
    rw [q_se, show (1023 : Int32).toInt = 1023 from by decide] at *
    exact t
  have hsi : 1 ≤ si.toInt ∧ si.toInt ≤ 1024 := by
    have t := c_i2l se
    rw [q_si, own_ladd (by omega) (by omega), l1]
    omega
  have hsq0 := own_s2 hsi
  have hsq : sq.toInt = si.toInt * si.toInt := by rw [q_sq]; exact own_lmul (by omega)
  rw [← hsq] at hsq0
  rcases (by rw [q_mo]; exact own_and3 _ : mo = 0 ∨ mo = 1 ∨ mo = 2 ∨ mo = 3) with rfl | rfl | rfl | rfl
  · have hks0 := own_ks hkq hsq0
    obtain ⟨ks, hks⟩ : ∃ z, z = kq.toInt * sq.toInt := ⟨_, rfl⟩
    rw [← hks] at hks0
    have hkm : (kq * sq).toInt = ks := by rw [hks]; exact own_lmul (by rw [← hks]; omega)
    have hva : (ba + kq * sq).toInt = ba.toInt + ks := by rw [own_ladd (by omega) (by omega), hkm]
    refine Goes.by (T' := s₁) (g' := (mkF m 57 #[SI y0, SI y1, SI y2, SI y3, SJ ba, S2, SJ ot, S2, SI 0, SI se, SJ si, S2, SJ sq, S2, SJ kq, S2, SU, SU, SU, SU, SU, SU, SU, SU, SU, SU, SU, SU, SU, SU, SU, SU] [])) (fun _ k => XS.ifNo X0.here hx rfl (hb hby at_54) rfl (by decide) k) ?_
    refine Goes.by (T' := s₁) (g' := (mkF m 59 #[SI y0, SI y1, SI y2, SI y3, SJ ba, S2, SJ ot, S2, SI 0, SI se, SJ si, S2, SJ sq, S2, SJ kq, S2, SU, SU, SU, SU, SU, SU, SU, SU, SU, SU, SU, SU, SU, SU, SU, SU] [(.long ba)])) (fun _ k => XS.lload X0.here hx rfl (hb hby at_57) rfl k) ?_
    refine Goes.by (T' := s₁) (g' := (mkF m 61 #[SI y0, SI y1, SI y2, SI y3, SJ ba, S2, SJ ot, S2, SI 0, SI se, SJ si, S2, SJ sq, S2, SJ kq, S2, SU, SU, SU, SU, SU, SU, SU, SU, SU, SU, SU, SU, SU, SU, SU, SU] [(.long kq), (.long ba)])) (fun _ k => XS.lload X0.here hx rfl (hb hby at_59) rfl k) ?_
    refine Goes.by (T' := s₁) (g' := (mkF m 63 #[SI y0, SI y1, SI y2, SI y3, SJ ba, S2, SJ ot, S2, SI 0, SI se, SJ si, S2, SJ sq, S2, SJ kq, S2, SU, SU, SU, SU, SU, SU, SU, SU, SU, SU, SU, SU, SU, SU, SU, SU] [(.long sq), (.long kq), (.long ba)])) (fun _ k => XS.lload X0.here hx rfl (hb hby at_61) rfl k) ?_
    refine Goes.by (T' := s₁) (g' := (mkF m 64 #[SI y0, SI y1, SI y2, SI y3, SJ ba, S2, SJ ot, S2, SI 0, SI se, SJ si, S2, SJ sq, S2, SJ kq, S2, SU, SU, SU, SU, SU, SU, SU, SU, SU, SU, SU, SU, SU, SU, SU, SU] [(.long (kq * sq)), (.long ba)])) (fun _ k => XS.lmul X0.here hx rfl (hb hby at_63) rfl k) ?_
    refine Goes.by (T' := s₁) (g' := (mkF m 65 #[SI y0, SI y1, SI y2, SI y3, SJ ba, S2, SJ ot, S2, SI 0, SI se, SJ si, S2, SJ sq, S2, SJ kq, S2, SU, SU, SU, SU, SU, SU, SU, SU, SU, SU, SU, SU, SU, SU, SU, SU] [(.long (ba + (kq * sq)))])) (fun _ k => XS.ladd X0.here hx rfl (hb hby at_64) rfl k) ?_
    obtain ⟨va, q_va⟩ : ∃ zz : Int64, zz = (ba + (kq * sq)) := ⟨_, rfl⟩
    rw [← q_va]
    rw [← q_va] at hva
    obtain ⟨dv, q_dv⟩ : ∃ zz, FP.l2d va = zz := ⟨_, rfl⟩
    refine Goes.by (T' := s₁) (g' := (mkF m 66 #[SI y0, SI y1, SI y2, SI y3, SJ ba, S2, SJ ot, S2, SI 0, SI se, SJ si, S2, SJ sq, S2, SJ kq, S2, SU, SU, SU, SU, SU, SU, SU, SU, SU, SU, SU, SU, SU, SU, SU, SU] [(.double dv)])) (fun _ k => XS.l2dS X0.here hx rfl (hb hby at_65) rfl q_dv k) ?_
    have D_dv : Core.DInt va.toInt dv := DInt_l2d q_dv (by omega)
    refine Goes.by (T' := s₁) (g' := (mkF m 68 #[SI y0, SI y1, SI y2, SI y3, SJ ba, S2, SJ ot, S2, SI 0, SI se, SJ si, S2, SJ sq, S2, SJ kq, S2, SD dv, S2, SU, SU, SU, SU, SU, SU, SU, SU, SU, SU, SU, SU, SU, SU] [])) (fun _ k => XS.dstore X0.here hx rfl (hb hby at_66) rfl (l' := #[SI y0, SI y1, SI y2, SI y3, SJ ba, S2, SJ ot, S2, SI 0, SI se, SJ si, S2, SJ sq, S2, SJ kq, S2, SD dv, S2, SU, SU, SU, SU, SU, SU, SU, SU, SU, SU, SU, SU, SU, SU]) rfl k) ?_
    refine Goes.by (T' := s₁) (g' := (mkF m 70 #[SI y0, SI y1, SI y2, SI y3, SJ ba, S2, SJ ot, S2, SI 0, SI se, SJ si, S2, SJ sq, S2, SJ kq, S2, SD dv, S2, SU, SU, SU, SU, SU, SU, SU, SU, SU, SU, SU, SU, SU, SU] [(.long ba)])) (fun _ k => XS.lload X0.here hx rfl (hb hby at_68) rfl k) ?_
    obtain ⟨dm, q_dm⟩ : ∃ zz, FP.l2d ba = zz := ⟨_, rfl⟩
    refine Goes.by (T' := s₁) (g' := (mkF m 71 #[SI y0, SI y1, SI y2, SI y3, SJ ba, S2, SJ ot, S2, SI 0, SI se, SJ si, S2, SJ sq, S2, SJ kq, S2, SD dv, S2, SU, SU, SU, SU, SU, SU, SU, SU, SU, SU, SU, SU, SU, SU] [(.double dm)])) (fun _ k => XS.l2dS X0.here hx rfl (hb hby at_70) rfl q_dm k) ?_
    have D_dm : Core.DInt ba.toInt dm := DInt_l2d q_dm (by omega)
    refine Goes.by (T' := s₁) (g' := (mkF m 73 #[SI y0, SI y1, SI y2, SI y3, SJ ba, S2, SJ ot, S2, SI 0, SI se, SJ si, S2, SJ sq, S2, SJ kq, S2, SD dv, S2, SD dm, S2, SU, SU, SU, SU, SU, SU, SU, SU, SU, SU, SU, SU] [])) (fun _ k => XS.dstore X0.here hx rfl (hb hby at_71) rfl (l' := #[SI y0, SI y1, SI y2, SI y3, SJ ba, S2, SJ ot, S2, SI 0, SI se, SJ si, S2, SJ sq, S2, SJ kq, S2, SD dv, S2, SD dm, S2, SU, SU, SU, SU, SU, SU, SU, SU, SU, SU, SU, SU]) rfl k) ?_
    refine Goes.by (T' := s₁) (g' := (mkF m 75 #[SI y0, SI y1, SI y2, SI y3, SJ ba, S2, SJ ot, S2, SI 0, SI se, SJ si, S2, SJ sq, S2, SJ kq, S2, SD dv, S2, SD dm, S2, SU, SU, SU, SU, SU, SU, SU, SU, SU, SU, SU, SU] [(.long si)])) (fun _ k => XS.lload X0.here hx rfl (hb hby at_73) rfl k) ?_
    obtain ⟨ds, q_ds⟩ : ∃ zz, FP.l2d si = zz := ⟨_, rfl⟩
    refine Goes.by (T' := s₁) (g' := (mkF m 76 #[SI y0, SI y1, SI y2, SI y3, SJ ba, S2, SJ ot, S2, SI 0, SI se, SJ si, S2, SJ sq, S2, SJ kq, S2, SD dv, S2, SD dm, S2, SU, SU, SU, SU, SU, SU, SU, SU, SU, SU, SU, SU] [(.double ds)])) (fun _ k => XS.l2dS X0.here hx rfl (hb hby at_75) rfl q_ds k) ?_
    have D_ds : Core.DInt si.toInt ds := DInt_l2d q_ds (by omega)
    obtain ⟨r1, q1⟩ : ∃ z, FP.dsub dv dm = z := ⟨_, rfl⟩
    obtain ⟨r2, q2⟩ : ∃ z, FP.dmul ds ds = z := ⟨_, rfl⟩
    obtain ⟨r3, q3⟩ : ∃ z, FP.ddiv r1 r2 = z := ⟨_, rfl⟩
    have D1 : Core.DInt (kq.toInt * sq.toInt) r1 := by
      have t := DInt_sub q1 D_dv D_dm (by omega)
      rwa [show va.toInt - ba.toInt = ks by omega, hks] at t
    have D2 : Core.DInt sq.toInt r2 := by rw [hsq]; exact DInt_mul q2 D_ds D_ds (by rw [← hsq]; omega)
    have Z3 := own_div0 D1 D2 (by omega) (by omega) q3
    have nn1 := DInt_nn D1
    have nn2 := DInt_nn D2
    have nn3 := Z3.nn
    refine Goes.by (T' := s₁) (g' := (mkF m 78 #[SI y0, SI y1, SI y2, SI y3, SJ ba, S2, SJ ot, S2, SI 0, SI se, SJ si, S2, SJ sq, S2, SJ kq, S2, SD dv, S2, SD dm, S2, SD ds, S2, SU, SU, SU, SU, SU, SU, SU, SU, SU, SU] [])) (fun _ k => XS.dstore X0.here hx rfl (hb hby at_76) rfl (l' := #[SI y0, SI y1, SI y2, SI y3, SJ ba, S2, SJ ot, S2, SI 0, SI se, SJ si, S2, SJ sq, S2, SJ kq, S2, SD dv, S2, SD dm, S2, SD ds, S2, SU, SU, SU, SU, SU, SU, SU, SU, SU, SU]) rfl k) ?_
    refine Goes.by (T' := s₁) (g' := (mkF m 162 #[SI y0, SI y1, SI y2, SI y3, SJ ba, S2, SJ ot, S2, SI 0, SI se, SJ si, S2, SJ sq, S2, SJ kq, S2, SD dv, S2, SD dm, S2, SD ds, S2, SU, SU, SU, SU, SU, SU, SU, SU, SU, SU] [])) (fun _ k => XS.goto X0.here hx rfl (pc0 := 78) (pc' := 162) rfl (hb hby at_78) (by decide) (by decide) k) ?_
    obtain ⟨T38, h38, X38, e38, E38, A38, D38, -, st38⟩ := newO X0 hx hZ hown (hw _ (List.mem_of_getElem? (i := 6) rfl)) (hw _ (List.mem_of_getElem? (i := 7) rfl)) (hw _ (List.mem_of_getElem? (i := 8) rfl)) e0 (g := (mkF m 162 #[SI y0, SI y1, SI y2, SI y3, SJ ba, S2, SJ ot, S2, SI 0, SI se, SJ si, S2, SJ sq, S2, SJ kq, S2, SD dv, S2, SD dm, S2, SD ds, S2, SU, SU, SU, SU, SU, SU, SU, SU, SU, SU] [])) rfl (hb hby at_162) (by decide) (by decide)
    obtain ⟨cn, g38⟩ : ∃ z, z = h0.size := ⟨_, rfl⟩
    rw [← g38] at A38 D38 st38
    have ge_cn : n0 ≤ cn := Nat.le_trans Z0 (Nat.le_of_eq g38.symm)
    have Z0 := Nat.le_trans Z0 E38.1
    have kS := Nat.le_trans kS E38.1
    have hCH := CHv.ext E38 hCH
    have E_cn := A38
    have F_link_cn : Fld Z h38 cn "com/example/gaugefit/gaugefit/core/Count" "link" "Ljava/lang/String;" .null := D38 (Or.inr (hw _ (List.mem_of_getElem? (i := 68) rfl))) (ty := (.object "java/lang/String")) (by decide)
    have F_interval_cn : Fld Z h38 cn "com/example/gaugefit/gaugefit/core/Count" "interval" "Lcom/example/gaugefit/gaugefit/core/Interval;" .null := D38 (Or.inr (hw _ (List.mem_of_getElem? (i := 70) rfl))) (ty := (.object "com/example/gaugefit/gaugefit/core/Interval")) (by decide)
    have F_value_cn : Fld Z h38 cn "com/example/gaugefit/gaugefit/core/Count" "value" "D" (.double (0 : UInt64)) := D38 (Or.inr (hw _ (List.mem_of_getElem? (i := 72) rfl))) (ty := .double) (by decide)
    have F_stddev_cn : Fld Z h38 cn "com/example/gaugefit/gaugefit/core/Count" "stddev" "Ljava/util/OptionalDouble;" .null := D38 (Or.inr (hw _ (List.mem_of_getElem? (i := 74) rfl))) (ty := (.object "java/util/OptionalDouble")) (by decide)
    refine Goes.by (T' := T38) (g' := (mkF m 165 #[SI y0, SI y1, SI y2, SI y3, SJ ba, S2, SJ ot, S2, SI 0, SI se, SJ si, S2, SJ sq, S2, SJ kq, S2, SD dv, S2, SD dm, S2, SD ds, S2, SU, SU, SU, SU, SU, SU, SU, SU, SU, SU] [(.ref cn)])) st38 ?_
    have SO := Sta.ext E38 SO
    refine Goes.by (T' := T38) (g' := (mkF m 166 #[SI y0, SI y1, SI y2, SI y3, SJ ba, S2, SJ ot, S2, SI 0, SI se, SJ si, S2, SJ sq, S2, SJ kq, S2, SD dv, S2, SD dm, S2, SD ds, S2, SU, SU, SU, SU, SU, SU, SU, SU, SU, SU] [(.ref cn), (.ref cn)])) (fun _ k => XS.dup X38.here hx rfl (hb hby at_165) rfl rfl k) ?_
    obtain ⟨st, T39, h39, kk39, b, kc, X39, e39, E39, hS, kN39, hZ, hown, ES, -, FV, AV, -, -, -, -, -, st39⟩ := ldcCH X38 hx hZ hown (hw _ (List.mem_of_getElem? (i := 9) rfl)) (own_wS hw) e38 hS kS (own_EW hw) (List.mem_singleton.mpr rfl) hCH (vs := [.int 76]) (z := 1) ⟨by decide, rfl⟩ (by decide) (by decide) (g := (mkF m 166 #[SI y0, SI y1, SI y2, SI y3, SJ ba, S2, SJ ot, S2, SI 0, SI se, SJ si, S2, SJ sq, S2, SJ kq, S2, SD dv, S2, SD dm, S2, SD ds, S2, SU, SU, SU, SU, SU, SU, SU, SU, SU, SU] [(.ref cn), (.ref cn)])) rfl (hb hby at_166) (n := 4) (by decide +kernel) (by decide) (by decide) (by decide)
    have E_cn := E_cn.ext E39
    have F_link_cn := F_link_cn.ext E39
    have F_interval_cn := F_interval_cn.ext E39
    have F_value_cn := F_value_cn.ext E39
    have F_stddev_cn := F_stddev_cn.ext E39
    have Z0 := Nat.le_trans Z0 E39.1
    have kS := Nat.le_trans kS E39.1
    have SO := Sta.ext E39 SO
    have kS := kN39
    have VB := own_arv AV
    refine Goes.by (T' := T39) (g' := (mkF m 168 #[SI y0, SI y1, SI y2, SI y3, SJ ba, S2, SJ ot, S2, SI 0, SI se, SJ si, S2, SJ sq, S2, SJ kq, S2, SD dv, S2, SD dm, S2, SD ds, S2, SU, SU, SU, SU, SU, SU, SU, SU, SU, SU] [(.ref st), (.ref cn), (.ref cn)])) st39 ?_
    refine Goes.by (T' := T39) (g' := (mkF m 169 #[SI y0, SI y1, SI y2, SI y3, SJ ba, S2, SJ ot, S2, SI 0, SI se, SJ si, S2, SJ sq, S2, SJ kq, S2, SD dv, S2, SD dm, S2, SD ds, S2, SU, SU, SU, SU, SU, SU, SU, SU, SU, SU] [(.double (0 : UInt64)), (.ref st), (.ref cn), (.ref cn)])) (fun _ k => XS.dconst0 X39.here hx rfl (hb hby at_168) rfl k) ?_
    refine Goes.by (T' := T39) (g' := (mkF m 170 #[SI y0, SI y1, SI y2, SI y3, SJ ba, S2, SJ ot, S2, SI 0, SI se, SJ si, S2, SJ sq, S2, SJ kq, S2, SD dv, S2, SD dm, S2, SD ds, S2, SU, SU, SU, SU, SU, SU, SU, SU, SU, SU] [(.double (4607182418800017408 : UInt64)), (.double (0 : UInt64)), (.ref st), (.ref cn), (.ref cn)])) (fun _ k => XS.dconst1 X39.here hx rfl (hb hby at_169) rfl k) ?_
    refine Goes.by (T' := T39) (g' := (mkF m 172 #[SI y0, SI y1, SI y2, SI y3, SJ ba, S2, SJ ot, S2, SI 0, SI se, SJ si, S2, SJ sq, S2, SJ kq, S2, SD dv, S2, SD dm, S2, SD ds, S2, SU, SU, SU, SU, SU, SU, SU, SU, SU, SU] [(.double dv), (.double (4607182418800017408 : UInt64)), (.double (0 : UInt64)), (.ref st), (.ref cn), (.ref cn)])) (fun _ k => XS.dload X39.here hx rfl (hb hby at_170) rfl k) ?_
    obtain ⟨v40, T40, L40, kk40, X40, hQ40, hS, kN40, hZ, hown, st40⟩ := callIS X39 hS kS hx hZ (y := (⟨"com/example/gaugefit/gaugefit/core/Count", "<init>", "(Ljava/lang/String;DDD)V"⟩ : MethodName)) rfl hown (hw _ (List.mem_of_getElem? (i := 17) rfl)) (hw _ (List.mem_of_getElem? (i := 18) rfl)) (hw _ (List.mem_of_getElem? (i := 19) rfl)) (hw _ (List.mem_of_getElem? (i := 8) rfl)) (by decide) e39 (a := cn) (argsL := [(.ref st), (.double (0 : UInt64)), (.double (4607182418800017408 : UInt64)), (.double dv)]) (rest := [(.ref cn)]) (W := 1) (rm_c4 l Z a0 hw cn st b oe 76 dv va.toInt h39 n0 Z0 E_cn F_link_cn F_interval_cn F_value_cn F_stddev_cn ES FV VB SO ge_cn D_dv (by omega)) rfl (by decide) (by decide) (by decide) (by decide) (g := (mkF m 172 #[SI y0, SI y1, SI y2, SI y3, SJ ba, S2, SJ ot, S2, SI 0, SI se, SJ si, S2, SJ sq, S2, SJ kq, S2, SD dv, S2, SD dm, S2, SD ds, S2, SU, SU, SU, SU, SU, SU, SU, SU, SU, SU] [(.double dv), (.double (4607182418800017408 : UInt64)), (.double (0 : UInt64)), (.ref st), (.ref cn), (.ref cn)])) rfl (by rw [hml]; rfl) (lenOf pd8 rfl) rfl (by show 2 * 0 + _ ≤ _; exact Nat.le_of_eq rfl) (hb hby at_172)
    obtain ⟨rfl, -, FVV, K40, NL40⟩ := hQ40
    have N0 := Fr.app N0 NL40
    have e40 : T40.heap = T40.heap := rfl
    have E_cn := E_cn.keep K40
    have Z0 := Nat.le_trans Z0 K40.1
    have kS := Nat.le_trans kS K40.1
    have kS := kN40
    refine Goes.by (T' := T40) (g' := (mkF m 175 #[SI y0, SI y1, SI y2, SI y3, SJ ba, S2, SJ ot, S2, SI 0, SI se, SJ si, S2, SJ sq, S2, SJ kq, S2, SD dv, S2, SD dm, S2, SD ds, S2, SU, SU, SU, SU, SU, SU, SU, SU, SU, SU] [(.ref cn)])) st40 ?_
    refine Goes.by (T' := T40) (g' := (mkF m 177 #[SI y0, SI y1, SI y2, SI y3, SJ ba, S2, SJ ot, S2, SI 0, SI se, SJ si, S2, SJ sq, S2, SJ kq, S2, SD dv, S2, SD dm, S2, SD ds, S2, SA cn, SU, SU, SU, SU, SU, SU, SU, SU, SU] [])) (fun _ k => XS.astore X40.here hx rfl (hb hby at_175) rfl rfl (l' := #[SI y0, SI y1, SI y2, SI y3, SJ ba, S2, SJ ot, S2, SI 0, SI se, SJ si, S2, SJ sq, S2, SJ kq, S2, SD dv, S2, SD dm, S2, SD ds, S2, SA cn, SU, SU, SU, SU, SU, SU, SU, SU, SU]) rfl k) ?_
    obtain ⟨T41, h41, X41, e41, E41, A41, D41, -, st41⟩ := newO X40 hx hZ hown (hw _ (List.mem_of_getElem? (i := 75) rfl)) (hw _ (List.mem_of_getElem? (i := 76) rfl)) (hw _ (List.mem_of_getElem? (i := 77) rfl)) e40 (g := (mkF m 177 #[SI y0, SI y1, SI y2, SI y3, SJ ba, S2, SJ ot, S2, SI 0, SI se, SJ si, S2, SJ sq, S2, SJ kq, S2, SD dv, S2, SD dm, S2, SD ds, S2, SA cn, SU, SU, SU, SU, SU, SU, SU, SU, SU] [])) rfl (hb hby at_177) (by decide) (by decide)
    obtain ⟨of, g41⟩ : ∃ z, z = T40.heap.size := ⟨_, rfl⟩
    rw [← g41] at A41 D41 st41
    have ne_cn_of : cn ≠ of := fun q => Nat.lt_irrefl _ (Nat.lt_of_lt_of_eq E_cn.lt (g41.symm.trans q.symm))
    have ge_of : n0 ≤ of := Nat.le_trans Z0 (Nat.le_of_eq g41.symm)
    have E_cn := E_cn.ext E41
    have FVV := FVV.ext E41
    have Z0 := Nat.le_trans Z0 E41.1
    have kS := Nat.le_trans kS E41.1
    have E_of := A41
    have F_count_of : Fld Z h41 of "com/example/gaugefit/gaugefit/core/CountOffset" "count" "Lcom/example/gaugefit/gaugefit/core/Count;" .null := D41 (Or.inr (hw _ (List.mem_of_getElem? (i := 86) rfl))) (ty := (.object "com/example/gaugefit/gaugefit/core/Count")) (by decide)
    have F_simulated_of : Fld Z h41 of "com/example/gaugefit/gaugefit/core/CountOffset" "simulated" "D" (.double (0 : UInt64)) := D41 (Or.inr (hw _ (List.mem_of_getElem? (i := 88) rfl))) (ty := .double) (by decide)
    have F_stddev_of : Fld Z h41 of "com/example/gaugefit/gaugefit/core/CountOffset" "stddev" "D" (.double (0 : UInt64)) := D41 (Or.inr (hw _ (List.mem_of_getElem? (i := 93) rfl))) (ty := .double) (by decide)
    refine Goes.by (T' := T41) (g' := (mkF m 180 #[SI y0, SI y1, SI y2, SI y3, SJ ba, S2, SJ ot, S2, SI 0, SI se, SJ si, S2, SJ sq, S2, SJ kq, S2, SD dv, S2, SD dm, S2, SD ds, S2, SA cn, SU, SU, SU, SU, SU, SU, SU, SU, SU] [(.ref of)])) st41 ?_
    refine Goes.by (T' := T41) (g' := (mkF m 181 #[SI y0, SI y1, SI y2, SI y3, SJ ba, S2, SJ ot, S2, SI 0, SI se, SJ si, S2, SJ sq, S2, SJ kq, S2, SD dv, S2, SD dm, S2, SD ds, S2, SA cn, SU, SU, SU, SU, SU, SU, SU, SU, SU] [(.ref of), (.ref of)])) (fun _ k => XS.dup X41.here hx rfl (hb hby at_180) rfl rfl k) ?_
    refine Goes.by (T' := T41) (g' := (mkF m 183 #[SI y0, SI y1, SI y2, SI y3, SJ ba, S2, SJ ot, S2, SI 0, SI se, SJ si, S2, SJ sq, S2, SJ kq, S2, SD dv, S2, SD dm, S2, SD ds, S2, SA cn, SU, SU, SU, SU, SU, SU, SU, SU, SU] [(.ref cn), (.ref of), (.ref of)])) (fun _ k => XS.aload X41.here hx rfl (hb hby at_181) rfl rfl k) ?_
    refine Goes.by (T' := T41) (g' := (mkF m 185 #[SI y0, SI y1, SI y2, SI y3, SJ ba, S2, SJ ot, S2, SI 0, SI se, SJ si, S2, SJ sq, S2, SJ kq, S2, SD dv, S2, SD dm, S2, SD ds, S2, SA cn, SU, SU, SU, SU, SU, SU, SU, SU, SU] [(.double dm), (.ref cn), (.ref of), (.ref of)])) (fun _ k => XS.dload X41.here hx rfl (hb hby at_183) rfl k) ?_
    refine Goes.by (T' := T41) (g' := (mkF m 187 #[SI y0, SI y1, SI y2, SI y3, SJ ba, S2, SJ ot, S2, SI 0, SI se, SJ si, S2, SJ sq, S2, SJ kq, S2, SD dv, S2, SD dm, S2, SD ds, S2, SA cn, SU, SU, SU, SU, SU, SU, SU, SU, SU] [(.double ds), (.double dm), (.ref cn), (.ref of), (.ref of)])) (fun _ k => XS.dload X41.here hx rfl (hb hby at_185) rfl k) ?_
    obtain ⟨v42, T42, L42, kk42, X42, hQ42, hS, kN42, hZ, hown, st42⟩ := callIS X41 hS kS hx hZ (y := (⟨"com/example/gaugefit/gaugefit/core/CountOffset", "<init>", "(Lcom/example/gaugefit/gaugefit/core/Count;DD)V"⟩ : MethodName)) rfl hown (hw _ (List.mem_of_getElem? (i := 78) rfl)) (hw _ (List.mem_of_getElem? (i := 79) rfl)) (hw _ (List.mem_of_getElem? (i := 80) rfl)) (hw _ (List.mem_of_getElem? (i := 77) rfl)) (by decide) e41 (a := of) (argsL := [(.ref cn), (.double dm), (.double ds)]) (rest := [(.ref of)]) (W := 1) (rm_cof l Z a0 hw of cn dm ds ba.toInt _ h41 n0 Z0 E_of F_count_of F_simulated_of F_stddev_of ge_of D_dm (by omega) (Zv.of_int D_ds) (own_sgn.1 (by omega))) rfl (by decide) (by decide) (by decide) (by decide) (g := (mkF m 187 #[SI y0, SI y1, SI y2, SI y3, SJ ba, S2, SJ ot, S2, SI 0, SI se, SJ si, S2, SJ sq, S2, SJ kq, S2, SD dv, S2, SD dm, S2, SD ds, S2, SA cn, SU, SU, SU, SU, SU, SU, SU, SU, SU] [(.double ds), (.double dm), (.ref cn), (.ref of), (.ref of)])) rfl (by rw [hml]; rfl) (lenOf pd9 rfl) rfl (by show 2 * 0 + _ ≤ _; exact Nat.le_of_eq rfl) (hb hby at_187)
    obtain ⟨rfl, -, G1, G2, G3, K42, NL42⟩ := hQ42
    have N0 := Fr.app N0 NL42
    have e42 : T42.heap = T42.heap := rfl
    have E_cn := E_cn.keep K42
    have FVV := FVV.keep K42 (ninS ne_cn_of nin0)
    have E_of := E_of.keep K42
    have Z0 := Nat.le_trans Z0 K42.1
    have kS := Nat.le_trans kS K42.1
    have kS := kN42
    refine Goes.by (T' := T42) (g' := (mkF m 190 #[SI y0, SI y1, SI y2, SI y3, SJ ba, S2, SJ ot, S2, SI 0, SI se, SJ si, S2, SJ sq, S2, SJ kq, S2, SD dv, S2, SD dm, S2, SD ds, S2, SA cn, SU, SU, SU, SU, SU, SU, SU, SU, SU] [(.ref of)])) st42 ?_
    obtain ⟨v43, T43, L43, X43, hQ43, st43⟩ := callV X42 hx hZ (y := (⟨"com/example/gaugefit/gaugefit/core/CountOffset", "getOffset", "()D"⟩ : MethodName)) hown (hw _ (List.mem_of_getElem? (i := 94) rfl)) (hw _ (List.mem_of_getElem? (i := 95) rfl)) (hw _ (List.mem_of_getElem? (i := 97) rfl)) (hw _ (List.mem_of_getElem? (i := 96) rfl)) (hw _ (List.mem_of_getElem? (i := 98) rfl)) (hw _ (List.mem_of_getElem? (i := 77) rfl)) (by decide) e42 E_of (argsL := []) (rest := []) (W := 0) (rm_go l Z a0 hw of cn dv dm ds r1 r2 r3 T42.heap n0 Z0 E_cn FVV G1 G2 G3 q1 q2 q3 nn1 nn2 nn3) rfl (by decide) (by decide) (by decide) (by decide) (g := (mkF m 190 #[SI y0, SI y1, SI y2, SI y3, SJ ba, S2, SJ ot, S2, SI 0, SI se, SJ si, S2, SJ sq, S2, SJ kq, S2, SD dv, S2, SD dm, S2, SD ds, S2, SA cn, SU, SU, SU, SU, SU, SU, SU, SU, SU] [(.ref of)])) rfl (by rw [hml]; rfl) (lenOf pd10 rfl) rfl (by show 2 * 0 + _ ≤ _; exact Nat.le_of_eq rfl) (hb hby at_190)
    obtain ⟨rfl, NL43, hk43⟩ := hQ43
    have N0 := Fr.app N0 NL43
    refine Goes.by (T' := T43) (g' := (mkF m 193 #[SI y0, SI y1, SI y2, SI y3, SJ ba, S2, SJ ot, S2, SI 0, SI se, SJ si, S2, SJ sq, S2, SJ kq, S2, SD dv, S2, SD dm, S2, SD ds, S2, SA cn, SU, SU, SU, SU, SU, SU, SU, SU, SU] [(.double r3)])) st43 ?_
    refine Goes.by (T' := T43) (g' := (mkF m 195 #[SI y0, SI y1, SI y2, SI y3, SJ ba, S2, SJ ot, S2, SI 0, SI se, SJ si, S2, SJ sq, S2, SJ kq, S2, SD dv, S2, SD dm, S2, SD ds, S2, SA cn, SD r3, S2, SU, SU, SU, SU, SU, SU, SU] [])) (fun _ k => XS.dstore X43.here hx rfl (hb hby at_193) rfl (l' := #[SI y0, SI y1, SI y2, SI y3, SJ ba, S2, SJ ot, S2, SI 0, SI se, SJ si, S2, SJ sq, S2, SJ kq, S2, SD dv, S2, SD dm, S2, SD ds, S2, SA cn, SD r3, S2, SU, SU, SU, SU, SU, SU, SU]) rfl k) ?_
    refine Goes.by (T' := T43) (g' := (mkF m 197 #[SI y0, SI y1, SI y2, SI y3, SJ ba, S2, SJ ot, S2, SI 0, SI se, SJ si, S2, SJ sq, S2, SJ kq, S2, SD dv, S2, SD dm, S2, SD ds, S2, SA cn, SD r3, S2, SU, SU, SU, SU, SU, SU, SU] [(.int (0 : Int32))])) (fun _ k => XS.iload X43.here hx rfl (hb hby at_195) rfl k) ?_
    refine Goes.by (T' := T43) (g' := (mkF m 200 #[SI y0, SI y1, SI y2, SI y3, SJ ba, S2, SJ ot, S2, SI 0, SI se, SJ si, S2, SJ sq, S2, SJ kq, S2, SD dv, S2, SD dm, S2, SD ds, S2, SA cn, SD r3, S2, SU, SU, SU, SU, SU, SU, SU] [])) (fun _ k => XS.ifNo X43.here hx rfl (hb hby at_197) rfl (by decide) k) ?_
    refine Goes.by (T' := T43) (g' := (mkF m 202 #[SI y0, SI y1, SI y2, SI y3, SJ ba, S2, SJ ot, S2, SI 0, SI se, SJ si, S2, SJ sq, S2, SJ kq, S2, SD dv, S2, SD dm, S2, SD ds, S2, SA cn, SD r3, S2, SU, SU, SU, SU, SU, SU, SU] [(.double r3)])) (fun _ k => XS.dload X43.here hx rfl (hb hby at_200) rfl k) ?_
    refine Goes.by (T' := T43) (g' := (mkF m 204 #[SI y0, SI y1, SI y2, SI y3, SJ ba, S2, SJ ot, S2, SI 0, SI se, SJ si, S2, SJ sq, S2, SJ kq, S2, SD dv, S2, SD dm, S2, SD ds, S2, SA cn, SD r3, S2, SU, SU, SU, SU, SU, SU, SU] [(.long kq), (.double r3)])) (fun _ k => XS.lload X43.here hx rfl (hb hby at_202) rfl k) ?_
    obtain ⟨dk, q_dk⟩ : ∃ zz, FP.l2d kq = zz := ⟨_, rfl⟩
    refine Goes.by (T' := T43) (g' := (mkF m 205 #[SI y0, SI y1, SI y2, SI y3, SJ ba, S2, SJ ot, S2, SI 0, SI se, SJ si, S2, SJ sq, S2, SJ kq, S2, SD dv, S2, SD dm, S2, SD ds, S2, SA cn, SD r3, S2, SU, SU, SU, SU, SU, SU, SU] [(.double dk), (.double r3)])) (fun _ k => XS.l2dS X43.here hx rfl (hb hby at_204) rfl q_dk k) ?_
    have D_dk : Core.DInt kq.toInt dk := DInt_l2d q_dk (by omega)
    refine Goes.by (T' := T43) (g' := (mkF m 206 #[SI y0, SI y1, SI y2, SI y3, SJ ba, S2, SJ ot, S2, SI 0, SI se, SJ si, S2, SJ sq, S2, SJ kq, S2, SD dv, S2, SD dm, S2, SD ds, S2, SA cn, SD r3, S2, SU, SU, SU, SU, SU, SU, SU] [(.int (0 : Int32))])) (fun _ k => XS.dcmpS X43.here hx rfl (hb hby at_205) rfl (Z3.cmp_eq (Zv.of_int D_dk) rfl _) k) ?_
    refine Goes.by (T' := T43) (g' := (mkF m 209 #[SI y0, SI y1, SI y2, SI y3, SJ ba, S2, SJ ot, S2, SI 0, SI se, SJ si, S2, SJ sq, S2, SJ kq, S2, SD dv, S2, SD dm, S2, SD ds, S2, SA cn, SD r3, S2, SU, SU, SU, SU, SU, SU, SU] [])) (fun _ k => XS.ifNo X43.here hx rfl (hb hby at_206) rfl (by decide) k) ?_
    refine Goes.by (T' := T43) (g' := (mkF m 210 #[SI y0, SI y1, SI y2, SI y3, SJ ba, S2, SJ ot, S2, SI 0, SI se, SJ si, S2, SJ sq, S2, SJ kq, S2, SD dv, S2, SD dm, S2, SD ds, S2, SA cn, SD r3, S2, SU, SU, SU, SU, SU, SU, SU] [(.int (1 : Int32))])) (fun _ k => XS.iconst X43.here hx rfl (hb hby at_209)  k) ?_
    refine Goes.by (T' := T43) (g' := (mkF m 214 #[SI y0, SI y1, SI y2, SI y3, SJ ba, S2, SJ ot, S2, SI 0, SI se, SJ si, S2, SJ sq, S2, SJ kq, S2, SD dv, S2, SD dm, S2, SD ds, S2, SA cn, SD r3, S2, SU, SU, SU, SU, SU, SU, SU] [(.int (1 : Int32))])) (fun _ k => XS.goto X43.here hx rfl (pc0 := 210) (pc' := 214) rfl (hb hby at_210) (by decide) (by decide) k) ?_
    exact outZS X43 hS (by rw [hk43]; exact kS) hx hlk hret (hb hby at_214) (by exact ⟨rfl, N0⟩) (by decide) (by decide)
  · have hks0 := own_ks hkq hsq0
    obtain ⟨ks, hks⟩ : ∃ z, z = kq.toInt * sq.toInt := ⟨_, rfl⟩
    rw [← hks] at hks0
    have hkm : (kq * sq).toInt = ks := by rw [hks]; exact own_lmul (by rw [← hks]; omega)
    have hva : (ba + kq * sq).toInt = ba.toInt + ks := by rw [own_ladd (by omega) (by omega), hkm]
    refine Goes.by (T' := s₁) (g' := (mkF m 81 #[SI y0, SI y1, SI y2, SI y3, SJ ba, S2, SJ ot, S2, SI 1, SI se, SJ si, S2, SJ sq, S2, SJ kq, S2, SU, SU, SU, SU, SU, SU, SU, SU, SU, SU, SU, SU, SU, SU, SU, SU] [])) (fun _ k => XS.ifYes X0.here hx rfl (pc0 := 54) (pc' := 81) rfl (hb hby at_54) rfl (by decide) (by decide) (by decide) k) ?_
    refine Goes.by (T' := s₁) (g' := (mkF m 83 #[SI y0, SI y1, SI y2, SI y3, SJ ba, S2, SJ ot, S2, SI 1, SI se, SJ si, S2, SJ sq, S2, SJ kq, S2, SU, SU, SU, SU, SU, SU, SU, SU, SU, SU, SU, SU, SU, SU, SU, SU] [(.int (1 : Int32))])) (fun _ k => XS.iload X0.here hx rfl (hb hby at_81) rfl k) ?_
    refine Goes.by (T' := s₁) (g' := (mkF m 84 #[SI y0, SI y1, SI y2, SI y3, SJ ba, S2, SJ ot, S2, SI 1, SI se, SJ si, S2, SJ sq, S2, SJ kq, S2, SU, SU, SU, SU, SU, SU, SU, SU, SU, SU, SU, SU, SU, SU, SU, SU] [(.int (1 : Int32)), (.int (1 : Int32))])) (fun _ k => XS.iconst X0.here hx rfl (hb hby at_83)  k) ?_
    refine Goes.by (T' := s₁) (g' := (mkF m 87 #[SI y0, SI y1, SI y2, SI y3, SJ ba, S2, SJ ot, S2, SI 1, SI se, SJ si, S2, SJ sq, S2, SJ kq, S2, SU, SU, SU, SU, SU, SU, SU, SU, SU, SU, SU, SU, SU, SU, SU, SU] [])) (fun _ k => XS.icmpNo X0.here hx rfl (hb hby at_84) rfl (by decide) k) ?_
    refine Goes.by (T' := s₁) (g' := (mkF m 89 #[SI y0, SI y1, SI y2, SI y3, SJ ba, S2, SJ ot, S2, SI 1, SI se, SJ si, S2, SJ sq, S2, SJ kq, S2, SU, SU, SU, SU, SU, SU, SU, SU, SU, SU, SU, SU, SU, SU, SU, SU] [(.long ba)])) (fun _ k => XS.lload X0.here hx rfl (hb hby at_87) rfl k) ?_
    obtain ⟨dv, q_dv⟩ : ∃ zz, FP.l2d ba = zz := ⟨_, rfl⟩
    refine Goes.by (T' := s₁) (g' := (mkF m 90 #[SI y0, SI y1, SI y2, SI y3, SJ ba, S2, SJ ot, S2, SI 1, SI se, SJ si, S2, SJ sq, S2, SJ kq, S2, SU, SU, SU, SU, SU, SU, SU, SU, SU, SU, SU, SU, SU, SU, SU, SU] [(.double dv)])) (fun _ k => XS.l2dS X0.here hx rfl (hb hby at_89) rfl q_dv k) ?_
    have D_dv : Core.DInt ba.toInt dv := DInt_l2d q_dv (by omega)
    refine Goes.by (T' := s₁) (g' := (mkF m 92 #[SI y0, SI y1, SI y2, SI y3, SJ ba, S2, SJ ot, S2, SI 1, SI se, SJ si, S2, SJ sq, S2, SJ kq, S2, SD dv, S2, SU, SU, SU, SU, SU, SU, SU, SU, SU, SU, SU, SU, SU, SU] [])) (fun _ k => XS.dstore X0.here hx rfl (hb hby at_90) rfl (l' := #[SI y0, SI y1, SI y2, SI y3, SJ ba, S2, SJ ot, S2, SI 1, SI se, SJ si, S2, SJ sq, S2, SJ kq, S2, SD dv, S2, SU, SU, SU, SU, SU, SU, SU, SU, SU, SU, SU, SU, SU, SU]) rfl k) ?_
    refine Goes.by (T' := s₁) (g' := (mkF m 94 #[SI y0, SI y1, SI y2, SI y3, SJ ba, S2, SJ ot, S2, SI 1, SI se, SJ si, S2, SJ sq, S2, SJ kq, S2, SD dv, S2, SU, SU, SU, SU, SU, SU, SU, SU, SU, SU, SU, SU, SU, SU] [(.long ba)])) (fun _ k => XS.lload X0.here hx rfl (hb hby at_92) rfl k) ?_
    refine Goes.by (T' := s₁) (g' := (mkF m 96 #[SI y0, SI y1, SI y2, SI y3, SJ ba, S2, SJ ot, S2, SI 1, SI se, SJ si, S2, SJ sq, S2, SJ kq, S2, SD dv, S2, SU, SU, SU, SU, SU, SU, SU, SU, SU, SU, SU, SU, SU, SU] [(.long kq), (.long ba)])) (fun _ k => XS.lload X0.here hx rfl (hb hby at_94) rfl k) ?_
    refine Goes.by (T' := s₁) (g' := (mkF m 98 #[SI y0, SI y1, SI y2, SI y3, SJ ba, S2, SJ ot, S2, SI 1, SI se, SJ si, S2, SJ sq, S2, SJ kq, S2, SD dv, S2, SU, SU, SU, SU, SU, SU, SU, SU, SU, SU, SU, SU, SU, SU] [(.long sq), (.long kq), (.long ba)])) (fun _ k => XS.lload X0.here hx rfl (hb hby at_96) rfl k) ?_
    refine Goes.by (T' := s₁) (g' := (mkF m 99 #[SI y0, SI y1, SI y2, SI y3, SJ ba, S2, SJ ot, S2, SI 1, SI se, SJ si, S2, SJ sq, S2, SJ kq, S2, SD dv, S2, SU, SU, SU, SU, SU, SU, SU, SU, SU, SU, SU, SU, SU, SU] [(.long (kq * sq)), (.long ba)])) (fun _ k => XS.lmul X0.here hx rfl (hb hby at_98) rfl k) ?_
    refine Goes.by (T' := s₁) (g' := (mkF m 100 #[SI y0, SI y1, SI y2, SI y3, SJ ba, S2, SJ ot, S2, SI 1, SI se, SJ si, S2, SJ sq, S2, SJ kq, S2, SD dv, S2, SU, SU, SU, SU, SU, SU, SU, SU, SU, SU, SU, SU, SU, SU] [(.long (ba + (kq * sq)))])) (fun _ k => XS.ladd X0.here hx rfl (hb hby at_99) rfl k) ?_
    obtain ⟨va, q_va⟩ : ∃ zz : Int64, zz = (ba + (kq * sq)) := ⟨_, rfl⟩
    rw [← q_va]
    rw [← q_va] at hva
    obtain ⟨dm, q_dm⟩ : ∃ zz, FP.l2d va = zz := ⟨_, rfl⟩
    refine Goes.by (T' := s₁) (g' := (mkF m 101 #[SI y0, SI y1, SI y2, SI y3, SJ ba, S2, SJ ot, S2, SI 1, SI se, SJ si, S2, SJ sq, S2, SJ kq, S2, SD dv, S2, SU, SU, SU, SU, SU, SU, SU, SU, SU, SU, SU, SU, SU, SU] [(.double dm)])) (fun _ k => XS.l2dS X0.here hx rfl (hb hby at_100) rfl q_dm k) ?_
    have D_dm : Core.DInt va.toInt dm := DInt_l2d q_dm (by omega)
    refine Goes.by (T' := s₁) (g' := (mkF m 103 #[SI y0, SI y1, SI y2, SI y3, SJ ba, S2, SJ ot, S2, SI 1, SI se, SJ si, S2, SJ sq, S2, SJ kq, S2, SD dv, S2, SD dm, S2, SU, SU, SU, SU, SU, SU, SU, SU, SU, SU, SU, SU] [])) (fun _ k => XS.dstore X0.here hx rfl (hb hby at_101) rfl (l' := #[SI y0, SI y1, SI y2, SI y3, SJ ba, S2, SJ ot, S2, SI 1, SI se, SJ si, S2, SJ sq, S2, SJ kq, S2, SD dv, S2, SD dm, S2, SU, SU, SU, SU, SU, SU, SU, SU, SU, SU, SU, SU]) rfl k) ?_
    refine Goes.by (T' := s₁) (g' := (mkF m 105 #[SI y0, SI y1, SI y2, SI y3, SJ ba, S2, SJ ot, S2, SI 1, SI se, SJ si, S2, SJ sq, S2, SJ kq, S2, SD dv, S2, SD dm, S2, SU, SU, SU, SU, SU, SU, SU, SU, SU, SU, SU, SU] [(.long si)])) (fun _ k => XS.lload X0.here hx rfl (hb hby at_103) rfl k) ?_
    obtain ⟨ds, q_ds⟩ : ∃ zz, FP.l2d si = zz := ⟨_, rfl⟩
    refine Goes.by (T' := s₁) (g' := (mkF m 106 #[SI y0, SI y1, SI y2, SI y3, SJ ba, S2, SJ ot, S2, SI 1, SI se, SJ si, S2, SJ sq, S2, SJ kq, S2, SD dv, S2, SD dm, S2, SU, SU, SU, SU, SU, SU, SU, SU, SU, SU, SU, SU] [(.double ds)])) (fun _ k => XS.l2dS X0.here hx rfl (hb hby at_105) rfl q_ds k) ?_
    have D_ds : Core.DInt si.toInt ds := DInt_l2d q_ds (by omega)
    obtain ⟨r1, q1⟩ : ∃ z, FP.dsub dv dm = z := ⟨_, rfl⟩
    obtain ⟨r2, q2⟩ : ∃ z, FP.dmul ds ds = z := ⟨_, rfl⟩
    obtain ⟨r3, q3⟩ : ∃ z, FP.ddiv r1 r2 = z := ⟨_, rfl⟩
    have D1 : Core.DInt (-kq.toInt * sq.toInt) r1 := by
      have t := DInt_sub q1 D_dv D_dm (by omega)
      rwa [show ba.toInt - va.toInt = -ks by omega, hks, ← Int.neg_mul] at t
    have D2 : Core.DInt sq.toInt r2 := by rw [hsq]; exact DInt_mul q2 D_ds D_ds (by rw [← hsq]; omega)
    have Z3 := own_div0 D1 D2 (by omega) (by omega) q3
    have nn1 := DInt_nn D1
    have nn2 := DInt_nn D2
    have nn3 := Z3.nn
    refine Goes.by (T' := s₁) (g' := (mkF m 108 #[SI y0, SI y1, SI y2, SI y3, SJ ba, S2, SJ ot, S2, SI 1, SI se, SJ si, S2, SJ sq, S2, SJ kq, S2, SD dv, S2, SD dm, S2, SD ds, S2, SU, SU, SU, SU, SU, SU, SU, SU, SU, SU] [])) (fun _ k => XS.dstore X0.here hx rfl (hb hby at_106) rfl (l' := #[SI y0, SI y1, SI y2, SI y3, SJ ba, S2, SJ ot, S2, SI 1, SI se, SJ si, S2, SJ sq, S2, SJ kq, S2, SD dv, S2, SD dm, S2, SD ds, S2, SU, SU, SU, SU, SU, SU, SU, SU, SU, SU]) rfl k) ?_
    refine Goes.by (T' := s₁) (g' := (mkF m 162 #[SI y0, SI y1, SI y2, SI y3, SJ ba, S2, SJ ot, S2, SI 1, SI se, SJ si, S2, SJ sq, S2, SJ kq, S2, SD dv, S2, SD dm, S2, SD ds, S2, SU, SU, SU, SU, SU, SU, SU, SU, SU, SU] [])) (fun _ k => XS.goto X0.here hx rfl (pc0 := 108) (pc' := 162) rfl (hb hby at_108) (by decide) (by decide) k) ?_
    obtain ⟨T44, h44, X44, e44, E44, A44, D44, -, st44⟩ := newO X0 hx hZ hown (hw _ (List.mem_of_getElem? (i := 6) rfl)) (hw _ (List.mem_of_getElem? (i := 7) rfl)) (hw _ (List.mem_of_getElem? (i := 8) rfl)) e0 (g := (mkF m 162 #[SI y0, SI y1, SI y2, SI y3, SJ ba, S2, SJ ot, S2, SI 1, SI se, SJ si, S2, SJ sq, S2, SJ kq, S2, SD dv, S2, SD dm, S2, SD ds, S2, SU, SU, SU, SU, SU, SU, SU, SU, SU, SU] [])) rfl (hb hby at_162) (by decide) (by decide)
    obtain ⟨cn, g44⟩ : ∃ z, z = h0.size := ⟨_, rfl⟩
    rw [← g44] at A44 D44 st44
    have ge_cn : n0 ≤ cn := Nat.le_trans Z0 (Nat.le_of_eq g44.symm)
    have Z0 := Nat.le_trans Z0 E44.1
    have kS := Nat.le_trans kS E44.1
    have hCH := CHv.ext E44 hCH
    have E_cn := A44
    have F_link_cn : Fld Z h44 cn "com/example/gaugefit/gaugefit/core/Count" "link" "Ljava/lang/String;" .null := D44 (Or.inr (hw _ (List.mem_of_getElem? (i := 68) rfl))) (ty := (.object "java/lang/String")) (by decide)
    have F_interval_cn : Fld Z h44 cn "com/example/gaugefit/gaugefit/core/Count" "interval" "Lcom/example/gaugefit/gaugefit/core/Interval;" .null := D44 (Or.inr (hw _ (List.mem_of_getElem? (i := 70) rfl))) (ty := (.object "com/example/gaugefit/gaugefit/core/Interval")) (by decide)
    have F_value_cn : Fld Z h44 cn "com/example/gaugefit/gaugefit/core/Count" "value" "D" (.double (0 : UInt64)) := D44 (Or.inr (hw _ (List.mem_of_getElem? (i := 72) rfl))) (ty := .double) (by decide)
    have F_stddev_cn : Fld Z h44 cn "com/example/gaugefit/gaugefit/core/Count" "stddev" "Ljava/util/OptionalDouble;" .null := D44 (Or.inr (hw _ (List.mem_of_getElem? (i := 74) rfl))) (ty := (.object "java/util/OptionalDouble")) (by decide)
    refine Goes.by (T' := T44) (g' := (mkF m 165 #[SI y0, SI y1, SI y2, SI y3, SJ ba, S2, SJ ot, S2, SI 1, SI se, SJ si, S2, SJ sq, S2, SJ kq, S2, SD dv, S2, SD dm, S2, SD ds, S2, SU, SU, SU, SU, SU, SU, SU, SU, SU, SU] [(.ref cn)])) st44 ?_
    have SO := Sta.ext E44 SO
    refine Goes.by (T' := T44) (g' := (mkF m 166 #[SI y0, SI y1, SI y2, SI y3, SJ ba, S2, SJ ot, S2, SI 1, SI se, SJ si, S2, SJ sq, S2, SJ kq, S2, SD dv, S2, SD dm, S2, SD ds, S2, SU, SU, SU, SU, SU, SU, SU, SU, SU, SU] [(.ref cn), (.ref cn)])) (fun _ k => XS.dup X44.here hx rfl (hb hby at_165) rfl rfl k) ?_
    obtain ⟨st, T45, h45, kk45, b, kc, X45, e45, E45, hS, kN45, hZ, hown, ES, -, FV, AV, -, -, -, -, -, st45⟩ := ldcCH X44 hx hZ hown (hw _ (List.mem_of_getElem? (i := 9) rfl)) (own_wS hw) e44 hS kS (own_EW hw) (List.mem_singleton.mpr rfl) hCH (vs := [.int 76]) (z := 1) ⟨by decide, rfl⟩ (by decide) (by decide) (g := (mkF m 166 #[SI y0, SI y1, SI y2, SI y3, SJ ba, S2, SJ ot, S2, SI 1, SI se, SJ si, S2, SJ sq, S2, SJ kq, S2, SD dv, S2, SD dm, S2, SD ds, S2, SU, SU, SU, SU, SU, SU, SU, SU, SU, SU] [(.ref cn), (.ref cn)])) rfl (hb hby at_166) (n := 4) (by decide +kernel) (by decide) (by decide) (by decide)
    have E_cn := E_cn.ext E45
    have F_link_cn := F_link_cn.ext E45
    have F_interval_cn := F_interval_cn.ext E45
    have F_value_cn := F_value_cn.ext E45
    have F_stddev_cn := F_stddev_cn.ext E45
    have Z0 := Nat.le_trans Z0 E45.1
    have kS := Nat.le_trans kS E45.1
    have SO := Sta.ext E45 SO
    have kS := kN45
    have VB := own_arv AV
    refine Goes.by (T' := T45) (g' := (mkF m 168 #[SI y0, SI y1, SI y2, SI y3, SJ ba, S2, SJ ot, S2, SI 1, SI se, SJ si, S2, SJ sq, S2, SJ kq, S2, SD dv, S2, SD dm, S2, SD ds, S2, SU, SU, SU, SU, SU, SU, SU, SU, SU, SU] [(.ref st), (.ref cn), (.ref cn)])) st45 ?_
    refine Goes.by (T' := T45) (g' := (mkF m 169 #[SI y0, SI y1, SI y2, SI y3, SJ ba, S2, SJ ot, S2, SI 1, SI se, SJ si, S2, SJ sq, S2, SJ kq, S2, SD dv, S2, SD dm, S2, SD ds, S2, SU, SU, SU, SU, SU, SU, SU, SU, SU, SU] [(.double (0 : UInt64)), (.ref st), (.ref cn), (.ref cn)])) (fun _ k => XS.dconst0 X45.here hx rfl (hb hby at_168) rfl k) ?_
    refine Goes.by (T' := T45) (g' := (mkF m 170 #[SI y0, SI y1, SI y2, SI y3, SJ ba, S2, SJ ot, S2, SI 1, SI se, SJ si, S2, SJ sq, S2, SJ kq, S2, SD dv, S2, SD dm, S2, SD ds, S2, SU, SU, SU, SU, SU, SU, SU, SU, SU, SU] [(.double (4607182418800017408 : UInt64)), (.double (0 : UInt64)), (.ref st), (.ref cn), (.ref cn)])) (fun _ k => XS.dconst1 X45.here hx rfl (hb hby at_169) rfl k) ?_
    refine Goes.by (T' := T45) (g' := (mkF m 172 #[SI y0, SI y1, SI y2, SI y3, SJ ba, S2, SJ ot, S2, SI 1, SI se, SJ si, S2, SJ sq, S2, SJ kq, S2, SD dv, S2, SD dm, S2, SD ds, S2, SU, SU, SU, SU, SU, SU, SU, SU, SU, SU] [(.double dv), (.double (4607182418800017408 : UInt64)), (.double (0 : UInt64)), (.ref st), (.ref cn), (.ref cn)])) (fun _ k => XS.dload X45.here hx rfl (hb hby at_170) rfl k) ?_
    obtain ⟨v46, T46, L46, kk46, X46, hQ46, hS, kN46, hZ, hown, st46⟩ := callIS X45 hS kS hx hZ (y := (⟨"com/example/gaugefit/gaugefit/core/Count", "<init>", "(Ljava/lang/String;DDD)V"⟩ : MethodName)) rfl hown (hw _ (List.mem_of_getElem? (i := 17) rfl)) (hw _ (List.mem_of_getElem? (i := 18) rfl)) (hw _ (List.mem_of_getElem? (i := 19) rfl)) (hw _ (List.mem_of_getElem? (i := 8) rfl)) (by decide) e45 (a := cn) (argsL := [(.ref st), (.double (0 : UInt64)), (.double (4607182418800017408 : UInt64)), (.double dv)]) (rest := [(.ref cn)]) (W := 1) (rm_c4 l Z a0 hw cn st b oe 76 dv ba.toInt h45 n0 Z0 E_cn F_link_cn F_interval_cn F_value_cn F_stddev_cn ES FV VB SO ge_cn D_dv (by omega)) rfl (by decide) (by decide) (by decide) (by decide) (g := (mkF m 172 #[SI y0, SI y1, SI y2, SI y3, SJ ba, S2, SJ ot, S2, SI 1, SI se, SJ si, S2, SJ sq, S2, SJ kq, S2, SD dv, S2, SD dm, S2, SD ds, S2, SU, SU, SU, SU, SU, SU, SU, SU, SU, SU] [(.double dv), (.double (4607182418800017408 : UInt64)), (.double (0 : UInt64)), (.ref st), (.ref cn), (.ref cn)])) rfl (by rw [hml]; rfl) (lenOf pd8 rfl) rfl (by show 2 * 0 + _ ≤ _; exact Nat.le_of_eq rfl) (hb hby at_172)
    obtain ⟨rfl, -, FVV, K46, NL46⟩ := hQ46
    have N0 := Fr.app N0 NL46
    have e46 : T46.heap = T46.heap := rfl
    have E_cn := E_cn.keep K46
    have Z0 := Nat.le_trans Z0 K46.1
    have kS := Nat.le_trans kS K46.1
    have kS := kN46
    refine Goes.by (T' := T46) (g' := (mkF m 175 #[SI y0, SI y1, SI y2, SI y3, SJ ba, S2, SJ ot, S2, SI 1, SI se, SJ si, S2, SJ sq, S2, SJ kq, S2, SD dv, S2, SD dm, S2, SD ds, S2, SU, SU, SU, SU, SU, SU, SU, SU, SU, SU] [(.ref cn)])) st46 ?_
    refine Goes.by (T' := T46) (g' := (mkF m 177 #[SI y0, SI y1, SI y2, SI y3, SJ ba, S2, SJ ot, S2, SI 1, SI se, SJ si, S2, SJ sq, S2, SJ kq, S2, SD dv, S2, SD dm, S2, SD ds, S2, SA cn, SU, SU, SU, SU, SU, SU, SU, SU, SU] [])) (fun _ k => XS.astore X46.here hx rfl (hb hby at_175) rfl rfl (l' := #[SI y0, SI y1, SI y2, SI y3, SJ ba, S2, SJ ot, S2, SI 1, SI se, SJ si, S2, SJ sq, S2, SJ kq, S2, SD dv, S2, SD dm, S2, SD ds, S2, SA cn, SU, SU, SU, SU, SU, SU, SU, SU, SU]) rfl k) ?_
    obtain ⟨T47, h47, X47, e47, E47, A47, D47, -, st47⟩ := newO X46 hx hZ hown (hw _ (List.mem_of_getElem? (i := 75) rfl)) (hw _ (List.mem_of_getElem? (i := 76) rfl)) (hw _ (List.mem_of_getElem? (i := 77) rfl)) e46 (g := (mkF m 177 #[SI y0, SI y1, SI y2, SI y3, SJ ba, S2, SJ ot, S2, SI 1, SI se, SJ si, S2, SJ sq, S2, SJ kq, S2, SD dv, S2, SD dm, S2, SD ds, S2, SA cn, SU, SU, SU, SU, SU, SU, SU, SU, SU] [])) rfl (hb hby at_177) (by decide) (by decide)
    obtain ⟨of, g47⟩ : ∃ z, z = T46.heap.size := ⟨_, rfl⟩
    rw [← g47] at A47 D47 st47
    have ne_cn_of : cn ≠ of := fun q => Nat.lt_irrefl _ (Nat.lt_of_lt_of_eq E_cn.lt (g47.symm.trans q.symm))
    have ge_of : n0 ≤ of := Nat.le_trans Z0 (Nat.le_of_eq g47.symm)
    have E_cn := E_cn.ext E47
    have FVV := FVV.ext E47
    have Z0 := Nat.le_trans Z0 E47.1
    have kS := Nat.le_trans kS E47.1
    have E_of := A47
    have F_count_of : Fld Z h47 of "com/example/gaugefit/gaugefit/core/CountOffset" "count" "Lcom/example/gaugefit/gaugefit/core/Count;" .null := D47 (Or.inr (hw _ (List.mem_of_getElem? (i := 86) rfl))) (ty := (.object "com/example/gaugefit/gaugefit/core/Count")) (by decide)
    have F_simulated_of : Fld Z h47 of "com/example/gaugefit/gaugefit/core/CountOffset" "simulated" "D" (.double (0 : UInt64)) := D47 (Or.inr (hw _ (List.mem_of_getElem? (i := 88) rfl))) (ty := .double) (by decide)
    have F_stddev_of : Fld Z h47 of "com/example/gaugefit/gaugefit/core/CountOffset" "stddev" "D" (.double (0 : UInt64)) := D47 (Or.inr (hw _ (List.mem_of_getElem? (i := 93) rfl))) (ty := .double) (by decide)
    refine Goes.by (T' := T47) (g' := (mkF m 180 #[SI y0, SI y1, SI y2, SI y3, SJ ba, S2, SJ ot, S2, SI 1, SI se, SJ si, S2, SJ sq, S2, SJ kq, S2, SD dv, S2, SD dm, S2, SD ds, S2, SA cn, SU, SU, SU, SU, SU, SU, SU, SU, SU] [(.ref of)])) st47 ?_
    refine Goes.by (T' := T47) (g' := (mkF m 181 #[SI y0, SI y1, SI y2, SI y3, SJ ba, S2, SJ ot, S2, SI 1, SI se, SJ si, S2, SJ sq, S2, SJ kq, S2, SD dv, S2, SD dm, S2, SD ds, S2, SA cn, SU, SU, SU, SU, SU, SU, SU, SU, SU] [(.ref of), (.ref of)])) (fun _ k => XS.dup X47.here hx rfl (hb hby at_180) rfl rfl k) ?_
    refine Goes.by (T' := T47) (g' := (mkF m 183 #[SI y0, SI y1, SI y2, SI y3, SJ ba, S2, SJ ot, S2, SI 1, SI se, SJ si, S2, SJ sq, S2, SJ kq, S2, SD dv, S2, SD dm, S2, SD ds, S2, SA cn, SU, SU, SU, SU, SU, SU, SU, SU, SU] [(.ref cn), (.ref of), (.ref of)])) (fun _ k => XS.aload X47.here hx rfl (hb hby at_181) rfl rfl k) ?_
    refine Goes.by (T' := T47) (g' := (mkF m 185 #[SI y0, SI y1, SI y2, SI y3, SJ ba, S2, SJ ot, S2, SI 1, SI se, SJ si, S2, SJ sq, S2, SJ kq, S2, SD dv, S2, SD dm, S2, SD ds, S2, SA cn, SU, SU, SU, SU, SU, SU, SU, SU, SU] [(.double dm), (.ref cn), (.ref of), (.ref of)])) (fun _ k => XS.dload X47.here hx rfl (hb hby at_183) rfl k) ?_
    refine Goes.by (T' := T47) (g' := (mkF m 187 #[SI y0, SI y1, SI y2, SI y3, SJ ba, S2, SJ ot, S2, SI 1, SI se, SJ si, S2, SJ sq, S2, SJ kq, S2, SD dv, S2, SD dm, S2, SD ds, S2, SA cn, SU, SU, SU, SU, SU, SU, SU, SU, SU] [(.double ds), (.double dm), (.ref cn), (.ref of), (.ref of)])) (fun _ k => XS.dload X47.here hx rfl (hb hby at_185) rfl k) ?_
    obtain ⟨v48, T48, L48, kk48, X48, hQ48, hS, kN48, hZ, hown, st48⟩ := callIS X47 hS kS hx hZ (y := (⟨"com/example/gaugefit/gaugefit/core/CountOffset", "<init>", "(Lcom/example/gaugefit/gaugefit/core/Count;DD)V"⟩ : MethodName)) rfl hown (hw _ (List.mem_of_getElem? (i := 78) rfl)) (hw _ (List.mem_of_getElem? (i := 79) rfl)) (hw _ (List.mem_of_getElem? (i := 80) rfl)) (hw _ (List.mem_of_getElem? (i := 77) rfl)) (by decide) e47 (a := of) (argsL := [(.ref cn), (.double dm), (.double ds)]) (rest := [(.ref of)]) (W := 1) (rm_cof l Z a0 hw of cn dm ds va.toInt _ h47 n0 Z0 E_of F_count_of F_simulated_of F_stddev_of ge_of D_dm (by omega) (Zv.of_int D_ds) (own_sgn.1 (by omega))) rfl (by decide) (by decide) (by decide) (by decide) (g := (mkF m 187 #[SI y0, SI y1, SI y2, SI y3, SJ ba, S2, SJ ot, S2, SI 1, SI se, SJ si, S2, SJ sq, S2, SJ kq, S2, SD dv, S2, SD dm, S2, SD ds, S2, SA cn, SU, SU, SU, SU, SU, SU, SU, SU, SU] [(.double ds), (.double dm), (.ref cn), (.ref of), (.ref of)])) rfl (by rw [hml]; rfl) (lenOf pd9 rfl) rfl (by show 2 * 0 + _ ≤ _; exact Nat.le_of_eq rfl) (hb hby at_187)
    obtain ⟨rfl, -, G1, G2, G3, K48, NL48⟩ := hQ48
    have N0 := Fr.app N0 NL48
    have e48 : T48.heap = T48.heap := rfl
    have E_cn := E_cn.keep K48
    have FVV := FVV.keep K48 (ninS ne_cn_of nin0)
    have E_of := E_of.keep K48
    have Z0 := Nat.le_trans Z0 K48.1
    have kS := Nat.le_trans kS K48.1
    have kS := kN48
    refine Goes.by (T' := T48) (g' := (mkF m 190 #[SI y0, SI y1, SI y2, SI y3, SJ ba, S2, SJ ot, S2, SI 1, SI se, SJ si, S2, SJ sq, S2, SJ kq, S2, SD dv, S2, SD dm, S2, SD ds, S2, SA cn, SU, SU, SU, SU, SU, SU, SU, SU, SU] [(.ref of)])) st48 ?_
    obtain ⟨v49, T49, L49, X49, hQ49, st49⟩ := callV X48 hx hZ (y := (⟨"com/example/gaugefit/gaugefit/core/CountOffset", "getOffset", "()D"⟩ : MethodName)) hown (hw _ (List.mem_of_getElem? (i := 94) rfl)) (hw _ (List.mem_of_getElem? (i := 95) rfl)) (hw _ (List.mem_of_getElem? (i := 97) rfl)) (hw _ (List.mem_of_getElem? (i := 96) rfl)) (hw _ (List.mem_of_getElem? (i := 98) rfl)) (hw _ (List.mem_of_getElem? (i := 77) rfl)) (by decide) e48 E_of (argsL := []) (rest := []) (W := 0) (rm_go l Z a0 hw of cn dv dm ds r1 r2 r3 T48.heap n0 Z0 E_cn FVV G1 G2 G3 q1 q2 q3 nn1 nn2 nn3) rfl (by decide) (by decide) (by decide) (by decide) (g := (mkF m 190 #[SI y0, SI y1, SI y2, SI y3, SJ ba, S2, SJ ot, S2, SI 1, SI se, SJ si, S2, SJ sq, S2, SJ kq, S2, SD dv, S2, SD dm, S2, SD ds, S2, SA cn, SU, SU, SU, SU, SU, SU, SU, SU, SU] [(.ref of)])) rfl (by rw [hml]; rfl) (lenOf pd10 rfl) rfl (by show 2 * 0 + _ ≤ _; exact Nat.le_of_eq rfl) (hb hby at_190)
    obtain ⟨rfl, NL49, hk49⟩ := hQ49
    have N0 := Fr.app N0 NL49
    refine Goes.by (T' := T49) (g' := (mkF m 193 #[SI y0, SI y1, SI y2, SI y3, SJ ba, S2, SJ ot, S2, SI 1, SI se, SJ si, S2, SJ sq, S2, SJ kq, S2, SD dv, S2, SD dm, S2, SD ds, S2, SA cn, SU, SU, SU, SU, SU, SU, SU, SU, SU] [(.double r3)])) st49 ?_
    refine Goes.by (T' := T49) (g' := (mkF m 195 #[SI y0, SI y1, SI y2, SI y3, SJ ba, S2, SJ ot, S2, SI 1, SI se, SJ si, S2, SJ sq, S2, SJ kq, S2, SD dv, S2, SD dm, S2, SD ds, S2, SA cn, SD r3, S2, SU, SU, SU, SU, SU, SU, SU] [])) (fun _ k => XS.dstore X49.here hx rfl (hb hby at_193) rfl (l' := #[SI y0, SI y1, SI y2, SI y3, SJ ba, S2, SJ ot, S2, SI 1, SI se, SJ si, S2, SJ sq, S2, SJ kq, S2, SD dv, S2, SD dm, S2, SD ds, S2, SA cn, SD r3, S2, SU, SU, SU, SU, SU, SU, SU]) rfl k) ?_
    refine Goes.by (T' := T49) (g' := (mkF m 197 #[SI y0, SI y1, SI y2, SI y3, SJ ba, S2, SJ ot, S2, SI 1, SI se, SJ si, S2, SJ sq, S2, SJ kq, S2, SD dv, S2, SD dm, S2, SD ds, S2, SA cn, SD r3, S2, SU, SU, SU, SU, SU, SU, SU] [(.int (1 : Int32))])) (fun _ k => XS.iload X49.here hx rfl (hb hby at_195) rfl k) ?_
    refine Goes.by (T' := T49) (g' := (mkF m 215 #[SI y0, SI y1, SI y2, SI y3, SJ ba, S2, SJ ot, S2, SI 1, SI se, SJ si, S2, SJ sq, S2, SJ kq, S2, SD dv, S2, SD dm, S2, SD ds, S2, SA cn, SD r3, S2, SU, SU, SU, SU, SU, SU, SU] [])) (fun _ k => XS.ifYes X49.here hx rfl (pc0 := 197) (pc' := 215) rfl (hb hby at_197) rfl (by decide) (by decide) (by decide) k) ?_
    refine Goes.by (T' := T49) (g' := (mkF m 217 #[SI y0, SI y1, SI y2, SI y3, SJ ba, S2, SJ ot, S2, SI 1, SI se, SJ si, S2, SJ sq, S2, SJ kq, S2, SD dv, S2, SD dm, S2, SD ds, S2, SA cn, SD r3, S2, SU, SU, SU, SU, SU, SU, SU] [(.int (1 : Int32))])) (fun _ k => XS.iload X49.here hx rfl (hb hby at_215) rfl k) ?_
    refine Goes.by (T' := T49) (g' := (mkF m 218 #[SI y0, SI y1, SI y2, SI y3, SJ ba, S2, SJ ot, S2, SI 1, SI se, SJ si, S2, SJ sq, S2, SJ kq, S2, SD dv, S2, SD dm, S2, SD ds, S2, SA cn, SD r3, S2, SU, SU, SU, SU, SU, SU, SU] [(.int (1 : Int32)), (.int (1 : Int32))])) (fun _ k => XS.iconst X49.here hx rfl (hb hby at_217)  k) ?_
    refine Goes.by (T' := T49) (g' := (mkF m 221 #[SI y0, SI y1, SI y2, SI y3, SJ ba, S2, SJ ot, S2, SI 1, SI se, SJ si, S2, SJ sq, S2, SJ kq, S2, SD dv, S2, SD dm, S2, SD ds, S2, SA cn, SD r3, S2, SU, SU, SU, SU, SU, SU, SU] [])) (fun _ k => XS.icmpNo X49.here hx rfl (hb hby at_218) rfl (by decide) k) ?_
    refine Goes.by (T' := T49) (g' := (mkF m 223 #[SI y0, SI y1, SI y2, SI y3, SJ ba, S2, SJ ot, S2, SI 1, SI se, SJ si, S2, SJ sq, S2, SJ kq, S2, SD dv, S2, SD dm, S2, SD ds, S2, SA cn, SD r3, S2, SU, SU, SU, SU, SU, SU, SU] [(.double r3)])) (fun _ k => XS.dload X49.here hx rfl (hb hby at_221) rfl k) ?_
    refine Goes.by (T' := T49) (g' := (mkF m 225 #[SI y0, SI y1, SI y2, SI y3, SJ ba, S2, SJ ot, S2, SI 1, SI se, SJ si, S2, SJ sq, S2, SJ kq, S2, SD dv, S2, SD dm, S2, SD ds, S2, SA cn, SD r3, S2, SU, SU, SU, SU, SU, SU, SU] [(.long kq), (.double r3)])) (fun _ k => XS.lload X49.here hx rfl (hb hby at_223) rfl k) ?_
    obtain ⟨dk, q_dk⟩ : ∃ zz, FP.l2d kq = zz := ⟨_, rfl⟩
    refine Goes.by (T' := T49) (g' := (mkF m 226 #[SI y0, SI y1, SI y2, SI y3, SJ ba, S2, SJ ot, S2, SI 1, SI se, SJ si, S2, SJ sq, S2, SJ kq, S2, SD dv, S2, SD dm, S2, SD ds, S2, SA cn, SD r3, S2, SU, SU, SU, SU, SU, SU, SU] [(.double dk), (.double r3)])) (fun _ k => XS.l2dS X49.here hx rfl (hb hby at_225) rfl q_dk k) ?_
    have D_dk : Core.DInt kq.toInt dk := DInt_l2d q_dk (by omega)
    obtain ⟨dn, q_dn⟩ : ∃ zz, FP.dneg dk = zz := ⟨_, rfl⟩
    refine Goes.by (T' := T49) (g' := (mkF m 227 #[SI y0, SI y1, SI y2, SI y3, SJ ba, S2, SJ ot, S2, SI 1, SI se, SJ si, S2, SJ sq, S2, SJ kq, S2, SD dv, S2, SD dm, S2, SD ds, S2, SA cn, SD r3, S2, SU, SU, SU, SU, SU, SU, SU] [(.double dn), (.double r3)])) (fun _ k => XS.dnegS X49.here hx rfl (hb hby at_226) rfl q_dn k) ?_
    have D_dn := own_dnegI D_dk q_dn
    refine Goes.by (T' := T49) (g' := (mkF m 228 #[SI y0, SI y1, SI y2, SI y3, SJ ba, S2, SJ ot, S2, SI 1, SI se, SJ si, S2, SJ sq, S2, SJ kq, S2, SD dv, S2, SD dm, S2, SD ds, S2, SA cn, SD r3, S2, SU, SU, SU, SU, SU, SU, SU] [(.int (0 : Int32))])) (fun _ k => XS.dcmpS X49.here hx rfl (hb hby at_227) rfl (Z3.cmp_eq (Zv.of_int D_dn) rfl _) k) ?_
    refine Goes.by (T' := T49) (g' := (mkF m 231 #[SI y0, SI y1, SI y2, SI y3, SJ ba, S2, SJ ot, S2, SI 1, SI se, SJ si, S2, SJ sq, S2, SJ kq, S2, SD dv, S2, SD dm, S2, SD ds, S2, SA cn, SD r3, S2, SU, SU, SU, SU, SU, SU, SU] [])) (fun _ k => XS.ifNo X49.here hx rfl (hb hby at_228) rfl (by decide) k) ?_
    refine Goes.by (T' := T49) (g' := (mkF m 232 #[SI y0, SI y1, SI y2, SI y3, SJ ba, S2, SJ ot, S2, SI 1, SI se, SJ si, S2, SJ sq, S2, SJ kq, S2, SD dv, S2, SD dm, S2, SD ds, S2, SA cn, SD r3, S2, SU, SU, SU, SU, SU, SU, SU] [(.int (1 : Int32))])) (fun _ k => XS.iconst X49.here hx rfl (hb hby at_231)  k) ?_
    refine Goes.by (T' := T49) (g' := (mkF m 236 #[SI y0, SI y1, SI y2, SI y3, SJ ba, S2, SJ ot, S2, SI 1, SI se, SJ si, S2, SJ sq, S2, SJ kq, S2, SD dv, S2, SD dm, S2, SD ds, S2, SA cn, SD r3, S2, SU, SU, SU, SU, SU, SU, SU] [(.int (1 : Int32))])) (fun _ k => XS.goto X49.here hx rfl (pc0 := 232) (pc' := 236) rfl (hb hby at_232) (by decide) (by decide) k) ?_
    exact outZS X49 hS (by rw [hk49]; exact kS) hx hlk hret (hb hby at_236) (by exact ⟨rfl, N0⟩) (by decide) (by decide)
  · refine Goes.by (T' := s₁) (g' := (mkF m 81 #[SI y0, SI y1, SI y2, SI y3, SJ ba, S2, SJ ot, S2, SI 2, SI se, SJ si, S2, SJ sq, S2, SJ kq, S2, SU, SU, SU, SU, SU, SU, SU, SU, SU, SU, SU, SU, SU, SU, SU, SU] [])) (fun _ k => XS.ifYes X0.here hx rfl (pc0 := 54) (pc' := 81) rfl (hb hby at_54) rfl (by decide) (by decide) (by decide) k) ?_
    refine Goes.by (T' := s₁) (g' := (mkF m 83 #[SI y0, SI y1, SI y2, SI y3, SJ ba, S2, SJ ot, S2, SI 2, SI se, SJ si, S2, SJ sq, S2, SJ kq, S2, SU, SU, SU, SU, SU, SU, SU, SU, SU, SU, SU, SU, SU, SU, SU, SU] [(.int (2 : Int32))])) (fun _ k => XS.iload X0.here hx rfl (hb hby at_81) rfl k) ?_
    refine Goes.by (T' := s₁) (g' := (mkF m 84 #[SI y0, SI y1, SI y2, SI y3, SJ ba, S2, SJ ot, S2, SI 2, SI se, SJ si, S2, SJ sq, S2, SJ kq, S2, SU, SU, SU, SU, SU, SU, SU, SU, SU, SU, SU, SU, SU, SU, SU, SU] [(.int (1 : Int32)), (.int (2 : Int32))])) (fun _ k => XS.iconst X0.here hx rfl (hb hby at_83)  k) ?_
    refine Goes.by (T' := s₁) (g' := (mkF m 111 #[SI y0, SI y1, SI y2, SI y3, SJ ba, S2, SJ ot, S2, SI 2, SI se, SJ si, S2, SJ sq, S2, SJ kq, S2, SU, SU, SU, SU, SU, SU, SU, SU, SU, SU, SU, SU, SU, SU, SU, SU] [])) (fun _ k => XS.icmpYes X0.here hx rfl (pc0 := 84) (pc' := 111) rfl (hb hby at_84) rfl (by decide) (by decide) (by decide) k) ?_
    refine Goes.by (T' := s₁) (g' := (mkF m 113 #[SI y0, SI y1, SI y2, SI y3, SJ ba, S2, SJ ot, S2, SI 2, SI se, SJ si, S2, SJ sq, S2, SJ kq, S2, SU, SU, SU, SU, SU, SU, SU, SU, SU, SU, SU, SU, SU, SU, SU, SU] [(.int (2 : Int32))])) (fun _ k => XS.iload X0.here hx rfl (hb hby at_111) rfl k) ?_
    refine Goes.by (T' := s₁) (g' := (mkF m 114 #[SI y0, SI y1, SI y2, SI y3, SJ ba, S2, SJ ot, S2, SI 2, SI se, SJ si, S2, SJ sq, S2, SJ kq, S2, SU, SU, SU, SU, SU, SU, SU, SU, SU, SU, SU, SU, SU, SU, SU, SU] [(.int (2 : Int32)), (.int (2 : Int32))])) (fun _ k => XS.iconst X0.here hx rfl (hb hby at_113)  k) ?_
    refine Goes.by (T' := s₁) (g' := (mkF m 117 #[SI y0, SI y1, SI y2, SI y3, SJ ba, S2, SJ ot, S2, SI 2, SI se, SJ si, S2, SJ sq, S2, SJ kq, S2, SU, SU, SU, SU, SU, SU, SU, SU, SU, SU, SU, SU, SU, SU, SU, SU] [])) (fun _ k => XS.icmpNo X0.here hx rfl (hb hby at_114) rfl (by decide) k) ?_
    refine Goes.by (T' := s₁) (g' := (mkF m 119 #[SI y0, SI y1, SI y2, SI y3, SJ ba, S2, SJ ot, S2, SI 2, SI se, SJ si, S2, SJ sq, S2, SJ kq, S2, SU, SU, SU, SU, SU, SU, SU, SU, SU, SU, SU, SU, SU, SU, SU, SU] [(.int se)])) (fun _ k => XS.iload X0.here hx rfl (hb hby at_117) rfl k) ?_
    refine Goes.by (T' := s₁) (g' := (mkF m 121 #[SI y0, SI y1, SI y2, SI y3, SJ ba, S2, SJ ot, S2, SI 2, SI se, SJ si, S2, SJ sq, S2, SJ kq, S2, SU, SU, SU, SU, SU, SU, SU, SU, SU, SU, SU, SU, SU, SU, SU, SU] [(.int (15 : Int32)), (.int se)])) (fun _ k => XS.bipush X0.here hx rfl (hb hby at_119)  k) ?_
    refine Goes.by (T' := s₁) (g' := (mkF m 122 #[SI y0, SI y1, SI y2, SI y3, SJ ba, S2, SJ ot, S2, SI 2, SI se, SJ si, S2, SJ sq, S2, SJ kq, S2, SU, SU, SU, SU, SU, SU, SU, SU, SU, SU, SU, SU, SU, SU, SU, SU] [(.int (se &&& (15 : Int32)))])) (fun _ k => XS.iand X0.here hx rfl (hb hby at_121) rfl k) ?_
    refine Goes.by (T' := s₁) (g' := (mkF m 124 #[SI y0, SI y1, SI y2, SI y3, SJ ba, S2, SJ ot, S2, SI 2, SI se, SJ si, S2, SJ sq, S2, SJ kq, S2, SU, SU, SU, SU, SU, SU, SU, SU, SU, SU, SU, SU, SU, SU, SU, SU] [(.int (8 : Int32)), (.int (se &&& (15 : Int32)))])) (fun _ k => XS.bipush X0.here hx rfl (hb hby at_122)  k) ?_
    refine Goes.by (T' := s₁) (g' := (mkF m 125 #[SI y0, SI y1, SI y2, SI y3, SJ ba, S2, SJ ot, S2, SI 2, SI se, SJ si, S2, SJ sq, S2, SJ kq, S2, SU, SU, SU, SU, SU, SU, SU, SU, SU, SU, SU, SU, SU, SU, SU, SU] [(.int ((se &&& (15 : Int32)) - (8 : Int32)))])) (fun _ k => XS.isub X0.here hx rfl (hb hby at_124) rfl k) ?_
    obtain ⟨ex, q_ex⟩ : ∃ zz : Int32, zz = ((se &&& (15 : Int32)) - (8 : Int32)) := ⟨_, rfl⟩
    rw [← q_ex]
    obtain ⟨f, hxf, hf⟩ : ∃ f : Nat, ex.toInt = (f : Int) - 8 ∧ f < 16 := by
      have t := c_and se (15 : Int32) (by decide)
      have t2 := c_isub (se &&& (15 : Int32)) (8 : Int32)
      have t3 := rng32 ((se &&& (15 : Int32)) - (8 : Int32))
      rw [show (15 : Int32).toInt = 15 from by decide] at t
      rw [show (8 : Int32).toInt = 8 from by decide] at t2
      exact ⟨(se &&& (15 : Int32)).toInt.toNat, by rw [q_ex]; omega, by omega⟩
    refine Goes.by (T' := s₁) (g' := (mkF m 127 #[SI y0, SI y1, SI y2, SI y3, SJ ba, S2, SJ ot, S2, SI 2, SI se, SJ si, S2, SJ sq, S2, SJ kq, S2, SU, SU, SU, SU, SU, SU, SI ex, SU, SU, SU, SU, SU, SU, SU, SU, SU] [])) (fun _ k => XS.istore X0.here hx rfl (hb hby at_125) rfl (l' := #[SI y0, SI y1, SI y2, SI y3, SJ ba, S2, SJ ot, S2, SI 2, SI se, SJ si, S2, SJ sq, S2, SJ kq, S2, SU, SU, SU, SU, SU, SU, SI ex, SU, SU, SU, SU, SU, SU, SU, SU, SU]) rfl k) ?_
    refine Goes.by (T' := s₁) (g' := (mkF m 129 #[SI y0, SI y1, SI y2, SI y3, SJ ba, S2, SJ ot, S2, SI 2, SI se, SJ si, S2, SJ sq, S2, SJ kq, S2, SU, SU, SU, SU, SU, SU, SI ex, SU, SU, SU, SU, SU, SU, SU, SU, SU] [(.int ex)])) (fun _ k => XS.iload X0.here hx rfl (hb hby at_127) rfl k) ?_
    obtain ⟨v50, T50, L50, X50, hQ50, st50⟩ := callC X0 hx hZ (y := (⟨"com/example/gaugefit/gaugefit/core/CountOffsetGetOffsetPinLaw", "powerOfTwo", "(I)D"⟩ : MethodName)) hown (hw _ (List.mem_of_getElem? (i := 2) rfl)) (hw _ (List.mem_of_getElem? (i := 3) rfl)) (hw _ (List.mem_of_getElem? (i := 5) rfl)) (hw _ (List.mem_of_getElem? (i := 4) rfl)) (by decide) e0 (argsL := [(.int ex)]) (rest := []) (W := 0) (rm_pow l Z a0 hw ex f h0 n0 Z0 hxf hf) rfl (by decide) (by decide) (by decide) (by decide) (g := (mkF m 129 #[SI y0, SI y1, SI y2, SI y3, SJ ba, S2, SJ ot, S2, SI 2, SI se, SJ si, S2, SJ sq, S2, SJ kq, S2, SU, SU, SU, SU, SU, SU, SI ex, SU, SU, SU, SU, SU, SU, SU, SU, SU] [(.int ex)])) rfl (by rw [hml]; rfl) (lenOf pd12 rfl) rfl (by show 2 * 0 + _ ≤ _; exact Nat.le_of_eq rfl) (hb hby at_129)
    obtain ⟨ds, rfl, Zd, NL50, hk50⟩ := hQ50
    have N0 := Fr.app N0 NL50
    refine Goes.by (T' := T50) (g' := (mkF m 132 #[SI y0, SI y1, SI y2, SI y3, SJ ba, S2, SJ ot, S2, SI 2, SI se, SJ si, S2, SJ sq, S2, SJ kq, S2, SU, SU, SU, SU, SU, SU, SI ex, SU, SU, SU, SU, SU, SU, SU, SU, SU] [(.double ds)])) st50 ?_
    refine Goes.by (T' := T50) (g' := (mkF m 134 #[SI y0, SI y1, SI y2, SI y3, SJ ba, S2, SJ ot, S2, SI 2, SI se, SJ si, S2, SJ sq, S2, SJ kq, S2, SU, SU, SU, SU, SD ds, S2, SI ex, SU, SU, SU, SU, SU, SU, SU, SU, SU] [])) (fun _ k => XS.dstore X50.here hx rfl (hb hby at_132) rfl (l' := #[SI y0, SI y1, SI y2, SI y3, SJ ba, S2, SJ ot, S2, SI 2, SI se, SJ si, S2, SJ sq, S2, SJ kq, S2, SU, SU, SU, SU, SD ds, S2, SI ex, SU, SU, SU, SU, SU, SU, SU, SU, SU]) rfl k) ?_
    refine Goes.by (T' := T50) (g' := (mkF m 136 #[SI y0, SI y1, SI y2, SI y3, SJ ba, S2, SJ ot, S2, SI 2, SI se, SJ si, S2, SJ sq, S2, SJ kq, S2, SU, SU, SU, SU, SD ds, S2, SI ex, SU, SU, SU, SU, SU, SU, SU, SU, SU] [(.long ba)])) (fun _ k => XS.lload X50.here hx rfl (hb hby at_134) rfl k) ?_
    obtain ⟨dv, q_dv⟩ : ∃ zz, FP.l2d ba = zz := ⟨_, rfl⟩
    refine Goes.by (T' := T50) (g' := (mkF m 137 #[SI y0, SI y1, SI y2, SI y3, SJ ba, S2, SJ ot, S2, SI 2, SI se, SJ si, S2, SJ sq, S2, SJ kq, S2, SU, SU, SU, SU, SD ds, S2, SI ex, SU, SU, SU, SU, SU, SU, SU, SU, SU] [(.double dv)])) (fun _ k => XS.l2dS X50.here hx rfl (hb hby at_136) rfl q_dv k) ?_
    have D_dv : Core.DInt ba.toInt dv := DInt_l2d q_dv (by omega)
    refine Goes.by (T' := T50) (g' := (mkF m 139 #[SI y0, SI y1, SI y2, SI y3, SJ ba, S2, SJ ot, S2, SI 2, SI se, SJ si, S2, SJ sq, S2, SJ kq, S2, SD dv, S2, SU, SU, SD ds, S2, SI ex, SU, SU, SU, SU, SU, SU, SU, SU, SU] [])) (fun _ k => XS.dstore X50.here hx rfl (hb hby at_137) rfl (l' := #[SI y0, SI y1, SI y2, SI y3, SJ ba, S2, SJ ot, S2, SI 2, SI se, SJ si, S2, SJ sq, S2, SJ kq, S2, SD dv, S2, SU, SU, SD ds, S2, SI ex, SU, SU, SU, SU, SU, SU, SU, SU, SU]) rfl k) ?_
    refine Goes.by (T' := T50) (g' := (mkF m 141 #[SI y0, SI y1, SI y2, SI y3, SJ ba, S2, SJ ot, S2, SI 2, SI se, SJ si, S2, SJ sq, S2, SJ kq, S2, SD dv, S2, SU, SU, SD ds, S2, SI ex, SU, SU, SU, SU, SU, SU, SU, SU, SU] [(.long ot)])) (fun _ k => XS.lload X50.here hx rfl (hb hby at_139) rfl k) ?_
    obtain ⟨dm, q_dm⟩ : ∃ zz, FP.l2d ot = zz := ⟨_, rfl⟩
    refine Goes.by (T' := T50) (g' := (mkF m 142 #[SI y0, SI y1, SI y2, SI y3, SJ ba, S2, SJ ot, S2, SI 2, SI se, SJ si, S2, SJ sq, S2, SJ kq, S2, SD dv, S2, SU, SU, SD ds, S2, SI ex, SU, SU, SU, SU, SU, SU, SU, SU, SU] [(.double dm)])) (fun _ k => XS.l2dS X50.here hx rfl (hb hby at_141) rfl q_dm k) ?_
    have D_dm : Core.DInt ot.toInt dm := DInt_l2d q_dm (by omega)
    obtain ⟨r1, q1⟩ : ∃ z, FP.dsub dv dm = z := ⟨_, rfl⟩
    obtain ⟨r2, q2⟩ : ∃ z, FP.dmul ds ds = z := ⟨_, rfl⟩
    obtain ⟨r3, q3⟩ : ∃ z, FP.ddiv r1 r2 = z := ⟨_, rfl⟩
    have hdi : (ba - ot).toInt = ba.toInt - ot.toInt := own_lsub (by omega) (by omega)
    obtain ⟨di, hdq⟩ : ∃ z, z = ba - ot := ⟨_, rfl⟩
    rw [← hdq] at hdi
    have D1 : Core.DInt di.toInt r1 := by rw [hdi]; exact DInt_sub q1 D_dv D_dm (by omega)
    have nn1 := DInt_nn D1
    have Z2 := own_sq hf Zd q2
    have Z3 := own_off2 hf (by omega) D1 Z2 q3
    have nn2 := Z2.nn
    have nn3 := Z3.nn
    obtain ⟨m3, hm3⟩ : ∃ z, z = di.toInt * ((2 ^ (1090 - 2 * f) : Nat) : Int) := ⟨_, rfl⟩
    have sg3 := own_sgn (i := di.toInt) (n := 1090 - 2 * f)
    have Z3m := Z3
    rw [← hm3] at sg3 Z3m
    refine Goes.by (T' := T50) (g' := (mkF m 144 #[SI y0, SI y1, SI y2, SI y3, SJ ba, S2, SJ ot, S2, SI 2, SI se, SJ si, S2, SJ sq, S2, SJ kq, S2, SD dv, S2, SD dm, S2, SD ds, S2, SI ex, SU, SU, SU, SU, SU, SU, SU, SU, SU] [])) (fun _ k => XS.dstore X50.here hx rfl (hb hby at_142) rfl (l' := #[SI y0, SI y1, SI y2, SI y3, SJ ba, S2, SJ ot, S2, SI 2, SI se, SJ si, S2, SJ sq, S2, SJ kq, S2, SD dv, S2, SD dm, S2, SD ds, S2, SI ex, SU, SU, SU, SU, SU, SU, SU, SU, SU]) rfl k) ?_
    refine Goes.by (T' := T50) (g' := (mkF m 162 #[SI y0, SI y1, SI y2, SI y3, SJ ba, S2, SJ ot, S2, SI 2, SI se, SJ si, S2, SJ sq, S2, SJ kq, S2, SD dv, S2, SD dm, S2, SD ds, S2, SI ex, SU, SU, SU, SU, SU, SU, SU, SU, SU] [])) (fun _ k => XS.goto X50.here hx rfl (pc0 := 144) (pc' := 162) rfl (hb hby at_144) (by decide) (by decide) k) ?_
    obtain ⟨T51, h51, X51, e51, E51, A51, D51, -, st51⟩ := newO X50 hx hZ hown (hw _ (List.mem_of_getElem? (i := 6) rfl)) (hw _ (List.mem_of_getElem? (i := 7) rfl)) (hw _ (List.mem_of_getElem? (i := 8) rfl)) hk50 (g := (mkF m 162 #[SI y0, SI y1, SI y2, SI y3, SJ ba, S2, SJ ot, S2, SI 2, SI se, SJ si, S2, SJ sq, S2, SJ kq, S2, SD dv, S2, SD dm, S2, SD ds, S2, SI ex, SU, SU, SU, SU, SU, SU, SU, SU, SU] [])) rfl (hb hby at_162) (by decide) (by decide)
    obtain ⟨cn, g51⟩ : ∃ z, z = h0.size := ⟨_, rfl⟩
    rw [← g51] at A51 D51 st51
    have ge_cn : n0 ≤ cn := Nat.le_trans Z0 (Nat.le_of_eq g51.symm)
    have Z0 := Nat.le_trans Z0 E51.1
    have kS := Nat.le_trans kS E51.1
    have hCH := CHv.ext E51 hCH
    have E_cn := A51
    have F_link_cn : Fld Z h51 cn "com/example/gaugefit/gaugefit/core/Count" "link" "Ljava/lang/String;" .null := D51 (Or.inr (hw _ (List.mem_of_getElem? (i := 68) rfl))) (ty := (.object "java/lang/String")) (by decide)
    have F_interval_cn : Fld Z h51 cn "com/example/gaugefit/gaugefit/core/Count" "interval" "Lcom/example/gaugefit/gaugefit/core/Interval;" .null := D51 (Or.inr (hw _ (List.mem_of_getElem? (i := 70) rfl))) (ty := (.object "com/example/gaugefit/gaugefit/core/Interval")) (by decide)
    have F_value_cn : Fld Z h51 cn "com/example/gaugefit/gaugefit/core/Count" "value" "D" (.double (0 : UInt64)) := D51 (Or.inr (hw _ (List.mem_of_getElem? (i := 72) rfl))) (ty := .double) (by decide)
    have F_stddev_cn : Fld Z h51 cn "com/example/gaugefit/gaugefit/core/Count" "stddev" "Ljava/util/OptionalDouble;" .null := D51 (Or.inr (hw _ (List.mem_of_getElem? (i := 74) rfl))) (ty := (.object "java/util/OptionalDouble")) (by decide)
    refine Goes.by (T' := T51) (g' := (mkF m 165 #[SI y0, SI y1, SI y2, SI y3, SJ ba, S2, SJ ot, S2, SI 2, SI se, SJ si, S2, SJ sq, S2, SJ kq, S2, SD dv, S2, SD dm, S2, SD ds, S2, SI ex, SU, SU, SU, SU, SU, SU, SU, SU, SU] [(.ref cn)])) st51 ?_
    have SO := Sta.ext E51 SO
    refine Goes.by (T' := T51) (g' := (mkF m 166 #[SI y0, SI y1, SI y2, SI y3, SJ ba, S2, SJ ot, S2, SI 2, SI se, SJ si, S2, SJ sq, S2, SJ kq, S2, SD dv, S2, SD dm, S2, SD ds, S2, SI ex, SU, SU, SU, SU, SU, SU, SU, SU, SU] [(.ref cn), (.ref cn)])) (fun _ k => XS.dup X51.here hx rfl (hb hby at_165) rfl rfl k) ?_
    obtain ⟨st, T52, h52, kk52, b, kc, X52, e52, E52, hS, kN52, hZ, hown, ES, -, FV, AV, -, -, -, -, -, st52⟩ := ldcCH X51 hx hZ hown (hw _ (List.mem_of_getElem? (i := 9) rfl)) (own_wS hw) e51 hS kS (own_EW hw) (List.mem_singleton.mpr rfl) hCH (vs := [.int 76]) (z := 1) ⟨by decide, rfl⟩ (by decide) (by decide) (g := (mkF m 166 #[SI y0, SI y1, SI y2, SI y3, SJ ba, S2, SJ ot, S2, SI 2, SI se, SJ si, S2, SJ sq, S2, SJ kq, S2, SD dv, S2, SD dm, S2, SD ds, S2, SI ex, SU, SU, SU, SU, SU, SU, SU, SU, SU] [(.ref cn), (.ref cn)])) rfl (hb hby at_166) (n := 4) (by decide +kernel) (by decide) (by decide) (by decide)
    have E_cn := E_cn.ext E52
    have F_link_cn := F_link_cn.ext E52
    have F_interval_cn := F_interval_cn.ext E52
    have F_value_cn := F_value_cn.ext E52
    have F_stddev_cn := F_stddev_cn.ext E52
    have Z0 := Nat.le_trans Z0 E52.1
    have kS := Nat.le_trans kS E52.1
    have SO := Sta.ext E52 SO
    have kS := kN52
    have VB := own_arv AV
    refine Goes.by (T' := T52) (g' := (mkF m 168 #[SI y0, SI y1, SI y2, SI y3, SJ ba, S2, SJ ot, S2, SI 2, SI se, SJ si, S2, SJ sq, S2, SJ kq, S2, SD dv, S2, SD dm, S2, SD ds, S2, SI ex, SU, SU, SU, SU, SU, SU, SU, SU, SU] [(.ref st), (.ref cn), (.ref cn)])) st52 ?_
    refine Goes.by (T' := T52) (g' := (mkF m 169 #[SI y0, SI y1, SI y2, SI y3, SJ ba, S2, SJ ot, S2, SI 2, SI se, SJ si, S2, SJ sq, S2, SJ kq, S2, SD dv, S2, SD dm, S2, SD ds, S2, SI ex, SU, SU, SU, SU, SU, SU, SU, SU, SU] [(.double (0 : UInt64)), (.ref st), (.ref cn), (.ref cn)])) (fun _ k => XS.dconst0 X52.here hx rfl (hb hby at_168) rfl k) ?_
    refine Goes.by (T' := T52) (g' := (mkF m 170 #[SI y0, SI y1, SI y2, SI y3, SJ ba, S2, SJ ot, S2, SI 2, SI se, SJ si, S2, SJ sq, S2, SJ kq, S2, SD dv, S2, SD dm, S2, SD ds, S2, SI ex, SU, SU, SU, SU, SU, SU, SU, SU, SU] [(.double (4607182418800017408 : UInt64)), (.double (0 : UInt64)), (.ref st), (.ref cn), (.ref cn)])) (fun _ k => XS.dconst1 X52.here hx rfl (hb hby at_169) rfl k) ?_
    refine Goes.by (T' := T52) (g' := (mkF m 172 #[SI y0, SI y1, SI y2, SI y3, SJ ba, S2, SJ ot, S2, SI 2, SI se, SJ si, S2, SJ sq, S2, SJ kq, S2, SD dv, S2, SD dm, S2, SD ds, S2, SI ex, SU, SU, SU, SU, SU, SU, SU, SU, SU] [(.double dv), (.double (4607182418800017408 : UInt64)), (.double (0 : UInt64)), (.ref st), (.ref cn), (.ref cn)])) (fun _ k => XS.dload X52.here hx rfl (hb hby at_170) rfl k) ?_
    obtain ⟨v53, T53, L53, kk53, X53, hQ53, hS, kN53, hZ, hown, st53⟩ := callIS X52 hS kS hx hZ (y := (⟨"com/example/gaugefit/gaugefit/core/Count", "<init>", "(Ljava/lang/String;DDD)V"⟩ : MethodName)) rfl hown (hw _ (List.mem_of_getElem? (i := 17) rfl)) (hw _ (List.mem_of_getElem? (i := 18) rfl)) (hw _ (List.mem_of_getElem? (i := 19) rfl)) (hw _ (List.mem_of_getElem? (i := 8) rfl)) (by decide) e52 (a := cn) (argsL := [(.ref st), (.double (0 : UInt64)), (.double (4607182418800017408 : UInt64)), (.double dv)]) (rest := [(.ref cn)]) (W := 1) (rm_c4 l Z a0 hw cn st b oe 76 dv ba.toInt h52 n0 Z0 E_cn F_link_cn F_interval_cn F_value_cn F_stddev_cn ES FV VB SO ge_cn D_dv (by omega)) rfl (by decide) (by decide) (by decide) (by decide) (g := (mkF m 172 #[SI y0, SI y1, SI y2, SI y3, SJ ba, S2, SJ ot, S2, SI 2, SI se, SJ si, S2, SJ sq, S2, SJ kq, S2, SD dv, S2, SD dm, S2, SD ds, S2, SI ex, SU, SU, SU, SU, SU, SU, SU, SU, SU] [(.double dv), (.double (4607182418800017408 : UInt64)), (.double (0 : UInt64)), (.ref st), (.ref cn), (.ref cn)])) rfl (by rw [hml]; rfl) (lenOf pd8 rfl) rfl (by show 2 * 0 + _ ≤ _; exact Nat.le_of_eq rfl) (hb hby at_172)
    obtain ⟨rfl, -, FVV, K53, NL53⟩ := hQ53
    have N0 := Fr.app N0 NL53
    have e53 : T53.heap = T53.heap := rfl
    have E_cn := E_cn.keep K53
    have Z0 := Nat.le_trans Z0 K53.1
    have kS := Nat.le_trans kS K53.1
    have kS := kN53
    refine Goes.by (T' := T53) (g' := (mkF m 175 #[SI y0, SI y1, SI y2, SI y3, SJ ba, S2, SJ ot, S2, SI 2, SI se, SJ si, S2, SJ sq, S2, SJ kq, S2, SD dv, S2, SD dm, S2, SD ds, S2, SI ex, SU, SU, SU, SU, SU, SU, SU, SU, SU] [(.ref cn)])) st53 ?_
    refine Goes.by (T' := T53) (g' := (mkF m 177 #[SI y0, SI y1, SI y2, SI y3, SJ ba, S2, SJ ot, S2, SI 2, SI se, SJ si, S2, SJ sq, S2, SJ kq, S2, SD dv, S2, SD dm, S2, SD ds, S2, SA cn, SU, SU, SU, SU, SU, SU, SU, SU, SU] [])) (fun _ k => XS.astore X53.here hx rfl (hb hby at_175) rfl rfl (l' := #[SI y0, SI y1, SI y2, SI y3, SJ ba, S2, SJ ot, S2, SI 2, SI se, SJ si, S2, SJ sq, S2, SJ kq, S2, SD dv, S2, SD dm, S2, SD ds, S2, SA cn, SU, SU, SU, SU, SU, SU, SU, SU, SU]) rfl k) ?_
    obtain ⟨T54, h54, X54, e54, E54, A54, D54, -, st54⟩ := newO X53 hx hZ hown (hw _ (List.mem_of_getElem? (i := 75) rfl)) (hw _ (List.mem_of_getElem? (i := 76) rfl)) (hw _ (List.mem_of_getElem? (i := 77) rfl)) e53 (g := (mkF m 177 #[SI y0, SI y1, SI y2, SI y3, SJ ba, S2, SJ ot, S2, SI 2, SI se, SJ si, S2, SJ sq, S2, SJ kq, S2, SD dv, S2, SD dm, S2, SD ds, S2, SA cn, SU, SU, SU, SU, SU, SU, SU, SU, SU] [])) rfl (hb hby at_177) (by decide) (by decide)
    obtain ⟨of, g54⟩ : ∃ z, z = T53.heap.size := ⟨_, rfl⟩
    rw [← g54] at A54 D54 st54
    have ne_cn_of : cn ≠ of := fun q => Nat.lt_irrefl _ (Nat.lt_of_lt_of_eq E_cn.lt (g54.symm.trans q.symm))
    have ge_of : n0 ≤ of := Nat.le_trans Z0 (Nat.le_of_eq g54.symm)
    have E_cn := E_cn.ext E54
    have FVV := FVV.ext E54
    have Z0 := Nat.le_trans Z0 E54.1
    have kS := Nat.le_trans kS E54.1
    have E_of := A54
    have F_count_of : Fld Z h54 of "com/example/gaugefit/gaugefit/core/CountOffset" "count" "Lcom/example/gaugefit/gaugefit/core/Count;" .null := D54 (Or.inr (hw _ (List.mem_of_getElem? (i := 86) rfl))) (ty := (.object "com/example/gaugefit/gaugefit/core/Count")) (by decide)
    have F_simulated_of : Fld Z h54 of "com/example/gaugefit/gaugefit/core/CountOffset" "simulated" "D" (.double (0 : UInt64)) := D54 (Or.inr (hw _ (List.mem_of_getElem? (i := 88) rfl))) (ty := .double) (by decide)
    have F_stddev_of : Fld Z h54 of "com/example/gaugefit/gaugefit/core/CountOffset" "stddev" "D" (.double (0 : UInt64)) := D54 (Or.inr (hw _ (List.mem_of_getElem? (i := 93) rfl))) (ty := .double) (by decide)
    refine Goes.by (T' := T54) (g' := (mkF m 180 #[SI y0, SI y1, SI y2, SI y3, SJ ba, S2, SJ ot, S2, SI 2, SI se, SJ si, S2, SJ sq, S2, SJ kq, S2, SD dv, S2, SD dm, S2, SD ds, S2, SA cn, SU, SU, SU, SU, SU, SU, SU, SU, SU] [(.ref of)])) st54 ?_
    refine Goes.by (T' := T54) (g' := (mkF m 181 #[SI y0, SI y1, SI y2, SI y3, SJ ba, S2, SJ ot, S2, SI 2, SI se, SJ si, S2, SJ sq, S2, SJ kq, S2, SD dv, S2, SD dm, S2, SD ds, S2, SA cn, SU, SU, SU, SU, SU, SU, SU, SU, SU] [(.ref of), (.ref of)])) (fun _ k => XS.dup X54.here hx rfl (hb hby at_180) rfl rfl k) ?_
    refine Goes.by (T' := T54) (g' := (mkF m 183 #[SI y0, SI y1, SI y2, SI y3, SJ ba, S2, SJ ot, S2, SI 2, SI se, SJ si, S2, SJ sq, S2, SJ kq, S2, SD dv, S2, SD dm, S2, SD ds, S2, SA cn, SU, SU, SU, SU, SU, SU, SU, SU, SU] [(.ref cn), (.ref of), (.ref of)])) (fun _ k => XS.aload X54.here hx rfl (hb hby at_181) rfl rfl k) ?_
    refine Goes.by (T' := T54) (g' := (mkF m 185 #[SI y0, SI y1, SI y2, SI y3, SJ ba, S2, SJ ot, S2, SI 2, SI se, SJ si, S2, SJ sq, S2, SJ kq, S2, SD dv, S2, SD dm, S2, SD ds, S2, SA cn, SU, SU, SU, SU, SU, SU, SU, SU, SU] [(.double dm), (.ref cn), (.ref of), (.ref of)])) (fun _ k => XS.dload X54.here hx rfl (hb hby at_183) rfl k) ?_
    refine Goes.by (T' := T54) (g' := (mkF m 187 #[SI y0, SI y1, SI y2, SI y3, SJ ba, S2, SJ ot, S2, SI 2, SI se, SJ si, S2, SJ sq, S2, SJ kq, S2, SD dv, S2, SD dm, S2, SD ds, S2, SA cn, SU, SU, SU, SU, SU, SU, SU, SU, SU] [(.double ds), (.double dm), (.ref cn), (.ref of), (.ref of)])) (fun _ k => XS.dload X54.here hx rfl (hb hby at_185) rfl k) ?_
    obtain ⟨v55, T55, L55, kk55, X55, hQ55, hS, kN55, hZ, hown, st55⟩ := callIS X54 hS kS hx hZ (y := (⟨"com/example/gaugefit/gaugefit/core/CountOffset", "<init>", "(Lcom/example/gaugefit/gaugefit/core/Count;DD)V"⟩ : MethodName)) rfl hown (hw _ (List.mem_of_getElem? (i := 78) rfl)) (hw _ (List.mem_of_getElem? (i := 79) rfl)) (hw _ (List.mem_of_getElem? (i := 80) rfl)) (hw _ (List.mem_of_getElem? (i := 77) rfl)) (by decide) e54 (a := of) (argsL := [(.ref cn), (.double dm), (.double ds)]) (rest := [(.ref of)]) (W := 1) (rm_cof l Z a0 hw of cn dm ds ot.toInt _ h54 n0 Z0 E_of F_count_of F_simulated_of F_stddev_of ge_of D_dm (by omega) Zd (by have := Nat.two_pow_pos (1066 + f); omega)) rfl (by decide) (by decide) (by decide) (by decide) (g := (mkF m 187 #[SI y0, SI y1, SI y2, SI y3, SJ ba, S2, SJ ot, S2, SI 2, SI se, SJ si, S2, SJ sq, S2, SJ kq, S2, SD dv, S2, SD dm, S2, SD ds, S2, SA cn, SU, SU, SU, SU, SU, SU, SU, SU, SU] [(.double ds), (.double dm), (.ref cn), (.ref of), (.ref of)])) rfl (by rw [hml]; rfl) (lenOf pd9 rfl) rfl (by show 2 * 0 + _ ≤ _; exact Nat.le_of_eq rfl) (hb hby at_187)
    obtain ⟨rfl, -, G1, G2, G3, K55, NL55⟩ := hQ55
    have N0 := Fr.app N0 NL55
    have e55 : T55.heap = T55.heap := rfl
    have E_cn := E_cn.keep K55
    have FVV := FVV.keep K55 (ninS ne_cn_of nin0)
    have E_of := E_of.keep K55
    have Z0 := Nat.le_trans Z0 K55.1
    have kS := Nat.le_trans kS K55.1
    have kS := kN55
    refine Goes.by (T' := T55) (g' := (mkF m 190 #[SI y0, SI y1, SI y2, SI y3, SJ ba, S2, SJ ot, S2, SI 2, SI se, SJ si, S2, SJ sq, S2, SJ kq, S2, SD dv, S2, SD dm, S2, SD ds, S2, SA cn, SU, SU, SU, SU, SU, SU, SU, SU, SU] [(.ref of)])) st55 ?_
    obtain ⟨v56, T56, L56, X56, hQ56, st56⟩ := callV X55 hx hZ (y := (⟨"com/example/gaugefit/gaugefit/core/CountOffset", "getOffset", "()D"⟩ : MethodName)) hown (hw _ (List.mem_of_getElem? (i := 94) rfl)) (hw _ (List.mem_of_getElem? (i := 95) rfl)) (hw _ (List.mem_of_getElem? (i := 97) rfl)) (hw _ (List.mem_of_getElem? (i := 96) rfl)) (hw _ (List.mem_of_getElem? (i := 98) rfl)) (hw _ (List.mem_of_getElem? (i := 77) rfl)) (by decide) e55 E_of (argsL := []) (rest := []) (W := 0) (rm_go l Z a0 hw of cn dv dm ds r1 r2 r3 T55.heap n0 Z0 E_cn FVV G1 G2 G3 q1 q2 q3 nn1 nn2 nn3) rfl (by decide) (by decide) (by decide) (by decide) (g := (mkF m 190 #[SI y0, SI y1, SI y2, SI y3, SJ ba, S2, SJ ot, S2, SI 2, SI se, SJ si, S2, SJ sq, S2, SJ kq, S2, SD dv, S2, SD dm, S2, SD ds, S2, SA cn, SU, SU, SU, SU, SU, SU, SU, SU, SU] [(.ref of)])) rfl (by rw [hml]; rfl) (lenOf pd10 rfl) rfl (by show 2 * 0 + _ ≤ _; exact Nat.le_of_eq rfl) (hb hby at_190)
    obtain ⟨rfl, NL56, hk56⟩ := hQ56
    have N0 := Fr.app N0 NL56
    refine Goes.by (T' := T56) (g' := (mkF m 193 #[SI y0, SI y1, SI y2, SI y3, SJ ba, S2, SJ ot, S2, SI 2, SI se, SJ si, S2, SJ sq, S2, SJ kq, S2, SD dv, S2, SD dm, S2, SD ds, S2, SA cn, SU, SU, SU, SU, SU, SU, SU, SU, SU] [(.double r3)])) st56 ?_
    refine Goes.by (T' := T56) (g' := (mkF m 195 #[SI y0, SI y1, SI y2, SI y3, SJ ba, S2, SJ ot, S2, SI 2, SI se, SJ si, S2, SJ sq, S2, SJ kq, S2, SD dv, S2, SD dm, S2, SD ds, S2, SA cn, SD r3, S2, SU, SU, SU, SU, SU, SU, SU] [])) (fun _ k => XS.dstore X56.here hx rfl (hb hby at_193) rfl (l' := #[SI y0, SI y1, SI y2, SI y3, SJ ba, S2, SJ ot, S2, SI 2, SI se, SJ si, S2, SJ sq, S2, SJ kq, S2, SD dv, S2, SD dm, S2, SD ds, S2, SA cn, SD r3, S2, SU, SU, SU, SU, SU, SU, SU]) rfl k) ?_
    refine Goes.by (T' := T56) (g' := (mkF m 197 #[SI y0, SI y1, SI y2, SI y3, SJ ba, S2, SJ ot, S2, SI 2, SI se, SJ si, S2, SJ sq, S2, SJ kq, S2, SD dv, S2, SD dm, S2, SD ds, S2, SA cn, SD r3, S2, SU, SU, SU, SU, SU, SU, SU] [(.int (2 : Int32))])) (fun _ k => XS.iload X56.here hx rfl (hb hby at_195) rfl k) ?_
    refine Goes.by (T' := T56) (g' := (mkF m 215 #[SI y0, SI y1, SI y2, SI y3, SJ ba, S2, SJ ot, S2, SI 2, SI se, SJ si, S2, SJ sq, S2, SJ kq, S2, SD dv, S2, SD dm, S2, SD ds, S2, SA cn, SD r3, S2, SU, SU, SU, SU, SU, SU, SU] [])) (fun _ k => XS.ifYes X56.here hx rfl (pc0 := 197) (pc' := 215) rfl (hb hby at_197) rfl (by decide) (by decide) (by decide) k) ?_
    refine Goes.by (T' := T56) (g' := (mkF m 217 #[SI y0, SI y1, SI y2, SI y3, SJ ba, S2, SJ ot, S2, SI 2, SI se, SJ si, S2, SJ sq, S2, SJ kq, S2, SD dv, S2, SD dm, S2, SD ds, S2, SA cn, SD r3, S2, SU, SU, SU, SU, SU, SU, SU] [(.int (2 : Int32))])) (fun _ k => XS.iload X56.here hx rfl (hb hby at_215) rfl k) ?_
    refine Goes.by (T' := T56) (g' := (mkF m 218 #[SI y0, SI y1, SI y2, SI y3, SJ ba, S2, SJ ot, S2, SI 2, SI se, SJ si, S2, SJ sq, S2, SJ kq, S2, SD dv, S2, SD dm, S2, SD ds, S2, SA cn, SD r3, S2, SU, SU, SU, SU, SU, SU, SU] [(.int (1 : Int32)), (.int (2 : Int32))])) (fun _ k => XS.iconst X56.here hx rfl (hb hby at_217)  k) ?_
    refine Goes.by (T' := T56) (g' := (mkF m 237 #[SI y0, SI y1, SI y2, SI y3, SJ ba, S2, SJ ot, S2, SI 2, SI se, SJ si, S2, SJ sq, S2, SJ kq, S2, SD dv, S2, SD dm, S2, SD ds, S2, SA cn, SD r3, S2, SU, SU, SU, SU, SU, SU, SU] [])) (fun _ k => XS.icmpYes X56.here hx rfl (pc0 := 218) (pc' := 237) rfl (hb hby at_218) rfl (by decide) (by decide) (by decide) k) ?_
    refine Goes.by (T' := T56) (g' := (mkF m 239 #[SI y0, SI y1, SI y2, SI y3, SJ ba, S2, SJ ot, S2, SI 2, SI se, SJ si, S2, SJ sq, S2, SJ kq, S2, SD dv, S2, SD dm, S2, SD ds, S2, SA cn, SD r3, S2, SU, SU, SU, SU, SU, SU, SU] [(.long ba)])) (fun _ k => XS.lload X56.here hx rfl (hb hby at_237) rfl k) ?_
    refine Goes.by (T' := T56) (g' := (mkF m 241 #[SI y0, SI y1, SI y2, SI y3, SJ ba, S2, SJ ot, S2, SI 2, SI se, SJ si, S2, SJ sq, S2, SJ kq, S2, SD dv, S2, SD dm, S2, SD ds, S2, SA cn, SD r3, S2, SU, SU, SU, SU, SU, SU, SU] [(.long ot), (.long ba)])) (fun _ k => XS.lload X56.here hx rfl (hb hby at_239) rfl k) ?_
    refine Goes.by (T' := T56) (g' := (mkF m 242 #[SI y0, SI y1, SI y2, SI y3, SJ ba, S2, SJ ot, S2, SI 2, SI se, SJ si, S2, SJ sq, S2, SJ kq, S2, SD dv, S2, SD dm, S2, SD ds, S2, SA cn, SD r3, S2, SU, SU, SU, SU, SU, SU, SU] [(.long (ba - ot))])) (fun _ k => XS.lsub X56.here hx rfl (hb hby at_241) rfl k) ?_
    rw [← hdq]
    refine Goes.by (T' := T56) (g' := (mkF m 244 #[SI y0, SI y1, SI y2, SI y3, SJ ba, S2, SJ ot, S2, SI 2, SI se, SJ si, S2, SJ sq, S2, SJ kq, S2, SD dv, S2, SD dm, S2, SD ds, S2, SA cn, SD r3, S2, SJ di, S2, SU, SU, SU, SU, SU] [])) (fun _ k => XS.lstore X56.here hx rfl (hb hby at_242) rfl (l' := #[SI y0, SI y1, SI y2, SI y3, SJ ba, S2, SJ ot, S2, SI 2, SI se, SJ si, S2, SJ sq, S2, SJ kq, S2, SD dv, S2, SD dm, S2, SD ds, S2, SA cn, SD r3, S2, SJ di, S2, SU, SU, SU, SU, SU]) rfl k) ?_
    refine Goes.by (T' := T56) (g' := (mkF m 246 #[SI y0, SI y1, SI y2, SI y3, SJ ba, S2, SJ ot, S2, SI 2, SI se, SJ si, S2, SJ sq, S2, SJ kq, S2, SD dv, S2, SD dm, S2, SD ds, S2, SA cn, SD r3, S2, SJ di, S2, SU, SU, SU, SU, SU] [(.long di)])) (fun _ k => XS.lload X56.here hx rfl (hb hby at_244) rfl k) ?_
    refine Goes.by (T' := T56) (g' := (mkF m 247 #[SI y0, SI y1, SI y2, SI y3, SJ ba, S2, SJ ot, S2, SI 2, SI se, SJ si, S2, SJ sq, S2, SJ kq, S2, SD dv, S2, SD dm, S2, SD ds, S2, SA cn, SD r3, S2, SJ di, S2, SU, SU, SU, SU, SU] [(.long (0 : Int64)), (.long di)])) (fun _ k => XS.lconst X56.here hx rfl (hb hby at_246)  k) ?_
    rcases (by omega : 0 < di.toInt ∨ di.toInt = 0 ∨ di.toInt < 0) with hs | hs | hs
    · have hm := sg3.1 hs
      refine Goes.by (T' := T56) (g' := (mkF m 248 #[SI y0, SI y1, SI y2, SI y3, SJ ba, S2, SJ ot, S2, SI 2, SI se, SJ si, S2, SJ sq, S2, SJ kq, S2, SD dv, S2, SD dm, S2, SD ds, S2, SA cn, SD r3, S2, SJ di, S2, SU, SU, SU, SU, SU] [(.int (1 : Int32))])) (fun _ k => XS.lcmpS X56.here hx rfl (hb hby at_247) rfl (cmpL_gtI (by rw [own_l0]; exact hs)) k) ?_
      refine Goes.by (T' := T56) (g' := (mkF m 251 #[SI y0, SI y1, SI y2, SI y3, SJ ba, S2, SJ ot, S2, SI 2, SI se, SJ si, S2, SJ sq, S2, SJ kq, S2, SD dv, S2, SD dm, S2, SD ds, S2, SA cn, SD r3, S2, SJ di, S2, SU, SU, SU, SU, SU] [])) (fun _ k => XS.ifNo X56.here hx rfl (hb hby at_248) rfl (by decide) k) ?_
      refine Goes.by (T' := T56) (g' := (mkF m 253 #[SI y0, SI y1, SI y2, SI y3, SJ ba, S2, SJ ot, S2, SI 2, SI se, SJ si, S2, SJ sq, S2, SJ kq, S2, SD dv, S2, SD dm, S2, SD ds, S2, SA cn, SD r3, S2, SJ di, S2, SU, SU, SU, SU, SU] [(.double r3)])) (fun _ k => XS.dload X56.here hx rfl (hb hby at_251) rfl k) ?_
      refine Goes.by (T' := T56) (g' := (mkF m 254 #[SI y0, SI y1, SI y2, SI y3, SJ ba, S2, SJ ot, S2, SI 2, SI se, SJ si, S2, SJ sq, S2, SJ kq, S2, SD dv, S2, SD dm, S2, SD ds, S2, SA cn, SD r3, S2, SJ di, S2, SU, SU, SU, SU, SU] [(.double (0 : UInt64)), (.double r3)])) (fun _ k => XS.dconst0 X56.here hx rfl (hb hby at_253) rfl k) ?_
      refine Goes.by (T' := T56) (g' := (mkF m 255 #[SI y0, SI y1, SI y2, SI y3, SJ ba, S2, SJ ot, S2, SI 2, SI se, SJ si, S2, SJ sq, S2, SJ kq, S2, SD dv, S2, SD dm, S2, SD ds, S2, SA cn, SD r3, S2, SJ di, S2, SU, SU, SU, SU, SU] [(.int (1 : Int32))])) (fun _ k => XS.dcmpS X56.here hx rfl (hb hby at_254) rfl (Z3m.cmp_gt Zv.zero hm _) k) ?_
      refine Goes.by (T' := T56) (g' := (mkF m 258 #[SI y0, SI y1, SI y2, SI y3, SJ ba, S2, SJ ot, S2, SI 2, SI se, SJ si, S2, SJ sq, S2, SJ kq, S2, SD dv, S2, SD dm, S2, SD ds, S2, SA cn, SD r3, S2, SJ di, S2, SU, SU, SU, SU, SU] [])) (fun _ k => XS.ifNo X56.here hx rfl (hb hby at_255) rfl (by decide) k) ?_
      refine Goes.by (T' := T56) (g' := (mkF m 259 #[SI y0, SI y1, SI y2, SI y3, SJ ba, S2, SJ ot, S2, SI 2, SI se, SJ si, S2, SJ sq, S2, SJ kq, S2, SD dv, S2, SD dm, S2, SD ds, S2, SA cn, SD r3, S2, SJ di, S2, SU, SU, SU, SU, SU] [(.int (1 : Int32))])) (fun _ k => XS.iconst X56.here hx rfl (hb hby at_258)  k) ?_
      refine Goes.by (T' := T56) (g' := (mkF m 263 #[SI y0, SI y1, SI y2, SI y3, SJ ba, S2, SJ ot, S2, SI 2, SI se, SJ si, S2, SJ sq, S2, SJ kq, S2, SD dv, S2, SD dm, S2, SD ds, S2, SA cn, SD r3, S2, SJ di, S2, SU, SU, SU, SU, SU] [(.int (1 : Int32))])) (fun _ k => XS.goto X56.here hx rfl (pc0 := 259) (pc' := 263) rfl (hb hby at_259) (by decide) (by decide) k) ?_
      refine Goes.by (T' := T56) (g' := (mkF m 265 #[SI y0, SI y1, SI y2, SI y3, SJ ba, S2, SJ ot, S2, SI 2, SI se, SJ si, S2, SJ sq, S2, SJ kq, S2, SD dv, S2, SD dm, S2, SD ds, S2, SA cn, SD r3, S2, SJ di, S2, SI 1, SU, SU, SU, SU] [])) (fun _ k => XS.istore X56.here hx rfl (hb hby at_263) rfl (l' := #[SI y0, SI y1, SI y2, SI y3, SJ ba, S2, SJ ot, S2, SI 2, SI se, SJ si, S2, SJ sq, S2, SJ kq, S2, SD dv, S2, SD dm, S2, SD ds, S2, SA cn, SD r3, S2, SJ di, S2, SI 1, SU, SU, SU, SU]) rfl k) ?_
      refine Goes.by (T' := T56) (g' := (mkF m 306 #[SI y0, SI y1, SI y2, SI y3, SJ ba, S2, SJ ot, S2, SI 2, SI se, SJ si, S2, SJ sq, S2, SJ kq, S2, SD dv, S2, SD dm, S2, SD ds, S2, SA cn, SD r3, S2, SJ di, S2, SI 1, SU, SU, SU, SU] [])) (fun _ k => XS.goto X56.here hx rfl (pc0 := 265) (pc' := 306) rfl (hb hby at_265) (by decide) (by decide) k) ?_
      refine Goes.by (T' := T56) (g' := (mkF m 308 #[SI y0, SI y1, SI y2, SI y3, SJ ba, S2, SJ ot, S2, SI 2, SI se, SJ si, S2, SJ sq, S2, SJ kq, S2, SD dv, S2, SD dm, S2, SD ds, S2, SA cn, SD r3, S2, SJ di, S2, SI 1, SU, SU, SU, SU] [(.int (2 : Int32))])) (fun _ k => XS.iload X56.here hx rfl (hb hby at_306) rfl k) ?_
      refine Goes.by (T' := T56) (g' := (mkF m 309 #[SI y0, SI y1, SI y2, SI y3, SJ ba, S2, SJ ot, S2, SI 2, SI se, SJ si, S2, SJ sq, S2, SJ kq, S2, SD dv, S2, SD dm, S2, SD ds, S2, SA cn, SD r3, S2, SJ di, S2, SI 1, SU, SU, SU, SU] [(.int (2 : Int32)), (.int (2 : Int32))])) (fun _ k => XS.iconst X56.here hx rfl (hb hby at_308)  k) ?_
      refine Goes.by (T' := T56) (g' := (mkF m 312 #[SI y0, SI y1, SI y2, SI y3, SJ ba, S2, SJ ot, S2, SI 2, SI se, SJ si, S2, SJ sq, S2, SJ kq, S2, SD dv, S2, SD dm, S2, SD ds, S2, SA cn, SD r3, S2, SJ di, S2, SI 1, SU, SU, SU, SU] [])) (fun _ k => XS.icmpNo X56.here hx rfl (hb hby at_309) rfl (by decide) k) ?_
      refine Goes.by (T' := T56) (g' := (mkF m 314 #[SI y0, SI y1, SI y2, SI y3, SJ ba, S2, SJ ot, S2, SI 2, SI se, SJ si, S2, SJ sq, S2, SJ kq, S2, SD dv, S2, SD dm, S2, SD ds, S2, SA cn, SD r3, S2, SJ di, S2, SI 1, SU, SU, SU, SU] [(.int (1 : Int32))])) (fun _ k => XS.iload X56.here hx rfl (hb hby at_312) rfl k) ?_
      refine Goes.by (T' := T56) (g' := (mkF m 317 #[SI y0, SI y1, SI y2, SI y3, SJ ba, S2, SJ ot, S2, SI 2, SI se, SJ si, S2, SJ sq, S2, SJ kq, S2, SD dv, S2, SD dm, S2, SD ds, S2, SA cn, SD r3, S2, SJ di, S2, SI 1, SU, SU, SU, SU] [])) (fun _ k => XS.ifNo X56.here hx rfl (hb hby at_314) rfl (by decide) k) ?_
      refine Goes.by (T' := T56) (g' := (mkF m 319 #[SI y0, SI y1, SI y2, SI y3, SJ ba, S2, SJ ot, S2, SI 2, SI se, SJ si, S2, SJ sq, S2, SJ kq, S2, SD dv, S2, SD dm, S2, SD ds, S2, SA cn, SD r3, S2, SJ di, S2, SI 1, SU, SU, SU, SU] [(.double r3)])) (fun _ k => XS.dload X56.here hx rfl (hb hby at_317) rfl k) ?_
      refine Goes.by (T' := T56) (g' := (mkF m 321 #[SI y0, SI y1, SI y2, SI y3, SJ ba, S2, SJ ot, S2, SI 2, SI se, SJ si, S2, SJ sq, S2, SJ kq, S2, SD dv, S2, SD dm, S2, SD ds, S2, SA cn, SD r3, S2, SJ di, S2, SI 1, SU, SU, SU, SU] [(.double ds), (.double r3)])) (fun _ k => XS.dload X56.here hx rfl (hb hby at_319) rfl k) ?_
      refine Goes.by (T' := T56) (g' := (mkF m 323 #[SI y0, SI y1, SI y2, SI y3, SJ ba, S2, SJ ot, S2, SI 2, SI se, SJ si, S2, SJ sq, S2, SJ kq, S2, SD dv, S2, SD dm, S2, SD ds, S2, SA cn, SD r3, S2, SJ di, S2, SI 1, SU, SU, SU, SU] [(.double ds), (.double ds), (.double r3)])) (fun _ k => XS.dload X56.here hx rfl (hb hby at_321) rfl k) ?_
      refine Goes.by (T' := T56) (g' := (mkF m 324 #[SI y0, SI y1, SI y2, SI y3, SJ ba, S2, SJ ot, S2, SI 2, SI se, SJ si, S2, SJ sq, S2, SJ kq, S2, SD dv, S2, SD dm, S2, SD ds, S2, SA cn, SD r3, S2, SJ di, S2, SI 1, SU, SU, SU, SU] [(.double r2), (.double r3)])) (fun _ k => XS.dmulS X56.here hx rfl (hb hby at_323) rfl (by rw [q2]; exact nn2) q2 k) ?_
      obtain ⟨pr, q_pr⟩ : ∃ zz, FP.dmul r3 r2 = zz := ⟨_, rfl⟩
      have Z_pr := own_back hf (by omega) Z3 Z2 q_pr
      refine Goes.by (T' := T56) (g' := (mkF m 325 #[SI y0, SI y1, SI y2, SI y3, SJ ba, S2, SJ ot, S2, SI 2, SI se, SJ si, S2, SJ sq, S2, SJ kq, S2, SD dv, S2, SD dm, S2, SD ds, S2, SA cn, SD r3, S2, SJ di, S2, SI 1, SU, SU, SU, SU] [(.double pr)])) (fun _ k => XS.dmulS X56.here hx rfl (hb hby at_324) rfl (by rw [q_pr]; exact Z_pr.nn) q_pr k) ?_
      refine Goes.by (T' := T56) (g' := (mkF m 327 #[SI y0, SI y1, SI y2, SI y3, SJ ba, S2, SJ ot, S2, SI 2, SI se, SJ si, S2, SJ sq, S2, SJ kq, S2, SD dv, S2, SD dm, S2, SD ds, S2, SA cn, SD r3, S2, SJ di, S2, SI 1, SU, SU, SU, SU] [(.long di), (.double pr)])) (fun _ k => XS.lload X56.here hx rfl (hb hby at_325) rfl k) ?_
      obtain ⟨dd, q_dd⟩ : ∃ zz, FP.l2d di = zz := ⟨_, rfl⟩
      refine Goes.by (T' := T56) (g' := (mkF m 328 #[SI y0, SI y1, SI y2, SI y3, SJ ba, S2, SJ ot, S2, SI 2, SI se, SJ si, S2, SJ sq, S2, SJ kq, S2, SD dv, S2, SD dm, S2, SD ds, S2, SA cn, SD r3, S2, SJ di, S2, SI 1, SU, SU, SU, SU] [(.double dd), (.double pr)])) (fun _ k => XS.l2dS X56.here hx rfl (hb hby at_327) rfl q_dd k) ?_
      have D_dd : Core.DInt di.toInt dd := DInt_l2d q_dd (by omega)
      refine Goes.by (T' := T56) (g' := (mkF m 329 #[SI y0, SI y1, SI y2, SI y3, SJ ba, S2, SJ ot, S2, SI 2, SI se, SJ si, S2, SJ sq, S2, SJ kq, S2, SD dv, S2, SD dm, S2, SD ds, S2, SA cn, SD r3, S2, SJ di, S2, SI 1, SU, SU, SU, SU] [(.int (0 : Int32))])) (fun _ k => XS.dcmpS X56.here hx rfl (hb hby at_328) rfl (Z_pr.cmp_eq (Zv.of_int D_dd) rfl _) k) ?_
      refine Goes.by (T' := T56) (g' := (mkF m 332 #[SI y0, SI y1, SI y2, SI y3, SJ ba, S2, SJ ot, S2, SI 2, SI se, SJ si, S2, SJ sq, S2, SJ kq, S2, SD dv, S2, SD dm, S2, SD ds, S2, SA cn, SD r3, S2, SJ di, S2, SI 1, SU, SU, SU, SU] [])) (fun _ k => XS.ifNo X56.here hx rfl (hb hby at_329) rfl (by decide) k) ?_
      refine Goes.by (T' := T56) (g' := (mkF m 333 #[SI y0, SI y1, SI y2, SI y3, SJ ba, S2, SJ ot, S2, SI 2, SI se, SJ si, S2, SJ sq, S2, SJ kq, S2, SD dv, S2, SD dm, S2, SD ds, S2, SA cn, SD r3, S2, SJ di, S2, SI 1, SU, SU, SU, SU] [(.int (1 : Int32))])) (fun _ k => XS.iconst X56.here hx rfl (hb hby at_332)  k) ?_
      refine Goes.by (T' := T56) (g' := (mkF m 337 #[SI y0, SI y1, SI y2, SI y3, SJ ba, S2, SJ ot, S2, SI 2, SI se, SJ si, S2, SJ sq, S2, SJ kq, S2, SD dv, S2, SD dm, S2, SD ds, S2, SA cn, SD r3, S2, SJ di, S2, SI 1, SU, SU, SU, SU] [(.int (1 : Int32))])) (fun _ k => XS.goto X56.here hx rfl (pc0 := 333) (pc' := 337) rfl (hb hby at_333) (by decide) (by decide) k) ?_
      exact outZS X56 hS (by rw [hk56]; exact kS) hx hlk hret (hb hby at_337) (by exact ⟨rfl, N0⟩) (by decide) (by decide)
    · have hm := sg3.2.2 hs
      refine Goes.by (T' := T56) (g' := (mkF m 248 #[SI y0, SI y1, SI y2, SI y3, SJ ba, S2, SJ ot, S2, SI 2, SI se, SJ si, S2, SJ sq, S2, SJ kq, S2, SD dv, S2, SD dm, S2, SD ds, S2, SA cn, SD r3, S2, SJ di, S2, SU, SU, SU, SU, SU] [(.int (0 : Int32))])) (fun _ k => XS.lcmpS X56.here hx rfl (hb hby at_247) rfl (cmpL_eq (Int64.toInt_inj.mp (by rw [own_l0]; exact hs))) k) ?_
      refine Goes.by (T' := T56) (g' := (mkF m 268 #[SI y0, SI y1, SI y2, SI y3, SJ ba, S2, SJ ot, S2, SI 2, SI se, SJ si, S2, SJ sq, S2, SJ kq, S2, SD dv, S2, SD dm, S2, SD ds, S2, SA cn, SD r3, S2, SJ di, S2, SU, SU, SU, SU, SU] [])) (fun _ k => XS.ifYes X56.here hx rfl (pc0 := 248) (pc' := 268) rfl (hb hby at_248) rfl (by decide) (by decide) (by decide) k) ?_
      refine Goes.by (T' := T56) (g' := (mkF m 270 #[SI y0, SI y1, SI y2, SI y3, SJ ba, S2, SJ ot, S2, SI 2, SI se, SJ si, S2, SJ sq, S2, SJ kq, S2, SD dv, S2, SD dm, S2, SD ds, S2, SA cn, SD r3, S2, SJ di, S2, SU, SU, SU, SU, SU] [(.long di)])) (fun _ k => XS.lload X56.here hx rfl (hb hby at_268) rfl k) ?_
      refine Goes.by (T' := T56) (g' := (mkF m 271 #[SI y0, SI y1, SI y2, SI y3, SJ ba, S2, SJ ot, S2, SI 2, SI se, SJ si, S2, SJ sq, S2, SJ kq, S2, SD dv, S2, SD dm, S2, SD ds, S2, SA cn, SD r3, S2, SJ di, S2, SU, SU, SU, SU, SU] [(.long (0 : Int64)), (.long di)])) (fun _ k => XS.lconst X56.here hx rfl (hb hby at_270)  k) ?_
      refine Goes.by (T' := T56) (g' := (mkF m 272 #[SI y0, SI y1, SI y2, SI y3, SJ ba, S2, SJ ot, S2, SI 2, SI se, SJ si, S2, SJ sq, S2, SJ kq, S2, SD dv, S2, SD dm, S2, SD ds, S2, SA cn, SD r3, S2, SJ di, S2, SU, SU, SU, SU, SU] [(.int (0 : Int32))])) (fun _ k => XS.lcmpS X56.here hx rfl (hb hby at_271) rfl (cmpL_eq (Int64.toInt_inj.mp (by rw [own_l0]; exact hs))) k) ?_
      refine Goes.by (T' := T56) (g' := (mkF m 292 #[SI y0, SI y1, SI y2, SI y3, SJ ba, S2, SJ ot, S2, SI 2, SI se, SJ si, S2, SJ sq, S2, SJ kq, S2, SD dv, S2, SD dm, S2, SD ds, S2, SA cn, SD r3, S2, SJ di, S2, SU, SU, SU, SU, SU] [])) (fun _ k => XS.ifYes X56.here hx rfl (pc0 := 272) (pc' := 292) rfl (hb hby at_272) rfl (by decide) (by decide) (by decide) k) ?_
      refine Goes.by (T' := T56) (g' := (mkF m 294 #[SI y0, SI y1, SI y2, SI y3, SJ ba, S2, SJ ot, S2, SI 2, SI se, SJ si, S2, SJ sq, S2, SJ kq, S2, SD dv, S2, SD dm, S2, SD ds, S2, SA cn, SD r3, S2, SJ di, S2, SU, SU, SU, SU, SU] [(.double r3)])) (fun _ k => XS.dload X56.here hx rfl (hb hby at_292) rfl k) ?_
      refine Goes.by (T' := T56) (g' := (mkF m 295 #[SI y0, SI y1, SI y2, SI y3, SJ ba, S2, SJ ot, S2, SI 2, SI se, SJ si, S2, SJ sq, S2, SJ kq, S2, SD dv, S2, SD dm, S2, SD ds, S2, SA cn, SD r3, S2, SJ di, S2, SU, SU, SU, SU, SU] [(.double (0 : UInt64)), (.double r3)])) (fun _ k => XS.dconst0 X56.here hx rfl (hb hby at_294) rfl k) ?_
      refine Goes.by (T' := T56) (g' := (mkF m 296 #[SI y0, SI y1, SI y2, SI y3, SJ ba, S2, SJ ot, S2, SI 2, SI se, SJ si, S2, SJ sq, S2, SJ kq, S2, SD dv, S2, SD dm, S2, SD ds, S2, SA cn, SD r3, S2, SJ di, S2, SU, SU, SU, SU, SU] [(.int (0 : Int32))])) (fun _ k => XS.dcmpS X56.here hx rfl (hb hby at_295) rfl (Z3m.cmp_eq Zv.zero hm _) k) ?_
      refine Goes.by (T' := T56) (g' := (mkF m 299 #[SI y0, SI y1, SI y2, SI y3, SJ ba, S2, SJ ot, S2, SI 2, SI se, SJ si, S2, SJ sq, S2, SJ kq, S2, SD dv, S2, SD dm, S2, SD ds, S2, SA cn, SD r3, S2, SJ di, S2, SU, SU, SU, SU, SU] [])) (fun _ k => XS.ifNo X56.here hx rfl (hb hby at_296) rfl (by decide) k) ?_
      refine Goes.by (T' := T56) (g' := (mkF m 300 #[SI y0, SI y1, SI y2, SI y3, SJ ba, S2, SJ ot, S2, SI 2, SI se, SJ si, S2, SJ sq, S2, SJ kq, S2, SD dv, S2, SD dm, S2, SD ds, S2, SA cn, SD r3, S2, SJ di, S2, SU, SU, SU, SU, SU] [(.int (1 : Int32))])) (fun _ k => XS.iconst X56.here hx rfl (hb hby at_299)  k) ?_
      refine Goes.by (T' := T56) (g' := (mkF m 304 #[SI y0, SI y1, SI y2, SI y3, SJ ba, S2, SJ ot, S2, SI 2, SI se, SJ si, S2, SJ sq, S2, SJ kq, S2, SD dv, S2, SD dm, S2, SD ds, S2, SA cn, SD r3, S2, SJ di, S2, SU, SU, SU, SU, SU] [(.int (1 : Int32))])) (fun _ k => XS.goto X56.here hx rfl (pc0 := 300) (pc' := 304) rfl (hb hby at_300) (by decide) (by decide) k) ?_
      refine Goes.by (T' := T56) (g' := (mkF m 306 #[SI y0, SI y1, SI y2, SI y3, SJ ba, S2, SJ ot, S2, SI 2, SI se, SJ si, S2, SJ sq, S2, SJ kq, S2, SD dv, S2, SD dm, S2, SD ds, S2, SA cn, SD r3, S2, SJ di, S2, SI 1, SU, SU, SU, SU] [])) (fun _ k => XS.istore X56.here hx rfl (hb hby at_304) rfl (l' := #[SI y0, SI y1, SI y2, SI y3, SJ ba, S2, SJ ot, S2, SI 2, SI se, SJ si, S2, SJ sq, S2, SJ kq, S2, SD dv, S2, SD dm, S2, SD ds, S2, SA cn, SD r3, S2, SJ di, S2, SI 1, SU, SU, SU, SU]) rfl k) ?_
      refine Goes.by (T' := T56) (g' := (mkF m 308 #[SI y0, SI y1, SI y2, SI y3, SJ ba, S2, SJ ot, S2, SI 2, SI se, SJ si, S2, SJ sq, S2, SJ kq, S2, SD dv, S2, SD dm, S2, SD ds, S2, SA cn, SD r3, S2, SJ di, S2, SI 1, SU, SU, SU, SU] [(.int (2 : Int32))])) (fun _ k => XS.iload X56.here hx rfl (hb hby at_306) rfl k) ?_
      refine Goes.by (T' := T56) (g' := (mkF m 309 #[SI y0, SI y1, SI y2, SI y3, SJ ba, S2, SJ ot, S2, SI 2, SI se, SJ si, S2, SJ sq, S2, SJ kq, S2, SD dv, S2, SD dm, S2, SD ds, S2, SA cn, SD r3, S2, SJ di, S2, SI 1, SU, SU, SU, SU] [(.int (2 : Int32)), (.int (2 : Int32))])) (fun _ k => XS.iconst X56.here hx rfl (hb hby at_308)  k) ?_
      refine Goes.by (T' := T56) (g' := (mkF m 312 #[SI y0, SI y1, SI y2, SI y3, SJ ba, S2, SJ ot, S2, SI 2, SI se, SJ si, S2, SJ sq, S2, SJ kq, S2, SD dv, S2, SD dm, S2, SD ds, S2, SA cn, SD r3, S2, SJ di, S2, SI 1, SU, SU, SU, SU] [])) (fun _ k => XS.icmpNo X56.here hx rfl (hb hby at_309) rfl (by decide) k) ?_
      refine Goes.by (T' := T56) (g' := (mkF m 314 #[SI y0, SI y1, SI y2, SI y3, SJ ba, S2, SJ ot, S2, SI 2, SI se, SJ si, S2, SJ sq, S2, SJ kq, S2, SD dv, S2, SD dm, S2, SD ds, S2, SA cn, SD r3, S2, SJ di, S2, SI 1, SU, SU, SU, SU] [(.int (1 : Int32))])) (fun _ k => XS.iload X56.here hx rfl (hb hby at_312) rfl k) ?_
      refine Goes.by (T' := T56) (g' := (mkF m 317 #[SI y0, SI y1, SI y2, SI y3, SJ ba, S2, SJ ot, S2, SI 2, SI se, SJ si, S2, SJ sq, S2, SJ kq, S2, SD dv, S2, SD dm, S2, SD ds, S2, SA cn, SD r3, S2, SJ di, S2, SI 1, SU, SU, SU, SU] [])) (fun _ k => XS.ifNo X56.here hx rfl (hb hby at_314) rfl (by decide) k) ?_
      refine Goes.by (T' := T56) (g' := (mkF m 319 #[SI y0, SI y1, SI y2, SI y3, SJ ba, S2, SJ ot, S2, SI 2, SI se, SJ si, S2, SJ sq, S2, SJ kq, S2, SD dv, S2, SD dm, S2, SD ds, S2, SA cn, SD r3, S2, SJ di, S2, SI 1, SU, SU, SU, SU] [(.double r3)])) (fun _ k => XS.dload X56.here hx rfl (hb hby at_317) rfl k) ?_
      refine Goes.by (T' := T56) (g' := (mkF m 321 #[SI y0, SI y1, SI y2, SI y3, SJ ba, S2, SJ ot, S2, SI 2, SI se, SJ si, S2, SJ sq, S2, SJ kq, S2, SD dv, S2, SD dm, S2, SD ds, S2, SA cn, SD r3, S2, SJ di, S2, SI 1, SU, SU, SU, SU] [(.double ds), (.double r3)])) (fun _ k => XS.dload X56.here hx rfl (hb hby at_319) rfl k) ?_
      refine Goes.by (T' := T56) (g' := (mkF m 323 #[SI y0, SI y1, SI y2, SI y3, SJ ba, S2, SJ ot, S2, SI 2, SI se, SJ si, S2, SJ sq, S2, SJ kq, S2, SD dv, S2, SD dm, S2, SD ds, S2, SA cn, SD r3, S2, SJ di, S2, SI 1, SU, SU, SU, SU] [(.double ds), (.double ds), (.double r3)])) (fun _ k => XS.dload X56.here hx rfl (hb hby at_321) rfl k) ?_
      refine Goes.by (T' := T56) (g' := (mkF m 324 #[SI y0, SI y1, SI y2, SI y3, SJ ba, S2, SJ ot, S2, SI 2, SI se, SJ si, S2, SJ sq, S2, SJ kq, S2, SD dv, S2, SD dm, S2, SD ds, S2, SA cn, SD r3, S2, SJ di, S2, SI 1, SU, SU, SU, SU] [(.double r2), (.double r3)])) (fun _ k => XS.dmulS X56.here hx rfl (hb hby at_323) rfl (by rw [q2]; exact nn2) q2 k) ?_
      obtain ⟨pr, q_pr⟩ : ∃ zz, FP.dmul r3 r2 = zz := ⟨_, rfl⟩
      have Z_pr := own_back hf (by omega) Z3 Z2 q_pr
      refine Goes.by (T' := T56) (g' := (mkF m 325 #[SI y0, SI y1, SI y2, SI y3, SJ ba, S2, SJ ot, S2, SI 2, SI se, SJ si, S2, SJ sq, S2, SJ kq, S2, SD dv, S2, SD dm, S2, SD ds, S2, SA cn, SD r3, S2, SJ di, S2, SI 1, SU, SU, SU, SU] [(.double pr)])) (fun _ k => XS.dmulS X56.here hx rfl (hb hby at_324) rfl (by rw [q_pr]; exact Z_pr.nn) q_pr k) ?_
      refine Goes.by (T' := T56) (g' := (mkF m 327 #[SI y0, SI y1, SI y2, SI y3, SJ ba, S2, SJ ot, S2, SI 2, SI se, SJ si, S2, SJ sq, S2, SJ kq, S2, SD dv, S2, SD dm, S2, SD ds, S2, SA cn, SD r3, S2, SJ di, S2, SI 1, SU, SU, SU, SU] [(.long di), (.double pr)])) (fun _ k => XS.lload X56.here hx rfl (hb hby at_325) rfl k) ?_
      obtain ⟨dd, q_dd⟩ : ∃ zz, FP.l2d di = zz := ⟨_, rfl⟩
      refine Goes.by (T' := T56) (g' := (mkF m 328 #[SI y0, SI y1, SI y2, SI y3, SJ ba, S2, SJ ot, S2, SI 2, SI se, SJ si, S2, SJ sq, S2, SJ kq, S2, SD dv, S2, SD dm, S2, SD ds, S2, SA cn, SD r3, S2, SJ di, S2, SI 1, SU, SU, SU, SU] [(.double dd), (.double pr)])) (fun _ k => XS.l2dS X56.here hx rfl (hb hby at_327) rfl q_dd k) ?_
      have D_dd : Core.DInt di.toInt dd := DInt_l2d q_dd (by omega)
      refine Goes.by (T' := T56) (g' := (mkF m 329 #[SI y0, SI y1, SI y2, SI y3, SJ ba, S2, SJ ot, S2, SI 2, SI se, SJ si, S2, SJ sq, S2, SJ kq, S2, SD dv, S2, SD dm, S2, SD ds, S2, SA cn, SD r3, S2, SJ di, S2, SI 1, SU, SU, SU, SU] [(.int (0 : Int32))])) (fun _ k => XS.dcmpS X56.here hx rfl (hb hby at_328) rfl (Z_pr.cmp_eq (Zv.of_int D_dd) rfl _) k) ?_
      refine Goes.by (T' := T56) (g' := (mkF m 332 #[SI y0, SI y1, SI y2, SI y3, SJ ba, S2, SJ ot, S2, SI 2, SI se, SJ si, S2, SJ sq, S2, SJ kq, S2, SD dv, S2, SD dm, S2, SD ds, S2, SA cn, SD r3, S2, SJ di, S2, SI 1, SU, SU, SU, SU] [])) (fun _ k => XS.ifNo X56.here hx rfl (hb hby at_329) rfl (by decide) k) ?_
      refine Goes.by (T' := T56) (g' := (mkF m 333 #[SI y0, SI y1, SI y2, SI y3, SJ ba, S2, SJ ot, S2, SI 2, SI se, SJ si, S2, SJ sq, S2, SJ kq, S2, SD dv, S2, SD dm, S2, SD ds, S2, SA cn, SD r3, S2, SJ di, S2, SI 1, SU, SU, SU, SU] [(.int (1 : Int32))])) (fun _ k => XS.iconst X56.here hx rfl (hb hby at_332)  k) ?_
      refine Goes.by (T' := T56) (g' := (mkF m 337 #[SI y0, SI y1, SI y2, SI y3, SJ ba, S2, SJ ot, S2, SI 2, SI se, SJ si, S2, SJ sq, S2, SJ kq, S2, SD dv, S2, SD dm, S2, SD ds, S2, SA cn, SD r3, S2, SJ di, S2, SI 1, SU, SU, SU, SU] [(.int (1 : Int32))])) (fun _ k => XS.goto X56.here hx rfl (pc0 := 333) (pc' := 337) rfl (hb hby at_333) (by decide) (by decide) k) ?_
      exact outZS X56 hS (by rw [hk56]; exact kS) hx hlk hret (hb hby at_337) (by exact ⟨rfl, N0⟩) (by decide) (by decide)
    · have hm := sg3.2.1 hs
      refine Goes.by (T' := T56) (g' := (mkF m 248 #[SI y0, SI y1, SI y2, SI y3, SJ ba, S2, SJ ot, S2, SI 2, SI se, SJ si, S2, SJ sq, S2, SJ kq, S2, SD dv, S2, SD dm, S2, SD ds, S2, SA cn, SD r3, S2, SJ di, S2, SU, SU, SU, SU, SU] [(.int (-1 : Int32))])) (fun _ k => XS.lcmpS X56.here hx rfl (hb hby at_247) rfl (own_cmpL_ltI (by rw [own_l0]; exact hs)) k) ?_
      refine Goes.by (T' := T56) (g' := (mkF m 268 #[SI y0, SI y1, SI y2, SI y3, SJ ba, S2, SJ ot, S2, SI 2, SI se, SJ si, S2, SJ sq, S2, SJ kq, S2, SD dv, S2, SD dm, S2, SD ds, S2, SA cn, SD r3, S2, SJ di, S2, SU, SU, SU, SU, SU] [])) (fun _ k => XS.ifYes X56.here hx rfl (pc0 := 248) (pc' := 268) rfl (hb hby at_248) rfl (by decide) (by decide) (by decide) k) ?_
      refine Goes.by (T' := T56) (g' := (mkF m 270 #[SI y0, SI y1, SI y2, SI y3, SJ ba, S2, SJ ot, S2, SI 2, SI se, SJ si, S2, SJ sq, S2, SJ kq, S2, SD dv, S2, SD dm, S2, SD ds, S2, SA cn, SD r3, S2, SJ di, S2, SU, SU, SU, SU, SU] [(.long di)])) (fun _ k => XS.lload X56.here hx rfl (hb hby at_268) rfl k) ?_
      refine Goes.by (T' := T56) (g' := (mkF m 271 #[SI y0, SI y1, SI y2, SI y3, SJ ba, S2, SJ ot, S2, SI 2, SI se, SJ si, S2, SJ sq, S2, SJ kq, S2, SD dv, S2, SD dm, S2, SD ds, S2, SA cn, SD r3, S2, SJ di, S2, SU, SU, SU, SU, SU] [(.long (0 : Int64)), (.long di)])) (fun _ k => XS.lconst X56.here hx rfl (hb hby at_270)  k) ?_
      refine Goes.by (T' := T56) (g' := (mkF m 272 #[SI y0, SI y1, SI y2, SI y3, SJ ba, S2, SJ ot, S2, SI 2, SI se, SJ si, S2, SJ sq, S2, SJ kq, S2, SD dv, S2, SD dm, S2, SD ds, S2, SA cn, SD r3, S2, SJ di, S2, SU, SU, SU, SU, SU] [(.int (-1 : Int32))])) (fun _ k => XS.lcmpS X56.here hx rfl (hb hby at_271) rfl (own_cmpL_ltI (by rw [own_l0]; exact hs)) k) ?_
      refine Goes.by (T' := T56) (g' := (mkF m 275 #[SI y0, SI y1, SI y2, SI y3, SJ ba, S2, SJ ot, S2, SI 2, SI se, SJ si, S2, SJ sq, S2, SJ kq, S2, SD dv, S2, SD dm, S2, SD ds, S2, SA cn, SD r3, S2, SJ di, S2, SU, SU, SU, SU, SU] [])) (fun _ k => XS.ifNo X56.here hx rfl (hb hby at_272) rfl (by decide) k) ?_
      refine Goes.by (T' := T56) (g' := (mkF m 277 #[SI y0, SI y1, SI y2, SI y3, SJ ba, S2, SJ ot, S2, SI 2, SI se, SJ si, S2, SJ sq, S2, SJ kq, S2, SD dv, S2, SD dm, S2, SD ds, S2, SA cn, SD r3, S2, SJ di, S2, SU, SU, SU, SU, SU] [(.double r3)])) (fun _ k => XS.dload X56.here hx rfl (hb hby at_275) rfl k) ?_
      refine Goes.by (T' := T56) (g' := (mkF m 278 #[SI y0, SI y1, SI y2, SI y3, SJ ba, S2, SJ ot, S2, SI 2, SI se, SJ si, S2, SJ sq, S2, SJ kq, S2, SD dv, S2, SD dm, S2, SD ds, S2, SA cn, SD r3, S2, SJ di, S2, SU, SU, SU, SU, SU] [(.double (0 : UInt64)), (.double r3)])) (fun _ k => XS.dconst0 X56.here hx rfl (hb hby at_277) rfl k) ?_
      refine Goes.by (T' := T56) (g' := (mkF m 279 #[SI y0, SI y1, SI y2, SI y3, SJ ba, S2, SJ ot, S2, SI 2, SI se, SJ si, S2, SJ sq, S2, SJ kq, S2, SD dv, S2, SD dm, S2, SD ds, S2, SA cn, SD r3, S2, SJ di, S2, SU, SU, SU, SU, SU] [(.int (-1 : Int32))])) (fun _ k => XS.dcmpS X56.here hx rfl (hb hby at_278) rfl (Z3m.cmp_lt Zv.zero hm _) k) ?_
      refine Goes.by (T' := T56) (g' := (mkF m 282 #[SI y0, SI y1, SI y2, SI y3, SJ ba, S2, SJ ot, S2, SI 2, SI se, SJ si, S2, SJ sq, S2, SJ kq, S2, SD dv, S2, SD dm, S2, SD ds, S2, SA cn, SD r3, S2, SJ di, S2, SU, SU, SU, SU, SU] [])) (fun _ k => XS.ifNo X56.here hx rfl (hb hby at_279) rfl (by decide) k) ?_
      refine Goes.by (T' := T56) (g' := (mkF m 283 #[SI y0, SI y1, SI y2, SI y3, SJ ba, S2, SJ ot, S2, SI 2, SI se, SJ si, S2, SJ sq, S2, SJ kq, S2, SD dv, S2, SD dm, S2, SD ds, S2, SA cn, SD r3, S2, SJ di, S2, SU, SU, SU, SU, SU] [(.int (1 : Int32))])) (fun _ k => XS.iconst X56.here hx rfl (hb hby at_282)  k) ?_
      refine Goes.by (T' := T56) (g' := (mkF m 287 #[SI y0, SI y1, SI y2, SI y3, SJ ba, S2, SJ ot, S2, SI 2, SI se, SJ si, S2, SJ sq, S2, SJ kq, S2, SD dv, S2, SD dm, S2, SD ds, S2, SA cn, SD r3, S2, SJ di, S2, SU, SU, SU, SU, SU] [(.int (1 : Int32))])) (fun _ k => XS.goto X56.here hx rfl (pc0 := 283) (pc' := 287) rfl (hb hby at_283) (by decide) (by decide) k) ?_
      refine Goes.by (T' := T56) (g' := (mkF m 289 #[SI y0, SI y1, SI y2, SI y3, SJ ba, S2, SJ ot, S2, SI 2, SI se, SJ si, S2, SJ sq, S2, SJ kq, S2, SD dv, S2, SD dm, S2, SD ds, S2, SA cn, SD r3, S2, SJ di, S2, SI 1, SU, SU, SU, SU] [])) (fun _ k => XS.istore X56.here hx rfl (hb hby at_287) rfl (l' := #[SI y0, SI y1, SI y2, SI y3, SJ ba, S2, SJ ot, S2, SI 2, SI se, SJ si, S2, SJ sq, S2, SJ kq, S2, SD dv, S2, SD dm, S2, SD ds, S2, SA cn, SD r3, S2, SJ di, S2, SI 1, SU, SU, SU, SU]) rfl k) ?_
      refine Goes.by (T' := T56) (g' := (mkF m 306 #[SI y0, SI y1, SI y2, SI y3, SJ ba, S2, SJ ot, S2, SI 2, SI se, SJ si, S2, SJ sq, S2, SJ kq, S2, SD dv, S2, SD dm, S2, SD ds, S2, SA cn, SD r3, S2, SJ di, S2, SI 1, SU, SU, SU, SU] [])) (fun _ k => XS.goto X56.here hx rfl (pc0 := 289) (pc' := 306) rfl (hb hby at_289) (by decide) (by decide) k) ?_
      refine Goes.by (T' := T56) (g' := (mkF m 308 #[SI y0, SI y1, SI y2, SI y3, SJ ba, S2, SJ ot, S2, SI 2, SI se, SJ si, S2, SJ sq, S2, SJ kq, S2, SD dv, S2, SD dm, S2, SD ds, S2, SA cn, SD r3, S2, SJ di, S2, SI 1, SU, SU, SU, SU] [(.int (2 : Int32))])) (fun _ k => XS.iload X56.here hx rfl (hb hby at_306) rfl k) ?_
      refine Goes.by (T' := T56) (g' := (mkF m 309 #[SI y0, SI y1, SI y2, SI y3, SJ ba, S2, SJ ot, S2, SI 2, SI se, SJ si, S2, SJ sq, S2, SJ kq, S2, SD dv, S2, SD dm, S2, SD ds, S2, SA cn, SD r3, S2, SJ di, S2, SI 1, SU, SU, SU, SU] [(.int (2 : Int32)), (.int (2 : Int32))])) (fun _ k => XS.iconst X56.here hx rfl (hb hby at_308)  k) ?_
      refine Goes.by (T' := T56) (g' := (mkF m 312 #[SI y0, SI y1, SI y2, SI y3, SJ ba, S2, SJ ot, S2, SI 2, SI se, SJ si, S2, SJ sq, S2, SJ kq, S2, SD dv, S2, SD dm, S2, SD ds, S2, SA cn, SD r3, S2, SJ di, S2, SI 1, SU, SU, SU, SU] [])) (fun _ k => XS.icmpNo X56.here hx rfl (hb hby at_309) rfl (by decide) k) ?_
      refine Goes.by (T' := T56) (g' := (mkF m 314 #[SI y0, SI y1, SI y2, SI y3, SJ ba, S2, SJ ot, S2, SI 2, SI se, SJ si, S2, SJ sq, S2, SJ kq, S2, SD dv, S2, SD dm, S2, SD ds, S2, SA cn, SD r3, S2, SJ di, S2, SI 1, SU, SU, SU, SU] [(.int (1 : Int32))])) (fun _ k => XS.iload X56.here hx rfl (hb hby at_312) rfl k) ?_
      refine Goes.by (T' := T56) (g' := (mkF m 317 #[SI y0, SI y1, SI y2, SI y3, SJ ba, S2, SJ ot, S2, SI 2, SI se, SJ si, S2, SJ sq, S2, SJ kq, S2, SD dv, S2, SD dm, S2, SD ds, S2, SA cn, SD r3, S2, SJ di, S2, SI 1, SU, SU, SU, SU] [])) (fun _ k => XS.ifNo X56.here hx rfl (hb hby at_314) rfl (by decide) k) ?_
      refine Goes.by (T' := T56) (g' := (mkF m 319 #[SI y0, SI y1, SI y2, SI y3, SJ ba, S2, SJ ot, S2, SI 2, SI se, SJ si, S2, SJ sq, S2, SJ kq, S2, SD dv, S2, SD dm, S2, SD ds, S2, SA cn, SD r3, S2, SJ di, S2, SI 1, SU, SU, SU, SU] [(.double r3)])) (fun _ k => XS.dload X56.here hx rfl (hb hby at_317) rfl k) ?_
      refine Goes.by (T' := T56) (g' := (mkF m 321 #[SI y0, SI y1, SI y2, SI y3, SJ ba, S2, SJ ot, S2, SI 2, SI se, SJ si, S2, SJ sq, S2, SJ kq, S2, SD dv, S2, SD dm, S2, SD ds, S2, SA cn, SD r3, S2, SJ di, S2, SI 1, SU, SU, SU, SU] [(.double ds), (.double r3)])) (fun _ k => XS.dload X56.here hx rfl (hb hby at_319) rfl k) ?_
      refine Goes.by (T' := T56) (g' := (mkF m 323 #[SI y0, SI y1, SI y2, SI y3, SJ ba, S2, SJ ot, S2, SI 2, SI se, SJ si, S2, SJ sq, S2, SJ kq, S2, SD dv, S2, SD dm, S2, SD ds, S2, SA cn, SD r3, S2, SJ di, S2, SI 1, SU, SU, SU, SU] [(.double ds), (.double ds), (.double r3)])) (fun _ k => XS.dload X56.here hx rfl (hb hby at_321) rfl k) ?_
      refine Goes.by (T' := T56) (g' := (mkF m 324 #[SI y0, SI y1, SI y2, SI y3, SJ ba, S2, SJ ot, S2, SI 2, SI se, SJ si, S2, SJ sq, S2, SJ kq, S2, SD dv, S2, SD dm, S2, SD ds, S2, SA cn, SD r3, S2, SJ di, S2, SI 1, SU, SU, SU, SU] [(.double r2), (.double r3)])) (fun _ k => XS.dmulS X56.here hx rfl (hb hby at_323) rfl (by rw [q2]; exact nn2) q2 k) ?_
      obtain ⟨pr, q_pr⟩ : ∃ zz, FP.dmul r3 r2 = zz := ⟨_, rfl⟩
      have Z_pr := own_back hf (by omega) Z3 Z2 q_pr
      refine Goes.by (T' := T56) (g' := (mkF m 325 #[SI y0, SI y1, SI y2, SI y3, SJ ba, S2, SJ ot, S2, SI 2, SI se, SJ si, S2, SJ sq, S2, SJ kq, S2, SD dv, S2, SD dm, S2, SD ds, S2, SA cn, SD r3, S2, SJ di, S2, SI 1, SU, SU, SU, SU] [(.double pr)])) (fun _ k => XS.dmulS X56.here hx rfl (hb hby at_324) rfl (by rw [q_pr]; exact Z_pr.nn) q_pr k) ?_
      refine Goes.by (T' := T56) (g' := (mkF m 327 #[SI y0, SI y1, SI y2, SI y3, SJ ba, S2, SJ ot, S2, SI 2, SI se, SJ si, S2, SJ sq, S2, SJ kq, S2, SD dv, S2, SD dm, S2, SD ds, S2, SA cn, SD r3, S2, SJ di, S2, SI 1, SU, SU, SU, SU] [(.long di), (.double pr)])) (fun _ k => XS.lload X56.here hx rfl (hb hby at_325) rfl k) ?_
      obtain ⟨dd, q_dd⟩ : ∃ zz, FP.l2d di = zz := ⟨_, rfl⟩
      refine Goes.by (T' := T56) (g' := (mkF m 328 #[SI y0, SI y1, SI y2, SI y3, SJ ba, S2, SJ ot, S2, SI 2, SI se, SJ si, S2, SJ sq, S2, SJ kq, S2, SD dv, S2, SD dm, S2, SD ds, S2, SA cn, SD r3, S2, SJ di, S2, SI 1, SU, SU, SU, SU] [(.double dd), (.double pr)])) (fun _ k => XS.l2dS X56.here hx rfl (hb hby at_327) rfl q_dd k) ?_
      have D_dd : Core.DInt di.toInt dd := DInt_l2d q_dd (by omega)
      refine Goes.by (T' := T56) (g' := (mkF m 329 #[SI y0, SI y1, SI y2, SI y3, SJ ba, S2, SJ ot, S2, SI 2, SI se, SJ si, S2, SJ sq, S2, SJ kq, S2, SD dv, S2, SD dm, S2, SD ds, S2, SA cn, SD r3, S2, SJ di, S2, SI 1, SU, SU, SU, SU] [(.int (0 : Int32))])) (fun _ k => XS.dcmpS X56.here hx rfl (hb hby at_328) rfl (Z_pr.cmp_eq (Zv.of_int D_dd) rfl _) k) ?_
      refine Goes.by (T' := T56) (g' := (mkF m 332 #[SI y0, SI y1, SI y2, SI y3, SJ ba, S2, SJ ot, S2, SI 2, SI se, SJ si, S2, SJ sq, S2, SJ kq, S2, SD dv, S2, SD dm, S2, SD ds, S2, SA cn, SD r3, S2, SJ di, S2, SI 1, SU, SU, SU, SU] [])) (fun _ k => XS.ifNo X56.here hx rfl (hb hby at_329) rfl (by decide) k) ?_
      refine Goes.by (T' := T56) (g' := (mkF m 333 #[SI y0, SI y1, SI y2, SI y3, SJ ba, S2, SJ ot, S2, SI 2, SI se, SJ si, S2, SJ sq, S2, SJ kq, S2, SD dv, S2, SD dm, S2, SD ds, S2, SA cn, SD r3, S2, SJ di, S2, SI 1, SU, SU, SU, SU] [(.int (1 : Int32))])) (fun _ k => XS.iconst X56.here hx rfl (hb hby at_332)  k) ?_
      refine Goes.by (T' := T56) (g' := (mkF m 337 #[SI y0, SI y1, SI y2, SI y3, SJ ba, S2, SJ ot, S2, SI 2, SI se, SJ si, S2, SJ sq, S2, SJ kq, S2, SD dv, S2, SD dm, S2, SD ds, S2, SA cn, SD r3, S2, SJ di, S2, SI 1, SU, SU, SU, SU] [(.int (1 : Int32))])) (fun _ k => XS.goto X56.here hx rfl (pc0 := 333) (pc' := 337) rfl (hb hby at_333) (by decide) (by decide) k) ?_
      exact outZS X56 hS (by rw [hk56]; exact kS) hx hlk hret (hb hby at_337) (by exact ⟨rfl, N0⟩) (by decide) (by decide)
  · refine Goes.by (T' := s₁) (g' := (mkF m 81 #[SI y0, SI y1, SI y2, SI y3, SJ ba, S2, SJ ot, S2, SI 3, SI se, SJ si, S2, SJ sq, S2, SJ kq, S2, SU, SU, SU, SU, SU, SU, SU, SU, SU, SU, SU, SU, SU, SU, SU, SU] [])) (fun _ k => XS.ifYes X0.here hx rfl (pc0 := 54) (pc' := 81) rfl (hb hby at_54) rfl (by decide) (by decide) (by decide) k) ?_
    refine Goes.by (T' := s₁) (g' := (mkF m 83 #[SI y0, SI y1, SI y2, SI y3, SJ ba, S2, SJ ot, S2, SI 3, SI se, SJ si, S2, SJ sq, S2, SJ kq, S2, SU, SU, SU, SU, SU, SU, SU, SU, SU, SU, SU, SU, SU, SU, SU, SU] [(.int (3 : Int32))])) (fun _ k => XS.iload X0.here hx rfl (hb hby at_81) rfl k) ?_
    refine Goes.by (T' := s₁) (g' := (mkF m 84 #[SI y0, SI y1, SI y2, SI y3, SJ ba, S2, SJ ot, S2, SI 3, SI se, SJ si, S2, SJ sq, S2, SJ kq, S2, SU, SU, SU, SU, SU, SU, SU, SU, SU, SU, SU, SU, SU, SU, SU, SU] [(.int (1 : Int32)), (.int (3 : Int32))])) (fun _ k => XS.iconst X0.here hx rfl (hb hby at_83)  k) ?_
    refine Goes.by (T' := s₁) (g' := (mkF m 111 #[SI y0, SI y1, SI y2, SI y3, SJ ba, S2, SJ ot, S2, SI 3, SI se, SJ si, S2, SJ sq, S2, SJ kq, S2, SU, SU, SU, SU, SU, SU, SU, SU, SU, SU, SU, SU, SU, SU, SU, SU] [])) (fun _ k => XS.icmpYes X0.here hx rfl (pc0 := 84) (pc' := 111) rfl (hb hby at_84) rfl (by decide) (by decide) (by decide) k) ?_
    refine Goes.by (T' := s₁) (g' := (mkF m 113 #[SI y0, SI y1, SI y2, SI y3, SJ ba, S2, SJ ot, S2, SI 3, SI se, SJ si, S2, SJ sq, S2, SJ kq, S2, SU, SU, SU, SU, SU, SU, SU, SU, SU, SU, SU, SU, SU, SU, SU, SU] [(.int (3 : Int32))])) (fun _ k => XS.iload X0.here hx rfl (hb hby at_111) rfl k) ?_
    refine Goes.by (T' := s₁) (g' := (mkF m 114 #[SI y0, SI y1, SI y2, SI y3, SJ ba, S2, SJ ot, S2, SI 3, SI se, SJ si, S2, SJ sq, S2, SJ kq, S2, SU, SU, SU, SU, SU, SU, SU, SU, SU, SU, SU, SU, SU, SU, SU, SU] [(.int (2 : Int32)), (.int (3 : Int32))])) (fun _ k => XS.iconst X0.here hx rfl (hb hby at_113)  k) ?_
    refine Goes.by (T' := s₁) (g' := (mkF m 147 #[SI y0, SI y1, SI y2, SI y3, SJ ba, S2, SJ ot, S2, SI 3, SI se, SJ si, S2, SJ sq, S2, SJ kq, S2, SU, SU, SU, SU, SU, SU, SU, SU, SU, SU, SU, SU, SU, SU, SU, SU] [])) (fun _ k => XS.icmpYes X0.here hx rfl (pc0 := 114) (pc' := 147) rfl (hb hby at_114) rfl (by decide) (by decide) (by decide) k) ?_
    refine Goes.by (T' := s₁) (g' := (mkF m 149 #[SI y0, SI y1, SI y2, SI y3, SJ ba, S2, SJ ot, S2, SI 3, SI se, SJ si, S2, SJ sq, S2, SJ kq, S2, SU, SU, SU, SU, SU, SU, SU, SU, SU, SU, SU, SU, SU, SU, SU, SU] [(.long ba)])) (fun _ k => XS.lload X0.here hx rfl (hb hby at_147) rfl k) ?_
    obtain ⟨dv, q_dv⟩ : ∃ zz, FP.l2d ba = zz := ⟨_, rfl⟩
    refine Goes.by (T' := s₁) (g' := (mkF m 150 #[SI y0, SI y1, SI y2, SI y3, SJ ba, S2, SJ ot, S2, SI 3, SI se, SJ si, S2, SJ sq, S2, SJ kq, S2, SU, SU, SU, SU, SU, SU, SU, SU, SU, SU, SU, SU, SU, SU, SU, SU] [(.double dv)])) (fun _ k => XS.l2dS X0.here hx rfl (hb hby at_149) rfl q_dv k) ?_
    have D_dv : Core.DInt ba.toInt dv := DInt_l2d q_dv (by omega)
    refine Goes.by (T' := s₁) (g' := (mkF m 152 #[SI y0, SI y1, SI y2, SI y3, SJ ba, S2, SJ ot, S2, SI 3, SI se, SJ si, S2, SJ sq, S2, SJ kq, S2, SD dv, S2, SU, SU, SU, SU, SU, SU, SU, SU, SU, SU, SU, SU, SU, SU] [])) (fun _ k => XS.dstore X0.here hx rfl (hb hby at_150) rfl (l' := #[SI y0, SI y1, SI y2, SI y3, SJ ba, S2, SJ ot, S2, SI 3, SI se, SJ si, S2, SJ sq, S2, SJ kq, S2, SD dv, S2, SU, SU, SU, SU, SU, SU, SU, SU, SU, SU, SU, SU, SU, SU]) rfl k) ?_
    refine Goes.by (T' := s₁) (g' := (mkF m 154 #[SI y0, SI y1, SI y2, SI y3, SJ ba, S2, SJ ot, S2, SI 3, SI se, SJ si, S2, SJ sq, S2, SJ kq, S2, SD dv, S2, SU, SU, SU, SU, SU, SU, SU, SU, SU, SU, SU, SU, SU, SU] [(.long ot)])) (fun _ k => XS.lload X0.here hx rfl (hb hby at_152) rfl k) ?_
    obtain ⟨dm, q_dm⟩ : ∃ zz, FP.l2d ot = zz := ⟨_, rfl⟩
    refine Goes.by (T' := s₁) (g' := (mkF m 155 #[SI y0, SI y1, SI y2, SI y3, SJ ba, S2, SJ ot, S2, SI 3, SI se, SJ si, S2, SJ sq, S2, SJ kq, S2, SD dv, S2, SU, SU, SU, SU, SU, SU, SU, SU, SU, SU, SU, SU, SU, SU] [(.double dm)])) (fun _ k => XS.l2dS X0.here hx rfl (hb hby at_154) rfl q_dm k) ?_
    have D_dm : Core.DInt ot.toInt dm := DInt_l2d q_dm (by omega)
    refine Goes.by (T' := s₁) (g' := (mkF m 157 #[SI y0, SI y1, SI y2, SI y3, SJ ba, S2, SJ ot, S2, SI 3, SI se, SJ si, S2, SJ sq, S2, SJ kq, S2, SD dv, S2, SD dm, S2, SU, SU, SU, SU, SU, SU, SU, SU, SU, SU, SU, SU] [])) (fun _ k => XS.dstore X0.here hx rfl (hb hby at_155) rfl (l' := #[SI y0, SI y1, SI y2, SI y3, SJ ba, S2, SJ ot, S2, SI 3, SI se, SJ si, S2, SJ sq, S2, SJ kq, S2, SD dv, S2, SD dm, S2, SU, SU, SU, SU, SU, SU, SU, SU, SU, SU, SU, SU]) rfl k) ?_
    refine Goes.by (T' := s₁) (g' := (mkF m 159 #[SI y0, SI y1, SI y2, SI y3, SJ ba, S2, SJ ot, S2, SI 3, SI se, SJ si, S2, SJ sq, S2, SJ kq, S2, SD dv, S2, SD dm, S2, SU, SU, SU, SU, SU, SU, SU, SU, SU, SU, SU, SU] [(.long si)])) (fun _ k => XS.lload X0.here hx rfl (hb hby at_157) rfl k) ?_
    obtain ⟨ds, q_ds⟩ : ∃ zz, FP.l2d si = zz := ⟨_, rfl⟩
    refine Goes.by (T' := s₁) (g' := (mkF m 160 #[SI y0, SI y1, SI y2, SI y3, SJ ba, S2, SJ ot, S2, SI 3, SI se, SJ si, S2, SJ sq, S2, SJ kq, S2, SD dv, S2, SD dm, S2, SU, SU, SU, SU, SU, SU, SU, SU, SU, SU, SU, SU] [(.double ds)])) (fun _ k => XS.l2dS X0.here hx rfl (hb hby at_159) rfl q_ds k) ?_
    have D_ds : Core.DInt si.toInt ds := DInt_l2d q_ds (by omega)
    obtain ⟨r1, q1⟩ : ∃ z, FP.dsub dv dm = z := ⟨_, rfl⟩
    obtain ⟨r2, q2⟩ : ∃ z, FP.dmul ds ds = z := ⟨_, rfl⟩
    obtain ⟨r3, q3⟩ : ∃ z, FP.ddiv r1 r2 = z := ⟨_, rfl⟩
    have hdi : (ba - ot).toInt = ba.toInt - ot.toInt := own_lsub (by omega) (by omega)
    obtain ⟨di, hdq⟩ : ∃ z, z = ba - ot := ⟨_, rfl⟩
    rw [← hdq] at hdi
    have D1 : Core.DInt di.toInt r1 := by rw [hdi]; exact DInt_sub q1 D_dv D_dm (by omega)
    have nn1 := DInt_nn D1
    have D2 : Core.DInt sq.toInt r2 := by rw [hsq]; exact DInt_mul q2 D_ds D_ds (by rw [← hsq]; omega)
    have nn2 := DInt_nn D2
    obtain ⟨m3, Z3m, s1, s2, s3⟩ := own_q3 D1 D2 (by omega) (by omega) (by omega) q3
    have nn3 := Z3m.nn
    refine Goes.by (T' := s₁) (g' := (mkF m 162 #[SI y0, SI y1, SI y2, SI y3, SJ ba, S2, SJ ot, S2, SI 3, SI se, SJ si, S2, SJ sq, S2, SJ kq, S2, SD dv, S2, SD dm, S2, SD ds, S2, SU, SU, SU, SU, SU, SU, SU, SU, SU, SU] [])) (fun _ k => XS.dstore X0.here hx rfl (hb hby at_160) rfl (l' := #[SI y0, SI y1, SI y2, SI y3, SJ ba, S2, SJ ot, S2, SI 3, SI se, SJ si, S2, SJ sq, S2, SJ kq, S2, SD dv, S2, SD dm, S2, SD ds, S2, SU, SU, SU, SU, SU, SU, SU, SU, SU, SU]) rfl k) ?_
    obtain ⟨T57, h57, X57, e57, E57, A57, D57, -, st57⟩ := newO X0 hx hZ hown (hw _ (List.mem_of_getElem? (i := 6) rfl)) (hw _ (List.mem_of_getElem? (i := 7) rfl)) (hw _ (List.mem_of_getElem? (i := 8) rfl)) e0 (g := (mkF m 162 #[SI y0, SI y1, SI y2, SI y3, SJ ba, S2, SJ ot, S2, SI 3, SI se, SJ si, S2, SJ sq, S2, SJ kq, S2, SD dv, S2, SD dm, S2, SD ds, S2, SU, SU, SU, SU, SU, SU, SU, SU, SU, SU] [])) rfl (hb hby at_162) (by decide) (by decide)
    obtain ⟨cn, g57⟩ : ∃ z, z = h0.size := ⟨_, rfl⟩
    rw [← g57] at A57 D57 st57
    have ge_cn : n0 ≤ cn := Nat.le_trans Z0 (Nat.le_of_eq g57.symm)
    have Z0 := Nat.le_trans Z0 E57.1
    have kS := Nat.le_trans kS E57.1
    have hCH := CHv.ext E57 hCH
    have E_cn := A57
    have F_link_cn : Fld Z h57 cn "com/example/gaugefit/gaugefit/core/Count" "link" "Ljava/lang/String;" .null := D57 (Or.inr (hw _ (List.mem_of_getElem? (i := 68) rfl))) (ty := (.object "java/lang/String")) (by decide)
    have F_interval_cn : Fld Z h57 cn "com/example/gaugefit/gaugefit/core/Count" "interval" "Lcom/example/gaugefit/gaugefit/core/Interval;" .null := D57 (Or.inr (hw _ (List.mem_of_getElem? (i := 70) rfl))) (ty := (.object "com/example/gaugefit/gaugefit/core/Interval")) (by decide)
    have F_value_cn : Fld Z h57 cn "com/example/gaugefit/gaugefit/core/Count" "value" "D" (.double (0 : UInt64)) := D57 (Or.inr (hw _ (List.mem_of_getElem? (i := 72) rfl))) (ty := .double) (by decide)
    have F_stddev_cn : Fld Z h57 cn "com/example/gaugefit/gaugefit/core/Count" "stddev" "Ljava/util/OptionalDouble;" .null := D57 (Or.inr (hw _ (List.mem_of_getElem? (i := 74) rfl))) (ty := (.object "java/util/OptionalDouble")) (by decide)
    refine Goes.by (T' := T57) (g' := (mkF m 165 #[SI y0, SI y1, SI y2, SI y3, SJ ba, S2, SJ ot, S2, SI 3, SI se, SJ si, S2, SJ sq, S2, SJ kq, S2, SD dv, S2, SD dm, S2, SD ds, S2, SU, SU, SU, SU, SU, SU, SU, SU, SU, SU] [(.ref cn)])) st57 ?_
    have SO := Sta.ext E57 SO
    refine Goes.by (T' := T57) (g' := (mkF m 166 #[SI y0, SI y1, SI y2, SI y3, SJ ba, S2, SJ ot, S2, SI 3, SI se, SJ si, S2, SJ sq, S2, SJ kq, S2, SD dv, S2, SD dm, S2, SD ds, S2, SU, SU, SU, SU, SU, SU, SU, SU, SU, SU] [(.ref cn), (.ref cn)])) (fun _ k => XS.dup X57.here hx rfl (hb hby at_165) rfl rfl k) ?_
    obtain ⟨st, T58, h58, kk58, b, kc, X58, e58, E58, hS, kN58, hZ, hown, ES, -, FV, AV, -, -, -, -, -, st58⟩ := ldcCH X57 hx hZ hown (hw _ (List.mem_of_getElem? (i := 9) rfl)) (own_wS hw) e57 hS kS (own_EW hw) (List.mem_singleton.mpr rfl) hCH (vs := [.int 76]) (z := 1) ⟨by decide, rfl⟩ (by decide) (by decide) (g := (mkF m 166 #[SI y0, SI y1, SI y2, SI y3, SJ ba, S2, SJ ot, S2, SI 3, SI se, SJ si, S2, SJ sq, S2, SJ kq, S2, SD dv, S2, SD dm, S2, SD ds, S2, SU, SU, SU, SU, SU, SU, SU, SU, SU, SU] [(.ref cn), (.ref cn)])) rfl (hb hby at_166) (n := 4) (by decide +kernel) (by decide) (by decide) (by decide)
    have E_cn := E_cn.ext E58
    have F_link_cn := F_link_cn.ext E58
    have F_interval_cn := F_interval_cn.ext E58
    have F_value_cn := F_value_cn.ext E58
    have F_stddev_cn := F_stddev_cn.ext E58
    have Z0 := Nat.le_trans Z0 E58.1
    have kS := Nat.le_trans kS E58.1
    have SO := Sta.ext E58 SO
    have kS := kN58
    have VB := own_arv AV
    refine Goes.by (T' := T58) (g' := (mkF m 168 #[SI y0, SI y1, SI y2, SI y3, SJ ba, S2, SJ ot, S2, SI 3, SI se, SJ si, S2, SJ sq, S2, SJ kq, S2, SD dv, S2, SD dm, S2, SD ds, S2, SU, SU, SU, SU, SU, SU, SU, SU, SU, SU] [(.ref st), (.ref cn), (.ref cn)])) st58 ?_
    refine Goes.by (T' := T58) (g' := (mkF m 169 #[SI y0, SI y1, SI y2, SI y3, SJ ba, S2, SJ ot, S2, SI 3, SI se, SJ si, S2, SJ sq, S2, SJ kq, S2, SD dv, S2, SD dm, S2, SD ds, S2, SU, SU, SU, SU, SU, SU, SU, SU, SU, SU] [(.double (0 : UInt64)), (.ref st), (.ref cn), (.ref cn)])) (fun _ k => XS.dconst0 X58.here hx rfl (hb hby at_168) rfl k) ?_
    refine Goes.by (T' := T58) (g' := (mkF m 170 #[SI y0, SI y1, SI y2, SI y3, SJ ba, S2, SJ ot, S2, SI 3, SI se, SJ si, S2, SJ sq, S2, SJ kq, S2, SD dv, S2, SD dm, S2, SD ds, S2, SU, SU, SU, SU, SU, SU, SU, SU, SU, SU] [(.double (4607182418800017408 : UInt64)), (.double (0 : UInt64)), (.ref st), (.ref cn), (.ref cn)])) (fun _ k => XS.dconst1 X58.here hx rfl (hb hby at_169) rfl k) ?_
    refine Goes.by (T' := T58) (g' := (mkF m 172 #[SI y0, SI y1, SI y2, SI y3, SJ ba, S2, SJ ot, S2, SI 3, SI se, SJ si, S2, SJ sq, S2, SJ kq, S2, SD dv, S2, SD dm, S2, SD ds, S2, SU, SU, SU, SU, SU, SU, SU, SU, SU, SU] [(.double dv), (.double (4607182418800017408 : UInt64)), (.double (0 : UInt64)), (.ref st), (.ref cn), (.ref cn)])) (fun _ k => XS.dload X58.here hx rfl (hb hby at_170) rfl k) ?_
    obtain ⟨v59, T59, L59, kk59, X59, hQ59, hS, kN59, hZ, hown, st59⟩ := callIS X58 hS kS hx hZ (y := (⟨"com/example/gaugefit/gaugefit/core/Count", "<init>", "(Ljava/lang/String;DDD)V"⟩ : MethodName)) rfl hown (hw _ (List.mem_of_getElem? (i := 17) rfl)) (hw _ (List.mem_of_getElem? (i := 18) rfl)) (hw _ (List.mem_of_getElem? (i := 19) rfl)) (hw _ (List.mem_of_getElem? (i := 8) rfl)) (by decide) e58 (a := cn) (argsL := [(.ref st), (.double (0 : UInt64)), (.double (4607182418800017408 : UInt64)), (.double dv)]) (rest := [(.ref cn)]) (W := 1) (rm_c4 l Z a0 hw cn st b oe 76 dv ba.toInt h58 n0 Z0 E_cn F_link_cn F_interval_cn F_value_cn F_stddev_cn ES FV VB SO ge_cn D_dv (by omega)) rfl (by decide) (by decide) (by decide) (by decide) (g := (mkF m 172 #[SI y0, SI y1, SI y2, SI y3, SJ ba, S2, SJ ot, S2, SI 3, SI se, SJ si, S2, SJ sq, S2, SJ kq, S2, SD dv, S2, SD dm, S2, SD ds, S2, SU, SU, SU, SU, SU, SU, SU, SU, SU, SU] [(.double dv), (.double (4607182418800017408 : UInt64)), (.double (0 : UInt64)), (.ref st), (.ref cn), (.ref cn)])) rfl (by rw [hml]; rfl) (lenOf pd8 rfl) rfl (by show 2 * 0 + _ ≤ _; exact Nat.le_of_eq rfl) (hb hby at_172)
    obtain ⟨rfl, -, FVV, K59, NL59⟩ := hQ59
    have N0 := Fr.app N0 NL59
    have e59 : T59.heap = T59.heap := rfl
    have E_cn := E_cn.keep K59
    have Z0 := Nat.le_trans Z0 K59.1
    have kS := Nat.le_trans kS K59.1
    have kS := kN59
    refine Goes.by (T' := T59) (g' := (mkF m 175 #[SI y0, SI y1, SI y2, SI y3, SJ ba, S2, SJ ot, S2, SI 3, SI se, SJ si, S2, SJ sq, S2, SJ kq, S2, SD dv, S2, SD dm, S2, SD ds, S2, SU, SU, SU, SU, SU, SU, SU, SU, SU, SU] [(.ref cn)])) st59 ?_
    refine Goes.by (T' := T59) (g' := (mkF m 177 #[SI y0, SI y1, SI y2, SI y3, SJ ba, S2, SJ ot, S2, SI 3, SI se, SJ si, S2, SJ sq, S2, SJ kq, S2, SD dv, S2, SD dm, S2, SD ds, S2, SA cn, SU, SU, SU, SU, SU, SU, SU, SU, SU] [])) (fun _ k => XS.astore X59.here hx rfl (hb hby at_175) rfl rfl (l' := #[SI y0, SI y1, SI y2, SI y3, SJ ba, S2, SJ ot, S2, SI 3, SI se, SJ si, S2, SJ sq, S2, SJ kq, S2, SD dv, S2, SD dm, S2, SD ds, S2, SA cn, SU, SU, SU, SU, SU, SU, SU, SU, SU]) rfl k) ?_
    obtain ⟨T60, h60, X60, e60, E60, A60, D60, -, st60⟩ := newO X59 hx hZ hown (hw _ (List.mem_of_getElem? (i := 75) rfl)) (hw _ (List.mem_of_getElem? (i := 76) rfl)) (hw _ (List.mem_of_getElem? (i := 77) rfl)) e59 (g := (mkF m 177 #[SI y0, SI y1, SI y2, SI y3, SJ ba, S2, SJ ot, S2, SI 3, SI se, SJ si, S2, SJ sq, S2, SJ kq, S2, SD dv, S2, SD dm, S2, SD ds, S2, SA cn, SU, SU, SU, SU, SU, SU, SU, SU, SU] [])) rfl (hb hby at_177) (by decide) (by decide)
    obtain ⟨of, g60⟩ : ∃ z, z = T59.heap.size := ⟨_, rfl⟩
    rw [← g60] at A60 D60 st60
    have ne_cn_of : cn ≠ of := fun q => Nat.lt_irrefl _ (Nat.lt_of_lt_of_eq E_cn.lt (g60.symm.trans q.symm))
    have ge_of : n0 ≤ of := Nat.le_trans Z0 (Nat.le_of_eq g60.symm)
    have E_cn := E_cn.ext E60
    have FVV := FVV.ext E60
    have Z0 := Nat.le_trans Z0 E60.1
    have kS := Nat.le_trans kS E60.1
    have E_of := A60
    have F_count_of : Fld Z h60 of "com/example/gaugefit/gaugefit/core/CountOffset" "count" "Lcom/example/gaugefit/gaugefit/core/Count;" .null := D60 (Or.inr (hw _ (List.mem_of_getElem? (i := 86) rfl))) (ty := (.object "com/example/gaugefit/gaugefit/core/Count")) (by decide)
    have F_simulated_of : Fld Z h60 of "com/example/gaugefit/gaugefit/core/CountOffset" "simulated" "D" (.double (0 : UInt64)) := D60 (Or.inr (hw _ (List.mem_of_getElem? (i := 88) rfl))) (ty := .double) (by decide)
    have F_stddev_of : Fld Z h60 of "com/example/gaugefit/gaugefit/core/CountOffset" "stddev" "D" (.double (0 : UInt64)) := D60 (Or.inr (hw _ (List.mem_of_getElem? (i := 93) rfl))) (ty := .double) (by decide)
    refine Goes.by (T' := T60) (g' := (mkF m 180 #[SI y0, SI y1, SI y2, SI y3, SJ ba, S2, SJ ot, S2, SI 3, SI se, SJ si, S2, SJ sq, S2, SJ kq, S2, SD dv, S2, SD dm, S2, SD ds, S2, SA cn, SU, SU, SU, SU, SU, SU, SU, SU, SU] [(.ref of)])) st60 ?_
    refine Goes.by (T' := T60) (g' := (mkF m 181 #[SI y0, SI y1, SI y2, SI y3, SJ ba, S2, SJ ot, S2, SI 3, SI se, SJ si, S2, SJ sq, S2, SJ kq, S2, SD dv, S2, SD dm, S2, SD ds, S2, SA cn, SU, SU, SU, SU, SU, SU, SU, SU, SU] [(.ref of), (.ref of)])) (fun _ k => XS.dup X60.here hx rfl (hb hby at_180) rfl rfl k) ?_
    refine Goes.by (T' := T60) (g' := (mkF m 183 #[SI y0, SI y1, SI y2, SI y3, SJ ba, S2, SJ ot, S2, SI 3, SI se, SJ si, S2, SJ sq, S2, SJ kq, S2, SD dv, S2, SD dm, S2, SD ds, S2, SA cn, SU, SU, SU, SU, SU, SU, SU, SU, SU] [(.ref cn), (.ref of), (.ref of)])) (fun _ k => XS.aload X60.here hx rfl (hb hby at_181) rfl rfl k) ?_
    refine Goes.by (T' := T60) (g' := (mkF m 185 #[SI y0, SI y1, SI y2, SI y3, SJ ba, S2, SJ ot, S2, SI 3, SI se, SJ si, S2, SJ sq, S2, SJ kq, S2, SD dv, S2, SD dm, S2, SD ds, S2, SA cn, SU, SU, SU, SU, SU, SU, SU, SU, SU] [(.double dm), (.ref cn), (.ref of), (.ref of)])) (fun _ k => XS.dload X60.here hx rfl (hb hby at_183) rfl k) ?_
    refine Goes.by (T' := T60) (g' := (mkF m 187 #[SI y0, SI y1, SI y2, SI y3, SJ ba, S2, SJ ot, S2, SI 3, SI se, SJ si, S2, SJ sq, S2, SJ kq, S2, SD dv, S2, SD dm, S2, SD ds, S2, SA cn, SU, SU, SU, SU, SU, SU, SU, SU, SU] [(.double ds), (.double dm), (.ref cn), (.ref of), (.ref of)])) (fun _ k => XS.dload X60.here hx rfl (hb hby at_185) rfl k) ?_
    obtain ⟨v61, T61, L61, kk61, X61, hQ61, hS, kN61, hZ, hown, st61⟩ := callIS X60 hS kS hx hZ (y := (⟨"com/example/gaugefit/gaugefit/core/CountOffset", "<init>", "(Lcom/example/gaugefit/gaugefit/core/Count;DD)V"⟩ : MethodName)) rfl hown (hw _ (List.mem_of_getElem? (i := 78) rfl)) (hw _ (List.mem_of_getElem? (i := 79) rfl)) (hw _ (List.mem_of_getElem? (i := 80) rfl)) (hw _ (List.mem_of_getElem? (i := 77) rfl)) (by decide) e60 (a := of) (argsL := [(.ref cn), (.double dm), (.double ds)]) (rest := [(.ref of)]) (W := 1) (rm_cof l Z a0 hw of cn dm ds ot.toInt _ h60 n0 Z0 E_of F_count_of F_simulated_of F_stddev_of ge_of D_dm (by omega) (Zv.of_int D_ds) (own_sgn.1 (by omega))) rfl (by decide) (by decide) (by decide) (by decide) (g := (mkF m 187 #[SI y0, SI y1, SI y2, SI y3, SJ ba, S2, SJ ot, S2, SI 3, SI se, SJ si, S2, SJ sq, S2, SJ kq, S2, SD dv, S2, SD dm, S2, SD ds, S2, SA cn, SU, SU, SU, SU, SU, SU, SU, SU, SU] [(.double ds), (.double dm), (.ref cn), (.ref of), (.ref of)])) rfl (by rw [hml]; rfl) (lenOf pd9 rfl) rfl (by show 2 * 0 + _ ≤ _; exact Nat.le_of_eq rfl) (hb hby at_187)
    obtain ⟨rfl, -, G1, G2, G3, K61, NL61⟩ := hQ61
    have N0 := Fr.app N0 NL61
    have e61 : T61.heap = T61.heap := rfl
    have E_cn := E_cn.keep K61
    have FVV := FVV.keep K61 (ninS ne_cn_of nin0)
    have E_of := E_of.keep K61
    have Z0 := Nat.le_trans Z0 K61.1
    have kS := Nat.le_trans kS K61.1
    have kS := kN61
    refine Goes.by (T' := T61) (g' := (mkF m 190 #[SI y0, SI y1, SI y2, SI y3, SJ ba, S2, SJ ot, S2, SI 3, SI se, SJ si, S2, SJ sq, S2, SJ kq, S2, SD dv, S2, SD dm, S2, SD ds, S2, SA cn, SU, SU, SU, SU, SU, SU, SU, SU, SU] [(.ref of)])) st61 ?_
    obtain ⟨v62, T62, L62, X62, hQ62, st62⟩ := callV X61 hx hZ (y := (⟨"com/example/gaugefit/gaugefit/core/CountOffset", "getOffset", "()D"⟩ : MethodName)) hown (hw _ (List.mem_of_getElem? (i := 94) rfl)) (hw _ (List.mem_of_getElem? (i := 95) rfl)) (hw _ (List.mem_of_getElem? (i := 97) rfl)) (hw _ (List.mem_of_getElem? (i := 96) rfl)) (hw _ (List.mem_of_getElem? (i := 98) rfl)) (hw _ (List.mem_of_getElem? (i := 77) rfl)) (by decide) e61 E_of (argsL := []) (rest := []) (W := 0) (rm_go l Z a0 hw of cn dv dm ds r1 r2 r3 T61.heap n0 Z0 E_cn FVV G1 G2 G3 q1 q2 q3 nn1 nn2 nn3) rfl (by decide) (by decide) (by decide) (by decide) (g := (mkF m 190 #[SI y0, SI y1, SI y2, SI y3, SJ ba, S2, SJ ot, S2, SI 3, SI se, SJ si, S2, SJ sq, S2, SJ kq, S2, SD dv, S2, SD dm, S2, SD ds, S2, SA cn, SU, SU, SU, SU, SU, SU, SU, SU, SU] [(.ref of)])) rfl (by rw [hml]; rfl) (lenOf pd10 rfl) rfl (by show 2 * 0 + _ ≤ _; exact Nat.le_of_eq rfl) (hb hby at_190)
    obtain ⟨rfl, NL62, hk62⟩ := hQ62
    have N0 := Fr.app N0 NL62
    refine Goes.by (T' := T62) (g' := (mkF m 193 #[SI y0, SI y1, SI y2, SI y3, SJ ba, S2, SJ ot, S2, SI 3, SI se, SJ si, S2, SJ sq, S2, SJ kq, S2, SD dv, S2, SD dm, S2, SD ds, S2, SA cn, SU, SU, SU, SU, SU, SU, SU, SU, SU] [(.double r3)])) st62 ?_
    refine Goes.by (T' := T62) (g' := (mkF m 195 #[SI y0, SI y1, SI y2, SI y3, SJ ba, S2, SJ ot, S2, SI 3, SI se, SJ si, S2, SJ sq, S2, SJ kq, S2, SD dv, S2, SD dm, S2, SD ds, S2, SA cn, SD r3, S2, SU, SU, SU, SU, SU, SU, SU] [])) (fun _ k => XS.dstore X62.here hx rfl (hb hby at_193) rfl (l' := #[SI y0, SI y1, SI y2, SI y3, SJ ba, S2, SJ ot, S2, SI 3, SI se, SJ si, S2, SJ sq, S2, SJ kq, S2, SD dv, S2, SD dm, S2, SD ds, S2, SA cn, SD r3, S2, SU, SU, SU, SU, SU, SU, SU]) rfl k) ?_
    refine Goes.by (T' := T62) (g' := (mkF m 197 #[SI y0, SI y1, SI y2, SI y3, SJ ba, S2, SJ ot, S2, SI 3, SI se, SJ si, S2, SJ sq, S2, SJ kq, S2, SD dv, S2, SD dm, S2, SD ds, S2, SA cn, SD r3, S2, SU, SU, SU, SU, SU, SU, SU] [(.int (3 : Int32))])) (fun _ k => XS.iload X62.here hx rfl (hb hby at_195) rfl k) ?_
    refine Goes.by (T' := T62) (g' := (mkF m 215 #[SI y0, SI y1, SI y2, SI y3, SJ ba, S2, SJ ot, S2, SI 3, SI se, SJ si, S2, SJ sq, S2, SJ kq, S2, SD dv, S2, SD dm, S2, SD ds, S2, SA cn, SD r3, S2, SU, SU, SU, SU, SU, SU, SU] [])) (fun _ k => XS.ifYes X62.here hx rfl (pc0 := 197) (pc' := 215) rfl (hb hby at_197) rfl (by decide) (by decide) (by decide) k) ?_
    refine Goes.by (T' := T62) (g' := (mkF m 217 #[SI y0, SI y1, SI y2, SI y3, SJ ba, S2, SJ ot, S2, SI 3, SI se, SJ si, S2, SJ sq, S2, SJ kq, S2, SD dv, S2, SD dm, S2, SD ds, S2, SA cn, SD r3, S2, SU, SU, SU, SU, SU, SU, SU] [(.int (3 : Int32))])) (fun _ k => XS.iload X62.here hx rfl (hb hby at_215) rfl k) ?_
    refine Goes.by (T' := T62) (g' := (mkF m 218 #[SI y0, SI y1, SI y2, SI y3, SJ ba, S2, SJ ot, S2, SI 3, SI se, SJ si, S2, SJ sq, S2, SJ kq, S2, SD dv, S2, SD dm, S2, SD ds, S2, SA cn, SD r3, S2, SU, SU, SU, SU, SU, SU, SU] [(.int (1 : Int32)), (.int (3 : Int32))])) (fun _ k => XS.iconst X62.here hx rfl (hb hby at_217)  k) ?_
    refine Goes.by (T' := T62) (g' := (mkF m 237 #[SI y0, SI y1, SI y2, SI y3, SJ ba, S2, SJ ot, S2, SI 3, SI se, SJ si, S2, SJ sq, S2, SJ kq, S2, SD dv, S2, SD dm, S2, SD ds, S2, SA cn, SD r3, S2, SU, SU, SU, SU, SU, SU, SU] [])) (fun _ k => XS.icmpYes X62.here hx rfl (pc0 := 218) (pc' := 237) rfl (hb hby at_218) rfl (by decide) (by decide) (by decide) k) ?_
    refine Goes.by (T' := T62) (g' := (mkF m 239 #[SI y0, SI y1, SI y2, SI y3, SJ ba, S2, SJ ot, S2, SI 3, SI se, SJ si, S2, SJ sq, S2, SJ kq, S2, SD dv, S2, SD dm, S2, SD ds, S2, SA cn, SD r3, S2, SU, SU, SU, SU, SU, SU, SU] [(.long ba)])) (fun _ k => XS.lload X62.here hx rfl (hb hby at_237) rfl k) ?_
    refine Goes.by (T' := T62) (g' := (mkF m 241 #[SI y0, SI y1, SI y2, SI y3, SJ ba, S2, SJ ot, S2, SI 3, SI se, SJ si, S2, SJ sq, S2, SJ kq, S2, SD dv, S2, SD dm, S2, SD ds, S2, SA cn, SD r3, S2, SU, SU, SU, SU, SU, SU, SU] [(.long ot), (.long ba)])) (fun _ k => XS.lload X62.here hx rfl (hb hby at_239) rfl k) ?_
    refine Goes.by (T' := T62) (g' := (mkF m 242 #[SI y0, SI y1, SI y2, SI y3, SJ ba, S2, SJ ot, S2, SI 3, SI se, SJ si, S2, SJ sq, S2, SJ kq, S2, SD dv, S2, SD dm, S2, SD ds, S2, SA cn, SD r3, S2, SU, SU, SU, SU, SU, SU, SU] [(.long (ba - ot))])) (fun _ k => XS.lsub X62.here hx rfl (hb hby at_241) rfl k) ?_
    rw [← hdq]
    refine Goes.by (T' := T62) (g' := (mkF m 244 #[SI y0, SI y1, SI y2, SI y3, SJ ba, S2, SJ ot, S2, SI 3, SI se, SJ si, S2, SJ sq, S2, SJ kq, S2, SD dv, S2, SD dm, S2, SD ds, S2, SA cn, SD r3, S2, SJ di, S2, SU, SU, SU, SU, SU] [])) (fun _ k => XS.lstore X62.here hx rfl (hb hby at_242) rfl (l' := #[SI y0, SI y1, SI y2, SI y3, SJ ba, S2, SJ ot, S2, SI 3, SI se, SJ si, S2, SJ sq, S2, SJ kq, S2, SD dv, S2, SD dm, S2, SD ds, S2, SA cn, SD r3, S2, SJ di, S2, SU, SU, SU, SU, SU]) rfl k) ?_
    refine Goes.by (T' := T62) (g' := (mkF m 246 #[SI y0, SI y1, SI y2, SI y3, SJ ba, S2, SJ ot, S2, SI 3, SI se, SJ si, S2, SJ sq, S2, SJ kq, S2, SD dv, S2, SD dm, S2, SD ds, S2, SA cn, SD r3, S2, SJ di, S2, SU, SU, SU, SU, SU] [(.long di)])) (fun _ k => XS.lload X62.here hx rfl (hb hby at_244) rfl k) ?_
    refine Goes.by (T' := T62) (g' := (mkF m 247 #[SI y0, SI y1, SI y2, SI y3, SJ ba, S2, SJ ot, S2, SI 3, SI se, SJ si, S2, SJ sq, S2, SJ kq, S2, SD dv, S2, SD dm, S2, SD ds, S2, SA cn, SD r3, S2, SJ di, S2, SU, SU, SU, SU, SU] [(.long (0 : Int64)), (.long di)])) (fun _ k => XS.lconst X62.here hx rfl (hb hby at_246)  k) ?_
    rcases (by omega : 0 < di.toInt ∨ di.toInt = 0 ∨ di.toInt < 0) with hs | hs | hs
    · obtain ⟨hm, hbd⟩ := s1 hs
      refine Goes.by (T' := T62) (g' := (mkF m 248 #[SI y0, SI y1, SI y2, SI y3, SJ ba, S2, SJ ot, S2, SI 3, SI se, SJ si, S2, SJ sq, S2, SJ kq, S2, SD dv, S2, SD dm, S2, SD ds, S2, SA cn, SD r3, S2, SJ di, S2, SU, SU, SU, SU, SU] [(.int (1 : Int32))])) (fun _ k => XS.lcmpS X62.here hx rfl (hb hby at_247) rfl (cmpL_gtI (by rw [own_l0]; exact hs)) k) ?_
      refine Goes.by (T' := T62) (g' := (mkF m 251 #[SI y0, SI y1, SI y2, SI y3, SJ ba, S2, SJ ot, S2, SI 3, SI se, SJ si, S2, SJ sq, S2, SJ kq, S2, SD dv, S2, SD dm, S2, SD ds, S2, SA cn, SD r3, S2, SJ di, S2, SU, SU, SU, SU, SU] [])) (fun _ k => XS.ifNo X62.here hx rfl (hb hby at_248) rfl (by decide) k) ?_
      refine Goes.by (T' := T62) (g' := (mkF m 253 #[SI y0, SI y1, SI y2, SI y3, SJ ba, S2, SJ ot, S2, SI 3, SI se, SJ si, S2, SJ sq, S2, SJ kq, S2, SD dv, S2, SD dm, S2, SD ds, S2, SA cn, SD r3, S2, SJ di, S2, SU, SU, SU, SU, SU] [(.double r3)])) (fun _ k => XS.dload X62.here hx rfl (hb hby at_251) rfl k) ?_
      refine Goes.by (T' := T62) (g' := (mkF m 254 #[SI y0, SI y1, SI y2, SI y3, SJ ba, S2, SJ ot, S2, SI 3, SI se, SJ si, S2, SJ sq, S2, SJ kq, S2, SD dv, S2, SD dm, S2, SD ds, S2, SA cn, SD r3, S2, SJ di, S2, SU, SU, SU, SU, SU] [(.double (0 : UInt64)), (.double r3)])) (fun _ k => XS.dconst0 X62.here hx rfl (hb hby at_253) rfl k) ?_
      refine Goes.by (T' := T62) (g' := (mkF m 255 #[SI y0, SI y1, SI y2, SI y3, SJ ba, S2, SJ ot, S2, SI 3, SI se, SJ si, S2, SJ sq, S2, SJ kq, S2, SD dv, S2, SD dm, S2, SD ds, S2, SA cn, SD r3, S2, SJ di, S2, SU, SU, SU, SU, SU] [(.int (1 : Int32))])) (fun _ k => XS.dcmpS X62.here hx rfl (hb hby at_254) rfl (Z3m.cmp_gt Zv.zero hm _) k) ?_
      refine Goes.by (T' := T62) (g' := (mkF m 258 #[SI y0, SI y1, SI y2, SI y3, SJ ba, S2, SJ ot, S2, SI 3, SI se, SJ si, S2, SJ sq, S2, SJ kq, S2, SD dv, S2, SD dm, S2, SD ds, S2, SA cn, SD r3, S2, SJ di, S2, SU, SU, SU, SU, SU] [])) (fun _ k => XS.ifNo X62.here hx rfl (hb hby at_255) rfl (by decide) k) ?_
      refine Goes.by (T' := T62) (g' := (mkF m 259 #[SI y0, SI y1, SI y2, SI y3, SJ ba, S2, SJ ot, S2, SI 3, SI se, SJ si, S2, SJ sq, S2, SJ kq, S2, SD dv, S2, SD dm, S2, SD ds, S2, SA cn, SD r3, S2, SJ di, S2, SU, SU, SU, SU, SU] [(.int (1 : Int32))])) (fun _ k => XS.iconst X62.here hx rfl (hb hby at_258)  k) ?_
      refine Goes.by (T' := T62) (g' := (mkF m 263 #[SI y0, SI y1, SI y2, SI y3, SJ ba, S2, SJ ot, S2, SI 3, SI se, SJ si, S2, SJ sq, S2, SJ kq, S2, SD dv, S2, SD dm, S2, SD ds, S2, SA cn, SD r3, S2, SJ di, S2, SU, SU, SU, SU, SU] [(.int (1 : Int32))])) (fun _ k => XS.goto X62.here hx rfl (pc0 := 259) (pc' := 263) rfl (hb hby at_259) (by decide) (by decide) k) ?_
      refine Goes.by (T' := T62) (g' := (mkF m 265 #[SI y0, SI y1, SI y2, SI y3, SJ ba, S2, SJ ot, S2, SI 3, SI se, SJ si, S2, SJ sq, S2, SJ kq, S2, SD dv, S2, SD dm, S2, SD ds, S2, SA cn, SD r3, S2, SJ di, S2, SI 1, SU, SU, SU, SU] [])) (fun _ k => XS.istore X62.here hx rfl (hb hby at_263) rfl (l' := #[SI y0, SI y1, SI y2, SI y3, SJ ba, S2, SJ ot, S2, SI 3, SI se, SJ si, S2, SJ sq, S2, SJ kq, S2, SD dv, S2, SD dm, S2, SD ds, S2, SA cn, SD r3, S2, SJ di, S2, SI 1, SU, SU, SU, SU]) rfl k) ?_
      refine Goes.by (T' := T62) (g' := (mkF m 306 #[SI y0, SI y1, SI y2, SI y3, SJ ba, S2, SJ ot, S2, SI 3, SI se, SJ si, S2, SJ sq, S2, SJ kq, S2, SD dv, S2, SD dm, S2, SD ds, S2, SA cn, SD r3, S2, SJ di, S2, SI 1, SU, SU, SU, SU] [])) (fun _ k => XS.goto X62.here hx rfl (pc0 := 265) (pc' := 306) rfl (hb hby at_265) (by decide) (by decide) k) ?_
      refine Goes.by (T' := T62) (g' := (mkF m 308 #[SI y0, SI y1, SI y2, SI y3, SJ ba, S2, SJ ot, S2, SI 3, SI se, SJ si, S2, SJ sq, S2, SJ kq, S2, SD dv, S2, SD dm, S2, SD ds, S2, SA cn, SD r3, S2, SJ di, S2, SI 1, SU, SU, SU, SU] [(.int (3 : Int32))])) (fun _ k => XS.iload X62.here hx rfl (hb hby at_306) rfl k) ?_
      refine Goes.by (T' := T62) (g' := (mkF m 309 #[SI y0, SI y1, SI y2, SI y3, SJ ba, S2, SJ ot, S2, SI 3, SI se, SJ si, S2, SJ sq, S2, SJ kq, S2, SD dv, S2, SD dm, S2, SD ds, S2, SA cn, SD r3, S2, SJ di, S2, SI 1, SU, SU, SU, SU] [(.int (2 : Int32)), (.int (3 : Int32))])) (fun _ k => XS.iconst X62.here hx rfl (hb hby at_308)  k) ?_
      refine Goes.by (T' := T62) (g' := (mkF m 338 #[SI y0, SI y1, SI y2, SI y3, SJ ba, S2, SJ ot, S2, SI 3, SI se, SJ si, S2, SJ sq, S2, SJ kq, S2, SD dv, S2, SD dm, S2, SD ds, S2, SA cn, SD r3, S2, SJ di, S2, SI 1, SU, SU, SU, SU] [])) (fun _ k => XS.icmpYes X62.here hx rfl (pc0 := 309) (pc' := 338) rfl (hb hby at_309) rfl (by decide) (by decide) (by decide) k) ?_
      refine Goes.by (T' := T62) (g' := (mkF m 340 #[SI y0, SI y1, SI y2, SI y3, SJ ba, S2, SJ ot, S2, SI 3, SI se, SJ si, S2, SJ sq, S2, SJ kq, S2, SD dv, S2, SD dm, S2, SD ds, S2, SA cn, SD r3, S2, SJ di, S2, SI 1, SU, SU, SU, SU] [(.double r3)])) (fun _ k => XS.dload X62.here hx rfl (hb hby at_338) rfl k) ?_
      refine Goes.by (T' := T62) (g' := (mkF m 341 #[SI y0, SI y1, SI y2, SI y3, SJ ba, S2, SJ ot, S2, SI 3, SI se, SJ si, S2, SJ sq, S2, SJ kq, S2, SD dv, S2, SD dm, S2, SD ds, S2, SA cn, SD r3, S2, SJ di, S2, SI 1, SU, SU, SU, SU] [(.double (0 : UInt64)), (.double r3)])) (fun _ k => XS.dconst0 X62.here hx rfl (hb hby at_340) rfl k) ?_
      refine Goes.by (T' := T62) (g' := (mkF m 342 #[SI y0, SI y1, SI y2, SI y3, SJ ba, S2, SJ ot, S2, SI 3, SI se, SJ si, S2, SJ sq, S2, SJ kq, S2, SD dv, S2, SD dm, S2, SD ds, S2, SA cn, SD r3, S2, SJ di, S2, SI 1, SU, SU, SU, SU] [(.int (1 : Int32))])) (fun _ k => XS.dcmpS X62.here hx rfl (hb hby at_341) rfl (Z3m.cmp_gt Zv.zero hm _) k) ?_
      refine Goes.by (T' := T62) (g' := (mkF m 351 #[SI y0, SI y1, SI y2, SI y3, SJ ba, S2, SJ ot, S2, SI 3, SI se, SJ si, S2, SJ sq, S2, SJ kq, S2, SD dv, S2, SD dm, S2, SD ds, S2, SA cn, SD r3, S2, SJ di, S2, SI 1, SU, SU, SU, SU] [])) (fun _ k => XS.ifYes X62.here hx rfl (pc0 := 342) (pc' := 351) rfl (hb hby at_342) rfl (by decide) (by decide) (by decide) k) ?_
      refine Goes.by (T' := T62) (g' := (mkF m 353 #[SI y0, SI y1, SI y2, SI y3, SJ ba, S2, SJ ot, S2, SI 3, SI se, SJ si, S2, SJ sq, S2, SJ kq, S2, SD dv, S2, SD dm, S2, SD ds, S2, SA cn, SD r3, S2, SJ di, S2, SI 1, SU, SU, SU, SU] [(.double r3)])) (fun _ k => XS.dload X62.here hx rfl (hb hby at_351) rfl k) ?_
      refine Goes.by (T' := T62) (g' := (mkF m 355 #[SI y0, SI y1, SI y2, SI y3, SJ ba, S2, SJ ot, S2, SI 3, SI se, SJ si, S2, SJ sq, S2, SJ kq, S2, SD dv, S2, SD dm, S2, SD ds, S2, SA cn, SD r3, S2, SJ di, S2, SI 1, SD r3, S2, SU, SU] [])) (fun _ k => XS.dstore X62.here hx rfl (hb hby at_353) rfl (l' := #[SI y0, SI y1, SI y2, SI y3, SJ ba, S2, SJ ot, S2, SI 3, SI se, SJ si, S2, SJ sq, S2, SJ kq, S2, SD dv, S2, SD dm, S2, SD ds, S2, SA cn, SD r3, S2, SJ di, S2, SI 1, SD r3, S2, SU, SU]) rfl k) ?_
      refine Goes.by (T' := T62) (g' := (mkF m 357 #[SI y0, SI y1, SI y2, SI y3, SJ ba, S2, SJ ot, S2, SI 3, SI se, SJ si, S2, SJ sq, S2, SJ kq, S2, SD dv, S2, SD dm, S2, SD ds, S2, SA cn, SD r3, S2, SJ di, S2, SI 1, SD r3, S2, SU, SU] [(.long di)])) (fun _ k => XS.lload X62.here hx rfl (hb hby at_355) rfl k) ?_
      obtain ⟨v63, T63, L63, X63, hQ63, st63⟩ := callC X62 hx hZ (y := (⟨"java/lang/Math", "abs", "(J)J"⟩ : MethodName)) hown (hw _ (List.mem_of_getElem? (i := 104) rfl)) (hw _ (List.mem_of_getElem? (i := 105) rfl)) (hw _ (List.mem_of_getElem? (i := 106) rfl)) (hw _ (List.mem_of_getElem? (i := 59) rfl)) (by decide) hk62 (argsL := [(.long di)]) (rest := []) (W := 0) (rm_abs l Z a0 hw di T61.heap n0 Z0 (by omega)) rfl (by decide) (by decide) (by decide) (by decide) (g := (mkF m 357 #[SI y0, SI y1, SI y2, SI y3, SJ ba, S2, SJ ot, S2, SI 3, SI se, SJ si, S2, SJ sq, S2, SJ kq, S2, SD dv, S2, SD dm, S2, SD ds, S2, SA cn, SD r3, S2, SJ di, S2, SI 1, SD r3, S2, SU, SU] [(.long di)])) rfl (by rw [hml]; rfl) (lenOf pd11 rfl) rfl (by show 2 * 0 + _ ≤ _; exact Nat.le_of_eq rfl) (hb hby at_357)
      obtain ⟨za, rfl, hza, NL63, hk63⟩ := hQ63
      have N0 := Fr.app N0 NL63
      refine Goes.by (T' := T63) (g' := (mkF m 360 #[SI y0, SI y1, SI y2, SI y3, SJ ba, S2, SJ ot, S2, SI 3, SI se, SJ si, S2, SJ sq, S2, SJ kq, S2, SD dv, S2, SD dm, S2, SD ds, S2, SA cn, SD r3, S2, SJ di, S2, SI 1, SD r3, S2, SU, SU] [(.long za)])) st63 ?_
      refine Goes.by (T' := T63) (g' := (mkF m 362 #[SI y0, SI y1, SI y2, SI y3, SJ ba, S2, SJ ot, S2, SI 3, SI se, SJ si, S2, SJ sq, S2, SJ kq, S2, SD dv, S2, SD dm, S2, SD ds, S2, SA cn, SD r3, S2, SJ di, S2, SI 1, SD r3, S2, SJ za, S2] [])) (fun _ k => XS.lstore X63.here hx rfl (hb hby at_360) rfl (l' := #[SI y0, SI y1, SI y2, SI y3, SJ ba, S2, SJ ot, S2, SI 3, SI se, SJ si, S2, SJ sq, S2, SJ kq, S2, SD dv, S2, SD dm, S2, SD ds, S2, SA cn, SD r3, S2, SJ di, S2, SI 1, SD r3, S2, SJ za, S2]) rfl k) ?_
      refine Goes.by (T' := T63) (g' := (mkF m 364 #[SI y0, SI y1, SI y2, SI y3, SJ ba, S2, SJ ot, S2, SI 3, SI se, SJ si, S2, SJ sq, S2, SJ kq, S2, SD dv, S2, SD dm, S2, SD ds, S2, SA cn, SD r3, S2, SJ di, S2, SI 1, SD r3, S2, SJ za, S2] [(.int (1 : Int32))])) (fun _ k => XS.iload X63.here hx rfl (hb hby at_362) rfl k) ?_
      refine Goes.by (T' := T63) (g' := (mkF m 367 #[SI y0, SI y1, SI y2, SI y3, SJ ba, S2, SJ ot, S2, SI 3, SI se, SJ si, S2, SJ sq, S2, SJ kq, S2, SD dv, S2, SD dm, S2, SD ds, S2, SA cn, SD r3, S2, SJ di, S2, SI 1, SD r3, S2, SJ za, S2] [])) (fun _ k => XS.ifNo X63.here hx rfl (hb hby at_364) rfl (by decide) k) ?_
      refine Goes.by (T' := T63) (g' := (mkF m 369 #[SI y0, SI y1, SI y2, SI y3, SJ ba, S2, SJ ot, S2, SI 3, SI se, SJ si, S2, SJ sq, S2, SJ kq, S2, SD dv, S2, SD dm, S2, SD ds, S2, SA cn, SD r3, S2, SJ di, S2, SI 1, SD r3, S2, SJ za, S2] [(.double r3)])) (fun _ k => XS.dload X63.here hx rfl (hb hby at_367) rfl k) ?_
      refine Goes.by (T' := T63) (g' := (mkF m 371 #[SI y0, SI y1, SI y2, SI y3, SJ ba, S2, SJ ot, S2, SI 3, SI se, SJ si, S2, SJ sq, S2, SJ kq, S2, SD dv, S2, SD dm, S2, SD ds, S2, SA cn, SD r3, S2, SJ di, S2, SI 1, SD r3, S2, SJ za, S2] [(.long za), (.double r3)])) (fun _ k => XS.lload X63.here hx rfl (hb hby at_369) rfl k) ?_
      obtain ⟨dz, q_dz⟩ : ∃ zz, FP.l2d za = zz := ⟨_, rfl⟩
      refine Goes.by (T' := T63) (g' := (mkF m 372 #[SI y0, SI y1, SI y2, SI y3, SJ ba, S2, SJ ot, S2, SI 3, SI se, SJ si, S2, SJ sq, S2, SJ kq, S2, SD dv, S2, SD dm, S2, SD ds, S2, SA cn, SD r3, S2, SJ di, S2, SI 1, SD r3, S2, SJ za, S2] [(.double dz), (.double r3)])) (fun _ k => XS.l2dS X63.here hx rfl (hb hby at_371) rfl q_dz k) ?_
      have D_dz : Core.DInt za.toInt dz := DInt_l2d q_dz (by omega)
      have hle : m3 ≤ za.toInt * ((2 ^ 1074 : Nat) : Int) := by
        rw [show za.toInt = di.toInt by omega]
        exact hbd
      obtain ⟨cv, hcv, hcn⟩ := Z3m.cmp_le (Zv.of_int D_dz) hle .g
      refine Goes.by (T' := T63) (g' := (mkF m 373 #[SI y0, SI y1, SI y2, SI y3, SJ ba, S2, SJ ot, S2, SI 3, SI se, SJ si, S2, SJ sq, S2, SJ kq, S2, SD dv, S2, SD dm, S2, SD ds, S2, SA cn, SD r3, S2, SJ di, S2, SI 1, SD r3, S2, SJ za, S2] [(.int cv)])) (fun _ k => XS.dcmpS X63.here hx rfl (hb hby at_372) rfl hcv k) ?_
      refine Goes.by (T' := T63) (g' := (mkF m 376 #[SI y0, SI y1, SI y2, SI y3, SJ ba, S2, SJ ot, S2, SI 3, SI se, SJ si, S2, SJ sq, S2, SJ kq, S2, SD dv, S2, SD dm, S2, SD ds, S2, SA cn, SD r3, S2, SJ di, S2, SI 1, SD r3, S2, SJ za, S2] [])) (fun _ k => XS.ifNo X63.here hx rfl (hb hby at_373) rfl ((if0 _ _).trans (flt hcn).2.2.1) k) ?_
      refine Goes.by (T' := T63) (g' := (mkF m 377 #[SI y0, SI y1, SI y2, SI y3, SJ ba, S2, SJ ot, S2, SI 3, SI se, SJ si, S2, SJ sq, S2, SJ kq, S2, SD dv, S2, SD dm, S2, SD ds, S2, SA cn, SD r3, S2, SJ di, S2, SI 1, SD r3, S2, SJ za, S2] [(.int (1 : Int32))])) (fun _ k => XS.iconst X63.here hx rfl (hb hby at_376)  k) ?_
      refine Goes.by (T' := T63) (g' := (mkF m 381 #[SI y0, SI y1, SI y2, SI y3, SJ ba, S2, SJ ot, S2, SI 3, SI se, SJ si, S2, SJ sq, S2, SJ kq, S2, SD dv, S2, SD dm, S2, SD ds, S2, SA cn, SD r3, S2, SJ di, S2, SI 1, SD r3, S2, SJ za, S2] [(.int (1 : Int32))])) (fun _ k => XS.goto X63.here hx rfl (pc0 := 377) (pc' := 381) rfl (hb hby at_377) (by decide) (by decide) k) ?_
      exact outZS X63 hS (by rw [hk63]; exact kS) hx hlk hret (hb hby at_381) (by exact ⟨rfl, N0⟩) (by decide) (by decide)
    · have hm := s3 hs
      refine Goes.by (T' := T62) (g' := (mkF m 248 #[SI y0, SI y1, SI y2, SI y3, SJ ba, S2, SJ ot, S2, SI 3, SI se, SJ si, S2, SJ sq, S2, SJ kq, S2, SD dv, S2, SD dm, S2, SD ds, S2, SA cn, SD r3, S2, SJ di, S2, SU, SU, SU, SU, SU] [(.int (0 : Int32))])) (fun _ k => XS.lcmpS X62.here hx rfl (hb hby at_247) rfl (cmpL_eq (Int64.toInt_inj.mp (by rw [own_l0]; exact hs))) k) ?_
      refine Goes.by (T' := T62) (g' := (mkF m 268 #[SI y0, SI y1, SI y2, SI y3, SJ ba, S2, SJ ot, S2, SI 3, SI se, SJ si, S2, SJ sq, S2, SJ kq, S2, SD dv, S2, SD dm, S2, SD ds, S2, SA cn, SD r3, S2, SJ di, S2, SU, SU, SU, SU, SU] [])) (fun _ k => XS.ifYes X62.here hx rfl (pc0 := 248) (pc' := 268) rfl (hb hby at_248) rfl (by decide) (by decide) (by decide) k) ?_
      refine Goes.by (T' := T62) (g' := (mkF m 270 #[SI y0, SI y1, SI y2, SI y3, SJ ba, S2, SJ ot, S2, SI 3, SI se, SJ si, S2, SJ sq, S2, SJ kq, S2, SD dv, S2, SD dm, S2, SD ds, S2, SA cn, SD r3, S2, SJ di, S2, SU, SU, SU, SU, SU] [(.long di)])) (fun _ k => XS.lload X62.here hx rfl (hb hby at_268) rfl k) ?_
      refine Goes.by (T' := T62) (g' := (mkF m 271 #[SI y0, SI y1, SI y2, SI y3, SJ ba, S2, SJ ot, S2, SI 3, SI se, SJ si, S2, SJ sq, S2, SJ kq, S2, SD dv, S2, SD dm, S2, SD ds, S2, SA cn, SD r3, S2, SJ di, S2, SU, SU, SU, SU, SU] [(.long (0 : Int64)), (.long di)])) (fun _ k => XS.lconst X62.here hx rfl (hb hby at_270)  k) ?_
      refine Goes.by (T' := T62) (g' := (mkF m 272 #[SI y0, SI y1, SI y2, SI y3, SJ ba, S2, SJ ot, S2, SI 3, SI se, SJ si, S2, SJ sq, S2, SJ kq, S2, SD dv, S2, SD dm, S2, SD ds, S2, SA cn, SD r3, S2, SJ di, S2, SU, SU, SU, SU, SU] [(.int (0 : Int32))])) (fun _ k => XS.lcmpS X62.here hx rfl (hb hby at_271) rfl (cmpL_eq (Int64.toInt_inj.mp (by rw [own_l0]; exact hs))) k) ?_
      refine Goes.by (T' := T62) (g' := (mkF m 292 #[SI y0, SI y1, SI y2, SI y3, SJ ba, S2, SJ ot, S2, SI 3, SI se, SJ si, S2, SJ sq, S2, SJ kq, S2, SD dv, S2, SD dm, S2, SD ds, S2, SA cn, SD r3, S2, SJ di, S2, SU, SU, SU, SU, SU] [])) (fun _ k => XS.ifYes X62.here hx rfl (pc0 := 272) (pc' := 292) rfl (hb hby at_272) rfl (by decide) (by decide) (by decide) k) ?_
      refine Goes.by (T' := T62) (g' := (mkF m 294 #[SI y0, SI y1, SI y2, SI y3, SJ ba, S2, SJ ot, S2, SI 3, SI se, SJ si, S2, SJ sq, S2, SJ kq, S2, SD dv, S2, SD dm, S2, SD ds, S2, SA cn, SD r3, S2, SJ di, S2, SU, SU, SU, SU, SU] [(.double r3)])) (fun _ k => XS.dload X62.here hx rfl (hb hby at_292) rfl k) ?_
      refine Goes.by (T' := T62) (g' := (mkF m 295 #[SI y0, SI y1, SI y2, SI y3, SJ ba, S2, SJ ot, S2, SI 3, SI se, SJ si, S2, SJ sq, S2, SJ kq, S2, SD dv, S2, SD dm, S2, SD ds, S2, SA cn, SD r3, S2, SJ di, S2, SU, SU, SU, SU, SU] [(.double (0 : UInt64)), (.double r3)])) (fun _ k => XS.dconst0 X62.here hx rfl (hb hby at_294) rfl k) ?_
      refine Goes.by (T' := T62) (g' := (mkF m 296 #[SI y0, SI y1, SI y2, SI y3, SJ ba, S2, SJ ot, S2, SI 3, SI se, SJ si, S2, SJ sq, S2, SJ kq, S2, SD dv, S2, SD dm, S2, SD ds, S2, SA cn, SD r3, S2, SJ di, S2, SU, SU, SU, SU, SU] [(.int (0 : Int32))])) (fun _ k => XS.dcmpS X62.here hx rfl (hb hby at_295) rfl (Z3m.cmp_eq Zv.zero hm _) k) ?_
      refine Goes.by (T' := T62) (g' := (mkF m 299 #[SI y0, SI y1, SI y2, SI y3, SJ ba, S2, SJ ot, S2, SI 3, SI se, SJ si, S2, SJ sq, S2, SJ kq, S2, SD dv, S2, SD dm, S2, SD ds, S2, SA cn, SD r3, S2, SJ di, S2, SU, SU, SU, SU, SU] [])) (fun _ k => XS.ifNo X62.here hx rfl (hb hby at_296) rfl (by decide) k) ?_
      refine Goes.by (T' := T62) (g' := (mkF m 300 #[SI y0, SI y1, SI y2, SI y3, SJ ba, S2, SJ ot, S2, SI 3, SI se, SJ si, S2, SJ sq, S2, SJ kq, S2, SD dv, S2, SD dm, S2, SD ds, S2, SA cn, SD r3, S2, SJ di, S2, SU, SU, SU, SU, SU] [(.int (1 : Int32))])) (fun _ k => XS.iconst X62.here hx rfl (hb hby at_299)  k) ?_
      refine Goes.by (T' := T62) (g' := (mkF m 304 #[SI y0, SI y1, SI y2, SI y3, SJ ba, S2, SJ ot, S2, SI 3, SI se, SJ si, S2, SJ sq, S2, SJ kq, S2, SD dv, S2, SD dm, S2, SD ds, S2, SA cn, SD r3, S2, SJ di, S2, SU, SU, SU, SU, SU] [(.int (1 : Int32))])) (fun _ k => XS.goto X62.here hx rfl (pc0 := 300) (pc' := 304) rfl (hb hby at_300) (by decide) (by decide) k) ?_
      refine Goes.by (T' := T62) (g' := (mkF m 306 #[SI y0, SI y1, SI y2, SI y3, SJ ba, S2, SJ ot, S2, SI 3, SI se, SJ si, S2, SJ sq, S2, SJ kq, S2, SD dv, S2, SD dm, S2, SD ds, S2, SA cn, SD r3, S2, SJ di, S2, SI 1, SU, SU, SU, SU] [])) (fun _ k => XS.istore X62.here hx rfl (hb hby at_304) rfl (l' := #[SI y0, SI y1, SI y2, SI y3, SJ ba, S2, SJ ot, S2, SI 3, SI se, SJ si, S2, SJ sq, S2, SJ kq, S2, SD dv, S2, SD dm, S2, SD ds, S2, SA cn, SD r3, S2, SJ di, S2, SI 1, SU, SU, SU, SU]) rfl k) ?_
      refine Goes.by (T' := T62) (g' := (mkF m 308 #[SI y0, SI y1, SI y2, SI y3, SJ ba, S2, SJ ot, S2, SI 3, SI se, SJ si, S2, SJ sq, S2, SJ kq, S2, SD dv, S2, SD dm, S2, SD ds, S2, SA cn, SD r3, S2, SJ di, S2, SI 1, SU, SU, SU, SU] [(.int (3 : Int32))])) (fun _ k => XS.iload X62.here hx rfl (hb hby at_306) rfl k) ?_
      refine Goes.by (T' := T62) (g' := (mkF m 309 #[SI y0, SI y1, SI y2, SI y3, SJ ba, S2, SJ ot, S2, SI 3, SI se, SJ si, S2, SJ sq, S2, SJ kq, S2, SD dv, S2, SD dm, S2, SD ds, S2, SA cn, SD r3, S2, SJ di, S2, SI 1, SU, SU, SU, SU] [(.int (2 : Int32)), (.int (3 : Int32))])) (fun _ k => XS.iconst X62.here hx rfl (hb hby at_308)  k) ?_
      refine Goes.by (T' := T62) (g' := (mkF m 338 #[SI y0, SI y1, SI y2, SI y3, SJ ba, S2, SJ ot, S2, SI 3, SI se, SJ si, S2, SJ sq, S2, SJ kq, S2, SD dv, S2, SD dm, S2, SD ds, S2, SA cn, SD r3, S2, SJ di, S2, SI 1, SU, SU, SU, SU] [])) (fun _ k => XS.icmpYes X62.here hx rfl (pc0 := 309) (pc' := 338) rfl (hb hby at_309) rfl (by decide) (by decide) (by decide) k) ?_
      refine Goes.by (T' := T62) (g' := (mkF m 340 #[SI y0, SI y1, SI y2, SI y3, SJ ba, S2, SJ ot, S2, SI 3, SI se, SJ si, S2, SJ sq, S2, SJ kq, S2, SD dv, S2, SD dm, S2, SD ds, S2, SA cn, SD r3, S2, SJ di, S2, SI 1, SU, SU, SU, SU] [(.double r3)])) (fun _ k => XS.dload X62.here hx rfl (hb hby at_338) rfl k) ?_
      refine Goes.by (T' := T62) (g' := (mkF m 341 #[SI y0, SI y1, SI y2, SI y3, SJ ba, S2, SJ ot, S2, SI 3, SI se, SJ si, S2, SJ sq, S2, SJ kq, S2, SD dv, S2, SD dm, S2, SD ds, S2, SA cn, SD r3, S2, SJ di, S2, SI 1, SU, SU, SU, SU] [(.double (0 : UInt64)), (.double r3)])) (fun _ k => XS.dconst0 X62.here hx rfl (hb hby at_340) rfl k) ?_
      refine Goes.by (T' := T62) (g' := (mkF m 342 #[SI y0, SI y1, SI y2, SI y3, SJ ba, S2, SJ ot, S2, SI 3, SI se, SJ si, S2, SJ sq, S2, SJ kq, S2, SD dv, S2, SD dm, S2, SD ds, S2, SA cn, SD r3, S2, SJ di, S2, SI 1, SU, SU, SU, SU] [(.int (0 : Int32))])) (fun _ k => XS.dcmpS X62.here hx rfl (hb hby at_341) rfl (Z3m.cmp_eq Zv.zero hm _) k) ?_
      refine Goes.by (T' := T62) (g' := (mkF m 351 #[SI y0, SI y1, SI y2, SI y3, SJ ba, S2, SJ ot, S2, SI 3, SI se, SJ si, S2, SJ sq, S2, SJ kq, S2, SD dv, S2, SD dm, S2, SD ds, S2, SA cn, SD r3, S2, SJ di, S2, SI 1, SU, SU, SU, SU] [])) (fun _ k => XS.ifYes X62.here hx rfl (pc0 := 342) (pc' := 351) rfl (hb hby at_342) rfl (by decide) (by decide) (by decide) k) ?_
      refine Goes.by (T' := T62) (g' := (mkF m 353 #[SI y0, SI y1, SI y2, SI y3, SJ ba, S2, SJ ot, S2, SI 3, SI se, SJ si, S2, SJ sq, S2, SJ kq, S2, SD dv, S2, SD dm, S2, SD ds, S2, SA cn, SD r3, S2, SJ di, S2, SI 1, SU, SU, SU, SU] [(.double r3)])) (fun _ k => XS.dload X62.here hx rfl (hb hby at_351) rfl k) ?_
      refine Goes.by (T' := T62) (g' := (mkF m 355 #[SI y0, SI y1, SI y2, SI y3, SJ ba, S2, SJ ot, S2, SI 3, SI se, SJ si, S2, SJ sq, S2, SJ kq, S2, SD dv, S2, SD dm, S2, SD ds, S2, SA cn, SD r3, S2, SJ di, S2, SI 1, SD r3, S2, SU, SU] [])) (fun _ k => XS.dstore X62.here hx rfl (hb hby at_353) rfl (l' := #[SI y0, SI y1, SI y2, SI y3, SJ ba, S2, SJ ot, S2, SI 3, SI se, SJ si, S2, SJ sq, S2, SJ kq, S2, SD dv, S2, SD dm, S2, SD ds, S2, SA cn, SD r3, S2, SJ di, S2, SI 1, SD r3, S2, SU, SU]) rfl k) ?_
      refine Goes.by (T' := T62) (g' := (mkF m 357 #[SI y0, SI y1, SI y2, SI y3, SJ ba, S2, SJ ot, S2, SI 3, SI se, SJ si, S2, SJ sq, S2, SJ kq, S2, SD dv, S2, SD dm, S2, SD ds, S2, SA cn, SD r3, S2, SJ di, S2, SI 1, SD r3, S2, SU, SU] [(.long di)])) (fun _ k => XS.lload X62.here hx rfl (hb hby at_355) rfl k) ?_
      obtain ⟨v64, T64, L64, X64, hQ64, st64⟩ := callC X62 hx hZ (y := (⟨"java/lang/Math", "abs", "(J)J"⟩ : MethodName)) hown (hw _ (List.mem_of_getElem? (i := 104) rfl)) (hw _ (List.mem_of_getElem? (i := 105) rfl)) (hw _ (List.mem_of_getElem? (i := 106) rfl)) (hw _ (List.mem_of_getElem? (i := 59) rfl)) (by decide) hk62 (argsL := [(.long di)]) (rest := []) (W := 0) (rm_abs l Z a0 hw di T61.heap n0 Z0 (by omega)) rfl (by decide) (by decide) (by decide) (by decide) (g := (mkF m 357 #[SI y0, SI y1, SI y2, SI y3, SJ ba, S2, SJ ot, S2, SI 3, SI se, SJ si, S2, SJ sq, S2, SJ kq, S2, SD dv, S2, SD dm, S2, SD ds, S2, SA cn, SD r3, S2, SJ di, S2, SI 1, SD r3, S2, SU, SU] [(.long di)])) rfl (by rw [hml]; rfl) (lenOf pd11 rfl) rfl (by show 2 * 0 + _ ≤ _; exact Nat.le_of_eq rfl) (hb hby at_357)
      obtain ⟨za, rfl, hza, NL64, hk64⟩ := hQ64
      have N0 := Fr.app N0 NL64
      refine Goes.by (T' := T64) (g' := (mkF m 360 #[SI y0, SI y1, SI y2, SI y3, SJ ba, S2, SJ ot, S2, SI 3, SI se, SJ si, S2, SJ sq, S2, SJ kq, S2, SD dv, S2, SD dm, S2, SD ds, S2, SA cn, SD r3, S2, SJ di, S2, SI 1, SD r3, S2, SU, SU] [(.long za)])) st64 ?_
      refine Goes.by (T' := T64) (g' := (mkF m 362 #[SI y0, SI y1, SI y2, SI y3, SJ ba, S2, SJ ot, S2, SI 3, SI se, SJ si, S2, SJ sq, S2, SJ kq, S2, SD dv, S2, SD dm, S2, SD ds, S2, SA cn, SD r3, S2, SJ di, S2, SI 1, SD r3, S2, SJ za, S2] [])) (fun _ k => XS.lstore X64.here hx rfl (hb hby at_360) rfl (l' := #[SI y0, SI y1, SI y2, SI y3, SJ ba, S2, SJ ot, S2, SI 3, SI se, SJ si, S2, SJ sq, S2, SJ kq, S2, SD dv, S2, SD dm, S2, SD ds, S2, SA cn, SD r3, S2, SJ di, S2, SI 1, SD r3, S2, SJ za, S2]) rfl k) ?_
      refine Goes.by (T' := T64) (g' := (mkF m 364 #[SI y0, SI y1, SI y2, SI y3, SJ ba, S2, SJ ot, S2, SI 3, SI se, SJ si, S2, SJ sq, S2, SJ kq, S2, SD dv, S2, SD dm, S2, SD ds, S2, SA cn, SD r3, S2, SJ di, S2, SI 1, SD r3, S2, SJ za, S2] [(.int (1 : Int32))])) (fun _ k => XS.iload X64.here hx rfl (hb hby at_362) rfl k) ?_
      refine Goes.by (T' := T64) (g' := (mkF m 367 #[SI y0, SI y1, SI y2, SI y3, SJ ba, S2, SJ ot, S2, SI 3, SI se, SJ si, S2, SJ sq, S2, SJ kq, S2, SD dv, S2, SD dm, S2, SD ds, S2, SA cn, SD r3, S2, SJ di, S2, SI 1, SD r3, S2, SJ za, S2] [])) (fun _ k => XS.ifNo X64.here hx rfl (hb hby at_364) rfl (by decide) k) ?_
      refine Goes.by (T' := T64) (g' := (mkF m 369 #[SI y0, SI y1, SI y2, SI y3, SJ ba, S2, SJ ot, S2, SI 3, SI se, SJ si, S2, SJ sq, S2, SJ kq, S2, SD dv, S2, SD dm, S2, SD ds, S2, SA cn, SD r3, S2, SJ di, S2, SI 1, SD r3, S2, SJ za, S2] [(.double r3)])) (fun _ k => XS.dload X64.here hx rfl (hb hby at_367) rfl k) ?_
      refine Goes.by (T' := T64) (g' := (mkF m 371 #[SI y0, SI y1, SI y2, SI y3, SJ ba, S2, SJ ot, S2, SI 3, SI se, SJ si, S2, SJ sq, S2, SJ kq, S2, SD dv, S2, SD dm, S2, SD ds, S2, SA cn, SD r3, S2, SJ di, S2, SI 1, SD r3, S2, SJ za, S2] [(.long za), (.double r3)])) (fun _ k => XS.lload X64.here hx rfl (hb hby at_369) rfl k) ?_
      obtain ⟨dz, q_dz⟩ : ∃ zz, FP.l2d za = zz := ⟨_, rfl⟩
      refine Goes.by (T' := T64) (g' := (mkF m 372 #[SI y0, SI y1, SI y2, SI y3, SJ ba, S2, SJ ot, S2, SI 3, SI se, SJ si, S2, SJ sq, S2, SJ kq, S2, SD dv, S2, SD dm, S2, SD ds, S2, SA cn, SD r3, S2, SJ di, S2, SI 1, SD r3, S2, SJ za, S2] [(.double dz), (.double r3)])) (fun _ k => XS.l2dS X64.here hx rfl (hb hby at_371) rfl q_dz k) ?_
      have D_dz : Core.DInt za.toInt dz := DInt_l2d q_dz (by omega)
      have hle : m3 ≤ za.toInt * ((2 ^ 1074 : Nat) : Int) := by
        rw [show za.toInt = 0 by omega]
        rw [hm, Int.zero_mul]; exact Int.le_refl _
      obtain ⟨cv, hcv, hcn⟩ := Z3m.cmp_le (Zv.of_int D_dz) hle .g
      refine Goes.by (T' := T64) (g' := (mkF m 373 #[SI y0, SI y1, SI y2, SI y3, SJ ba, S2, SJ ot, S2, SI 3, SI se, SJ si, S2, SJ sq, S2, SJ kq, S2, SD dv, S2, SD dm, S2, SD ds, S2, SA cn, SD r3, S2, SJ di, S2, SI 1, SD r3, S2, SJ za, S2] [(.int cv)])) (fun _ k => XS.dcmpS X64.here hx rfl (hb hby at_372) rfl hcv k) ?_
      refine Goes.by (T' := T64) (g' := (mkF m 376 #[SI y0, SI y1, SI y2, SI y3, SJ ba, S2, SJ ot, S2, SI 3, SI se, SJ si, S2, SJ sq, S2, SJ kq, S2, SD dv, S2, SD dm, S2, SD ds, S2, SA cn, SD r3, S2, SJ di, S2, SI 1, SD r3, S2, SJ za, S2] [])) (fun _ k => XS.ifNo X64.here hx rfl (hb hby at_373) rfl ((if0 _ _).trans (flt hcn).2.2.1) k) ?_
      refine Goes.by (T' := T64) (g' := (mkF m 377 #[SI y0, SI y1, SI y2, SI y3, SJ ba, S2, SJ ot, S2, SI 3, SI se, SJ si, S2, SJ sq, S2, SJ kq, S2, SD dv, S2, SD dm, S2, SD ds, S2, SA cn, SD r3, S2, SJ di, S2, SI 1, SD r3, S2, SJ za, S2] [(.int (1 : Int32))])) (fun _ k => XS.iconst X64.here hx rfl (hb hby at_376)  k) ?_
      refine Goes.by (T' := T64) (g' := (mkF m 381 #[SI y0, SI y1, SI y2, SI y3, SJ ba, S2, SJ ot, S2, SI 3, SI se, SJ si, S2, SJ sq, S2, SJ kq, S2, SD dv, S2, SD dm, S2, SD ds, S2, SA cn, SD r3, S2, SJ di, S2, SI 1, SD r3, S2, SJ za, S2] [(.int (1 : Int32))])) (fun _ k => XS.goto X64.here hx rfl (pc0 := 377) (pc' := 381) rfl (hb hby at_377) (by decide) (by decide) k) ?_
      exact outZS X64 hS (by rw [hk64]; exact kS) hx hlk hret (hb hby at_381) (by exact ⟨rfl, N0⟩) (by decide) (by decide)
    · obtain ⟨hm, hbd⟩ := s2 hs
      refine Goes.by (T' := T62) (g' := (mkF m 248 #[SI y0, SI y1, SI y2, SI y3, SJ ba, S2, SJ ot, S2, SI 3, SI se, SJ si, S2, SJ sq, S2, SJ kq, S2, SD dv, S2, SD dm, S2, SD ds, S2, SA cn, SD r3, S2, SJ di, S2, SU, SU, SU, SU, SU] [(.int (-1 : Int32))])) (fun _ k => XS.lcmpS X62.here hx rfl (hb hby at_247) rfl (own_cmpL_ltI (by rw [own_l0]; exact hs)) k) ?_
      refine Goes.by (T' := T62) (g' := (mkF m 268 #[SI y0, SI y1, SI y2, SI y3, SJ ba, S2, SJ ot, S2, SI 3, SI se, SJ si, S2, SJ sq, S2, SJ kq, S2, SD dv, S2, SD dm, S2, SD ds, S2, SA cn, SD r3, S2, SJ di, S2, SU, SU, SU, SU, SU] [])) (fun _ k => XS.ifYes X62.here hx rfl (pc0 := 248) (pc' := 268) rfl (hb hby at_248) rfl (by decide) (by decide) (by decide) k) ?_
      refine Goes.by (T' := T62) (g' := (mkF m 270 #[SI y0, SI y1, SI y2, SI y3, SJ ba, S2, SJ ot, S2, SI 3, SI se, SJ si, S2, SJ sq, S2, SJ kq, S2, SD dv, S2, SD dm, S2, SD ds, S2, SA cn, SD r3, S2, SJ di, S2, SU, SU, SU, SU, SU] [(.long di)])) (fun _ k => XS.lload X62.here hx rfl (hb hby at_268) rfl k) ?_
      refine Goes.by (T' := T62) (g' := (mkF m 271 #[SI y0, SI y1, SI y2, SI y3, SJ ba, S2, SJ ot, S2, SI 3, SI se, SJ si, S2, SJ sq, S2, SJ kq, S2, SD dv, S2, SD dm, S2, SD ds, S2, SA cn, SD r3, S2, SJ di, S2, SU, SU, SU, SU, SU] [(.long (0 : Int64)), (.long di)])) (fun _ k => XS.lconst X62.here hx rfl (hb hby at_270)  k) ?_
      refine Goes.by (T' := T62) (g' := (mkF m 272 #[SI y0, SI y1, SI y2, SI y3, SJ ba, S2, SJ ot, S2, SI 3, SI se, SJ si, S2, SJ sq, S2, SJ kq, S2, SD dv, S2, SD dm, S2, SD ds, S2, SA cn, SD r3, S2, SJ di, S2, SU, SU, SU, SU, SU] [(.int (-1 : Int32))])) (fun _ k => XS.lcmpS X62.here hx rfl (hb hby at_271) rfl (own_cmpL_ltI (by rw [own_l0]; exact hs)) k) ?_
      refine Goes.by (T' := T62) (g' := (mkF m 275 #[SI y0, SI y1, SI y2, SI y3, SJ ba, S2, SJ ot, S2, SI 3, SI se, SJ si, S2, SJ sq, S2, SJ kq, S2, SD dv, S2, SD dm, S2, SD ds, S2, SA cn, SD r3, S2, SJ di, S2, SU, SU, SU, SU, SU] [])) (fun _ k => XS.ifNo X62.here hx rfl (hb hby at_272) rfl (by decide) k) ?_
      refine Goes.by (T' := T62) (g' := (mkF m 277 #[SI y0, SI y1, SI y2, SI y3, SJ ba, S2, SJ ot, S2, SI 3, SI se, SJ si, S2, SJ sq, S2, SJ kq, S2, SD dv, S2, SD dm, S2, SD ds, S2, SA cn, SD r3, S2, SJ di, S2, SU, SU, SU, SU, SU] [(.double r3)])) (fun _ k => XS.dload X62.here hx rfl (hb hby at_275) rfl k) ?_
      refine Goes.by (T' := T62) (g' := (mkF m 278 #[SI y0, SI y1, SI y2, SI y3, SJ ba, S2, SJ ot, S2, SI 3, SI se, SJ si, S2, SJ sq, S2, SJ kq, S2, SD dv, S2, SD dm, S2, SD ds, S2, SA cn, SD r3, S2, SJ di, S2, SU, SU, SU, SU, SU] [(.double (0 : UInt64)), (.double r3)])) (fun _ k => XS.dconst0 X62.here hx rfl (hb hby at_277) rfl k) ?_
      refine Goes.by (T' := T62) (g' := (mkF m 279 #[SI y0, SI y1, SI y2, SI y3, SJ ba, S2, SJ ot, S2, SI 3, SI se, SJ si, S2, SJ sq, S2, SJ kq, S2, SD dv, S2, SD dm, S2, SD ds, S2, SA cn, SD r3, S2, SJ di, S2, SU, SU, SU, SU, SU] [(.int (-1 : Int32))])) (fun _ k => XS.dcmpS X62.here hx rfl (hb hby at_278) rfl (Z3m.cmp_lt Zv.zero hm _) k) ?_
      refine Goes.by (T' := T62) (g' := (mkF m 282 #[SI y0, SI y1, SI y2, SI y3, SJ ba, S2, SJ ot, S2, SI 3, SI se, SJ si, S2, SJ sq, S2, SJ kq, S2, SD dv, S2, SD dm, S2, SD ds, S2, SA cn, SD r3, S2, SJ di, S2, SU, SU, SU, SU, SU] [])) (fun _ k => XS.ifNo X62.here hx rfl (hb hby at_279) rfl (by decide) k) ?_
      refine Goes.by (T' := T62) (g' := (mkF m 283 #[SI y0, SI y1, SI y2, SI y3, SJ ba, S2, SJ ot, S2, SI 3, SI se, SJ si, S2, SJ sq, S2, SJ kq, S2, SD dv, S2, SD dm, S2, SD ds, S2, SA cn, SD r3, S2, SJ di, S2, SU, SU, SU, SU, SU] [(.int (1 : Int32))])) (fun _ k => XS.iconst X62.here hx rfl (hb hby at_282)  k) ?_
      refine Goes.by (T' := T62) (g' := (mkF m 287 #[SI y0, SI y1, SI y2, SI y3, SJ ba, S2, SJ ot, S2, SI 3, SI se, SJ si, S2, SJ sq, S2, SJ kq, S2, SD dv, S2, SD dm, S2, SD ds, S2, SA cn, SD r3, S2, SJ di, S2, SU, SU, SU, SU, SU] [(.int (1 : Int32))])) (fun _ k => XS.goto X62.here hx rfl (pc0 := 283) (pc' := 287) rfl (hb hby at_283) (by decide) (by decide) k) ?_
      refine Goes.by (T' := T62) (g' := (mkF m 289 #[SI y0, SI y1, SI y2, SI y3, SJ ba, S2, SJ ot, S2, SI 3, SI se, SJ si, S2, SJ sq, S2, SJ kq, S2, SD dv, S2, SD dm, S2, SD ds, S2, SA cn, SD r3, S2, SJ di, S2, SI 1, SU, SU, SU, SU] [])) (fun _ k => XS.istore X62.here hx rfl (hb hby at_287) rfl (l' := #[SI y0, SI y1, SI y2, SI y3, SJ ba, S2, SJ ot, S2, SI 3, SI se, SJ si, S2, SJ sq, S2, SJ kq, S2, SD dv, S2, SD dm, S2, SD ds, S2, SA cn, SD r3, S2, SJ di, S2, SI 1, SU, SU, SU, SU]) rfl k) ?_
      refine Goes.by (T' := T62) (g' := (mkF m 306 #[SI y0, SI y1, SI y2, SI y3, SJ ba, S2, SJ ot, S2, SI 3, SI se, SJ si, S2, SJ sq, S2, SJ kq, S2, SD dv, S2, SD dm, S2, SD ds, S2, SA cn, SD r3, S2, SJ di, S2, SI 1, SU, SU, SU, SU] [])) (fun _ k => XS.goto X62.here hx rfl (pc0 := 289) (pc' := 306) rfl (hb hby at_289) (by decide) (by decide) k) ?_
      refine Goes.by (T' := T62) (g' := (mkF m 308 #[SI y0, SI y1, SI y2, SI y3, SJ ba, S2, SJ ot, S2, SI 3, SI se, SJ si, S2, SJ sq, S2, SJ kq, S2, SD dv, S2, SD dm, S2, SD ds, S2, SA cn, SD r3, S2, SJ di, S2, SI 1, SU, SU, SU, SU] [(.int (3 : Int32))])) (fun _ k => XS.iload X62.here hx rfl (hb hby at_306) rfl k) ?_
      refine Goes.by (T' := T62) (g' := (mkF m 309 #[SI y0, SI y1, SI y2, SI y3, SJ ba, S2, SJ ot, S2, SI 3, SI se, SJ si, S2, SJ sq, S2, SJ kq, S2, SD dv, S2, SD dm, S2, SD ds, S2, SA cn, SD r3, S2, SJ di, S2, SI 1, SU, SU, SU, SU] [(.int (2 : Int32)), (.int (3 : Int32))])) (fun _ k => XS.iconst X62.here hx rfl (hb hby at_308)  k) ?_
      refine Goes.by (T' := T62) (g' := (mkF m 338 #[SI y0, SI y1, SI y2, SI y3, SJ ba, S2, SJ ot, S2, SI 3, SI se, SJ si, S2, SJ sq, S2, SJ kq, S2, SD dv, S2, SD dm, S2, SD ds, S2, SA cn, SD r3, S2, SJ di, S2, SI 1, SU, SU, SU, SU] [])) (fun _ k => XS.icmpYes X62.here hx rfl (pc0 := 309) (pc' := 338) rfl (hb hby at_309) rfl (by decide) (by decide) (by decide) k) ?_
      refine Goes.by (T' := T62) (g' := (mkF m 340 #[SI y0, SI y1, SI y2, SI y3, SJ ba, S2, SJ ot, S2, SI 3, SI se, SJ si, S2, SJ sq, S2, SJ kq, S2, SD dv, S2, SD dm, S2, SD ds, S2, SA cn, SD r3, S2, SJ di, S2, SI 1, SU, SU, SU, SU] [(.double r3)])) (fun _ k => XS.dload X62.here hx rfl (hb hby at_338) rfl k) ?_
      refine Goes.by (T' := T62) (g' := (mkF m 341 #[SI y0, SI y1, SI y2, SI y3, SJ ba, S2, SJ ot, S2, SI 3, SI se, SJ si, S2, SJ sq, S2, SJ kq, S2, SD dv, S2, SD dm, S2, SD ds, S2, SA cn, SD r3, S2, SJ di, S2, SI 1, SU, SU, SU, SU] [(.double (0 : UInt64)), (.double r3)])) (fun _ k => XS.dconst0 X62.here hx rfl (hb hby at_340) rfl k) ?_
      refine Goes.by (T' := T62) (g' := (mkF m 342 #[SI y0, SI y1, SI y2, SI y3, SJ ba, S2, SJ ot, S2, SI 3, SI se, SJ si, S2, SJ sq, S2, SJ kq, S2, SD dv, S2, SD dm, S2, SD ds, S2, SA cn, SD r3, S2, SJ di, S2, SI 1, SU, SU, SU, SU] [(.int (-1 : Int32))])) (fun _ k => XS.dcmpS X62.here hx rfl (hb hby at_341) rfl (Z3m.cmp_lt Zv.zero hm _) k) ?_
      refine Goes.by (T' := T62) (g' := (mkF m 345 #[SI y0, SI y1, SI y2, SI y3, SJ ba, S2, SJ ot, S2, SI 3, SI se, SJ si, S2, SJ sq, S2, SJ kq, S2, SD dv, S2, SD dm, S2, SD ds, S2, SA cn, SD r3, S2, SJ di, S2, SI 1, SU, SU, SU, SU] [])) (fun _ k => XS.ifNo X62.here hx rfl (hb hby at_342) rfl (by decide) k) ?_
      refine Goes.by (T' := T62) (g' := (mkF m 347 #[SI y0, SI y1, SI y2, SI y3, SJ ba, S2, SJ ot, S2, SI 3, SI se, SJ si, S2, SJ sq, S2, SJ kq, S2, SD dv, S2, SD dm, S2, SD ds, S2, SA cn, SD r3, S2, SJ di, S2, SI 1, SU, SU, SU, SU] [(.double r3)])) (fun _ k => XS.dload X62.here hx rfl (hb hby at_345) rfl k) ?_
      obtain ⟨dn, q_dn⟩ : ∃ zz, FP.dneg r3 = zz := ⟨_, rfl⟩
      refine Goes.by (T' := T62) (g' := (mkF m 348 #[SI y0, SI y1, SI y2, SI y3, SJ ba, S2, SJ ot, S2, SI 3, SI se, SJ si, S2, SJ sq, S2, SJ kq, S2, SD dv, S2, SD dm, S2, SD ds, S2, SA cn, SD r3, S2, SJ di, S2, SI 1, SU, SU, SU, SU] [(.double dn)])) (fun _ k => XS.dnegS X62.here hx rfl (hb hby at_347) rfl q_dn k) ?_
      have Z_dn := Z3m.neg q_dn
      refine Goes.by (T' := T62) (g' := (mkF m 353 #[SI y0, SI y1, SI y2, SI y3, SJ ba, S2, SJ ot, S2, SI 3, SI se, SJ si, S2, SJ sq, S2, SJ kq, S2, SD dv, S2, SD dm, S2, SD ds, S2, SA cn, SD r3, S2, SJ di, S2, SI 1, SU, SU, SU, SU] [(.double dn)])) (fun _ k => XS.goto X62.here hx rfl (pc0 := 348) (pc' := 353) rfl (hb hby at_348) (by decide) (by decide) k) ?_
      refine Goes.by (T' := T62) (g' := (mkF m 355 #[SI y0, SI y1, SI y2, SI y3, SJ ba, S2, SJ ot, S2, SI 3, SI se, SJ si, S2, SJ sq, S2, SJ kq, S2, SD dv, S2, SD dm, S2, SD ds, S2, SA cn, SD r3, S2, SJ di, S2, SI 1, SD dn, S2, SU, SU] [])) (fun _ k => XS.dstore X62.here hx rfl (hb hby at_353) rfl (l' := #[SI y0, SI y1, SI y2, SI y3, SJ ba, S2, SJ ot, S2, SI 3, SI se, SJ si, S2, SJ sq, S2, SJ kq, S2, SD dv, S2, SD dm, S2, SD ds, S2, SA cn, SD r3, S2, SJ di, S2, SI 1, SD dn, S2, SU, SU]) rfl k) ?_
      refine Goes.by (T' := T62) (g' := (mkF m 357 #[SI y0, SI y1, SI y2, SI y3, SJ ba, S2, SJ ot, S2, SI 3, SI se, SJ si, S2, SJ sq, S2, SJ kq, S2, SD dv, S2, SD dm, S2, SD ds, S2, SA cn, SD r3, S2, SJ di, S2, SI 1, SD dn, S2, SU, SU] [(.long di)])) (fun _ k => XS.lload X62.here hx rfl (hb hby at_355) rfl k) ?_
      obtain ⟨v65, T65, L65, X65, hQ65, st65⟩ := callC X62 hx hZ (y := (⟨"java/lang/Math", "abs", "(J)J"⟩ : MethodName)) hown (hw _ (List.mem_of_getElem? (i := 104) rfl)) (hw _ (List.mem_of_getElem? (i := 105) rfl)) (hw _ (List.mem_of_getElem? (i := 106) rfl)) (hw _ (List.mem_of_getElem? (i := 59) rfl)) (by decide) hk62 (argsL := [(.long di)]) (rest := []) (W := 0) (rm_abs l Z a0 hw di T61.heap n0 Z0 (by omega)) rfl (by decide) (by decide) (by decide) (by decide) (g := (mkF m 357 #[SI y0, SI y1, SI y2, SI y3, SJ ba, S2, SJ ot, S2, SI 3, SI se, SJ si, S2, SJ sq, S2, SJ kq, S2, SD dv, S2, SD dm, S2, SD ds, S2, SA cn, SD r3, S2, SJ di, S2, SI 1, SD dn, S2, SU, SU] [(.long di)])) rfl (by rw [hml]; rfl) (lenOf pd11 rfl) rfl (by show 2 * 0 + _ ≤ _; exact Nat.le_of_eq rfl) (hb hby at_357)
      obtain ⟨za, rfl, hza, NL65, hk65⟩ := hQ65
      have N0 := Fr.app N0 NL65
      refine Goes.by (T' := T65) (g' := (mkF m 360 #[SI y0, SI y1, SI y2, SI y3, SJ ba, S2, SJ ot, S2, SI 3, SI se, SJ si, S2, SJ sq, S2, SJ kq, S2, SD dv, S2, SD dm, S2, SD ds, S2, SA cn, SD r3, S2, SJ di, S2, SI 1, SD dn, S2, SU, SU] [(.long za)])) st65 ?_
      refine Goes.by (T' := T65) (g' := (mkF m 362 #[SI y0, SI y1, SI y2, SI y3, SJ ba, S2, SJ ot, S2, SI 3, SI se, SJ si, S2, SJ sq, S2, SJ kq, S2, SD dv, S2, SD dm, S2, SD ds, S2, SA cn, SD r3, S2, SJ di, S2, SI 1, SD dn, S2, SJ za, S2] [])) (fun _ k => XS.lstore X65.here hx rfl (hb hby at_360) rfl (l' := #[SI y0, SI y1, SI y2, SI y3, SJ ba, S2, SJ ot, S2, SI 3, SI se, SJ si, S2, SJ sq, S2, SJ kq, S2, SD dv, S2, SD dm, S2, SD ds, S2, SA cn, SD r3, S2, SJ di, S2, SI 1, SD dn, S2, SJ za, S2]) rfl k) ?_
      refine Goes.by (T' := T65) (g' := (mkF m 364 #[SI y0, SI y1, SI y2, SI y3, SJ ba, S2, SJ ot, S2, SI 3, SI se, SJ si, S2, SJ sq, S2, SJ kq, S2, SD dv, S2, SD dm, S2, SD ds, S2, SA cn, SD r3, S2, SJ di, S2, SI 1, SD dn, S2, SJ za, S2] [(.int (1 : Int32))])) (fun _ k => XS.iload X65.here hx rfl (hb hby at_362) rfl k) ?_
      refine Goes.by (T' := T65) (g' := (mkF m 367 #[SI y0, SI y1, SI y2, SI y3, SJ ba, S2, SJ ot, S2, SI 3, SI se, SJ si, S2, SJ sq, S2, SJ kq, S2, SD dv, S2, SD dm, S2, SD ds, S2, SA cn, SD r3, S2, SJ di, S2, SI 1, SD dn, S2, SJ za, S2] [])) (fun _ k => XS.ifNo X65.here hx rfl (hb hby at_364) rfl (by decide) k) ?_
      refine Goes.by (T' := T65) (g' := (mkF m 369 #[SI y0, SI y1, SI y2, SI y3, SJ ba, S2, SJ ot, S2, SI 3, SI se, SJ si, S2, SJ sq, S2, SJ kq, S2, SD dv, S2, SD dm, S2, SD ds, S2, SA cn, SD r3, S2, SJ di, S2, SI 1, SD dn, S2, SJ za, S2] [(.double dn)])) (fun _ k => XS.dload X65.here hx rfl (hb hby at_367) rfl k) ?_
      refine Goes.by (T' := T65) (g' := (mkF m 371 #[SI y0, SI y1, SI y2, SI y3, SJ ba, S2, SJ ot, S2, SI 3, SI se, SJ si, S2, SJ sq, S2, SJ kq, S2, SD dv, S2, SD dm, S2, SD ds, S2, SA cn, SD r3, S2, SJ di, S2, SI 1, SD dn, S2, SJ za, S2] [(.long za), (.double dn)])) (fun _ k => XS.lload X65.here hx rfl (hb hby at_369) rfl k) ?_
      obtain ⟨dz, q_dz⟩ : ∃ zz, FP.l2d za = zz := ⟨_, rfl⟩
      refine Goes.by (T' := T65) (g' := (mkF m 372 #[SI y0, SI y1, SI y2, SI y3, SJ ba, S2, SJ ot, S2, SI 3, SI se, SJ si, S2, SJ sq, S2, SJ kq, S2, SD dv, S2, SD dm, S2, SD ds, S2, SA cn, SD r3, S2, SJ di, S2, SI 1, SD dn, S2, SJ za, S2] [(.double dz), (.double dn)])) (fun _ k => XS.l2dS X65.here hx rfl (hb hby at_371) rfl q_dz k) ?_
      have D_dz : Core.DInt za.toInt dz := DInt_l2d q_dz (by omega)
      have hle : -m3 ≤ za.toInt * ((2 ^ 1074 : Nat) : Int) := by
        rw [show za.toInt = -di.toInt by omega]
        rw [Int.neg_mul]; generalize di.toInt * ((2 ^ 1074 : Nat) : Int) = K at hbd ⊢; omega
      obtain ⟨cv, hcv, hcn⟩ := Z_dn.cmp_le (Zv.of_int D_dz) hle .g
      refine Goes.by (T' := T65) (g' := (mkF m 373 #[SI y0, SI y1, SI y2, SI y3, SJ ba, S2, SJ ot, S2, SI 3, SI se, SJ si, S2, SJ sq, S2, SJ kq, S2, SD dv, S2, SD dm, S2, SD ds, S2, SA cn, SD r3, S2, SJ di, S2, SI 1, SD dn, S2, SJ za, S2] [(.int cv)])) (fun _ k => XS.dcmpS X65.here hx rfl (hb hby at_372) rfl hcv k) ?_
      refine Goes.by (T' := T65) (g' := (mkF m 376 #[SI y0, SI y1, SI y2, SI y3, SJ ba, S2, SJ ot, S2, SI 3, SI se, SJ si, S2, SJ sq, S2, SJ kq, S2, SD dv, S2, SD dm, S2, SD ds, S2, SA cn, SD r3, S2, SJ di, S2, SI 1, SD dn, S2, SJ za, S2] [])) (fun _ k => XS.ifNo X65.here hx rfl (hb hby at_373) rfl ((if0 _ _).trans (flt hcn).2.2.1) k) ?_
      refine Goes.by (T' := T65) (g' := (mkF m 377 #[SI y0, SI y1, SI y2, SI y3, SJ ba, S2, SJ ot, S2, SI 3, SI se, SJ si, S2, SJ sq, S2, SJ kq, S2, SD dv, S2, SD dm, S2, SD ds, S2, SA cn, SD r3, S2, SJ di, S2, SI 1, SD dn, S2, SJ za, S2] [(.int (1 : Int32))])) (fun _ k => XS.iconst X65.here hx rfl (hb hby at_376)  k) ?_
      refine Goes.by (T' := T65) (g' := (mkF m 381 #[SI y0, SI y1, SI y2, SI y3, SJ ba, S2, SJ ot, S2, SI 3, SI se, SJ si, S2, SJ sq, S2, SJ kq, S2, SD dv, S2, SD dm, S2, SD ds, S2, SA cn, SD r3, S2, SJ di, S2, SI 1, SD dn, S2, SJ za, S2] [(.int (1 : Int32))])) (fun _ k => XS.goto X65.here hx rfl (pc0 := 377) (pc' := 381) rfl (hb hby at_377) (by decide) (by decide) k) ?_
      exact outZS X65 hS (by rw [hk65]; exact kS) hx hlk hret (hb hby at_381) (by exact ⟨rfl, N0⟩) (by decide) (by decide)
set_option maxRecDepth 65536 in
set_option maxHeartbeats 40000000 in
theorem comes_1 {Post : Tables → Env → Array Value → State → Outcome → State → Prop} (hpost : ∀ tb e args s v u, (limb_1_1.after args s (.returned v) u = true ∧ limb_1_2.after args s (.returned v) u = true ∧ True) → ReturnedEndW s (.returned v) u (Jvm.fieldLocs frame_1_writes args s ++ Jvm.arrayLocs frame_1_arrays args s ++ Jvm.staticLocs frame_1_statics s) 24 3200 → Post tb e args s (.returned v) u) :
    ArmFor flags0 classFile x code maxLocals ret World_1 tables_1 room_1 Calls_1 rest_1 Pre_1 Post := by
  intro l hfl _ _ p e ha hc hk s m args below hf hA hF happ hP
  obtain ⟨hcalls, hrest, hpre⟩ := hP
  obtain ⟨-, -, -, hnamed, -, -, -, hat⟩ := (Spec.applies_iff hf).mp happ
  obtain ⟨hg, hn⟩ := and_e (Cond.before_iff.mp (show (Jvm.Cond.and given_1 narrow_1).before args s = true from hpre))
  obtain ⟨g0, t0⟩ := and_e hg
  obtain ⟨g1, t1⟩ := and_e t0
  obtain ⟨g2, t2⟩ := and_e t1
  obtain ⟨g3, t3⟩ := and_e t2
  obtain ⟨w0, w1, w2, w3, rfl⟩ : ∃ w0 w1 w2 w3 : Value, args = #[w0, w1, w2, w3] := by
    have hs : args.size = 4 := by simpa [Cond.value, given_1] using g0
    obtain ⟨L⟩ := args
    match L, hs with
    | [w0, w1, w2, w3], _ => exact ⟨w0, w1, w2, w3, rfl⟩
  have hw := fun d (hd : d ∈ tables_1) => atoms_spec (ws := Jvm.Cond.code x code maxLocals ret :: tables_1) hat d (List.mem_cons_of_mem _ hd)
  obtain ⟨i0, e0⟩ := is_v g1
  obtain rfl : w0 = (.int i0) := Option.some.inj e0
  obtain ⟨i1, e1⟩ := is_v g2
  obtain rfl : w1 = (.int i1) := Option.some.inj e1
  obtain ⟨i2, e2⟩ := is_v g3
  obtain rfl : w2 = (.int i2) := Option.some.inj e2
  obtain ⟨i3, e3⟩ := is_v t3
  obtain rfl : w3 = (.int i3) := Option.some.inj e3
  obtain ⟨hsets, hown0⟩ := atoms_of _ (rest_1_c_eq ▸ (show rest_1_c.before _ s = true from hrest))
  have c2 := Cond.before_iff.mp (hsets _ (List.mem_of_getElem? (i := 2) rfl))
  obtain ⟨oe, eo⟩ : ∃ oe, (Term.static "java/util/OptionalDouble" "EMPTY" "Ljava/util/OptionalDouble;").eval #[.int i0, .int i1, .int i2, .int i3] s none [] s = some (.ref oe) := exa_v c2
  have SO := Sta.start eo (Or.inl (hsets _ (List.mem_of_getElem? (i := 1) rfl)))
  have hCH : CHv s own_EL s.vm s.heap := CHv.start (own_EW hw) (fun q hq => by
    cases List.mem_singleton.mp hq
    exact fun c k cf i units a h1 h2 h3 h4 h5 h6 h7 h8 => hcalls.1 (_, 19) (by decide) c k cf i units a h1 h2 h3 h4 h5 h6 h7 h8) (hsets _ (List.mem_of_getElem? (i := 6) rfl)) (hw _ (List.mem_of_getElem? (i := 12) rfl)) (hw _ (List.mem_of_getElem? (i := 11) rfl))
  obtain ⟨n, o, h1, h2, h3, _, L, rfl, ⟨rfl, N⟩, hq⟩ := rm_law l s _ hw i0 i1 i2 i3 oe s.heap s.heap.size (Nat.le_refl _) SO p e ha hc hk s m _ below hf ((Spec.applies_iff_loose hf).mp happ).1 ⟨rfl, State.Warmed39.refl s, rfl, hCH⟩ trivial
  refine ⟨n, _, h1, h2, h3, hpost _ _ _ _ _ _ ⟨Cond.after_iff.mpr rfl, Cond.after_iff.mpr (eq_i res_at (Term.int_eval (1)) rfl), trivial⟩ ⟨hq.1, hq.2.1, hq.2.2.1, (hq.2.2.2.sift fun y hy => Or.inr (N y hy)).mono (by decide) (by decide)⟩⟩
theorem main_1_1 : Claimed_1_1 := comes_1 fun _ _ _ _ _ _ h hF => ⟨h.1, hF⟩
theorem main_1_2 : Claimed_1_2 := comes_1 fun _ _ _ _ _ _ h hF => ⟨h.2.1, hF⟩
end Jvm.Pilot.@@N@@
namespace Jvm.Pilot.@@N@@
open Jvm Jvm.ClassFile Sem Op Lib Jvm.Free Jvm.Stand Jvm.Pilot.@@N@@.Jvm.D
/-! MADE BY PROGRAM (witnessworld.py) out of the Statement's table words and the real class files: 25 classes; the members and pool entries that the words name. The judged class is class 1, her method 1. -/
namespace start1
open Jvm.ClassFile
def u (s : String) : CpInfo := .utf8 (stringToUtf16 s)
/-- a pool by its gaps: so many unusable entries, then the entry; so many at the end -/
def gap : Nat → List CpInfo → List CpInfo
  | 0, r => r
  | n + 1, r => .unusable :: gap n r
def poolList (es : List (Nat × CpInfo)) (last : Nat) : List CpInfo := es.foldr (fun e r => gap e.1 (e.2 :: r)) (gap last [])
def pool (es : List (Nat × CpInfo)) (last : Nat) : Array CpInfo := ⟨poolList es last⟩
def fileOf (pool : Array CpInfo) (this : Nat) (attrs : Array Attribute := #[]) (ms : Array MethodInfo := #[]) (fl : Nat := 33) (sup : Nat := 0) (ifs : Array Nat := #[]) (fds : Array FieldInfo := #[]) : ClassFile where
  minorVersion := 0
  majorVersion := 65
  constantPool := pool
  accessFlags := fl
  thisClass := this
  superClass := sup
  interfaces := ifs
  fields := fds
  methods := ms
  attributes := attrs
def plain (name : String) (sup : Option ClassId) : Class where
  name := name
  kind := .ordinary
  loader := none
  accessFlags := 33
  super := sup
  interfaces := #[]
  cf := none
  fields := #[]
  methods := #[]
  instanceTypes := #[]
  staticTypes := #[]
  resolved := #[]
  callSites := []
  init := .initialized
  statics := none
  mirror := none

def pool0 : Array CpInfo := pool [(5, u "<init>"), (0, u "()V"), (1, .class_ 10), (1, u "java/lang/Object")] 113

def k0c0 : Code := { maxStack := 0, maxLocals := 1, code := object_method_1_code, exceptionTable := #[], attributes := #[] }
def k0m0 : Method := { name := "<init>", desc := "()V", sig := { parameters := [], returnType := none }, accessFlags := 1, code := some k0c0 }
/-- java/lang/Object -/
def k0 : Class := { plain "java/lang/Object" none with
  accessFlags := 33
  interfaces := #[]
  cf := some (fileOf pool0 8 #[] #[{ accessFlags := 1, nameIndex := 5, descriptorIndex := 6, attributes := #[] }] 33 0 #[] #[])
  fields := #[]
  methods := #[k0m0]
  instanceTypes := #[]
  staticTypes := #[]
  resolved := Array.replicate 124 none
  statics := none }

def pool1 : Array CpInfo := pool [(2, .class_ 4), (1, u "java/lang/Object"), (0, u "<init>"), (0, u "()V"), (0, .long 2147483647), (1, .long 65535), (1, .methodref 12 13), (0, .class_ 14), (0, .nameAndType 15 16), (0, u "com/example/gaugefit/gaugefit/core/CountOffsetGetOffsetPinLaw"), (0, u "powerOfTwo"), (0, u "(I)D"), (0, .class_ 18), (0, u "com/example/gaugefit/gaugefit/core/Count"), (0, .string 20), (0, u "L"), (0, .methodref 17 22), (0, .nameAndType 5 23), (0, u "(Ljava/lang/String;DDD)V"), (0, .class_ 25), (0, u "com/example/gaugefit/gaugefit/core/CountOffset"), (0, .methodref 24 27), (0, .nameAndType 5 28), (0, u "(Lcom/example/gaugefit/gaugefit/core/Count;DD)V"), (0, .methodref 24 30), (0, .nameAndType 31 32), (0, u "getOffset"), (0, u "()D"), (0, .methodref 34 35), (0, .class_ 36), (0, .nameAndType 37 38), (0, u "java/lang/Math"), (0, u "abs"), (0, u "(J)J"), (2, u "law"), (0, u "(IIII)Z")] 3

def k1m0 : Method := { name := "<init>", desc := "()V", sig := { parameters := [], returnType := none }, accessFlags := 1, code := none }
def k1c1 : Code := { maxStack := 9, maxLocals := 32, code := code, exceptionTable := #[], attributes := #[] }
def k1m1 : Method := { name := "law", desc := "(IIII)Z", sig := { parameters := [.int, .int, .int, .int], returnType := some .boolean }, accessFlags := 9, code := some k1c1 }
def k1c2 : Code := { maxStack := 4, maxLocals := 1, code := method_3_code, exceptionTable := #[], attributes := #[] }
def k1m2 : Method := { name := "powerOfTwo", desc := "(I)D", sig := { parameters := [.int], returnType := some .double }, accessFlags := 10, code := some k1c2 }
/-- com/example/gaugefit/gaugefit/core/CountOffsetGetOffsetPinLaw -/
def k1 : Class := { plain "com/example/gaugefit/gaugefit/core/CountOffsetGetOffsetPinLaw" (some 0) with
  accessFlags := 49
  interfaces := #[]
  cf := some (fileOf pool1 12 #[] #[{ accessFlags := 1, nameIndex := 5, descriptorIndex := 6, attributes := #[] }, { accessFlags := 9, nameIndex := 41, descriptorIndex := 42, attributes := #[] }, { accessFlags := 10, nameIndex := 15, descriptorIndex := 16, attributes := #[] }] 49 2 #[] #[])
  fields := #[]
  methods := #[k1m0, k1m1, k1m2]
  instanceTypes := #[]
  staticTypes := #[]
  resolved := Array.replicate 46 none
  statics := none }

def pool2 : Array CpInfo := pool [(1, .methodref 2 3), (0, .class_ 4), (0, .nameAndType 5 6), (0, u "java/util/OptionalDouble"), (0, u "empty"), (0, u "()Ljava/util/OptionalDouble;"), (0, .methodref 8 9), (0, .class_ 10), (0, .nameAndType 11 12), (0, u "com/example/gaugefit/gaugefit/core/Count"), (0, u "<init>"), (0, u "(Ljava/lang/String;DDDLjava/util/OptionalDouble;)V"), (2, u "checkStddev"), (0, u "(D)D"), (4, .methodref 22 23), (0, .class_ 24), (0, .nameAndType 11 25), (0, u "java/lang/Object"), (0, u "()V"), (0, .methodref 27 28), (0, .class_ 29), (0, .nameAndType 30 31), (0, u "com/example/gaugefit/gaugefit/core/Links"), (0, u "checkId"), (0, u "(Ljava/lang/String;)Ljava/lang/String;"), (0, .class_ 33), (0, u "com/example/gaugefit/gaugefit/core/Interval"), (0, .methodref 32 35), (0, .nameAndType 11 36), (0, u "(DD)V"), (0, .methodref 38 39), (0, .class_ 40), (0, .nameAndType 41 42), (0, u "java/lang/Double"), (0, u "isFinite"), (0, u "(D)Z"), (9, .fieldref 8 53), (0, .nameAndType 54 55), (0, u "link"), (0, u "Ljava/lang/String;"), (0, .fieldref 8 57), (0, .nameAndType 58 59), (0, u "interval"), (0, u "Lcom/example/gaugefit/gaugefit/core/Interval;"), (0, .fieldref 8 61), (0, .nameAndType 62 63), (0, u "value"), (0, u "D"), (0, .fieldref 8 65), (0, .nameAndType 66 67), (0, u "stddev"), (0, u "Ljava/util/OptionalDouble;"), (4, u "()D"), (41, u "(Ljava/lang/String;DDD)V"), (7, u "getValue")] 27

def k2c0 : Code := { maxStack := 9, maxLocals := 8, code := prog_3_method_1_code, exceptionTable := #[], attributes := #[] }
def k2m0 : Method := { name := "<init>", desc := "(Ljava/lang/String;DDD)V", sig := { parameters := [(.object "java/lang/String"), .double, .double, .double], returnType := none }, accessFlags := 1, code := some k2c0 }
def k2c1 : Code := { maxStack := 6, maxLocals := 10, code := prog_3_method_3_code, exceptionTable := #[], attributes := #[] }
def k2m1 : Method := { name := "<init>", desc := "(Ljava/lang/String;DDDLjava/util/OptionalDouble;)V", sig := { parameters := [(.object "java/lang/String"), .double, .double, .double, (.object "java/util/OptionalDouble")], returnType := none }, accessFlags := 2, code := some k2c1 }
def k2c2 : Code := { maxStack := 4, maxLocals := 2, code := prog_3_method_4_code, exceptionTable := #[], attributes := #[] }
def k2m2 : Method := { name := "checkStddev", desc := "(D)D", sig := { parameters := [.double], returnType := some .double }, accessFlags := 8, code := some k2c2 }
def k2c3 : Code := { maxStack := 2, maxLocals := 1, code := prog_3_method_9_code, exceptionTable := #[], attributes := #[] }
def k2m3 : Method := { name := "getValue", desc := "()D", sig := { parameters := [], returnType := some .double }, accessFlags := 1, code := some k2c3 }
/-- com/example/gaugefit/gaugefit/core/Count -/
def k2 : Class := { plain "com/example/gaugefit/gaugefit/core/Count" (some 0) with
  accessFlags := 49
  interfaces := #[]
  cf := some (fileOf pool2 8 #[] #[{ accessFlags := 1, nameIndex := 11, descriptorIndex := 114, attributes := #[] }, { accessFlags := 2, nameIndex := 11, descriptorIndex := 12, attributes := #[] }, { accessFlags := 8, nameIndex := 15, descriptorIndex := 16, attributes := #[] }, { accessFlags := 1, nameIndex := 122, descriptorIndex := 72, attributes := #[] }] 49 22 #[] #[{ accessFlags := 18, nameIndex := 54, descriptorIndex := 55, attributes := #[] }, { accessFlags := 18, nameIndex := 58, descriptorIndex := 59, attributes := #[] }, { accessFlags := 18, nameIndex := 62, descriptorIndex := 63, attributes := #[] }, { accessFlags := 18, nameIndex := 66, descriptorIndex := 67, attributes := #[] }])
  fields := #[{ name := "link", type := (.object "java/lang/String"), accessFlags := 18, slot := 0, constantValue := 0 }, { name := "interval", type := (.object "com/example/gaugefit/gaugefit/core/Interval"), accessFlags := 18, slot := 1, constantValue := 0 }, { name := "value", type := .double, accessFlags := 18, slot := 2, constantValue := 0 }, { name := "stddev", type := (.object "java/util/OptionalDouble"), accessFlags := 18, slot := 3, constantValue := 0 }]
  methods := #[k2m0, k2m1, k2m2, k2m3]
  instanceTypes := #[(.object "java/lang/String"), (.object "com/example/gaugefit/gaugefit/core/Interval"), .double, (.object "java/util/OptionalDouble")]
  staticTypes := #[]
  resolved := Array.replicate 150 none
  statics := none }

def pool3 : Array CpInfo := pool [(1, .class_ 2), (0, u "java/io/Serializable"), (0, .class_ 4), (0, u "java/lang/Object")] 2

/-- java/io/Serializable -/
def k3 : Class := { plain "java/io/Serializable" (some 0) with
  accessFlags := 1537
  interfaces := #[]
  cf := some (fileOf pool3 1 #[] #[] 1537 3 #[] #[])
  fields := #[]
  methods := #[]
  instanceTypes := #[]
  staticTypes := #[]
  resolved := Array.replicate 7 none
  statics := none }

def pool4 : Array CpInfo := pool [(1, .class_ 2), (0, u "java/lang/Comparable"), (0, .class_ 4), (0, u "java/lang/Object")] 7

/-- java/lang/Comparable -/
def k4 : Class := { plain "java/lang/Comparable" (some 0) with
  accessFlags := 1537
  interfaces := #[]
  cf := some (fileOf pool4 1 #[] #[] 1537 3 #[] #[])
  fields := #[]
  methods := #[]
  instanceTypes := #[]
  staticTypes := #[]
  resolved := Array.replicate 12 none
  statics := none }

def pool5 : Array CpInfo := pool [(2, .class_ 4), (1, u "java/lang/CharSequence"), (42, .class_ 48), (0, u "java/lang/CharSequence$1CodePointIterator"), (10, .class_ 60), (0, u "java/lang/CharSequence$1CharIterator"), (5, .class_ 67), (0, u "java/lang/Object")] 63

/-- java/lang/CharSequence -/
def k5 : Class := { plain "java/lang/CharSequence" (some 0) with
  accessFlags := 1537
  interfaces := #[]
  cf := some (fileOf pool5 2 #[.nestMembers #[47, 59]] #[] 1537 66 #[] #[])
  fields := #[]
  methods := #[]
  instanceTypes := #[]
  staticTypes := #[]
  resolved := Array.replicate 131 none
  statics := none }

def pool6 : Array CpInfo := pool [(1, .class_ 2), (0, u "java/lang/constant/Constable"), (0, .class_ 4), (0, u "java/lang/Object")] 6

/-- java/lang/constant/Constable -/
def k6 : Class := { plain "java/lang/constant/Constable" (some 0) with
  accessFlags := 1537
  interfaces := #[]
  cf := some (fileOf pool6 1 #[] #[] 1537 3 #[] #[])
  fields := #[]
  methods := #[]
  instanceTypes := #[]
  staticTypes := #[]
  resolved := Array.replicate 11 none
  statics := none }

def pool7 : Array CpInfo := pool [(1, .class_ 2), (0, u "java/lang/constant/ConstantDesc"), (0, .class_ 4), (0, u "java/lang/Object")] 32

/-- java/lang/constant/ConstantDesc -/
def k7 : Class := { plain "java/lang/constant/ConstantDesc" (some 0) with
  accessFlags := 1537
  interfaces := #[]
  cf := some (fileOf pool7 1 #[] #[] 1537 3 #[] #[])
  fields := #[]
  methods := #[]
  instanceTypes := #[]
  staticTypes := #[]
  resolved := Array.replicate 37 none
  statics := none }

def pool8 : Array CpInfo := pool [(2, .class_ 4), (1, u "java/lang/Object"), (0, u "<init>"), (0, u "()V"), (2, .fieldref 10 11), (0, .class_ 12), (0, .nameAndType 13 14), (0, u "java/lang/String"), (0, u "value"), (0, u "[B"), (2, u "coder"), (0, u "B"), (2, u "hash"), (0, u "I"), (2, u "hashIsZero"), (0, u "Z"), (13, u "COMPACT_STRINGS"), (101, u "()Z"), (432, .class_ 576), (0, u "java/lang/CharSequence"), (22, u "CASE_INSENSITIVE_ORDER"), (0, u "Ljava/util/Comparator;"), (91, u "isEmpty"), (408, u "serialPersistentFields"), (0, u "[Ljava/io/ObjectStreamField;"), (0, .class_ 1104), (0, u "java/lang/String$CaseInsensitiveComparator"), (1, .class_ 1107), (0, u "java/io/Serializable"), (0, .class_ 1109), (0, u "java/lang/Comparable"), (0, .class_ 1111), (0, u "java/lang/constant/Constable"), (0, .class_ 1113), (0, u "java/lang/constant/ConstantDesc"), (2, u "serialVersionUID"), (0, u "J"), (3, u "REPL"), (0, u "C"), (2, u "LATIN1"), (1, u "UTF16")] 323

def k8m0 : Method := { name := "<init>", desc := "()V", sig := { parameters := [], returnType := none }, accessFlags := 1, code := none }
def k8c1 : Code := { maxStack := 1, maxLocals := 1, code := jdk_42_method_55_code, exceptionTable := #[], attributes := #[] }
def k8m1 : Method := { name := "isEmpty", desc := "()Z", sig := { parameters := [], returnType := some .boolean }, accessFlags := 1, code := some k8c1 }
/-- java/lang/String -/
def k8 : Class := { plain "java/lang/String" (some 0) with
  accessFlags := 49
  interfaces := #[3, 4, 5, 6, 7]
  cf := some (fileOf pool8 10 #[.nestMembers #[1103]] #[{ accessFlags := 1, nameIndex := 5, descriptorIndex := 6, attributes := #[] }, { accessFlags := 1, nameIndex := 692, descriptorIndex := 142, attributes := #[] }] 49 2 #[1106, 1108, 575, 1110, 1112] #[{ accessFlags := 18, nameIndex := 13, descriptorIndex := 14, attributes := #[] }, { accessFlags := 18, nameIndex := 17, descriptorIndex := 18, attributes := #[] }, { accessFlags := 2, nameIndex := 21, descriptorIndex := 22, attributes := #[] }, { accessFlags := 2, nameIndex := 25, descriptorIndex := 26, attributes := #[] }, { accessFlags := 26, nameIndex := 1116, descriptorIndex := 1117, attributes := #[] }, { accessFlags := 24, nameIndex := 40, descriptorIndex := 26, attributes := #[] }, { accessFlags := 26, nameIndex := 1101, descriptorIndex := 1102, attributes := #[] }, { accessFlags := 26, nameIndex := 1121, descriptorIndex := 1122, attributes := #[] }, { accessFlags := 25, nameIndex := 599, descriptorIndex := 600, attributes := #[] }, { accessFlags := 24, nameIndex := 1125, descriptorIndex := 18, attributes := #[] }, { accessFlags := 24, nameIndex := 1127, descriptorIndex := 18, attributes := #[] }])
  fields := #[{ name := "value", type := (.array .byte), accessFlags := 18, slot := 0, constantValue := 0 }, { name := "coder", type := .byte, accessFlags := 18, slot := 1, constantValue := 0 }, { name := "hash", type := .int, accessFlags := 2, slot := 2, constantValue := 0 }, { name := "hashIsZero", type := .boolean, accessFlags := 2, slot := 3, constantValue := 0 }, { name := "serialVersionUID", type := .long, accessFlags := 26, slot := 0, constantValue := 0 }, { name := "COMPACT_STRINGS", type := .boolean, accessFlags := 24, slot := 1, constantValue := 0 }, { name := "serialPersistentFields", type := (.array (.object "java/io/ObjectStreamField")), accessFlags := 26, slot := 2, constantValue := 0 }, { name := "REPL", type := .char, accessFlags := 26, slot := 3, constantValue := 0 }, { name := "CASE_INSENSITIVE_ORDER", type := (.object "java/util/Comparator"), accessFlags := 25, slot := 4, constantValue := 0 }, { name := "LATIN1", type := .byte, accessFlags := 24, slot := 5, constantValue := 0 }, { name := "UTF16", type := .byte, accessFlags := 24, slot := 6, constantValue := 0 }]
  methods := #[k8m0, k8m1]
  instanceTypes := #[(.array .byte), .byte, .int, .boolean]
  staticTypes := #[.long, .boolean, (.array (.object "java/io/ObjectStreamField")), .char, (.object "java/util/Comparator"), .byte, .byte]
  resolved := Array.replicate 1451 none
  statics := some 0 }

def pool9 : Array CpInfo := pool [(2, .class_ 4), (1, u "java/lang/Object"), (0, u "<init>"), (0, u "()V"), (1, .class_ 10), (1, u "java/util/OptionalDouble"), (0, u "isPresent"), (0, u "Z"), (6, u "value"), (0, u "D"), (0, .fieldref 8 22), (0, .nameAndType 23 24), (0, u "EMPTY"), (0, u "Ljava/util/OptionalDouble;"), (28, u "empty"), (48, u "()Ljava/util/OptionalDouble;")] 41

def k9m0 : Method := { name := "<init>", desc := "()V", sig := { parameters := [], returnType := none }, accessFlags := 2, code := none }
def k9c1 : Code := { maxStack := 1, maxLocals := 0, code := jdk_2648_method_2_code, exceptionTable := #[], attributes := #[] }
def k9m1 : Method := { name := "empty", desc := "()Ljava/util/OptionalDouble;", sig := { parameters := [], returnType := some (.object "java/util/OptionalDouble") }, accessFlags := 9, code := some k9c1 }
/-- java/util/OptionalDouble -/
def k9 : Class := { plain "java/util/OptionalDouble" (some 0) with
  accessFlags := 49
  interfaces := #[]
  cf := some (fileOf pool9 8 #[] #[{ accessFlags := 2, nameIndex := 5, descriptorIndex := 6, attributes := #[] }, { accessFlags := 9, nameIndex := 53, descriptorIndex := 102, attributes := #[] }] 49 2 #[] #[{ accessFlags := 26, nameIndex := 23, descriptorIndex := 24, attributes := #[] }, { accessFlags := 18, nameIndex := 11, descriptorIndex := 12, attributes := #[] }, { accessFlags := 18, nameIndex := 19, descriptorIndex := 20, attributes := #[] }])
  fields := #[{ name := "EMPTY", type := (.object "java/util/OptionalDouble"), accessFlags := 26, slot := 0, constantValue := 0 }, { name := "isPresent", type := .boolean, accessFlags := 18, slot := 0, constantValue := 0 }, { name := "value", type := .double, accessFlags := 18, slot := 1, constantValue := 0 }]
  methods := #[k9m0, k9m1]
  instanceTypes := #[.boolean, .double]
  staticTypes := #[(.object "java/util/OptionalDouble")]
  resolved := Array.replicate 144 none
  statics := some 1 }

def pool10 : Array CpInfo := pool [(2, .class_ 4), (1, u "java/lang/Object"), (0, u "<init>"), (0, u "()V"), (0, .string 8), (0, u "link must not be null"), (0, .methodref 10 11), (0, .class_ 12), (0, .nameAndType 13 14), (0, u "java/util/Objects"), (0, u "requireNonNull"), (0, u "(Ljava/lang/Object;Ljava/lang/String;)Ljava/lang/Object;"), (0, .methodref 16 17), (0, .class_ 18), (0, .nameAndType 19 20), (0, u "java/lang/String"), (0, u "isEmpty"), (0, u "()Z"), (7, .class_ 29), (0, u "com/example/gaugefit/gaugefit/core/Links"), (2, u "checkId"), (0, u "(Ljava/lang/String;)Ljava/lang/String;")] 3

def k10m0 : Method := { name := "<init>", desc := "()V", sig := { parameters := [], returnType := none }, accessFlags := 2, code := none }
def k10c1 : Code := { maxStack := 3, maxLocals := 1, code := prog_11_method_2_code, exceptionTable := #[], attributes := #[] }
def k10m1 : Method := { name := "checkId", desc := "(Ljava/lang/String;)Ljava/lang/String;", sig := { parameters := [(.object "java/lang/String")], returnType := some (.object "java/lang/String") }, accessFlags := 8, code := some k10c1 }
/-- com/example/gaugefit/gaugefit/core/Links -/
def k10 : Class := { plain "com/example/gaugefit/gaugefit/core/Links" (some 0) with
  accessFlags := 48
  interfaces := #[]
  cf := some (fileOf pool10 28 #[] #[{ accessFlags := 2, nameIndex := 5, descriptorIndex := 6, attributes := #[] }, { accessFlags := 8, nameIndex := 32, descriptorIndex := 33, attributes := #[] }] 48 2 #[] #[])
  fields := #[]
  methods := #[k10m0, k10m1]
  instanceTypes := #[]
  staticTypes := #[]
  resolved := Array.replicate 37 none
  statics := none }

def pool11 : Array CpInfo := pool [(2, .class_ 4), (1, u "java/lang/Object"), (0, u "<init>"), (0, u "()V"), (35, .class_ 44), (1, u "java/util/Objects"), (0, u "requireNonNull"), (48, u "(Ljava/lang/Object;Ljava/lang/String;)Ljava/lang/Object;")] 89

def k11m0 : Method := { name := "<init>", desc := "()V", sig := { parameters := [], returnType := none }, accessFlags := 2, code := none }
def k11c1 : Code := { maxStack := 3, maxLocals := 2, code := jdk_31_method_11_code, exceptionTable := #[], attributes := #[] }
def k11m1 : Method := { name := "requireNonNull", desc := "(Ljava/lang/Object;Ljava/lang/String;)Ljava/lang/Object;", sig := { parameters := [(.object "java/lang/Object"), (.object "java/lang/String")], returnType := some (.object "java/lang/Object") }, accessFlags := 9, code := some k11c1 }
/-- java/util/Objects -/
def k11 : Class := { plain "java/util/Objects" (some 0) with
  accessFlags := 49
  interfaces := #[]
  cf := some (fileOf pool11 42 #[] #[{ accessFlags := 2, nameIndex := 5, descriptorIndex := 6, attributes := #[] }, { accessFlags := 9, nameIndex := 45, descriptorIndex := 94, attributes := #[] }] 49 2 #[] #[])
  fields := #[]
  methods := #[k11m0, k11m1]
  instanceTypes := #[]
  staticTypes := #[]
  resolved := Array.replicate 184 none
  statics := none }

def pool12 : Array CpInfo := pool [(1, .methodref 2 3), (0, .class_ 4), (0, .nameAndType 5 6), (0, u "java/lang/Object"), (0, u "<init>"), (0, u "()V"), (0, .methodref 8 9), (0, .class_ 10), (0, .nameAndType 11 12), (0, u "java/lang/Double"), (0, u "isFinite"), (0, u "(D)Z"), (10, .fieldref 24 25), (0, .class_ 26), (0, .nameAndType 27 28), (0, u "com/example/gaugefit/gaugefit/core/Interval"), (0, u "begin"), (0, u "D"), (0, .fieldref 24 30), (0, .nameAndType 31 28), (0, u "end"), (15, u "(DD)V")] 34

def k12c0 : Code := { maxStack := 6, maxLocals := 5, code := prog_10_method_1_code, exceptionTable := #[], attributes := #[] }
def k12m0 : Method := { name := "<init>", desc := "(DD)V", sig := { parameters := [.double, .double], returnType := none }, accessFlags := 0, code := some k12c0 }
/-- com/example/gaugefit/gaugefit/core/Interval -/
def k12 : Class := { plain "com/example/gaugefit/gaugefit/core/Interval" (some 0) with
  accessFlags := 48
  interfaces := #[]
  cf := some (fileOf pool12 24 #[] #[{ accessFlags := 0, nameIndex := 5, descriptorIndex := 47, attributes := #[] }] 48 2 #[] #[{ accessFlags := 18, nameIndex := 27, descriptorIndex := 28, attributes := #[] }, { accessFlags := 18, nameIndex := 31, descriptorIndex := 28, attributes := #[] }])
  fields := #[{ name := "begin", type := .double, accessFlags := 18, slot := 0, constantValue := 0 }, { name := "end", type := .double, accessFlags := 18, slot := 1, constantValue := 0 }]
  methods := #[k12m0]
  instanceTypes := #[.double, .double]
  staticTypes := #[]
  resolved := Array.replicate 82 none
  statics := none }

def pool13 : Array CpInfo := pool [(2, .class_ 4), (1, u "java/lang/Object"), (0, u "<init>"), (0, u "()V"), (1, .class_ 10), (1, u "java/lang/Number"), (2, .class_ 14), (0, u "java/io/Serializable"), (0, u "serialVersionUID"), (0, u "J")] 20

def k13m0 : Method := { name := "<init>", desc := "()V", sig := { parameters := [], returnType := none }, accessFlags := 1, code := none }
/-- java/lang/Number -/
def k13 : Class := { plain "java/lang/Number" (some 0) with
  accessFlags := 1057
  interfaces := #[3]
  cf := some (fileOf pool13 8 #[] #[{ accessFlags := 1, nameIndex := 5, descriptorIndex := 6, attributes := #[] }] 1057 2 #[13] #[{ accessFlags := 26, nameIndex := 15, descriptorIndex := 16, attributes := #[] }])
  fields := #[{ name := "serialVersionUID", type := .long, accessFlags := 26, slot := 0, constantValue := 0 }]
  methods := #[k13m0]
  instanceTypes := #[]
  staticTypes := #[.long]
  resolved := Array.replicate 37 none
  statics := none }

def pool14 : Array CpInfo := pool [(1, .class_ 2), (0, u "java/lang/Double"), (10, u "isFinite"), (0, u "(D)Z"), (8, .class_ 25), (1, u "java/lang/Math"), (12, .methodref 23 39), (0, .nameAndType 40 41), (0, u "abs"), (0, u "(D)D"), (69, .double 9218868437227405311), (2, .class_ 116), (1, u "java/lang/Number"), (3, u "value"), (0, u "D"), (51, u "TYPE"), (0, u "Ljava/lang/Class;"), (0, .class_ 176), (0, u "java/lang/Comparable"), (0, .class_ 178), (0, u "java/lang/constant/Constable"), (0, .class_ 180), (0, u "java/lang/constant/ConstantDesc"), (0, u "POSITIVE_INFINITY"), (3, u "NEGATIVE_INFINITY"), (2, u "NaN"), (2, u "MAX_VALUE"), (0, u "MIN_NORMAL"), (0, u "MIN_VALUE"), (2, u "SIZE"), (0, u "I"), (1, u "PRECISION"), (1, u "MAX_EXPONENT"), (1, u "MIN_EXPONENT"), (1, u "BYTES"), (3, u "serialVersionUID"), (0, u "J")] 79

def k14c0 : Code := { maxStack := 4, maxLocals := 2, code := jdk_117_method_8_code, exceptionTable := #[], attributes := #[] }
def k14m0 : Method := { name := "isFinite", desc := "(D)Z", sig := { parameters := [.double], returnType := some .boolean }, accessFlags := 9, code := some k14c0 }
/-- java/lang/Double -/
def k14 : Class := { plain "java/lang/Double" (some 13) with
  accessFlags := 49
  interfaces := #[4, 6, 7]
  cf := some (fileOf pool14 1 #[] #[{ accessFlags := 9, nameIndex := 13, descriptorIndex := 14, attributes := #[] }] 49 114 #[175, 177, 179] #[{ accessFlags := 25, nameIndex := 181, descriptorIndex := 121, attributes := #[] }, { accessFlags := 25, nameIndex := 185, descriptorIndex := 121, attributes := #[] }, { accessFlags := 25, nameIndex := 188, descriptorIndex := 121, attributes := #[] }, { accessFlags := 25, nameIndex := 191, descriptorIndex := 121, attributes := #[] }, { accessFlags := 25, nameIndex := 192, descriptorIndex := 121, attributes := #[] }, { accessFlags := 25, nameIndex := 193, descriptorIndex := 121, attributes := #[] }, { accessFlags := 25, nameIndex := 196, descriptorIndex := 197, attributes := #[] }, { accessFlags := 25, nameIndex := 199, descriptorIndex := 197, attributes := #[] }, { accessFlags := 25, nameIndex := 201, descriptorIndex := 197, attributes := #[] }, { accessFlags := 25, nameIndex := 203, descriptorIndex := 197, attributes := #[] }, { accessFlags := 25, nameIndex := 205, descriptorIndex := 197, attributes := #[] }, { accessFlags := 25, nameIndex := 173, descriptorIndex := 174, attributes := #[] }, { accessFlags := 18, nameIndex := 120, descriptorIndex := 121, attributes := #[] }, { accessFlags := 26, nameIndex := 209, descriptorIndex := 210, attributes := #[] }])
  fields := #[{ name := "POSITIVE_INFINITY", type := .double, accessFlags := 25, slot := 0, constantValue := 0 }, { name := "NEGATIVE_INFINITY", type := .double, accessFlags := 25, slot := 1, constantValue := 0 }, { name := "NaN", type := .double, accessFlags := 25, slot := 2, constantValue := 0 }, { name := "MAX_VALUE", type := .double, accessFlags := 25, slot := 3, constantValue := 0 }, { name := "MIN_NORMAL", type := .double, accessFlags := 25, slot := 4, constantValue := 0 }, { name := "MIN_VALUE", type := .double, accessFlags := 25, slot := 5, constantValue := 0 }, { name := "SIZE", type := .int, accessFlags := 25, slot := 6, constantValue := 0 }, { name := "PRECISION", type := .int, accessFlags := 25, slot := 7, constantValue := 0 }, { name := "MAX_EXPONENT", type := .int, accessFlags := 25, slot := 8, constantValue := 0 }, { name := "MIN_EXPONENT", type := .int, accessFlags := 25, slot := 9, constantValue := 0 }, { name := "BYTES", type := .int, accessFlags := 25, slot := 10, constantValue := 0 }, { name := "TYPE", type := (.object "java/lang/Class"), accessFlags := 25, slot := 11, constantValue := 0 }, { name := "value", type := .double, accessFlags := 18, slot := 0, constantValue := 0 }, { name := "serialVersionUID", type := .long, accessFlags := 26, slot := 12, constantValue := 0 }]
  methods := #[k14m0]
  instanceTypes := #[.double]
  staticTypes := #[.double, .double, .double, .double, .double, .double, .int, .int, .int, .int, .int, (.object "java/lang/Class"), .long]
  resolved := Array.replicate 290 none
  statics := none }

def pool15 : Array CpInfo := pool [(1, .class_ 2), (0, u "java/lang/Math"), (1, .class_ 6), (1, u "java/lang/Object"), (0, u "<init>"), (0, u "()V"), (5, u "(D)D"), (83, .class_ 100), (1, u "java/lang/Math$RandomNumberGeneratorHolder"), (23, u "abs"), (0, u "(J)J"), (46, u "negativeZeroFloatBits"), (0, u "J"), (2, u "negativeZeroDoubleBits"), (68, u "$assertionsDisabled"), (0, u "Z"), (91, u "twoToTheDoubleScaleDown"), (0, u "D"), (4, u "twoToTheDoubleScaleUp"), (9, u "E"), (3, u "PI"), (2, u "TAU"), (2, u "DEGREES_TO_RADIANS"), (0, u "RADIANS_TO_DEGREES")] 94

def k15m0 : Method := { name := "<init>", desc := "()V", sig := { parameters := [], returnType := none }, accessFlags := 2, code := none }
def k15c1 : Code := { maxStack := 4, maxLocals := 2, code := jdk_29_method_61_code, exceptionTable := #[], attributes := #[] }
def k15m1 : Method := { name := "abs", desc := "(J)J", sig := { parameters := [.long], returnType := some .long }, accessFlags := 9, code := some k15c1 }
def k15c2 : Code := { maxStack := 4, maxLocals := 2, code := jdk_29_method_64_code, exceptionTable := #[], attributes := #[] }
def k15m2 : Method := { name := "abs", desc := "(D)D", sig := { parameters := [.double], returnType := some .double }, accessFlags := 9, code := some k15c2 }
/-- java/lang/Math -/
def k15 : Class := { plain "java/lang/Math" (some 0) with
  accessFlags := 49
  interfaces := #[]
  cf := some (fileOf pool15 1 #[.nestMembers #[98]] #[{ accessFlags := 2, nameIndex := 7, descriptorIndex := 8, attributes := #[] }, { accessFlags := 9, nameIndex := 124, descriptorIndex := 125, attributes := #[] }, { accessFlags := 9, nameIndex := 124, descriptorIndex := 14, attributes := #[] }] 49 4 #[] #[{ accessFlags := 25, nameIndex := 354, descriptorIndex := 339, attributes := #[] }, { accessFlags := 25, nameIndex := 358, descriptorIndex := 339, attributes := #[] }, { accessFlags := 25, nameIndex := 361, descriptorIndex := 339, attributes := #[] }, { accessFlags := 26, nameIndex := 364, descriptorIndex := 339, attributes := #[] }, { accessFlags := 26, nameIndex := 365, descriptorIndex := 339, attributes := #[] }, { accessFlags := 26, nameIndex := 172, descriptorIndex := 173, attributes := #[] }, { accessFlags := 26, nameIndex := 176, descriptorIndex := 173, attributes := #[] }, { accessFlags := 8, nameIndex := 344, descriptorIndex := 339, attributes := #[] }, { accessFlags := 8, nameIndex := 338, descriptorIndex := 339, attributes := #[] }, { accessFlags := 4120, nameIndex := 245, descriptorIndex := 246, attributes := #[] }])
  fields := #[{ name := "E", type := .double, accessFlags := 25, slot := 0, constantValue := 0 }, { name := "PI", type := .double, accessFlags := 25, slot := 1, constantValue := 0 }, { name := "TAU", type := .double, accessFlags := 25, slot := 2, constantValue := 0 }, { name := "DEGREES_TO_RADIANS", type := .double, accessFlags := 26, slot := 3, constantValue := 0 }, { name := "RADIANS_TO_DEGREES", type := .double, accessFlags := 26, slot := 4, constantValue := 0 }, { name := "negativeZeroFloatBits", type := .long, accessFlags := 26, slot := 5, constantValue := 0 }, { name := "negativeZeroDoubleBits", type := .long, accessFlags := 26, slot := 6, constantValue := 0 }, { name := "twoToTheDoubleScaleUp", type := .double, accessFlags := 8, slot := 7, constantValue := 0 }, { name := "twoToTheDoubleScaleDown", type := .double, accessFlags := 8, slot := 8, constantValue := 0 }, { name := "$assertionsDisabled", type := .boolean, accessFlags := 4120, slot := 9, constantValue := 0 }]
  methods := #[k15m0, k15m1, k15m2]
  instanceTypes := #[]
  staticTypes := #[.double, .double, .double, .double, .double, .long, .long, .double, .double, .boolean]
  resolved := Array.replicate 460 none
  statics := none }

def pool16 : Array CpInfo := pool [(1, .methodref 2 3), (0, .class_ 4), (0, .nameAndType 5 6), (0, u "java/lang/Object"), (0, u "<init>"), (0, u "()V"), (0, .string 8), (0, u "count must not be null"), (0, .methodref 10 11), (0, .class_ 12), (0, .nameAndType 13 14), (0, u "java/util/Objects"), (0, u "requireNonNull"), (0, u "(Ljava/lang/Object;Ljava/lang/String;)Ljava/lang/Object;"), (0, .methodref 16 17), (0, .class_ 18), (0, .nameAndType 19 20), (0, u "java/lang/Double"), (0, u "isFinite"), (0, u "(D)Z"), (9, .fieldref 31 32), (0, .class_ 33), (0, .nameAndType 34 35), (0, u "com/example/gaugefit/gaugefit/core/CountOffset"), (0, u "count"), (0, u "Lcom/example/gaugefit/gaugefit/core/Count;"), (0, .fieldref 31 37), (0, .nameAndType 38 39), (0, u "simulated"), (0, u "D"), (0, .methodref 41 42), (0, .class_ 43), (0, .nameAndType 44 45), (0, u "com/example/gaugefit/gaugefit/core/Count"), (0, u "checkStddev"), (0, u "(D)D"), (0, .fieldref 31 47), (0, .nameAndType 48 39), (0, u "stddev"), (47, u "(Lcom/example/gaugefit/gaugefit/core/Count;DD)V"), (4, .methodref 41 102), (0, .nameAndType 103 104), (0, u "getValue"), (0, u "()D"), (11, u "getOffset")] 17

def k16c0 : Code := { maxStack := 4, maxLocals := 6, code := prog_4_method_1_code, exceptionTable := #[], attributes := #[] }
def k16m0 : Method := { name := "<init>", desc := "(Lcom/example/gaugefit/gaugefit/core/Count;DD)V", sig := { parameters := [(.object "com/example/gaugefit/gaugefit/core/Count"), .double, .double], returnType := none }, accessFlags := 1, code := some k16c0 }
def k16c1 : Code := { maxStack := 6, maxLocals := 1, code := prog_4_method_6_code, exceptionTable := #[], attributes := #[] }
def k16m1 : Method := { name := "getOffset", desc := "()D", sig := { parameters := [], returnType := some .double }, accessFlags := 1, code := some k16c1 }
/-- com/example/gaugefit/gaugefit/core/CountOffset -/
def k16 : Class := { plain "com/example/gaugefit/gaugefit/core/CountOffset" (some 0) with
  accessFlags := 49
  interfaces := #[]
  cf := some (fileOf pool16 31 #[] #[{ accessFlags := 1, nameIndex := 5, descriptorIndex := 96, attributes := #[] }, { accessFlags := 1, nameIndex := 116, descriptorIndex := 104, attributes := #[] }] 49 2 #[] #[{ accessFlags := 18, nameIndex := 34, descriptorIndex := 35, attributes := #[] }, { accessFlags := 18, nameIndex := 38, descriptorIndex := 39, attributes := #[] }, { accessFlags := 18, nameIndex := 48, descriptorIndex := 39, attributes := #[] }])
  fields := #[{ name := "count", type := (.object "com/example/gaugefit/gaugefit/core/Count"), accessFlags := 18, slot := 0, constantValue := 0 }, { name := "simulated", type := .double, accessFlags := 18, slot := 1, constantValue := 0 }, { name := "stddev", type := .double, accessFlags := 18, slot := 2, constantValue := 0 }]
  methods := #[k16m0, k16m1]
  instanceTypes := #[(.object "com/example/gaugefit/gaugefit/core/Count"), .double, .double]
  staticTypes := #[]
  resolved := Array.replicate 134 none
  statics := none }

def pool17 : Array CpInfo := pool [(4, .class_ 6), (1, u "java/lang/Object"), (0, u "<init>"), (0, u "()V"), (5, .class_ 16), (1, u "java/lang/StringLatin1"), (104, u "$assertionsDisabled"), (0, u "Z"), (98, .class_ 223), (1, u "java/lang/StringLatin1$LinesSpliterator"), (166, .class_ 391), (0, u "java/lang/StringLatin1$CharsSpliterator")] 3

def k17m0 : Method := { name := "<init>", desc := "()V", sig := { parameters := [], returnType := none }, accessFlags := 0, code := none }
/-- java/lang/StringLatin1 -/
def k17 : Class := { plain "java/lang/StringLatin1" (some 0) with
  accessFlags := 48
  interfaces := #[]
  cf := some (fileOf pool17 14 #[.nestMembers #[390, 221]] #[{ accessFlags := 0, nameIndex := 7, descriptorIndex := 8, attributes := #[] }] 48 4 #[] #[{ accessFlags := 4120, nameIndex := 121, descriptorIndex := 122, attributes := #[] }])
  fields := #[{ name := "$assertionsDisabled", type := .boolean, accessFlags := 4120, slot := 0, constantValue := 0 }]
  methods := #[k17m0]
  instanceTypes := #[]
  staticTypes := #[.boolean]
  resolved := Array.replicate 395 none
  statics := none }

def pool18 : Array CpInfo := pool [(2, .class_ 4), (1, u "java/lang/Object"), (0, u "<init>"), (0, u "()V"), (17, .class_ 26), (1, u "jdk/internal/util/Preconditions"), (28, .class_ 56), (0, u "jdk/internal/util/Preconditions$4"), (57, .class_ 115), (0, u "jdk/internal/util/Preconditions$1"), (7, u "SIOOBE_FORMATTER"), (0, u "Ljava/util/function/BiFunction;"), (0, .class_ 126), (0, u "jdk/internal/util/Preconditions$2"), (3, u "AIOOBE_FORMATTER"), (0, .class_ 132), (0, u "jdk/internal/util/Preconditions$3"), (3, u "IOOBE_FORMATTER")] 57

def k18m0 : Method := { name := "<init>", desc := "()V", sig := { parameters := [], returnType := none }, accessFlags := 1, code := none }
/-- jdk/internal/util/Preconditions -/
def k18 : Class := { plain "jdk/internal/util/Preconditions" (some 0) with
  accessFlags := 33
  interfaces := #[]
  cf := some (fileOf pool18 24 #[.nestMembers #[55, 131, 125, 114]] #[{ accessFlags := 1, nameIndex := 5, descriptorIndex := 6, attributes := #[] }] 33 2 #[] #[{ accessFlags := 25, nameIndex := 123, descriptorIndex := 124, attributes := #[] }, { accessFlags := 25, nameIndex := 130, descriptorIndex := 124, attributes := #[] }, { accessFlags := 25, nameIndex := 136, descriptorIndex := 124, attributes := #[] }])
  fields := #[{ name := "SIOOBE_FORMATTER", type := (.object "java/util/function/BiFunction"), accessFlags := 25, slot := 0, constantValue := 0 }, { name := "AIOOBE_FORMATTER", type := (.object "java/util/function/BiFunction"), accessFlags := 25, slot := 1, constantValue := 0 }, { name := "IOOBE_FORMATTER", type := (.object "java/util/function/BiFunction"), accessFlags := 25, slot := 2, constantValue := 0 }]
  methods := #[k18m0]
  instanceTypes := #[]
  staticTypes := #[(.object "java/util/function/BiFunction"), (.object "java/util/function/BiFunction"), (.object "java/util/function/BiFunction")]
  resolved := Array.replicate 194 none
  statics := some 2 }

def pool19 : Array CpInfo := pool [(9, u "<init>"), (6, .class_ 18), (1, u "java/lang/Object"), (0, u "()V"), (1, .class_ 23), (1, u "jdk/internal/util/ArraysSupport"), (0, u "LOG2_ARRAY_LONG_INDEX_SCALE"), (0, u "I"), (2, u "U"), (0, u "Ljdk/internal/misc/Unsafe;"), (8, u "BIG_ENDIAN"), (0, u "Z"), (8, u "LOG2_BYTE_BIT_SIZE"), (4, u "LOG2_ARRAY_INT_INDEX_SCALE"), (54, u "JLA"), (0, u "Ljdk/internal/access/JavaLangAccess;"), (11, u "LOG2_ARRAY_BOOLEAN_INDEX_SCALE"), (9, u "LOG2_ARRAY_BYTE_INDEX_SCALE"), (5, u "LOG2_ARRAY_CHAR_INDEX_SCALE"), (5, u "LOG2_ARRAY_SHORT_INDEX_SCALE"), (18, u "LOG2_ARRAY_FLOAT_INDEX_SCALE"), (24, u "LOG2_ARRAY_DOUBLE_INDEX_SCALE"), (89, u "T_BOOLEAN"), (2, u "T_CHAR"), (1, u "T_FLOAT"), (1, u "T_DOUBLE"), (1, u "T_BYTE"), (1, u "T_SHORT"), (1, u "T_INT"), (1, u "T_LONG"), (1, u "SOFT_MAX_ARRAY_LENGTH")] 83

def k19m0 : Method := { name := "<init>", desc := "()V", sig := { parameters := [], returnType := none }, accessFlags := 2, code := none }
/-- jdk/internal/util/ArraysSupport -/
def k19 : Class := { plain "jdk/internal/util/ArraysSupport" (some 0) with
  accessFlags := 33
  interfaces := #[]
  cf := some (fileOf pool19 21 #[] #[{ accessFlags := 2, nameIndex := 9, descriptorIndex := 19, attributes := #[] }] 33 16 #[] #[{ accessFlags := 24, nameIndex := 28, descriptorIndex := 29, attributes := #[] }, { accessFlags := 26, nameIndex := 38, descriptorIndex := 39, attributes := #[] }, { accessFlags := 25, nameIndex := 121, descriptorIndex := 25, attributes := #[] }, { accessFlags := 25, nameIndex := 131, descriptorIndex := 25, attributes := #[] }, { accessFlags := 25, nameIndex := 137, descriptorIndex := 25, attributes := #[] }, { accessFlags := 25, nameIndex := 143, descriptorIndex := 25, attributes := #[] }, { accessFlags := 25, nameIndex := 53, descriptorIndex := 25, attributes := #[] }, { accessFlags := 25, nameIndex := 24, descriptorIndex := 25, attributes := #[] }, { accessFlags := 25, nameIndex := 162, descriptorIndex := 25, attributes := #[] }, { accessFlags := 25, nameIndex := 187, descriptorIndex := 25, attributes := #[] }, { accessFlags := 26, nameIndex := 48, descriptorIndex := 25, attributes := #[] }, { accessFlags := 25, nameIndex := 277, descriptorIndex := 25, attributes := #[] }, { accessFlags := 25, nameIndex := 280, descriptorIndex := 25, attributes := #[] }, { accessFlags := 25, nameIndex := 282, descriptorIndex := 25, attributes := #[] }, { accessFlags := 25, nameIndex := 284, descriptorIndex := 25, attributes := #[] }, { accessFlags := 25, nameIndex := 286, descriptorIndex := 25, attributes := #[] }, { accessFlags := 25, nameIndex := 288, descriptorIndex := 25, attributes := #[] }, { accessFlags := 25, nameIndex := 290, descriptorIndex := 25, attributes := #[] }, { accessFlags := 25, nameIndex := 292, descriptorIndex := 25, attributes := #[] }, { accessFlags := 26, nameIndex := 108, descriptorIndex := 109, attributes := #[] }, { accessFlags := 25, nameIndex := 294, descriptorIndex := 25, attributes := #[] }])
  fields := #[{ name := "U", type := (.object "jdk/internal/misc/Unsafe"), accessFlags := 24, slot := 0, constantValue := 0 }, { name := "BIG_ENDIAN", type := .boolean, accessFlags := 26, slot := 1, constantValue := 0 }, { name := "LOG2_ARRAY_BOOLEAN_INDEX_SCALE", type := .int, accessFlags := 25, slot := 2, constantValue := 0 }, { name := "LOG2_ARRAY_BYTE_INDEX_SCALE", type := .int, accessFlags := 25, slot := 3, constantValue := 0 }, { name := "LOG2_ARRAY_CHAR_INDEX_SCALE", type := .int, accessFlags := 25, slot := 4, constantValue := 0 }, { name := "LOG2_ARRAY_SHORT_INDEX_SCALE", type := .int, accessFlags := 25, slot := 5, constantValue := 0 }, { name := "LOG2_ARRAY_INT_INDEX_SCALE", type := .int, accessFlags := 25, slot := 6, constantValue := 0 }, { name := "LOG2_ARRAY_LONG_INDEX_SCALE", type := .int, accessFlags := 25, slot := 7, constantValue := 0 }, { name := "LOG2_ARRAY_FLOAT_INDEX_SCALE", type := .int, accessFlags := 25, slot := 8, constantValue := 0 }, { name := "LOG2_ARRAY_DOUBLE_INDEX_SCALE", type := .int, accessFlags := 25, slot := 9, constantValue := 0 }, { name := "LOG2_BYTE_BIT_SIZE", type := .int, accessFlags := 26, slot := 10, constantValue := 0 }, { name := "T_BOOLEAN", type := .int, accessFlags := 25, slot := 11, constantValue := 0 }, { name := "T_CHAR", type := .int, accessFlags := 25, slot := 12, constantValue := 0 }, { name := "T_FLOAT", type := .int, accessFlags := 25, slot := 13, constantValue := 0 }, { name := "T_DOUBLE", type := .int, accessFlags := 25, slot := 14, constantValue := 0 }, { name := "T_BYTE", type := .int, accessFlags := 25, slot := 15, constantValue := 0 }, { name := "T_SHORT", type := .int, accessFlags := 25, slot := 16, constantValue := 0 }, { name := "T_INT", type := .int, accessFlags := 25, slot := 17, constantValue := 0 }, { name := "T_LONG", type := .int, accessFlags := 25, slot := 18, constantValue := 0 }, { name := "JLA", type := (.object "jdk/internal/access/JavaLangAccess"), accessFlags := 26, slot := 19, constantValue := 0 }, { name := "SOFT_MAX_ARRAY_LENGTH", type := .int, accessFlags := 25, slot := 20, constantValue := 0 }]
  methods := #[k19m0]
  instanceTypes := #[]
  staticTypes := #[(.object "jdk/internal/misc/Unsafe"), .boolean, .int, .int, .int, .int, .int, .int, .int, .int, .int, .int, .int, .int, .int, .int, .int, .int, .int, (.object "jdk/internal/access/JavaLangAccess"), .int]
  resolved := Array.replicate 378 none
  statics := none }

def pool20 : Array CpInfo := pool [(1, u "java/lang/Cloneable"), (0, .class_ 1), (0, u "java/lang/Object"), (0, .class_ 3)] 3

/-- java/lang/Cloneable -/
def k20 : Class := { plain "java/lang/Cloneable" (some 0) with
  accessFlags := 1537
  interfaces := #[]
  cf := some (fileOf pool20 2 #[] #[] 1537 4 #[] #[])
  fields := #[]
  methods := #[]
  instanceTypes := #[]
  staticTypes := #[]
  resolved := Array.replicate 8 none
  statics := none }

/-- the primitive byte -/
def k21 : Class := { plain "byte" none with kind := .primitive 'B', accessFlags := 0x411 }
/-- [B -/
def k22 : Class := { plain "[B" (some 0) with kind := .array 21 .byte, interfaces := #[20, 3], accessFlags := 1041 }

/-- the primitive int -/
def k23 : Class := { plain "int" none with kind := .primitive 'I', accessFlags := 0x411 }
/-- [I -/
def k24 : Class := { plain "[I" (some 0) with kind := .array 23 .int, interfaces := #[20, 3], accessFlags := 1041 }

def heap : Heap := #[{ cls := 8, slots := #[.long 0, .int 1, .null, .int 0, .null, .int 0, .int 0], vm := .statics 8 },
  { cls := 9, slots := #[.ref 3], vm := .statics 9 },
  { cls := 18, slots := #[.null, .null, .null], vm := .statics 18 },
  { cls := 9, slots := #[.int 0, .double 0], vm := .none }]
def classes : Array Class := #[k0, k1, k2, k3, k4, k5, k6, k7, k8, k9, k10, k11, k12, k13, k14, k15, k16, k17, k18, k19, k20, k21, k22, k23, k24]
def interned : List (Array UInt16 × Addr) := []
def slotsUsed : Nat := 13
def theMethod : MethodId := ⟨1, 1⟩
def args0 : Array Value := #[.int 5, .int 5, .int 5, .int 5]
def aboutOver (below : List Frame) : State where
  vm := { classes := classes, interned := interned.toArray }
  heap := heap
  slotsUsed := slotsUsed
  threads := #[{ frames := .invoking theMethod args0 :: below }]
def below0 : List Frame := [.native { method := ⟨0, 0⟩, args := #[] }]
def about1 : State := aboutOver below0
def p0 : Program := .bare "" "" ""
def e0 : Env := launch0.env 0 0 0
theorem w_frames : about1.frames = Frame.invoking theMethod args0 :: below0 := rfl
set_option maxRecDepth 65536 in
theorem w_args : argsFit about1.vm theMethod args0 = true := by decide +kernel
set_option maxRecDepth 65536 in
theorem w_heap : heapFits about1 = true := by decide +kernel
set_option maxRecDepth 65536 in
theorem w_runnable : about1.curStatus? = some .runnable := by decide +kernel
set_option maxRecDepth 65536 in
theorem w_alone : about1.alone = true := by decide +kernel
set_option maxRecDepth 65536 in
theorem w_named : about1.methodNamed? x = some theMethod := by decide +kernel
set_option maxRecDepth 65536 in
theorem w_hears : about1.hears theMethod below0 = true := by decide +kernel
set_option maxRecDepth 65536 in
theorem w_ripe : about1.ripe theMethod args0 below0 = true := by decide +kernel
theorem w_running : about1.status = .running := rfl
set_option maxRecDepth 65536 in
theorem w_room : about1.hasRoom e0.platform room_1 = true :=
  launch0.hasRoom_least _ room_1 (by decide +kernel) (by decide +kernel) (by decide +kernel) (by decide +kernel) (by decide +kernel) (by decide +kernel)
theorem allAtoms_all (ts : List Jvm.Cond) (a : Array Jvm.Value) (st : Jvm.State) : (allAtoms ts).before a st = ts.all (fun c => c.before a st) := by
  induction ts with
  | nil => rfl
  | cons c t ih =>
    show (Jvm.Cond.and c (allAtoms t)).before a st = _
    rw [Jvm.Cond.before_and, ih, List.all_cons]
def words1 : List Jvm.Cond := Jvm.Cond.code x code maxLocals ret :: tables_1
/-- a 'code' word, met by the world's own term for the bytes: nothing is compared byte by byte -/
theorem code_word {y : MethodName} {bytes : ByteArray} {mx : Nat} {rt : Option FieldType} {a : Array Value} {s : State} {m : MethodId} {meth : Method} {c : Code} (h1 : s.methodNamed? y = some m) (h2 : s.vm.method? m = some meth) (h3 : meth.code = some c) (h4 : c.code = bytes)
    (h5 : (c.maxLocals == mx && c.exceptionTable.isEmpty && decide (c.maxStack ≤ mostOperands) && decide (meth.sig.returnType = rt) && !meth.locks && decide (parseMethodDescriptor y.desc = some meth.sig)) = true) : (Jvm.Cond.code y bytes mx rt).before a s = true := by
  simp only [Bool.and_eq_true, beq_iff_eq, Bool.not_eq_true', decide_eq_true_eq] at h5
  obtain ⟨⟨⟨⟨⟨g1, g2⟩, g3⟩, g4⟩, g5⟩, g6⟩ := h5
  simp [Cond.before, Cond.holds, Cond.value, h1, h2, h3, h4, g1, g2, g3, g4, g5, g6]
def isCode : Jvm.Cond → Bool
  | .code _ _ _ _ => true
  | _ => false
theorem all_split {L : List Jvm.Cond} {P : Jvm.Cond → Bool} (h1 : L.all (fun c => isCode c || P c) = true) (h2 : ∀ c ∈ L.filter isCode, P c = true) : L.all P = true := by
  refine List.all_eq_true.mpr fun c hc => ?_
  have h := List.all_eq_true.mp h1 c hc
  rcases Bool.eq_false_or_eq_true (isCode c) with hi | hi
  · exact h2 c (List.mem_filter.mpr ⟨hc, hi⟩)
  · simpa [hi] using h
set_option maxRecDepth 65536 in
theorem w_c0 : (Jvm.Cond.code x code maxLocals ret).before args0 about1 = true := code_word (m := ⟨1, 1⟩) (meth := k1m1) (c := k1c1) (by decide +kernel) rfl rfl rfl (by decide +kernel)
set_option maxRecDepth 65536 in
theorem w_c1 : (Jvm.Cond.code ({ cls := "com/example/gaugefit/gaugefit/core/CountOffsetGetOffsetPinLaw", name := "powerOfTwo", desc := "(I)D" } : Jvm.MethodName) method_3_code (1 : Nat) (Option.some Jvm.ClassFile.FieldType.double)).before args0 about1 = true := code_word (m := ⟨1, 2⟩) (meth := k1m2) (c := k1c2) (by decide +kernel) rfl rfl rfl (by decide +kernel)
set_option maxRecDepth 65536 in
theorem w_c2 : (Jvm.Cond.code ({ cls := "com/example/gaugefit/gaugefit/core/Count", name := "<init>", desc := "(Ljava/lang/String;DDD)V" } : Jvm.MethodName) prog_3_method_1_code (8 : Nat) (Option.none : Option Jvm.ClassFile.FieldType)).before args0 about1 = true := code_word (m := ⟨2, 0⟩) (meth := k2m0) (c := k2c0) (by decide +kernel) rfl rfl rfl (by decide +kernel)
set_option maxRecDepth 65536 in
theorem w_c3 : (Jvm.Cond.code ({ cls := "java/util/OptionalDouble", name := "empty", desc := "()Ljava/util/OptionalDouble;" } : Jvm.MethodName) jdk_2648_method_2_code (0 : Nat) (Option.some (Jvm.ClassFile.FieldType.object "java/util/OptionalDouble"))).before args0 about1 = true := code_word (m := ⟨9, 1⟩) (meth := k9m1) (c := k9c1) (by decide +kernel) rfl rfl rfl (by decide +kernel)
set_option maxRecDepth 65536 in
theorem w_c4 : (Jvm.Cond.code ({ cls := "com/example/gaugefit/gaugefit/core/Count", name := "<init>", desc := "(Ljava/lang/String;DDDLjava/util/OptionalDouble;)V" } : Jvm.MethodName) prog_3_method_3_code (10 : Nat) (Option.none : Option Jvm.ClassFile.FieldType)).before args0 about1 = true := code_word (m := ⟨2, 1⟩) (meth := k2m1) (c := k2c1) (by decide +kernel) rfl rfl rfl (by decide +kernel)
set_option maxRecDepth 65536 in
theorem w_c5 : (Jvm.Cond.code ({ cls := "java/lang/Object", name := "<init>", desc := "()V" } : Jvm.MethodName) object_method_1_code (1 : Nat) (Option.none : Option Jvm.ClassFile.FieldType)).before args0 about1 = true := code_word (m := ⟨0, 0⟩) (meth := k0m0) (c := k0c0) (by decide +kernel) rfl rfl rfl (by decide +kernel)
set_option maxRecDepth 65536 in
theorem w_c6 : (Jvm.Cond.code ({ cls := "com/example/gaugefit/gaugefit/core/Links", name := "checkId", desc := "(Ljava/lang/String;)Ljava/lang/String;" } : Jvm.MethodName) prog_11_method_2_code (1 : Nat) (Option.some (Jvm.ClassFile.FieldType.object "java/lang/String"))).before args0 about1 = true := code_word (m := ⟨10, 1⟩) (meth := k10m1) (c := k10c1) (by decide +kernel) rfl rfl rfl (by decide +kernel)
set_option maxRecDepth 65536 in
theorem w_c7 : (Jvm.Cond.code ({ cls := "java/util/Objects", name := "requireNonNull", desc := "(Ljava/lang/Object;Ljava/lang/String;)Ljava/lang/Object;" } : Jvm.MethodName) jdk_31_method_11_code (2 : Nat) (Option.some (Jvm.ClassFile.FieldType.object "java/lang/Object"))).before args0 about1 = true := code_word (m := ⟨11, 1⟩) (meth := k11m1) (c := k11c1) (by decide +kernel) rfl rfl rfl (by decide +kernel)
set_option maxRecDepth 65536 in
theorem w_c8 : (Jvm.Cond.code ({ cls := "java/lang/String", name := "isEmpty", desc := "()Z" } : Jvm.MethodName) jdk_42_method_55_code (1 : Nat) (Option.some Jvm.ClassFile.FieldType.boolean)).before args0 about1 = true := code_word (m := ⟨8, 1⟩) (meth := k8m1) (c := k8c1) (by decide +kernel) rfl rfl rfl (by decide +kernel)
set_option maxRecDepth 65536 in
theorem w_c9 : (Jvm.Cond.code ({ cls := "com/example/gaugefit/gaugefit/core/Interval", name := "<init>", desc := "(DD)V" } : Jvm.MethodName) prog_10_method_1_code (5 : Nat) (Option.none : Option Jvm.ClassFile.FieldType)).before args0 about1 = true := code_word (m := ⟨12, 0⟩) (meth := k12m0) (c := k12c0) (by decide +kernel) rfl rfl rfl (by decide +kernel)
set_option maxRecDepth 65536 in
theorem w_c10 : (Jvm.Cond.code ({ cls := "java/lang/Double", name := "isFinite", desc := "(D)Z" } : Jvm.MethodName) jdk_117_method_8_code (2 : Nat) (Option.some Jvm.ClassFile.FieldType.boolean)).before args0 about1 = true := code_word (m := ⟨14, 0⟩) (meth := k14m0) (c := k14c0) (by decide +kernel) rfl rfl rfl (by decide +kernel)
set_option maxRecDepth 65536 in
theorem w_c11 : (Jvm.Cond.code ({ cls := "java/lang/Math", name := "abs", desc := "(D)D" } : Jvm.MethodName) jdk_29_method_64_code (2 : Nat) (Option.some Jvm.ClassFile.FieldType.double)).before args0 about1 = true := code_word (m := ⟨15, 2⟩) (meth := k15m2) (c := k15c2) (by decide +kernel) rfl rfl rfl (by decide +kernel)
set_option maxRecDepth 65536 in
theorem w_c12 : (Jvm.Cond.code ({ cls := "com/example/gaugefit/gaugefit/core/CountOffset", name := "<init>", desc := "(Lcom/example/gaugefit/gaugefit/core/Count;DD)V" } : Jvm.MethodName) prog_4_method_1_code (6 : Nat) (Option.none : Option Jvm.ClassFile.FieldType)).before args0 about1 = true := code_word (m := ⟨16, 0⟩) (meth := k16m0) (c := k16c0) (by decide +kernel) rfl rfl rfl (by decide +kernel)
set_option maxRecDepth 65536 in
theorem w_c13 : (Jvm.Cond.code ({ cls := "com/example/gaugefit/gaugefit/core/Count", name := "checkStddev", desc := "(D)D" } : Jvm.MethodName) prog_3_method_4_code (2 : Nat) (Option.some Jvm.ClassFile.FieldType.double)).before args0 about1 = true := code_word (m := ⟨2, 2⟩) (meth := k2m2) (c := k2c2) (by decide +kernel) rfl rfl rfl (by decide +kernel)
set_option maxRecDepth 65536 in
theorem w_c14 : (Jvm.Cond.code ({ cls := "com/example/gaugefit/gaugefit/core/CountOffset", name := "getOffset", desc := "()D" } : Jvm.MethodName) prog_4_method_6_code (1 : Nat) (Option.some Jvm.ClassFile.FieldType.double)).before args0 about1 = true := code_word (m := ⟨16, 1⟩) (meth := k16m1) (c := k16c1) (by decide +kernel) rfl rfl rfl (by decide +kernel)
set_option maxRecDepth 65536 in
theorem w_c15 : (Jvm.Cond.code ({ cls := "com/example/gaugefit/gaugefit/core/Count", name := "getValue", desc := "()D" } : Jvm.MethodName) prog_3_method_9_code (1 : Nat) (Option.some Jvm.ClassFile.FieldType.double)).before args0 about1 = true := code_word (m := ⟨2, 3⟩) (meth := k2m3) (c := k2c3) (by decide +kernel) rfl rfl rfl (by decide +kernel)
set_option maxRecDepth 65536 in
theorem w_c16 : (Jvm.Cond.code ({ cls := "java/lang/Math", name := "abs", desc := "(J)J" } : Jvm.MethodName) jdk_29_method_61_code (2 : Nat) (Option.some Jvm.ClassFile.FieldType.long)).before args0 about1 = true := code_word (m := ⟨15, 1⟩) (meth := k15m1) (c := k15c1) (by decide +kernel) rfl rfl rfl (by decide +kernel)
def codes1 : List Jvm.Cond := [Jvm.Cond.code x code maxLocals ret, Jvm.Cond.code ({ cls := "com/example/gaugefit/gaugefit/core/CountOffsetGetOffsetPinLaw", name := "powerOfTwo", desc := "(I)D" } : Jvm.MethodName) method_3_code (1 : Nat) (Option.some Jvm.ClassFile.FieldType.double), Jvm.Cond.code ({ cls := "com/example/gaugefit/gaugefit/core/Count", name := "<init>", desc := "(Ljava/lang/String;DDD)V" } : Jvm.MethodName) prog_3_method_1_code (8 : Nat) (Option.none : Option Jvm.ClassFile.FieldType), Jvm.Cond.code ({ cls := "java/util/OptionalDouble", name := "empty", desc := "()Ljava/util/OptionalDouble;" } : Jvm.MethodName) jdk_2648_method_2_code (0 : Nat) (Option.some (Jvm.ClassFile.FieldType.object "java/util/OptionalDouble")), Jvm.Cond.code ({ cls := "com/example/gaugefit/gaugefit/core/Count", name := "<init>", desc := "(Ljava/lang/String;DDDLjava/util/OptionalDouble;)V" } : Jvm.MethodName) prog_3_method_3_code (10 : Nat) (Option.none : Option Jvm.ClassFile.FieldType), Jvm.Cond.code ({ cls := "java/lang/Object", name := "<init>", desc := "()V" } : Jvm.MethodName) object_method_1_code (1 : Nat) (Option.none : Option Jvm.ClassFile.FieldType), Jvm.Cond.code ({ cls := "com/example/gaugefit/gaugefit/core/Links", name := "checkId", desc := "(Ljava/lang/String;)Ljava/lang/String;" } : Jvm.MethodName) prog_11_method_2_code (1 : Nat) (Option.some (Jvm.ClassFile.FieldType.object "java/lang/String")), Jvm.Cond.code ({ cls := "java/util/Objects", name := "requireNonNull", desc := "(Ljava/lang/Object;Ljava/lang/String;)Ljava/lang/Object;" } : Jvm.MethodName) jdk_31_method_11_code (2 : Nat) (Option.some (Jvm.ClassFile.FieldType.object "java/lang/Object")), Jvm.Cond.code ({ cls := "java/lang/String", name := "isEmpty", desc := "()Z" } : Jvm.MethodName) jdk_42_method_55_code (1 : Nat) (Option.some Jvm.ClassFile.FieldType.boolean), Jvm.Cond.code ({ cls := "com/example/gaugefit/gaugefit/core/Interval", name := "<init>", desc := "(DD)V" } : Jvm.MethodName) prog_10_method_1_code (5 : Nat) (Option.none : Option Jvm.ClassFile.FieldType), Jvm.Cond.code ({ cls := "java/lang/Double", name := "isFinite", desc := "(D)Z" } : Jvm.MethodName) jdk_117_method_8_code (2 : Nat) (Option.some Jvm.ClassFile.FieldType.boolean), Jvm.Cond.code ({ cls := "java/lang/Math", name := "abs", desc := "(D)D" } : Jvm.MethodName) jdk_29_method_64_code (2 : Nat) (Option.some Jvm.ClassFile.FieldType.double), Jvm.Cond.code ({ cls := "com/example/gaugefit/gaugefit/core/CountOffset", name := "<init>", desc := "(Lcom/example/gaugefit/gaugefit/core/Count;DD)V" } : Jvm.MethodName) prog_4_method_1_code (6 : Nat) (Option.none : Option Jvm.ClassFile.FieldType), Jvm.Cond.code ({ cls := "com/example/gaugefit/gaugefit/core/Count", name := "checkStddev", desc := "(D)D" } : Jvm.MethodName) prog_3_method_4_code (2 : Nat) (Option.some Jvm.ClassFile.FieldType.double), Jvm.Cond.code ({ cls := "com/example/gaugefit/gaugefit/core/CountOffset", name := "getOffset", desc := "()D" } : Jvm.MethodName) prog_4_method_6_code (1 : Nat) (Option.some Jvm.ClassFile.FieldType.double), Jvm.Cond.code ({ cls := "com/example/gaugefit/gaugefit/core/Count", name := "getValue", desc := "()D" } : Jvm.MethodName) prog_3_method_9_code (1 : Nat) (Option.some Jvm.ClassFile.FieldType.double), Jvm.Cond.code ({ cls := "java/lang/Math", name := "abs", desc := "(J)J" } : Jvm.MethodName) jdk_29_method_61_code (2 : Nat) (Option.some Jvm.ClassFile.FieldType.long)]
set_option maxRecDepth 65536 in
theorem codes_eq : words1.filter isCode = codes1 := rfl
theorem w_codes : ∀ c ∈ words1.filter isCode, c.before args0 about1 = true := by
  rw [codes_eq]
  intro c hc
  simp only [codes1, List.mem_cons, List.not_mem_nil, or_false] at hc
  rcases hc with rfl | rfl | rfl | rfl | rfl | rfl | rfl | rfl | rfl | rfl | rfl | rfl | rfl | rfl | rfl | rfl | rfl
  · exact w_c0
  · exact w_c1
  · exact w_c2
  · exact w_c3
  · exact w_c4
  · exact w_c5
  · exact w_c6
  · exact w_c7
  · exact w_c8
  · exact w_c9
  · exact w_c10
  · exact w_c11
  · exact w_c12
  · exact w_c13
  · exact w_c14
  · exact w_c15
  · exact w_c16
set_option maxRecDepth 65536 in
theorem w_t1 : (words1.take 24).all (fun c => isCode c || c.before args0 about1) = true := by decide +kernel
set_option maxRecDepth 65536 in
theorem w_t2 : ((words1.drop 24).take 24).all (fun c => isCode c || c.before args0 about1) = true := by decide +kernel
set_option maxRecDepth 65536 in
theorem w_t3 : (((words1.drop 24).drop 24).take 24).all (fun c => isCode c || c.before args0 about1) = true := by decide +kernel
set_option maxRecDepth 65536 in
theorem w_t4 : ((((words1.drop 24).drop 24).drop 24).take 24).all (fun c => isCode c || c.before args0 about1) = true := by decide +kernel
set_option maxRecDepth 65536 in
theorem w_t5 : ((((words1.drop 24).drop 24).drop 24).drop 24).all (fun c => isCode c || c.before args0 about1) = true := by decide +kernel
theorem w_tables : (allAtoms (Jvm.Cond.code x code maxLocals ret :: tables_1)).before args0 about1 = true := by
  rw [allAtoms_all]
  show words1.all (fun c => c.before args0 about1) = true
  refine all_split ?_ w_codes
  rw [← List.take_append_drop 24 words1, List.all_append, w_t1, ← List.take_append_drop 24 (words1.drop 24), List.all_append, w_t2, ← List.take_append_drop 24 ((words1.drop 24).drop 24), List.all_append, w_t3, ← List.take_append_drop 24 (((words1.drop 24).drop 24).drop 24), List.all_append, w_t4, w_t5]
  rfl
set_option maxRecDepth 65536 in
theorem w_rest : rest_1_c.before args0 about1 = true := by decide +kernel
set_option maxRecDepth 65536 in
theorem w_case : (Jvm.Cond.and given_1 narrow_1).before args0 about1 = true := by decide +kernel
set_option maxRecDepth 65536 in
theorem w_consts : constsHeld consts_1 about1 := Jvm.Lit.constsHeldB_iff.mp (by decide +kernel)
theorem w_applies : (headSpec (Jvm.Cond.code x code maxLocals ret :: tables_1) room_1).applies x e0.platform about1 = true :=
  (Spec.applies_iff w_frames).mpr ⟨w_running, w_runnable, w_alone, w_named, w_hears, w_ripe, w_room, w_tables⟩
theorem atStart : AtStart classFile x code maxLocals ret World_1 tables_1 room_1 Calls_1 rest_1 Pre_1 launch0 p0 e0 about1 theMethod args0 below0 :=
  ⟨lists_1, trivial, launch0.admits_env _ _ _, launch0.least_env, fairChoices_fair.cas, fairChoices_fair.clock, w_frames, w_args, w_heap, w_applies, ⟨w_consts, trivial⟩, w_rest, w_case⟩
end start1
theorem witness_1 : WitnessClaimed_1 := ⟨start1.p0, start1.e0, start1.about1, start1.theMethod, start1.args0, start1.below0, start1.atStart⟩
end Jvm.Pilot.@@N@@
