import JvmDerived
import JvmDerived.Pilot.@@N@@Statement
import JvmDerived.Pilot.@@N@@Code
set_option linter.unusedVariables false
set_option linter.unusedSimpArgs false
namespace Jvm.RoadKit
open Sem ClassFile Op Lib Jvm.Stand Jvm.Free Jvm.LawKit
/-! own_: walks written forward: 'Goes P T g': from the frame g at T the run comes to a state that P takes. -/
def Goes (p : Program) (e : Env) (below : List Frame) (P : State → Prop) (T : State) (g : JFrame) : Prop := ∃ t, Steps p.tables e below (T.setTop g) t ∧ P t
/-- how a body ends: it returned v, and Q holds of v, the heap and the places written -/
def Fin1 (below : List Frame) (s : State) (rm : Room) (Q : Option Value → Heap → List Loc → Prop) (t : State) : Prop :=
  ∃ o, t.status = .running ∧ Ended t below o ∧ ∃ v L, o = .returned v ∧ Q v t.heap L ∧ FrameEnd s o t L rm.cells rm.slots
/-- a body's contract -/
def Does (l : Launch) (y : MethodName) (bytes : ByteArray) (maxL : Nat) (ret : Option FieldType) (ws : List Cond) (rm : Room) (Z : State) (as' : Array Value) (h : Heap) (Q : Option Value → Heap → List Loc → Prop) : Prop :=
  MetFree l y (head1 (Cond.code y bytes maxL ret :: ws) rm) (fun a U => a = as' ∧ Z.Warmed39 U.vm ∧ U.heap = h) (fun _ _ _ _ _ => True) (fun _ U o U' => ∃ v L, o = .returned v ∧ Q v U'.heap L ∧ FrameEnd U o U' L rm.cells rm.slots)
section Own
variable {p : Program} {l : Launch} {e : Env} {R : Room} {s : State} {m : MethodId} {args : Array Value} {below : List Frame} {meth : Method} {c : Code} {T T' : State} {locs : List Loc} {cells slots : Nat} {Z : State} {a0 : Array Value} {h h' : Heap} {g g' : JFrame} {P : State → Prop}
theorem Goes.by (st : ∀ target, Steps p.tables e below (T'.setTop g') target → Steps p.tables e below (T.setTop g) target) (k : Goes p e below P T' g') : Goes p e below P T g := by
  obtain ⟨t, h1, h2⟩ := k
  exact ⟨t, st _ h1, h2⟩
theorem Goes.cast (q : g = g') (k : Goes p e below P T g') : Goes p e below P T g := q ▸ k
theorem Does.of {y : MethodName} {bytes : ByteArray} {maxL : Nat} {ret : Option FieldType} {ws : List Cond} {rm : Room} {as' : Array Value} {Q : Option Value → Heap → List Loc → Prop} (hp : plainFor y = true)
    (body : ∀ (p : Program) (e : Env) (s : State) (m : MethodId) (below : List Frame) (meth : Method) (c : Code) (s₁ : State), p.tables.exec = Jvm.exec → c.code = bytes → c.maxLocals = maxL → meth.sig.returnType = ret → meth.locks = false → Z.Warmed39 s.vm → s.vm.findClass y.cls = some m.cls → meth.name = y.name → Stand p l e rm s m as' below meth c s₁ [] 0 0 → s₁.heap = h →
      Goes p e below (Fin1 below s rm Q) s₁ (entryFrame m as' maxL)) : Does l y bytes maxL ret ws rm Z as' h Q := by
  refine MetFree.of_bodySF hp hisR ?_
  intro p e s m args below meth c s₁ Bd hml0 hP hK
  obtain ⟨rfl, hZ, hh⟩ := hP
  have e0 : s₁.heap = h := by rw [← hh, Bd.state]; rfl
  obtain ⟨t, h1, o, h2⟩ := body p e s m below meth c s₁ Bd.exec Bd.bytes hml0 Bd.returns Bd.notSynchronized hZ (findClass_of_methodNamed Bd.named) ((name_of_methodNamed Bd.named Bd.method).1) (Stand.of_body Bd) e0
  exact ⟨t, o, h1, h2⟩
theorem fin_of {rm : Room} {Q : Option Value → Heap → List Loc → Prop} {v : Option Value} (X : Stand p l e R s m args below meth c T locs cells slots) (hlk : meth.locks = false) (hv : meth.sig.returnType = none → v = none) (hQ : Q v T.heap locs) (hc : cells ≤ rm.cells) (hs : slots ≤ rm.slots)
    (st : ∀ fs, (∀ (f : JFrame) (acts : List Action), f.method = m → f.locked = none → f.entered = [] → (doReturn e (T.setTop f) acts v).1 = T.setFrames fs) → Steps p.tables e below (T.setTop g) (T.setFrames fs)) : Goes p e below (Fin1 below s rm Q) T g := by
  obtain ⟨fs, hr, hrun, hended, hW, hsame⟩ := X.leave (v := v) hv hlk
  exact ⟨_, st fs hr, _, hrun, hended, _, _, rfl, hQ, ⟨_, rfl⟩, hW, hsame.mono hc hs⟩
theorem outV {rm : Room} {Q : Option Value → Heap → List Loc → Prop} {pc : Nat} {Ls : Array Slot} (X : Stand p l e R s m args below meth c T locs cells slots) (hx : p.tables.exec = Jvm.exec) (hlk : meth.locks = false) (hret : meth.sig.returnType = none) (hd : decode c.code pc = .ok (.return_, 1)) (hQ : Q none T.heap locs) (hc : cells ≤ rm.cells) (hs : slots ≤ rm.slots) : Goes p e below (Fin1 below s rm Q) T (mkF m pc Ls []) :=
  fin_of X hlk (fun _ => rfl) hQ hc hs fun fs hr => X.returnOut hx hret hd hr
theorem outZ {rm : Room} {Q : Option Value → Heap → List Loc → Prop} {pc : Nat} {Ls : Array Slot} {z : Int32} {rest : List Value} (X : Stand p l e R s m args below meth c T locs cells slots) (hx : p.tables.exec = Jvm.exec) (hlk : meth.locks = false) (hret : meth.sig.returnType = some .boolean) (hd : decode c.code pc = .ok (.ireturn, 1)) (hQ : Q (some (.int (nar .boolean z))) T.heap locs) (hc : cells ≤ rm.cells) (hs : slots ≤ rm.slots) : Goes p e below (Fin1 below s rm Q) T (mkF m pc Ls (.int z :: rest)) :=
  fin_of X hlk (fun h => by rw [hret] at h; cases h) hQ hc hs fun fs hr => retN X hx (t := .boolean) hret (by simp) hd hr
theorem outO {rm : Room} {Q : Option Value → Heap → List Loc → Prop} {pc : Nat} {Ls : Array Slot} {w : Value} {t : FieldType} {i : Instr} {rest : List Value} (X : Stand p l e R s m args below meth c T locs cells slots) (hx : p.tables.exec = Jvm.exec) (hlk : meth.locks = false) (hret : meth.sig.returnType = some t) (hn : narrow t w = w)
    (hi : (i = .ireturn ∧ (t = .int ∨ t = .boolean ∨ t = .byte ∨ t = .char ∨ t = .short) ∧ ∃ z, w = .int z) ∨ (i = .lreturn ∧ t = .long ∧ ∃ z, w = .long z) ∨ (i = .dreturn ∧ t = .double ∧ ∃ z, w = .double z) ∨ (i = .freturn ∧ t = .float ∧ ∃ z, w = .float z) ∨ (i = .areturn ∧ t.isReference = true ∧ w.isRef = true))
    (hd : decode c.code pc = .ok (i, 1)) (hQ : Q (some w) T.heap locs) (hc : cells ≤ rm.cells) (hs : slots ≤ rm.slots) : Goes p e below (Fin1 below s rm Q) T (mkF m pc Ls (w :: rest)) :=
  fin_of X hlk (fun h => by rw [hret] at h; cases h) hQ hc hs fun fs hr => retOut X hx hret hn hi hd hr
theorem outI {rm : Room} {Q : Option Value → Heap → List Loc → Prop} {pc : Nat} {Ls : Array Slot} {z : Int32} {rest : List Value} (X : Stand p l e R s m args below meth c T locs cells slots) (hx : p.tables.exec = Jvm.exec) (hlk : meth.locks = false) (hret : meth.sig.returnType = some .int) (hd : decode c.code pc = .ok (.ireturn, 1)) (hQ : Q (some (.int z)) T.heap locs) (hc : cells ≤ rm.cells) (hs : slots ≤ rm.slots) : Goes p e below (Fin1 below s rm Q) T (mkF m pc Ls (.int z :: rest)) :=
  outO X hx hlk hret rfl (Or.inl ⟨rfl, Or.inl rfl, _, rfl⟩) hd hQ hc hs
theorem outJ {rm : Room} {Q : Option Value → Heap → List Loc → Prop} {pc : Nat} {Ls : Array Slot} {z : Int64} {rest : List Value} (X : Stand p l e R s m args below meth c T locs cells slots) (hx : p.tables.exec = Jvm.exec) (hlk : meth.locks = false) (hret : meth.sig.returnType = some .long) (hd : decode c.code pc = .ok (.lreturn, 1)) (hQ : Q (some (.long z)) T.heap locs) (hc : cells ≤ rm.cells) (hs : slots ≤ rm.slots) : Goes p e below (Fin1 below s rm Q) T (mkF m pc Ls (.long z :: rest)) :=
  outO X hx hlk hret rfl (Or.inr (Or.inl ⟨rfl, rfl, _, rfl⟩)) hd hQ hc hs
theorem outD {rm : Room} {Q : Option Value → Heap → List Loc → Prop} {pc : Nat} {Ls : Array Slot} {z : UInt64} {rest : List Value} (X : Stand p l e R s m args below meth c T locs cells slots) (hx : p.tables.exec = Jvm.exec) (hlk : meth.locks = false) (hret : meth.sig.returnType = some .double) (hd : decode c.code pc = .ok (.dreturn, 1)) (hQ : Q (some (.double z)) T.heap locs) (hc : cells ≤ rm.cells) (hs : slots ≤ rm.slots) : Goes p e below (Fin1 below s rm Q) T (mkF m pc Ls (.double z :: rest)) :=
  outO X hx hlk hret rfl (Or.inr (Or.inr (Or.inl ⟨rfl, rfl, _, rfl⟩))) hd hQ hc hs
theorem outA {rm : Room} {Q : Option Value → Heap → List Loc → Prop} {pc : Nat} {Ls : Array Slot} {w : Value} {t : FieldType} {rest : List Value} (X : Stand p l e R s m args below meth c T locs cells slots) (hx : p.tables.exec = Jvm.exec) (hlk : meth.locks = false) (hret : meth.sig.returnType = some t) (ht : t.isReference = true) (hw : w.isRef = true) (hn : narrow t w = w) (hd : decode c.code pc = .ok (.areturn, 1)) (hQ : Q (some w) T.heap locs) (hc : cells ≤ rm.cells) (hs : slots ≤ rm.slots) : Goes p e below (Fin1 below s rm Q) T (mkF m pc Ls (w :: rest)) :=
  outO X hx hlk hret hn (Or.inr (Or.inr (Or.inr (Or.inr ⟨rfl, ht, hw⟩)))) hd hQ hc hs
/-! calls by a contract -/
theorem callI (X : Stand p l e R s m args below meth c T locs cells slots) (hx : p.tables.exec = Jvm.exec) (hZ : Z.Warmed39 s.vm) {own : String} {index : Nat} {y : MethodName} (hy1 : y.name = "<init>") (hown : s.vm.findClass own = some m.cls) {bytes : ByteArray} {maxL : Nat} {rm : Room}
    (w1 : (Cond.methodLink own index y).before a0 Z = true) (w2 : (Cond.instanceMethod y).before a0 Z = true) (w3 : (Cond.code y bytes maxL none).before a0 Z = true) (w4 : (Cond.initialized y.cls).before a0 Z = true) (hy : y.cls ≠ "java/lang/invoke/MethodHandle" ∧ y.cls ≠ "java/lang/invoke/VarHandle")
    (eT : T.heap = h) {a : Addr} {argsL rest : List Value} {as' : Array Value} {Q : Option Value → Heap → List Loc → Prop} {W : Nat} (hM : Does l y bytes maxL none [] rm Z as' h Q) (has : (.ref a :: argsL).toArray = as') (hf : rm.frames + 1 ≤ R.frames) (hl : W + (maxL + 11) + rm.locals ≤ R.locals)
    (hcc : cells + rm.cells ≤ R.cells) (hss : slots + rm.slots ≤ R.slots) {g : JFrame} (hg : g.method = m) (hsize : g.locals.size = c.maxLocals) (hlen : ∀ sig, parseMethodDescriptor y.desc = some sig → argsL.length = sig.parameters.length) (hst : g.stack = argsL.reverse ++ .ref a :: rest) (hW : 2 * g.monitorRoom + (rest.map fun v => v.category).sum ≤ W) (hd : decode c.code g.pc = .ok (.invokespecial index, 3)) :
    ∃ v T' L, Stand p l e R s m args below meth c T' (locs ++ L) (cells + rm.cells) (slots + rm.slots) ∧ Q v T'.heap L ∧ ∀ target, Steps p.tables e below (T'.setTop { g with pc := g.pc + 3, stack := v.toList ++ rest }) target → Steps p.tables e below (T.setTop g) target := by
  obtain ⟨v, vm1, ⟨T', L', k', n'⟩, -, X', ⟨L, hQ, e1, e2, e3⟩, st⟩ := X.specialBack hx (y := y) hy1 hown (mvT hZ w1) (mvT hZ w2) (mvT hZ w3) hy (backOf (W := W) hM hZ w3 w4 hf hl) hg hsize (Steps.refl _) hlen hst hW hd (fun _ _ => ⟨has, eT, hcc, hss⟩)
  dsimp only [Pt.U, Pt.locs, Pt.cells, Pt.slots] at X' e1 e2 e3 st hQ
  subst e1 e2 e3
  exact ⟨v, T', L, X', hQ, fun t k => st.trans k⟩
theorem callV (X : Stand p l e R s m args below meth c T locs cells slots) (hx : p.tables.exec = Jvm.exec) (hZ : Z.Warmed39 s.vm) {own C : String} {index : Nat} {y : MethodName} (hown : s.vm.findClass own = some m.cls) {bytes : ByteArray} {maxL : Nat} {ret : Option FieldType} {rm : Room}
    (w1 : (Cond.methodLink own index y).before a0 Z = true) (w2 : (Cond.declares y).before a0 Z = true) (w3 : (Cond.selects C y y).before a0 Z = true) (w4 : (Cond.instanceMethod y).before a0 Z = true) (w5 : (Cond.code y bytes maxL ret).before a0 Z = true) (w6 : (Cond.initialized y.cls).before a0 Z = true) (hy : y.cls ≠ "java/lang/invoke/MethodHandle" ∧ y.cls ≠ "java/lang/invoke/VarHandle")
    (eT : T.heap = h) {a : Addr} (E : Exa Z h a C) {argsL rest : List Value} {as' : Array Value} {Q : Option Value → Heap → List Loc → Prop} {W : Nat} (hM : Does l y bytes maxL ret [] rm Z as' h Q) (has : (.ref a :: argsL).toArray = as') (hf : rm.frames + 1 ≤ R.frames) (hl : W + (maxL + 11) + rm.locals ≤ R.locals)
    (hcc : cells + rm.cells ≤ R.cells) (hss : slots + rm.slots ≤ R.slots) {g : JFrame} (hg : g.method = m) (hsize : g.locals.size = c.maxLocals) (hlen : ∀ sig, parseMethodDescriptor y.desc = some sig → argsL.length = sig.parameters.length) (hst : g.stack = argsL.reverse ++ .ref a :: rest) (hW : 2 * g.monitorRoom + (rest.map fun v => v.category).sum ≤ W) (hd : decode c.code g.pc = .ok (.invokevirtual index, 3)) :
    ∃ v T' L, Stand p l e R s m args below meth c T' (locs ++ L) (cells + rm.cells) (slots + rm.slots) ∧ Q v T'.heap L ∧ ∀ target, Steps p.tables e below (T'.setTop { g with pc := g.pc + 3, stack := v.toList ++ rest }) target → Steps p.tables e below (T.setTop g) target := by
  obtain ⟨cB, kB, q1, q2, q3⟩ := isOf hZ eT E
  obtain ⟨v, vm1, ⟨T', L', k', n'⟩, -, X', ⟨L, hQ, e1, e2, e3⟩, st⟩ := X.virtualBack hx (y := y) (z := y) hown (mvT hZ w1) (mvT hZ w2) (notFace_of_selects (args := args) (mvT hZ w3)) (mvT hZ w3) (mvT hZ w4) hy (backOf (W := W) hM hZ w5 w6 hf hl) q1 q3 hg hsize (Steps.refl _) hlen hst hW hd (fun _ _ => ⟨has, eT, hcc, hss⟩)
  dsimp only [Pt.U, Pt.locs, Pt.cells, Pt.slots] at X' e1 e2 e3 st hQ
  subst e1 e2 e3
  exact ⟨v, T', L, X', hQ, fun t k => st.trans k⟩
theorem callC (X : Stand p l e R s m args below meth c T locs cells slots) (hx : p.tables.exec = Jvm.exec) (hZ : Z.Warmed39 s.vm) {own : String} {index : Nat} {y : MethodName} (hown : s.vm.findClass own = some m.cls) {bytes : ByteArray} {maxL : Nat} {ret : Option FieldType} {rm : Room}
    (w1 : (Cond.methodLink own index y).before a0 Z = true) (w2 : (Cond.static y).before a0 Z = true) (w3 : (Cond.code y bytes maxL ret).before a0 Z = true) (w4 : (Cond.initialized y.cls).before a0 Z = true) (hy : y.cls ≠ "java/lang/invoke/MethodHandle" ∧ y.cls ≠ "java/lang/invoke/VarHandle")
    (eT : T.heap = h) {argsL rest : List Value} {as' : Array Value} {Q : Option Value → Heap → List Loc → Prop} {W : Nat} (hM : Does l y bytes maxL ret [] rm Z as' h Q) (has : argsL.toArray = as') (hf : rm.frames + 1 ≤ R.frames) (hl : W + (maxL + 11) + rm.locals ≤ R.locals)
    (hcc : cells + rm.cells ≤ R.cells) (hss : slots + rm.slots ≤ R.slots) {g : JFrame} (hg : g.method = m) (hsize : g.locals.size = c.maxLocals) (hlen : ∀ sig, parseMethodDescriptor y.desc = some sig → argsL.length = sig.parameters.length) (hst : g.stack = argsL.reverse ++ rest) (hW : 2 * g.monitorRoom + (rest.map fun v => v.category).sum ≤ W) (hd : decode c.code g.pc = .ok (.invokestatic index, 3)) :
    ∃ v T' L, Stand p l e R s m args below meth c T' (locs ++ L) (cells + rm.cells) (slots + rm.slots) ∧ Q v T'.heap L ∧ ∀ target, Steps p.tables e below (T'.setTop { g with pc := g.pc + 3, stack := v.toList ++ rest }) target → Steps p.tables e below (T.setTop g) target := by
  obtain ⟨v, vm1, ⟨T', L', k', n'⟩, -, X', ⟨L, hQ, e1, e2, e3⟩, st⟩ := Jvm.LawKit.callS X hx (y := y) hown (mvT hZ w1) (mvT hZ w2) (mvT hZ w4) (mvT hZ w3) hy (backOf (W := W) hM hZ w3 w4 hf hl) hg hsize hlen hst hW hd (fun _ _ => ⟨has, eT, hcc, hss⟩)
  dsimp only [Pt.U, Pt.locs, Pt.cells, Pt.slots] at X' e1 e2 e3 st hQ
  subst e1 e2 e3
  exact ⟨v, T', L, X', hQ, st⟩
end Own
end Jvm.RoadKit
namespace Jvm.Free.XS
open Sem ClassFile Op Lib
theorem lcmpS {tb : Tables} [Ours tb] {e : Env} {below : List Frame} {T target : State} {m : MethodId} {c : Code} {g : JFrame} (h : At T m c below) (hx : tb.exec = Jvm.exec) (hg : g.method = m) {x y : Int64} {v : Int32} {rest : List Value} (hd : decode c.code g.pc = .ok (.lcmp, 1)) (hs : g.stack = .long y :: .long x :: rest) (hv : Jvm.RoadKit.lcmpW x y = v)
    (hr : Steps tb e below (T.setTop { g with pc := g.pc + 1, stack := .int v :: rest }) target) : Steps tb e below (T.setTop g) target := by
  subst hv
  exact lcmp h hx hg hd hs hr
end Jvm.Free.XS
namespace Jvm.RoadKit
open Sem ClassFile Op Lib Jvm.Stand Jvm.Free Jvm.LawKit Jvm.FP Jvm.Free.Fl
section OwnD
theorem own_cmp (i j : Int) : compare i j = if i < j then Ordering.lt else if i = j then Ordering.eq else Ordering.gt := rfl
theorem cmpL_lt {x y : Int64} (h : x < y) : lcmpW x y = -1 := by
  have h' := Int64.lt_iff_toInt_lt.mp h
  show (if y < x then (1 : Int32) else if x = y then 0 else -1) = -1
  rw [if_neg (fun q => by have := Int64.lt_iff_toInt_lt.mp q; omega), if_neg (fun q => by rw [q] at h'; omega)]
theorem cmpL_eq {x y : Int64} (h : x = y) : lcmpW x y = 0 := by
  subst h
  show (if x < x then (1 : Int32) else if x = x then 0 else -1) = 0
  rw [if_neg (fun q => by have := Int64.lt_iff_toInt_lt.mp q; omega), if_pos rfl]
theorem cmpL_gt {x y : Int64} (h : y < x) : lcmpW x y = 1 := by
  show (if y < x then (1 : Int32) else if x = y then 0 else -1) = 1
  rw [if_pos h]
theorem DInt_nn {i : Int} {x : UInt64} (h : Core.DInt i x) : NoNaN64 x := val64_no.mpr (Core.DInt_ne_nan h)
theorem DInt_fin {i : Int} {x : UInt64} (h : Core.DInt i x) : Fin64 x := fin64_core.mpr (by
  have h' : Core.Whole i (Core.val64 x) := h
  cases q : Core.val64 x with
  | nan => rw [q] at h'; exact h'.elim
  | inf s => rw [q] at h'; exact h'.elim
  | fin s c e => exact ⟨s, c, e, q⟩)
theorem cmpD_lt {i j : Int} {x y : UInt64} (hx : Core.DInt i x) (hy : Core.DInt j y) (h : i < j) (o : CmpOp) : cmpValue (FP.dcmp x y) o = -1 := by
  rw [show FP.dcmp x y = _ from Core.dcmp_int hx hy, own_cmp, if_pos h]; rfl
theorem cmpD_eq {i j : Int} {x y : UInt64} (hx : Core.DInt i x) (hy : Core.DInt j y) (h : i = j) (o : CmpOp) : cmpValue (FP.dcmp x y) o = 0 := by
  rw [show FP.dcmp x y = _ from Core.dcmp_int hx hy, own_cmp, if_neg (by omega), if_pos h]; rfl
theorem cmpD_gt {i j : Int} {x y : UInt64} (hx : Core.DInt i x) (hy : Core.DInt j y) (h : j < i) (o : CmpOp) : cmpValue (FP.dcmp x y) o = 1 := by
  rw [show FP.dcmp x y = _ from Core.dcmp_int hx hy, own_cmp, if_neg (by omega), if_neg (by omega)]; rfl
theorem DInt_zero : Core.DInt 0 0 := by
  have h := Core.l2d_int (a := 0) (by decide)
  rw [show Core.l2d 0 = 0 from l2d_zero] at h
  exact h
theorem DInt_i2d {x : Int32} {d : UInt64} (q : FP.i2d x = d) : Core.DInt x.toInt d := q ▸ Core.i2d_int x
theorem DInt_l2d {x : Int64} {d : UInt64} (q : FP.l2d x = d) (h : x.toInt.natAbs ≤ 2 ^ 53) : Core.DInt x.toInt d := q ▸ Core.l2d_int h
theorem DInt_add {i j : Int} {a b d : UInt64} (q : FP.dadd a b = d) (ha : Core.DInt i a) (hb : Core.DInt j b) (h : (i + j).natAbs ≤ 2 ^ 53) : Core.DInt (i + j) d := q ▸ Core.dadd_int ha hb h
theorem DInt_sub {i j : Int} {a b d : UInt64} (q : FP.dsub a b = d) (ha : Core.DInt i a) (hb : Core.DInt j b) (h : (i - j).natAbs ≤ 2 ^ 53) : Core.DInt (i - j) d := q ▸ Core.dsub_int ha hb h
theorem DInt_mul {i j : Int} {a b d : UInt64} (q : FP.dmul a b = d) (ha : Core.DInt i a) (hb : Core.DInt j b) (h : (i * j).natAbs ≤ 2 ^ 53) : Core.DInt (i * j) d := q ▸ Core.dmul_int ha hb h
end OwnD
/-! an array by the list of its values -/
def Sar (Z : State) (h : Heap) (a : Addr) (ty : FieldType) (vs : List Value) : Prop := ∃ c : Cell, Arr Z h a c ty ∧ c.slots = vs.toArray
section OwnA
variable {p : Program} {l : Launch} {e : Env} {R : Room} {s : State} {m : MethodId} {args : Array Value} {below : List Frame} {meth : Method} {c : Code} {T : State} {locs : List Loc} {cells slots : Nat} {Z : State} {a0 : Array Value} {h h' : Heap} {a b : Addr} {ty : FieldType} {vs : List Value} {sl : Nat} {v : Value} {ws : List Addr}
theorem Sar.lt (F : Sar Z h a ty vs) : a < h.size := by obtain ⟨c, A, -⟩ := F; exact A.lt
theorem Sar.ext (F : Sar Z h a ty vs) (E : Ext h h') : Sar Z h' a ty vs := by obtain ⟨c, A, r⟩ := F; exact ⟨c, A.ext E, r⟩
theorem Sar.other (F : Sar Z h b ty vs) (W : Wr h h' a sl v) (q : b ≠ a) : Sar Z h' b ty vs := by obtain ⟨c, A, r⟩ := F; exact ⟨c, A.other W q, r⟩
theorem Sar.keep (F : Sar Z h a ty vs) (K : Keep h h' ws) (q : a ∉ ws) : Sar Z h' a ty vs := by obtain ⟨c, A, r⟩ := F; exact ⟨c, ⟨K.2.1 a c A.1 q, A.2⟩, r⟩
theorem Sar.new {k : ClassId} {z : Int32} {n : Nat} (A : Arr Z h a (newA k ty z) ty) (hn : z.toNatClampNeg = n) : Sar Z h a ty (List.replicate n (defaultValue ty)) := ⟨_, A, by subst hn; show Array.replicate _ _ = _; simp⟩
theorem Sar.in {cl : Cell} {j : Int32} {i : Nat} (S : cl.slots = vs.toArray) (hj : j.toInt = i) (hi : i < vs.length) : ¬ (j < 0 ∨ cl.slots.size ≤ j.toNatClampNeg) := by
  rw [S]
  have q : j.toNatClampNeg = i := by show j.toInt.toNat = i; omega
  have r : ¬ j < 0 := fun z => by have z' := Int32.lt_iff_toInt_lt.mp z; rw [hj] at z'; simp at z'; omega
  rw [q]
  simp only [List.size_toArray]
  intro z
  rcases z with z | z
  · exact r z
  · omega
theorem Sar.nat {j : Int32} {i : Nat} (hj : j.toInt = i) : j.toNatClampNeg = i := by show j.toInt.toNat = i; omega
theorem stDS (X : Stand p l e R s m args below meth c T locs cells slots) (hx : p.tables.exec = Jvm.exec) (hZ : Z.Warmed39 s.vm) (eT : T.heap = h) (V : Sar Z h a .double vs) {j : Int32} {x : UInt64} (i : Nat) (hj : j.toInt = i) (hi : i < vs.length) {g : JFrame} (hg : g.method = m) {rest : List Value} (hs : g.stack = .double x :: .int j :: .ref a :: rest) (hd : decode c.code g.pc = .ok (.dastore, 1)) :
    ∃ T' h', Stand p l e R s m args below meth c T' (locs ++ [⟨a, i⟩]) cells slots ∧ T'.heap = h' ∧ Wr h h' a i (.double x) ∧ Sar Z h' a .double (vs.set i (.double x)) ∧ ∀ target, Steps p.tables e below (T'.setTop { g with pc := g.pc + 1, stack := rest }) target → Steps p.tables e below (T.setTop g) target := by
  obtain ⟨cl, A, S⟩ := V
  obtain ⟨T', h', X', e', W, st⟩ := stD X hx hZ eT A (Sar.in S hj hi) hg hs hd
  rw [Sar.nat hj] at X' W
  exact ⟨T', h', X', e', W, ⟨_, A.same W, by show cl.slots.setIfInBounds _ _ = _; rw [S]; simp⟩, st⟩
theorem stIS (X : Stand p l e R s m args below meth c T locs cells slots) (hx : p.tables.exec = Jvm.exec) (hZ : Z.Warmed39 s.vm) (eT : T.heap = h) (V : Sar Z h a .int vs) {j : Int32} {x : Int32} (i : Nat) (hj : j.toInt = i) (hi : i < vs.length) {g : JFrame} (hg : g.method = m) {rest : List Value} (hs : g.stack = .int x :: .int j :: .ref a :: rest) (hd : decode c.code g.pc = .ok (.iastore, 1)) :
    ∃ T' h', Stand p l e R s m args below meth c T' (locs ++ [⟨a, i⟩]) cells slots ∧ T'.heap = h' ∧ Wr h h' a i (.int x) ∧ Sar Z h' a .int (vs.set i (.int x)) ∧ ∀ target, Steps p.tables e below (T'.setTop { g with pc := g.pc + 1, stack := rest }) target → Steps p.tables e below (T.setTop g) target := by
  obtain ⟨cl, A, S⟩ := V
  obtain ⟨T', h', X', e', W, st⟩ := stI X hx hZ eT A (Sar.in S hj hi) hg hs hd
  rw [Sar.nat hj] at X' W
  exact ⟨T', h', X', e', W, ⟨_, A.same W, by show cl.slots.setIfInBounds _ _ = _; rw [S]; simp⟩, st⟩
theorem ldDS (X : Stand p l e R s m args below meth c T locs cells slots) (hx : p.tables.exec = Jvm.exec) (hZ : Z.Warmed39 s.vm) (eT : T.heap = h) (V : Sar Z h a .double vs) {j : Int32} (i : Nat) (hj : j.toInt = i) (hv : vs[i]? = some v) {g : JFrame} (hg : g.method = m) {rest : List Value} (hs : g.stack = .int j :: .ref a :: rest) (hd : decode c.code g.pc = .ok (.daload, 1)) :
    ∀ target, Steps p.tables e below (T.setTop { g with pc := g.pc + 1, stack := v :: rest }) target → Steps p.tables e below (T.setTop g) target := by
  obtain ⟨cl, A, S⟩ := V
  have hi : i < vs.length := (List.getElem?_eq_some_iff.mp hv).1
  exact X.daload hx (by rw [eT]; exact A.1) (State.isArrayOf_alike hZ.alike A.2.1) A.2.2 (Sar.in S hj hi) (by rw [S, Sar.nat hj]; simpa using hv) hg hs hd
theorem ldIS (X : Stand p l e R s m args below meth c T locs cells slots) (hx : p.tables.exec = Jvm.exec) (hZ : Z.Warmed39 s.vm) (eT : T.heap = h) (V : Sar Z h a .int vs) {j : Int32} (i : Nat) (hj : j.toInt = i) (hv : vs[i]? = some v) {g : JFrame} (hg : g.method = m) {rest : List Value} (hs : g.stack = .int j :: .ref a :: rest) (hd : decode c.code g.pc = .ok (.iaload, 1)) :
    ∀ target, Steps p.tables e below (T.setTop { g with pc := g.pc + 1, stack := v :: rest }) target → Steps p.tables e below (T.setTop g) target := by
  obtain ⟨cl, A, S⟩ := V
  have hi : i < vs.length := (List.getElem?_eq_some_iff.mp hv).1
  exact X.iaload hx (by rw [eT]; exact A.1) (State.isArrayOf_alike hZ.alike A.2.1) A.2.2 (Sar.in S hj hi) (by rw [S, Sar.nat hj]; simpa using hv) hg hs hd
theorem lenS (X : Stand p l e R s m args below meth c T locs cells slots) (hx : p.tables.exec = Jvm.exec) (hZ : Z.Warmed39 s.vm) (eT : T.heap = h) (V : Sar Z h a ty vs) {n : Int32} (hn : vs.length.toInt32 = n) {g : JFrame} (hg : g.method = m) {rest : List Value} (hs : g.stack = .ref a :: rest) (hd : decode c.code g.pc = .ok (.arraylength, 1)) :
    ∀ target, Steps p.tables e below (T.setTop { g with pc := g.pc + 1, stack := .int n :: rest }) target → Steps p.tables e below (T.setTop g) target := by
  obtain ⟨cl, A, S⟩ := V
  intro target k
  refine X.arraylength hx (by rw [eT]; exact A.1) (State.isArrayOf_alike hZ.alike A.2.1) hg hs hd target ?_
  rw [S]
  simp only [List.size_toArray, hn]
  exact k
end OwnA
end Jvm.RoadKit
namespace Jvm.RoadKit
open Jvm.FP Jvm.Free.Fl
theorem DInt_nz {i : Int} {x : UInt64} (h : Core.DInt i x) (hi : i ≠ 0) : Nz64 x := nz64_core.mpr fun z => by
  obtain ⟨s, q, e⟩ := z
  have h' : Core.Whole i (Core.val64 x) := h
  rw [e] at h'
  exact hi ((Core.whole_zero h').mp rfl)
theorem DInt_one : Core.DInt 1 4607182418800017408 := Core.dint_one
end Jvm.RoadKit
namespace Jvm.RoadKit
open Jvm.FP Jvm.Free.Fl Op
theorem cmpD_le {i j : Int} {x y : UInt64} (hx : Core.DInt i x) (hy : Core.DInt j y) (h : i ≤ j) (o : ClassFile.CmpOp) : ∃ v : Int32, cmpValue (FP.dcmp x y) o = v ∧ ¬ (0 : Int32) < v := by
  by_cases q : i < j
  · exact ⟨-1, cmpD_lt hx hy q o, by decide⟩
  · exact ⟨0, cmpD_eq hx hy (by omega) o, by decide⟩
theorem cmpD_ge {i j : Int} {x y : UInt64} (hx : Core.DInt i x) (hy : Core.DInt j y) (h : j ≤ i) (o : ClassFile.CmpOp) : ∃ v : Int32, cmpValue (FP.dcmp x y) o = v ∧ ¬ v < (0 : Int32) := by
  by_cases q : j < i
  · exact ⟨1, cmpD_gt hx hy q o, by decide⟩
  · exact ⟨0, cmpD_eq hx hy (by omega) o, by decide⟩
end Jvm.RoadKit
namespace Jvm.RoadKit
open Jvm.Free
theorem cmpL_le {x y : Int64} (h : ¬ y.toInt < x.toInt) : ∃ v : Int32, lcmpW x y = v ∧ ¬ (0 : Int32) < v := by
  by_cases q : x.toInt < y.toInt
  · exact ⟨-1, cmpL_lt (Int64.lt_iff_toInt_lt.mpr q), by decide⟩
  · exact ⟨0, cmpL_eq (Int64.toInt_inj.mp (by omega)), by decide⟩
theorem cmpL_gtI {x y : Int64} (h : y.toInt < x.toInt) : lcmpW x y = 1 := cmpL_gt (Int64.lt_iff_toInt_lt.mpr h)
end Jvm.RoadKit
namespace Jvm.RoadKit
open Jvm.Free
theorem cmpL_ge {x y : Int64} (h : ¬ x.toInt < y.toInt) : ∃ v : Int32, lcmpW x y = v ∧ ¬ v < (0 : Int32) := by
  by_cases q : y.toInt < x.toInt
  · exact ⟨1, cmpL_gtI q, by decide⟩
  · exact ⟨0, cmpL_eq (Int64.toInt_inj.mp (by omega)), by decide⟩
end Jvm.RoadKit
namespace Jvm.RoadKit
section OwnN
theorem own_mb {i j : Int} {A B : Nat} (hi : i.natAbs ≤ A) (hj : j.natAbs ≤ B) : (i * j).natAbs ≤ A * B := by rw [Int.natAbs_mul]; exact Nat.mul_le_mul hi hj
theorem own_mb2 {i j : Int} {A B : Nat} (hi : -(A : Int) ≤ i ∧ i ≤ A) (hj : -(B : Int) ≤ j ∧ j ≤ B) : -((A * B : Nat) : Int) ≤ i * j ∧ i * j ≤ ((A * B : Nat) : Int) := by
  have h := own_mb (i := i) (j := j) (A := A) (B := B) (by omega) (by omega)
  omega
theorem own_ladd {a b : Int64} (h1 : -9223372036854775808 ≤ a.toInt + b.toInt) (h2 : a.toInt + b.toInt < 9223372036854775808) : (a + b).toInt = a.toInt + b.toInt := by
  have := c_ladd a b; have := rng64 (a + b); omega
theorem own_lsub {a b : Int64} (h1 : -9223372036854775808 ≤ a.toInt - b.toInt) (h2 : a.toInt - b.toInt < 9223372036854775808) : (a - b).toInt = a.toInt - b.toInt := by
  have := c_lsub a b; have := rng64 (a - b); omega
theorem own_lmul {a b : Int64} (h : (a.toInt * b.toInt).natAbs < 9223372036854775808) : (a * b).toInt = a.toInt * b.toInt := by
  have := c_lmul a b; have := rng64 (a * b); omega
theorem own_short (x : Int32) : (x.toInt16.toInt32).toInt.natAbs ≤ 32768 := by
  have := c_i2s x; omega
theorem own_and3 (x : Int32) : (x &&& 3) = 0 ∨ (x &&& 3) = 1 ∨ (x &&& 3) = 2 ∨ (x &&& 3) = 3 := by
  have h := c_and x 3 (by decide)
  have e : (3 : Int32).toInt = 3 := by decide
  simp only [← Int32.toInt_inj]
  rw [show (0 : Int32).toInt = 0 from by decide, show (1 : Int32).toInt = 1 from by decide, show (2 : Int32).toInt = 2 from by decide, e]
  omega
end OwnN
end Jvm.RoadKit
namespace Jvm.RoadKit
theorem own_cancel {A B u v x y : Nat} (h : A * 2 ^ u = B * 2 ^ v) (e : u + y = v + x) : A * 2 ^ x = B * 2 ^ y := by
  refine Nat.eq_of_mul_eq_mul_right (Nat.two_pow_pos v) ?_
  rw [Nat.mul_assoc, ← Nat.pow_add, Nat.add_comm x v, ← e, Nat.pow_add, ← Nat.mul_assoc, h, Nat.mul_assoc, Nat.mul_assoc, Nat.mul_comm (2 ^ v)]
end Jvm.RoadKit
namespace Jvm.RoadKit
open Jvm.FP Jvm.Free.Fl Op
section OwnZ
/-- the double x is finite, and worth m units of 2^-1074 -/
def Zv (m : Int) (x : UInt64) : Prop := Core.DFin x ∧ Core.zval Core.b64 (Core.val64 x) = m
theorem Zv.fin {m : Int} {x : UInt64} (h : Zv m x) : Fin64 x := fin64_core.mpr h.1
theorem Zv.ne {m : Int} {x : UInt64} (h : Zv m x) : Core.val64 x ≠ .nan := by obtain ⟨⟨s, c, q, e⟩, -⟩ := h; rw [e]; exact fun z => nomatch z
theorem Zv.nn {m : Int} {x : UInt64} (h : Zv m x) : NoNaN64 x := val64_no.mpr h.ne
theorem Zv.lt {m n : Int} {x y : UInt64} (hx : Zv m x) (hy : Zv n y) (h : m < n) : FP.dcmp x y = some .lt := Core.dcmp_lt.mpr ⟨hx.ne, hy.ne, by rw [hx.2, hy.2]; exact h⟩
theorem Zv.gt {m n : Int} {x y : UInt64} (hx : Zv m x) (hy : Zv n y) (h : n < m) : FP.dcmp x y = some .gt := Core.dcmp_gt.mpr ⟨hx.ne, hy.ne, by rw [hx.2, hy.2]; exact h⟩
theorem Zv.eq {m n : Int} {x y : UInt64} (hx : Zv m x) (hy : Zv n y) (h : m = n) : FP.dcmp x y = some .eq := Core.dcmp_eq.mpr ⟨hx.ne, hy.ne, by rw [hx.2, hy.2]; exact h⟩
theorem Zv.cmp_lt {m n : Int} {x y : UInt64} (hx : Zv m x) (hy : Zv n y) (h : m < n) (o : ClassFile.CmpOp) : cmpValue (FP.dcmp x y) o = -1 := by rw [hx.lt hy h]; rfl
theorem Zv.cmp_gt {m n : Int} {x y : UInt64} (hx : Zv m x) (hy : Zv n y) (h : n < m) (o : ClassFile.CmpOp) : cmpValue (FP.dcmp x y) o = 1 := by rw [hx.gt hy h]; rfl
theorem Zv.cmp_eq {m n : Int} {x y : UInt64} (hx : Zv m x) (hy : Zv n y) (h : m = n) (o : ClassFile.CmpOp) : cmpValue (FP.dcmp x y) o = 0 := by rw [hx.eq hy h]; rfl
theorem Zv.cmp_le {m n : Int} {x y : UInt64} (hx : Zv m x) (hy : Zv n y) (h : m ≤ n) (o : ClassFile.CmpOp) : ∃ v : Int32, cmpValue (FP.dcmp x y) o = v ∧ ¬ (0 : Int32) < v := by
  by_cases q : m < n
  · exact ⟨-1, hx.cmp_lt hy q o, by decide⟩
  · exact ⟨0, hx.cmp_eq hy (by omega) o, by decide⟩
theorem Zv.cmp_ge {m n : Int} {x y : UInt64} (hx : Zv m x) (hy : Zv n y) (h : n ≤ m) (o : ClassFile.CmpOp) : ∃ v : Int32, cmpValue (FP.dcmp x y) o = v ∧ ¬ v < (0 : Int32) := by
  by_cases q : n < m
  · exact ⟨1, hx.cmp_gt hy q o, by decide⟩
  · exact ⟨0, hx.cmp_eq hy (by omega) o, by decide⟩
theorem own_qmin : Core.b64.qmin = -1074 := by decide
theorem own_M : ((2 ^ 1074 : Nat) : Int) = (Core.one64 : Int) := rfl
theorem Zv.of_int {i : Int} {x : UInt64} (h : Core.DInt i x) : Zv (i * ((2 ^ 1074 : Nat) : Int)) x := by
  refine ⟨fin64_core.mp (DInt_fin h), ?_⟩
  rw [Core.DInt_zval h]; rfl
/-- what of n * 2^(1074 - t) units the format holds exactly -/
theorem own_fit (s : Bool) {n t : Nat} (hn : n ≤ 2 ^ 53) (ht : t ≤ 1074) : ∃ c q, Core.roundRatio Core.b64 s n 1 (-(t : Int)) = .fin s c q ∧ Core.zmag Core.b64 (.fin s c q) = n * 2 ^ (1074 - t) := by
  have hp : Core.b64.p = 53 := by decide
  have hq := own_qmin
  have hM : Core.b64.qmax = 971 := by decide
  by_cases h : n = 2 ^ 53
  · subst h
    obtain ⟨c, q, e1, e2⟩ := Core.round_exact Core.good_b64 s (c := 2 ^ 52) (q := 1 - (t : Int)) (by rw [hp]; decide) (by rw [hq]; omega) (by rw [hM]; omega)
    refine ⟨c, q, ?_, ?_⟩
    · rw [← e1]
      show _ = Core.roundRatio Core.b64 s (2 ^ 52) 1 (1 - (t : Int))
      refine Core.roundRatio_congr (by decide) (by decide) ?_
      rw [show (-(t : Int) - (1 - (t : Int))).toNat = 0 by omega, show (1 - (t : Int) - -(t : Int)).toNat = 1 by omega]
    · show Core.inUnits c q Core.b64.qmin = _
      rw [e2]
      show 2 ^ 52 * 2 ^ (1 - (t : Int) - Core.b64.qmin).toNat = _
      rw [hq, show (1 - (t : Int) - -1074).toNat = (1074 - t) + 1 by omega, show (2 : Nat) ^ 53 = 2 ^ 52 * 2 from rfl, Nat.mul_assoc, Nat.pow_succ' (m := 2) (n := 1074 - t)]
  · obtain ⟨c, q, e1, e2⟩ := Core.round_exact Core.good_b64 s (c := n) (q := -(t : Int)) (by rw [hp]; omega) (by rw [hq]; omega) (by rw [hM]; omega)
    refine ⟨c, q, e1, ?_⟩
    show Core.inUnits c q Core.b64.qmin = _
    rw [e2]
    show n * 2 ^ (-(t : Int) - Core.b64.qmin).toNat = _
    rw [hq, show (-(t : Int) - -1074).toNat = 1074 - t by omega]
theorem Zv.mk {x : UInt64} {s : Bool} {A B : Nat} {e : Int} {m : Int} {n t : Nat} (hv : Core.val64 x = Core.roundRatio Core.b64 s A B e) (hB : 0 < B) (hn : n ≤ 2 ^ 53) (ht : t ≤ 1074) (h : A * 2 ^ (e + t).toNat = n * B * 2 ^ (-(t : Int) - e).toNat) (hm : Core.signed s (n * 2 ^ (1074 - t)) = m) : Zv m x := by
  have e1 : Core.roundRatio Core.b64 s A B e = Core.roundRatio Core.b64 s n 1 (-(t : Int)) := Core.roundRatio_congr hB (by decide) (by
    rw [show e - -(t : Int) = e + t by omega, Nat.mul_one]; exact h)
  obtain ⟨c, q, e2, e3⟩ := own_fit s hn ht
  rw [e1, e2] at hv
  refine ⟨⟨s, c, q, hv⟩, ?_⟩
  rw [hv]
  show Core.signed s (Core.zmag Core.b64 (.fin s c q)) = m
  rw [e3]; exact hm
theorem Zv.parts {m : Int} {x : UInt64} (h : Zv m x) : ∃ s c q, Core.val64 x = .fin s c q ∧ -1074 ≤ q ∧ m = Core.signed s (c * 2 ^ (q + 1074).toNat) := by
  obtain ⟨⟨s, c, q, e⟩, hz⟩ := h
  have hf := Core.val64_fits x
  rw [e] at hf hz
  have hq : Core.b64.qmin ≤ q := hf.2.1
  rw [own_qmin] at hq
  refine ⟨s, c, q, e, hq, ?_⟩
  rw [← hz]
  show Core.signed s (c * 2 ^ (q - Core.b64.qmin).toNat) = _
  rw [own_qmin, show q - -1074 = q + 1074 by omega]
theorem own_signed_abs (s : Bool) (c : Nat) : (Core.signed s c).natAbs = c := Core.natAbs_signed s c
/-- a product that the format holds -/
theorem Zv.mul {a b m : Int} {x y d : UInt64} {n t : Nat} (hx : Zv a x) (hy : Zv b y) (qd : FP.dmul x y = d) (h : a * b = m * ((2 ^ 1074 : Nat) : Int)) (hm : m.natAbs = n * 2 ^ (1074 - t)) (hn : n ≤ 2 ^ 53) (ht : t ≤ 1074) : Zv m d := by
  obtain ⟨s, c, q, e1, hq, rfl⟩ := hx.parts
  obtain ⟨t', c', r, e2, hr, rfl⟩ := hy.parts
  have hv : Core.val64 d = Core.roundRatio Core.b64 (s != t') (c * c') 1 (q + r) := by
    rw [← qd]
    show Core.val64 (Core.dmul x y) = _
    rw [Core.val64_dmul, e1, e2]; rfl
  rw [← Core.signed_xor] at h
  have habs : c * 2 ^ (q + 1074).toNat * (c' * 2 ^ (r + 1074).toNat) = n * 2 ^ (1074 - t) * 2 ^ 1074 := by
    have := congrArg Int.natAbs h
    rw [own_signed_abs, Int.natAbs_mul, hm, Int.natAbs_natCast] at this
    exact this
  refine Zv.mk hv (by decide) hn ht ?_ ?_
  · have h2 : c * c' * 2 ^ ((q + 1074).toNat + (r + 1074).toNat) = n * 2 ^ (1074 - t + 1074) := by
      rw [Nat.pow_add, Nat.pow_add, ← Nat.mul_assoc n, ← habs]
      exact Nat.mul_mul_mul_comm _ _ _ _
    rw [Nat.mul_one]
    exact own_cancel h2 (by omega)
  · have hp : (0 : Int) < ((2 ^ 1074 : Nat) : Int) := by have := Nat.two_pow_pos 1074; omega
    refine Int.eq_of_mul_eq_mul_right (Int.ne_of_gt hp) ?_
    rw [← h, ← Core.signed_mul, habs]
/-- a quotient that the format holds -/
theorem Zv.div {a b m : Int} {x y d : UInt64} {n t : Nat} (hx : Zv a x) (hy : Zv b y) (hb : b ≠ 0) (qd : FP.ddiv x y = d) (h : a * ((2 ^ 1074 : Nat) : Int) = m * b) (hm : m.natAbs = n * 2 ^ (1074 - t)) (hn : n ≤ 2 ^ 53) (ht : t ≤ 1074) : Zv m d := by
  obtain ⟨s, c, q, e1, hq, rfl⟩ := hx.parts
  obtain ⟨t', c', r, e2, hr, rfl⟩ := hy.parts
  have hc' : c' ≠ 0 := fun z => hb (by rw [z, Nat.zero_mul, Core.signed_zero])
  have hv : Core.val64 d = Core.roundRatio Core.b64 (s != t') c c' (q - r) := by
    rw [← qd]
    show Core.val64 (Core.ddiv x y) = _
    rw [Core.val64_ddiv, e1, e2]
    show (if c' = 0 then _ else Core.roundRatio Core.b64 (s != t') c c' (q - r)) = _
    rw [if_neg hc']
  have habs : c * 2 ^ (q + 1074).toNat * 2 ^ 1074 = n * 2 ^ (1074 - t) * (c' * 2 ^ (r + 1074).toNat) := by
    have := congrArg Int.natAbs h
    rw [Int.natAbs_mul, Int.natAbs_mul, own_signed_abs, own_signed_abs, hm, Int.natAbs_natCast] at this
    exact this
  have hpos : (0 : Int) < ((c' * 2 ^ (r + 1074).toNat : Nat) : Int) := by
    have := Nat.mul_pos (Nat.pos_of_ne_zero hc') (Nat.two_pow_pos (r + 1074).toNat); omega
  refine Zv.mk hv (Nat.pos_of_ne_zero hc') hn ht ?_ ?_
  · have h2 : c * 2 ^ ((q + 1074).toNat + 1074) = n * c' * 2 ^ (1074 - t + (r + 1074).toNat) := by
      rw [Nat.pow_add, Nat.pow_add, ← Nat.mul_assoc, habs]
      exact Nat.mul_mul_mul_comm _ _ _ _
    exact own_cancel h2 (by omega)
  · -- the sign
    have hM : (0 : Int) < ((2 ^ 1074 : Nat) : Int) := by have := Nat.two_pow_pos 1074; omega
    refine Int.eq_of_mul_eq_mul_right (Int.ne_of_gt hpos) ?_
    have h3 : Core.signed (s != t') (n * 2 ^ (1074 - t)) * ((c' * 2 ^ (r + 1074).toNat : Nat) : Int) = Core.signed (s != t') (c * 2 ^ (q + 1074).toNat) * ((2 ^ 1074 : Nat) : Int) := by
      rw [← Core.signed_mul, ← Core.signed_mul, habs]
    rw [h3]
    cases s <;> cases t' <;> simp only [Core.signed, Bool.false_eq_true, if_false, if_true, bne_self_eq_false, Bool.true_bne, Bool.false_bne, Bool.not_true, Bool.not_false] at h ⊢ <;> first | exact h | (rw [Int.mul_neg] at h; rw [Int.neg_mul, h, Int.neg_neg]) | (rw [Int.neg_mul] at h ⊢; exact h) | (rw [Int.mul_neg, Int.neg_mul] at h; exact Int.neg_inj.mp h)
end OwnZ
end Jvm.RoadKit
namespace Jvm.RoadKit
open Jvm.FP Jvm.Free.Fl Op
/-- a sum that the format holds -/
theorem Zv.add {a b m : Int} {x y d : UInt64} {n t : Nat} (hx : Zv a x) (hy : Zv b y) (qd : FP.dadd x y = d) (h : a + b = m) (hm : m.natAbs = n * 2 ^ (1074 - t)) (hn : n ≤ 2 ^ 53) (ht : t ≤ 1074) : Zv m d := by
  obtain ⟨⟨s, c, q, e1⟩, z1⟩ := hx
  obtain ⟨⟨s', c', r, e2⟩, z2⟩ := hy
  have f1 := Core.val64_fits x
  have f2 := Core.val64_fits y
  rw [e1] at f1 z1
  rw [e2] at f2 z2
  obtain ⟨sg, k, e, h1, h2, h3⟩ := Core.sum_units f1 f2
  rw [z1, z2, h] at h3
  rw [own_qmin] at h2
  have h4 : Core.inUnits k e Core.b64.qmin = k * 2 ^ (e + 1074).toNat := by
    show k * 2 ^ (e - Core.b64.qmin).toNat = _
    rw [own_qmin, show e - -1074 = e + 1074 by omega]
  rw [h4] at h3
  have habs : k * 2 ^ (e + 1074).toNat = n * 2 ^ (1074 - t) := by
    have := congrArg Int.natAbs h3
    rw [own_signed_abs, hm] at this
    exact this
  have hv : Core.val64 d = Core.roundRatio Core.b64 sg k 1 e := by
    rw [← qd]
    show Core.val64 (Core.dadd x y) = _
    rw [Core.val64_dadd, e1, e2, h1]; rfl
  refine Zv.mk hv (by decide) hn ht ?_ (by rw [← habs]; exact h3)
  rw [Nat.mul_one]
  exact own_cancel habs (by omega)
end Jvm.RoadKit
namespace Jvm.RoadKit
open Jvm.FP Jvm.Free.Fl Op
section OwnR
/-- n * 2^k ≤ A < (n + 1) * 2^k with 53 digits in n -/
theorem own_bracket {A : Nat} {b : Nat} (h : 2 ^ (52 + b) ≤ A) : ∃ n k, 2 ^ 52 ≤ n ∧ n < 2 ^ 53 ∧ b ≤ k ∧ n * 2 ^ k ≤ A ∧ A < (n + 1) * 2 ^ k := by
  have h0 : A ≠ 0 := fun z => by subst z; have := Nat.two_pow_pos (52 + b); omega
  have l1 := Nat.log2_self_le h0
  have l2 : A < 2 ^ (A.log2 + 1) := Nat.lt_log2_self
  have l3 : 52 + b ≤ A.log2 := by
    have := (Nat.pow_lt_pow_iff_right (a := 2) (by decide)).mp (Nat.lt_of_le_of_lt h l2)
    omega
  obtain ⟨k, hk⟩ : ∃ k, A.log2 = 52 + k := ⟨A.log2 - 52, by omega⟩
  rw [hk] at l1 l2
  have hp := Nat.two_pow_pos k
  refine ⟨A / 2 ^ k, k, ?_, ?_, by omega, Nat.div_mul_le_self A _, ?_⟩
  · rw [Nat.le_div_iff_mul_le hp, ← Nat.pow_add]; exact l1
  · rw [Nat.div_lt_iff_lt_mul hp, ← Nat.pow_add, show 53 + k = 52 + k + 1 by omega]; exact l2
  · have := Nat.lt_div_mul_add (a := A) hp
    rw [Nat.add_mul, Nat.one_mul]; exact this
/-- the datum of n * 2^j units -/
theorem own_dat {n j : Nat} (h1 : 2 ^ 52 ≤ n) (h2 : n ≤ 2 ^ 53) (hj : j ≤ 2000) : ∃ V, Core.fits Core.b64 V ∧ V ≠ .nan ∧ Core.zmag Core.b64 V = n * 2 ^ j := by
  have hp : Core.b64.p = 53 := by decide
  have hq := own_qmin
  have hM : Core.b64.qmax = 971 := by decide
  have ht : Core.b64.tails = 2 ^ 52 := by decide
  by_cases h : n = 2 ^ 53
  · subst h
    refine ⟨.fin false (2 ^ 52) ((j : Int) + 1 - 1074), ⟨by rw [hp]; decide, by rw [hq]; omega, by rw [hM]; omega, Or.inr (by rw [ht]; exact Nat.le_refl _)⟩, (fun z => nomatch z), ?_⟩
    show 2 ^ 52 * 2 ^ ((j : Int) + 1 - 1074 - Core.b64.qmin).toNat = _
    rw [hq, show ((j : Int) + 1 - 1074 - -1074).toNat = j + 1 by omega, show (2 : Nat) ^ 53 = 2 ^ 52 * 2 from rfl, Nat.mul_assoc, Nat.pow_succ' (m := 2) (n := j)]
  · refine ⟨.fin false n ((j : Int) - 1074), ⟨by rw [hp]; omega, by rw [hq]; omega, by rw [hM]; omega, Or.inr (by rw [ht]; exact h1)⟩, (fun z => nomatch z), ?_⟩
    show n * 2 ^ ((j : Int) - 1074 - Core.b64.qmin).toNat = _
    rw [hq, show ((j : Int) - 1074 - -1074).toNat = j by omega]
/-- a rounded magnitude of A units of 2^-(1074 + w) (A not too small, not too great) -/
theorem own_round {x : UInt64} {N : Nat} {e : Int} {A w : Nat} (hv : Core.val64 x = Core.roundRatio Core.b64 false N 1 e) (he : -(1074 + (w : Int)) ≤ e) (hA : Core.inUnits N e (-(1074 + (w : Int))) = A) (hlow : 2 ^ (52 + w) ≤ A) (hhigh : A < 2 ^ (2000 + w)) :
    ∃ R : Nat, Zv (R : Int) x ∧ R * 2 ^ w * 2 ^ 52 ≤ A * (2 ^ 52 + 1) ∧ A * 2 ^ 52 ≤ R * 2 ^ w * (2 ^ 52 + 1) := by
  obtain ⟨n, k, n1, n2, hk, b1, b2⟩ := own_bracket hlow
  have hkk : k ≤ 1948 + w := by
    have q : 2 ^ (52 + k) ≤ A := by rw [Nat.pow_add]; exact Nat.le_trans (Nat.mul_le_mul_right _ n1) b1
    have := (Nat.pow_lt_pow_iff_right (a := 2) (by decide)).mp (Nat.lt_of_le_of_lt q hhigh)
    omega
  obtain ⟨j, rfl⟩ : ∃ j, k = j + w := ⟨k - w, by omega⟩
  obtain ⟨V1, f1, -, z1⟩ := own_dat (n := n) (j := j) n1 (by omega) (by omega)
  obtain ⟨V2, f2, nn2, z2⟩ := own_dat (n := n + 1) (j := j) (by omega) (by omega) (by omega)
  have hq := own_qmin
  have hs : (Core.b64.qmin - -(1074 + (w : Int))).toNat = w := by rw [hq]; omega
  have lo : n * 2 ^ j ≤ Core.zmag Core.b64 (Core.roundRatio Core.b64 false N 1 e) := by
    rw [← z1]
    refine Core.zmag_roundRatio_ge Core.good_b64 (e0 := -(1074 + (w : Int))) (by decide) f1 (by rw [hq]; omega) he ?_
    rw [z1, hs, hA, Nat.mul_one, Nat.mul_assoc, ← Nat.pow_add]
    exact b1
  have hi : Core.zmag Core.b64 (Core.roundRatio Core.b64 false N 1 e) ≤ (n + 1) * 2 ^ j := by
    rw [← z2]
    refine Core.zmag_roundRatio_le Core.good_b64 (e0 := -(1074 + (w : Int))) (by decide) f2 nn2 (by rw [hq]; omega) he ?_
    rw [z2, hs, hA, Nat.mul_one, Nat.mul_assoc, ← Nat.pow_add]
    exact Nat.le_of_lt b2
  have hfin : Core.DFin x := by
    cases q : Core.val64 x with
    | nan => rw [q] at hv; exact absurd hv.symm (Core.roundRatio_ne_nan _ _ _ _ _)
    | inf s =>
      rw [← hv, q] at hi
      have e1 : Core.zmag Core.b64 (.inf s) = 2 ^ 52 * 2 ^ 2046 := by
        show Core.b64.tails * 2 ^ (Core.b64.exps - 2) = _
        rw [show Core.b64.tails = 2 ^ 52 by decide, show Core.b64.exps - 2 = 2046 by decide]
      rw [e1] at hi
      have h3 : (n + 1) * 2 ^ j ≤ 2 ^ 53 * 2 ^ 1948 := Nat.mul_le_mul (by omega) (Nat.pow_le_pow_right (by decide) (by omega))
      rw [← Nat.pow_add] at h3 hi
      have := (Nat.pow_le_pow_iff_right (a := 2) (by decide)).mp (Nat.le_trans hi h3)
      omega
    | fin s c q' => exact ⟨s, c, q', q⟩
  obtain ⟨R, hR⟩ : ∃ R, R = Core.zmag Core.b64 (Core.roundRatio Core.b64 false N 1 e) := ⟨_, rfl⟩
  rw [← hR] at lo hi
  refine ⟨R, ⟨hfin, ?_⟩, ?_, ?_⟩
  · rw [hv]
    show Core.signed (Core.sgn _) (Core.zmag _ _) = _
    rw [Core.sgn_roundRatio, ← hR]; rfl
  · calc R * 2 ^ w * 2 ^ 52 ≤ (n + 1) * 2 ^ j * 2 ^ w * 2 ^ 52 := Nat.mul_le_mul_right _ (Nat.mul_le_mul_right _ hi)
      _ = (n + 1) * 2 ^ 52 * 2 ^ (j + w) := by rw [Nat.mul_assoc (n + 1), ← Nat.pow_add, Nat.mul_assoc, Nat.mul_assoc, Nat.mul_comm (2 ^ (j + w))]
      _ ≤ n * (2 ^ 52 + 1) * 2 ^ (j + w) := Nat.mul_le_mul_right _ (by omega)
      _ = n * 2 ^ (j + w) * (2 ^ 52 + 1) := by rw [Nat.mul_assoc, Nat.mul_assoc, Nat.mul_comm (2 ^ 52 + 1)]
      _ ≤ A * (2 ^ 52 + 1) := Nat.mul_le_mul_right _ b1
  · calc A * 2 ^ 52 ≤ (n + 1) * 2 ^ (j + w) * 2 ^ 52 := Nat.mul_le_mul_right _ (Nat.le_of_lt b2)
      _ = (n + 1) * 2 ^ 52 * 2 ^ (j + w) := by rw [Nat.mul_assoc, Nat.mul_assoc, Nat.mul_comm (2 ^ (j + w))]
      _ ≤ n * (2 ^ 52 + 1) * 2 ^ (j + w) := Nat.mul_le_mul_right _ (by omega)
      _ = n * 2 ^ j * 2 ^ w * (2 ^ 52 + 1) := by rw [Nat.mul_assoc n (2 ^ j), ← Nat.pow_add, Nat.mul_assoc, Nat.mul_assoc, Nat.mul_comm (2 ^ 52 + 1)]
      _ ≤ R * 2 ^ w * (2 ^ 52 + 1) := Nat.mul_le_mul_right _ (Nat.mul_le_mul_right _ lo)
theorem Zv.pos_parts {a : Nat} {x : UInt64} (h : Zv (a : Int) x) (ha : a ≠ 0) : ∃ c q, Core.val64 x = .fin false c q ∧ -1074 ≤ q ∧ a = c * 2 ^ (q + 1074).toNat := by
  obtain ⟨s, c, q, e1, hq, e2⟩ := h.parts
  cases s with
  | false => exact ⟨c, q, e1, hq, by have e2' : (a : Int) = ((c * 2 ^ (q + 1074).toNat : Nat) : Int) := e2; omega⟩
  | true =>
    have e2' : (a : Int) = -((c * 2 ^ (q + 1074).toNat : Nat) : Int) := e2
    exact absurd (show a = 0 by omega) ha
/-- the product of two positive doubles, to a relative 2^-52 -/
theorem own_mulrel {x y d : UInt64} {a b : Nat} (hx : Zv (a : Int) x) (hy : Zv (b : Int) y) (qd : FP.dmul x y = d) (hlow : 2 ^ 1126 ≤ a * b) (hhigh : a * b < 2 ^ 3074) :
    ∃ R : Nat, Zv (R : Int) d ∧ R * 2 ^ 1074 * 2 ^ 52 ≤ a * b * (2 ^ 52 + 1) ∧ a * b * 2 ^ 52 ≤ R * 2 ^ 1074 * (2 ^ 52 + 1) := by
  have hp : 0 < a * b := Nat.lt_of_lt_of_le (Nat.two_pow_pos _) hlow
  have ha : a ≠ 0 := fun z => by subst z; rw [Nat.zero_mul] at hp; exact absurd hp (by decide)
  have hb : b ≠ 0 := fun z => by subst z; rw [Nat.mul_zero] at hp; exact absurd hp (by decide)
  obtain ⟨c, q, e1, hq, rfl⟩ := hx.pos_parts ha
  obtain ⟨c', r, e2, hr, rfl⟩ := hy.pos_parts hb
  have hv : Core.val64 d = Core.roundRatio Core.b64 false (c * c') 1 (q + r) := by
    rw [← qd]
    show Core.val64 (Core.dmul x y) = _
    rw [Core.val64_dmul, e1, e2]; rfl
  refine own_round (w := 1074) hv (by omega) ?_ hlow hhigh
  show c * c' * 2 ^ (q + r - -(1074 + ((1074 : Nat) : Int))).toNat = _
  rw [show (q + r - -(1074 + ((1074 : Nat) : Int))).toNat = (q + 1074).toNat + (r + 1074).toNat by omega, Nat.pow_add]
  exact Nat.mul_mul_mul_comm _ _ _ _
/-- the sum of two positive doubles, to a relative 2^-52 -/
theorem own_addrel {x y d : UInt64} {a b : Nat} (hx : Zv (a : Int) x) (hy : Zv (b : Int) y) (ha : a ≠ 0) (hb : b ≠ 0) (qd : FP.dadd x y = d) (hlow : 2 ^ 52 ≤ a + b) (hhigh : a + b < 2 ^ 2000) :
    ∃ R : Nat, Zv (R : Int) d ∧ R * 2 ^ 52 ≤ (a + b) * (2 ^ 52 + 1) ∧ (a + b) * 2 ^ 52 ≤ R * (2 ^ 52 + 1) := by
  obtain ⟨c, q, e1, hq, rfl⟩ := hx.pos_parts ha
  obtain ⟨c', r, e2, hr, rfl⟩ := hy.pos_parts hb
  have hqm := own_qmin
  have f1 := Core.val64_fits x
  have f2 := Core.val64_fits y
  rw [e1] at f1
  rw [e2] at f2
  obtain ⟨sg, n, e, h1, h2, h3⟩ := Core.sum_units f1 f2
  have zx : Core.zval Core.b64 (.fin false c q) = ((c * 2 ^ (q + 1074).toNat : Nat) : Int) := by rw [← e1]; exact hx.2
  have zy : Core.zval Core.b64 (.fin false c' r) = ((c' * 2 ^ (r + 1074).toNat : Nat) : Int) := by rw [← e2]; exact hy.2
  rw [zx, zy] at h3
  have hpos : 0 < c * 2 ^ (q + 1074).toNat := Nat.pos_of_ne_zero ha
  have hsg : sg = false := by
    cases sg with
    | false => rfl
    | true =>
      have h3' : -((Core.inUnits n e Core.b64.qmin : Nat) : Int) = ((c * 2 ^ (q + 1074).toNat : Nat) : Int) + ((c' * 2 ^ (r + 1074).toNat : Nat) : Int) := h3
      omega
  subst hsg
  have h3' : ((Core.inUnits n e Core.b64.qmin : Nat) : Int) = ((c * 2 ^ (q + 1074).toNat : Nat) : Int) + ((c' * 2 ^ (r + 1074).toNat : Nat) : Int) := h3
  have hv : Core.val64 d = Core.roundRatio Core.b64 false n 1 e := by
    rw [← qd]
    show Core.val64 (Core.dadd x y) = _
    rw [Core.val64_dadd, e1, e2, h1]; rfl
  obtain ⟨R, z, l1, l2⟩ := own_round (w := 0) (A := c * 2 ^ (q + 1074).toNat + c' * 2 ^ (r + 1074).toNat) hv (by rw [hqm] at h2; omega) (by
    show Core.inUnits n e (-(1074 + ((0 : Nat) : Int))) = _
    rw [show (-(1074 + ((0 : Nat) : Int))) = Core.b64.qmin by rw [hqm]; decide]
    omega) hlow hhigh
  rw [Nat.pow_zero, Nat.mul_one] at l1 l2
  exact ⟨R, z, l1, l2⟩
end OwnR
end Jvm.RoadKit
namespace Jvm.Pilot.@@N@@
open Jvm Jvm.ClassFile Sem Op Lib Jvm.Free Jvm.Stand Jvm.LawKit Jvm.RoadKit Jvm.FP Jvm.Free.Fl Bundle Jvm.Pilot.@@N@@.Jvm.D
def own_S (r a b : UInt64) : UInt64 := FP.dadd (FP.dadd (FP.dmul r r) a) b
def own_m (S : UInt64) : UInt64 := FP.dadd (FP.dmul 4427486594234968593 S) 4503599627370496
abbrev own_c : Nat := 4951760157141521 * 2 ^ 982
abbrev own_k1 : Nat := 9007199245733793 * 2 ^ 1021
abbrev own_k2 : Nat := 4503599631874096 * 2 ^ 1022
theorem own_zc : Zv ((own_c : Nat) : Int) 4427486594234968593 := ⟨⟨false, 4951760157141521, -92, by decide +kernel⟩, by decide +kernel⟩
theorem own_zmin : Zv (((2 : Nat) ^ 52 : Nat) : Int) 4503599627370496 := ⟨⟨false, 2 ^ 52, -1074, by decide +kernel⟩, by decide +kernel⟩
theorem own_zk1 : Zv ((own_k1 : Nat) : Int) 4607182418791010209 := ⟨⟨false, 9007199245733793, -53, by decide +kernel⟩, by decide +kernel⟩
theorem own_zk2 : Zv ((own_k2 : Nat) : Int) 4607182418804521008 := ⟨⟨false, 4503599631874096, -52, by decide +kernel⟩, by decide +kernel⟩
theorem own_zK : Zv ((1000000000000 * 2 ^ 1074 : Nat) : Int) 4786511204640096256 := ⟨⟨false, 8192000000000000, -13, by decide +kernel⟩, by decide +kernel⟩
theorem own_zS {s : Nat} {S : UInt64} (h : Core.DInt (s : Int) S) : Zv ((s * 2 ^ 1074 : Nat) : Int) S := by
  have q := Zv.of_int h
  rw [Int.natCast_mul]; exact q
theorem own_fmin : Fin64 4503599627370496 := own_zmin.fin
theorem own_fc : Fin64 4427486594234968593 := own_zc.fin
theorem own_m0 {S : UInt64} (h : Core.DInt 0 S) : Zv (((2 : Nat) ^ 52 : Nat) : Int) (own_m S) := by
  have zs := Zv.of_int h
  have p : Zv 0 (FP.dmul 4427486594234968593 S) := Zv.mul (n := 0) (t := 0) own_zc zs rfl (by rw [Int.zero_mul, Int.mul_zero]) (by rw [Nat.zero_mul]; rfl) (by decide) (by decide)
  exact Zv.add (n := 2 ^ 52) (t := 1074) p own_zmin rfl (Int.zero_add _) (by rw [Int.natAbs_natCast]) (by decide) (by decide)
/-- the margin of a positive sum -/
theorem own_mpos {s : Nat} {S : UInt64} (h : Core.DInt (s : Int) S) (h1 : 1 ≤ s) (h2 : s ≤ 2 ^ 42) :
    ∃ R : Nat, Zv (R : Int) (own_m S) ∧ own_c * s * 2 ^ 52 * 2 ^ 52 ≤ R * (2 ^ 52 + 1) * (2 ^ 52 + 1) ∧ R * 2 ^ 52 * 2 ^ 52 ≤ (own_c * s * (2 ^ 52 + 1) + 2 ^ 52 * 2 ^ 52) * (2 ^ 52 + 1) ∧ 2 ^ 1032 ≤ R ∧ R ≤ 2 ^ 1080 := by
  have zs := own_zS h
  have c1 : 2 ^ 1034 ≤ own_c := by decide +kernel
  have c2 : own_c ≤ 2 ^ 1035 := by decide +kernel
  obtain ⟨R1, z1, l1, u1⟩ := own_mulrel own_zc zs rfl (by
    calc 2 ^ 1126 ≤ 2 ^ 1034 * 2 ^ 1074 := by decide +kernel
      _ ≤ own_c * (s * 2 ^ 1074) := Nat.mul_le_mul c1 (Nat.le_mul_of_pos_left _ h1)) (by
    calc own_c * (s * 2 ^ 1074) ≤ 2 ^ 1035 * (2 ^ 42 * 2 ^ 1074) := Nat.mul_le_mul c2 (Nat.mul_le_mul_right _ h2)
      _ < 2 ^ 3074 := by decide +kernel)
  -- the unit cancels
  have hM := Nat.two_pow_pos 1074
  have l1' : R1 * 2 ^ 52 ≤ own_c * s * (2 ^ 52 + 1) := by
    refine Nat.le_of_mul_le_mul_right (c := 2 ^ 1074) ?_ hM
    calc R1 * 2 ^ 52 * 2 ^ 1074 = R1 * 2 ^ 1074 * 2 ^ 52 := Nat.mul_right_comm _ _ _
      _ ≤ own_c * (s * 2 ^ 1074) * (2 ^ 52 + 1) := l1
      _ = own_c * s * (2 ^ 52 + 1) * 2 ^ 1074 := by rw [← Nat.mul_assoc own_c, Nat.mul_right_comm]
  have u1' : own_c * s * 2 ^ 52 ≤ R1 * (2 ^ 52 + 1) := by
    refine Nat.le_of_mul_le_mul_right (c := 2 ^ 1074) ?_ hM
    calc own_c * s * 2 ^ 52 * 2 ^ 1074 = own_c * (s * 2 ^ 1074) * 2 ^ 52 := by rw [← Nat.mul_assoc own_c, Nat.mul_right_comm]
      _ ≤ R1 * 2 ^ 1074 * (2 ^ 52 + 1) := u1
      _ = R1 * (2 ^ 52 + 1) * 2 ^ 1074 := Nat.mul_right_comm _ _ _
  have r1 : 2 ^ 1033 ≤ R1 := by
    refine Nat.le_of_mul_le_mul_right (c := 2 ^ 52 + 1) ?_ (by decide)
    calc 2 ^ 1033 * (2 ^ 52 + 1) ≤ 2 ^ 1034 * 1 * 2 ^ 52 := by decide +kernel
      _ ≤ own_c * s * 2 ^ 52 := Nat.mul_le_mul_right _ (Nat.mul_le_mul c1 h1)
      _ ≤ _ := u1'
  have r2 : R1 ≤ 2 ^ 1078 := by
    refine Nat.le_of_mul_le_mul_right (c := 2 ^ 52) ?_ (by decide)
    calc R1 * 2 ^ 52 ≤ own_c * s * (2 ^ 52 + 1) := l1'
      _ ≤ 2 ^ 1035 * 2 ^ 42 * (2 ^ 52 + 1) := Nat.mul_le_mul_right _ (Nat.mul_le_mul c2 h2)
      _ ≤ 2 ^ 1078 * 2 ^ 52 := by decide +kernel
  have r3 : R1 ≠ 0 := fun z => by subst z; exact absurd r1 (Nat.not_le.mpr (Nat.two_pow_pos 1033))
  obtain ⟨R, z, l, u⟩ := own_addrel z1 own_zmin r3 (by decide) rfl (Nat.le_add_left _ _) (by
    calc R1 + 2 ^ 52 ≤ 2 ^ 1078 + 2 ^ 52 := Nat.add_le_add_right r2 _
      _ < 2 ^ 2000 := by decide +kernel)
  refine ⟨R, z, ?_, ?_, ?_, ?_⟩
  · calc own_c * s * 2 ^ 52 * 2 ^ 52 ≤ R1 * (2 ^ 52 + 1) * 2 ^ 52 := Nat.mul_le_mul_right _ u1'
      _ = R1 * 2 ^ 52 * (2 ^ 52 + 1) := Nat.mul_right_comm _ _ _
      _ ≤ (R1 + 2 ^ 52) * 2 ^ 52 * (2 ^ 52 + 1) := Nat.mul_le_mul_right _ (Nat.mul_le_mul_right _ (Nat.le_add_right _ _))
      _ ≤ R * (2 ^ 52 + 1) * (2 ^ 52 + 1) := Nat.mul_le_mul_right _ u
  · calc R * 2 ^ 52 * 2 ^ 52 ≤ (R1 + 2 ^ 52) * (2 ^ 52 + 1) * 2 ^ 52 := Nat.mul_le_mul_right _ l
      _ = (R1 * 2 ^ 52 + 2 ^ 52 * 2 ^ 52) * (2 ^ 52 + 1) := by rw [Nat.mul_right_comm, Nat.add_mul]
      _ ≤ _ := Nat.mul_le_mul_right _ (Nat.add_le_add_right l1' _)
  · refine Nat.le_of_mul_le_mul_right (c := 2 ^ 52 + 1) ?_ (by decide)
    calc 2 ^ 1032 * (2 ^ 52 + 1) ≤ 2 ^ 1033 * 2 ^ 52 := by decide +kernel
      _ ≤ (R1 + 2 ^ 52) * 2 ^ 52 := Nat.mul_le_mul_right _ (Nat.le_trans r1 (Nat.le_add_right _ _))
      _ ≤ _ := u
  · refine Nat.le_of_mul_le_mul_right (c := 2 ^ 52) ?_ (by decide)
    calc R * 2 ^ 52 ≤ (R1 + 2 ^ 52) * (2 ^ 52 + 1) := l
      _ ≤ (2 ^ 1078 + 2 ^ 52) * (2 ^ 52 + 1) := Nat.mul_le_mul_right _ (Nat.add_le_add_right r2 _)
      _ ≤ 2 ^ 1080 * 2 ^ 52 := by decide +kernel
theorem own_cut {A B u v : Nat} (h : A * u ≤ B * v) {M : Nat} (hM : 0 < M) {A' B' : Nat} (ea : A = A' * M) (eb : B = B' * M) : A' * u ≤ B' * v := by
  subst ea eb
  refine Nat.le_of_mul_le_mul_right (c := M) ?_ hM
  rw [Nat.mul_right_comm, Nat.mul_right_comm B']; exact h
theorem own_arith1 {D E s k1 c T R X Y : Nat} (hD : 0 < D) (hE : 0 < E) (a1 : Y * D ≤ s * k1 * E) (a3 : R * T * D ≤ X * E) (aR : c * s * D * D ≤ R * E * E) (num : k1 * (E * E * E * E) ≤ c * T * (D * D * D * D)) : Y ≤ X := by
  refine Nat.le_of_mul_le_mul_right (c := D * (E * E * E)) ?_ (Nat.mul_pos hD (Nat.mul_pos (Nat.mul_pos hE hE) hE))
  calc Y * (D * (E * E * E)) = (Y * D) * (E * E * E) := by ac_rfl
    _ ≤ (s * k1 * E) * (E * E * E) := Nat.mul_le_mul_right _ a1
    _ = s * (k1 * (E * E * E * E)) := by ac_rfl
    _ ≤ s * (c * T * (D * D * D * D)) := Nat.mul_le_mul_left _ num
    _ = (c * s * D * D) * (T * D * D) := by ac_rfl
    _ ≤ (R * E * E) * (T * D * D) := Nat.mul_le_mul_right _ aR
    _ = (R * T * D) * (E * E * D) := by ac_rfl
    _ ≤ (X * E) * (E * E * D) := Nat.mul_le_mul_right _ a3
    _ = X * (D * (E * E * E)) := by ac_rfl
theorem own_arith2 {D E s k2 c T R X Y m : Nat} (hD : 0 < D) (hE : 0 < E) (b1 : s * k2 * D ≤ Y * E) (b3 : X * D ≤ R * T * E) (bR : R * D * D ≤ (c * s * E + m * D) * E) (hs : 1 ≤ s) (num : T * (c * E + m * D) * (E * E * E) ≤ k2 * (D * D * D * D)) : X ≤ Y := by
  refine Nat.le_of_mul_le_mul_right (c := D * D * D * E) ?_ (Nat.mul_pos (Nat.mul_pos (Nat.mul_pos hD hD) hD) hE)
  have q : c * s * E + m * D ≤ s * (c * E + m * D) := by
    rw [Nat.mul_add]
    refine Nat.add_le_add (Nat.le_of_eq (by ac_rfl)) (Nat.le_mul_of_pos_left _ hs)
  calc X * (D * D * D * E) = (X * D) * (D * D * E) := by ac_rfl
    _ ≤ (R * T * E) * (D * D * E) := Nat.mul_le_mul_right _ b3
    _ = (R * D * D) * (T * E * E) := by ac_rfl
    _ ≤ ((c * s * E + m * D) * E) * (T * E * E) := Nat.mul_le_mul_right _ bR
    _ ≤ ((s * (c * E + m * D)) * E) * (T * E * E) := Nat.mul_le_mul_right _ (Nat.mul_le_mul_right _ q)
    _ = s * (T * (c * E + m * D) * (E * E * E)) := by ac_rfl
    _ ≤ s * (k2 * (D * D * D * D)) := Nat.mul_le_mul_left _ num
    _ = (s * k2 * D) * (D * D * D) := by ac_rfl
    _ ≤ (Y * E) * (D * D * D) := Nat.mul_le_mul_right _ b1
    _ = Y * (D * D * D * E) := by ac_rfl
/-- the last comparison: the law's two bounds -/
theorem own_last {s : Nat} {S x y1 y2 : UInt64} (h : Core.DInt (s : Int) S) (h1 : 1 ≤ s) (h2 : s ≤ 2 ^ 42) {S2 : UInt64} (hS : Core.DInt (s : Int) S2) (qx : FP.dmul (own_m S2) 4786511204640096256 = x) (q1 : FP.dmul S 4607182418791010209 = y1) (q2 : FP.dmul S 4607182418804521008 = y2) :
    ∃ X Y1 Y2 : Nat, Zv (X : Int) x ∧ Zv (Y1 : Int) y1 ∧ Zv (Y2 : Int) y2 ∧ Y1 ≤ X ∧ X ≤ Y2 := by
  obtain ⟨R, zR, lR, uR, r1, r2⟩ := own_mpos hS h1 h2
  have zs := own_zS h
  have hM := Nat.two_pow_pos 1074
  obtain ⟨X, zX, lX, uX⟩ := own_mulrel zR own_zK qx (by
    calc 2 ^ 1126 ≤ 2 ^ 1032 * (1000000000000 * 2 ^ 1074) := by decide +kernel
      _ ≤ R * (1000000000000 * 2 ^ 1074) := Nat.mul_le_mul_right _ r1) (by
    calc R * (1000000000000 * 2 ^ 1074) ≤ 2 ^ 1080 * (1000000000000 * 2 ^ 1074) := Nat.mul_le_mul_right _ r2
      _ < 2 ^ 3074 := by decide +kernel)
  have k1a : 2 ^ 1073 ≤ own_k1 ∧ own_k1 ≤ 2 ^ 1074 := by decide +kernel
  have k2a : 2 ^ 1073 ≤ own_k2 ∧ own_k2 ≤ 2 ^ 1075 := by decide +kernel
  have lo : ∀ k : Nat, 2 ^ 1073 ≤ k → 2 ^ 1126 ≤ s * 2 ^ 1074 * k := fun k hk => by
    calc 2 ^ 1126 ≤ 1 * 2 ^ 1074 * 2 ^ 1073 := by decide +kernel
      _ ≤ s * 2 ^ 1074 * k := Nat.mul_le_mul (Nat.mul_le_mul_right _ h1) hk
  have hi : ∀ k : Nat, k ≤ 2 ^ 1075 → s * 2 ^ 1074 * k < 2 ^ 3074 := fun k hk => by
    calc s * 2 ^ 1074 * k ≤ 2 ^ 42 * 2 ^ 1074 * 2 ^ 1075 := Nat.mul_le_mul (Nat.mul_le_mul_right _ h2) hk
      _ < 2 ^ 3074 := by decide +kernel
  obtain ⟨Y1, zY1, lY1, uY1⟩ := own_mulrel zs own_zk1 q1 (lo _ k1a.1) (hi _ (Nat.le_trans k1a.2 (by decide +kernel)))
  obtain ⟨Y2, zY2, lY2, uY2⟩ := own_mulrel zs own_zk2 q2 (lo _ k2a.1) (hi _ k2a.2)
  refine ⟨X, Y1, Y2, zX, zY1, zY2, ?_, ?_⟩
  · have a1 : Y1 * 2 ^ 52 ≤ s * own_k1 * (2 ^ 52 + 1) := own_cut lY1 hM rfl (Nat.mul_right_comm _ _ _)
    have a3 : R * 1000000000000 * 2 ^ 52 ≤ X * (2 ^ 52 + 1) := own_cut uX hM (Nat.mul_assoc _ _ _).symm rfl
    exact own_arith1 (by decide) (by decide) a1 a3 lR (by decide +kernel)
  · have b1 : s * own_k2 * 2 ^ 52 ≤ Y2 * (2 ^ 52 + 1) := own_cut uY2 hM (Nat.mul_right_comm _ _ _) rfl
    have b3 : X * 2 ^ 52 ≤ R * 1000000000000 * (2 ^ 52 + 1) := own_cut lX hM rfl (Nat.mul_assoc _ _ _).symm
    exact own_arith2 (by decide) (by decide) b1 b3 uR h1 (by decide +kernel)
theorem d1_0 : decode prog_12_method_2_code 0 = .ok (.ldc2_w 9, 3) := by decide +kernel
theorem d1_3 : decode prog_12_method_2_code 3 = .ok (.dload_n 0, 1) := by decide +kernel
theorem d1_4 : decode prog_12_method_2_code 4 = .ok (.dload_n 0, 1) := by decide +kernel
theorem d1_5 : decode prog_12_method_2_code 5 = .ok (.dmul, 1) := by decide +kernel
theorem d1_6 : decode prog_12_method_2_code 6 = .ok (.dload_n 2, 1) := by decide +kernel
theorem d1_7 : decode prog_12_method_2_code 7 = .ok (.dadd, 1) := by decide +kernel
theorem d1_8 : decode prog_12_method_2_code 8 = .ok (.dload 4, 2) := by decide +kernel
theorem d1_10 : decode prog_12_method_2_code 10 = .ok (.dadd, 1) := by decide +kernel
theorem d1_11 : decode prog_12_method_2_code 11 = .ok (.dmul, 1) := by decide +kernel
theorem d1_12 : decode prog_12_method_2_code 12 = .ok (.ldc2_w 13, 3) := by decide +kernel
theorem d1_15 : decode prog_12_method_2_code 15 = .ok (.dadd, 1) := by decide +kernel
theorem d1_16 : decode prog_12_method_2_code 16 = .ok (.dreturn, 1) := by decide +kernel
theorem pn0 : plainName "com/example/ample_crowd/amplecrowd/lbs/CrossingSweep" = true := by first | (simp [plainName, overriddenIn]; done) | decide +kernel
theorem pd0 : parseMethodDescriptor "(DDD)D" = some ⟨[.double, .double, .double], some .double⟩ := by decide +kernel
theorem ef_rm_mar (m : MethodId) (x0 : UInt64) (x1 : UInt64) (x2 : UInt64) : entryFrame m #[(.double x0), (.double x1), (.double x2)] 6 = mkF m 0 #[.val (.double x0), .second, .val (.double x1), .second, .val (.double x2), .second] [] := by first | (simp [entryFrame, mkF, argsToLocals, Value.category, maxLocals]; done) | rfl
set_option maxRecDepth 65536 in
set_option maxHeartbeats 40000000 in
theorem rm_mar (l : Launch) (Z : State) (a0 : Array Value) (hw : ∀ d ∈ tables_1, d.before a0 Z = true) (rd ad bd : UInt64) (ri ai bi : Int) (h0 : Heap) (n0 : Nat) (Z0 : n0 ≤ h0.size) (Drd : Core.DInt ri rd) (Dad : Core.DInt ai ad) (Dbd : Core.DInt bi bd) (b1 : -1048575 ≤ ri ∧ ri ≤ 1048575) (b2 : -2147483648 ≤ ai ∧ ai ≤ 2147483648) (b3 : -2147483648 ≤ bi ∧ bi ≤ 2147483648) :
    Does l (⟨"com/example/ample_crowd/amplecrowd/lbs/CrossingSweep", "margin", "(DDD)D"⟩ : MethodName) prog_12_method_2_code 6 (some .double) [] ({ frames := 0, cells := 0, slots := 0, locals := 0 } : Room) Z #[(.double rd), (.double ad), (.double bd)] h0 (fun v h L => v = some (.double (own_m (own_S rd ad bd))) ∧ Fr n0 L ∧ h = h0) := by
  refine Does.of (plainFor_of_name pn0) ?_
  intro p e s m below meth c s₁ hx hby hml hret hlk hZ hown hnm X0 e0
  have N0 := Fr.nil n0
  refine Goes.cast (g' := mkF m 0 #[.val (.double rd), .second, .val (.double ad), .second, .val (.double bd), .second] []) (ef_rm_mar m rd ad bd) ?_
  refine Goes.by (T' := s₁) (g' := (mkF m 3 #[.val (.double rd), .second, .val (.double ad), .second, .val (.double bd), .second] [(.double (4427486594234968593 : UInt64))])) (X0.ldc2DoubleC hx hown (mvT hZ (hw _ (List.mem_of_getElem? (i := 6) rfl))) (g := (mkF m 0 #[.val (.double rd), .second, .val (.double ad), .second, .val (.double bd), .second] [])) rfl (hb hby d1_0)) ?_
  refine Goes.by (T' := s₁) (g' := (mkF m 4 #[.val (.double rd), .second, .val (.double ad), .second, .val (.double bd), .second] [(.double rd), (.double (4427486594234968593 : UInt64))])) (fun _ k => XS.dloadN X0.here hx rfl (hb hby d1_3) rfl k) ?_
  refine Goes.by (T' := s₁) (g' := (mkF m 5 #[.val (.double rd), .second, .val (.double ad), .second, .val (.double bd), .second] [(.double rd), (.double rd), (.double (4427486594234968593 : UInt64))])) (fun _ k => XS.dloadN X0.here hx rfl (hb hby d1_4) rfl k) ?_
  obtain ⟨p_p0, hp_p0⟩ : ∃ z : Int, z = ri * ri := ⟨_, rfl⟩
  have bp_p0 : -1099509530625 ≤ p_p0 ∧ p_p0 ≤ 1099509530625 := by rw [hp_p0]; exact own_mb2 (A := 1048575) (B := 1048575) (by omega) (by omega)
  obtain ⟨p0, q_p0⟩ : ∃ zz, FP.dmul rd rd = zz := ⟨_, rfl⟩
  have D_p0 : Core.DInt p_p0 p0 := by rw [hp_p0]; exact DInt_mul q_p0 Drd Drd (by rw [← hp_p0]; omega)
  refine Goes.by (T' := s₁) (g' := (mkF m 6 #[.val (.double rd), .second, .val (.double ad), .second, .val (.double bd), .second] [(.double p0), (.double (4427486594234968593 : UInt64))])) (fun _ k => XS.dmulS X0.here hx rfl (hb hby d1_5) rfl (by rw [q_p0]; exact DInt_nn D_p0) q_p0 k) ?_
  refine Goes.by (T' := s₁) (g' := (mkF m 7 #[.val (.double rd), .second, .val (.double ad), .second, .val (.double bd), .second] [(.double ad), (.double p0), (.double (4427486594234968593 : UInt64))])) (fun _ k => XS.dloadN X0.here hx rfl (hb hby d1_6) rfl k) ?_
  obtain ⟨p1, q_p1⟩ : ∃ zz, FP.dadd p0 ad = zz := ⟨_, rfl⟩
  have D_p1 : Core.DInt (p_p0 + ai) p1 := DInt_add q_p1 D_p0 Dad (by omega)
  refine Goes.by (T' := s₁) (g' := (mkF m 8 #[.val (.double rd), .second, .val (.double ad), .second, .val (.double bd), .second] [(.double p1), (.double (4427486594234968593 : UInt64))])) (fun _ k => XS.daddS X0.here hx rfl (hb hby d1_7) rfl (by rw [q_p1]; exact DInt_nn D_p1) q_p1 k) ?_
  refine Goes.by (T' := s₁) (g' := (mkF m 10 #[.val (.double rd), .second, .val (.double ad), .second, .val (.double bd), .second] [(.double bd), (.double p1), (.double (4427486594234968593 : UInt64))])) (fun _ k => XS.dload X0.here hx rfl (hb hby d1_8) rfl k) ?_
  obtain ⟨p2, q_p2⟩ : ∃ zz, FP.dadd p1 bd = zz := ⟨_, rfl⟩
  have D_p2 : Core.DInt ((p_p0 + ai) + bi) p2 := DInt_add q_p2 D_p1 Dbd (by omega)
  refine Goes.by (T' := s₁) (g' := (mkF m 11 #[.val (.double rd), .second, .val (.double ad), .second, .val (.double bd), .second] [(.double p2), (.double (4427486594234968593 : UInt64))])) (fun _ k => XS.daddS X0.here hx rfl (hb hby d1_10) rfl (by rw [q_p2]; exact DInt_nn D_p2) q_p2 k) ?_
  obtain ⟨p3, q_p3⟩ : ∃ zz, FP.dmul (4427486594234968593 : UInt64) p2 = zz := ⟨_, rfl⟩
  have NP := dmul_out own_fc (DInt_fin D_p2)
  refine Goes.by (T' := s₁) (g' := (mkF m 12 #[.val (.double rd), .second, .val (.double ad), .second, .val (.double bd), .second] [(.double p3)])) (fun _ k => XS.dmulS X0.here hx rfl (hb hby d1_11) rfl (by rw [q_p3]; exact (q_p3 ▸ NP)) q_p3 k) ?_
  refine Goes.by (T' := s₁) (g' := (mkF m 15 #[.val (.double rd), .second, .val (.double ad), .second, .val (.double bd), .second] [(.double (4503599627370496 : UInt64)), (.double p3)])) (X0.ldc2DoubleC hx hown (mvT hZ (hw _ (List.mem_of_getElem? (i := 7) rfl))) (g := (mkF m 12 #[.val (.double rd), .second, .val (.double ad), .second, .val (.double bd), .second] [(.double p3)])) rfl (hb hby d1_12)) ?_
  obtain ⟨p4, q_p4⟩ : ∃ zz, FP.dadd p3 (4503599627370496 : UInt64) = zz := ⟨_, rfl⟩
  refine Goes.by (T' := s₁) (g' := (mkF m 16 #[.val (.double rd), .second, .val (.double ad), .second, .val (.double bd), .second] [(.double p4)])) (fun _ k => XS.daddS X0.here hx rfl (hb hby d1_15) rfl (by rw [q_p4]; exact (q_p4 ▸ dadd_out (q_p3 ▸ NP) own_fmin)) q_p4 k) ?_
  subst q_p0 q_p1 q_p2 q_p3 q_p4
  exact outD X0 hx hlk hret (hb hby d1_16) (by rw [e0]; exact ⟨rfl, N0, rfl⟩) (by decide) (by decide)
theorem pn1 : plainName "com/example/ample_crowd/amplecrowd/lbs/CrossingSweepMarginPinLaw" = true := by first | (simp [plainName, overriddenIn]; done) | decide +kernel
theorem ef_rm_law (m : MethodId) (x0 : Int32) (x1 : Int32) (x2 : Int32) : entryFrame m #[(.int x0), (.int x1), (.int x2)] maxLocals = mkF m 0 #[.val (.int x0), .val (.int x1), .val (.int x2), .unset, .unset, .unset, .unset, .unset, .unset, .unset, .unset, .unset, .unset, .unset, .unset, .unset, .unset, .unset, .unset, .unset, .unset, .unset, .unset, .unset, .unset] [] := by first | (simp [entryFrame, mkF, argsToLocals, Value.category, maxLocals]; done) | rfl
set_option maxRecDepth 65536 in
set_option maxHeartbeats 40000000 in
theorem rm_law (l : Launch) (Z : State) (a0 : Array Value) (hw : ∀ d ∈ tables_1, d.before a0 Z = true) (x0 x1 x2 : Int32) (h0 : Heap) (n0 : Nat) (Z0 : n0 ≤ h0.size)  :
    Does l x code maxLocals ret tables_1 room_1 Z #[(.int x0), (.int x1), (.int x2)] h0 (fun v h L => v = some (.int 1) ∧ Fr n0 L) := by
  refine Does.of (plainFor_of_name pn1) ?_
  intro p e s m below meth c s₁ hx hby hml hret hlk hZ hown hnm X0 e0
  have N0 := Fr.nil n0
  refine Goes.cast (g' := mkF m 0 #[.val (.int x0), .val (.int x1), .val (.int x2), .unset, .unset, .unset, .unset, .unset, .unset, .unset, .unset, .unset, .unset, .unset, .unset, .unset, .unset, .unset, .unset, .unset, .unset, .unset, .unset, .unset, .unset] []) (ef_rm_law m x0 x1 x2) ?_
  refine Goes.by (T' := s₁) (g' := (mkF m 1 #[.val (.int x0), .val (.int x1), .val (.int x2), .unset, .unset, .unset, .unset, .unset, .unset, .unset, .unset, .unset, .unset, .unset, .unset, .unset, .unset, .unset, .unset, .unset, .unset, .unset, .unset, .unset, .unset] [(.int x0)])) (fun _ k => XS.iloadN X0.here hx rfl (hb hby at_0) rfl k) ?_
  refine Goes.by (T' := s₁) (g' := (mkF m 3 #[.val (.int x0), .val (.int x1), .val (.int x2), .unset, .unset, .unset, .unset, .unset, .unset, .unset, .unset, .unset, .unset, .unset, .unset, .unset, .unset, .unset, .unset, .unset, .unset, .unset, .unset, .unset, .unset] [(.int (1048575 : Int32)), (.int x0)])) (X0.ldcInt hx hown (mvT hZ (hw _ (List.mem_of_getElem? (i := 0) rfl))) (g := (mkF m 1 #[.val (.int x0), .val (.int x1), .val (.int x2), .unset, .unset, .unset, .unset, .unset, .unset, .unset, .unset, .unset, .unset, .unset, .unset, .unset, .unset, .unset, .unset, .unset, .unset, .unset, .unset, .unset, .unset] [(.int x0)])) rfl (hb hby at_1)) ?_
  refine Goes.by (T' := s₁) (g' := (mkF m 4 #[.val (.int x0), .val (.int x1), .val (.int x2), .unset, .unset, .unset, .unset, .unset, .unset, .unset, .unset, .unset, .unset, .unset, .unset, .unset, .unset, .unset, .unset, .unset, .unset, .unset, .unset, .unset, .unset] [(.int (x0 &&& (1048575 : Int32)))])) (fun _ k => XS.iand X0.here hx rfl (hb hby at_3) rfl k) ?_
  refine Goes.by (T' := s₁) (g' := (mkF m 5 #[.val (.int x0), .val (.int x1), .val (.int x2), .unset, .unset, .unset, .unset, .unset, .unset, .unset, .unset, .unset, .unset, .unset, .unset, .unset, .unset, .unset, .unset, .unset, .unset, .unset, .unset, .unset, .unset] [(.long (((x0 &&& (1048575 : Int32))).toInt64))])) (fun _ k => XS.i2l X0.here hx rfl (hb hby at_4) rfl k) ?_
  obtain ⟨r, q_r⟩ : ∃ zz : Int64, zz = (((x0 &&& (1048575 : Int32))).toInt64) := ⟨_, rfl⟩
  rw [← q_r]
  refine Goes.by (T' := s₁) (g' := (mkF m 6 #[.val (.int x0), .val (.int x1), .val (.int x2), .val (.long r), .second, .unset, .unset, .unset, .unset, .unset, .unset, .unset, .unset, .unset, .unset, .unset, .unset, .unset, .unset, .unset, .unset, .unset, .unset, .unset, .unset] [])) (fun _ k => XS.lstoreN X0.here hx rfl (hb hby at_5) rfl (l' := #[.val (.int x0), .val (.int x1), .val (.int x2), .val (.long r), .second, .unset, .unset, .unset, .unset, .unset, .unset, .unset, .unset, .unset, .unset, .unset, .unset, .unset, .unset, .unset, .unset, .unset, .unset, .unset, .unset]) rfl k) ?_
  refine Goes.by (T' := s₁) (g' := (mkF m 7 #[.val (.int x0), .val (.int x1), .val (.int x2), .val (.long r), .second, .unset, .unset, .unset, .unset, .unset, .unset, .unset, .unset, .unset, .unset, .unset, .unset, .unset, .unset, .unset, .unset, .unset, .unset, .unset, .unset] [(.int x1)])) (fun _ k => XS.iloadN X0.here hx rfl (hb hby at_6) rfl k) ?_
  refine Goes.by (T' := s₁) (g' := (mkF m 8 #[.val (.int x0), .val (.int x1), .val (.int x2), .val (.long r), .second, .unset, .unset, .unset, .unset, .unset, .unset, .unset, .unset, .unset, .unset, .unset, .unset, .unset, .unset, .unset, .unset, .unset, .unset, .unset, .unset] [(.long ((x1).toInt64))])) (fun _ k => XS.i2l X0.here hx rfl (hb hby at_7) rfl k) ?_
  refine Goes.by (T' := s₁) (g' := (mkF m 11 #[.val (.int x0), .val (.int x1), .val (.int x2), .val (.long r), .second, .unset, .unset, .unset, .unset, .unset, .unset, .unset, .unset, .unset, .unset, .unset, .unset, .unset, .unset, .unset, .unset, .unset, .unset, .unset, .unset] [(.long (2147483647 : Int64)), (.long ((x1).toInt64))])) (X0.ldc2Long hx hown (mvT hZ (hw _ (List.mem_of_getElem? (i := 1) rfl))) (g := (mkF m 8 #[.val (.int x0), .val (.int x1), .val (.int x2), .val (.long r), .second, .unset, .unset, .unset, .unset, .unset, .unset, .unset, .unset, .unset, .unset, .unset, .unset, .unset, .unset, .unset, .unset, .unset, .unset, .unset, .unset] [(.long ((x1).toInt64))])) rfl (hb hby at_8)) ?_
  refine Goes.by (T' := s₁) (g' := (mkF m 12 #[.val (.int x0), .val (.int x1), .val (.int x2), .val (.long r), .second, .unset, .unset, .unset, .unset, .unset, .unset, .unset, .unset, .unset, .unset, .unset, .unset, .unset, .unset, .unset, .unset, .unset, .unset, .unset, .unset] [(.long (((x1).toInt64) &&& (2147483647 : Int64)))])) (fun _ k => XS.land X0.here hx rfl (hb hby at_11) rfl k) ?_
  obtain ⟨a, q_a⟩ : ∃ zz : Int64, zz = (((x1).toInt64) &&& (2147483647 : Int64)) := ⟨_, rfl⟩
  rw [← q_a]
  refine Goes.by (T' := s₁) (g' := (mkF m 14 #[.val (.int x0), .val (.int x1), .val (.int x2), .val (.long r), .second, .val (.long a), .second, .unset, .unset, .unset, .unset, .unset, .unset, .unset, .unset, .unset, .unset, .unset, .unset, .unset, .unset, .unset, .unset, .unset, .unset] [])) (fun _ k => XS.lstore X0.here hx rfl (hb hby at_12) rfl (l' := #[.val (.int x0), .val (.int x1), .val (.int x2), .val (.long r), .second, .val (.long a), .second, .unset, .unset, .unset, .unset, .unset, .unset, .unset, .unset, .unset, .unset, .unset, .unset, .unset, .unset, .unset, .unset, .unset, .unset]) rfl k) ?_
  refine Goes.by (T' := s₁) (g' := (mkF m 15 #[.val (.int x0), .val (.int x1), .val (.int x2), .val (.long r), .second, .val (.long a), .second, .unset, .unset, .unset, .unset, .unset, .unset, .unset, .unset, .unset, .unset, .unset, .unset, .unset, .unset, .unset, .unset, .unset, .unset] [(.int x2)])) (fun _ k => XS.iloadN X0.here hx rfl (hb hby at_14) rfl k) ?_
  refine Goes.by (T' := s₁) (g' := (mkF m 16 #[.val (.int x0), .val (.int x1), .val (.int x2), .val (.long r), .second, .val (.long a), .second, .unset, .unset, .unset, .unset, .unset, .unset, .unset, .unset, .unset, .unset, .unset, .unset, .unset, .unset, .unset, .unset, .unset, .unset] [(.long ((x2).toInt64))])) (fun _ k => XS.i2l X0.here hx rfl (hb hby at_15) rfl k) ?_
  refine Goes.by (T' := s₁) (g' := (mkF m 19 #[.val (.int x0), .val (.int x1), .val (.int x2), .val (.long r), .second, .val (.long a), .second, .unset, .unset, .unset, .unset, .unset, .unset, .unset, .unset, .unset, .unset, .unset, .unset, .unset, .unset, .unset, .unset, .unset, .unset] [(.long (2147483647 : Int64)), (.long ((x2).toInt64))])) (X0.ldc2Long hx hown (mvT hZ (hw _ (List.mem_of_getElem? (i := 1) rfl))) (g := (mkF m 16 #[.val (.int x0), .val (.int x1), .val (.int x2), .val (.long r), .second, .val (.long a), .second, .unset, .unset, .unset, .unset, .unset, .unset, .unset, .unset, .unset, .unset, .unset, .unset, .unset, .unset, .unset, .unset, .unset, .unset] [(.long ((x2).toInt64))])) rfl (hb hby at_16)) ?_
  refine Goes.by (T' := s₁) (g' := (mkF m 20 #[.val (.int x0), .val (.int x1), .val (.int x2), .val (.long r), .second, .val (.long a), .second, .unset, .unset, .unset, .unset, .unset, .unset, .unset, .unset, .unset, .unset, .unset, .unset, .unset, .unset, .unset, .unset, .unset, .unset] [(.long (((x2).toInt64) &&& (2147483647 : Int64)))])) (fun _ k => XS.land X0.here hx rfl (hb hby at_19) rfl k) ?_
  obtain ⟨b, q_b⟩ : ∃ zz : Int64, zz = (((x2).toInt64) &&& (2147483647 : Int64)) := ⟨_, rfl⟩
  rw [← q_b]
  have br : 0 ≤ r.toInt ∧ r.toInt ≤ 1048575 := by
    rw [q_r, c_i2l]
    have t := c_and x0 (1048575 : Int32) (by decide)
    have t2 : (1048575 : Int32).toInt = 1048575 := by decide
    omega
  have ba : 0 ≤ a.toInt ∧ a.toInt ≤ 2147483647 := by
    have t := c_maskL (x1.toInt64) (2147483647 : Int64) 31 (by decide) (by decide)
    rw [← q_a] at t
    rw [t, show ((2 ^ 31 : Nat) : Int) = 2147483648 from by decide]
    omega
  have bb : 0 ≤ b.toInt ∧ b.toInt ≤ 2147483647 := by
    have t := c_maskL (x2.toInt64) (2147483647 : Int64) 31 (by decide) (by decide)
    rw [← q_b] at t
    rw [t, show ((2 ^ 31 : Nat) : Int) = 2147483648 from by decide]
    omega
  refine Goes.by (T' := s₁) (g' := (mkF m 22 #[.val (.int x0), .val (.int x1), .val (.int x2), .val (.long r), .second, .val (.long a), .second, .val (.long b), .second, .unset, .unset, .unset, .unset, .unset, .unset, .unset, .unset, .unset, .unset, .unset, .unset, .unset, .unset, .unset, .unset] [])) (fun _ k => XS.lstore X0.here hx rfl (hb hby at_20) rfl (l' := #[.val (.int x0), .val (.int x1), .val (.int x2), .val (.long r), .second, .val (.long a), .second, .val (.long b), .second, .unset, .unset, .unset, .unset, .unset, .unset, .unset, .unset, .unset, .unset, .unset, .unset, .unset, .unset, .unset, .unset]) rfl k) ?_
  refine Goes.by (T' := s₁) (g' := (mkF m 23 #[.val (.int x0), .val (.int x1), .val (.int x2), .val (.long r), .second, .val (.long a), .second, .val (.long b), .second, .unset, .unset, .unset, .unset, .unset, .unset, .unset, .unset, .unset, .unset, .unset, .unset, .unset, .unset, .unset, .unset] [(.long r)])) (fun _ k => XS.lloadN X0.here hx rfl (hb hby at_22) rfl k) ?_
  obtain ⟨rd, q_rd⟩ : ∃ zz, FP.l2d r = zz := ⟨_, rfl⟩
  refine Goes.by (T' := s₁) (g' := (mkF m 24 #[.val (.int x0), .val (.int x1), .val (.int x2), .val (.long r), .second, .val (.long a), .second, .val (.long b), .second, .unset, .unset, .unset, .unset, .unset, .unset, .unset, .unset, .unset, .unset, .unset, .unset, .unset, .unset, .unset, .unset] [(.double rd)])) (fun _ k => XS.l2dS X0.here hx rfl (hb hby at_23) rfl q_rd k) ?_
  have D_rd : Core.DInt r.toInt rd := DInt_l2d q_rd (by omega)
  refine Goes.by (T' := s₁) (g' := (mkF m 26 #[.val (.int x0), .val (.int x1), .val (.int x2), .val (.long r), .second, .val (.long a), .second, .val (.long b), .second, .val (.double rd), .second, .unset, .unset, .unset, .unset, .unset, .unset, .unset, .unset, .unset, .unset, .unset, .unset, .unset, .unset] [])) (fun _ k => XS.dstore X0.here hx rfl (hb hby at_24) rfl (l' := #[.val (.int x0), .val (.int x1), .val (.int x2), .val (.long r), .second, .val (.long a), .second, .val (.long b), .second, .val (.double rd), .second, .unset, .unset, .unset, .unset, .unset, .unset, .unset, .unset, .unset, .unset, .unset, .unset, .unset, .unset]) rfl k) ?_
  refine Goes.by (T' := s₁) (g' := (mkF m 28 #[.val (.int x0), .val (.int x1), .val (.int x2), .val (.long r), .second, .val (.long a), .second, .val (.long b), .second, .val (.double rd), .second, .unset, .unset, .unset, .unset, .unset, .unset, .unset, .unset, .unset, .unset, .unset, .unset, .unset, .unset] [(.long a)])) (fun _ k => XS.lload X0.here hx rfl (hb hby at_26) rfl k) ?_
  obtain ⟨ad, q_ad⟩ : ∃ zz, FP.l2d a = zz := ⟨_, rfl⟩
  refine Goes.by (T' := s₁) (g' := (mkF m 29 #[.val (.int x0), .val (.int x1), .val (.int x2), .val (.long r), .second, .val (.long a), .second, .val (.long b), .second, .val (.double rd), .second, .unset, .unset, .unset, .unset, .unset, .unset, .unset, .unset, .unset, .unset, .unset, .unset, .unset, .unset] [(.double ad)])) (fun _ k => XS.l2dS X0.here hx rfl (hb hby at_28) rfl q_ad k) ?_
  have D_ad : Core.DInt a.toInt ad := DInt_l2d q_ad (by omega)
  refine Goes.by (T' := s₁) (g' := (mkF m 31 #[.val (.int x0), .val (.int x1), .val (.int x2), .val (.long r), .second, .val (.long a), .second, .val (.long b), .second, .val (.double rd), .second, .val (.double ad), .second, .unset, .unset, .unset, .unset, .unset, .unset, .unset, .unset, .unset, .unset, .unset, .unset] [])) (fun _ k => XS.dstore X0.here hx rfl (hb hby at_29) rfl (l' := #[.val (.int x0), .val (.int x1), .val (.int x2), .val (.long r), .second, .val (.long a), .second, .val (.long b), .second, .val (.double rd), .second, .val (.double ad), .second, .unset, .unset, .unset, .unset, .unset, .unset, .unset, .unset, .unset, .unset, .unset, .unset]) rfl k) ?_
  refine Goes.by (T' := s₁) (g' := (mkF m 33 #[.val (.int x0), .val (.int x1), .val (.int x2), .val (.long r), .second, .val (.long a), .second, .val (.long b), .second, .val (.double rd), .second, .val (.double ad), .second, .unset, .unset, .unset, .unset, .unset, .unset, .unset, .unset, .unset, .unset, .unset, .unset] [(.long b)])) (fun _ k => XS.lload X0.here hx rfl (hb hby at_31) rfl k) ?_
  obtain ⟨bd, q_bd⟩ : ∃ zz, FP.l2d b = zz := ⟨_, rfl⟩
  refine Goes.by (T' := s₁) (g' := (mkF m 34 #[.val (.int x0), .val (.int x1), .val (.int x2), .val (.long r), .second, .val (.long a), .second, .val (.long b), .second, .val (.double rd), .second, .val (.double ad), .second, .unset, .unset, .unset, .unset, .unset, .unset, .unset, .unset, .unset, .unset, .unset, .unset] [(.double bd)])) (fun _ k => XS.l2dS X0.here hx rfl (hb hby at_33) rfl q_bd k) ?_
  have D_bd : Core.DInt b.toInt bd := DInt_l2d q_bd (by omega)
  refine Goes.by (T' := s₁) (g' := (mkF m 36 #[.val (.int x0), .val (.int x1), .val (.int x2), .val (.long r), .second, .val (.long a), .second, .val (.long b), .second, .val (.double rd), .second, .val (.double ad), .second, .val (.double bd), .second, .unset, .unset, .unset, .unset, .unset, .unset, .unset, .unset, .unset, .unset] [])) (fun _ k => XS.dstore X0.here hx rfl (hb hby at_34) rfl (l' := #[.val (.int x0), .val (.int x1), .val (.int x2), .val (.long r), .second, .val (.long a), .second, .val (.long b), .second, .val (.double rd), .second, .val (.double ad), .second, .val (.double bd), .second, .unset, .unset, .unset, .unset, .unset, .unset, .unset, .unset, .unset, .unset]) rfl k) ?_
  refine Goes.by (T' := s₁) (g' := (mkF m 38 #[.val (.int x0), .val (.int x1), .val (.int x2), .val (.long r), .second, .val (.long a), .second, .val (.long b), .second, .val (.double rd), .second, .val (.double ad), .second, .val (.double bd), .second, .unset, .unset, .unset, .unset, .unset, .unset, .unset, .unset, .unset, .unset] [(.double rd)])) (fun _ k => XS.dload X0.here hx rfl (hb hby at_36) rfl k) ?_
  refine Goes.by (T' := s₁) (g' := (mkF m 40 #[.val (.int x0), .val (.int x1), .val (.int x2), .val (.long r), .second, .val (.long a), .second, .val (.long b), .second, .val (.double rd), .second, .val (.double ad), .second, .val (.double bd), .second, .unset, .unset, .unset, .unset, .unset, .unset, .unset, .unset, .unset, .unset] [(.double ad), (.double rd)])) (fun _ k => XS.dload X0.here hx rfl (hb hby at_38) rfl k) ?_
  refine Goes.by (T' := s₁) (g' := (mkF m 42 #[.val (.int x0), .val (.int x1), .val (.int x2), .val (.long r), .second, .val (.long a), .second, .val (.long b), .second, .val (.double rd), .second, .val (.double ad), .second, .val (.double bd), .second, .unset, .unset, .unset, .unset, .unset, .unset, .unset, .unset, .unset, .unset] [(.double bd), (.double ad), (.double rd)])) (fun _ k => XS.dload X0.here hx rfl (hb hby at_40) rfl k) ?_
  obtain ⟨v1, T1, L1, X1, hQ1, st1⟩ := callC X0 hx hZ (y := (⟨"com/example/ample_crowd/amplecrowd/lbs/CrossingSweep", "margin", "(DDD)D"⟩ : MethodName)) hown (hw _ (List.mem_of_getElem? (i := 2) rfl)) (hw _ (List.mem_of_getElem? (i := 3) rfl)) (hw _ (List.mem_of_getElem? (i := 5) rfl)) (hw _ (List.mem_of_getElem? (i := 4) rfl)) (by decide) e0 (argsL := [(.double rd), (.double ad), (.double bd)]) (rest := []) (W := 0) (rm_mar l Z a0 hw rd ad bd r.toInt a.toInt b.toInt h0 n0 Z0 D_rd D_ad D_bd (by omega) (by omega) (by omega)) rfl (by decide) (by decide) (by decide) (by decide) (g := (mkF m 42 #[.val (.int x0), .val (.int x1), .val (.int x2), .val (.long r), .second, .val (.long a), .second, .val (.long b), .second, .val (.double rd), .second, .val (.double ad), .second, .val (.double bd), .second, .unset, .unset, .unset, .unset, .unset, .unset, .unset, .unset, .unset, .unset] [(.double bd), (.double ad), (.double rd)])) rfl (by rw [hml]; rfl) (lenOf pd0 rfl) rfl (by show 2 * 0 + _ ≤ _; exact Nat.le_of_eq rfl) (hb hby at_42)
  obtain ⟨rfl, NL1, hk1⟩ := hQ1
  have N0 := Fr.app N0 NL1
  refine Goes.by (T' := T1) (g' := (mkF m 45 #[.val (.int x0), .val (.int x1), .val (.int x2), .val (.long r), .second, .val (.long a), .second, .val (.long b), .second, .val (.double rd), .second, .val (.double ad), .second, .val (.double bd), .second, .unset, .unset, .unset, .unset, .unset, .unset, .unset, .unset, .unset, .unset] [(.double (own_m (own_S rd ad bd)))])) st1 ?_
  refine Goes.by (T' := T1) (g' := (mkF m 47 #[.val (.int x0), .val (.int x1), .val (.int x2), .val (.long r), .second, .val (.long a), .second, .val (.long b), .second, .val (.double rd), .second, .val (.double ad), .second, .val (.double bd), .second, .val (.double (own_m (own_S rd ad bd))), .second, .unset, .unset, .unset, .unset, .unset, .unset, .unset, .unset] [])) (fun _ k => XS.dstore X1.here hx rfl (hb hby at_45) rfl (l' := #[.val (.int x0), .val (.int x1), .val (.int x2), .val (.long r), .second, .val (.long a), .second, .val (.long b), .second, .val (.double rd), .second, .val (.double ad), .second, .val (.double bd), .second, .val (.double (own_m (own_S rd ad bd))), .second, .unset, .unset, .unset, .unset, .unset, .unset, .unset, .unset]) rfl k) ?_
  refine Goes.by (T' := T1) (g' := (mkF m 49 #[.val (.int x0), .val (.int x1), .val (.int x2), .val (.long r), .second, .val (.long a), .second, .val (.long b), .second, .val (.double rd), .second, .val (.double ad), .second, .val (.double bd), .second, .val (.double (own_m (own_S rd ad bd))), .second, .unset, .unset, .unset, .unset, .unset, .unset, .unset, .unset] [(.double rd)])) (fun _ k => XS.dload X1.here hx rfl (hb hby at_47) rfl k) ?_
  refine Goes.by (T' := T1) (g' := (mkF m 51 #[.val (.int x0), .val (.int x1), .val (.int x2), .val (.long r), .second, .val (.long a), .second, .val (.long b), .second, .val (.double rd), .second, .val (.double ad), .second, .val (.double bd), .second, .val (.double (own_m (own_S rd ad bd))), .second, .unset, .unset, .unset, .unset, .unset, .unset, .unset, .unset] [(.double bd), (.double rd)])) (fun _ k => XS.dload X1.here hx rfl (hb hby at_49) rfl k) ?_
  refine Goes.by (T' := T1) (g' := (mkF m 53 #[.val (.int x0), .val (.int x1), .val (.int x2), .val (.long r), .second, .val (.long a), .second, .val (.long b), .second, .val (.double rd), .second, .val (.double ad), .second, .val (.double bd), .second, .val (.double (own_m (own_S rd ad bd))), .second, .unset, .unset, .unset, .unset, .unset, .unset, .unset, .unset] [(.double ad), (.double bd), (.double rd)])) (fun _ k => XS.dload X1.here hx rfl (hb hby at_51) rfl k) ?_
  obtain ⟨v2, T2, L2, X2, hQ2, st2⟩ := callC X1 hx hZ (y := (⟨"com/example/ample_crowd/amplecrowd/lbs/CrossingSweep", "margin", "(DDD)D"⟩ : MethodName)) hown (hw _ (List.mem_of_getElem? (i := 2) rfl)) (hw _ (List.mem_of_getElem? (i := 3) rfl)) (hw _ (List.mem_of_getElem? (i := 5) rfl)) (hw _ (List.mem_of_getElem? (i := 4) rfl)) (by decide) hk1 (argsL := [(.double rd), (.double bd), (.double ad)]) (rest := []) (W := 0) (rm_mar l Z a0 hw rd bd ad r.toInt b.toInt a.toInt h0 n0 Z0 D_rd D_bd D_ad (by omega) (by omega) (by omega)) rfl (by decide) (by decide) (by decide) (by decide) (g := (mkF m 53 #[.val (.int x0), .val (.int x1), .val (.int x2), .val (.long r), .second, .val (.long a), .second, .val (.long b), .second, .val (.double rd), .second, .val (.double ad), .second, .val (.double bd), .second, .val (.double (own_m (own_S rd ad bd))), .second, .unset, .unset, .unset, .unset, .unset, .unset, .unset, .unset] [(.double ad), (.double bd), (.double rd)])) rfl (by rw [hml]; rfl) (lenOf pd0 rfl) rfl (by show 2 * 0 + _ ≤ _; exact Nat.le_of_eq rfl) (hb hby at_53)
  obtain ⟨rfl, NL2, hk2⟩ := hQ2
  have N0 := Fr.app N0 NL2
  refine Goes.by (T' := T2) (g' := (mkF m 56 #[.val (.int x0), .val (.int x1), .val (.int x2), .val (.long r), .second, .val (.long a), .second, .val (.long b), .second, .val (.double rd), .second, .val (.double ad), .second, .val (.double bd), .second, .val (.double (own_m (own_S rd ad bd))), .second, .unset, .unset, .unset, .unset, .unset, .unset, .unset, .unset] [(.double (own_m (own_S rd bd ad)))])) st2 ?_
  obtain ⟨pp, hpp⟩ : ∃ z : Int, z = r.toInt * r.toInt := ⟨_, rfl⟩
  have bpp : 0 ≤ pp ∧ pp ≤ 1048575 * 1048575 := by
    have t1 := Int.mul_nonneg br.1 br.1
    have t2 := own_mb (i := r.toInt) (j := r.toInt) (A := 1048575) (B := 1048575) (by omega) (by omega)
    rw [← hpp] at t1 t2
    omega
  have DP : Core.DInt pp (FP.dmul rd rd) := by rw [hpp]; exact DInt_mul rfl D_rd D_rd (by rw [← hpp]; omega)
  have DS1 : Core.DInt (pp + a.toInt + b.toInt) (own_S rd ad bd) := DInt_add rfl (DInt_add rfl DP D_ad (by omega)) D_bd (by omega)
  have DS2 : Core.DInt (pp + b.toInt + a.toInt) (own_S rd bd ad) := DInt_add rfl (DInt_add rfl DP D_bd (by omega)) D_ad (by omega)
  have eS : own_S rd bd ad = own_S rd ad bd := by
    by_cases hz : pp + a.toInt + b.toInt = 0
    · have ha : a = 0 := Int64.toInt_inj.mp (by show a.toInt = 0; omega)
      have hb : b = 0 := Int64.toInt_inj.mp (by show b.toInt = 0; omega)
      have hab : ad = bd := by rw [← q_ad, ← q_bd, ha, hb]
      rw [hab]
    · exact Core.dint_unique hz (by rw [show pp + a.toInt + b.toInt = pp + b.toInt + a.toInt by omega]; exact DS2) DS1
  rw [eS]
  obtain ⟨SS, hSS⟩ : ∃ z, z = own_S rd ad bd := ⟨_, rfl⟩
  rw [← hSS]
  rw [← hSS] at DS1
  obtain ⟨sn, hsn⟩ : ∃ k : Nat, pp + a.toInt + b.toInt = k := ⟨(pp + a.toInt + b.toInt).toNat, by omega⟩
  have DN : Core.DInt (sn : Int) SS := hsn ▸ DS1
  have nm : NoNaN64 (own_m SS) := dadd_out (dmul_out own_fc (DInt_fin DN)) own_fmin
  refine Goes.by (T' := T2) (g' := (mkF m 58 #[.val (.int x0), .val (.int x1), .val (.int x2), .val (.long r), .second, .val (.long a), .second, .val (.long b), .second, .val (.double rd), .second, .val (.double ad), .second, .val (.double bd), .second, .val (.double (own_m SS)), .second, .val (.double (own_m SS)), .second, .unset, .unset, .unset, .unset, .unset, .unset] [])) (fun _ k => XS.dstore X2.here hx rfl (hb hby at_56) rfl (l' := #[.val (.int x0), .val (.int x1), .val (.int x2), .val (.long r), .second, .val (.long a), .second, .val (.long b), .second, .val (.double rd), .second, .val (.double ad), .second, .val (.double bd), .second, .val (.double (own_m SS)), .second, .val (.double (own_m SS)), .second, .unset, .unset, .unset, .unset, .unset, .unset]) rfl k) ?_
  refine Goes.by (T' := T2) (g' := (mkF m 60 #[.val (.int x0), .val (.int x1), .val (.int x2), .val (.long r), .second, .val (.long a), .second, .val (.long b), .second, .val (.double rd), .second, .val (.double ad), .second, .val (.double bd), .second, .val (.double (own_m SS)), .second, .val (.double (own_m SS)), .second, .unset, .unset, .unset, .unset, .unset, .unset] [(.double (own_m SS))])) (fun _ k => XS.dload X2.here hx rfl (hb hby at_58) rfl k) ?_
  refine Goes.by (T' := T2) (g' := (mkF m 62 #[.val (.int x0), .val (.int x1), .val (.int x2), .val (.long r), .second, .val (.long a), .second, .val (.long b), .second, .val (.double rd), .second, .val (.double ad), .second, .val (.double bd), .second, .val (.double (own_m SS)), .second, .val (.double (own_m SS)), .second, .unset, .unset, .unset, .unset, .unset, .unset] [(.double (own_m SS)), (.double (own_m SS))])) (fun _ k => XS.dload X2.here hx rfl (hb hby at_60) rfl k) ?_
  refine Goes.by (T' := T2) (g' := (mkF m 63 #[.val (.int x0), .val (.int x1), .val (.int x2), .val (.long r), .second, .val (.long a), .second, .val (.long b), .second, .val (.double rd), .second, .val (.double ad), .second, .val (.double bd), .second, .val (.double (own_m SS)), .second, .val (.double (own_m SS)), .second, .unset, .unset, .unset, .unset, .unset, .unset] [(.int (0 : Int32))])) (fun _ k => XS.dcmpS X2.here hx rfl (hb hby at_62) rfl (dcmpV_self nm _) k) ?_
  refine Goes.by (T' := T2) (g' := (mkF m 68 #[.val (.int x0), .val (.int x1), .val (.int x2), .val (.long r), .second, .val (.long a), .second, .val (.long b), .second, .val (.double rd), .second, .val (.double ad), .second, .val (.double bd), .second, .val (.double (own_m SS)), .second, .val (.double (own_m SS)), .second, .unset, .unset, .unset, .unset, .unset, .unset] [])) (fun _ k => XS.ifYes X2.here hx rfl (pc0 := 63) (pc' := 68) rfl (hb hby at_63) rfl (by decide) (by decide) (by decide) k) ?_
  refine Goes.by (T' := T2) (g' := (mkF m 70 #[.val (.int x0), .val (.int x1), .val (.int x2), .val (.long r), .second, .val (.long a), .second, .val (.long b), .second, .val (.double rd), .second, .val (.double ad), .second, .val (.double bd), .second, .val (.double (own_m SS)), .second, .val (.double (own_m SS)), .second, .unset, .unset, .unset, .unset, .unset, .unset] [(.double (own_m SS))])) (fun _ k => XS.dload X2.here hx rfl (hb hby at_68) rfl k) ?_
  refine Goes.by (T' := T2) (g' := (mkF m 73 #[.val (.int x0), .val (.int x1), .val (.int x2), .val (.long r), .second, .val (.long a), .second, .val (.long b), .second, .val (.double rd), .second, .val (.double ad), .second, .val (.double bd), .second, .val (.double (own_m SS)), .second, .val (.double (own_m SS)), .second, .unset, .unset, .unset, .unset, .unset, .unset] [(.double (4503599627370496 : UInt64)), (.double (own_m SS))])) (X2.ldc2DoubleC hx hown (mvT hZ (hw _ (List.mem_of_getElem? (i := 8) rfl))) (g := (mkF m 70 #[.val (.int x0), .val (.int x1), .val (.int x2), .val (.long r), .second, .val (.long a), .second, .val (.long b), .second, .val (.double rd), .second, .val (.double ad), .second, .val (.double bd), .second, .val (.double (own_m SS)), .second, .val (.double (own_m SS)), .second, .unset, .unset, .unset, .unset, .unset, .unset] [(.double (own_m SS))])) rfl (hb hby at_70)) ?_
  by_cases hs0 : sn = 0
  · have ZM : Zv (((2 : Nat) ^ 52 : Nat) : Int) (own_m SS) := own_m0 (by rw [hs0] at DN; exact DN)
    refine Goes.by (T' := T2) (g' := (mkF m 74 #[.val (.int x0), .val (.int x1), .val (.int x2), .val (.long r), .second, .val (.long a), .second, .val (.long b), .second, .val (.double rd), .second, .val (.double ad), .second, .val (.double bd), .second, .val (.double (own_m SS)), .second, .val (.double (own_m SS)), .second, .unset, .unset, .unset, .unset, .unset, .unset] [(.int (0 : Int32))])) (fun _ k => XS.dcmpS X2.here hx rfl (hb hby at_73) rfl (ZM.cmp_eq own_zmin rfl _) k) ?_
    refine Goes.by (T' := T2) (g' := (mkF m 79 #[.val (.int x0), .val (.int x1), .val (.int x2), .val (.long r), .second, .val (.long a), .second, .val (.long b), .second, .val (.double rd), .second, .val (.double ad), .second, .val (.double bd), .second, .val (.double (own_m SS)), .second, .val (.double (own_m SS)), .second, .unset, .unset, .unset, .unset, .unset, .unset] [])) (fun _ k => XS.ifYes X2.here hx rfl (pc0 := 74) (pc' := 79) rfl (hb hby at_74) rfl (by decide) (by decide) (by decide) k) ?_
    refine Goes.by (T' := T2) (g' := (mkF m 80 #[.val (.int x0), .val (.int x1), .val (.int x2), .val (.long r), .second, .val (.long a), .second, .val (.long b), .second, .val (.double rd), .second, .val (.double ad), .second, .val (.double bd), .second, .val (.double (own_m SS)), .second, .val (.double (own_m SS)), .second, .unset, .unset, .unset, .unset, .unset, .unset] [(.long r)])) (fun _ k => XS.lloadN X2.here hx rfl (hb hby at_79) rfl k) ?_
    refine Goes.by (T' := T2) (g' := (mkF m 81 #[.val (.int x0), .val (.int x1), .val (.int x2), .val (.long r), .second, .val (.long a), .second, .val (.long b), .second, .val (.double rd), .second, .val (.double ad), .second, .val (.double bd), .second, .val (.double (own_m SS)), .second, .val (.double (own_m SS)), .second, .unset, .unset, .unset, .unset, .unset, .unset] [(.long r), (.long r)])) (fun _ k => XS.lloadN X2.here hx rfl (hb hby at_80) rfl k) ?_
    refine Goes.by (T' := T2) (g' := (mkF m 82 #[.val (.int x0), .val (.int x1), .val (.int x2), .val (.long r), .second, .val (.long a), .second, .val (.long b), .second, .val (.double rd), .second, .val (.double ad), .second, .val (.double bd), .second, .val (.double (own_m SS)), .second, .val (.double (own_m SS)), .second, .unset, .unset, .unset, .unset, .unset, .unset] [(.long (r * r))])) (fun _ k => XS.lmul X2.here hx rfl (hb hby at_81) rfl k) ?_
    obtain ⟨t1, q_t1⟩ : ∃ zz : Int64, zz = (r * r) := ⟨_, rfl⟩
    rw [← q_t1]
    refine Goes.by (T' := T2) (g' := (mkF m 84 #[.val (.int x0), .val (.int x1), .val (.int x2), .val (.long r), .second, .val (.long a), .second, .val (.long b), .second, .val (.double rd), .second, .val (.double ad), .second, .val (.double bd), .second, .val (.double (own_m SS)), .second, .val (.double (own_m SS)), .second, .unset, .unset, .unset, .unset, .unset, .unset] [(.long a), (.long t1)])) (fun _ k => XS.lload X2.here hx rfl (hb hby at_82) rfl k) ?_
    refine Goes.by (T' := T2) (g' := (mkF m 85 #[.val (.int x0), .val (.int x1), .val (.int x2), .val (.long r), .second, .val (.long a), .second, .val (.long b), .second, .val (.double rd), .second, .val (.double ad), .second, .val (.double bd), .second, .val (.double (own_m SS)), .second, .val (.double (own_m SS)), .second, .unset, .unset, .unset, .unset, .unset, .unset] [(.long (t1 + a))])) (fun _ k => XS.ladd X2.here hx rfl (hb hby at_84) rfl k) ?_
    obtain ⟨t2, q_t2⟩ : ∃ zz : Int64, zz = (t1 + a) := ⟨_, rfl⟩
    rw [← q_t2]
    refine Goes.by (T' := T2) (g' := (mkF m 87 #[.val (.int x0), .val (.int x1), .val (.int x2), .val (.long r), .second, .val (.long a), .second, .val (.long b), .second, .val (.double rd), .second, .val (.double ad), .second, .val (.double bd), .second, .val (.double (own_m SS)), .second, .val (.double (own_m SS)), .second, .unset, .unset, .unset, .unset, .unset, .unset] [(.long b), (.long t2)])) (fun _ k => XS.lload X2.here hx rfl (hb hby at_85) rfl k) ?_
    refine Goes.by (T' := T2) (g' := (mkF m 88 #[.val (.int x0), .val (.int x1), .val (.int x2), .val (.long r), .second, .val (.long a), .second, .val (.long b), .second, .val (.double rd), .second, .val (.double ad), .second, .val (.double bd), .second, .val (.double (own_m SS)), .second, .val (.double (own_m SS)), .second, .unset, .unset, .unset, .unset, .unset, .unset] [(.long (t2 + b))])) (fun _ k => XS.ladd X2.here hx rfl (hb hby at_87) rfl k) ?_
    obtain ⟨sv, q_sv⟩ : ∃ zz : Int64, zz = (t2 + b) := ⟨_, rfl⟩
    rw [← q_sv]
    have e1 : t1.toInt = pp := by rw [q_t1, own_lmul (by rw [← hpp]; omega), hpp]
    have e2 : t2.toInt = pp + a.toInt := by rw [q_t2, own_ladd (by rw [e1]; omega) (by rw [e1]; omega), e1]
    have e3 : sv.toInt = sn := by rw [q_sv, own_ladd (by rw [e2]; omega) (by rw [e2]; omega), e2]; exact hsn
    refine Goes.by (T' := T2) (g' := (mkF m 90 #[.val (.int x0), .val (.int x1), .val (.int x2), .val (.long r), .second, .val (.long a), .second, .val (.long b), .second, .val (.double rd), .second, .val (.double ad), .second, .val (.double bd), .second, .val (.double (own_m SS)), .second, .val (.double (own_m SS)), .second, .val (.long sv), .second, .unset, .unset, .unset, .unset] [])) (fun _ k => XS.lstore X2.here hx rfl (hb hby at_88) rfl (l' := #[.val (.int x0), .val (.int x1), .val (.int x2), .val (.long r), .second, .val (.long a), .second, .val (.long b), .second, .val (.double rd), .second, .val (.double ad), .second, .val (.double bd), .second, .val (.double (own_m SS)), .second, .val (.double (own_m SS)), .second, .val (.long sv), .second, .unset, .unset, .unset, .unset]) rfl k) ?_
    refine Goes.by (T' := T2) (g' := (mkF m 92 #[.val (.int x0), .val (.int x1), .val (.int x2), .val (.long r), .second, .val (.long a), .second, .val (.long b), .second, .val (.double rd), .second, .val (.double ad), .second, .val (.double bd), .second, .val (.double (own_m SS)), .second, .val (.double (own_m SS)), .second, .val (.long sv), .second, .unset, .unset, .unset, .unset] [(.long sv)])) (fun _ k => XS.lload X2.here hx rfl (hb hby at_90) rfl k) ?_
    refine Goes.by (T' := T2) (g' := (mkF m 93 #[.val (.int x0), .val (.int x1), .val (.int x2), .val (.long r), .second, .val (.long a), .second, .val (.long b), .second, .val (.double rd), .second, .val (.double ad), .second, .val (.double bd), .second, .val (.double (own_m SS)), .second, .val (.double (own_m SS)), .second, .val (.long sv), .second, .unset, .unset, .unset, .unset] [(.long (0 : Int64)), (.long sv)])) (fun _ k => XS.lconst X2.here hx rfl (hb hby at_92)  k) ?_
    refine Goes.by (T' := T2) (g' := (mkF m 94 #[.val (.int x0), .val (.int x1), .val (.int x2), .val (.long r), .second, .val (.long a), .second, .val (.long b), .second, .val (.double rd), .second, .val (.double ad), .second, .val (.double bd), .second, .val (.double (own_m SS)), .second, .val (.double (own_m SS)), .second, .val (.long sv), .second, .unset, .unset, .unset, .unset] [(.int (0 : Int32))])) (fun _ k => XS.lcmpS X2.here hx rfl (hb hby at_93) rfl (cmpL_eq (Int64.toInt_inj.mp (by rw [e3, hs0]; rfl))) k) ?_
    refine Goes.by (T' := T2) (g' := (mkF m 97 #[.val (.int x0), .val (.int x1), .val (.int x2), .val (.long r), .second, .val (.long a), .second, .val (.long b), .second, .val (.double rd), .second, .val (.double ad), .second, .val (.double bd), .second, .val (.double (own_m SS)), .second, .val (.double (own_m SS)), .second, .val (.long sv), .second, .unset, .unset, .unset, .unset] [])) (fun _ k => XS.ifNo X2.here hx rfl (hb hby at_94) rfl (by decide) k) ?_
    refine Goes.by (T' := T2) (g' := (mkF m 99 #[.val (.int x0), .val (.int x1), .val (.int x2), .val (.long r), .second, .val (.long a), .second, .val (.long b), .second, .val (.double rd), .second, .val (.double ad), .second, .val (.double bd), .second, .val (.double (own_m SS)), .second, .val (.double (own_m SS)), .second, .val (.long sv), .second, .unset, .unset, .unset, .unset] [(.double (own_m SS))])) (fun _ k => XS.dload X2.here hx rfl (hb hby at_97) rfl k) ?_
    refine Goes.by (T' := T2) (g' := (mkF m 102 #[.val (.int x0), .val (.int x1), .val (.int x2), .val (.long r), .second, .val (.long a), .second, .val (.long b), .second, .val (.double rd), .second, .val (.double ad), .second, .val (.double bd), .second, .val (.double (own_m SS)), .second, .val (.double (own_m SS)), .second, .val (.long sv), .second, .unset, .unset, .unset, .unset] [(.double (4503599627370496 : UInt64)), (.double (own_m SS))])) (X2.ldc2DoubleC hx hown (mvT hZ (hw _ (List.mem_of_getElem? (i := 8) rfl))) (g := (mkF m 99 #[.val (.int x0), .val (.int x1), .val (.int x2), .val (.long r), .second, .val (.long a), .second, .val (.long b), .second, .val (.double rd), .second, .val (.double ad), .second, .val (.double bd), .second, .val (.double (own_m SS)), .second, .val (.double (own_m SS)), .second, .val (.long sv), .second, .unset, .unset, .unset, .unset] [(.double (own_m SS))])) rfl (hb hby at_99)) ?_
    refine Goes.by (T' := T2) (g' := (mkF m 103 #[.val (.int x0), .val (.int x1), .val (.int x2), .val (.long r), .second, .val (.long a), .second, .val (.long b), .second, .val (.double rd), .second, .val (.double ad), .second, .val (.double bd), .second, .val (.double (own_m SS)), .second, .val (.double (own_m SS)), .second, .val (.long sv), .second, .unset, .unset, .unset, .unset] [(.int (0 : Int32))])) (fun _ k => XS.dcmpS X2.here hx rfl (hb hby at_102) rfl (ZM.cmp_eq own_zmin rfl _) k) ?_
    refine Goes.by (T' := T2) (g' := (mkF m 106 #[.val (.int x0), .val (.int x1), .val (.int x2), .val (.long r), .second, .val (.long a), .second, .val (.long b), .second, .val (.double rd), .second, .val (.double ad), .second, .val (.double bd), .second, .val (.double (own_m SS)), .second, .val (.double (own_m SS)), .second, .val (.long sv), .second, .unset, .unset, .unset, .unset] [])) (fun _ k => XS.ifNo X2.here hx rfl (hb hby at_103) rfl (by decide) k) ?_
    refine Goes.by (T' := T2) (g' := (mkF m 107 #[.val (.int x0), .val (.int x1), .val (.int x2), .val (.long r), .second, .val (.long a), .second, .val (.long b), .second, .val (.double rd), .second, .val (.double ad), .second, .val (.double bd), .second, .val (.double (own_m SS)), .second, .val (.double (own_m SS)), .second, .val (.long sv), .second, .unset, .unset, .unset, .unset] [(.int (1 : Int32))])) (fun _ k => XS.iconst X2.here hx rfl (hb hby at_106)  k) ?_
    refine Goes.by (T' := T2) (g' := (mkF m 111 #[.val (.int x0), .val (.int x1), .val (.int x2), .val (.long r), .second, .val (.long a), .second, .val (.long b), .second, .val (.double rd), .second, .val (.double ad), .second, .val (.double bd), .second, .val (.double (own_m SS)), .second, .val (.double (own_m SS)), .second, .val (.long sv), .second, .unset, .unset, .unset, .unset] [(.int (1 : Int32))])) (fun _ k => XS.goto X2.here hx rfl (pc0 := 107) (pc' := 111) rfl (hb hby at_107) (by decide) (by decide) k) ?_
    exact outZ X2 hx hlk hret (hb hby at_111) (by exact ⟨rfl, N0⟩) (by decide) (by decide)
  · obtain ⟨R, ZR, -, -, r1, -⟩ := own_mpos DN (by omega) (by omega)
    obtain ⟨cv, hv, hn⟩ := ZR.cmp_ge own_zmin (Int.ofNat_le.mpr (Nat.le_trans (by decide +kernel) r1)) .l
    refine Goes.by (T' := T2) (g' := (mkF m 74 #[.val (.int x0), .val (.int x1), .val (.int x2), .val (.long r), .second, .val (.long a), .second, .val (.long b), .second, .val (.double rd), .second, .val (.double ad), .second, .val (.double bd), .second, .val (.double (own_m SS)), .second, .val (.double (own_m SS)), .second, .unset, .unset, .unset, .unset, .unset, .unset] [(.int cv)])) (fun _ k => XS.dcmpS X2.here hx rfl (hb hby at_73) rfl hv k) ?_
    refine Goes.by (T' := T2) (g' := (mkF m 79 #[.val (.int x0), .val (.int x1), .val (.int x2), .val (.long r), .second, .val (.long a), .second, .val (.long b), .second, .val (.double rd), .second, .val (.double ad), .second, .val (.double bd), .second, .val (.double (own_m SS)), .second, .val (.double (own_m SS)), .second, .unset, .unset, .unset, .unset, .unset, .unset] [])) (fun _ k => XS.ifYes X2.here hx rfl (pc0 := 74) (pc' := 79) rfl (hb hby at_74) rfl ((if0 _ _).trans (flt hn).2.1) (by decide) (by decide) k) ?_
    refine Goes.by (T' := T2) (g' := (mkF m 80 #[.val (.int x0), .val (.int x1), .val (.int x2), .val (.long r), .second, .val (.long a), .second, .val (.long b), .second, .val (.double rd), .second, .val (.double ad), .second, .val (.double bd), .second, .val (.double (own_m SS)), .second, .val (.double (own_m SS)), .second, .unset, .unset, .unset, .unset, .unset, .unset] [(.long r)])) (fun _ k => XS.lloadN X2.here hx rfl (hb hby at_79) rfl k) ?_
    refine Goes.by (T' := T2) (g' := (mkF m 81 #[.val (.int x0), .val (.int x1), .val (.int x2), .val (.long r), .second, .val (.long a), .second, .val (.long b), .second, .val (.double rd), .second, .val (.double ad), .second, .val (.double bd), .second, .val (.double (own_m SS)), .second, .val (.double (own_m SS)), .second, .unset, .unset, .unset, .unset, .unset, .unset] [(.long r), (.long r)])) (fun _ k => XS.lloadN X2.here hx rfl (hb hby at_80) rfl k) ?_
    refine Goes.by (T' := T2) (g' := (mkF m 82 #[.val (.int x0), .val (.int x1), .val (.int x2), .val (.long r), .second, .val (.long a), .second, .val (.long b), .second, .val (.double rd), .second, .val (.double ad), .second, .val (.double bd), .second, .val (.double (own_m SS)), .second, .val (.double (own_m SS)), .second, .unset, .unset, .unset, .unset, .unset, .unset] [(.long (r * r))])) (fun _ k => XS.lmul X2.here hx rfl (hb hby at_81) rfl k) ?_
    obtain ⟨t1, q_t1⟩ : ∃ zz : Int64, zz = (r * r) := ⟨_, rfl⟩
    rw [← q_t1]
    refine Goes.by (T' := T2) (g' := (mkF m 84 #[.val (.int x0), .val (.int x1), .val (.int x2), .val (.long r), .second, .val (.long a), .second, .val (.long b), .second, .val (.double rd), .second, .val (.double ad), .second, .val (.double bd), .second, .val (.double (own_m SS)), .second, .val (.double (own_m SS)), .second, .unset, .unset, .unset, .unset, .unset, .unset] [(.long a), (.long t1)])) (fun _ k => XS.lload X2.here hx rfl (hb hby at_82) rfl k) ?_
    refine Goes.by (T' := T2) (g' := (mkF m 85 #[.val (.int x0), .val (.int x1), .val (.int x2), .val (.long r), .second, .val (.long a), .second, .val (.long b), .second, .val (.double rd), .second, .val (.double ad), .second, .val (.double bd), .second, .val (.double (own_m SS)), .second, .val (.double (own_m SS)), .second, .unset, .unset, .unset, .unset, .unset, .unset] [(.long (t1 + a))])) (fun _ k => XS.ladd X2.here hx rfl (hb hby at_84) rfl k) ?_
    obtain ⟨t2, q_t2⟩ : ∃ zz : Int64, zz = (t1 + a) := ⟨_, rfl⟩
    rw [← q_t2]
    refine Goes.by (T' := T2) (g' := (mkF m 87 #[.val (.int x0), .val (.int x1), .val (.int x2), .val (.long r), .second, .val (.long a), .second, .val (.long b), .second, .val (.double rd), .second, .val (.double ad), .second, .val (.double bd), .second, .val (.double (own_m SS)), .second, .val (.double (own_m SS)), .second, .unset, .unset, .unset, .unset, .unset, .unset] [(.long b), (.long t2)])) (fun _ k => XS.lload X2.here hx rfl (hb hby at_85) rfl k) ?_
    refine Goes.by (T' := T2) (g' := (mkF m 88 #[.val (.int x0), .val (.int x1), .val (.int x2), .val (.long r), .second, .val (.long a), .second, .val (.long b), .second, .val (.double rd), .second, .val (.double ad), .second, .val (.double bd), .second, .val (.double (own_m SS)), .second, .val (.double (own_m SS)), .second, .unset, .unset, .unset, .unset, .unset, .unset] [(.long (t2 + b))])) (fun _ k => XS.ladd X2.here hx rfl (hb hby at_87) rfl k) ?_
    obtain ⟨sv, q_sv⟩ : ∃ zz : Int64, zz = (t2 + b) := ⟨_, rfl⟩
    rw [← q_sv]
    have e1 : t1.toInt = pp := by rw [q_t1, own_lmul (by rw [← hpp]; omega), hpp]
    have e2 : t2.toInt = pp + a.toInt := by rw [q_t2, own_ladd (by rw [e1]; omega) (by rw [e1]; omega), e1]
    have e3 : sv.toInt = sn := by rw [q_sv, own_ladd (by rw [e2]; omega) (by rw [e2]; omega), e2]; exact hsn
    refine Goes.by (T' := T2) (g' := (mkF m 90 #[.val (.int x0), .val (.int x1), .val (.int x2), .val (.long r), .second, .val (.long a), .second, .val (.long b), .second, .val (.double rd), .second, .val (.double ad), .second, .val (.double bd), .second, .val (.double (own_m SS)), .second, .val (.double (own_m SS)), .second, .val (.long sv), .second, .unset, .unset, .unset, .unset] [])) (fun _ k => XS.lstore X2.here hx rfl (hb hby at_88) rfl (l' := #[.val (.int x0), .val (.int x1), .val (.int x2), .val (.long r), .second, .val (.long a), .second, .val (.long b), .second, .val (.double rd), .second, .val (.double ad), .second, .val (.double bd), .second, .val (.double (own_m SS)), .second, .val (.double (own_m SS)), .second, .val (.long sv), .second, .unset, .unset, .unset, .unset]) rfl k) ?_
    refine Goes.by (T' := T2) (g' := (mkF m 92 #[.val (.int x0), .val (.int x1), .val (.int x2), .val (.long r), .second, .val (.long a), .second, .val (.long b), .second, .val (.double rd), .second, .val (.double ad), .second, .val (.double bd), .second, .val (.double (own_m SS)), .second, .val (.double (own_m SS)), .second, .val (.long sv), .second, .unset, .unset, .unset, .unset] [(.long sv)])) (fun _ k => XS.lload X2.here hx rfl (hb hby at_90) rfl k) ?_
    refine Goes.by (T' := T2) (g' := (mkF m 93 #[.val (.int x0), .val (.int x1), .val (.int x2), .val (.long r), .second, .val (.long a), .second, .val (.long b), .second, .val (.double rd), .second, .val (.double ad), .second, .val (.double bd), .second, .val (.double (own_m SS)), .second, .val (.double (own_m SS)), .second, .val (.long sv), .second, .unset, .unset, .unset, .unset] [(.long (0 : Int64)), (.long sv)])) (fun _ k => XS.lconst X2.here hx rfl (hb hby at_92)  k) ?_
    have hsv : (0 : Int64).toInt < sv.toInt := by rw [e3, show (0 : Int64).toInt = 0 from by decide]; omega
    refine Goes.by (T' := T2) (g' := (mkF m 94 #[.val (.int x0), .val (.int x1), .val (.int x2), .val (.long r), .second, .val (.long a), .second, .val (.long b), .second, .val (.double rd), .second, .val (.double ad), .second, .val (.double bd), .second, .val (.double (own_m SS)), .second, .val (.double (own_m SS)), .second, .val (.long sv), .second, .unset, .unset, .unset, .unset] [(.int (1 : Int32))])) (fun _ k => XS.lcmpS X2.here hx rfl (hb hby at_93) rfl (cmpL_gtI hsv) k) ?_
    refine Goes.by (T' := T2) (g' := (mkF m 112 #[.val (.int x0), .val (.int x1), .val (.int x2), .val (.long r), .second, .val (.long a), .second, .val (.long b), .second, .val (.double rd), .second, .val (.double ad), .second, .val (.double bd), .second, .val (.double (own_m SS)), .second, .val (.double (own_m SS)), .second, .val (.long sv), .second, .unset, .unset, .unset, .unset] [])) (fun _ k => XS.ifYes X2.here hx rfl (pc0 := 94) (pc' := 112) rfl (hb hby at_94) rfl (by decide) (by decide) (by decide) k) ?_
    refine Goes.by (T' := T2) (g' := (mkF m 114 #[.val (.int x0), .val (.int x1), .val (.int x2), .val (.long r), .second, .val (.long a), .second, .val (.long b), .second, .val (.double rd), .second, .val (.double ad), .second, .val (.double bd), .second, .val (.double (own_m SS)), .second, .val (.double (own_m SS)), .second, .val (.long sv), .second, .unset, .unset, .unset, .unset] [(.long sv)])) (fun _ k => XS.lload X2.here hx rfl (hb hby at_112) rfl k) ?_
    obtain ⟨sd, q_sd⟩ : ∃ zz, FP.l2d sv = zz := ⟨_, rfl⟩
    refine Goes.by (T' := T2) (g' := (mkF m 115 #[.val (.int x0), .val (.int x1), .val (.int x2), .val (.long r), .second, .val (.long a), .second, .val (.long b), .second, .val (.double rd), .second, .val (.double ad), .second, .val (.double bd), .second, .val (.double (own_m SS)), .second, .val (.double (own_m SS)), .second, .val (.long sv), .second, .unset, .unset, .unset, .unset] [(.double sd)])) (fun _ k => XS.l2dS X2.here hx rfl (hb hby at_114) rfl q_sd k) ?_
    have DD : Core.DInt (sn : Int) sd := by rw [← e3]; exact DInt_l2d q_sd (by rw [e3]; omega)
    refine Goes.by (T' := T2) (g' := (mkF m 117 #[.val (.int x0), .val (.int x1), .val (.int x2), .val (.long r), .second, .val (.long a), .second, .val (.long b), .second, .val (.double rd), .second, .val (.double ad), .second, .val (.double bd), .second, .val (.double (own_m SS)), .second, .val (.double (own_m SS)), .second, .val (.long sv), .second, .val (.double sd), .second, .unset, .unset] [])) (fun _ k => XS.dstore X2.here hx rfl (hb hby at_115) rfl (l' := #[.val (.int x0), .val (.int x1), .val (.int x2), .val (.long r), .second, .val (.long a), .second, .val (.long b), .second, .val (.double rd), .second, .val (.double ad), .second, .val (.double bd), .second, .val (.double (own_m SS)), .second, .val (.double (own_m SS)), .second, .val (.long sv), .second, .val (.double sd), .second, .unset, .unset]) rfl k) ?_
    refine Goes.by (T' := T2) (g' := (mkF m 119 #[.val (.int x0), .val (.int x1), .val (.int x2), .val (.long r), .second, .val (.long a), .second, .val (.long b), .second, .val (.double rd), .second, .val (.double ad), .second, .val (.double bd), .second, .val (.double (own_m SS)), .second, .val (.double (own_m SS)), .second, .val (.long sv), .second, .val (.double sd), .second, .unset, .unset] [(.double (own_m SS))])) (fun _ k => XS.dload X2.here hx rfl (hb hby at_117) rfl k) ?_
    refine Goes.by (T' := T2) (g' := (mkF m 122 #[.val (.int x0), .val (.int x1), .val (.int x2), .val (.long r), .second, .val (.long a), .second, .val (.long b), .second, .val (.double rd), .second, .val (.double ad), .second, .val (.double bd), .second, .val (.double (own_m SS)), .second, .val (.double (own_m SS)), .second, .val (.long sv), .second, .val (.double sd), .second, .unset, .unset] [(.double (4786511204640096256 : UInt64)), (.double (own_m SS))])) (X2.ldc2DoubleC hx hown (mvT hZ (hw _ (List.mem_of_getElem? (i := 9) rfl))) (g := (mkF m 119 #[.val (.int x0), .val (.int x1), .val (.int x2), .val (.long r), .second, .val (.long a), .second, .val (.long b), .second, .val (.double rd), .second, .val (.double ad), .second, .val (.double bd), .second, .val (.double (own_m SS)), .second, .val (.double (own_m SS)), .second, .val (.long sv), .second, .val (.double sd), .second, .unset, .unset] [(.double (own_m SS))])) rfl (hb hby at_119)) ?_
    obtain ⟨X, Y1, Y2, ZX, ZY1, ZY2, l1, l2⟩ := own_last DD (by omega) (by omega) DN rfl rfl rfl
    obtain ⟨x, q_x⟩ : ∃ zz, FP.dmul (own_m SS) (4786511204640096256 : UInt64) = zz := ⟨_, rfl⟩
    refine Goes.by (T' := T2) (g' := (mkF m 123 #[.val (.int x0), .val (.int x1), .val (.int x2), .val (.long r), .second, .val (.long a), .second, .val (.long b), .second, .val (.double rd), .second, .val (.double ad), .second, .val (.double bd), .second, .val (.double (own_m SS)), .second, .val (.double (own_m SS)), .second, .val (.long sv), .second, .val (.double sd), .second, .unset, .unset] [(.double x)])) (fun _ k => XS.dmulS X2.here hx rfl (hb hby at_122) rfl (by rw [q_x]; exact (q_x ▸ ZX.nn)) q_x k) ?_
    rw [q_x] at ZX
    refine Goes.by (T' := T2) (g' := (mkF m 125 #[.val (.int x0), .val (.int x1), .val (.int x2), .val (.long r), .second, .val (.long a), .second, .val (.long b), .second, .val (.double rd), .second, .val (.double ad), .second, .val (.double bd), .second, .val (.double (own_m SS)), .second, .val (.double (own_m SS)), .second, .val (.long sv), .second, .val (.double sd), .second, .val (.double x), .second] [])) (fun _ k => XS.dstore X2.here hx rfl (hb hby at_123) rfl (l' := #[.val (.int x0), .val (.int x1), .val (.int x2), .val (.long r), .second, .val (.long a), .second, .val (.long b), .second, .val (.double rd), .second, .val (.double ad), .second, .val (.double bd), .second, .val (.double (own_m SS)), .second, .val (.double (own_m SS)), .second, .val (.long sv), .second, .val (.double sd), .second, .val (.double x), .second]) rfl k) ?_
    refine Goes.by (T' := T2) (g' := (mkF m 127 #[.val (.int x0), .val (.int x1), .val (.int x2), .val (.long r), .second, .val (.long a), .second, .val (.long b), .second, .val (.double rd), .second, .val (.double ad), .second, .val (.double bd), .second, .val (.double (own_m SS)), .second, .val (.double (own_m SS)), .second, .val (.long sv), .second, .val (.double sd), .second, .val (.double x), .second] [(.double x)])) (fun _ k => XS.dload X2.here hx rfl (hb hby at_125) rfl k) ?_
    refine Goes.by (T' := T2) (g' := (mkF m 129 #[.val (.int x0), .val (.int x1), .val (.int x2), .val (.long r), .second, .val (.long a), .second, .val (.long b), .second, .val (.double rd), .second, .val (.double ad), .second, .val (.double bd), .second, .val (.double (own_m SS)), .second, .val (.double (own_m SS)), .second, .val (.long sv), .second, .val (.double sd), .second, .val (.double x), .second] [(.double sd), (.double x)])) (fun _ k => XS.dload X2.here hx rfl (hb hby at_127) rfl k) ?_
    refine Goes.by (T' := T2) (g' := (mkF m 132 #[.val (.int x0), .val (.int x1), .val (.int x2), .val (.long r), .second, .val (.long a), .second, .val (.long b), .second, .val (.double rd), .second, .val (.double ad), .second, .val (.double bd), .second, .val (.double (own_m SS)), .second, .val (.double (own_m SS)), .second, .val (.long sv), .second, .val (.double sd), .second, .val (.double x), .second] [(.double (4607182418791010209 : UInt64)), (.double sd), (.double x)])) (X2.ldc2DoubleC hx hown (mvT hZ (hw _ (List.mem_of_getElem? (i := 10) rfl))) (g := (mkF m 129 #[.val (.int x0), .val (.int x1), .val (.int x2), .val (.long r), .second, .val (.long a), .second, .val (.long b), .second, .val (.double rd), .second, .val (.double ad), .second, .val (.double bd), .second, .val (.double (own_m SS)), .second, .val (.double (own_m SS)), .second, .val (.long sv), .second, .val (.double sd), .second, .val (.double x), .second] [(.double sd), (.double x)])) rfl (hb hby at_129)) ?_
    obtain ⟨y1, q_y1⟩ : ∃ zz, FP.dmul sd (4607182418791010209 : UInt64) = zz := ⟨_, rfl⟩
    refine Goes.by (T' := T2) (g' := (mkF m 133 #[.val (.int x0), .val (.int x1), .val (.int x2), .val (.long r), .second, .val (.long a), .second, .val (.long b), .second, .val (.double rd), .second, .val (.double ad), .second, .val (.double bd), .second, .val (.double (own_m SS)), .second, .val (.double (own_m SS)), .second, .val (.long sv), .second, .val (.double sd), .second, .val (.double x), .second] [(.double y1), (.double x)])) (fun _ k => XS.dmulS X2.here hx rfl (hb hby at_132) rfl (by rw [q_y1]; exact (q_y1 ▸ ZY1.nn)) q_y1 k) ?_
    rw [q_y1] at ZY1
    obtain ⟨cu, hu, hm⟩ := ZX.cmp_ge ZY1 (Int.ofNat_le.mpr l1) .l
    refine Goes.by (T' := T2) (g' := (mkF m 134 #[.val (.int x0), .val (.int x1), .val (.int x2), .val (.long r), .second, .val (.long a), .second, .val (.long b), .second, .val (.double rd), .second, .val (.double ad), .second, .val (.double bd), .second, .val (.double (own_m SS)), .second, .val (.double (own_m SS)), .second, .val (.long sv), .second, .val (.double sd), .second, .val (.double x), .second] [(.int cu)])) (fun _ k => XS.dcmpS X2.here hx rfl (hb hby at_133) rfl hu k) ?_
    refine Goes.by (T' := T2) (g' := (mkF m 137 #[.val (.int x0), .val (.int x1), .val (.int x2), .val (.long r), .second, .val (.long a), .second, .val (.long b), .second, .val (.double rd), .second, .val (.double ad), .second, .val (.double bd), .second, .val (.double (own_m SS)), .second, .val (.double (own_m SS)), .second, .val (.long sv), .second, .val (.double sd), .second, .val (.double x), .second] [])) (fun _ k => XS.ifNo X2.here hx rfl (hb hby at_134) rfl ((if0 _ _).trans (flt hm).1) k) ?_
    refine Goes.by (T' := T2) (g' := (mkF m 139 #[.val (.int x0), .val (.int x1), .val (.int x2), .val (.long r), .second, .val (.long a), .second, .val (.long b), .second, .val (.double rd), .second, .val (.double ad), .second, .val (.double bd), .second, .val (.double (own_m SS)), .second, .val (.double (own_m SS)), .second, .val (.long sv), .second, .val (.double sd), .second, .val (.double x), .second] [(.double x)])) (fun _ k => XS.dload X2.here hx rfl (hb hby at_137) rfl k) ?_
    refine Goes.by (T' := T2) (g' := (mkF m 141 #[.val (.int x0), .val (.int x1), .val (.int x2), .val (.long r), .second, .val (.long a), .second, .val (.long b), .second, .val (.double rd), .second, .val (.double ad), .second, .val (.double bd), .second, .val (.double (own_m SS)), .second, .val (.double (own_m SS)), .second, .val (.long sv), .second, .val (.double sd), .second, .val (.double x), .second] [(.double sd), (.double x)])) (fun _ k => XS.dload X2.here hx rfl (hb hby at_139) rfl k) ?_
    refine Goes.by (T' := T2) (g' := (mkF m 144 #[.val (.int x0), .val (.int x1), .val (.int x2), .val (.long r), .second, .val (.long a), .second, .val (.long b), .second, .val (.double rd), .second, .val (.double ad), .second, .val (.double bd), .second, .val (.double (own_m SS)), .second, .val (.double (own_m SS)), .second, .val (.long sv), .second, .val (.double sd), .second, .val (.double x), .second] [(.double (4607182418804521008 : UInt64)), (.double sd), (.double x)])) (X2.ldc2DoubleC hx hown (mvT hZ (hw _ (List.mem_of_getElem? (i := 11) rfl))) (g := (mkF m 141 #[.val (.int x0), .val (.int x1), .val (.int x2), .val (.long r), .second, .val (.long a), .second, .val (.long b), .second, .val (.double rd), .second, .val (.double ad), .second, .val (.double bd), .second, .val (.double (own_m SS)), .second, .val (.double (own_m SS)), .second, .val (.long sv), .second, .val (.double sd), .second, .val (.double x), .second] [(.double sd), (.double x)])) rfl (hb hby at_141)) ?_
    obtain ⟨y2, q_y2⟩ : ∃ zz, FP.dmul sd (4607182418804521008 : UInt64) = zz := ⟨_, rfl⟩
    refine Goes.by (T' := T2) (g' := (mkF m 145 #[.val (.int x0), .val (.int x1), .val (.int x2), .val (.long r), .second, .val (.long a), .second, .val (.long b), .second, .val (.double rd), .second, .val (.double ad), .second, .val (.double bd), .second, .val (.double (own_m SS)), .second, .val (.double (own_m SS)), .second, .val (.long sv), .second, .val (.double sd), .second, .val (.double x), .second] [(.double y2), (.double x)])) (fun _ k => XS.dmulS X2.here hx rfl (hb hby at_144) rfl (by rw [q_y2]; exact (q_y2 ▸ ZY2.nn)) q_y2 k) ?_
    rw [q_y2] at ZY2
    obtain ⟨ct, ht, hk⟩ := ZX.cmp_le ZY2 (Int.ofNat_le.mpr l2) .g
    refine Goes.by (T' := T2) (g' := (mkF m 146 #[.val (.int x0), .val (.int x1), .val (.int x2), .val (.long r), .second, .val (.long a), .second, .val (.long b), .second, .val (.double rd), .second, .val (.double ad), .second, .val (.double bd), .second, .val (.double (own_m SS)), .second, .val (.double (own_m SS)), .second, .val (.long sv), .second, .val (.double sd), .second, .val (.double x), .second] [(.int ct)])) (fun _ k => XS.dcmpS X2.here hx rfl (hb hby at_145) rfl ht k) ?_
    refine Goes.by (T' := T2) (g' := (mkF m 149 #[.val (.int x0), .val (.int x1), .val (.int x2), .val (.long r), .second, .val (.long a), .second, .val (.long b), .second, .val (.double rd), .second, .val (.double ad), .second, .val (.double bd), .second, .val (.double (own_m SS)), .second, .val (.double (own_m SS)), .second, .val (.long sv), .second, .val (.double sd), .second, .val (.double x), .second] [])) (fun _ k => XS.ifNo X2.here hx rfl (hb hby at_146) rfl ((if0 _ _).trans (flt hk).2.2.1) k) ?_
    refine Goes.by (T' := T2) (g' := (mkF m 150 #[.val (.int x0), .val (.int x1), .val (.int x2), .val (.long r), .second, .val (.long a), .second, .val (.long b), .second, .val (.double rd), .second, .val (.double ad), .second, .val (.double bd), .second, .val (.double (own_m SS)), .second, .val (.double (own_m SS)), .second, .val (.long sv), .second, .val (.double sd), .second, .val (.double x), .second] [(.int (1 : Int32))])) (fun _ k => XS.iconst X2.here hx rfl (hb hby at_149)  k) ?_
    refine Goes.by (T' := T2) (g' := (mkF m 154 #[.val (.int x0), .val (.int x1), .val (.int x2), .val (.long r), .second, .val (.long a), .second, .val (.long b), .second, .val (.double rd), .second, .val (.double ad), .second, .val (.double bd), .second, .val (.double (own_m SS)), .second, .val (.double (own_m SS)), .second, .val (.long sv), .second, .val (.double sd), .second, .val (.double x), .second] [(.int (1 : Int32))])) (fun _ k => XS.goto X2.here hx rfl (pc0 := 150) (pc' := 154) rfl (hb hby at_150) (by decide) (by decide) k) ?_
    exact outZ X2 hx hlk hret (hb hby at_154) (by exact ⟨rfl, N0⟩) (by decide) (by decide)
set_option maxRecDepth 65536 in
set_option maxHeartbeats 40000000 in
theorem comes_1 {Post : Tables → Env → Array Value → State → Outcome → State → Prop} (hpost : ∀ tb e args s v u, (limb_1_1.after args s (.returned v) u = true ∧ limb_1_2.after args s (.returned v) u = true ∧ True) → FrameEnd s (.returned v) u (Jvm.fieldLocs frame_1_writes args s ++ Jvm.arrayLocs frame_1_arrays args s ++ Jvm.staticLocs frame_1_statics s) 0 0 → Post tb e args s (.returned v) u) :
    ArmFor flags0 classFile x code maxLocals ret World_1 tables_1 room_1 Calls_1 rest_1 Pre_1 Post := by
  intro l hfl _ _ p e ha hc hk s m args below hf hA hF happ hP
  obtain ⟨hcalls, hrest, hpre⟩ := hP
  obtain ⟨-, -, -, hnamed, -, -, -, hat⟩ := (Spec.applies_iff hf).mp happ
  obtain ⟨hg, hn⟩ := and_e (Cond.before_iff.mp (show (Jvm.Cond.and given_1 narrow_1).before args s = true from hpre))
  obtain ⟨g0, t0⟩ := and_e hg
  obtain ⟨g1, t1⟩ := and_e t0
  obtain ⟨g2, t2⟩ := and_e t1
  obtain ⟨w0, w1, w2, rfl⟩ : ∃ w0 w1 w2 : Value, args = #[w0, w1, w2] := by
    have hs : args.size = 3 := by simpa [Cond.value, given_1] using g0
    obtain ⟨L⟩ := args
    match L, hs with
    | [w0, w1, w2], _ => exact ⟨w0, w1, w2, rfl⟩
  have hw := fun d (hd : d ∈ tables_1) => atoms_spec (ws := Jvm.Cond.code x code maxLocals ret :: tables_1) hat d (List.mem_cons_of_mem _ hd)
  obtain ⟨i0, e0⟩ := is_v g1
  obtain rfl : w0 = (.int i0) := Option.some.inj e0
  obtain ⟨i1, e1⟩ := is_v g2
  obtain rfl : w1 = (.int i1) := Option.some.inj e1
  obtain ⟨i2, e2⟩ := is_v t2
  obtain rfl : w2 = (.int i2) := Option.some.inj e2
  obtain ⟨n, o, h1, h2, h3, _, L, rfl, ⟨rfl, N⟩, hq⟩ := rm_law l s _ hw i0 i1 i2 s.heap s.heap.size (Nat.le_refl _)  p e ha hc hk s m _ below hf ((Spec.applies_iff_loose hf).mp happ).1 ⟨rfl, State.Warmed39.refl s, rfl⟩ trivial
  refine ⟨n, _, h1, h2, h3, hpost _ _ _ _ _ _ ⟨Cond.after_iff.mpr rfl, Cond.after_iff.mpr (eq_i res_at (Term.int_eval (1)) rfl), trivial⟩ ⟨hq.1, hq.2.1, (hq.2.2.sift fun y hy => Or.inr (N y hy)).mono (by decide) (by decide)⟩⟩
theorem main_1_1 : Claimed_1_1 := comes_1 fun _ _ _ _ _ _ h hF => ⟨h.1, hF⟩
theorem main_1_2 : Claimed_1_2 := comes_1 fun _ _ _ _ _ _ h hF => ⟨h.2.1, hF⟩
end Jvm.Pilot.@@N@@
namespace Jvm.Pilot.@@N@@
open Jvm Jvm.ClassFile Sem Op Lib Jvm.Free Jvm.Stand Jvm.Pilot.@@N@@.Jvm.D
/-! MADE BY PROGRAM (witnessworld.py) out of the Statement's table words and the real class files: 9 classes; the members and pool entries that the words name. The judged class is class 1, her method 1. -/
namespace start1
open Jvm.ClassFile
def u (s : String) : CpInfo := .utf8 (stringToUtf16 s)
/-- a pool by its gaps: so many unusable entries, then the entry; so many at the end -/
def gap : Nat → List CpInfo → List CpInfo
  | 0, r => r
  | n + 1, r => .unusable :: gap n r
def poolList (es : List (Nat × CpInfo)) (last : Nat) : List CpInfo := es.foldr (fun e r => gap e.1 (e.2 :: r)) (gap last [])
def pool (es : List (Nat × CpInfo)) (last : Nat) : Array CpInfo := ⟨poolList es last⟩
def fileOf (pool : Array CpInfo) (this : Nat) (attrs : Array Attribute := #[]) (ms : Array MethodInfo := #[]) (fl : Nat := 33) (sup : Nat := 0) (ifs : Array Nat := #[]) (fds : Array FieldInfo := #[]) : ClassFile where
  minorVersion := 0
  majorVersion := 65
  constantPool := pool
  accessFlags := fl
  thisClass := this
  superClass := sup
  interfaces := ifs
  fields := fds
  methods := ms
  attributes := attrs
def plain (name : String) (sup : Option ClassId) : Class where
  name := name
  kind := .ordinary
  loader := none
  accessFlags := 33
  super := sup
  interfaces := #[]
  cf := none
  fields := #[]
  methods := #[]
  instanceTypes := #[]
  staticTypes := #[]
  resolved := #[]
  callSites := []
  init := .initialized
  statics := none
  mirror := none

def pool0 : Array CpInfo := pool [(5, u "<init>"), (0, u "()V"), (1, .class_ 10), (1, u "java/lang/Object")] 113

def k0m0 : Method := { name := "<init>", desc := "()V", sig := { parameters := [], returnType := none }, accessFlags := 1, code := none }
/-- java/lang/Object -/
def k0 : Class := { plain "java/lang/Object" none with
  accessFlags := 33
  interfaces := #[]
  cf := some (fileOf pool0 8 #[] #[{ accessFlags := 1, nameIndex := 5, descriptorIndex := 6, attributes := #[] }] 33 0 #[] #[])
  fields := #[]
  methods := #[k0m0]
  instanceTypes := #[]
  staticTypes := #[]
  resolved := Array.replicate 124 none
  statics := none }

def pool1 : Array CpInfo := pool [(2, .class_ 4), (1, u "java/lang/Object"), (0, u "<init>"), (0, u "()V"), (0, .integer 1048575), (0, .long 2147483647), (1, .methodref 11 12), (0, .class_ 13), (0, .nameAndType 14 15), (0, u "com/example/ample_crowd/amplecrowd/lbs/CrossingSweep"), (0, u "margin"), (0, u "(DDD)D"), (2, .double 4503599627370496), (1, .double 4786511204640096256), (1, .double 4607182418791010209), (1, .double 4607182418804521008), (1, .class_ 27), (0, u "com/example/ample_crowd/amplecrowd/lbs/CrossingSweepMarginPinLaw"), (2, u "law"), (0, u "(III)Z")] 3

def k1m0 : Method := { name := "<init>", desc := "()V", sig := { parameters := [], returnType := none }, accessFlags := 2, code := none }
def k1c1 : Code := { maxStack := 6, maxLocals := 25, code := code, exceptionTable := #[], attributes := #[] }
def k1m1 : Method := { name := "law", desc := "(III)Z", sig := { parameters := [.int, .int, .int], returnType := some .boolean }, accessFlags := 9, code := some k1c1 }
/-- com/example/ample_crowd/amplecrowd/lbs/CrossingSweepMarginPinLaw -/
def k1 : Class := { plain "com/example/ample_crowd/amplecrowd/lbs/CrossingSweepMarginPinLaw" (some 0) with
  accessFlags := 49
  interfaces := #[]
  cf := some (fileOf pool1 26 #[] #[{ accessFlags := 2, nameIndex := 5, descriptorIndex := 6, attributes := #[] }, { accessFlags := 9, nameIndex := 30, descriptorIndex := 31, attributes := #[] }] 49 2 #[] #[])
  fields := #[]
  methods := #[k1m0, k1m1]
  instanceTypes := #[]
  staticTypes := #[]
  resolved := Array.replicate 35 none
  statics := none }

def pool2 : Array CpInfo := pool [(2, .class_ 4), (1, u "java/lang/Object"), (0, u "<init>"), (0, u "()V"), (0, .class_ 8), (0, u "com/example/ample_crowd/amplecrowd/lbs/CrossingSweep"), (0, .double 4427486594234968593), (3, .double 4503599627370496), (2, .class_ 18), (1, u "com/example/ample_crowd/amplecrowd/lbs/CrossingSweep$Crossings"), (18, u "ROUNDING"), (0, u "D"), (3, u "margin"), (0, u "(DDD)D")] 9

def k2m0 : Method := { name := "<init>", desc := "()V", sig := { parameters := [], returnType := none }, accessFlags := 2, code := none }
def k2c1 : Code := { maxStack := 6, maxLocals := 6, code := prog_12_method_2_code, exceptionTable := #[], attributes := #[] }
def k2m1 : Method := { name := "margin", desc := "(DDD)D", sig := { parameters := [.double, .double, .double], returnType := some .double }, accessFlags := 8, code := some k2c1 }
/-- com/example/ample_crowd/amplecrowd/lbs/CrossingSweep -/
def k2 : Class := { plain "com/example/ample_crowd/amplecrowd/lbs/CrossingSweep" (some 0) with
  accessFlags := 48
  interfaces := #[]
  cf := some (fileOf pool2 7 #[.nestMembers #[16]] #[{ accessFlags := 2, nameIndex := 5, descriptorIndex := 6, attributes := #[] }, { accessFlags := 8, nameIndex := 42, descriptorIndex := 43, attributes := #[] }] 48 2 #[] #[{ accessFlags := 24, nameIndex := 37, descriptorIndex := 38, attributes := #[] }])
  fields := #[{ name := "ROUNDING", type := .double, accessFlags := 24, slot := 0, constantValue := 0 }]
  methods := #[k2m0, k2m1]
  instanceTypes := #[]
  staticTypes := #[.double]
  resolved := Array.replicate 53 none
  statics := none }

def pool3 : Array CpInfo := pool [(1, u "java/lang/Cloneable"), (0, .class_ 1), (0, u "java/lang/Object"), (0, .class_ 3)] 3

/-- java/lang/Cloneable -/
def k3 : Class := { plain "java/lang/Cloneable" (some 0) with
  accessFlags := 1537
  interfaces := #[]
  cf := some (fileOf pool3 2 #[] #[] 1537 4 #[] #[])
  fields := #[]
  methods := #[]
  instanceTypes := #[]
  staticTypes := #[]
  resolved := Array.replicate 8 none
  statics := none }

def pool4 : Array CpInfo := pool [(1, u "java/io/Serializable"), (0, .class_ 1), (0, u "java/lang/Object"), (0, .class_ 3)] 3

/-- java/io/Serializable -/
def k4 : Class := { plain "java/io/Serializable" (some 0) with
  accessFlags := 1537
  interfaces := #[]
  cf := some (fileOf pool4 2 #[] #[] 1537 4 #[] #[])
  fields := #[]
  methods := #[]
  instanceTypes := #[]
  staticTypes := #[]
  resolved := Array.replicate 8 none
  statics := none }

/-- the primitive byte -/
def k5 : Class := { plain "byte" none with kind := .primitive 'B', accessFlags := 0x411 }
/-- [B -/
def k6 : Class := { plain "[B" (some 0) with kind := .array 5 .byte, interfaces := #[3, 4], accessFlags := 1041 }

/-- the primitive int -/
def k7 : Class := { plain "int" none with kind := .primitive 'I', accessFlags := 0x411 }
/-- [I -/
def k8 : Class := { plain "[I" (some 0) with kind := .array 7 .int, interfaces := #[3, 4], accessFlags := 1041 }

def heap : Heap := #[]
def classes : Array Class := #[k0, k1, k2, k3, k4, k5, k6, k7, k8]
def interned : List (Array UInt16 × Addr) := []
def slotsUsed : Nat := 0
def theMethod : MethodId := ⟨1, 1⟩
def args0 : Array Value := #[.int 5, .int 5, .int 5]
def aboutOver (below : List Frame) : State where
  vm := { classes := classes, interned := interned.toArray }
  heap := heap
  slotsUsed := slotsUsed
  threads := #[{ frames := .invoking theMethod args0 :: below }]
def below0 : List Frame := [.native { method := ⟨0, 0⟩, args := #[] }]
def about1 : State := aboutOver below0
def p0 : Program := .bare "" "" ""
def e0 : Env := launch0.env 0 0 0
theorem w_frames : about1.frames = Frame.invoking theMethod args0 :: below0 := rfl
set_option maxRecDepth 65536 in
theorem w_args : argsFit about1.vm theMethod args0 = true := by decide +kernel
set_option maxRecDepth 65536 in
theorem w_heap : heapFits about1 = true := by decide +kernel
set_option maxRecDepth 65536 in
theorem w_runnable : about1.curStatus? = some .runnable := by decide +kernel
set_option maxRecDepth 65536 in
theorem w_alone : about1.alone = true := by decide +kernel
set_option maxRecDepth 65536 in
theorem w_named : about1.methodNamed? x = some theMethod := by decide +kernel
set_option maxRecDepth 65536 in
theorem w_hears : about1.hears theMethod below0 = true := by decide +kernel
set_option maxRecDepth 65536 in
theorem w_ripe : about1.ripe theMethod args0 below0 = true := by decide +kernel
theorem w_running : about1.status = .running := rfl
set_option maxRecDepth 65536 in
theorem w_room : about1.hasRoom e0.platform room_1 = true :=
  launch0.hasRoom_least _ room_1 (by decide +kernel) (by decide +kernel) (by decide +kernel) (by decide +kernel) (by decide +kernel) (by decide +kernel)
theorem allAtoms_all (ts : List Jvm.Cond) (a : Array Jvm.Value) (st : Jvm.State) : (allAtoms ts).before a st = ts.all (fun c => c.before a st) := by
  induction ts with
  | nil => rfl
  | cons c t ih =>
    show (Jvm.Cond.and c (allAtoms t)).before a st = _
    rw [Jvm.Cond.before_and, ih, List.all_cons]
def words1 : List Jvm.Cond := Jvm.Cond.code x code maxLocals ret :: tables_1
/-- a 'code' word, met by the world's own term for the bytes: nothing is compared byte by byte -/
theorem code_word {y : MethodName} {bytes : ByteArray} {mx : Nat} {rt : Option FieldType} {a : Array Value} {s : State} {m : MethodId} {meth : Method} {c : Code} (h1 : s.methodNamed? y = some m) (h2 : s.vm.method? m = some meth) (h3 : meth.code = some c) (h4 : c.code = bytes)
    (h5 : (c.maxLocals == mx && c.exceptionTable.isEmpty && decide (c.maxStack ≤ mostOperands) && decide (meth.sig.returnType = rt) && !meth.locks && decide (parseMethodDescriptor y.desc = some meth.sig)) = true) : (Jvm.Cond.code y bytes mx rt).before a s = true := by
  simp only [Bool.and_eq_true, beq_iff_eq, Bool.not_eq_true', decide_eq_true_eq] at h5
  obtain ⟨⟨⟨⟨⟨g1, g2⟩, g3⟩, g4⟩, g5⟩, g6⟩ := h5
  simp [Cond.before, Cond.holds, Cond.value, h1, h2, h3, h4, g1, g2, g3, g4, g5, g6]
def isCode : Jvm.Cond → Bool
  | .code _ _ _ _ => true
  | _ => false
theorem all_split {L : List Jvm.Cond} {P : Jvm.Cond → Bool} (h1 : L.all (fun c => isCode c || P c) = true) (h2 : ∀ c ∈ L.filter isCode, P c = true) : L.all P = true := by
  refine List.all_eq_true.mpr fun c hc => ?_
  have h := List.all_eq_true.mp h1 c hc
  rcases Bool.eq_false_or_eq_true (isCode c) with hi | hi
  · exact h2 c (List.mem_filter.mpr ⟨hc, hi⟩)
  · simpa [hi] using h
set_option maxRecDepth 65536 in
theorem w_c0 : (Jvm.Cond.code x code maxLocals ret).before args0 about1 = true := code_word (m := ⟨1, 1⟩) (meth := k1m1) (c := k1c1) (by decide +kernel) rfl rfl rfl (by decide +kernel)
set_option maxRecDepth 65536 in
theorem w_c1 : (Jvm.Cond.code ({ cls := "com/example/ample_crowd/amplecrowd/lbs/CrossingSweep", name := "margin", desc := "(DDD)D" } : Jvm.MethodName) prog_12_method_2_code (6 : Nat) (Option.some Jvm.ClassFile.FieldType.double)).before args0 about1 = true := code_word (m := ⟨2, 1⟩) (meth := k2m1) (c := k2c1) (by decide +kernel) rfl rfl rfl (by decide +kernel)
def codes1 : List Jvm.Cond := [Jvm.Cond.code x code maxLocals ret, Jvm.Cond.code ({ cls := "com/example/ample_crowd/amplecrowd/lbs/CrossingSweep", name := "margin", desc := "(DDD)D" } : Jvm.MethodName) prog_12_method_2_code (6 : Nat) (Option.some Jvm.ClassFile.FieldType.double)]
set_option maxRecDepth 65536 in
theorem codes_eq : words1.filter isCode = codes1 := rfl
theorem w_codes : ∀ c ∈ words1.filter isCode, c.before args0 about1 = true := by
  rw [codes_eq]
  intro c hc
  simp only [codes1, List.mem_cons, List.not_mem_nil, or_false] at hc
  rcases hc with rfl | rfl
  · exact w_c0
  · exact w_c1
set_option maxRecDepth 65536 in
theorem w_t1 : words1.all (fun c => isCode c || c.before args0 about1) = true := by decide +kernel
theorem w_tables : (allAtoms (Jvm.Cond.code x code maxLocals ret :: tables_1)).before args0 about1 = true := by
  rw [allAtoms_all]
  show words1.all (fun c => c.before args0 about1) = true
  refine all_split ?_ w_codes
  rw [w_t1]
set_option maxRecDepth 65536 in
theorem w_case : (Jvm.Cond.and given_1 narrow_1).before args0 about1 = true := by decide +kernel
theorem w_applies : (headSpec (Jvm.Cond.code x code maxLocals ret :: tables_1) room_1).applies x e0.platform about1 = true :=
  (Spec.applies_iff w_frames).mpr ⟨w_running, w_runnable, w_alone, w_named, w_hears, w_ripe, w_room, w_tables⟩
theorem atStart : AtStart classFile x code maxLocals ret World_1 tables_1 room_1 Calls_1 rest_1 Pre_1 launch0 p0 e0 about1 theMethod args0 below0 :=
  ⟨lists_1, trivial, launch0.admits_env _ _ _, launch0.least_env, fairChoices_fair.cas, fairChoices_fair.clock, w_frames, w_args, w_heap, w_applies, trivial, trivial, w_case⟩
end start1
theorem witness_1 : WitnessClaimed_1 := ⟨start1.p0, start1.e0, start1.about1, start1.theMethod, start1.args0, start1.below0, start1.atStart⟩
end Jvm.Pilot.@@N@@
