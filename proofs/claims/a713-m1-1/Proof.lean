import JvmDerived
import JvmDerived.Pilot.@@N@@Statement
import JvmDerived.Pilot.@@N@@Code
set_option linter.unusedVariables false
set_option linter.unusedSimpArgs false
namespace Jvm.Pilot.@@N@@
open Jvm Jvm.ClassFile Sem Op Lib Jvm.Free Jvm.Stand Jvm.LawKit Jvm.RoadKit Bundle Jvm.Pilot.@@N@@.Jvm.D
section OwnKit
variable {p : Program} {l : Launch} {e : Env} {R : Room} {s : State} {m : MethodId} {args : Array Value} {below : List Frame} {meth : Method} {c : Code} {T : State} {locs : List Loc} {cells slots : Nat} {Z : State} {a0 : Array Value} {h h' : Heap}
/-- the run from t on comes to the method's end, and there Fin holds -/
def own_Run (p : Program) (e : Env) (below : List Frame) (Fin : Outcome → State → Prop) (t : State) : Prop :=
  ∃ s₂ o, Steps p.tables e below t s₂ ∧ s₂.status = .running ∧ Ended s₂ below o ∧ Fin o s₂
variable {Fin : Outcome → State → Prop}
theorem own_go {t t' : State} (st : ∀ target, Steps p.tables e below t' target → Steps p.tables e below t target) (k : own_Run p e below Fin t') : own_Run p e below Fin t := by
  obtain ⟨s₂, o, h1, h2⟩ := k
  exact ⟨s₂, o, st _ h1, h2⟩
def own_End (s : State) (R : Room) (Q : Option Value → Heap → List Loc → Prop) (o : Outcome) (U : State) : Prop :=
  ∃ v L, o = .returned v ∧ Q v U.heap L ∧ FrameEnd s o U L R.cells R.slots
/-- a body's contract: called with these arguments over the heap h0 it returns, and Q says what is left -/
def own_Met (l : Launch) (Z : State) (y : MethodName) (bytes : ByteArray) (maxL : Nat) (ret : Option FieldType) (rm : Room) (as : Array Value) (h0 : Heap) (Q : Option Value → Heap → List Loc → Prop) : Prop :=
  ∀ ws : List Jvm.Cond, MetFree l y (head1 (Jvm.Cond.code y bytes maxL ret :: ws) rm) (fun a U => a = as ∧ Z.Warmed39 U.vm ∧ U.heap = h0) (fun _ _ _ _ _ => True) (fun _ U o U' => own_End U rm Q o U')
theorem own_enter {y : MethodName} {bytes : ByteArray} {maxL : Nat} {ret : Option FieldType} {rm : Room} {as : Array Value} {h0 : Heap} {Q : Option Value → Heap → List Loc → Prop} {g0 : MethodId → JFrame} (hpl : plainFor y = true) (hg0 : ∀ m, entryFrame m as maxL = g0 m)
    (body : ∀ (p : Program) (e : Env) (s : State) (m : MethodId) (below : List Frame) (meth : Method) (c : Code) (T : State), p.tables.exec = Jvm.exec → c.code = bytes → c.maxLocals = maxL → s.vm.findClass y.cls = some m.cls → meth.name = y.name → Z.Warmed39 s.vm → meth.sig.returnType = ret → meth.locks = false →
      Stand p l e rm s m as below meth c T [] 0 0 → T.heap = h0 → own_Run p e below (own_End s rm Q) (T.setTop (g0 m))) : own_Met l Z y bytes maxL ret rm as h0 Q := by
  intro ws
  refine MetFree.of_bodySF hpl hisR ?_
  intro p e s m args below meth c s₁ Bd hml0 hP hK
  obtain ⟨rfl, hZ, hh⟩ := hP
  rw [hg0]
  exact body p e s m below meth c s₁ Bd.exec Bd.bytes hml0 (findClass_of_methodNamed Bd.named) (name_of_methodNamed Bd.named Bd.method).1 hZ Bd.returns Bd.notSynchronized (Stand.of_body Bd) (by rw [← hh, Bd.state]; rfl)
theorem own_ret (X : Stand p l e R s m args below meth c T locs cells slots) {g : JFrame} {v : Option Value} {Q : Option Value → Heap → List Loc → Prop} (hv : meth.sig.returnType = none → v = none) (hlk : meth.locks = false) (hc : cells ≤ R.cells) (hs : slots ≤ R.slots)
    (st : ∀ fs, (∀ (f : JFrame) (acts : List Action), f.method = m → f.locked = none → f.entered = [] → (doReturn e (T.setTop f) acts v).1 = T.setFrames fs) → Steps p.tables e below (T.setTop g) (T.setFrames fs)) (hq : Q v T.heap locs) : own_Run p e below (own_End s R Q) (T.setTop g) := by
  obtain ⟨fs, hr, hrun, hended, hW, hsame⟩ := X.leave (v := v) hv hlk
  exact ⟨_, _, st fs hr, hrun, hended, _, _, rfl, hq, ⟨_, rfl⟩, hW, hsame.mono hc hs⟩
theorem own_retN (X : Stand p l e R s m args below meth c T locs cells slots) (hx : p.tables.exec = Jvm.exec) {t : FieldType} (hret : meth.sig.returnType = some t) (hlk : meth.locks = false) (ht : t = .boolean ∨ t = .byte ∨ t = .char ∨ t = .short) {pc : Nat} {Ls : Array Slot} {z : Int32} {rest : List Value} (hd : decode c.code pc = .ok (.ireturn, 1)) {Q : Option Value → Heap → List Loc → Prop} (hc : cells ≤ R.cells) (hs : slots ≤ R.slots)
    (hq : Q (some (.int (nar t z))) T.heap locs) : own_Run p e below (own_End s R Q) (T.setTop (mkF m pc Ls (.int z :: rest))) :=
  own_ret X (fun q => by rw [hret] at q; cases q) hlk hc hs (fun fs hr => retN X hx hret ht hd hr) hq
theorem own_retI (X : Stand p l e R s m args below meth c T locs cells slots) (hx : p.tables.exec = Jvm.exec) (hret : meth.sig.returnType = some .int) (hlk : meth.locks = false) {pc : Nat} {Ls : Array Slot} {z : Int32} {rest : List Value} (hd : decode c.code pc = .ok (.ireturn, 1)) {Q : Option Value → Heap → List Loc → Prop} (hc : cells ≤ R.cells) (hs : slots ≤ R.slots)
    (hq : Q (some (.int z)) T.heap locs) : own_Run p e below (own_End s R Q) (T.setTop (mkF m pc Ls (.int z :: rest))) :=
  own_ret X (fun q => by rw [hret] at q; cases q) hlk hc hs (fun fs hr => retOut X hx hret rfl (Or.inl ⟨rfl, Or.inl rfl, z, rfl⟩) hd hr) hq
theorem own_retJ (X : Stand p l e R s m args below meth c T locs cells slots) (hx : p.tables.exec = Jvm.exec) (hret : meth.sig.returnType = some .long) (hlk : meth.locks = false) {pc : Nat} {Ls : Array Slot} {z : Int64} {rest : List Value} (hd : decode c.code pc = .ok (.lreturn, 1)) {Q : Option Value → Heap → List Loc → Prop} (hc : cells ≤ R.cells) (hs : slots ≤ R.slots)
    (hq : Q (some (.long z)) T.heap locs) : own_Run p e below (own_End s R Q) (T.setTop (mkF m pc Ls (.long z :: rest))) :=
  own_ret X (fun q => by rw [hret] at q; cases q) hlk hc hs (fun fs hr => retOut X hx hret rfl (Or.inr (Or.inl ⟨rfl, rfl, z, rfl⟩)) hd hr) hq
theorem own_retA (X : Stand p l e R s m args below meth c T locs cells slots) (hx : p.tables.exec = Jvm.exec) {t : FieldType} (hret : meth.sig.returnType = some t) (hlk : meth.locks = false) (ht : t.isReference = true) {pc : Nat} {Ls : Array Slot} {w : Value} (hw : w.isRef = true) {rest : List Value} (hn : narrow t w = w) (hd : decode c.code pc = .ok (.areturn, 1)) {Q : Option Value → Heap → List Loc → Prop} (hc : cells ≤ R.cells) (hs : slots ≤ R.slots)
    (hq : Q (some w) T.heap locs) : own_Run p e below (own_End s R Q) (T.setTop (mkF m pc Ls (w :: rest))) :=
  own_ret X (fun q => by rw [hret] at q; cases q) hlk hc hs (fun fs hr => retOut X hx hret hn (Or.inr (Or.inr (Or.inr (Or.inr ⟨rfl, ht, hw⟩)))) hd hr) hq
theorem own_retV (X : Stand p l e R s m args below meth c T locs cells slots) (hx : p.tables.exec = Jvm.exec) (hret : meth.sig.returnType = none) (hlk : meth.locks = false) {pc : Nat} {Ls : Array Slot} (hd : decode c.code pc = .ok (.return_, 1)) {Q : Option Value → Heap → List Loc → Prop} (hc : cells ≤ R.cells) (hs : slots ≤ R.slots)
    (hq : Q none T.heap locs) : own_Run p e below (own_End s R Q) (T.setTop (mkF m pc Ls [])) :=
  own_ret X (fun _ => rfl) hlk hc hs (fun fs hr => X.returnOut hx hret hd hr) hq
/-! calls -/
theorem own_callS (X : Stand p l e R s m args below meth c T locs cells slots) (hx : p.tables.exec = Jvm.exec) (hZ : Z.Warmed39 s.vm) (eT : T.heap = h) {own : String} (hown : s.vm.findClass own = some m.cls) {index : Nat} (y : MethodName) {bytes : ByteArray} {maxL : Nat} {ret : Option FieldType} {rm : Room} {Q : Option Value → Heap → List Loc → Prop}
    (w1 : (Jvm.Cond.methodLink own index y).before a0 Z = true) (w2 : (Jvm.Cond.static y).before a0 Z = true) (w3 : (Jvm.Cond.initialized y.cls).before a0 Z = true) (w4 : (Jvm.Cond.code y bytes maxL ret).before a0 Z = true) (hy : y.cls ≠ "java/lang/invoke/MethodHandle" ∧ y.cls ≠ "java/lang/invoke/VarHandle")
    (argsL rest : List Value) (hM : own_Met l Z y bytes maxL ret rm argsL.toArray h Q) (hf : rm.frames + 1 ≤ R.frames) (W : Nat) (hl : W + (maxL + 11) + rm.locals ≤ R.locals) (hc : cells + rm.cells ≤ R.cells) (hs : slots + rm.slots ≤ R.slots)
    {g : JFrame} (hg : g.method = m) (hsize : g.locals.size = c.maxLocals) (hlen : ∀ sig, parseMethodDescriptor y.desc = some sig → argsL.length = sig.parameters.length) (hstack : g.stack = argsL.reverse ++ rest) (hW : 2 * g.monitorRoom + (rest.map fun v => v.category).sum ≤ W) (hd : decode c.code g.pc = .ok (.invokestatic index, 3))
    (k : ∀ (v : Option Value) (h' : Heap) (L : List Loc) (T' : State), Q v h' L → Stand p l e R s m args below meth c T' (locs ++ L) (cells + rm.cells) (slots + rm.slots) → T'.heap = h' → own_Run p e below Fin (T'.setTop { g with pc := g.pc + 3, stack := v.toList ++ rest })) : own_Run p e below Fin (T.setTop g) := by
  obtain ⟨v, _, ⟨T', L', k', n'⟩, -, X', ⟨Lc, hQ, l1, y1, z1⟩, st⟩ := Jvm.LawKit.callS X hx (y := y) hown (mvT hZ w1) (mvT hZ w2) (mvT hZ w3) (mvT hZ w4) hy (backOf (W := W) (hM []) hZ w4 w3 hf hl) hg hsize (argsL := argsL) (rest := rest) hlen hstack hW hd (fun _ _ => ⟨rfl, eT, hc, hs⟩)
  dsimp only [Pt.U, Pt.locs, Pt.cells, Pt.slots] at X' l1 y1 z1 st hQ
  subst l1 y1 z1
  exact own_go st (k v T'.heap Lc T' hQ X' rfl)
theorem own_callN (X : Stand p l e R s m args below meth c T locs cells slots) (hx : p.tables.exec = Jvm.exec) (hZ : Z.Warmed39 s.vm) (eT : T.heap = h) {own : String} (hown : s.vm.findClass own = some m.cls) {index : Nat} (y : MethodName) (hy1 : y.name = "<init>") {bytes : ByteArray} {maxL : Nat} {rm : Room} {Q : Option Value → Heap → List Loc → Prop}
    (w1 : (Jvm.Cond.methodLink own index y).before a0 Z = true) (w2 : (Jvm.Cond.instanceMethod y).before a0 Z = true) (w3 : (Jvm.Cond.initialized y.cls).before a0 Z = true) (w4 : (Jvm.Cond.code y bytes maxL none).before a0 Z = true) (hy : y.cls ≠ "java/lang/invoke/MethodHandle" ∧ y.cls ≠ "java/lang/invoke/VarHandle")
    (a : Addr) (argsL rest : List Value) (hM : own_Met l Z y bytes maxL none rm (.ref a :: argsL).toArray h Q) (hf : rm.frames + 1 ≤ R.frames) (W : Nat) (hl : W + (maxL + 11) + rm.locals ≤ R.locals) (hc : cells + rm.cells ≤ R.cells) (hs : slots + rm.slots ≤ R.slots)
    {g : JFrame} (hg : g.method = m) (hsize : g.locals.size = c.maxLocals) (hlen : ∀ sig, parseMethodDescriptor y.desc = some sig → argsL.length = sig.parameters.length) (hstack : g.stack = argsL.reverse ++ .ref a :: rest) (hW : 2 * g.monitorRoom + (rest.map fun v => v.category).sum ≤ W) (hd : decode c.code g.pc = .ok (.invokespecial index, 3))
    (k : ∀ (v : Option Value) (h' : Heap) (L : List Loc) (T' : State), Q v h' L → Stand p l e R s m args below meth c T' (locs ++ L) (cells + rm.cells) (slots + rm.slots) → T'.heap = h' → own_Run p e below Fin (T'.setTop { g with pc := g.pc + 3, stack := v.toList ++ rest })) : own_Run p e below Fin (T.setTop g) := by
  obtain ⟨v, _, ⟨T', L', k', n'⟩, -, X', ⟨Lc, hQ, l1, y1, z1⟩, st⟩ := X.specialBack hx (y := y) hy1 hown (mvT hZ w1) (mvT hZ w2) (mvT hZ w4) hy (backOf (W := W) (hM []) hZ w4 w3 hf hl) hg hsize (Steps.refl _) (a := a) (argsL := argsL) (rest := rest) hlen hstack hW hd (fun _ _ => ⟨rfl, eT, hc, hs⟩)
  dsimp only [Pt.U, Pt.locs, Pt.cells, Pt.slots] at X' l1 y1 z1 st hQ
  subst l1 y1 z1
  exact own_go (fun _ q => st.trans q) (k v T'.heap Lc T' hQ X' rfl)
theorem own_callV (X : Stand p l e R s m args below meth c T locs cells slots) (hx : p.tables.exec = Jvm.exec) (hZ : Z.Warmed39 s.vm) (eT : T.heap = h) {own : String} (hown : s.vm.findClass own = some m.cls) {index : Nat} (y : MethodName) {C : String} {bytes : ByteArray} {maxL : Nat} {ret : Option FieldType} {rm : Room} {Q : Option Value → Heap → List Loc → Prop}
    (w1 : (Jvm.Cond.methodLink own index y).before a0 Z = true) (w5 : (Jvm.Cond.declares y).before a0 Z = true) (w6 : (Jvm.Cond.selects C y y).before a0 Z = true) (w2 : (Jvm.Cond.instanceMethod y).before a0 Z = true) (w3 : (Jvm.Cond.initialized y.cls).before a0 Z = true) (w4 : (Jvm.Cond.code y bytes maxL ret).before a0 Z = true) (hy : y.cls ≠ "java/lang/invoke/MethodHandle" ∧ y.cls ≠ "java/lang/invoke/VarHandle")
    (a : Addr) (E : Exa Z h a C) (argsL rest : List Value) (hM : own_Met l Z y bytes maxL ret rm (.ref a :: argsL).toArray h Q) (hf : rm.frames + 1 ≤ R.frames) (W : Nat) (hl : W + (maxL + 11) + rm.locals ≤ R.locals) (hc : cells + rm.cells ≤ R.cells) (hs : slots + rm.slots ≤ R.slots)
    {g : JFrame} (hg : g.method = m) (hsize : g.locals.size = c.maxLocals) (hlen : ∀ sig, parseMethodDescriptor y.desc = some sig → argsL.length = sig.parameters.length) (hstack : g.stack = argsL.reverse ++ .ref a :: rest) (hW : 2 * g.monitorRoom + (rest.map fun v => v.category).sum ≤ W) (hd : decode c.code g.pc = .ok (.invokevirtual index, 3))
    (k : ∀ (v : Option Value) (h' : Heap) (L : List Loc) (T' : State), Q v h' L → Stand p l e R s m args below meth c T' (locs ++ L) (cells + rm.cells) (slots + rm.slots) → T'.heap = h' → own_Run p e below Fin (T'.setTop { g with pc := g.pc + 3, stack := v.toList ++ rest })) : own_Run p e below Fin (T.setTop g) := by
  obtain ⟨cq, kq, qa, qb, qc⟩ := isOf hZ eT E
  obtain ⟨v, _, ⟨T', L', k', n'⟩, -, X', ⟨Lc, hQ, l1, y1, z1⟩, st⟩ := X.virtualBack hx (y := y) (z := y) hown (mvT hZ w1) (mvT hZ w5) (notFace_of_selects (args := #[]) (mvT hZ w6)) (mvT hZ w6) (mvT hZ w2) hy (backOf (W := W) (hM []) hZ w4 w3 hf hl) qa qc hg hsize (Steps.refl _) (argsL := argsL) (rest := rest) hlen hstack hW hd (fun _ _ => ⟨rfl, eT, hc, hs⟩)
  dsimp only [Pt.U, Pt.locs, Pt.cells, Pt.slots] at X' l1 y1 z1 st hQ
  subst l1 y1 z1
  exact own_go (fun _ q => st.trans q) (k v T'.heap Lc T' hQ X' rfl)
theorem own_initO (X : Stand p l e R s m args below meth c T locs cells slots) (hx : p.tables.exec = Jvm.exec) (hZ : Z.Warmed39 s.vm) (eT : T.heap = h) {own : String} (hown : s.vm.findClass own = some m.cls) {idx : Nat} (w1 : (Jvm.Cond.methodLink own idx Lib.objectInit).before a0 Z = true) (w2 : (Jvm.Cond.instanceMethod Lib.objectInit).before a0 Z = true)
    (w3 : (Jvm.Cond.code Lib.objectInit object_method_1_code 1 none).before a0 Z = true) {g : JFrame} (hg : g.method = m) (hsize : g.locals.size = c.maxLocals) {a : Addr} {rest : List Value} (hs : g.stack = .ref a :: rest) (hd : decode c.code g.pc = .ok (.invokespecial idx, 3))
    (hf : 1 ≤ R.frames) (W : Nat) (hW : 2 * g.monitorRoom + (rest.map fun v => v.category).sum ≤ W) (hl : W + 12 ≤ R.locals)
    (k : ∀ T' : State, Stand p l e R s m args below meth c T' locs cells slots → T'.heap = h → own_Run p e below Fin (T'.setTop { g with pc := g.pc + 3, stack := rest })) : own_Run p e below Fin (T.setTop g) := by
  obtain ⟨T', X', e', st⟩ := initO X hx hZ hown w1 w2 w3 eT hg hsize hs hd hf hW hl
  exact own_go st (k T' X' e')
/-! fields -/
theorem own_getF (X : Stand p l e R s m args below meth c T locs cells slots) (hx : p.tables.exec = Jvm.exec) (hZ : Z.Warmed39 s.vm) (eT : T.heap = h) {own O n d : String} (hown : s.vm.findClass own = some m.cls) {index : Nat} (w : (Jvm.Cond.fieldLink own index O n d).before a0 Z = true)
    {a : Addr} {v : Value} (F : Fld Z h a O n d v) {g : JFrame} (hg : g.method = m) {rest : List Value} (hs : g.stack = .ref a :: rest) (hd : decode c.code g.pc = .ok (.getfield index, 3))
    (k : ∀ T' : State, Stand p l e R s m args below meth c T' locs cells slots → T'.heap = h → own_Run p e below Fin (T'.setTop { g with pc := g.pc + 3, stack := v :: rest })) : own_Run p e below Fin (T.setTop g) := by
  obtain ⟨T', X', e', st⟩ := getF X hx hZ hown (host := "") (Or.inl w) Via.refl eT F hg hs hd
  exact own_go st (k T' X' e')
theorem own_putF (X : Stand p l e R s m args below meth c T locs cells slots) (hx : p.tables.exec = Jvm.exec) (hZ : Z.Warmed39 s.vm) (eT : T.heap = h) {own O n d C : String} (hown : s.vm.findClass own = some m.cls) {index kk : Nat} (ty : FieldType) (w : (Jvm.Cond.fieldLink own index O n d).before a0 Z = true)
    {a : Addr} {v v' old : Value} (F : Fld Z h a O n d old) (E : Exa Z h a C) (L : (Jvm.Cond.lays C O n d).before a0 Z = true ∨ ((Jvm.Cond.laysFinal C O n d).before a0 Z = true ∧ own = O ∧ meth.name = "<init>")) (wi : (Jvm.Cond.instantiable C kk).before a0 Z = true)
    (hty : parseFieldDescriptor d = some ty) (hn : narrow ty v = v') (hf : fits ty v' = true) {g : JFrame} (hg : g.method = m) {rest : List Value} (hs : g.stack = v :: .ref a :: rest) (hd : decode c.code g.pc = .ok (.putfield index, 3))
    (k : ∀ (T' : State) (h' : Heap), Stand p l e R s m args below meth c T' (locs ++ [⟨a, Jvm.RoadKit.slotOf Z O n d⟩]) cells slots → T'.heap = h' → Wr h h' a (Jvm.RoadKit.slotOf Z O n d) v' → own_Run p e below Fin (T'.setTop { g with pc := g.pc + 3, stack := rest })) : own_Run p e below Fin (T.setTop g) := by
  obtain ⟨T', h', X', e', W, st⟩ := putFN X hx hZ hown w Via.refl eT F E L wi hty hn hf hg hs hd
  exact own_go st (k T' h' X' e' W)
/-! fresh objects -/
theorem own_newO (X : Stand p l e R s m args below meth c T locs cells slots) (hx : p.tables.exec = Jvm.exec) (hZ : Z.Warmed39 s.vm) (eT : T.heap = h) {own C : String} {index n : Nat} (hown : s.vm.findClass own = some m.cls) (w : (Jvm.Cond.classLink own index C).before a0 Z = true) (wi : (Jvm.Cond.instantiable C n).before a0 Z = true) (wz : (Jvm.Cond.initialized C).before a0 Z = true)
    {g : JFrame} (hg : g.method = m) (hd : decode c.code g.pc = .ok (.new index, 3)) (hc : cells + 1 ≤ R.cells) (hl : slots + n ≤ R.slots)
    (k : ∀ (b : Addr) (T' : State) (h' : Heap), b = h.size → Stand p l e R s m args below meth c T' locs (cells + 1) (slots + n) → T'.heap = h' → Ext h h' → Exa Z h' b C → (∀ {O nm d : String} {ty : FieldType}, Laid Z a0 C O nm d → parseFieldDescriptor d = some ty → Fld Z h' b O nm d (defaultValue ty)) →
      own_Run p e below Fin (T'.setTop { g with pc := g.pc + 3, stack := .ref b :: g.stack })) : own_Run p e below Fin (T.setTop g) := by
  obtain ⟨T', h', X', e', E, A, D, -, st⟩ := newO X hx hZ hown w wi wz eT hg hd hc hl
  exact own_go st (k h.size T' h' rfl X' e' E A D)
/-! arrays: n places, place k holds f k -/
def own_Arr (Z : State) (h : Heap) (a : Addr) (ty : FieldType) (n : Nat) (f : Nat → Value) : Prop := ∃ cl : Cell, Arr Z h a cl ty ∧ cl.slots.size = n ∧ ∀ k, k < n → cl.slots[k]? = some (f k)
theorem own_Arr.lt {a : Addr} {ty : FieldType} {n : Nat} {f : Nat → Value} (F : own_Arr Z h a ty n f) : a < h.size := by obtain ⟨c, A, -⟩ := F; exact A.lt
theorem own_Arr.ext {a : Addr} {ty : FieldType} {n : Nat} {f : Nat → Value} (F : own_Arr Z h a ty n f) (E : Ext h h') : own_Arr Z h' a ty n f := by obtain ⟨c, A, r⟩ := F; exact ⟨c, A.ext E, r⟩
theorem own_Arr.other {a b : Addr} {sl : Nat} {v : Value} {ty : FieldType} {n : Nat} {f : Nat → Value} (F : own_Arr Z h b ty n f) (W : Wr h h' a sl v) (q : b ≠ a) : own_Arr Z h' b ty n f := by obtain ⟨c, A, r⟩ := F; exact ⟨c, A.other W q, r⟩
theorem own_Arr.keep {a : Addr} {ws : List Addr} {ty : FieldType} {n : Nat} {f : Nat → Value} (F : own_Arr Z h a ty n f) (K : Keep h h' ws) (q : a ∉ ws) : own_Arr Z h' a ty n f := by obtain ⟨c, A, r⟩ := F; exact ⟨c, ⟨K.2.1 a c A.1 q, A.2⟩, r⟩
theorem own_Arr.set {a : Addr} {j : Nat} {v : Value} {ty : FieldType} {n : Nat} {f : Nat → Value} (F : own_Arr Z h a ty n f) (W : Wr h h' a j v) (hj : j < n) : own_Arr Z h' a ty n (fun k => if k = j then v else f k) := by
  obtain ⟨cl, A, r1, r2⟩ := F
  refine ⟨_, A.same W, by rw [sz_set]; exact r1, fun k hk => ?_⟩
  by_cases q : k = j
  · subst q; simp [Cell.setSlot, r1, hj]
  · show (cl.setSlot j v).slots[k]? = some (if k = j then v else f k)
    rw [if_neg q]; exact (Array.getElem?_setIfInBounds_ne (Ne.symm q)).trans (r2 k hk)
theorem own_Arr.congr {a : Addr} {ty : FieldType} {n : Nat} {f f' : Nat → Value} (F : own_Arr Z h a ty n f) (q : ∀ k, k < n → f k = f' k) : own_Arr Z h a ty n f' := by
  obtain ⟨cl, A, r1, r2⟩ := F
  exact ⟨cl, A, r1, fun k hk => by rw [← q k hk]; exact r2 k hk⟩
theorem own_in {cl : Cell} {n : Nat} {j : Int32} (r : cl.slots.size = n) (hj : 0 ≤ j.toInt ∧ j.toInt < n) : ¬ (j < 0 ∨ cl.slots.size ≤ j.toNatClampNeg) := by
  have e0 : (0 : Int32).toInt = 0 := rfl
  simp only [Int32.lt_iff_toInt_lt, Int32.toNatClampNeg, r, e0]; omega
theorem own_idx {n : Nat} {j : Int32} (hj : 0 ≤ j.toInt ∧ j.toInt < n) : j.toNatClampNeg < n := by
  simp only [Int32.toNatClampNeg]; omega
theorem own_newP (X : Stand p l e R s m args below meth c T locs cells slots) (hx : p.tables.exec = Jvm.exec) (hZ : Z.Warmed39 s.vm) (eT : T.heap = h) {aty : ArrayType} (w : (Jvm.Cond.arrayClass (newarray.typeOf aty)).before a0 Z = true) {g : JFrame} (hg : g.method = m) (hd : decode c.code g.pc = .ok (.newarray aty, 2)) {z : Int32} {rest : List Value} (hs : g.stack = .int z :: rest)
    (n cap : Nat) (hn : z.toInt = n) (hcap : n ≤ cap) (hb : cap * 8 ≤ 536870912) (hc : cells + 1 ≤ R.cells) (hl : slots + cap ≤ R.slots) (ad : String) (had : "[" ++ (newarray.typeOf aty).toString = ad)
    (k : ∀ (b : Addr) (T' : State) (h' : Heap), b = h.size → Stand p l e R s m args below meth c T' locs (cells + 1) (slots + cap) → T'.heap = h' → Ext h h' → own_Arr Z h' b (newarray.typeOf aty) n (fun _ => defaultValue (newarray.typeOf aty)) → Exa Z h' b ad →
      own_Run p e below Fin (T'.setTop { g with pc := g.pc + 2, stack := .ref b :: rest })) : own_Run p e below Fin (T.setTop g) := by
  have hz : z.toNatClampNeg = n := by simp only [Int32.toNatClampNeg]; omega
  have e0 : (0 : Int32).toInt = 0 := rfl
  have hz0 : ¬ z < 0 := by rw [Int32.lt_iff_toInt_lt, e0]; omega
  obtain ⟨T', h', cA, X', e', E, A, Ex, st⟩ := newPE X hx hZ w eT hg hd hs (n := z) hz0 (cap := cap) (by omega) hb hc hl had
  exact own_go st (k h.size T' h' rfl X' e' E ⟨_, A, by rw [sz_new]; exact hz, fun i hi => by simp [newA, hz, hi]⟩ Ex)
theorem own_iastore (X : Stand p l e R s m args below meth c T locs cells slots) (hx : p.tables.exec = Jvm.exec) (hZ : Z.Warmed39 s.vm) (eT : T.heap = h) {a : Addr} {n : Nat} {f : Nat → Value} (A : own_Arr Z h a .int n f) {j x : Int32} (hj : 0 ≤ j.toInt ∧ j.toInt < n) {g : JFrame} (hg : g.method = m) {rest : List Value} (hs : g.stack = .int x :: .int j :: .ref a :: rest) (hd : decode c.code g.pc = .ok (.iastore, 1))
    (k : ∀ (T' : State) (h' : Heap), Stand p l e R s m args below meth c T' (locs ++ [⟨a, j.toNatClampNeg⟩]) cells slots → T'.heap = h' → Wr h h' a j.toNatClampNeg (.int x) → own_Arr Z h' a .int n (fun i => if i = j.toNatClampNeg then .int x else f i) → own_Run p e below Fin (T'.setTop { g with pc := g.pc + 1, stack := rest })) : own_Run p e below Fin (T.setTop g) := by
  obtain ⟨cl, A1, r1, r2⟩ := A
  obtain ⟨T', h', X', e', W, st⟩ := stI X hx hZ eT A1 (own_in r1 hj) hg hs hd
  exact own_go st (k T' h' X' e' W (own_Arr.set ⟨cl, A1, r1, r2⟩ W (own_idx hj)))
theorem own_bastore (X : Stand p l e R s m args below meth c T locs cells slots) (hx : p.tables.exec = Jvm.exec) (hZ : Z.Warmed39 s.vm) (eT : T.heap = h) {a : Addr} {n : Nat} {f : Nat → Value} (A : own_Arr Z h a .byte n f) {j x : Int32} (hj : 0 ≤ j.toInt ∧ j.toInt < n) {g : JFrame} (hg : g.method = m) {rest : List Value} (hs : g.stack = .int x :: .int j :: .ref a :: rest) (hd : decode c.code g.pc = .ok (.bastore, 1))
    (k : ∀ (T' : State) (h' : Heap), Stand p l e R s m args below meth c T' (locs ++ [⟨a, j.toNatClampNeg⟩]) cells slots → T'.heap = h' → Wr h h' a j.toNatClampNeg (.int (nar .byte x)) → own_Arr Z h' a .byte n (fun i => if i = j.toNatClampNeg then .int (nar .byte x) else f i) → own_Run p e below Fin (T'.setTop { g with pc := g.pc + 1, stack := rest })) : own_Run p e below Fin (T.setTop g) := by
  obtain ⟨cl, A1, r1, r2⟩ := A
  obtain ⟨T', h', X', e', W, st⟩ := stB X hx hZ eT A1 (own_in r1 hj) hg hs hd
  exact own_go st (k T' h' X' e' W (own_Arr.set ⟨cl, A1, r1, r2⟩ W (own_idx hj)))
theorem own_iaload (X : Stand p l e R s m args below meth c T locs cells slots) (hx : p.tables.exec = Jvm.exec) (hZ : Z.Warmed39 s.vm) (eT : T.heap = h) {a : Addr} {n : Nat} {f : Nat → Value} (A : own_Arr Z h a .int n f) {j : Int32} (v : Int32) (hj : 0 ≤ j.toInt ∧ j.toInt < n) (hv : f j.toNatClampNeg = .int v) {g : JFrame} (hg : g.method = m) {rest : List Value} (hs : g.stack = .int j :: .ref a :: rest) (hd : decode c.code g.pc = .ok (.iaload, 1))
    (k : own_Run p e below Fin (T.setTop { g with pc := g.pc + 1, stack := .int v :: rest })) : own_Run p e below Fin (T.setTop g) := by
  obtain ⟨cl, A1, r1, r2⟩ := A
  exact own_go (X.iaload hx (by rw [eT]; exact A1.1) (State.isArrayOf_alike hZ.alike A1.2.1) A1.2.2 (own_in r1 hj) ((r2 _ (own_idx hj)).trans (by rw [hv])) hg hs hd) k
theorem own_baload (X : Stand p l e R s m args below meth c T locs cells slots) (hx : p.tables.exec = Jvm.exec) (hZ : Z.Warmed39 s.vm) (eT : T.heap = h) {a : Addr} {n : Nat} {f : Nat → Value} (A : own_Arr Z h a .byte n f) {j : Int32} (v : Int32) (hj : 0 ≤ j.toInt ∧ j.toInt < n) (hv : f j.toNatClampNeg = .int v) {g : JFrame} (hg : g.method = m) {rest : List Value} (hs : g.stack = .int j :: .ref a :: rest) (hd : decode c.code g.pc = .ok (.baload, 1))
    (k : own_Run p e below Fin (T.setTop { g with pc := g.pc + 1, stack := .int v :: rest })) : own_Run p e below Fin (T.setTop g) := by
  obtain ⟨cl, A1, r1, r2⟩ := A
  exact own_go (X.baloadBytes hx (by rw [eT]; exact A1.1) (State.isArrayOf_alike hZ.alike A1.2.1) A1.2.2 (own_in r1 hj) ((r2 _ (own_idx hj)).trans (by rw [hv])) hg hs hd) k
theorem own_alen (X : Stand p l e R s m args below meth c T locs cells slots) (hx : p.tables.exec = Jvm.exec) (hZ : Z.Warmed39 s.vm) (eT : T.heap = h) {a : Addr} {ty : FieldType} {n : Nat} {f : Nat → Value} (A : own_Arr Z h a ty n f) (z : Int32) (hz : z.toInt = n) {g : JFrame} (hg : g.method = m) {rest : List Value} (hs : g.stack = .ref a :: rest) (hd : decode c.code g.pc = .ok (.arraylength, 1))
    (k : own_Run p e below Fin (T.setTop { g with pc := g.pc + 1, stack := .int z :: rest })) : own_Run p e below Fin (T.setTop g) := by
  obtain ⟨cl, A1, r1, r2⟩ := A
  have e0 : (0 : Int32).toInt = 0 := rfl
  have hz0 : ¬ z < 0 := by rw [Int32.lt_iff_toInt_lt, e0]; omega
  have q : cl.slots.size.toInt32 = z := len_of (by rw [r1]; simp only [Int32.toNatClampNeg]; omega) hz0
  exact own_go (X.arraylength hx (by rw [eT]; exact A1.1) (State.isArrayOf_alike hZ.alike A1.2.1) hg hs hd) (by rw [q]; exact k)
theorem own_clone (X : Stand p l e R s m args below meth c T locs cells slots) (hx : p.tables.exec = Jvm.exec) (hZ : Z.Warmed39 s.vm) (eT : T.heap = h) {own ad : String} {index : Nat} (hown : s.vm.findClass own = some m.cls)
    (w1 : (Jvm.Cond.methodLink own index ⟨ad, "clone", "()Ljava/lang/Object;"⟩).before a0 Z = true) (w2 : (Jvm.Cond.sameMethod ad "java/lang/Object" "clone" "()Ljava/lang/Object;").before a0 Z = true) (w3 : (Jvm.Cond.native ⟨"java/lang/Object", "clone", "()Ljava/lang/Object;"⟩).before a0 Z = true)
    (w4 : (Jvm.Cond.instanceMethod ⟨"java/lang/Object", "clone", "()Ljava/lang/Object;"⟩).before a0 Z = true) (w5 : (Jvm.Cond.selects ad ⟨ad, "clone", "()Ljava/lang/Object;"⟩ ⟨"java/lang/Object", "clone", "()Ljava/lang/Object;"⟩).before a0 Z = true) (w6 : (Jvm.Cond.castable ad "java/lang/Cloneable").before a0 Z = true)
    {a : Addr} {ty : FieldType} {n : Nat} {f : Nat → Value} (A : own_Arr Z h a ty n f) (E : Exa Z h a ad) (hfit : ∀ i, i < n → fits ty (f i) = true) {g : JFrame} (hg : g.method = m) (hsize : g.locals.size = c.maxLocals) {rest : List Value} (hs : g.stack = .ref a :: rest) (hd : decode c.code g.pc = .ok (.invokevirtual index, 3))
    (hf : 1 ≤ R.frames) (W cap : Nat) (hW : 2 * g.monitorRoom + (rest.map fun v => v.category).sum ≤ W) (hl : W + 14 ≤ R.locals) (hcap : n ≤ cap) (hc : cells + 1 ≤ R.cells) (hsl : slots + cap ≤ R.slots)
    (k : ∀ (b : Addr) (T' : State) (h' : Heap), b = h.size → Stand p l e R s m args below meth c T' locs (cells + 1) (slots + cap) → T'.heap = h' → Ext h h' → own_Arr Z h' b ty n f → Exa Z h' b ad → own_Run p e below Fin (T'.setTop { g with pc := g.pc + 3, stack := .ref b :: rest })) : own_Run p e below Fin (T.setTop g) := by
  obtain ⟨cl, A1, r1, r2⟩ := A
  have FC : FitC Z cl := fitC_of A1 fun i hi v hv => by
    rw [r2 i (by omega)] at hv; cases hv; exact hfit i (by omega)
  obtain ⟨T', h', X', e', ex, A', E', st⟩ := cloneA X hx hZ hown w1 w2 w3 w4 w5 w6 eT A1 E FC hg hsize hs hd hf hW hl (by omega) hc hsl
  exact own_go st (k h.size T' h' rfl X' e' ex ⟨cloneOf cl, A', r1, r2⟩ E')
theorem own_cast (X : Stand p l e R s m args below meth c T locs cells slots) (hx : p.tables.exec = Jvm.exec) (hZ : Z.Warmed39 s.vm) (eT : T.heap = h) {own K C : String} {index : Nat} (hown : s.vm.findClass own = some m.cls) (w : (Jvm.Cond.classLink own index K).before a0 Z = true) {a : Addr} (E : Exa Z h a C) (w2 : (Jvm.Cond.castable C K).before a0 Z = true)
    {g : JFrame} (hg : g.method = m) {rest : List Value} (hs : g.stack = .ref a :: rest) (hd : decode c.code g.pc = .ok (.checkcast index, 3))
    (k : ∀ T' : State, Stand p l e R s m args below meth c T' locs cells slots → T'.heap = h → own_Run p e below Fin (T'.setTop { g with pc := g.pc + 3 })) : own_Run p e below Fin (T.setTop g) := by
  obtain ⟨T', X', e', st⟩ := castY X hx hZ hown w eT (Ins.of_exa E w2) hg hs hd
  exact own_go st (k T' X' e')
/-! constants -/
theorem own_ldc (X : Stand p l e R s m args below meth c T locs cells slots) (hx : p.tables.exec = Jvm.exec) (hZ : Z.Warmed39 s.vm) {own : String} {index : Nat} {v : Int32} (hown : s.vm.findClass own = some m.cls) (w : (Jvm.Cond.constant own index v).before a0 Z = true) {g : JFrame} (hg : g.method = m) (hd : decode c.code g.pc = .ok (.ldc index, 2))
    (k : own_Run p e below Fin (T.setTop { g with pc := g.pc + 2, stack := .int v :: g.stack })) : own_Run p e below Fin (T.setTop g) := own_go (X.ldcInt hx hown (mvT hZ w) hg hd) k
theorem own_ldc2 (X : Stand p l e R s m args below meth c T locs cells slots) (hx : p.tables.exec = Jvm.exec) (hZ : Z.Warmed39 s.vm) {own : String} {index : Nat} {v : Int64} (hown : s.vm.findClass own = some m.cls) (w : (Jvm.Cond.constantLong own index v).before a0 Z = true) {g : JFrame} (hg : g.method = m) (hd : decode c.code g.pc = .ok (.ldc2_w index, 3))
    (k : own_Run p e below Fin (T.setTop { g with pc := g.pc + 3, stack := .long v :: g.stack })) : own_Run p e below Fin (T.setTop g) := own_go (X.ldc2Long hx hown (mvT hZ w) hg hd) k
theorem own_inj {x y : Int32} (q : x.toInt = y.toInt) : x = y := Int32.toInt_inj.mp q
theorem own_injL {x y : Int64} (q : x.toInt = y.toInt) : x = y := Int64.toInt_inj.mp q
end OwnKit
section OwnKit3
variable {p : Program} {l : Launch} {e : Env} {R : Room} {s : State} {m : MethodId} {args : Array Value} {below : List Frame} {meth : Method} {c : Code} {T : State} {locs : List Loc} {cells slots : Nat} {Z : State} {a0 : Array Value} {h h' : Heap} {Fin : Outcome → State → Prop}
/-! fields whose entry the sheet says is resolved -/
theorem own_ready (X : Stand p l e R s m args below meth c T locs cells slots) (hZ : Z.Warmed39 s.vm) {own O n d : String} (hown : s.vm.findClass own = some m.cls) {index : Nat} (w : (Jvm.Cond.fieldRef own index O n d).before a0 Z = true) {cf : ClassId} {k : Class} {i : Nat} {f : Field} (hf : Z.fieldFound? O n d = some (cf, k, i, f)) : T.vm.fieldReady m.cls index cf f := by
  have hU : Z.Warmed39 T.vm := wtrans hZ X.warmed
  have w2 : (Jvm.Cond.fieldRef own index O n d).before a0 (Z.setVm T.vm) = true := Cond.fieldRef_warmed39 hU w
  have hc : (Z.setVm T.vm).vm.findClass own = some m.cls := by
    show T.vm.findClass own = some m.cls
    rw [X.warmed.alike.findClass]; exact hown
  obtain ⟨c1, k1, i1, f1, h1, h2⟩ := Cond.fieldRef_spec hc w2
  obtain ⟨k2, h3, -⟩ := State.fieldFound?_setVm (s := Z) hU.alike hf
  cases h1.symm.trans h3
  exact h2
theorem own_getR (X : Stand p l e R s m args below meth c T locs cells slots) (hx : p.tables.exec = Jvm.exec) (hZ : Z.Warmed39 s.vm) (eT : T.heap = h) {own O n d : String} (hown : s.vm.findClass own = some m.cls) {index : Nat} (w : (Jvm.Cond.fieldRef own index O n d).before a0 Z = true)
    {a : Addr} {v : Value} (F : Fld Z h a O n d v) {g : JFrame} (hg : g.method = m) {rest : List Value} (hs : g.stack = .ref a :: rest) (hd : decode c.code g.pc = .ok (.getfield index, 3))
    (k : own_Run p e below Fin (T.setTop { g with pc := g.pc + 3, stack := v :: rest })) : own_Run p e below Fin (T.setTop g) := by
  obtain ⟨cell, cf, kk, i, f, h1, h2, h3, h4, -, -, h7⟩ := F
  have hr := own_ready X hZ hown w h2
  refine own_go (fun target hrest => ?_) k
  subst hg
  jvm_step X.here [hx, hd, getfield.wp_ready (e := e) (s := T) (f := g) X.here.top hr h3 hs (show T.heap[a]? = some cell by rw [eT]; exact h1) h4 h7]
  exact hrest
/-- what the sheet's words on the class `C` and its field say of a write: the field isn't final, and a value of its type fits -/
theorem own_laid {C O n d : String} {kk : Nat} {ty : FieldType} (L : (Jvm.Cond.lays C O n d).before a0 Z = true) (wi : (Jvm.Cond.instantiable C kk).before a0 Z = true) (hty : parseFieldDescriptor d = some ty) :
    ∃ (b cf : ClassId) (k : Class) (i : Nat) (f : Field), Z.vm.findClass C = some b ∧ Z.fieldFound? O n d = some (cf, k, i, f) ∧ f.type = ty ∧ hasFlag f.accessFlags Acc.final = false ∧ ∀ v, fits ty v = true → Z.fitsSlot b .none f.slot v = true := by
  obtain ⟨b, kb, cf, k, i, f, hb, hkb, hfd, -, hnf, -, hat, -⟩ := Cond.lays_spec L
  obtain ⟨b', kb', hb', hkb', ho, -⟩ := Cond.instantiable_spec wi
  have eb : b' = b := Option.some.inj (hb'.symm.trans hb)
  have ek : kb' = kb := by rw [eb] at hkb'; exact Option.some.inj (hkb'.symm.trans hkb)
  have et : f.type = ty := (State.fieldFound?_type hfd hty).2
  rw [ek] at ho
  rw [et] at hat
  refine ⟨b, cf, k, i, f, hb, hfd, et, hnf, fun v hv => ?_⟩
  have hs : Z.slotType? b .none f.slot = some ty := by
    unfold State.slotType?
    rw [hkb]
    show (match kb.kind with | .array _ type => some type | _ => kb.instanceTypes[f.slot]?) = some ty
    rw [ho]; exact hat
  unfold State.fitsSlot
  rw [hs]; exact hv
theorem own_putR (X : Stand p l e R s m args below meth c T locs cells slots) (hx : p.tables.exec = Jvm.exec) (hZ : Z.Warmed39 s.vm) (eT : T.heap = h) {own O n d C : String} (hown : s.vm.findClass own = some m.cls) {index kk : Nat} (ty : FieldType) (w : (Jvm.Cond.fieldRef own index O n d).before a0 Z = true)
    {a : Addr} {v old : Value} (F : Fld Z h a O n d old) (E : Exa Z h a C) (L : (Jvm.Cond.lays C O n d).before a0 Z = true) (wi : (Jvm.Cond.instantiable C kk).before a0 Z = true)
    (hty : parseFieldDescriptor d = some ty) (hn : narrow ty v = v) (hf : fits ty v = true) {g : JFrame} (hg : g.method = m) {rest : List Value} (hs : g.stack = v :: .ref a :: rest) (hd : decode c.code g.pc = .ok (.putfield index, 3))
    (k : ∀ (T' : State) (h' : Heap), Stand p l e R s m args below meth c T' (locs ++ [⟨a, Jvm.RoadKit.slotOf Z O n d⟩]) cells slots → T'.heap = h' → Wr h h' a (Jvm.RoadKit.slotOf Z O n d) v → own_Run p e below Fin (T'.setTop { g with pc := g.pc + 3, stack := rest })) : own_Run p e below Fin (T.setTop g) := by
  obtain ⟨b, cf, k0, i, f, hb, hfd, et, hnf, hfits⟩ := own_laid L wi hty
  obtain ⟨cell, cf', k', i', f', hcell, hfd', hst, hun, hvm, -, hold⟩ := F
  cases hfd.symm.trans hfd'
  obtain ⟨cell', kc, hcell', hcls, -⟩ := E
  cases hcell.symm.trans hcell'
  cases hb.symm.trans hcls
  have hU : Z.Warmed39 T.vm := wtrans hZ X.warmed
  have hfit : T.fitsSlot cell.cls cell.vm f.slot v = true :=
    Jvm.Free.Deque.fits_move (U := Z) (U' := T) hU.alike (by rw [Jvm.Joins.fitsSlot_plain hvm]; exact hfits v hf)
  have hin : f.slot < cell.slots.size := (Array.getElem?_eq_some_iff.mp hold).1
  obtain ⟨X', st⟩ := X.putfieldReady hx (own_ready X hZ hown w hfd) hst (Or.inl hnf) (eT.symm ▸ hcell) hun hin (et.symm ▸ hn) hfit hg hs hd
  rw [show Jvm.RoadKit.slotOf Z O n d = f.slot by simp [Jvm.RoadKit.slotOf, hfd]] at k
  exact own_go st (k _ _ X' rfl ⟨cell, hcell, hvm, hin, by rw [← eT]; rfl⟩)
end OwnKit3
section OwnTree
variable {Z : State} {h h' h2 : Heap} {n : Nat} {r : Value} {a : Addr} {ws vs : List Addr} {S S' : Int32 → Prop}
/-- in the heap h, r is a search tree of depth n at the most; ws: its nodes; S: its keys -/
def own_T (Z : State) (h : Heap) : Nat → Value → List Addr → (Int32 → Prop) → Prop
  | 0, r, ws, S => r = .null ∧ ws = [] ∧ ∀ y, ¬ S y
  | n + 1, r, ws, S => (r = .null ∧ ws = [] ∧ ∀ y, ¬ S y) ∨ ∃ (a : Addr) (k : Int32) (tl tr : Value) (wl wr : List Addr) (Sl Sr : Int32 → Prop), r = .ref a ∧ Exa Z h a "subjects/SearchTree$Node" ∧ Fld Z h a "subjects/SearchTree$Node" "key" "I" (.int k) ∧ Fld Z h a "subjects/SearchTree$Node" "left" "Lsubjects/SearchTree$Node;" tl ∧ Fld Z h a "subjects/SearchTree$Node" "right" "Lsubjects/SearchTree$Node;" tr ∧
      own_T Z h n tl wl Sl ∧ own_T Z h n tr wr Sr ∧ ws = a :: (wl ++ wr) ∧ (a ∉ wl ∧ a ∉ wr ∧ ∀ y ∈ wl, y ∉ wr) ∧ (∀ y, S y ↔ y = k ∨ Sl y ∨ Sr y) ∧ (∀ y, Sl y → y < k) ∧ ∀ y, Sr y → k < y
theorem own_T.nul (hS : ∀ y, ¬ S y) : own_T Z h n .null [] S := by
  cases n with
  | zero => exact ⟨rfl, rfl, hS⟩
  | succ n => exact Or.inl ⟨rfl, rfl, hS⟩
theorem own_T.null_ (t : own_T Z h n .null ws S) : ws = [] ∧ ∀ y, ¬ S y := by
  cases n with
  | zero => exact t.2
  | succ n =>
    rcases t with t | ⟨a, k, tl, tr, wl, wr, Sl, Sr, q, -⟩
    · exact t.2
    · cases q
theorem own_T.ref_ (t : own_T Z h (n + 1) (.ref a) ws S) : ∃ (k : Int32) (tl tr : Value) (wl wr : List Addr) (Sl Sr : Int32 → Prop), Exa Z h a "subjects/SearchTree$Node" ∧ Fld Z h a "subjects/SearchTree$Node" "key" "I" (.int k) ∧ Fld Z h a "subjects/SearchTree$Node" "left" "Lsubjects/SearchTree$Node;" tl ∧ Fld Z h a "subjects/SearchTree$Node" "right" "Lsubjects/SearchTree$Node;" tr ∧
      own_T Z h n tl wl Sl ∧ own_T Z h n tr wr Sr ∧ ws = a :: (wl ++ wr) ∧ (a ∉ wl ∧ a ∉ wr ∧ ∀ y ∈ wl, y ∉ wr) ∧ (∀ y, S y ↔ y = k ∨ Sl y ∨ Sr y) ∧ (∀ y, Sl y → y < k) ∧ ∀ y, Sr y → k < y := by
  rcases t with t | ⟨b, k, tl, tr, wl, wr, Sl, Sr, q, q2⟩
  · cases t.1
  · cases q; exact ⟨k, tl, tr, wl, wr, Sl, Sr, q2⟩
theorem own_T.zero_ (t : own_T Z h 0 (.ref a) ws S) : False := by cases t.1
theorem own_T.cases (t : own_T Z h n r ws S) : r = .null ∨ ∃ a, r = .ref a := by
  cases n with
  | zero => exact Or.inl t.1
  | succ n =>
    rcases t with t | ⟨b, k, tl, tr, wl, wr, Sl, Sr, q, -⟩
    · exact Or.inl t.1
    · exact Or.inr ⟨b, q⟩
theorem own_T.node {k : Int32} {tl tr : Value} {wl wr : List Addr} {Sl Sr : Int32 → Prop} (E : Exa Z h a "subjects/SearchTree$Node") (Fk : Fld Z h a "subjects/SearchTree$Node" "key" "I" (.int k)) (Fl : Fld Z h a "subjects/SearchTree$Node" "left" "Lsubjects/SearchTree$Node;" tl) (Fr : Fld Z h a "subjects/SearchTree$Node" "right" "Lsubjects/SearchTree$Node;" tr)
    (t1 : own_T Z h n tl wl Sl) (t2 : own_T Z h n tr wr Sr) (d : a ∉ wl ∧ a ∉ wr ∧ ∀ y ∈ wl, y ∉ wr) (hS : ∀ y, S y ↔ y = k ∨ Sl y ∨ Sr y) (hl : ∀ y, Sl y → y < k) (hr : ∀ y, Sr y → k < y) : own_T Z h (n + 1) (.ref a) (a :: (wl ++ wr)) S :=
  Or.inr ⟨a, k, tl, tr, wl, wr, Sl, Sr, rfl, E, Fk, Fl, Fr, t1, t2, rfl, d, hS, hl, hr⟩
theorem own_T.congr (t : own_T Z h n r ws S) (q : ∀ y, S y ↔ S' y) : own_T Z h n r ws S' := by
  cases n with
  | zero => exact ⟨t.1, t.2.1, fun y w => t.2.2 y ((q y).mpr w)⟩
  | succ n =>
    rcases t with t | ⟨b, k, tl, tr, wl, wr, Sl, Sr, t1, t2, t3, t4, t5, t6, t7, t8, t9, t10, t11⟩
    · exact Or.inl ⟨t.1, t.2.1, fun y w => t.2.2 y ((q y).mpr w)⟩
    · exact Or.inr ⟨b, k, tl, tr, wl, wr, Sl, Sr, t1, t2, t3, t4, t5, t6, t7, t8, t9, fun y => (q y).symm.trans (t10 y), t11⟩
theorem own_T.mono : ∀ {n : Nat} {r : Value} {ws : List Addr} {S : Int32 → Prop}, own_T Z h n r ws S → own_T Z h (n + 1) r ws S := by
  intro n
  induction n with
  | zero => intro r ws S t; exact Or.inl t
  | succ n ih =>
    intro r ws S t
    rcases t with t | ⟨b, k, tl, tr, wl, wr, Sl, Sr, t1, t2, t3, t4, t5, t6, t7, t8⟩
    · exact Or.inl t
    · exact Or.inr ⟨b, k, tl, tr, wl, wr, Sl, Sr, t1, t2, t3, t4, t5, ih t6, ih t7, t8⟩
theorem own_T.keep (K : Keep h h' vs) : ∀ {n : Nat} {r : Value} {ws : List Addr} {S : Int32 → Prop}, own_T Z h n r ws S → (∀ y ∈ ws, y ∉ vs) → own_T Z h' n r ws S := by
  intro n
  induction n with
  | zero => intro r ws S t _; exact t
  | succ n ih =>
    intro r ws S t q
    rcases t with t | ⟨b, k, tl, tr, wl, wr, Sl, Sr, t1, t2, t3, t4, t5, t6, t7, rfl, t8⟩
    · exact Or.inl t
    · have qb : b ∉ vs := q b (List.mem_cons_self ..)
      exact Or.inr ⟨b, k, tl, tr, wl, wr, Sl, Sr, t1, t2.keep K, t3.keep K qb, t4.keep K qb, t5.keep K qb, ih t6 (fun y hy => q y (List.mem_cons_of_mem _ (List.mem_append_left _ hy))), ih t7 (fun y hy => q y (List.mem_cons_of_mem _ (List.mem_append_right _ hy))), rfl, t8⟩
theorem own_T.lt : ∀ {n : Nat} {r : Value} {ws : List Addr} {S : Int32 → Prop}, own_T Z h n r ws S → ∀ y ∈ ws, y < h.size := by
  intro n
  induction n with
  | zero => intro r ws S t y hy; rw [t.2.1] at hy; cases hy
  | succ n ih =>
    intro r ws S t y hy
    rcases t with t | ⟨b, k, tl, tr, wl, wr, Sl, Sr, t1, t2, t3, t4, t5, t6, t7, rfl, t8⟩
    · rw [t.2.1] at hy; cases hy
    · rcases List.mem_cons.mp hy with rfl | hy
      · exact t2.lt
      · rcases List.mem_append.mp hy with hy | hy
        · exact ih t6 y hy
        · exact ih t7 y hy
theorem own_T.ext (t : own_T Z h n r ws S) (E : Ext h h') : own_T Z h' n r ws S := t.keep ((Keep.refl h []).ext E) (fun _ _ => nin0)
theorem own_nin1 {b : Addr} (q : b ∉ ws) : ∀ y ∈ ws, y ∉ [b] := fun y hy => ninS (fun w => q (w ▸ hy)) nin0
theorem own_T.fresh {b : Addr} (t : own_T Z h n r ws S) (g : b = h.size) : b ∉ ws := fun q => absurd (t.lt b q) (by rw [g]; exact Nat.lt_irrefl _)
theorem own_weak (K : Keep h h' vs) (q : ∀ y ∈ vs, y ∈ ws) : Keep h h' ws := ⟨K.1, fun x c hc hn => K.2.1 x c hc (fun w => hn (q x w)), K.2.2⟩
theorem own_leaf {k : Int32} (E : Exa Z h a "subjects/SearchTree$Node") (Fk : Fld Z h a "subjects/SearchTree$Node" "key" "I" (.int k)) (Fl : Fld Z h a "subjects/SearchTree$Node" "left" "Lsubjects/SearchTree$Node;" .null) (Fr : Fld Z h a "subjects/SearchTree$Node" "right" "Lsubjects/SearchTree$Node;" .null) : own_T Z h (n + 1) (.ref a) [a] (fun y => y = k) :=
  own_T.node (wl := []) (wr := []) (Sl := fun _ => False) (Sr := fun _ => False) E Fk Fl Fr (own_T.nul (fun _ q => q)) (own_T.nul (fun _ q => q)) ⟨nin0, nin0, fun _ q => nomatch q⟩ (fun y => by simp) (fun _ q => q.elim) (fun _ q => q.elim)
/-- the nodes of a subtree that was turned are still apart from the node and from the other subtree -/
theorem own_dis {sz : Nat} {wl wr wl2 : List Addr} (d : a ∉ wl ∧ a ∉ wr ∧ ∀ y ∈ wl, y ∉ wr) (hw : ∀ y ∈ wl2, y ∈ wl ∨ sz ≤ y) (ha : a < sz) (hr : ∀ y ∈ wr, y < sz) : a ∉ wl2 ∧ a ∉ wr ∧ ∀ y ∈ wl2, y ∉ wr :=
  ⟨fun q => (hw a q).elim d.1 (fun w => absurd ha (Nat.not_lt.mpr w)), d.2.1, fun y q w => (hw y q).elim (fun u => d.2.2 y u w) (fun u => absurd (hr y w) (Nat.not_lt.mpr u))⟩
theorem own_disR {sz : Nat} {wl wr wr2 : List Addr} (d : a ∉ wl ∧ a ∉ wr ∧ ∀ y ∈ wl, y ∉ wr) (hw : ∀ y ∈ wr2, y ∈ wr ∨ sz ≤ y) (ha : a < sz) (hl : ∀ y ∈ wl, y < sz) : a ∉ wl ∧ a ∉ wr2 ∧ ∀ y ∈ wl, y ∉ wr2 :=
  ⟨d.1, fun q => (hw a q).elim d.2.1 (fun w => absurd ha (Nat.not_lt.mpr w)), fun y w q => (hw y q).elim (fun u => d.2.2 y w u) (fun u => absurd (hl y w) (Nat.not_lt.mpr u))⟩
theorem own_subL {sz : Nat} {wl wr wl2 : List Addr} (hw : ∀ y ∈ wl2, y ∈ wl ∨ sz ≤ y) : ∀ y ∈ a :: (wl2 ++ wr), y ∈ a :: (wl ++ wr) ∨ sz ≤ y := fun y hy => by
  rcases List.mem_cons.mp hy with rfl | hy
  · exact Or.inl (List.mem_cons_self ..)
  · rcases List.mem_append.mp hy with hy | hy
    · exact (hw y hy).imp (fun w => List.mem_cons_of_mem _ (List.mem_append_left _ w)) id
    · exact Or.inl (List.mem_cons_of_mem _ (List.mem_append_right _ hy))
theorem own_subR {sz : Nat} {wl wr wr2 : List Addr} (hw : ∀ y ∈ wr2, y ∈ wr ∨ sz ≤ y) : ∀ y ∈ a :: (wl ++ wr2), y ∈ a :: (wl ++ wr) ∨ sz ≤ y := fun y hy => by
  rcases List.mem_cons.mp hy with rfl | hy
  · exact Or.inl (List.mem_cons_self ..)
  · rcases List.mem_append.mp hy with hy | hy
    · exact Or.inl (List.mem_cons_of_mem _ (List.mem_append_left _ hy))
    · exact (hw y hy).imp (fun w => List.mem_cons_of_mem _ (List.mem_append_right _ w)) id
theorem own_inL {wl wr : List Addr} : ∀ y ∈ wl, y ∈ a :: (wl ++ wr) := fun y hy => List.mem_cons_of_mem _ (List.mem_append_left _ hy)
theorem own_inR {wl wr : List Addr} : ∀ y ∈ wr, y ∈ a :: (wl ++ wr) := fun y hy => List.mem_cons_of_mem _ (List.mem_append_right _ hy)
theorem own_in1 {wl wr : List Addr} : ∀ y ∈ [a], y ∈ a :: (wl ++ wr) := fun y hy => by cases List.mem_singleton.mp hy; exact List.mem_cons_self ..
theorem own_gt {x y : Int32} (h1 : ¬ x < y) (h2 : ¬ y = x) : y < x := by
  rw [Int32.lt_iff_toInt_lt] at h1 ⊢
  have : y.toInt ≠ x.toInt := fun q => h2 (Int32.toInt_inj.mp q)
  omega
theorem own_ne {x y : Int32} (q : x < y) : ¬ x = y := fun w => by subst w; rw [Int32.lt_iff_toInt_lt] at q; exact Int.lt_irrefl _ q
theorem own_ltt {x y z : Int32} (p : x < y) (q : y < z) : x < z := by rw [Int32.lt_iff_toInt_lt] at *; omega
/-- the way down to the leftmost node -/
def own_Lm (Z : State) (h : Heap) : Nat → Addr → Addr → Prop
  | 0, _, _ => False
  | n + 1, a, mm => (Fld Z h a "subjects/SearchTree$Node" "left" "Lsubjects/SearchTree$Node;" .null ∧ mm = a) ∨ ∃ b : Addr, Fld Z h a "subjects/SearchTree$Node" "left" "Lsubjects/SearchTree$Node;" (.ref b) ∧ own_Lm Z h n b mm
theorem own_T.least : ∀ {n : Nat} {a : Addr} {ws : List Addr} {S : Int32 → Prop}, own_T Z h n (.ref a) ws S → ∃ (mm : Addr) (km : Int32) (tr : Value), own_Lm Z h n a mm ∧ mm ∈ ws ∧ Exa Z h mm "subjects/SearchTree$Node" ∧ Fld Z h mm "subjects/SearchTree$Node" "key" "I" (.int km) ∧ Fld Z h mm "subjects/SearchTree$Node" "left" "Lsubjects/SearchTree$Node;" .null ∧ Fld Z h mm "subjects/SearchTree$Node" "right" "Lsubjects/SearchTree$Node;" tr ∧ S km ∧ ∀ y, S y → y = km ∨ km < y := by
  intro n
  induction n with
  | zero => intro a ws S t; exact t.zero_.elim
  | succ n ih =>
    intro a ws S t
    obtain ⟨k, tl, tr, wl, wr, Sl, Sr, E, Fk, Fl, Fr, t1, t2, rfl, d, hS, hl, hr⟩ := t.ref_
    rcases t1.cases with q | ⟨b, q⟩
    · subst q
      refine ⟨a, k, tr, Or.inl ⟨Fl, rfl⟩, List.mem_cons_self .., E, Fk, Fl, Fr, (hS k).mpr (Or.inl rfl), fun y hy => ?_⟩
      rcases (hS y).mp hy with w | w | w
      · exact Or.inl w
      · exact absurd w (t1.null_.2 y)
      · exact Or.inr (hr y w)
    · subst q
      obtain ⟨mm, km, tr2, p1, p2, p3, p4, p5, p6, p7, p8⟩ := ih t1
      refine ⟨mm, km, tr2, Or.inr ⟨b, Fl, p1⟩, own_inL mm p2, p3, p4, p5, p6, (hS km).mpr (Or.inr (Or.inl p7)), fun y hy => ?_⟩
      rcases (hS y).mp hy with w | w | w
      · subst w; exact Or.inr (hl km p7)
      · exact p8 y w
      · exact Or.inr (own_ltt (hl km p7) (hr y w))
theorem own_Fld_one {C f d : String} {v w : Value} (F : Fld Z h a C f d v) (F' : Fld Z h a C f d w) : v = w := by
  obtain ⟨c1, x1, x2, x3, f1, a1, a2, a3, a4, a5, a6, a7⟩ := F
  obtain ⟨c2, y1, y2, y3, f2, b1, b2, b3, b4, b5, b6, b7⟩ := F'
  cases a1.symm.trans b1
  cases a2.symm.trans b2
  cases a7.symm.trans b7
  rfl
end OwnTree
theorem own_isR {v : Value} (q : v = .null ∨ ∃ a, v = .ref a) : v.isRef = true := by rcases q with rfl | ⟨a, rfl⟩ <;> rfl
theorem own_narR {v : Value} {C : String} (q : v = .null ∨ ∃ a, v = .ref a) : narrow (.object C) v = v := by rcases q with rfl | ⟨a, rfl⟩ <;> rfl
theorem own_fitR {v : Value} {C : String} (q : v = .null ∨ ∃ a, v = .ref a) : fits (.object C) v = true := by rcases q with rfl | ⟨a, rfl⟩ <;> rfl
theorem own_orL {k a b q : Prop} : ((k ∨ a ∨ b) ∨ q) ↔ k ∨ (a ∨ q) ∨ b := by
  constructor
  · rintro ((h | h | h) | h)
    · exact Or.inl h
    · exact Or.inr (Or.inl (Or.inl h))
    · exact Or.inr (Or.inr h)
    · exact Or.inr (Or.inl (Or.inr h))
  · rintro (h | (h | h) | h)
    · exact Or.inl (Or.inl h)
    · exact Or.inl (Or.inr (Or.inl h))
    · exact Or.inr h
    · exact Or.inl (Or.inr (Or.inr h))
theorem own_orR {k a b q : Prop} : ((k ∨ a ∨ b) ∨ q) ↔ k ∨ a ∨ (b ∨ q) := by
  constructor
  · rintro ((h | h | h) | h)
    · exact Or.inl h
    · exact Or.inr (Or.inl h)
    · exact Or.inr (Or.inr (Or.inl h))
    · exact Or.inr (Or.inr (Or.inr h))
  · rintro (h | h | h | h)
    · exact Or.inl (Or.inl h)
    · exact Or.inl (Or.inr (Or.inl h))
    · exact Or.inl (Or.inr (Or.inr h))
    · exact Or.inr h
/-- add's word: a tree of one key more -/
abbrev own_Qwl (Z : State) (n : Nat) (ws : List Addr) (S : Int32 → Prop) (mm : Addr) (km : Int32) (n0 : Nat) (h0 : Heap) : Option Value → Heap → List Loc → Prop := fun v h L =>
  ∃ (r2 : Value) (ws2 : List Addr), v = some r2 ∧ Fr n0 L ∧ Keep h0 h ws2 ∧ own_T Z h n r2 ws2 (fun y => S y ∧ ¬ y = km) ∧ ∀ y ∈ ws2, y ∈ ws ∧ ¬ y = mm
abbrev own_Qw (Z : State) (n : Nat) (ws : List Addr) (S : Int32 → Prop) (key : Int32) (n0 : Nat) (h0 : Heap) : Option Value → Heap → List Loc → Prop := fun v h L =>
  ∃ (r2 : Value) (ws2 : List Addr), v = some r2 ∧ Fr n0 L ∧ Keep h0 h ws ∧ own_T Z h n r2 ws2 (fun y => S y ∧ ¬ y = key) ∧ ∀ y ∈ ws2, y ∈ ws
abbrev own_roomL (n : Nat) : Room := { frames := n, cells := 0, slots := 0, locals := 13 * n }
abbrev own_roomW (n : Nat) : Room := { frames := n, cells := 0, slots := 0, locals := 16 * n }
theorem own_memL {wl wr : List Addr} {a b : Addr} (h : b ∈ wr) : b ∈ a :: (wl ++ wr) := List.mem_cons_of_mem _ (List.mem_append_right _ h)
theorem own_iffL {k kk key : Int32} {Sl Sr S : Int32 → Prop} (hS : ∀ y, S y ↔ y = kk ∨ Sl y ∨ Sr y) (hlt : key < kk) (hr : ∀ y, Sr y → kk < y) : ∀ y, (S y ∧ ¬ y = key) ↔ y = kk ∨ (Sl y ∧ ¬ y = key) ∨ Sr y := fun y => by
  rw [hS y]
  constructor
  · rintro ⟨h | h | h, q⟩
    · exact Or.inl h
    · exact Or.inr (Or.inl ⟨h, q⟩)
    · exact Or.inr (Or.inr h)
  · rintro (h | ⟨h, q⟩ | h)
    · exact ⟨Or.inl h, fun w => own_ne hlt (w.symm.trans h)⟩
    · exact ⟨Or.inr (Or.inl h), q⟩
    · exact ⟨Or.inr (Or.inr h), fun w => own_ne (own_ltt hlt (hr y h)) w.symm⟩
theorem own_iffR {kk key : Int32} {Sl Sr S : Int32 → Prop} (hS : ∀ y, S y ↔ y = kk ∨ Sl y ∨ Sr y) (hlt : kk < key) (hl : ∀ y, Sl y → y < kk) : ∀ y, (S y ∧ ¬ y = key) ↔ y = kk ∨ Sl y ∨ (Sr y ∧ ¬ y = key) := fun y => by
  rw [hS y]
  constructor
  · rintro ⟨h | h | h, q⟩
    · exact Or.inl h
    · exact Or.inr (Or.inl h)
    · exact Or.inr (Or.inr ⟨h, q⟩)
  · rintro (h | h | ⟨h, q⟩)
    · exact ⟨Or.inl h, fun w => own_ne hlt (h.symm.trans w)⟩
    · exact ⟨Or.inr (Or.inl h), fun w => own_ne (own_ltt (hl y h) hlt) w⟩
    · exact ⟨Or.inr (Or.inr h), q⟩
theorem own_iffM {kk : Int32} {Sl Sr S : Int32 → Prop} (hS : ∀ y, S y ↔ y = kk ∨ Sl y ∨ Sr y) (hl : ∀ y, Sl y → y < kk) (hr : ∀ y, Sr y → kk < y) : ∀ y, (S y ∧ ¬ y = kk) ↔ Sl y ∨ Sr y := fun y => by
  rw [hS y]
  constructor
  · rintro ⟨h | h, q⟩
    · exact absurd h q
    · exact h
  · rintro (h | h)
    · exact ⟨Or.inr (Or.inl h), own_ne (hl y h)⟩
    · exact ⟨Or.inr (Or.inr h), fun w => own_ne (hr y h) w.symm⟩
theorem own_iffX {km : Int32} {Sl Sr A : Int32 → Prop} (hA : ∀ y, A y ↔ Sl y ∨ Sr y) (hm : Sr km) : ∀ y, A y ↔ y = km ∨ Sl y ∨ (Sr y ∧ ¬ y = km) := fun y => by
  rw [hA y]
  constructor
  · rintro (h | h)
    · exact Or.inr (Or.inl h)
    · by_cases q : y = km
      · exact Or.inl q
      · exact Or.inr (Or.inr ⟨h, q⟩)
  · rintro (h | h | h)
    · subst h; exact Or.inr hm
    · exact Or.inl h
    · exact Or.inr h.1
theorem own_le2 {x y : Int32} (h1 : ¬ x < y) (h2 : ¬ y < x) : x = y := by
  rw [Int32.lt_iff_toInt_lt] at h1 h2
  exact Int32.toInt_inj.mp (by omega)
def own_pick (s a b c d q : Int32) : Int32 := if s = (0 : Int32) then a else if s = (1 : Int32) then b else if s = (2 : Int32) then c else if s = (3 : Int32) then d else if s = (5 : Int32) then (a + (1 : Int32)) else if s = (6 : Int32) then (a - (1 : Int32)) else q
theorem own_selL {kk key : Int32} {Sl Sr S : Int32 → Prop} (hS : ∀ y, S y ↔ y = kk ∨ Sl y ∨ Sr y) (hr : ∀ y, Sr y → kk < y) (hlt : key < kk) : S key ↔ Sl key := by
  rw [hS key]
  constructor
  · rintro (h | h | h)
    · exact absurd h (own_ne hlt)
    · exact h
    · exact absurd rfl (own_ne (own_ltt hlt (hr key h)))
  · exact fun h => Or.inr (Or.inl h)
theorem own_selR {kk key : Int32} {Sl Sr S : Int32 → Prop} (hS : ∀ y, S y ↔ y = kk ∨ Sl y ∨ Sr y) (hl : ∀ y, Sl y → y < kk) (hlt : kk < key) : S key ↔ Sr key := by
  rw [hS key]
  constructor
  · rintro (h | h | h)
    · exact absurd h.symm (own_ne hlt)
    · exact absurd rfl (own_ne (own_ltt hlt (hl key h)))
    · exact h
  · exact fun h => Or.inr (Or.inr h)
theorem own_Lm_one {Z : State} {h : Heap} : ∀ {n : Nat} {a m1 m2 : Addr}, own_Lm Z h n a m1 → own_Lm Z h n a m2 → m1 = m2 := by
  intro n
  induction n with
  | zero => intro a m1 m2 p _; exact p.elim
  | succ n ih =>
    intro a m1 m2 p q
    rcases p with ⟨p1, p2⟩ | ⟨b, p1, p2⟩ <;> rcases q with ⟨q1, q2⟩ | ⟨c, q1, q2⟩
    · rw [p2, q2]
    · cases own_Fld_one p1 q1
    · cases own_Fld_one p1 q1
    · cases own_Fld_one p1 q1; exact ih p2 q2
theorem own_not4 {xx a b c d : Int32} (h1 : ¬ xx = a) (h2 : ¬ xx = b) (h3 : ¬ xx = c) (h4 : ¬ xx = d) : ¬ ((((False ∨ xx = a) ∨ xx = b) ∨ xx = c) ∨ xx = d) := by
  rintro ((((h | h) | h) | h) | h)
  · exact h
  · exact h1 h
  · exact h2 h
  · exact h3 h
  · exact h4 h
theorem d0_0 : decode prog_78_method_1_code 0 = .ok (.aload_n 0, 1) := by decide +kernel
theorem d0_1 : decode prog_78_method_1_code 1 = .ok (.invokespecial 1, 3) := by decide +kernel
theorem d0_4 : decode prog_78_method_1_code 4 = .ok (.return_, 1) := by decide +kernel
abbrev Q_tinit (Z : State) (a : Addr) (h0 : Heap) : Option Value → Heap → List Loc → Prop := fun v h L => v = none ∧ h0 = h ∧ L = []
set_option maxRecDepth 65536 in
set_option maxHeartbeats 40000000 in
theorem rm_tinit (l : Launch) (Z : State) (a0 : Array Value) (hw : ∀ d ∈ tables_1, d.before a0 Z = true) (a : Addr) (h0 : Heap)  :
    own_Met l Z (⟨"subjects/SearchTree", "<init>", "()V"⟩ : MethodName) prog_78_method_1_code 1 none ({ frames := 1, cells := 0, slots := 0, locals := 12 } : Room) #[(.ref a)] h0 (Q_tinit Z a h0) := by
  refine own_enter (g0 := fun m => (mkF m 0 #[.val (.ref a)] [])) (plainFor_of_name (by first | (simp [plainName, overriddenIn]; done) | decide +kernel)) (fun m => by first | (simp [entryFrame, mkF, argsToLocals, Value.category]; done) | rfl) ?_
  intro p e s m below meth c T hx hby hml hown hnm hZ hret hlk X e0
  replace hown : s.vm.findClass "subjects/SearchTree" = some m.cls := hown
  show own_Run p e below _ (T.setTop (mkF m 0 #[.val (.ref a)] []))
  refine own_go (fun _ kS => XS.aloadN X.here hx rfl (hb hby d0_0) rfl rfl kS) ?_
  show own_Run p e below _ (T.setTop (mkF m 1 #[.val (.ref a)] [(.ref a)]))
  refine own_initO X hx hZ e0 hown (hw _ (List.mem_of_getElem? (i := 6) rfl)) (hw _ (List.mem_of_getElem? (i := 7) rfl)) (hw _ (List.mem_of_getElem? (i := 8) rfl)) rfl (by rw [hml]; rfl) rfl (hb hby d0_1) (by decide) 0 (by show 2 * 0 + _ ≤ _; exact Nat.le_of_eq rfl) (by decide) (fun T1 X1 e1 => ?_)
  show own_Run p e below _ (T1.setTop (mkF m 4 #[.val (.ref a)] []))
  refine own_retV X1 hx hret hlk (hb hby d0_4) (by decide) (by decide) ?_
  exact ⟨rfl, e1.symm, rfl⟩
theorem d1_0 : decode method_3_code 0 = .ok (.iload_n 0, 1) := by decide +kernel
theorem d1_1 : decode method_3_code 1 = .ok (.ifCond .ne 5, 3) := by decide +kernel
theorem d1_4 : decode method_3_code 4 = .ok (.iload_n 1, 1) := by decide +kernel
theorem d1_5 : decode method_3_code 5 = .ok (.ireturn, 1) := by decide +kernel
theorem d1_6 : decode method_3_code 6 = .ok (.iload_n 0, 1) := by decide +kernel
theorem d1_7 : decode method_3_code 7 = .ok (.iconst 1, 1) := by decide +kernel
theorem d1_8 : decode method_3_code 8 = .ok (.if_icmp .ne 5, 3) := by decide +kernel
theorem d1_11 : decode method_3_code 11 = .ok (.iload_n 2, 1) := by decide +kernel
theorem d1_12 : decode method_3_code 12 = .ok (.ireturn, 1) := by decide +kernel
theorem d1_13 : decode method_3_code 13 = .ok (.iload_n 0, 1) := by decide +kernel
theorem d1_14 : decode method_3_code 14 = .ok (.iconst 2, 1) := by decide +kernel
theorem d1_15 : decode method_3_code 15 = .ok (.if_icmp .ne 5, 3) := by decide +kernel
theorem d1_18 : decode method_3_code 18 = .ok (.iload_n 3, 1) := by decide +kernel
theorem d1_19 : decode method_3_code 19 = .ok (.ireturn, 1) := by decide +kernel
theorem d1_20 : decode method_3_code 20 = .ok (.iload_n 0, 1) := by decide +kernel
theorem d1_21 : decode method_3_code 21 = .ok (.iconst 3, 1) := by decide +kernel
theorem d1_22 : decode method_3_code 22 = .ok (.if_icmp .ne 6, 3) := by decide +kernel
theorem d1_25 : decode method_3_code 25 = .ok (.iload 4, 2) := by decide +kernel
theorem d1_27 : decode method_3_code 27 = .ok (.ireturn, 1) := by decide +kernel
theorem d1_28 : decode method_3_code 28 = .ok (.iload_n 0, 1) := by decide +kernel
theorem d1_29 : decode method_3_code 29 = .ok (.iconst 5, 1) := by decide +kernel
theorem d1_30 : decode method_3_code 30 = .ok (.if_icmp .ne 7, 3) := by decide +kernel
theorem d1_33 : decode method_3_code 33 = .ok (.iload_n 1, 1) := by decide +kernel
theorem d1_34 : decode method_3_code 34 = .ok (.iconst 1, 1) := by decide +kernel
theorem d1_35 : decode method_3_code 35 = .ok (.iadd, 1) := by decide +kernel
theorem d1_36 : decode method_3_code 36 = .ok (.ireturn, 1) := by decide +kernel
theorem d1_37 : decode method_3_code 37 = .ok (.iload_n 0, 1) := by decide +kernel
theorem d1_38 : decode method_3_code 38 = .ok (.bipush 6, 2) := by decide +kernel
theorem d1_40 : decode method_3_code 40 = .ok (.if_icmp .ne 7, 3) := by decide +kernel
theorem d1_43 : decode method_3_code 43 = .ok (.iload_n 1, 1) := by decide +kernel
theorem d1_44 : decode method_3_code 44 = .ok (.iconst 1, 1) := by decide +kernel
theorem d1_45 : decode method_3_code 45 = .ok (.isub, 1) := by decide +kernel
theorem d1_46 : decode method_3_code 46 = .ok (.ireturn, 1) := by decide +kernel
theorem d1_47 : decode method_3_code 47 = .ok (.iload 5, 2) := by decide +kernel
theorem d1_49 : decode method_3_code 49 = .ok (.ireturn, 1) := by decide +kernel
abbrev Q_pick (Z : State) (us : Int32) (ua : Int32) (ub : Int32) (uc : Int32) (ud : Int32) (uq : Int32) (h0 : Heap) : Option Value → Heap → List Loc → Prop := fun v h L => v = some (.int (own_pick us ua ub uc ud uq)) ∧ h0 = h ∧ L = []
set_option maxRecDepth 65536 in
set_option maxHeartbeats 40000000 in
theorem rm_pick (l : Launch) (Z : State) (a0 : Array Value) (hw : ∀ d ∈ tables_1, d.before a0 Z = true) (us : Int32) (ua : Int32) (ub : Int32) (uc : Int32) (ud : Int32) (uq : Int32) (h0 : Heap)  :
    own_Met l Z (⟨"subjects/SearchTreeContainsPinLaw", "pick", "(IIIIII)I"⟩ : MethodName) method_3_code 6 (some .int) ({ frames := 0, cells := 0, slots := 0, locals := 0 } : Room) #[(.int us), (.int ua), (.int ub), (.int uc), (.int ud), (.int uq)] h0 (Q_pick Z us ua ub uc ud uq h0) := by
  refine own_enter (g0 := fun m => (mkF m 0 #[.val (.int us), .val (.int ua), .val (.int ub), .val (.int uc), .val (.int ud), .val (.int uq)] [])) (plainFor_of_name (by first | (simp [plainName, overriddenIn]; done) | decide +kernel)) (fun m => by first | (simp [entryFrame, mkF, argsToLocals, Value.category]; done) | rfl) ?_
  intro p e s m below meth c T hx hby hml hown hnm hZ hret hlk X e0
  replace hown : s.vm.findClass "subjects/SearchTreeContainsPinLaw" = some m.cls := hown
  show own_Run p e below _ (T.setTop (mkF m 0 #[.val (.int us), .val (.int ua), .val (.int ub), .val (.int uc), .val (.int ud), .val (.int uq)] []))
  refine own_go (fun _ kS => XS.iloadN X.here hx rfl (hb hby d1_0) rfl kS) ?_
  show own_Run p e below _ (T.setTop (mkF m 1 #[.val (.int us), .val (.int ua), .val (.int ub), .val (.int uc), .val (.int ud), .val (.int uq)] [(.int us)]))
  by_cases hc1 : us = (0 : Int32)
  · refine own_go (fun _ kS => XS.ifNo X.here hx rfl (hb hby d1_1) rfl ((if0 _ _).trans (teq hc1).2) kS) ?_
    show own_Run p e below _ (T.setTop (mkF m 4 #[.val (.int us), .val (.int ua), .val (.int ub), .val (.int uc), .val (.int ud), .val (.int uq)] []))
    refine own_go (fun _ kS => XS.iloadN X.here hx rfl (hb hby d1_4) rfl kS) ?_
    show own_Run p e below _ (T.setTop (mkF m 5 #[.val (.int us), .val (.int ua), .val (.int ub), .val (.int uc), .val (.int ud), .val (.int uq)] [(.int ua)]))
    refine own_retI X hx hret hlk (hb hby d1_5) (by decide) (by decide) ?_
    exact ⟨by rw [(by unfold own_pick; rw [if_pos hc1] : own_pick us ua ub uc ud uq = ua)], e0.symm, rfl⟩
  · refine own_go (fun _ kS => XS.ifYes X.here hx rfl (pc0 := 1) (pc' := 6) rfl (hb hby d1_1) rfl ((if0 _ _).trans (feq hc1).2) (by decide) (by decide) kS) ?_
    show own_Run p e below _ (T.setTop (mkF m 6 #[.val (.int us), .val (.int ua), .val (.int ub), .val (.int uc), .val (.int ud), .val (.int uq)] []))
    refine own_go (fun _ kS => XS.iloadN X.here hx rfl (hb hby d1_6) rfl kS) ?_
    show own_Run p e below _ (T.setTop (mkF m 7 #[.val (.int us), .val (.int ua), .val (.int ub), .val (.int uc), .val (.int ud), .val (.int uq)] [(.int us)]))
    refine own_go (fun _ kS => XS.iconst X.here hx rfl (hb hby d1_7) kS) ?_
    show own_Run p e below _ (T.setTop (mkF m 8 #[.val (.int us), .val (.int ua), .val (.int ub), .val (.int uc), .val (.int ud), .val (.int uq)] [(.int (1 : Int32)), (.int us)]))
    by_cases hc8 : us = (1 : Int32)
    · refine own_go (fun _ kS => XS.icmpNo X.here hx rfl (hb hby d1_8) rfl (teq hc8).2 kS) ?_
      show own_Run p e below _ (T.setTop (mkF m 11 #[.val (.int us), .val (.int ua), .val (.int ub), .val (.int uc), .val (.int ud), .val (.int uq)] []))
      refine own_go (fun _ kS => XS.iloadN X.here hx rfl (hb hby d1_11) rfl kS) ?_
      show own_Run p e below _ (T.setTop (mkF m 12 #[.val (.int us), .val (.int ua), .val (.int ub), .val (.int uc), .val (.int ud), .val (.int uq)] [(.int ub)]))
      refine own_retI X hx hret hlk (hb hby d1_12) (by decide) (by decide) ?_
      exact ⟨by rw [(by unfold own_pick; rw [if_neg hc1, if_pos hc8] : own_pick us ua ub uc ud uq = ub)], e0.symm, rfl⟩
    · refine own_go (fun _ kS => XS.icmpYes X.here hx rfl (pc0 := 8) (pc' := 13) rfl (hb hby d1_8) rfl (feq hc8).2 (by decide) (by decide) kS) ?_
      show own_Run p e below _ (T.setTop (mkF m 13 #[.val (.int us), .val (.int ua), .val (.int ub), .val (.int uc), .val (.int ud), .val (.int uq)] []))
      refine own_go (fun _ kS => XS.iloadN X.here hx rfl (hb hby d1_13) rfl kS) ?_
      show own_Run p e below _ (T.setTop (mkF m 14 #[.val (.int us), .val (.int ua), .val (.int ub), .val (.int uc), .val (.int ud), .val (.int uq)] [(.int us)]))
      refine own_go (fun _ kS => XS.iconst X.here hx rfl (hb hby d1_14) kS) ?_
      show own_Run p e below _ (T.setTop (mkF m 15 #[.val (.int us), .val (.int ua), .val (.int ub), .val (.int uc), .val (.int ud), .val (.int uq)] [(.int (2 : Int32)), (.int us)]))
      by_cases hc15 : us = (2 : Int32)
      · refine own_go (fun _ kS => XS.icmpNo X.here hx rfl (hb hby d1_15) rfl (teq hc15).2 kS) ?_
        show own_Run p e below _ (T.setTop (mkF m 18 #[.val (.int us), .val (.int ua), .val (.int ub), .val (.int uc), .val (.int ud), .val (.int uq)] []))
        refine own_go (fun _ kS => XS.iloadN X.here hx rfl (hb hby d1_18) rfl kS) ?_
        show own_Run p e below _ (T.setTop (mkF m 19 #[.val (.int us), .val (.int ua), .val (.int ub), .val (.int uc), .val (.int ud), .val (.int uq)] [(.int uc)]))
        refine own_retI X hx hret hlk (hb hby d1_19) (by decide) (by decide) ?_
        exact ⟨by rw [(by unfold own_pick; rw [if_neg hc1, if_neg hc8, if_pos hc15] : own_pick us ua ub uc ud uq = uc)], e0.symm, rfl⟩
      · refine own_go (fun _ kS => XS.icmpYes X.here hx rfl (pc0 := 15) (pc' := 20) rfl (hb hby d1_15) rfl (feq hc15).2 (by decide) (by decide) kS) ?_
        show own_Run p e below _ (T.setTop (mkF m 20 #[.val (.int us), .val (.int ua), .val (.int ub), .val (.int uc), .val (.int ud), .val (.int uq)] []))
        refine own_go (fun _ kS => XS.iloadN X.here hx rfl (hb hby d1_20) rfl kS) ?_
        show own_Run p e below _ (T.setTop (mkF m 21 #[.val (.int us), .val (.int ua), .val (.int ub), .val (.int uc), .val (.int ud), .val (.int uq)] [(.int us)]))
        refine own_go (fun _ kS => XS.iconst X.here hx rfl (hb hby d1_21) kS) ?_
        show own_Run p e below _ (T.setTop (mkF m 22 #[.val (.int us), .val (.int ua), .val (.int ub), .val (.int uc), .val (.int ud), .val (.int uq)] [(.int (3 : Int32)), (.int us)]))
        by_cases hc22 : us = (3 : Int32)
        · refine own_go (fun _ kS => XS.icmpNo X.here hx rfl (hb hby d1_22) rfl (teq hc22).2 kS) ?_
          show own_Run p e below _ (T.setTop (mkF m 25 #[.val (.int us), .val (.int ua), .val (.int ub), .val (.int uc), .val (.int ud), .val (.int uq)] []))
          refine own_go (fun _ kS => XS.iload X.here hx rfl (hb hby d1_25) rfl kS) ?_
          show own_Run p e below _ (T.setTop (mkF m 27 #[.val (.int us), .val (.int ua), .val (.int ub), .val (.int uc), .val (.int ud), .val (.int uq)] [(.int ud)]))
          refine own_retI X hx hret hlk (hb hby d1_27) (by decide) (by decide) ?_
          exact ⟨by rw [(by unfold own_pick; rw [if_neg hc1, if_neg hc8, if_neg hc15, if_pos hc22] : own_pick us ua ub uc ud uq = ud)], e0.symm, rfl⟩
        · refine own_go (fun _ kS => XS.icmpYes X.here hx rfl (pc0 := 22) (pc' := 28) rfl (hb hby d1_22) rfl (feq hc22).2 (by decide) (by decide) kS) ?_
          show own_Run p e below _ (T.setTop (mkF m 28 #[.val (.int us), .val (.int ua), .val (.int ub), .val (.int uc), .val (.int ud), .val (.int uq)] []))
          refine own_go (fun _ kS => XS.iloadN X.here hx rfl (hb hby d1_28) rfl kS) ?_
          show own_Run p e below _ (T.setTop (mkF m 29 #[.val (.int us), .val (.int ua), .val (.int ub), .val (.int uc), .val (.int ud), .val (.int uq)] [(.int us)]))
          refine own_go (fun _ kS => XS.iconst X.here hx rfl (hb hby d1_29) kS) ?_
          show own_Run p e below _ (T.setTop (mkF m 30 #[.val (.int us), .val (.int ua), .val (.int ub), .val (.int uc), .val (.int ud), .val (.int uq)] [(.int (5 : Int32)), (.int us)]))
          by_cases hc30 : us = (5 : Int32)
          · refine own_go (fun _ kS => XS.icmpNo X.here hx rfl (hb hby d1_30) rfl (teq hc30).2 kS) ?_
            show own_Run p e below _ (T.setTop (mkF m 33 #[.val (.int us), .val (.int ua), .val (.int ub), .val (.int uc), .val (.int ud), .val (.int uq)] []))
            refine own_go (fun _ kS => XS.iloadN X.here hx rfl (hb hby d1_33) rfl kS) ?_
            show own_Run p e below _ (T.setTop (mkF m 34 #[.val (.int us), .val (.int ua), .val (.int ub), .val (.int uc), .val (.int ud), .val (.int uq)] [(.int ua)]))
            refine own_go (fun _ kS => XS.iconst X.here hx rfl (hb hby d1_34) kS) ?_
            show own_Run p e below _ (T.setTop (mkF m 35 #[.val (.int us), .val (.int ua), .val (.int ub), .val (.int uc), .val (.int ud), .val (.int uq)] [(.int (1 : Int32)), (.int ua)]))
            refine own_go (fun _ kS => XS.iadd X.here hx rfl (hb hby d1_35) rfl kS) ?_
            show own_Run p e below _ (T.setTop (mkF m 36 #[.val (.int us), .val (.int ua), .val (.int ub), .val (.int uc), .val (.int ud), .val (.int uq)] [(.int (ua + (1 : Int32)))]))
            refine own_retI X hx hret hlk (hb hby d1_36) (by decide) (by decide) ?_
            exact ⟨by rw [(by unfold own_pick; rw [if_neg hc1, if_neg hc8, if_neg hc15, if_neg hc22, if_pos hc30] : own_pick us ua ub uc ud uq = (ua + (1 : Int32)))], e0.symm, rfl⟩
          · refine own_go (fun _ kS => XS.icmpYes X.here hx rfl (pc0 := 30) (pc' := 37) rfl (hb hby d1_30) rfl (feq hc30).2 (by decide) (by decide) kS) ?_
            show own_Run p e below _ (T.setTop (mkF m 37 #[.val (.int us), .val (.int ua), .val (.int ub), .val (.int uc), .val (.int ud), .val (.int uq)] []))
            refine own_go (fun _ kS => XS.iloadN X.here hx rfl (hb hby d1_37) rfl kS) ?_
            show own_Run p e below _ (T.setTop (mkF m 38 #[.val (.int us), .val (.int ua), .val (.int ub), .val (.int uc), .val (.int ud), .val (.int uq)] [(.int us)]))
            refine own_go (fun _ kS => XS.bipush X.here hx rfl (hb hby d1_38) kS) ?_
            show own_Run p e below _ (T.setTop (mkF m 40 #[.val (.int us), .val (.int ua), .val (.int ub), .val (.int uc), .val (.int ud), .val (.int uq)] [(.int (6 : Int32)), (.int us)]))
            by_cases hc40 : us = (6 : Int32)
            · refine own_go (fun _ kS => XS.icmpNo X.here hx rfl (hb hby d1_40) rfl (teq hc40).2 kS) ?_
              show own_Run p e below _ (T.setTop (mkF m 43 #[.val (.int us), .val (.int ua), .val (.int ub), .val (.int uc), .val (.int ud), .val (.int uq)] []))
              refine own_go (fun _ kS => XS.iloadN X.here hx rfl (hb hby d1_43) rfl kS) ?_
              show own_Run p e below _ (T.setTop (mkF m 44 #[.val (.int us), .val (.int ua), .val (.int ub), .val (.int uc), .val (.int ud), .val (.int uq)] [(.int ua)]))
              refine own_go (fun _ kS => XS.iconst X.here hx rfl (hb hby d1_44) kS) ?_
              show own_Run p e below _ (T.setTop (mkF m 45 #[.val (.int us), .val (.int ua), .val (.int ub), .val (.int uc), .val (.int ud), .val (.int uq)] [(.int (1 : Int32)), (.int ua)]))
              refine own_go (fun _ kS => XS.isub X.here hx rfl (hb hby d1_45) rfl kS) ?_
              show own_Run p e below _ (T.setTop (mkF m 46 #[.val (.int us), .val (.int ua), .val (.int ub), .val (.int uc), .val (.int ud), .val (.int uq)] [(.int (ua - (1 : Int32)))]))
              refine own_retI X hx hret hlk (hb hby d1_46) (by decide) (by decide) ?_
              exact ⟨by rw [(by unfold own_pick; rw [if_neg hc1, if_neg hc8, if_neg hc15, if_neg hc22, if_neg hc30, if_pos hc40] : own_pick us ua ub uc ud uq = (ua - (1 : Int32)))], e0.symm, rfl⟩
            · refine own_go (fun _ kS => XS.icmpYes X.here hx rfl (pc0 := 40) (pc' := 47) rfl (hb hby d1_40) rfl (feq hc40).2 (by decide) (by decide) kS) ?_
              show own_Run p e below _ (T.setTop (mkF m 47 #[.val (.int us), .val (.int ua), .val (.int ub), .val (.int uc), .val (.int ud), .val (.int uq)] []))
              refine own_go (fun _ kS => XS.iload X.here hx rfl (hb hby d1_47) rfl kS) ?_
              show own_Run p e below _ (T.setTop (mkF m 49 #[.val (.int us), .val (.int ua), .val (.int ub), .val (.int uc), .val (.int ud), .val (.int uq)] [(.int uq)]))
              refine own_retI X hx hret hlk (hb hby d1_49) (by decide) (by decide) ?_
              exact ⟨by rw [(by unfold own_pick; rw [if_neg hc1, if_neg hc8, if_neg hc15, if_neg hc22, if_neg hc30, if_neg hc40] : own_pick us ua ub uc ud uq = uq)], e0.symm, rfl⟩
theorem d2_0 : decode prog_79_method_1_code 0 = .ok (.aload_n 0, 1) := by decide +kernel
theorem d2_1 : decode prog_79_method_1_code 1 = .ok (.invokespecial 1, 3) := by decide +kernel
theorem d2_4 : decode prog_79_method_1_code 4 = .ok (.aload_n 0, 1) := by decide +kernel
theorem d2_5 : decode prog_79_method_1_code 5 = .ok (.iload_n 1, 1) := by decide +kernel
theorem d2_6 : decode prog_79_method_1_code 6 = .ok (.putfield 7, 3) := by decide +kernel
theorem d2_9 : decode prog_79_method_1_code 9 = .ok (.return_, 1) := by decide +kernel
abbrev Q_ninit (Z : State) (a : Addr) (u : Int32) (n0 : Nat) (h0 : Heap) : Option Value → Heap → List Loc → Prop := fun v h L => v = none ∧ Fr n0 L ∧ Keep h0 h [a] ∧ Exa Z h a "subjects/SearchTree$Node" ∧ Fld Z h a "subjects/SearchTree$Node" "key" "I" (.int u) ∧ Fld Z h a "subjects/SearchTree$Node" "left" "Lsubjects/SearchTree$Node;" .null ∧ Fld Z h a "subjects/SearchTree$Node" "right" "Lsubjects/SearchTree$Node;" .null
set_option maxRecDepth 65536 in
set_option maxHeartbeats 40000000 in
theorem rm_ninit (l : Launch) (Z : State) (a0 : Array Value) (hw : ∀ d ∈ tables_1, d.before a0 Z = true) (a : Addr) (u : Int32) (n0 : Nat) (h0 : Heap) (Z0 : n0 ≤ h0.size) (E_a : Exa Z h0 a "subjects/SearchTree$Node") (g_a : n0 ≤ a) (F_key : Fld Z h0 a "subjects/SearchTree$Node" "key" "I" (.int (0 : Int32))) (F_left : Fld Z h0 a "subjects/SearchTree$Node" "left" "Lsubjects/SearchTree$Node;" .null) (F_right : Fld Z h0 a "subjects/SearchTree$Node" "right" "Lsubjects/SearchTree$Node;" .null) :
    own_Met l Z (⟨"subjects/SearchTree$Node", "<init>", "(I)V"⟩ : MethodName) prog_79_method_1_code 2 none ({ frames := 1, cells := 0, slots := 0, locals := 12 } : Room) #[(.ref a), (.int u)] h0 (Q_ninit Z a u n0 h0) := by
  refine own_enter (g0 := fun m => (mkF m 0 #[.val (.ref a), .val (.int u)] [])) (plainFor_of_name (by first | (simp [plainName, overriddenIn]; done) | decide +kernel)) (fun m => by first | (simp [entryFrame, mkF, argsToLocals, Value.category]; done) | rfl) ?_
  intro p e s m below meth c T hx hby hml hown hnm hZ hret hlk X e0
  replace hown : s.vm.findClass "subjects/SearchTree$Node" = some m.cls := hown
  have N := Fr.nil n0
  have hz := Z0
  have K := Keep.refl h0 [a]
  show own_Run p e below _ (T.setTop (mkF m 0 #[.val (.ref a), .val (.int u)] []))
  refine own_go (fun _ kS => XS.aloadN X.here hx rfl (hb hby d2_0) rfl rfl kS) ?_
  show own_Run p e below _ (T.setTop (mkF m 1 #[.val (.ref a), .val (.int u)] [(.ref a)]))
  refine own_initO X hx hZ e0 hown (hw _ (List.mem_of_getElem? (i := 22) rfl)) (hw _ (List.mem_of_getElem? (i := 7) rfl)) (hw _ (List.mem_of_getElem? (i := 8) rfl)) rfl (by rw [hml]; rfl) rfl (hb hby d2_1) (by decide) 0 (by show 2 * 0 + _ ≤ _; exact Nat.le_of_eq rfl) (by decide) (fun T1 X1 e1 => ?_)
  show own_Run p e below _ (T1.setTop (mkF m 4 #[.val (.ref a), .val (.int u)] []))
  refine own_go (fun _ kS => XS.aloadN X1.here hx rfl (hb hby d2_4) rfl rfl kS) ?_
  show own_Run p e below _ (T1.setTop (mkF m 5 #[.val (.ref a), .val (.int u)] [(.ref a)]))
  refine own_go (fun _ kS => XS.iloadN X1.here hx rfl (hb hby d2_5) rfl kS) ?_
  show own_Run p e below _ (T1.setTop (mkF m 6 #[.val (.ref a), .val (.int u)] [(.int u), (.ref a)]))
  refine own_putF X1 hx hZ e1 hown .int (hw _ (List.mem_of_getElem? (i := 23) rfl)) F_key E_a (Or.inr ⟨(hw _ (List.mem_of_getElem? (i := 24) rfl)), rfl, hnm⟩) (hw _ (List.mem_of_getElem? (i := 17) rfl)) (v' := (.int u)) (by decide) rfl rfl rfl rfl (hb hby d2_6) (fun T2 h2 X2 e2 W2 => ?_)
  replace E_a := E_a.wr W2
  replace F_key := F_key.same W2
  replace F_left := F_left.other W2 (Or.inr (slot_ne (Or.inl (hw _ (List.mem_of_getElem? (i := 29) rfl))) (Or.inr (hw _ (List.mem_of_getElem? (i := 24) rfl))) (by decide) (t := (.object "subjects/SearchTree$Node")) (t' := .int) (by decide) (by decide)))
  replace F_right := F_right.other W2 (Or.inr (slot_ne (Or.inl (hw _ (List.mem_of_getElem? (i := 27) rfl))) (Or.inr (hw _ (List.mem_of_getElem? (i := 24) rfl))) (by decide) (t := (.object "subjects/SearchTree$Node")) (t' := .int) (by decide) (by decide)))
  replace hz := Nat.le_trans hz (Nat.le_of_eq W2.size.symm)
  replace N := Fr.snoc X2 N g_a
  replace K := K.wr W2 (Or.inl (List.mem_of_getElem? (i := 0) rfl))
  show own_Run p e below _ (T2.setTop (mkF m 9 #[.val (.ref a), .val (.int u)] []))
  refine own_retV X2 hx hret hlk (hb hby d2_9) (by decide) (by decide) ?_
  rw [e2]
  exact ⟨rfl, N, K, E_a, F_key, F_left, F_right⟩
theorem own_pd0 : parseMethodDescriptor "(I)V" = some ⟨[.int], none⟩ := by decide +kernel
theorem d3_0 : decode prog_78_method_2_code 0 = .ok (.aload_n 0, 1) := by decide +kernel
theorem d3_1 : decode prog_78_method_2_code 1 = .ok (.getfield 7, 3) := by decide +kernel
theorem d3_4 : decode prog_78_method_2_code 4 = .ok (.ifnonnull 16, 3) := by decide +kernel
theorem d3_7 : decode prog_78_method_2_code 7 = .ok (.aload_n 0, 1) := by decide +kernel
theorem d3_8 : decode prog_78_method_2_code 8 = .ok (.new 13, 3) := by decide +kernel
theorem d3_11 : decode prog_78_method_2_code 11 = .ok (.dup, 1) := by decide +kernel
theorem d3_12 : decode prog_78_method_2_code 12 = .ok (.iload_n 1, 1) := by decide +kernel
theorem d3_13 : decode prog_78_method_2_code 13 = .ok (.invokespecial 15, 3) := by decide +kernel
theorem d3_16 : decode prog_78_method_2_code 16 = .ok (.putfield 7, 3) := by decide +kernel
theorem d3_19 : decode prog_78_method_2_code 19 = .ok (.return_, 1) := by decide +kernel
theorem d3_20 : decode prog_78_method_2_code 20 = .ok (.aload_n 0, 1) := by decide +kernel
theorem d3_21 : decode prog_78_method_2_code 21 = .ok (.getfield 7, 3) := by decide +kernel
theorem d3_24 : decode prog_78_method_2_code 24 = .ok (.astore_n 2, 1) := by decide +kernel
theorem d3_25 : decode prog_78_method_2_code 25 = .ok (.aload_n 2, 1) := by decide +kernel
theorem d3_26 : decode prog_78_method_2_code 26 = .ok (.getfield 18, 3) := by decide +kernel
theorem d3_29 : decode prog_78_method_2_code 29 = .ok (.iload_n 1, 1) := by decide +kernel
theorem d3_30 : decode prog_78_method_2_code 30 = .ok (.if_icmp .eq 65, 3) := by decide +kernel
theorem d3_33 : decode prog_78_method_2_code 33 = .ok (.iload_n 1, 1) := by decide +kernel
theorem d3_34 : decode prog_78_method_2_code 34 = .ok (.aload_n 2, 1) := by decide +kernel
theorem d3_35 : decode prog_78_method_2_code 35 = .ok (.getfield 18, 3) := by decide +kernel
theorem d3_38 : decode prog_78_method_2_code 38 = .ok (.if_icmp .ge 30, 3) := by decide +kernel
theorem d3_41 : decode prog_78_method_2_code 41 = .ok (.aload_n 2, 1) := by decide +kernel
theorem d3_42 : decode prog_78_method_2_code 42 = .ok (.getfield 22, 3) := by decide +kernel
theorem d3_45 : decode prog_78_method_2_code 45 = .ok (.ifnonnull 15, 3) := by decide +kernel
theorem d3_48 : decode prog_78_method_2_code 48 = .ok (.aload_n 2, 1) := by decide +kernel
theorem d3_49 : decode prog_78_method_2_code 49 = .ok (.new 13, 3) := by decide +kernel
theorem d3_52 : decode prog_78_method_2_code 52 = .ok (.dup, 1) := by decide +kernel
theorem d3_53 : decode prog_78_method_2_code 53 = .ok (.iload_n 1, 1) := by decide +kernel
theorem d3_54 : decode prog_78_method_2_code 54 = .ok (.invokespecial 15, 3) := by decide +kernel
theorem d3_57 : decode prog_78_method_2_code 57 = .ok (.putfield 22, 3) := by decide +kernel
theorem d3_60 : decode prog_78_method_2_code 60 = .ok (.aload_n 2, 1) := by decide +kernel
theorem d3_61 : decode prog_78_method_2_code 61 = .ok (.getfield 22, 3) := by decide +kernel
theorem d3_64 : decode prog_78_method_2_code 64 = .ok (.astore_n 2, 1) := by decide +kernel
theorem d3_65 : decode prog_78_method_2_code 65 = .ok (.goto (-40), 3) := by decide +kernel
theorem d3_68 : decode prog_78_method_2_code 68 = .ok (.aload_n 2, 1) := by decide +kernel
theorem d3_69 : decode prog_78_method_2_code 69 = .ok (.getfield 25, 3) := by decide +kernel
theorem d3_72 : decode prog_78_method_2_code 72 = .ok (.ifnonnull 15, 3) := by decide +kernel
theorem d3_75 : decode prog_78_method_2_code 75 = .ok (.aload_n 2, 1) := by decide +kernel
theorem d3_76 : decode prog_78_method_2_code 76 = .ok (.new 13, 3) := by decide +kernel
theorem d3_79 : decode prog_78_method_2_code 79 = .ok (.dup, 1) := by decide +kernel
theorem d3_80 : decode prog_78_method_2_code 80 = .ok (.iload_n 1, 1) := by decide +kernel
theorem d3_81 : decode prog_78_method_2_code 81 = .ok (.invokespecial 15, 3) := by decide +kernel
theorem d3_84 : decode prog_78_method_2_code 84 = .ok (.putfield 25, 3) := by decide +kernel
theorem d3_87 : decode prog_78_method_2_code 87 = .ok (.aload_n 2, 1) := by decide +kernel
theorem d3_88 : decode prog_78_method_2_code 88 = .ok (.getfield 25, 3) := by decide +kernel
theorem d3_91 : decode prog_78_method_2_code 91 = .ok (.astore_n 2, 1) := by decide +kernel
theorem d3_92 : decode prog_78_method_2_code 92 = .ok (.goto (-67), 3) := by decide +kernel
theorem d3_95 : decode prog_78_method_2_code 95 = .ok (.return_, 1) := by decide +kernel
abbrev Q_add (Z : State) (t : Addr) (key : Int32) (r : Value) (n : Nat) (ws : List Addr) (S : Int32 → Prop) (n0 : Nat) (h0 : Heap) : Option Value → Heap → List Loc → Prop := fun v h L => v = none ∧ Fr n0 L ∧ Keep h0 h (t :: ws) ∧ Exa Z h t "subjects/SearchTree" ∧ ∃ (r2 : Value) (ws2 : List Addr), Fld Z h t "subjects/SearchTree" "root" "Lsubjects/SearchTree$Node;" r2 ∧ own_T Z h (n + 1) r2 ws2 (fun y => S y ∨ y = key) ∧ ∀ y ∈ ws2, y ∈ ws ∨ h0.size ≤ y
set_option maxRecDepth 65536 in
set_option maxHeartbeats 40000000 in
theorem rm_add (l : Launch) (Z : State) (a0 : Array Value) (hw : ∀ d ∈ tables_1, d.before a0 Z = true) (t : Addr) (key : Int32) (r : Value) (n : Nat) (ws : List Addr) (S : Int32 → Prop) (n0 : Nat) (h0 : Heap) (Z0 : n0 ≤ h0.size) (E_t : Exa Z h0 t "subjects/SearchTree") (g_t : n0 ≤ t) (F_root : Fld Z h0 t "subjects/SearchTree" "root" "Lsubjects/SearchTree$Node;" r) (hT : own_T Z h0 n r ws S) (htw : t ∉ ws) (gws : ∀ y ∈ ws, n0 ≤ y) :
    own_Met l Z (⟨"subjects/SearchTree", "add", "(I)V"⟩ : MethodName) prog_78_method_2_code 3 none ({ frames := 2, cells := 1, slots := 3, locals := 27 } : Room) #[(.ref t), (.int key)] h0 (Q_add Z t key r n ws S n0 h0) := by
  refine own_enter (g0 := fun m => (mkF m 0 #[.val (.ref t), .val (.int key), .unset] [])) (plainFor_of_name (by first | (simp [plainName, overriddenIn]; done) | decide +kernel)) (fun m => by first | (simp [entryFrame, mkF, argsToLocals, Value.category]; done) | rfl) ?_
  intro p e s m below meth c T hx hby hml hown hnm hZ hret hlk X e0
  replace hown : s.vm.findClass "subjects/SearchTree" = some m.cls := hown
  have N := Fr.nil n0
  have hz := Z0
  have K := Keep.refl h0 [t]
  show own_Run p e below _ (T.setTop (mkF m 0 #[.val (.ref t), .val (.int key), .unset] []))
  rcases hT.cases with hq | ⟨ca, hq⟩
  · rw [hq] at F_root hT
    show own_Run p e below _ (T.setTop (mkF m 0 #[.val (.ref t), .val (.int key), .unset] []))
    refine own_go (fun _ kS => XS.aloadN X.here hx rfl (hb hby d3_0) rfl rfl kS) ?_
    show own_Run p e below _ (T.setTop (mkF m 1 #[.val (.ref t), .val (.int key), .unset] [(.ref t)]))
    refine own_getF X hx hZ e0 hown (hw _ (List.mem_of_getElem? (i := 14) rfl)) F_root rfl rfl (hb hby d3_1) (fun T1 X1 e1 => ?_)
    show own_Run p e below _ (T1.setTop (mkF m 4 #[.val (.ref t), .val (.int key), .unset] [.null]))
    refine own_go (fun _ kS => XS.ifnonnullNo X1.here hx rfl (hb hby d3_4) rfl kS) ?_
    show own_Run p e below _ (T1.setTop (mkF m 7 #[.val (.ref t), .val (.int key), .unset] []))
    refine own_go (fun _ kS => XS.aloadN X1.here hx rfl (hb hby d3_7) rfl rfl kS) ?_
    show own_Run p e below _ (T1.setTop (mkF m 8 #[.val (.ref t), .val (.int key), .unset] [(.ref t)]))
    refine own_newO X1 hx hZ e1 hown (hw _ (List.mem_of_getElem? (i := 16) rfl)) (hw _ (List.mem_of_getElem? (i := 17) rfl)) (hw _ (List.mem_of_getElem? (i := 18) rfl)) rfl (hb hby d3_8) (by decide) (by decide) (fun b2 T2 h2 gb2 X2 e2 E2 A2 D2 => ?_)
    have ne_t_b2 : t ≠ b2 := Nat.ne_of_lt (Nat.lt_of_lt_of_le E_t.lt (Nat.le_of_eq gb2.symm))
    have g_b2 : n0 ≤ b2 := Nat.le_trans hz (Nat.le_of_eq gb2.symm)
    have z_b2 : h0.size ≤ b2 := Nat.le_trans K.1 (Nat.le_of_eq gb2.symm)
    replace E_t := E_t.ext E2
    replace F_root := F_root.ext E2
    replace hz := Nat.le_trans hz E2.1
    replace K := K.ext E2
    have F2_key : Fld Z h2 b2 "subjects/SearchTree$Node" "key" "I" (.int (0 : Int32)) := D2 (Or.inr (hw _ (List.mem_of_getElem? (i := 24) rfl))) (ty := .int) (by decide)
    have F2_right : Fld Z h2 b2 "subjects/SearchTree$Node" "right" "Lsubjects/SearchTree$Node;" .null := D2 (Or.inl (hw _ (List.mem_of_getElem? (i := 27) rfl))) (ty := (.object "subjects/SearchTree$Node")) (by decide)
    have F2_left : Fld Z h2 b2 "subjects/SearchTree$Node" "left" "Lsubjects/SearchTree$Node;" .null := D2 (Or.inl (hw _ (List.mem_of_getElem? (i := 29) rfl))) (ty := (.object "subjects/SearchTree$Node")) (by decide)
    show own_Run p e below _ (T2.setTop (mkF m 11 #[.val (.ref t), .val (.int key), .unset] [(.ref b2), (.ref t)]))
    refine own_go (fun _ kS => XS.dup X2.here hx rfl (hb hby d3_11) rfl rfl kS) ?_
    show own_Run p e below _ (T2.setTop (mkF m 12 #[.val (.ref t), .val (.int key), .unset] [(.ref b2), (.ref b2), (.ref t)]))
    refine own_go (fun _ kS => XS.iloadN X2.here hx rfl (hb hby d3_12) rfl kS) ?_
    show own_Run p e below _ (T2.setTop (mkF m 13 #[.val (.ref t), .val (.int key), .unset] [(.int key), (.ref b2), (.ref b2), (.ref t)]))
    refine own_callN X2 hx hZ e2 hown (⟨"subjects/SearchTree$Node", "<init>", "(I)V"⟩ : MethodName) rfl (hw _ (List.mem_of_getElem? (i := 19) rfl)) (hw _ (List.mem_of_getElem? (i := 20) rfl)) (hw _ (List.mem_of_getElem? (i := 18) rfl)) (hw _ (List.mem_of_getElem? (i := 21) rfl)) (by decide) b2 [(.int key)] [(.ref b2), (.ref t)] (rm_ninit l Z a0 hw b2 key n0 h2 hz A2 g_b2 F2_key F2_left F2_right) (by decide) 2 (by decide) (by decide) (by decide) rfl (by rw [hml]; rfl) (lenOf own_pd0 rfl) rfl (by show 2 * 0 + _ ≤ _; exact Nat.le_of_eq rfl) (hb hby d3_13) (fun v3 h3 L3 T3 Q3 X3 e3 => ?_)
    obtain ⟨rfl, Nq3, Kq3, A3, F3_key, F3_left, F3_right⟩ := Q3
    replace E_t := E_t.keep Kq3
    replace F_root := F_root.keep Kq3 (ninS ne_t_b2 nin0)
    replace hz := Nat.le_trans hz Kq3.1
    replace N := N.app Nq3
    replace K := K.trans Kq3 (allS (Or.inr z_b2) all0)
    show own_Run p e below _ (T3.setTop (mkF m 16 #[.val (.ref t), .val (.int key), .unset] [(.ref b2), (.ref t)]))
    refine own_putF X3 hx hZ e3 hown (.object "subjects/SearchTree$Node") (hw _ (List.mem_of_getElem? (i := 14) rfl)) F_root E_t (Or.inl (hw _ (List.mem_of_getElem? (i := 15) rfl))) (hw _ (List.mem_of_getElem? (i := 1) rfl)) (v' := (.ref b2)) (by decide) rfl rfl rfl rfl (hb hby d3_16) (fun T4 h4 X4 e4 W4 => ?_)
    replace E_t := E_t.wr W4
    replace F_root := F_root.same W4
    replace A3 := A3.wr W4
    replace F3_key := F3_key.other W4 (Or.inl (Ne.symm ne_t_b2))
    replace F3_left := F3_left.other W4 (Or.inl (Ne.symm ne_t_b2))
    replace F3_right := F3_right.other W4 (Or.inl (Ne.symm ne_t_b2))
    replace hz := Nat.le_trans hz (Nat.le_of_eq W4.size.symm)
    replace N := Fr.snoc X4 N g_t
    replace K := K.wr W4 (Or.inl (List.mem_of_getElem? (i := 0) rfl))
    show own_Run p e below _ (T4.setTop (mkF m 19 #[.val (.ref t), .val (.int key), .unset] []))
    refine own_retV X4 hx hret hlk (hb hby d3_19) (by decide) (by decide) ?_
    rw [e4]
    obtain ⟨-, hS0⟩ := hT.null_
    exact ⟨rfl, N, own_weak K (fun y hy => by cases List.mem_singleton.mp hy; exact List.mem_cons_self ..), E_t, _, [b2], F_root, (own_leaf A3 F3_key F3_left F3_right).congr (fun y => ⟨Or.inr, fun q => q.elim (fun w => absurd w (hS0 y)) id⟩), fun y hy => Or.inr (by cases List.mem_singleton.mp hy; exact z_b2)⟩
  · rw [hq] at F_root hT
    show own_Run p e below _ (T.setTop (mkF m 0 #[.val (.ref t), .val (.int key), .unset] []))
    refine own_go (fun _ kS => XS.aloadN X.here hx rfl (hb hby d3_0) rfl rfl kS) ?_
    show own_Run p e below _ (T.setTop (mkF m 1 #[.val (.ref t), .val (.int key), .unset] [(.ref t)]))
    refine own_getF X hx hZ e0 hown (hw _ (List.mem_of_getElem? (i := 14) rfl)) F_root rfl rfl (hb hby d3_1) (fun T5 X5 e5 => ?_)
    show own_Run p e below _ (T5.setTop (mkF m 4 #[.val (.ref t), .val (.int key), .unset] [(.ref ca)]))
    refine own_go (fun _ kS => XS.ifnonnullYes X5.here hx rfl (pc0 := 4) (pc' := 20) rfl (hb hby d3_4) rfl (by decide) (by decide) kS) ?_
    show own_Run p e below _ (T5.setTop (mkF m 20 #[.val (.ref t), .val (.int key), .unset] []))
    refine own_go (fun _ kS => XS.aloadN X5.here hx rfl (hb hby d3_20) rfl rfl kS) ?_
    show own_Run p e below _ (T5.setTop (mkF m 21 #[.val (.ref t), .val (.int key), .unset] [(.ref t)]))
    refine own_getF X5 hx hZ e5 hown (hw _ (List.mem_of_getElem? (i := 14) rfl)) F_root rfl rfl (hb hby d3_21) (fun T6 X6 e6 => ?_)
    show own_Run p e below _ (T6.setTop (mkF m 24 #[.val (.ref t), .val (.int key), .unset] [(.ref ca)]))
    refine own_go (fun _ kS => XS.astoreN X6.here hx rfl (hb hby d3_24) rfl rfl (l' := #[.val (.ref t), .val (.int key), .val (.ref ca)]) rfl kS) ?_
    show own_Run p e below _ (T6.setTop (mkF m 25 #[.val (.ref t), .val (.int key), .val (.ref ca)] []))
    have loop : ∀ (nn : Nat) (ca : Addr) (cw : List Addr) (CS : Int32 → Prop) (T' : State) (h' : Heap) (locs : List Loc), own_T Z h' nn (.ref ca) cw CS → Stand p l e ({ frames := 2, cells := 1, slots := 3, locals := 27 } : Room) s m #[(.ref t), (.int key)] below meth c T' locs 0 0 → T'.heap = h' → Fr n0 locs → n0 ≤ h'.size → (∀ y ∈ cw, n0 ≤ y) → (∀ (h2 : Heap) (L2 : List Loc) (cw2 : List Addr), Keep h' h2 cw → own_T Z h2 (nn + 1) (.ref ca) cw2 (fun y => CS y ∨ y = key) → (∀ y ∈ cw2, y ∈ cw ∨ h'.size ≤ y) → Fr n0 L2 → Q_add Z t key r n ws S n0 h0 none h2 L2) → own_Run p e below (own_End s ({ frames := 2, cells := 1, slots := 3, locals := 27 } : Room) (Q_add Z t key r n ws S n0 h0)) (T'.setTop (mkF m 25 #[.val (.ref t), .val (.int key), .val (.ref ca)] [])) := by
      intro nn
      induction nn with
      | zero =>
        intro ca cw CS T' h' locs t0 X' e' N hz gw fin
        exact t0.zero_.elim
      | succ nn ih =>
        intro ca cw CS T' h' locs t0 X' e' N hz gw fin
        obtain ⟨kk, tl, tr, wl, wr, Sl, Sr, E_c, F_key, F_left, F_right, tL, tR, rfl, d, hS, hl, hr⟩ := t0.ref_
        have hca := E_c.lt
        have hwl := tL.lt
        have hwr := tR.lt
        have g_ca := gw ca (List.mem_cons_self ..)
        have K := Keep.refl h' [ca]
        show own_Run p e below _ (T'.setTop (mkF m 25 #[.val (.ref t), .val (.int key), .val (.ref ca)] []))
        refine own_go (fun _ kS => XS.aloadN X'.here hx rfl (hb hby d3_25) rfl rfl kS) ?_
        show own_Run p e below _ (T'.setTop (mkF m 26 #[.val (.ref t), .val (.int key), .val (.ref ca)] [(.ref ca)]))
        refine own_getR X' hx hZ e' hown (hw _ (List.mem_of_getElem? (i := 25) rfl)) F_key rfl rfl (hb hby d3_26) ?_
        show own_Run p e below _ (T'.setTop (mkF m 29 #[.val (.ref t), .val (.int key), .val (.ref ca)] [(.int kk)]))
        refine own_go (fun _ kS => XS.iloadN X'.here hx rfl (hb hby d3_29) rfl kS) ?_
        show own_Run p e below _ (T'.setTop (mkF m 30 #[.val (.ref t), .val (.int key), .val (.ref ca)] [(.int key), (.int kk)]))
        by_cases hc30 : kk = key
        · refine own_go (fun _ kS => XS.icmpYes X'.here hx rfl (pc0 := 30) (pc' := 95) rfl (hb hby d3_30) rfl (teq hc30).1 (by decide) (by decide) kS) ?_
          show own_Run p e below _ (T'.setTop (mkF m 95 #[.val (.ref t), .val (.int key), .val (.ref ca)] []))
          refine own_retV X' hx hret hlk (hb hby d3_95) (by decide) (by decide) ?_
          rw [e']
          exact fin _ _ _ (Keep.refl _ _) (t0.mono.congr (fun y => ⟨Or.inl, fun q => q.elim id (fun w => by subst w; exact (hS y).mpr (Or.inl hc30.symm))⟩)) (fun y hy => Or.inl hy) N
        · refine own_go (fun _ kS => XS.icmpNo X'.here hx rfl (hb hby d3_30) rfl (feq hc30).1 kS) ?_
          show own_Run p e below _ (T'.setTop (mkF m 33 #[.val (.ref t), .val (.int key), .val (.ref ca)] []))
          refine own_go (fun _ kS => XS.iloadN X'.here hx rfl (hb hby d3_33) rfl kS) ?_
          show own_Run p e below _ (T'.setTop (mkF m 34 #[.val (.ref t), .val (.int key), .val (.ref ca)] [(.int key)]))
          refine own_go (fun _ kS => XS.aloadN X'.here hx rfl (hb hby d3_34) rfl rfl kS) ?_
          show own_Run p e below _ (T'.setTop (mkF m 35 #[.val (.ref t), .val (.int key), .val (.ref ca)] [(.ref ca), (.int key)]))
          refine own_getR X' hx hZ e' hown (hw _ (List.mem_of_getElem? (i := 25) rfl)) F_key rfl rfl (hb hby d3_35) ?_
          show own_Run p e below _ (T'.setTop (mkF m 38 #[.val (.ref t), .val (.int key), .val (.ref ca)] [(.int kk), (.int key)]))
          by_cases hc38 : key < kk
          · refine own_go (fun _ kS => XS.icmpNo X'.here hx rfl (hb hby d3_38) rfl (tlt hc38).2.1 kS) ?_
            show own_Run p e below _ (T'.setTop (mkF m 41 #[.val (.ref t), .val (.int key), .val (.ref ca)] []))
            rcases tL.cases with hq2 | ⟨cl, hq2⟩
            · rw [hq2] at F_left tL
              show own_Run p e below _ (T'.setTop (mkF m 41 #[.val (.ref t), .val (.int key), .val (.ref ca)] []))
              refine own_go (fun _ kS => XS.aloadN X'.here hx rfl (hb hby d3_41) rfl rfl kS) ?_
              show own_Run p e below _ (T'.setTop (mkF m 42 #[.val (.ref t), .val (.int key), .val (.ref ca)] [(.ref ca)]))
              refine own_getR X' hx hZ e' hown (hw _ (List.mem_of_getElem? (i := 28) rfl)) F_left rfl rfl (hb hby d3_42) ?_
              show own_Run p e below _ (T'.setTop (mkF m 45 #[.val (.ref t), .val (.int key), .val (.ref ca)] [.null]))
              refine own_go (fun _ kS => XS.ifnonnullNo X'.here hx rfl (hb hby d3_45) rfl kS) ?_
              show own_Run p e below _ (T'.setTop (mkF m 48 #[.val (.ref t), .val (.int key), .val (.ref ca)] []))
              refine own_go (fun _ kS => XS.aloadN X'.here hx rfl (hb hby d3_48) rfl rfl kS) ?_
              show own_Run p e below _ (T'.setTop (mkF m 49 #[.val (.ref t), .val (.int key), .val (.ref ca)] [(.ref ca)]))
              refine own_newO X' hx hZ e' hown (hw _ (List.mem_of_getElem? (i := 16) rfl)) (hw _ (List.mem_of_getElem? (i := 17) rfl)) (hw _ (List.mem_of_getElem? (i := 18) rfl)) rfl (hb hby d3_49) (by decide) (by decide) (fun b7 T7 h7 gb7 X7 e7 E7 A7 D7 => ?_)
              have nt_tR_b7 := tR.fresh gb7
              have ne_ca_b7 : ca ≠ b7 := Nat.ne_of_lt (Nat.lt_of_lt_of_le E_c.lt (Nat.le_of_eq gb7.symm))
              have g_b7 : n0 ≤ b7 := Nat.le_trans hz (Nat.le_of_eq gb7.symm)
              have z_b7 : h'.size ≤ b7 := Nat.le_trans K.1 (Nat.le_of_eq gb7.symm)
              replace E_c := E_c.ext E7
              replace F_key := F_key.ext E7
              replace F_left := F_left.ext E7
              replace F_right := F_right.ext E7
              replace tR := tR.ext E7
              replace hz := Nat.le_trans hz E7.1
              replace K := K.ext E7
              have F7_key : Fld Z h7 b7 "subjects/SearchTree$Node" "key" "I" (.int (0 : Int32)) := D7 (Or.inr (hw _ (List.mem_of_getElem? (i := 24) rfl))) (ty := .int) (by decide)
              have F7_right : Fld Z h7 b7 "subjects/SearchTree$Node" "right" "Lsubjects/SearchTree$Node;" .null := D7 (Or.inl (hw _ (List.mem_of_getElem? (i := 27) rfl))) (ty := (.object "subjects/SearchTree$Node")) (by decide)
              have F7_left : Fld Z h7 b7 "subjects/SearchTree$Node" "left" "Lsubjects/SearchTree$Node;" .null := D7 (Or.inl (hw _ (List.mem_of_getElem? (i := 29) rfl))) (ty := (.object "subjects/SearchTree$Node")) (by decide)
              show own_Run p e below _ (T7.setTop (mkF m 52 #[.val (.ref t), .val (.int key), .val (.ref ca)] [(.ref b7), (.ref ca)]))
              refine own_go (fun _ kS => XS.dup X7.here hx rfl (hb hby d3_52) rfl rfl kS) ?_
              show own_Run p e below _ (T7.setTop (mkF m 53 #[.val (.ref t), .val (.int key), .val (.ref ca)] [(.ref b7), (.ref b7), (.ref ca)]))
              refine own_go (fun _ kS => XS.iloadN X7.here hx rfl (hb hby d3_53) rfl kS) ?_
              show own_Run p e below _ (T7.setTop (mkF m 54 #[.val (.ref t), .val (.int key), .val (.ref ca)] [(.int key), (.ref b7), (.ref b7), (.ref ca)]))
              refine own_callN X7 hx hZ e7 hown (⟨"subjects/SearchTree$Node", "<init>", "(I)V"⟩ : MethodName) rfl (hw _ (List.mem_of_getElem? (i := 19) rfl)) (hw _ (List.mem_of_getElem? (i := 20) rfl)) (hw _ (List.mem_of_getElem? (i := 18) rfl)) (hw _ (List.mem_of_getElem? (i := 21) rfl)) (by decide) b7 [(.int key)] [(.ref b7), (.ref ca)] (rm_ninit l Z a0 hw b7 key n0 h7 hz A7 g_b7 F7_key F7_left F7_right) (by decide) 2 (by decide) (by decide) (by decide) rfl (by rw [hml]; rfl) (lenOf own_pd0 rfl) rfl (by show 2 * 0 + _ ≤ _; exact Nat.le_of_eq rfl) (hb hby d3_54) (fun v8 h8 L8 T8 Q8 X8 e8 => ?_)
              obtain ⟨rfl, Nq8, Kq8, A8, F8_key, F8_left, F8_right⟩ := Q8
              replace E_c := E_c.keep Kq8
              replace F_key := F_key.keep Kq8 (ninS ne_ca_b7 nin0)
              replace F_left := F_left.keep Kq8 (ninS ne_ca_b7 nin0)
              replace F_right := F_right.keep Kq8 (ninS ne_ca_b7 nin0)
              replace tR := tR.keep Kq8 (own_nin1 nt_tR_b7)
              replace hz := Nat.le_trans hz Kq8.1
              replace N := N.app Nq8
              replace K := K.trans Kq8 (allS (Or.inr z_b7) all0)
              show own_Run p e below _ (T8.setTop (mkF m 57 #[.val (.ref t), .val (.int key), .val (.ref ca)] [(.ref b7), (.ref ca)]))
              refine own_putR X8 hx hZ e8 hown (.object "subjects/SearchTree$Node") (hw _ (List.mem_of_getElem? (i := 28) rfl)) F_left E_c (hw _ (List.mem_of_getElem? (i := 29) rfl)) (hw _ (List.mem_of_getElem? (i := 17) rfl)) (by decide) rfl rfl rfl rfl (hb hby d3_57) (fun T9 h9 X9 e9 W9 => ?_)
              replace E_c := E_c.wr W9
              replace F_key := F_key.other W9 (Or.inr (slot_ne (Or.inr (hw _ (List.mem_of_getElem? (i := 24) rfl))) (Or.inl (hw _ (List.mem_of_getElem? (i := 29) rfl))) (by decide) (t := .int) (t' := (.object "subjects/SearchTree$Node")) (by decide) (by decide)))
              replace F_left := F_left.same W9
              replace F_right := F_right.other W9 (Or.inr (slot_ne (Or.inl (hw _ (List.mem_of_getElem? (i := 27) rfl))) (Or.inl (hw _ (List.mem_of_getElem? (i := 29) rfl))) (by decide) (t := (.object "subjects/SearchTree$Node")) (t' := (.object "subjects/SearchTree$Node")) (by decide) (by decide)))
              replace tR := tR.keep (Keep.of_wr W9) (own_nin1 d.2.1)
              replace A8 := A8.wr W9
              replace F8_key := F8_key.other W9 (Or.inl (Ne.symm ne_ca_b7))
              replace F8_left := F8_left.other W9 (Or.inl (Ne.symm ne_ca_b7))
              replace F8_right := F8_right.other W9 (Or.inl (Ne.symm ne_ca_b7))
              replace hz := Nat.le_trans hz (Nat.le_of_eq W9.size.symm)
              replace N := Fr.snoc X9 N g_ca
              replace K := K.wr W9 (Or.inl (List.mem_of_getElem? (i := 0) rfl))
              show own_Run p e below _ (T9.setTop (mkF m 60 #[.val (.ref t), .val (.int key), .val (.ref ca)] []))
              refine own_go (fun _ kS => XS.aloadN X9.here hx rfl (hb hby d3_60) rfl rfl kS) ?_
              show own_Run p e below _ (T9.setTop (mkF m 61 #[.val (.ref t), .val (.int key), .val (.ref ca)] [(.ref ca)]))
              refine own_getR X9 hx hZ e9 hown (hw _ (List.mem_of_getElem? (i := 28) rfl)) F_left rfl rfl (hb hby d3_61) ?_
              show own_Run p e below _ (T9.setTop (mkF m 64 #[.val (.ref t), .val (.int key), .val (.ref ca)] [(.ref b7)]))
              refine own_go (fun _ kS => XS.astoreN X9.here hx rfl (hb hby d3_64) rfl rfl (l' := #[.val (.ref t), .val (.int key), .val (.ref b7)]) rfl kS) ?_
              show own_Run p e below _ (T9.setTop (mkF m 65 #[.val (.ref t), .val (.int key), .val (.ref b7)] []))
              refine own_go (fun _ kS => XS.goto X9.here hx rfl (pc0 := 65) (pc' := 25) rfl (hb hby d3_65) (by decide) (by decide) kS) ?_
              show own_Run p e below _ (T9.setTop (mkF m 25 #[.val (.ref t), .val (.int key), .val (.ref b7)] []))
              refine own_go (fun _ kS => XS.aloadN X9.here hx rfl (hb hby d3_25) rfl rfl kS) ?_
              show own_Run p e below _ (T9.setTop (mkF m 26 #[.val (.ref t), .val (.int key), .val (.ref b7)] [(.ref b7)]))
              refine own_getR X9 hx hZ e9 hown (hw _ (List.mem_of_getElem? (i := 25) rfl)) F8_key rfl rfl (hb hby d3_26) ?_
              show own_Run p e below _ (T9.setTop (mkF m 29 #[.val (.ref t), .val (.int key), .val (.ref b7)] [(.int key)]))
              refine own_go (fun _ kS => XS.iloadN X9.here hx rfl (hb hby d3_29) rfl kS) ?_
              show own_Run p e below _ (T9.setTop (mkF m 30 #[.val (.ref t), .val (.int key), .val (.ref b7)] [(.int key), (.int key)]))
              refine own_go (fun _ kS => XS.icmpYes X9.here hx rfl (pc0 := 30) (pc' := 95) rfl (hb hby d3_30) rfl (teq (show key = key from (rfl))).1 (by decide) (by decide) kS) ?_
              show own_Run p e below _ (T9.setTop (mkF m 95 #[.val (.ref t), .val (.int key), .val (.ref b7)] []))
              refine own_retV X9 hx hret hlk (hb hby d3_95) (by decide) (by decide) ?_
              rw [e9]
              obtain ⟨rfl, hS0⟩ := tL.null_
              exact fin _ _ (ca :: ([b7] ++ wr)) (own_weak K own_in1) (own_T.node E_c F_key F_left F_right (own_leaf (n := nn) A8 F8_key F8_left F8_right) tR.mono (own_dis d (fun y hy => Or.inr (by cases List.mem_singleton.mp hy; exact z_b7)) hca hwr) (fun y => by rw [hS y]; exact own_orL.trans ⟨fun q => q.imp id (Or.imp (fun w => w.elim (fun u => absurd u (hS0 y)) id) id), fun q => q.imp id (Or.imp Or.inr id)⟩) (fun y q => q ▸ hc38) hr) (own_subL (fun y hy => Or.inr (by cases List.mem_singleton.mp hy; exact z_b7))) N
            · rw [hq2] at F_left tL
              show own_Run p e below _ (T'.setTop (mkF m 41 #[.val (.ref t), .val (.int key), .val (.ref ca)] []))
              refine own_go (fun _ kS => XS.aloadN X'.here hx rfl (hb hby d3_41) rfl rfl kS) ?_
              show own_Run p e below _ (T'.setTop (mkF m 42 #[.val (.ref t), .val (.int key), .val (.ref ca)] [(.ref ca)]))
              refine own_getR X' hx hZ e' hown (hw _ (List.mem_of_getElem? (i := 28) rfl)) F_left rfl rfl (hb hby d3_42) ?_
              show own_Run p e below _ (T'.setTop (mkF m 45 #[.val (.ref t), .val (.int key), .val (.ref ca)] [(.ref cl)]))
              refine own_go (fun _ kS => XS.ifnonnullYes X'.here hx rfl (pc0 := 45) (pc' := 60) rfl (hb hby d3_45) rfl (by decide) (by decide) kS) ?_
              show own_Run p e below _ (T'.setTop (mkF m 60 #[.val (.ref t), .val (.int key), .val (.ref ca)] []))
              refine own_go (fun _ kS => XS.aloadN X'.here hx rfl (hb hby d3_60) rfl rfl kS) ?_
              show own_Run p e below _ (T'.setTop (mkF m 61 #[.val (.ref t), .val (.int key), .val (.ref ca)] [(.ref ca)]))
              refine own_getR X' hx hZ e' hown (hw _ (List.mem_of_getElem? (i := 28) rfl)) F_left rfl rfl (hb hby d3_61) ?_
              show own_Run p e below _ (T'.setTop (mkF m 64 #[.val (.ref t), .val (.int key), .val (.ref ca)] [(.ref cl)]))
              refine own_go (fun _ kS => XS.astoreN X'.here hx rfl (hb hby d3_64) rfl rfl (l' := #[.val (.ref t), .val (.int key), .val (.ref cl)]) rfl kS) ?_
              show own_Run p e below _ (T'.setTop (mkF m 65 #[.val (.ref t), .val (.int key), .val (.ref cl)] []))
              refine own_go (fun _ kS => XS.goto X'.here hx rfl (pc0 := 65) (pc' := 25) rfl (hb hby d3_65) (by decide) (by decide) kS) ?_
              show own_Run p e below _ (T'.setTop (mkF m 25 #[.val (.ref t), .val (.int key), .val (.ref cl)] []))
              exact ih cl wl Sl _ _ _ tL X' e' N hz (fun y hy => gw y (own_inL y hy)) (fun h2 L2 wl2 K2 t2 hw2 NL => fin h2 L2 (ca :: (wl2 ++ wr)) (own_weak K2 own_inL) (own_T.node (E_c.keep K2) (F_key.keep K2 d.1) (F_left.keep K2 d.1) (F_right.keep K2 d.1) t2 (tR.keep K2 (fun y hy q => d.2.2 y q hy)).mono (own_dis d hw2 hca hwr) (fun y => by rw [hS y]; exact own_orL) (fun y q => q.elim (hl y) (fun w => w ▸ hc38)) hr) (own_subL hw2) NL)
          · refine own_go (fun _ kS => XS.icmpYes X'.here hx rfl (pc0 := 38) (pc' := 68) rfl (hb hby d3_38) rfl (flt hc38).2.1 (by decide) (by decide) kS) ?_
            show own_Run p e below _ (T'.setTop (mkF m 68 #[.val (.ref t), .val (.int key), .val (.ref ca)] []))
            rcases tR.cases with hq2 | ⟨cr, hq2⟩
            · rw [hq2] at F_right tR
              show own_Run p e below _ (T'.setTop (mkF m 68 #[.val (.ref t), .val (.int key), .val (.ref ca)] []))
              refine own_go (fun _ kS => XS.aloadN X'.here hx rfl (hb hby d3_68) rfl rfl kS) ?_
              show own_Run p e below _ (T'.setTop (mkF m 69 #[.val (.ref t), .val (.int key), .val (.ref ca)] [(.ref ca)]))
              refine own_getR X' hx hZ e' hown (hw _ (List.mem_of_getElem? (i := 26) rfl)) F_right rfl rfl (hb hby d3_69) ?_
              show own_Run p e below _ (T'.setTop (mkF m 72 #[.val (.ref t), .val (.int key), .val (.ref ca)] [.null]))
              refine own_go (fun _ kS => XS.ifnonnullNo X'.here hx rfl (hb hby d3_72) rfl kS) ?_
              show own_Run p e below _ (T'.setTop (mkF m 75 #[.val (.ref t), .val (.int key), .val (.ref ca)] []))
              refine own_go (fun _ kS => XS.aloadN X'.here hx rfl (hb hby d3_75) rfl rfl kS) ?_
              show own_Run p e below _ (T'.setTop (mkF m 76 #[.val (.ref t), .val (.int key), .val (.ref ca)] [(.ref ca)]))
              refine own_newO X' hx hZ e' hown (hw _ (List.mem_of_getElem? (i := 16) rfl)) (hw _ (List.mem_of_getElem? (i := 17) rfl)) (hw _ (List.mem_of_getElem? (i := 18) rfl)) rfl (hb hby d3_76) (by decide) (by decide) (fun b10 T10 h10 gb10 X10 e10 E10 A10 D10 => ?_)
              have nt_tL_b10 := tL.fresh gb10
              have ne_ca_b10 : ca ≠ b10 := Nat.ne_of_lt (Nat.lt_of_lt_of_le E_c.lt (Nat.le_of_eq gb10.symm))
              have g_b10 : n0 ≤ b10 := Nat.le_trans hz (Nat.le_of_eq gb10.symm)
              have z_b10 : h'.size ≤ b10 := Nat.le_trans K.1 (Nat.le_of_eq gb10.symm)
              replace E_c := E_c.ext E10
              replace F_key := F_key.ext E10
              replace F_left := F_left.ext E10
              replace F_right := F_right.ext E10
              replace tL := tL.ext E10
              replace hz := Nat.le_trans hz E10.1
              replace K := K.ext E10
              have F10_key : Fld Z h10 b10 "subjects/SearchTree$Node" "key" "I" (.int (0 : Int32)) := D10 (Or.inr (hw _ (List.mem_of_getElem? (i := 24) rfl))) (ty := .int) (by decide)
              have F10_right : Fld Z h10 b10 "subjects/SearchTree$Node" "right" "Lsubjects/SearchTree$Node;" .null := D10 (Or.inl (hw _ (List.mem_of_getElem? (i := 27) rfl))) (ty := (.object "subjects/SearchTree$Node")) (by decide)
              have F10_left : Fld Z h10 b10 "subjects/SearchTree$Node" "left" "Lsubjects/SearchTree$Node;" .null := D10 (Or.inl (hw _ (List.mem_of_getElem? (i := 29) rfl))) (ty := (.object "subjects/SearchTree$Node")) (by decide)
              show own_Run p e below _ (T10.setTop (mkF m 79 #[.val (.ref t), .val (.int key), .val (.ref ca)] [(.ref b10), (.ref ca)]))
              refine own_go (fun _ kS => XS.dup X10.here hx rfl (hb hby d3_79) rfl rfl kS) ?_
              show own_Run p e below _ (T10.setTop (mkF m 80 #[.val (.ref t), .val (.int key), .val (.ref ca)] [(.ref b10), (.ref b10), (.ref ca)]))
              refine own_go (fun _ kS => XS.iloadN X10.here hx rfl (hb hby d3_80) rfl kS) ?_
              show own_Run p e below _ (T10.setTop (mkF m 81 #[.val (.ref t), .val (.int key), .val (.ref ca)] [(.int key), (.ref b10), (.ref b10), (.ref ca)]))
              refine own_callN X10 hx hZ e10 hown (⟨"subjects/SearchTree$Node", "<init>", "(I)V"⟩ : MethodName) rfl (hw _ (List.mem_of_getElem? (i := 19) rfl)) (hw _ (List.mem_of_getElem? (i := 20) rfl)) (hw _ (List.mem_of_getElem? (i := 18) rfl)) (hw _ (List.mem_of_getElem? (i := 21) rfl)) (by decide) b10 [(.int key)] [(.ref b10), (.ref ca)] (rm_ninit l Z a0 hw b10 key n0 h10 hz A10 g_b10 F10_key F10_left F10_right) (by decide) 2 (by decide) (by decide) (by decide) rfl (by rw [hml]; rfl) (lenOf own_pd0 rfl) rfl (by show 2 * 0 + _ ≤ _; exact Nat.le_of_eq rfl) (hb hby d3_81) (fun v11 h11 L11 T11 Q11 X11 e11 => ?_)
              obtain ⟨rfl, Nq11, Kq11, A11, F11_key, F11_left, F11_right⟩ := Q11
              replace E_c := E_c.keep Kq11
              replace F_key := F_key.keep Kq11 (ninS ne_ca_b10 nin0)
              replace F_left := F_left.keep Kq11 (ninS ne_ca_b10 nin0)
              replace F_right := F_right.keep Kq11 (ninS ne_ca_b10 nin0)
              replace tL := tL.keep Kq11 (own_nin1 nt_tL_b10)
              replace hz := Nat.le_trans hz Kq11.1
              replace N := N.app Nq11
              replace K := K.trans Kq11 (allS (Or.inr z_b10) all0)
              show own_Run p e below _ (T11.setTop (mkF m 84 #[.val (.ref t), .val (.int key), .val (.ref ca)] [(.ref b10), (.ref ca)]))
              refine own_putR X11 hx hZ e11 hown (.object "subjects/SearchTree$Node") (hw _ (List.mem_of_getElem? (i := 26) rfl)) F_right E_c (hw _ (List.mem_of_getElem? (i := 27) rfl)) (hw _ (List.mem_of_getElem? (i := 17) rfl)) (by decide) rfl rfl rfl rfl (hb hby d3_84) (fun T12 h12 X12 e12 W12 => ?_)
              replace E_c := E_c.wr W12
              replace F_key := F_key.other W12 (Or.inr (slot_ne (Or.inr (hw _ (List.mem_of_getElem? (i := 24) rfl))) (Or.inl (hw _ (List.mem_of_getElem? (i := 27) rfl))) (by decide) (t := .int) (t' := (.object "subjects/SearchTree$Node")) (by decide) (by decide)))
              replace F_left := F_left.other W12 (Or.inr (slot_ne (Or.inl (hw _ (List.mem_of_getElem? (i := 29) rfl))) (Or.inl (hw _ (List.mem_of_getElem? (i := 27) rfl))) (by decide) (t := (.object "subjects/SearchTree$Node")) (t' := (.object "subjects/SearchTree$Node")) (by decide) (by decide)))
              replace F_right := F_right.same W12
              replace tL := tL.keep (Keep.of_wr W12) (own_nin1 d.1)
              replace A11 := A11.wr W12
              replace F11_key := F11_key.other W12 (Or.inl (Ne.symm ne_ca_b10))
              replace F11_left := F11_left.other W12 (Or.inl (Ne.symm ne_ca_b10))
              replace F11_right := F11_right.other W12 (Or.inl (Ne.symm ne_ca_b10))
              replace hz := Nat.le_trans hz (Nat.le_of_eq W12.size.symm)
              replace N := Fr.snoc X12 N g_ca
              replace K := K.wr W12 (Or.inl (List.mem_of_getElem? (i := 0) rfl))
              show own_Run p e below _ (T12.setTop (mkF m 87 #[.val (.ref t), .val (.int key), .val (.ref ca)] []))
              refine own_go (fun _ kS => XS.aloadN X12.here hx rfl (hb hby d3_87) rfl rfl kS) ?_
              show own_Run p e below _ (T12.setTop (mkF m 88 #[.val (.ref t), .val (.int key), .val (.ref ca)] [(.ref ca)]))
              refine own_getR X12 hx hZ e12 hown (hw _ (List.mem_of_getElem? (i := 26) rfl)) F_right rfl rfl (hb hby d3_88) ?_
              show own_Run p e below _ (T12.setTop (mkF m 91 #[.val (.ref t), .val (.int key), .val (.ref ca)] [(.ref b10)]))
              refine own_go (fun _ kS => XS.astoreN X12.here hx rfl (hb hby d3_91) rfl rfl (l' := #[.val (.ref t), .val (.int key), .val (.ref b10)]) rfl kS) ?_
              show own_Run p e below _ (T12.setTop (mkF m 92 #[.val (.ref t), .val (.int key), .val (.ref b10)] []))
              refine own_go (fun _ kS => XS.goto X12.here hx rfl (pc0 := 92) (pc' := 25) rfl (hb hby d3_92) (by decide) (by decide) kS) ?_
              show own_Run p e below _ (T12.setTop (mkF m 25 #[.val (.ref t), .val (.int key), .val (.ref b10)] []))
              refine own_go (fun _ kS => XS.aloadN X12.here hx rfl (hb hby d3_25) rfl rfl kS) ?_
              show own_Run p e below _ (T12.setTop (mkF m 26 #[.val (.ref t), .val (.int key), .val (.ref b10)] [(.ref b10)]))
              refine own_getR X12 hx hZ e12 hown (hw _ (List.mem_of_getElem? (i := 25) rfl)) F11_key rfl rfl (hb hby d3_26) ?_
              show own_Run p e below _ (T12.setTop (mkF m 29 #[.val (.ref t), .val (.int key), .val (.ref b10)] [(.int key)]))
              refine own_go (fun _ kS => XS.iloadN X12.here hx rfl (hb hby d3_29) rfl kS) ?_
              show own_Run p e below _ (T12.setTop (mkF m 30 #[.val (.ref t), .val (.int key), .val (.ref b10)] [(.int key), (.int key)]))
              refine own_go (fun _ kS => XS.icmpYes X12.here hx rfl (pc0 := 30) (pc' := 95) rfl (hb hby d3_30) rfl (teq (show key = key from (rfl))).1 (by decide) (by decide) kS) ?_
              show own_Run p e below _ (T12.setTop (mkF m 95 #[.val (.ref t), .val (.int key), .val (.ref b10)] []))
              refine own_retV X12 hx hret hlk (hb hby d3_95) (by decide) (by decide) ?_
              rw [e12]
              obtain ⟨rfl, hS0⟩ := tR.null_
              exact fin _ _ (ca :: (wl ++ [b10])) (own_weak K own_in1) (own_T.node E_c F_key F_left F_right tL.mono (own_leaf (n := nn) A11 F11_key F11_left F11_right) (own_disR d (fun y hy => Or.inr (by cases List.mem_singleton.mp hy; exact z_b10)) hca hwl) (fun y => by rw [hS y]; exact own_orR.trans ⟨fun q => q.imp id (Or.imp id (fun w => w.elim (fun u => absurd u (hS0 y)) id)), fun q => q.imp id (Or.imp id Or.inr)⟩) hl (fun y q => q ▸ own_gt hc38 hc30)) (own_subR (fun y hy => Or.inr (by cases List.mem_singleton.mp hy; exact z_b10))) N
            · rw [hq2] at F_right tR
              show own_Run p e below _ (T'.setTop (mkF m 68 #[.val (.ref t), .val (.int key), .val (.ref ca)] []))
              refine own_go (fun _ kS => XS.aloadN X'.here hx rfl (hb hby d3_68) rfl rfl kS) ?_
              show own_Run p e below _ (T'.setTop (mkF m 69 #[.val (.ref t), .val (.int key), .val (.ref ca)] [(.ref ca)]))
              refine own_getR X' hx hZ e' hown (hw _ (List.mem_of_getElem? (i := 26) rfl)) F_right rfl rfl (hb hby d3_69) ?_
              show own_Run p e below _ (T'.setTop (mkF m 72 #[.val (.ref t), .val (.int key), .val (.ref ca)] [(.ref cr)]))
              refine own_go (fun _ kS => XS.ifnonnullYes X'.here hx rfl (pc0 := 72) (pc' := 87) rfl (hb hby d3_72) rfl (by decide) (by decide) kS) ?_
              show own_Run p e below _ (T'.setTop (mkF m 87 #[.val (.ref t), .val (.int key), .val (.ref ca)] []))
              refine own_go (fun _ kS => XS.aloadN X'.here hx rfl (hb hby d3_87) rfl rfl kS) ?_
              show own_Run p e below _ (T'.setTop (mkF m 88 #[.val (.ref t), .val (.int key), .val (.ref ca)] [(.ref ca)]))
              refine own_getR X' hx hZ e' hown (hw _ (List.mem_of_getElem? (i := 26) rfl)) F_right rfl rfl (hb hby d3_88) ?_
              show own_Run p e below _ (T'.setTop (mkF m 91 #[.val (.ref t), .val (.int key), .val (.ref ca)] [(.ref cr)]))
              refine own_go (fun _ kS => XS.astoreN X'.here hx rfl (hb hby d3_91) rfl rfl (l' := #[.val (.ref t), .val (.int key), .val (.ref cr)]) rfl kS) ?_
              show own_Run p e below _ (T'.setTop (mkF m 92 #[.val (.ref t), .val (.int key), .val (.ref cr)] []))
              refine own_go (fun _ kS => XS.goto X'.here hx rfl (pc0 := 92) (pc' := 25) rfl (hb hby d3_92) (by decide) (by decide) kS) ?_
              show own_Run p e below _ (T'.setTop (mkF m 25 #[.val (.ref t), .val (.int key), .val (.ref cr)] []))
              exact ih cr wr Sr _ _ _ tR X' e' N hz (fun y hy => gw y (own_inR y hy)) (fun h2 L2 wr2 K2 t2 hw2 NL => fin h2 L2 (ca :: (wl ++ wr2)) (own_weak K2 own_inR) (own_T.node (E_c.keep K2) (F_key.keep K2 d.2.1) (F_left.keep K2 d.2.1) (F_right.keep K2 d.2.1) (tL.keep K2 (fun y hy q => d.2.2 y hy q)).mono t2 (own_disR d hw2 hca hwl) (fun y => by rw [hS y]; exact own_orR) hl (fun y q => q.elim (hr y) (fun w => w ▸ own_gt hc38 hc30))) (own_subR hw2) NL)
    exact loop n ca ws S _ _ _ hT X6 e6 N hz gws (fun h2 L2 cw2 K2 t2 hw2 NL => ⟨rfl, NL, own_weak K2 (fun y hy => List.mem_cons_of_mem _ hy), E_t.keep K2, _, cw2, F_root.keep K2 htw, t2, hw2⟩)
theorem d4_0 : decode prog_78_method_4_code 0 = .ok (.aload_n 0, 1) := by decide +kernel
theorem d4_1 : decode prog_78_method_4_code 1 = .ok (.getfield 7, 3) := by decide +kernel
theorem d4_4 : decode prog_78_method_4_code 4 = .ok (.astore_n 2, 1) := by decide +kernel
theorem d4_5 : decode prog_78_method_4_code 5 = .ok (.aload_n 2, 1) := by decide +kernel
theorem d4_6 : decode prog_78_method_4_code 6 = .ok (.ifnull 34, 3) := by decide +kernel
theorem d4_9 : decode prog_78_method_4_code 9 = .ok (.aload_n 2, 1) := by decide +kernel
theorem d4_10 : decode prog_78_method_4_code 10 = .ok (.getfield 18, 3) := by decide +kernel
theorem d4_13 : decode prog_78_method_4_code 13 = .ok (.iload_n 1, 1) := by decide +kernel
theorem d4_14 : decode prog_78_method_4_code 14 = .ok (.if_icmp .eq 26, 3) := by decide +kernel
theorem d4_17 : decode prog_78_method_4_code 17 = .ok (.iload_n 1, 1) := by decide +kernel
theorem d4_18 : decode prog_78_method_4_code 18 = .ok (.aload_n 2, 1) := by decide +kernel
theorem d4_19 : decode prog_78_method_4_code 19 = .ok (.getfield 18, 3) := by decide +kernel
theorem d4_22 : decode prog_78_method_4_code 22 = .ok (.if_icmp .ge 10, 3) := by decide +kernel
theorem d4_25 : decode prog_78_method_4_code 25 = .ok (.aload_n 2, 1) := by decide +kernel
theorem d4_26 : decode prog_78_method_4_code 26 = .ok (.getfield 22, 3) := by decide +kernel
theorem d4_29 : decode prog_78_method_4_code 29 = .ok (.goto 7, 3) := by decide +kernel
theorem d4_32 : decode prog_78_method_4_code 32 = .ok (.aload_n 2, 1) := by decide +kernel
theorem d4_33 : decode prog_78_method_4_code 33 = .ok (.getfield 25, 3) := by decide +kernel
theorem d4_36 : decode prog_78_method_4_code 36 = .ok (.astore_n 2, 1) := by decide +kernel
theorem d4_37 : decode prog_78_method_4_code 37 = .ok (.goto (-32), 3) := by decide +kernel
theorem d4_40 : decode prog_78_method_4_code 40 = .ok (.aload_n 2, 1) := by decide +kernel
theorem d4_41 : decode prog_78_method_4_code 41 = .ok (.ifnull 7, 3) := by decide +kernel
theorem d4_44 : decode prog_78_method_4_code 44 = .ok (.iconst 1, 1) := by decide +kernel
theorem d4_45 : decode prog_78_method_4_code 45 = .ok (.goto 4, 3) := by decide +kernel
theorem d4_48 : decode prog_78_method_4_code 48 = .ok (.iconst 0, 1) := by decide +kernel
theorem d4_49 : decode prog_78_method_4_code 49 = .ok (.ireturn, 1) := by decide +kernel
abbrev Q_cont (Z : State) (t : Addr) (key : Int32) (r : Value) (n : Nat) (ws : List Addr) (S : Int32 → Prop) (h0 : Heap) : Option Value → Heap → List Loc → Prop := fun v h L => ∃ zz : Int32, v = some (.int zz) ∧ h0 = h ∧ L = [] ∧ ((zz = (1 : Int32) ∧ S key) ∨ (zz = (0 : Int32) ∧ ¬ S key))
set_option maxRecDepth 65536 in
set_option maxHeartbeats 40000000 in
theorem rm_cont (l : Launch) (Z : State) (a0 : Array Value) (hw : ∀ d ∈ tables_1, d.before a0 Z = true) (t : Addr) (key : Int32) (r : Value) (n : Nat) (ws : List Addr) (S : Int32 → Prop) (h0 : Heap) (F_root : Fld Z h0 t "subjects/SearchTree" "root" "Lsubjects/SearchTree$Node;" r) (hT : own_T Z h0 n r ws S) :
    own_Met l Z (⟨"subjects/SearchTree", "contains", "(I)Z"⟩ : MethodName) prog_78_method_4_code 3 (some .boolean) ({ frames := 0, cells := 0, slots := 0, locals := 0 } : Room) #[(.ref t), (.int key)] h0 (Q_cont Z t key r n ws S h0) := by
  refine own_enter (g0 := fun m => (mkF m 0 #[.val (.ref t), .val (.int key), .unset] [])) (plainFor_of_name (by first | (simp [plainName, overriddenIn]; done) | decide +kernel)) (fun m => by first | (simp [entryFrame, mkF, argsToLocals, Value.category]; done) | rfl) ?_
  intro p e s m below meth c T hx hby hml hown hnm hZ hret hlk X e0
  replace hown : s.vm.findClass "subjects/SearchTree" = some m.cls := hown
  show own_Run p e below _ (T.setTop (mkF m 0 #[.val (.ref t), .val (.int key), .unset] []))
  rcases hT.cases with hq | ⟨ca, hq⟩
  · rw [hq] at F_root hT
    show own_Run p e below _ (T.setTop (mkF m 0 #[.val (.ref t), .val (.int key), .unset] []))
    refine own_go (fun _ kS => XS.aloadN X.here hx rfl (hb hby d4_0) rfl rfl kS) ?_
    show own_Run p e below _ (T.setTop (mkF m 1 #[.val (.ref t), .val (.int key), .unset] [(.ref t)]))
    refine own_getF X hx hZ e0 hown (hw _ (List.mem_of_getElem? (i := 14) rfl)) F_root rfl rfl (hb hby d4_1) (fun T1 X1 e1 => ?_)
    show own_Run p e below _ (T1.setTop (mkF m 4 #[.val (.ref t), .val (.int key), .unset] [.null]))
    refine own_go (fun _ kS => XS.astoreN X1.here hx rfl (hb hby d4_4) rfl rfl (l' := #[.val (.ref t), .val (.int key), .val .null]) rfl kS) ?_
    show own_Run p e below _ (T1.setTop (mkF m 5 #[.val (.ref t), .val (.int key), .val .null] []))
    have loop : ∀ (nn : Nat) (rr : Value) (cw : List Addr) (CS : Int32 → Prop), own_T Z h0 nn rr cw CS → (CS key ↔ S key) → own_Run p e below (own_End s ({ frames := 0, cells := 0, slots := 0, locals := 0 } : Room) (Q_cont Z t key r n ws S h0)) (T1.setTop (mkF m 5 #[.val (.ref t), .val (.int key), .val rr] [])) := by
      intro nn
      induction nn with
      | zero =>
        intro rr cw CS t0 hq
        rcases t0.cases with rfl | ⟨ca, rfl⟩
        · show own_Run p e below _ (T1.setTop (mkF m 5 #[.val (.ref t), .val (.int key), .val .null] []))
          refine own_go (fun _ kS => XS.aloadN X1.here hx rfl (hb hby d4_5) rfl rfl kS) ?_
          show own_Run p e below _ (T1.setTop (mkF m 6 #[.val (.ref t), .val (.int key), .val .null] [.null]))
          refine own_go (fun _ kS => XS.ifnullYes X1.here hx rfl (pc0 := 6) (pc' := 40) rfl (hb hby d4_6) rfl (by decide) (by decide) kS) ?_
          show own_Run p e below _ (T1.setTop (mkF m 40 #[.val (.ref t), .val (.int key), .val .null] []))
          refine own_go (fun _ kS => XS.aloadN X1.here hx rfl (hb hby d4_40) rfl rfl kS) ?_
          show own_Run p e below _ (T1.setTop (mkF m 41 #[.val (.ref t), .val (.int key), .val .null] [.null]))
          refine own_go (fun _ kS => XS.ifnullYes X1.here hx rfl (pc0 := 41) (pc' := 48) rfl (hb hby d4_41) rfl (by decide) (by decide) kS) ?_
          show own_Run p e below _ (T1.setTop (mkF m 48 #[.val (.ref t), .val (.int key), .val .null] []))
          refine own_go (fun _ kS => XS.iconst X1.here hx rfl (hb hby d4_48) kS) ?_
          show own_Run p e below _ (T1.setTop (mkF m 49 #[.val (.ref t), .val (.int key), .val .null] [(.int (0 : Int32))]))
          refine own_retN X1 hx (t := .boolean) hret hlk (by simp) (hb hby d4_49) (by decide) (by decide) ?_
          exact ⟨0, rfl, e1.symm, rfl, Or.inr ⟨rfl, fun w => t0.null_.2 key (hq.mpr w)⟩⟩
        · exact t0.zero_.elim
      | succ nn ih =>
        intro rr cw CS t0 hq
        rcases t0.cases with rfl | ⟨ca, rfl⟩
        · show own_Run p e below _ (T1.setTop (mkF m 5 #[.val (.ref t), .val (.int key), .val .null] []))
          refine own_go (fun _ kS => XS.aloadN X1.here hx rfl (hb hby d4_5) rfl rfl kS) ?_
          show own_Run p e below _ (T1.setTop (mkF m 6 #[.val (.ref t), .val (.int key), .val .null] [.null]))
          refine own_go (fun _ kS => XS.ifnullYes X1.here hx rfl (pc0 := 6) (pc' := 40) rfl (hb hby d4_6) rfl (by decide) (by decide) kS) ?_
          show own_Run p e below _ (T1.setTop (mkF m 40 #[.val (.ref t), .val (.int key), .val .null] []))
          refine own_go (fun _ kS => XS.aloadN X1.here hx rfl (hb hby d4_40) rfl rfl kS) ?_
          show own_Run p e below _ (T1.setTop (mkF m 41 #[.val (.ref t), .val (.int key), .val .null] [.null]))
          refine own_go (fun _ kS => XS.ifnullYes X1.here hx rfl (pc0 := 41) (pc' := 48) rfl (hb hby d4_41) rfl (by decide) (by decide) kS) ?_
          show own_Run p e below _ (T1.setTop (mkF m 48 #[.val (.ref t), .val (.int key), .val .null] []))
          refine own_go (fun _ kS => XS.iconst X1.here hx rfl (hb hby d4_48) kS) ?_
          show own_Run p e below _ (T1.setTop (mkF m 49 #[.val (.ref t), .val (.int key), .val .null] [(.int (0 : Int32))]))
          refine own_retN X1 hx (t := .boolean) hret hlk (by simp) (hb hby d4_49) (by decide) (by decide) ?_
          exact ⟨0, rfl, e1.symm, rfl, Or.inr ⟨rfl, fun w => t0.null_.2 key (hq.mpr w)⟩⟩
        · obtain ⟨kk, tl, tr, wl, wr, Sl, Sr, E_c, F_key, F_left, F_right, tL, tR, rfl, d, hS, hl, hr⟩ := t0.ref_
          show own_Run p e below _ (T1.setTop (mkF m 5 #[.val (.ref t), .val (.int key), .val (.ref ca)] []))
          refine own_go (fun _ kS => XS.aloadN X1.here hx rfl (hb hby d4_5) rfl rfl kS) ?_
          show own_Run p e below _ (T1.setTop (mkF m 6 #[.val (.ref t), .val (.int key), .val (.ref ca)] [(.ref ca)]))
          refine own_go (fun _ kS => XS.ifnullNo X1.here hx rfl (hb hby d4_6) rfl kS) ?_
          show own_Run p e below _ (T1.setTop (mkF m 9 #[.val (.ref t), .val (.int key), .val (.ref ca)] []))
          refine own_go (fun _ kS => XS.aloadN X1.here hx rfl (hb hby d4_9) rfl rfl kS) ?_
          show own_Run p e below _ (T1.setTop (mkF m 10 #[.val (.ref t), .val (.int key), .val (.ref ca)] [(.ref ca)]))
          refine own_getR X1 hx hZ e1 hown (hw _ (List.mem_of_getElem? (i := 25) rfl)) F_key rfl rfl (hb hby d4_10) ?_
          show own_Run p e below _ (T1.setTop (mkF m 13 #[.val (.ref t), .val (.int key), .val (.ref ca)] [(.int kk)]))
          refine own_go (fun _ kS => XS.iloadN X1.here hx rfl (hb hby d4_13) rfl kS) ?_
          show own_Run p e below _ (T1.setTop (mkF m 14 #[.val (.ref t), .val (.int key), .val (.ref ca)] [(.int key), (.int kk)]))
          by_cases hc14 : kk = key
          · refine own_go (fun _ kS => XS.icmpYes X1.here hx rfl (pc0 := 14) (pc' := 40) rfl (hb hby d4_14) rfl (teq hc14).1 (by decide) (by decide) kS) ?_
            show own_Run p e below _ (T1.setTop (mkF m 40 #[.val (.ref t), .val (.int key), .val (.ref ca)] []))
            refine own_go (fun _ kS => XS.aloadN X1.here hx rfl (hb hby d4_40) rfl rfl kS) ?_
            show own_Run p e below _ (T1.setTop (mkF m 41 #[.val (.ref t), .val (.int key), .val (.ref ca)] [(.ref ca)]))
            refine own_go (fun _ kS => XS.ifnullNo X1.here hx rfl (hb hby d4_41) rfl kS) ?_
            show own_Run p e below _ (T1.setTop (mkF m 44 #[.val (.ref t), .val (.int key), .val (.ref ca)] []))
            refine own_go (fun _ kS => XS.iconst X1.here hx rfl (hb hby d4_44) kS) ?_
            show own_Run p e below _ (T1.setTop (mkF m 45 #[.val (.ref t), .val (.int key), .val (.ref ca)] [(.int (1 : Int32))]))
            refine own_go (fun _ kS => XS.goto X1.here hx rfl (pc0 := 45) (pc' := 49) rfl (hb hby d4_45) (by decide) (by decide) kS) ?_
            show own_Run p e below _ (T1.setTop (mkF m 49 #[.val (.ref t), .val (.int key), .val (.ref ca)] [(.int (1 : Int32))]))
            refine own_retN X1 hx (t := .boolean) hret hlk (by simp) (hb hby d4_49) (by decide) (by decide) ?_
            exact ⟨1, rfl, e1.symm, rfl, Or.inl ⟨rfl, hq.mp ((hS key).mpr (Or.inl hc14.symm))⟩⟩
          · refine own_go (fun _ kS => XS.icmpNo X1.here hx rfl (hb hby d4_14) rfl (feq hc14).1 kS) ?_
            show own_Run p e below _ (T1.setTop (mkF m 17 #[.val (.ref t), .val (.int key), .val (.ref ca)] []))
            refine own_go (fun _ kS => XS.iloadN X1.here hx rfl (hb hby d4_17) rfl kS) ?_
            show own_Run p e below _ (T1.setTop (mkF m 18 #[.val (.ref t), .val (.int key), .val (.ref ca)] [(.int key)]))
            refine own_go (fun _ kS => XS.aloadN X1.here hx rfl (hb hby d4_18) rfl rfl kS) ?_
            show own_Run p e below _ (T1.setTop (mkF m 19 #[.val (.ref t), .val (.int key), .val (.ref ca)] [(.ref ca), (.int key)]))
            refine own_getR X1 hx hZ e1 hown (hw _ (List.mem_of_getElem? (i := 25) rfl)) F_key rfl rfl (hb hby d4_19) ?_
            show own_Run p e below _ (T1.setTop (mkF m 22 #[.val (.ref t), .val (.int key), .val (.ref ca)] [(.int kk), (.int key)]))
            by_cases hc22 : key < kk
            · refine own_go (fun _ kS => XS.icmpNo X1.here hx rfl (hb hby d4_22) rfl (tlt hc22).2.1 kS) ?_
              show own_Run p e below _ (T1.setTop (mkF m 25 #[.val (.ref t), .val (.int key), .val (.ref ca)] []))
              rcases tL.cases with rfl | ⟨cl, rfl⟩
              · show own_Run p e below _ (T1.setTop (mkF m 25 #[.val (.ref t), .val (.int key), .val (.ref ca)] []))
                refine own_go (fun _ kS => XS.aloadN X1.here hx rfl (hb hby d4_25) rfl rfl kS) ?_
                show own_Run p e below _ (T1.setTop (mkF m 26 #[.val (.ref t), .val (.int key), .val (.ref ca)] [(.ref ca)]))
                refine own_getR X1 hx hZ e1 hown (hw _ (List.mem_of_getElem? (i := 28) rfl)) F_left rfl rfl (hb hby d4_26) ?_
                show own_Run p e below _ (T1.setTop (mkF m 29 #[.val (.ref t), .val (.int key), .val (.ref ca)] [.null]))
                refine own_go (fun _ kS => XS.goto X1.here hx rfl (pc0 := 29) (pc' := 36) rfl (hb hby d4_29) (by decide) (by decide) kS) ?_
                show own_Run p e below _ (T1.setTop (mkF m 36 #[.val (.ref t), .val (.int key), .val (.ref ca)] [.null]))
                refine own_go (fun _ kS => XS.astoreN X1.here hx rfl (hb hby d4_36) rfl rfl (l' := #[.val (.ref t), .val (.int key), .val .null]) rfl kS) ?_
                show own_Run p e below _ (T1.setTop (mkF m 37 #[.val (.ref t), .val (.int key), .val .null] []))
                refine own_go (fun _ kS => XS.goto X1.here hx rfl (pc0 := 37) (pc' := 5) rfl (hb hby d4_37) (by decide) (by decide) kS) ?_
                show own_Run p e below _ (T1.setTop (mkF m 5 #[.val (.ref t), .val (.int key), .val .null] []))
                exact ih _ _ _ tL ((own_selL hS hr hc22).symm.trans hq)
              · show own_Run p e below _ (T1.setTop (mkF m 25 #[.val (.ref t), .val (.int key), .val (.ref ca)] []))
                refine own_go (fun _ kS => XS.aloadN X1.here hx rfl (hb hby d4_25) rfl rfl kS) ?_
                show own_Run p e below _ (T1.setTop (mkF m 26 #[.val (.ref t), .val (.int key), .val (.ref ca)] [(.ref ca)]))
                refine own_getR X1 hx hZ e1 hown (hw _ (List.mem_of_getElem? (i := 28) rfl)) F_left rfl rfl (hb hby d4_26) ?_
                show own_Run p e below _ (T1.setTop (mkF m 29 #[.val (.ref t), .val (.int key), .val (.ref ca)] [(.ref cl)]))
                refine own_go (fun _ kS => XS.goto X1.here hx rfl (pc0 := 29) (pc' := 36) rfl (hb hby d4_29) (by decide) (by decide) kS) ?_
                show own_Run p e below _ (T1.setTop (mkF m 36 #[.val (.ref t), .val (.int key), .val (.ref ca)] [(.ref cl)]))
                refine own_go (fun _ kS => XS.astoreN X1.here hx rfl (hb hby d4_36) rfl rfl (l' := #[.val (.ref t), .val (.int key), .val (.ref cl)]) rfl kS) ?_
                show own_Run p e below _ (T1.setTop (mkF m 37 #[.val (.ref t), .val (.int key), .val (.ref cl)] []))
                refine own_go (fun _ kS => XS.goto X1.here hx rfl (pc0 := 37) (pc' := 5) rfl (hb hby d4_37) (by decide) (by decide) kS) ?_
                show own_Run p e below _ (T1.setTop (mkF m 5 #[.val (.ref t), .val (.int key), .val (.ref cl)] []))
                exact ih _ _ _ tL ((own_selL hS hr hc22).symm.trans hq)
            · refine own_go (fun _ kS => XS.icmpYes X1.here hx rfl (pc0 := 22) (pc' := 32) rfl (hb hby d4_22) rfl (flt hc22).2.1 (by decide) (by decide) kS) ?_
              show own_Run p e below _ (T1.setTop (mkF m 32 #[.val (.ref t), .val (.int key), .val (.ref ca)] []))
              rcases tR.cases with rfl | ⟨cr, rfl⟩
              · show own_Run p e below _ (T1.setTop (mkF m 32 #[.val (.ref t), .val (.int key), .val (.ref ca)] []))
                refine own_go (fun _ kS => XS.aloadN X1.here hx rfl (hb hby d4_32) rfl rfl kS) ?_
                show own_Run p e below _ (T1.setTop (mkF m 33 #[.val (.ref t), .val (.int key), .val (.ref ca)] [(.ref ca)]))
                refine own_getR X1 hx hZ e1 hown (hw _ (List.mem_of_getElem? (i := 26) rfl)) F_right rfl rfl (hb hby d4_33) ?_
                show own_Run p e below _ (T1.setTop (mkF m 36 #[.val (.ref t), .val (.int key), .val (.ref ca)] [.null]))
                refine own_go (fun _ kS => XS.astoreN X1.here hx rfl (hb hby d4_36) rfl rfl (l' := #[.val (.ref t), .val (.int key), .val .null]) rfl kS) ?_
                show own_Run p e below _ (T1.setTop (mkF m 37 #[.val (.ref t), .val (.int key), .val .null] []))
                refine own_go (fun _ kS => XS.goto X1.here hx rfl (pc0 := 37) (pc' := 5) rfl (hb hby d4_37) (by decide) (by decide) kS) ?_
                show own_Run p e below _ (T1.setTop (mkF m 5 #[.val (.ref t), .val (.int key), .val .null] []))
                exact ih _ _ _ tR ((own_selR hS hl (own_gt hc22 hc14)).symm.trans hq)
              · show own_Run p e below _ (T1.setTop (mkF m 32 #[.val (.ref t), .val (.int key), .val (.ref ca)] []))
                refine own_go (fun _ kS => XS.aloadN X1.here hx rfl (hb hby d4_32) rfl rfl kS) ?_
                show own_Run p e below _ (T1.setTop (mkF m 33 #[.val (.ref t), .val (.int key), .val (.ref ca)] [(.ref ca)]))
                refine own_getR X1 hx hZ e1 hown (hw _ (List.mem_of_getElem? (i := 26) rfl)) F_right rfl rfl (hb hby d4_33) ?_
                show own_Run p e below _ (T1.setTop (mkF m 36 #[.val (.ref t), .val (.int key), .val (.ref ca)] [(.ref cr)]))
                refine own_go (fun _ kS => XS.astoreN X1.here hx rfl (hb hby d4_36) rfl rfl (l' := #[.val (.ref t), .val (.int key), .val (.ref cr)]) rfl kS) ?_
                show own_Run p e below _ (T1.setTop (mkF m 37 #[.val (.ref t), .val (.int key), .val (.ref cr)] []))
                refine own_go (fun _ kS => XS.goto X1.here hx rfl (pc0 := 37) (pc' := 5) rfl (hb hby d4_37) (by decide) (by decide) kS) ?_
                show own_Run p e below _ (T1.setTop (mkF m 5 #[.val (.ref t), .val (.int key), .val (.ref cr)] []))
                exact ih _ _ _ tR ((own_selR hS hl (own_gt hc22 hc14)).symm.trans hq)
    exact loop n _ ws S hT Iff.rfl
  · rw [hq] at F_root hT
    show own_Run p e below _ (T.setTop (mkF m 0 #[.val (.ref t), .val (.int key), .unset] []))
    refine own_go (fun _ kS => XS.aloadN X.here hx rfl (hb hby d4_0) rfl rfl kS) ?_
    show own_Run p e below _ (T.setTop (mkF m 1 #[.val (.ref t), .val (.int key), .unset] [(.ref t)]))
    refine own_getF X hx hZ e0 hown (hw _ (List.mem_of_getElem? (i := 14) rfl)) F_root rfl rfl (hb hby d4_1) (fun T2 X2 e2 => ?_)
    show own_Run p e below _ (T2.setTop (mkF m 4 #[.val (.ref t), .val (.int key), .unset] [(.ref ca)]))
    refine own_go (fun _ kS => XS.astoreN X2.here hx rfl (hb hby d4_4) rfl rfl (l' := #[.val (.ref t), .val (.int key), .val (.ref ca)]) rfl kS) ?_
    show own_Run p e below _ (T2.setTop (mkF m 5 #[.val (.ref t), .val (.int key), .val (.ref ca)] []))
    have loop : ∀ (nn : Nat) (rr : Value) (cw : List Addr) (CS : Int32 → Prop), own_T Z h0 nn rr cw CS → (CS key ↔ S key) → own_Run p e below (own_End s ({ frames := 0, cells := 0, slots := 0, locals := 0 } : Room) (Q_cont Z t key r n ws S h0)) (T2.setTop (mkF m 5 #[.val (.ref t), .val (.int key), .val rr] [])) := by
      intro nn
      induction nn with
      | zero =>
        intro rr cw CS t0 hq
        rcases t0.cases with rfl | ⟨ca, rfl⟩
        · show own_Run p e below _ (T2.setTop (mkF m 5 #[.val (.ref t), .val (.int key), .val .null] []))
          refine own_go (fun _ kS => XS.aloadN X2.here hx rfl (hb hby d4_5) rfl rfl kS) ?_
          show own_Run p e below _ (T2.setTop (mkF m 6 #[.val (.ref t), .val (.int key), .val .null] [.null]))
          refine own_go (fun _ kS => XS.ifnullYes X2.here hx rfl (pc0 := 6) (pc' := 40) rfl (hb hby d4_6) rfl (by decide) (by decide) kS) ?_
          show own_Run p e below _ (T2.setTop (mkF m 40 #[.val (.ref t), .val (.int key), .val .null] []))
          refine own_go (fun _ kS => XS.aloadN X2.here hx rfl (hb hby d4_40) rfl rfl kS) ?_
          show own_Run p e below _ (T2.setTop (mkF m 41 #[.val (.ref t), .val (.int key), .val .null] [.null]))
          refine own_go (fun _ kS => XS.ifnullYes X2.here hx rfl (pc0 := 41) (pc' := 48) rfl (hb hby d4_41) rfl (by decide) (by decide) kS) ?_
          show own_Run p e below _ (T2.setTop (mkF m 48 #[.val (.ref t), .val (.int key), .val .null] []))
          refine own_go (fun _ kS => XS.iconst X2.here hx rfl (hb hby d4_48) kS) ?_
          show own_Run p e below _ (T2.setTop (mkF m 49 #[.val (.ref t), .val (.int key), .val .null] [(.int (0 : Int32))]))
          refine own_retN X2 hx (t := .boolean) hret hlk (by simp) (hb hby d4_49) (by decide) (by decide) ?_
          exact ⟨0, rfl, e2.symm, rfl, Or.inr ⟨rfl, fun w => t0.null_.2 key (hq.mpr w)⟩⟩
        · exact t0.zero_.elim
      | succ nn ih =>
        intro rr cw CS t0 hq
        rcases t0.cases with rfl | ⟨ca, rfl⟩
        · show own_Run p e below _ (T2.setTop (mkF m 5 #[.val (.ref t), .val (.int key), .val .null] []))
          refine own_go (fun _ kS => XS.aloadN X2.here hx rfl (hb hby d4_5) rfl rfl kS) ?_
          show own_Run p e below _ (T2.setTop (mkF m 6 #[.val (.ref t), .val (.int key), .val .null] [.null]))
          refine own_go (fun _ kS => XS.ifnullYes X2.here hx rfl (pc0 := 6) (pc' := 40) rfl (hb hby d4_6) rfl (by decide) (by decide) kS) ?_
          show own_Run p e below _ (T2.setTop (mkF m 40 #[.val (.ref t), .val (.int key), .val .null] []))
          refine own_go (fun _ kS => XS.aloadN X2.here hx rfl (hb hby d4_40) rfl rfl kS) ?_
          show own_Run p e below _ (T2.setTop (mkF m 41 #[.val (.ref t), .val (.int key), .val .null] [.null]))
          refine own_go (fun _ kS => XS.ifnullYes X2.here hx rfl (pc0 := 41) (pc' := 48) rfl (hb hby d4_41) rfl (by decide) (by decide) kS) ?_
          show own_Run p e below _ (T2.setTop (mkF m 48 #[.val (.ref t), .val (.int key), .val .null] []))
          refine own_go (fun _ kS => XS.iconst X2.here hx rfl (hb hby d4_48) kS) ?_
          show own_Run p e below _ (T2.setTop (mkF m 49 #[.val (.ref t), .val (.int key), .val .null] [(.int (0 : Int32))]))
          refine own_retN X2 hx (t := .boolean) hret hlk (by simp) (hb hby d4_49) (by decide) (by decide) ?_
          exact ⟨0, rfl, e2.symm, rfl, Or.inr ⟨rfl, fun w => t0.null_.2 key (hq.mpr w)⟩⟩
        · obtain ⟨kk, tl, tr, wl, wr, Sl, Sr, E_c, F_key, F_left, F_right, tL, tR, rfl, d, hS, hl, hr⟩ := t0.ref_
          show own_Run p e below _ (T2.setTop (mkF m 5 #[.val (.ref t), .val (.int key), .val (.ref ca)] []))
          refine own_go (fun _ kS => XS.aloadN X2.here hx rfl (hb hby d4_5) rfl rfl kS) ?_
          show own_Run p e below _ (T2.setTop (mkF m 6 #[.val (.ref t), .val (.int key), .val (.ref ca)] [(.ref ca)]))
          refine own_go (fun _ kS => XS.ifnullNo X2.here hx rfl (hb hby d4_6) rfl kS) ?_
          show own_Run p e below _ (T2.setTop (mkF m 9 #[.val (.ref t), .val (.int key), .val (.ref ca)] []))
          refine own_go (fun _ kS => XS.aloadN X2.here hx rfl (hb hby d4_9) rfl rfl kS) ?_
          show own_Run p e below _ (T2.setTop (mkF m 10 #[.val (.ref t), .val (.int key), .val (.ref ca)] [(.ref ca)]))
          refine own_getR X2 hx hZ e2 hown (hw _ (List.mem_of_getElem? (i := 25) rfl)) F_key rfl rfl (hb hby d4_10) ?_
          show own_Run p e below _ (T2.setTop (mkF m 13 #[.val (.ref t), .val (.int key), .val (.ref ca)] [(.int kk)]))
          refine own_go (fun _ kS => XS.iloadN X2.here hx rfl (hb hby d4_13) rfl kS) ?_
          show own_Run p e below _ (T2.setTop (mkF m 14 #[.val (.ref t), .val (.int key), .val (.ref ca)] [(.int key), (.int kk)]))
          by_cases hc14 : kk = key
          · refine own_go (fun _ kS => XS.icmpYes X2.here hx rfl (pc0 := 14) (pc' := 40) rfl (hb hby d4_14) rfl (teq hc14).1 (by decide) (by decide) kS) ?_
            show own_Run p e below _ (T2.setTop (mkF m 40 #[.val (.ref t), .val (.int key), .val (.ref ca)] []))
            refine own_go (fun _ kS => XS.aloadN X2.here hx rfl (hb hby d4_40) rfl rfl kS) ?_
            show own_Run p e below _ (T2.setTop (mkF m 41 #[.val (.ref t), .val (.int key), .val (.ref ca)] [(.ref ca)]))
            refine own_go (fun _ kS => XS.ifnullNo X2.here hx rfl (hb hby d4_41) rfl kS) ?_
            show own_Run p e below _ (T2.setTop (mkF m 44 #[.val (.ref t), .val (.int key), .val (.ref ca)] []))
            refine own_go (fun _ kS => XS.iconst X2.here hx rfl (hb hby d4_44) kS) ?_
            show own_Run p e below _ (T2.setTop (mkF m 45 #[.val (.ref t), .val (.int key), .val (.ref ca)] [(.int (1 : Int32))]))
            refine own_go (fun _ kS => XS.goto X2.here hx rfl (pc0 := 45) (pc' := 49) rfl (hb hby d4_45) (by decide) (by decide) kS) ?_
            show own_Run p e below _ (T2.setTop (mkF m 49 #[.val (.ref t), .val (.int key), .val (.ref ca)] [(.int (1 : Int32))]))
            refine own_retN X2 hx (t := .boolean) hret hlk (by simp) (hb hby d4_49) (by decide) (by decide) ?_
            exact ⟨1, rfl, e2.symm, rfl, Or.inl ⟨rfl, hq.mp ((hS key).mpr (Or.inl hc14.symm))⟩⟩
          · refine own_go (fun _ kS => XS.icmpNo X2.here hx rfl (hb hby d4_14) rfl (feq hc14).1 kS) ?_
            show own_Run p e below _ (T2.setTop (mkF m 17 #[.val (.ref t), .val (.int key), .val (.ref ca)] []))
            refine own_go (fun _ kS => XS.iloadN X2.here hx rfl (hb hby d4_17) rfl kS) ?_
            show own_Run p e below _ (T2.setTop (mkF m 18 #[.val (.ref t), .val (.int key), .val (.ref ca)] [(.int key)]))
            refine own_go (fun _ kS => XS.aloadN X2.here hx rfl (hb hby d4_18) rfl rfl kS) ?_
            show own_Run p e below _ (T2.setTop (mkF m 19 #[.val (.ref t), .val (.int key), .val (.ref ca)] [(.ref ca), (.int key)]))
            refine own_getR X2 hx hZ e2 hown (hw _ (List.mem_of_getElem? (i := 25) rfl)) F_key rfl rfl (hb hby d4_19) ?_
            show own_Run p e below _ (T2.setTop (mkF m 22 #[.val (.ref t), .val (.int key), .val (.ref ca)] [(.int kk), (.int key)]))
            by_cases hc22 : key < kk
            · refine own_go (fun _ kS => XS.icmpNo X2.here hx rfl (hb hby d4_22) rfl (tlt hc22).2.1 kS) ?_
              show own_Run p e below _ (T2.setTop (mkF m 25 #[.val (.ref t), .val (.int key), .val (.ref ca)] []))
              rcases tL.cases with rfl | ⟨cl, rfl⟩
              · show own_Run p e below _ (T2.setTop (mkF m 25 #[.val (.ref t), .val (.int key), .val (.ref ca)] []))
                refine own_go (fun _ kS => XS.aloadN X2.here hx rfl (hb hby d4_25) rfl rfl kS) ?_
                show own_Run p e below _ (T2.setTop (mkF m 26 #[.val (.ref t), .val (.int key), .val (.ref ca)] [(.ref ca)]))
                refine own_getR X2 hx hZ e2 hown (hw _ (List.mem_of_getElem? (i := 28) rfl)) F_left rfl rfl (hb hby d4_26) ?_
                show own_Run p e below _ (T2.setTop (mkF m 29 #[.val (.ref t), .val (.int key), .val (.ref ca)] [.null]))
                refine own_go (fun _ kS => XS.goto X2.here hx rfl (pc0 := 29) (pc' := 36) rfl (hb hby d4_29) (by decide) (by decide) kS) ?_
                show own_Run p e below _ (T2.setTop (mkF m 36 #[.val (.ref t), .val (.int key), .val (.ref ca)] [.null]))
                refine own_go (fun _ kS => XS.astoreN X2.here hx rfl (hb hby d4_36) rfl rfl (l' := #[.val (.ref t), .val (.int key), .val .null]) rfl kS) ?_
                show own_Run p e below _ (T2.setTop (mkF m 37 #[.val (.ref t), .val (.int key), .val .null] []))
                refine own_go (fun _ kS => XS.goto X2.here hx rfl (pc0 := 37) (pc' := 5) rfl (hb hby d4_37) (by decide) (by decide) kS) ?_
                show own_Run p e below _ (T2.setTop (mkF m 5 #[.val (.ref t), .val (.int key), .val .null] []))
                exact ih _ _ _ tL ((own_selL hS hr hc22).symm.trans hq)
              · show own_Run p e below _ (T2.setTop (mkF m 25 #[.val (.ref t), .val (.int key), .val (.ref ca)] []))
                refine own_go (fun _ kS => XS.aloadN X2.here hx rfl (hb hby d4_25) rfl rfl kS) ?_
                show own_Run p e below _ (T2.setTop (mkF m 26 #[.val (.ref t), .val (.int key), .val (.ref ca)] [(.ref ca)]))
                refine own_getR X2 hx hZ e2 hown (hw _ (List.mem_of_getElem? (i := 28) rfl)) F_left rfl rfl (hb hby d4_26) ?_
                show own_Run p e below _ (T2.setTop (mkF m 29 #[.val (.ref t), .val (.int key), .val (.ref ca)] [(.ref cl)]))
                refine own_go (fun _ kS => XS.goto X2.here hx rfl (pc0 := 29) (pc' := 36) rfl (hb hby d4_29) (by decide) (by decide) kS) ?_
                show own_Run p e below _ (T2.setTop (mkF m 36 #[.val (.ref t), .val (.int key), .val (.ref ca)] [(.ref cl)]))
                refine own_go (fun _ kS => XS.astoreN X2.here hx rfl (hb hby d4_36) rfl rfl (l' := #[.val (.ref t), .val (.int key), .val (.ref cl)]) rfl kS) ?_
                show own_Run p e below _ (T2.setTop (mkF m 37 #[.val (.ref t), .val (.int key), .val (.ref cl)] []))
                refine own_go (fun _ kS => XS.goto X2.here hx rfl (pc0 := 37) (pc' := 5) rfl (hb hby d4_37) (by decide) (by decide) kS) ?_
                show own_Run p e below _ (T2.setTop (mkF m 5 #[.val (.ref t), .val (.int key), .val (.ref cl)] []))
                exact ih _ _ _ tL ((own_selL hS hr hc22).symm.trans hq)
            · refine own_go (fun _ kS => XS.icmpYes X2.here hx rfl (pc0 := 22) (pc' := 32) rfl (hb hby d4_22) rfl (flt hc22).2.1 (by decide) (by decide) kS) ?_
              show own_Run p e below _ (T2.setTop (mkF m 32 #[.val (.ref t), .val (.int key), .val (.ref ca)] []))
              rcases tR.cases with rfl | ⟨cr, rfl⟩
              · show own_Run p e below _ (T2.setTop (mkF m 32 #[.val (.ref t), .val (.int key), .val (.ref ca)] []))
                refine own_go (fun _ kS => XS.aloadN X2.here hx rfl (hb hby d4_32) rfl rfl kS) ?_
                show own_Run p e below _ (T2.setTop (mkF m 33 #[.val (.ref t), .val (.int key), .val (.ref ca)] [(.ref ca)]))
                refine own_getR X2 hx hZ e2 hown (hw _ (List.mem_of_getElem? (i := 26) rfl)) F_right rfl rfl (hb hby d4_33) ?_
                show own_Run p e below _ (T2.setTop (mkF m 36 #[.val (.ref t), .val (.int key), .val (.ref ca)] [.null]))
                refine own_go (fun _ kS => XS.astoreN X2.here hx rfl (hb hby d4_36) rfl rfl (l' := #[.val (.ref t), .val (.int key), .val .null]) rfl kS) ?_
                show own_Run p e below _ (T2.setTop (mkF m 37 #[.val (.ref t), .val (.int key), .val .null] []))
                refine own_go (fun _ kS => XS.goto X2.here hx rfl (pc0 := 37) (pc' := 5) rfl (hb hby d4_37) (by decide) (by decide) kS) ?_
                show own_Run p e below _ (T2.setTop (mkF m 5 #[.val (.ref t), .val (.int key), .val .null] []))
                exact ih _ _ _ tR ((own_selR hS hl (own_gt hc22 hc14)).symm.trans hq)
              · show own_Run p e below _ (T2.setTop (mkF m 32 #[.val (.ref t), .val (.int key), .val (.ref ca)] []))
                refine own_go (fun _ kS => XS.aloadN X2.here hx rfl (hb hby d4_32) rfl rfl kS) ?_
                show own_Run p e below _ (T2.setTop (mkF m 33 #[.val (.ref t), .val (.int key), .val (.ref ca)] [(.ref ca)]))
                refine own_getR X2 hx hZ e2 hown (hw _ (List.mem_of_getElem? (i := 26) rfl)) F_right rfl rfl (hb hby d4_33) ?_
                show own_Run p e below _ (T2.setTop (mkF m 36 #[.val (.ref t), .val (.int key), .val (.ref ca)] [(.ref cr)]))
                refine own_go (fun _ kS => XS.astoreN X2.here hx rfl (hb hby d4_36) rfl rfl (l' := #[.val (.ref t), .val (.int key), .val (.ref cr)]) rfl kS) ?_
                show own_Run p e below _ (T2.setTop (mkF m 37 #[.val (.ref t), .val (.int key), .val (.ref cr)] []))
                refine own_go (fun _ kS => XS.goto X2.here hx rfl (pc0 := 37) (pc' := 5) rfl (hb hby d4_37) (by decide) (by decide) kS) ?_
                show own_Run p e below _ (T2.setTop (mkF m 5 #[.val (.ref t), .val (.int key), .val (.ref cr)] []))
                exact ih _ _ _ tR ((own_selR hS hl (own_gt hc22 hc14)).symm.trans hq)
    exact loop n _ ws S hT Iff.rfl
theorem own_pd1 : parseMethodDescriptor "(Lsubjects/SearchTree$Node;)Lsubjects/SearchTree$Node;" = some ⟨[(.object "subjects/SearchTree$Node")], some (.object "subjects/SearchTree$Node")⟩ := by decide +kernel
theorem d5_0 : decode prog_78_method_6_code 0 = .ok (.aload_n 0, 1) := by decide +kernel
theorem d5_1 : decode prog_78_method_6_code 1 = .ok (.getfield 22, 3) := by decide +kernel
theorem d5_4 : decode prog_78_method_6_code 4 = .ok (.ifnonnull 8, 3) := by decide +kernel
theorem d5_7 : decode prog_78_method_6_code 7 = .ok (.aload_n 0, 1) := by decide +kernel
theorem d5_8 : decode prog_78_method_6_code 8 = .ok (.getfield 25, 3) := by decide +kernel
theorem d5_11 : decode prog_78_method_6_code 11 = .ok (.areturn, 1) := by decide +kernel
theorem d5_12 : decode prog_78_method_6_code 12 = .ok (.aload_n 0, 1) := by decide +kernel
theorem d5_13 : decode prog_78_method_6_code 13 = .ok (.aload_n 0, 1) := by decide +kernel
theorem d5_14 : decode prog_78_method_6_code 14 = .ok (.getfield 22, 3) := by decide +kernel
theorem d5_17 : decode prog_78_method_6_code 17 = .ok (.invokestatic 32, 3) := by decide +kernel
theorem d5_20 : decode prog_78_method_6_code 20 = .ok (.putfield 22, 3) := by decide +kernel
theorem d5_23 : decode prog_78_method_6_code 23 = .ok (.aload_n 0, 1) := by decide +kernel
theorem d5_24 : decode prog_78_method_6_code 24 = .ok (.areturn, 1) := by decide +kernel
abbrev Q_wlS (Z : State) (a : Addr) (nn : Nat) (ws : List Addr) (S : Int32 → Prop) (mm : Addr) (km : Int32) (n0 : Nat) (h0 : Heap) : Option Value → Heap → List Loc → Prop := fun v h L => own_Qwl Z (nn + 1) ws S mm km n0 h0 v h L
set_option maxRecDepth 65536 in
set_option maxHeartbeats 40000000 in
theorem rm_wlS (l : Launch) (Z : State) (a0 : Array Value) (hw : ∀ d ∈ tables_1, d.before a0 Z = true) (a : Addr) (nn : Nat) (ws : List Addr) (S : Int32 → Prop) (mm : Addr) (km : Int32) (n0 : Nat) (h0 : Heap) (Z0 : n0 ≤ h0.size) (hT : own_T Z h0 (nn + 1) (.ref a) ws S) (hM : own_Lm Z h0 (nn + 1) a mm) (hK : Fld Z h0 mm "subjects/SearchTree$Node" "key" "I" (.int km)) (gws : ∀ y ∈ ws, n0 ≤ y) (ih : ∀ (a : Addr) (ws : List Addr) (S : Int32 → Prop) (h0 : Heap), n0 ≤ h0.size → own_T Z h0 nn (.ref a) ws S → own_Lm Z h0 nn a mm → Fld Z h0 mm "subjects/SearchTree$Node" "key" "I" (.int km) → (∀ y ∈ ws, n0 ≤ y) → own_Met l Z (⟨"subjects/SearchTree", "withoutLeast", "(Lsubjects/SearchTree$Node;)Lsubjects/SearchTree$Node;"⟩ : MethodName) prog_78_method_6_code 1 (some (.object "subjects/SearchTree$Node")) (own_roomL nn) #[.ref a] h0 (own_Qwl Z nn ws S mm km n0 h0)) :
    own_Met l Z (⟨"subjects/SearchTree", "withoutLeast", "(Lsubjects/SearchTree$Node;)Lsubjects/SearchTree$Node;"⟩ : MethodName) prog_78_method_6_code 1 (some (.object "subjects/SearchTree$Node")) (own_roomL (nn + 1)) #[(.ref a)] h0 (Q_wlS Z a nn ws S mm km n0 h0) := by
  refine own_enter (g0 := fun m => (mkF m 0 #[.val (.ref a)] [])) (plainFor_of_name (by first | (simp [plainName, overriddenIn]; done) | decide +kernel)) (fun m => by first | (simp [entryFrame, mkF, argsToLocals, Value.category]; done) | rfl) ?_
  intro p e s m below meth c T hx hby hml hown hnm hZ hret hlk X e0
  replace hown : s.vm.findClass "subjects/SearchTree" = some m.cls := hown
  have N := Fr.nil n0
  have hz := Z0
  show own_Run p e below _ (T.setTop (mkF m 0 #[.val (.ref a)] []))
  obtain ⟨kk, tl, tr, wl, wr, Sl, Sr, E_c, F_key, F_left, F_right, tL, tR, rfl, d, hS, hl, hr⟩ := hT.ref_
  have hca := E_c.lt
  have g_a := gws a (List.mem_cons_self ..)
  rcases hM with ⟨Fl0, q0⟩ | ⟨cl, Fl0, hM2⟩
  · obtain rfl := own_Fld_one F_left Fl0
    have q1 := q0.symm
    subst q1
    cases own_Fld_one F_key hK
    have r_tr := own_isR tR.cases
    have n_tr : narrow (.object "subjects/SearchTree$Node") tr = tr := own_narR tR.cases
    show own_Run p e below _ (T.setTop (mkF m 0 #[.val (.ref a)] []))
    refine own_go (fun _ kS => XS.aloadN X.here hx rfl (hb hby d5_0) rfl rfl kS) ?_
    show own_Run p e below _ (T.setTop (mkF m 1 #[.val (.ref a)] [(.ref a)]))
    refine own_getR X hx hZ e0 hown (hw _ (List.mem_of_getElem? (i := 28) rfl)) F_left rfl rfl (hb hby d5_1) ?_
    show own_Run p e below _ (T.setTop (mkF m 4 #[.val (.ref a)] [.null]))
    refine own_go (fun _ kS => XS.ifnonnullNo X.here hx rfl (hb hby d5_4) rfl kS) ?_
    show own_Run p e below _ (T.setTop (mkF m 7 #[.val (.ref a)] []))
    refine own_go (fun _ kS => XS.aloadN X.here hx rfl (hb hby d5_7) rfl rfl kS) ?_
    show own_Run p e below _ (T.setTop (mkF m 8 #[.val (.ref a)] [(.ref a)]))
    refine own_getR X hx hZ e0 hown (hw _ (List.mem_of_getElem? (i := 26) rfl)) F_right rfl rfl (hb hby d5_8) ?_
    show own_Run p e below _ (T.setTop (mkF m 11 #[.val (.ref a)] [tr]))
    refine own_retA X hx hret hlk rfl r_tr n_tr (hb hby d5_11) (Nat.le_refl 0) (Nat.le_refl 0) ?_
    rw [e0]
    exact ⟨tr, wr, rfl, N, Keep.refl _ _, (tR.mono).congr (fun y => ((own_iffM hS hl hr y).trans ⟨fun q => q.elim (fun w => absurd w (tL.null_.2 y)) id, Or.inr⟩).symm), fun y hy => ⟨own_inR y hy, fun w => d.2.1 (w ▸ hy)⟩⟩
  · obtain rfl := own_Fld_one F_left Fl0
    show own_Run p e below _ (T.setTop (mkF m 0 #[.val (.ref a)] []))
    refine own_go (fun _ kS => XS.aloadN X.here hx rfl (hb hby d5_0) rfl rfl kS) ?_
    show own_Run p e below _ (T.setTop (mkF m 1 #[.val (.ref a)] [(.ref a)]))
    refine own_getR X hx hZ e0 hown (hw _ (List.mem_of_getElem? (i := 28) rfl)) F_left rfl rfl (hb hby d5_1) ?_
    show own_Run p e below _ (T.setTop (mkF m 4 #[.val (.ref a)] [(.ref cl)]))
    refine own_go (fun _ kS => XS.ifnonnullYes X.here hx rfl (pc0 := 4) (pc' := 12) rfl (hb hby d5_4) rfl (by decide) (by decide) kS) ?_
    show own_Run p e below _ (T.setTop (mkF m 12 #[.val (.ref a)] []))
    obtain ⟨m2, k2, tr2, p1, p2, -, p4, -, -, p7, -⟩ := tL.least
    obtain rfl := own_Lm_one p1 hM2
    cases own_Fld_one p4 hK
    have hmk : km < kk := hl km p7
    have hmw : m2 ∈ wl := p2
    have hma : ¬ m2 = a := fun w => d.1 (w ▸ p2)
    refine own_go (fun _ kS => XS.aloadN X.here hx rfl (hb hby d5_12) rfl rfl kS) ?_
    show own_Run p e below _ (T.setTop (mkF m 13 #[.val (.ref a)] [(.ref a)]))
    refine own_go (fun _ kS => XS.aloadN X.here hx rfl (hb hby d5_13) rfl rfl kS) ?_
    show own_Run p e below _ (T.setTop (mkF m 14 #[.val (.ref a)] [(.ref a), (.ref a)]))
    refine own_getR X hx hZ e0 hown (hw _ (List.mem_of_getElem? (i := 28) rfl)) F_left rfl rfl (hb hby d5_14) ?_
    show own_Run p e below _ (T.setTop (mkF m 17 #[.val (.ref a)] [(.ref cl), (.ref a)]))
    refine own_callS X hx hZ e0 hown (⟨"subjects/SearchTree", "withoutLeast", "(Lsubjects/SearchTree$Node;)Lsubjects/SearchTree$Node;"⟩ : MethodName) (hw _ (List.mem_of_getElem? (i := 47) rfl)) (hw _ (List.mem_of_getElem? (i := 48) rfl)) (hw _ (List.mem_of_getElem? (i := 2) rfl)) (hw _ (List.mem_of_getElem? (i := 49) rfl)) (by decide) [(.ref cl)] [(.ref a)] (ih cl wl Sl h0 hz tL hM2 hK (fun y hy => gws y (own_inL y hy))) (Nat.le_refl _) 1 (by show 1 + (1 + 11) + 13 * nn ≤ 13 * (nn + 1); omega) (Nat.le_refl 0) (Nat.le_refl 0) rfl (by rw [hml]; rfl) (lenOf own_pd1 rfl) rfl (by show 2 * 0 + _ ≤ _; exact Nat.le_of_eq rfl) (hb hby d5_17) (fun v1 h1 L1 T1 Q1 X1 e1 => ?_)
    obtain ⟨r2, ws2, rfl, Nq1, Kq, t2, hw2⟩ := Q1
    replace N := N.app Nq1
    replace hz := Nat.le_trans hz Kq.1
    have nb : a ∉ ws2 := fun q => d.1 (hw2 a q).1
    replace E_c := E_c.keep Kq
    replace F_key := F_key.keep Kq nb
    replace F_left := F_left.keep Kq nb
    replace F_right := F_right.keep Kq nb
    replace tR := tR.keep Kq (fun y hy q => d.2.2 y (hw2 y q).1 hy)
    have n_r2 : narrow (.object "subjects/SearchTree$Node") r2 = r2 := own_narR t2.cases
    have f_r2 : fits (.object "subjects/SearchTree$Node") r2 = true := own_fitR t2.cases
    show own_Run p e below _ (T1.setTop (mkF m 20 #[.val (.ref a)] [r2, (.ref a)]))
    refine own_putR X1 hx hZ e1 hown (.object "subjects/SearchTree$Node") (hw _ (List.mem_of_getElem? (i := 28) rfl)) F_left E_c (hw _ (List.mem_of_getElem? (i := 29) rfl)) (hw _ (List.mem_of_getElem? (i := 17) rfl)) (by decide) n_r2 f_r2 rfl rfl (hb hby d5_20) (fun T2 h2 X2 e2 W2 => ?_)
    replace E_c := E_c.wr W2
    replace F_key := F_key.other W2 (Or.inr (slot_ne (Or.inr (hw _ (List.mem_of_getElem? (i := 24) rfl))) (Or.inl (hw _ (List.mem_of_getElem? (i := 29) rfl))) (by decide) (t := .int) (t' := (.object "subjects/SearchTree$Node")) (by decide) (by decide)))
    replace F_left := F_left.same W2
    replace F_right := F_right.other W2 (Or.inr (slot_ne (Or.inl (hw _ (List.mem_of_getElem? (i := 27) rfl))) (Or.inl (hw _ (List.mem_of_getElem? (i := 29) rfl))) (by decide) (t := (.object "subjects/SearchTree$Node")) (t' := (.object "subjects/SearchTree$Node")) (by decide) (by decide)))
    replace tR := tR.keep (Keep.of_wr W2) (own_nin1 d.2.1)
    replace t2 := t2.keep (Keep.of_wr W2) (own_nin1 nb)
    replace hz := Nat.le_trans hz (Nat.le_of_eq W2.size.symm)
    replace N := Fr.snoc X2 N g_a
    show own_Run p e below _ (T2.setTop (mkF m 23 #[.val (.ref a)] []))
    refine own_go (fun _ kS => XS.aloadN X2.here hx rfl (hb hby d5_23) rfl rfl kS) ?_
    show own_Run p e below _ (T2.setTop (mkF m 24 #[.val (.ref a)] [(.ref a)]))
    refine own_retA X2 hx hret hlk rfl rfl rfl (hb hby d5_24) (Nat.le_refl 0) (Nat.le_refl 0) ?_
    rw [e2]
    refine ⟨_, a :: (ws2 ++ wr), rfl, N, (own_weak Kq own_inL).wr W2 (Or.inl (List.mem_cons_self ..)), own_T.node E_c F_key F_left F_right t2 tR ⟨nb, d.2.1, fun y hy => d.2.2 y (hw2 y hy).1⟩ (own_iffL (k := km) hS hmk hr) (fun y q => hl y q.1) hr, fun y hy => ?_⟩
    rcases List.mem_cons.mp hy with rfl | hy
    · exact ⟨List.mem_cons_self .., fun w => hma (w ▸ rfl)⟩
    · rcases List.mem_append.mp hy with hy | hy
      · exact ⟨own_inL y (hw2 y hy).1, (hw2 y hy).2⟩
      · exact ⟨own_inR y hy, fun w => d.2.2 m2 hmw (w ▸ hy)⟩
theorem rm_wl (l : Launch) (Z : State) (a0 : Array Value) (hw : ∀ d ∈ tables_1, d.before a0 Z = true) (n0 : Nat) (mm : Addr) (km : Int32) : ∀ (nn : Nat) (a : Addr) (ws : List Addr) (S : Int32 → Prop) (h0 : Heap), n0 ≤ h0.size → own_T Z h0 nn (.ref a) ws S → own_Lm Z h0 nn a mm → Fld Z h0 mm "subjects/SearchTree$Node" "key" "I" (.int km) → (∀ y ∈ ws, n0 ≤ y) → own_Met l Z (⟨"subjects/SearchTree", "withoutLeast", "(Lsubjects/SearchTree$Node;)Lsubjects/SearchTree$Node;"⟩ : MethodName) prog_78_method_6_code 1 (some (.object "subjects/SearchTree$Node")) (own_roomL nn) #[.ref a] h0 (own_Qwl Z nn ws S mm km n0 h0) := by
  intro nn
  induction nn with
  | zero => intro a ws S h0 _ t; exact t.zero_.elim
  | succ nn ih => intro a ws S h0 z t q1 q2 q3; exact rm_wlS l Z a0 hw a nn ws S mm km n0 h0 z t q1 q2 q3 ih
theorem d6_0 : decode prog_78_method_5_code 0 = .ok (.aload_n 0, 1) := by decide +kernel
theorem d6_1 : decode prog_78_method_5_code 1 = .ok (.ifnonnull 5, 3) := by decide +kernel
theorem d6_4 : decode prog_78_method_5_code 4 = .ok (.aconst_null, 1) := by decide +kernel
theorem d6_5 : decode prog_78_method_5_code 5 = .ok (.areturn, 1) := by decide +kernel
abbrev Q_wN (Z : State) (key : Int32) (n : Nat) (ws : List Addr) (S : Int32 → Prop) (n0 : Nat) (h0 : Heap) : Option Value → Heap → List Loc → Prop := fun v h L => own_Qw Z n ws S key n0 h0 v h L
set_option maxRecDepth 65536 in
set_option maxHeartbeats 40000000 in
theorem rm_wN (l : Launch) (Z : State) (a0 : Array Value) (hw : ∀ d ∈ tables_1, d.before a0 Z = true) (key : Int32) (n : Nat) (ws : List Addr) (S : Int32 → Prop) (n0 : Nat) (h0 : Heap) (Z0 : n0 ≤ h0.size) (hT : own_T Z h0 n .null ws S) :
    own_Met l Z (⟨"subjects/SearchTree", "without", "(Lsubjects/SearchTree$Node;I)Lsubjects/SearchTree$Node;"⟩ : MethodName) prog_78_method_5_code 4 (some (.object "subjects/SearchTree$Node")) (own_roomW n) #[.null, (.int key)] h0 (Q_wN Z key n ws S n0 h0) := by
  refine own_enter (g0 := fun m => (mkF m 0 #[.val .null, .val (.int key), .unset, .unset] [])) (plainFor_of_name (by first | (simp [plainName, overriddenIn]; done) | decide +kernel)) (fun m => by first | (simp [entryFrame, mkF, argsToLocals, Value.category]; done) | rfl) ?_
  intro p e s m below meth c T hx hby hml hown hnm hZ hret hlk X e0
  replace hown : s.vm.findClass "subjects/SearchTree" = some m.cls := hown
  have N := Fr.nil n0
  have hz := Z0
  show own_Run p e below _ (T.setTop (mkF m 0 #[.val .null, .val (.int key), .unset, .unset] []))
  refine own_go (fun _ kS => XS.aloadN X.here hx rfl (hb hby d6_0) rfl rfl kS) ?_
  show own_Run p e below _ (T.setTop (mkF m 1 #[.val .null, .val (.int key), .unset, .unset] [.null]))
  refine own_go (fun _ kS => XS.ifnonnullNo X.here hx rfl (hb hby d6_1) rfl kS) ?_
  show own_Run p e below _ (T.setTop (mkF m 4 #[.val .null, .val (.int key), .unset, .unset] []))
  refine own_go (fun _ kS => XS.aconstNull X.here hx rfl (hb hby d6_4) kS) ?_
  show own_Run p e below _ (T.setTop (mkF m 5 #[.val .null, .val (.int key), .unset, .unset] [.null]))
  refine own_retA X hx hret hlk rfl rfl rfl (hb hby d6_5) (Nat.le_refl 0) (Nat.le_refl 0) ?_
  rw [e0]
  obtain ⟨rfl, hS0⟩ := hT.null_
  exact ⟨.null, [], rfl, N, Keep.refl _ _, own_T.nul (fun y q => hS0 y q.1), fun y hy => hy⟩
theorem own_pd2 : parseMethodDescriptor "(Lsubjects/SearchTree$Node;I)Lsubjects/SearchTree$Node;" = some ⟨[(.object "subjects/SearchTree$Node"), .int], some (.object "subjects/SearchTree$Node")⟩ := by decide +kernel
theorem d7_0 : decode prog_78_method_5_code 0 = .ok (.aload_n 0, 1) := by decide +kernel
theorem d7_1 : decode prog_78_method_5_code 1 = .ok (.ifnonnull 5, 3) := by decide +kernel
theorem d7_6 : decode prog_78_method_5_code 6 = .ok (.iload_n 1, 1) := by decide +kernel
theorem d7_7 : decode prog_78_method_5_code 7 = .ok (.aload_n 0, 1) := by decide +kernel
theorem d7_8 : decode prog_78_method_5_code 8 = .ok (.getfield 18, 3) := by decide +kernel
theorem d7_11 : decode prog_78_method_5_code 11 = .ok (.if_icmp .ge 17, 3) := by decide +kernel
theorem d7_14 : decode prog_78_method_5_code 14 = .ok (.aload_n 0, 1) := by decide +kernel
theorem d7_15 : decode prog_78_method_5_code 15 = .ok (.aload_n 0, 1) := by decide +kernel
theorem d7_16 : decode prog_78_method_5_code 16 = .ok (.getfield 22, 3) := by decide +kernel
theorem d7_19 : decode prog_78_method_5_code 19 = .ok (.iload_n 1, 1) := by decide +kernel
theorem d7_20 : decode prog_78_method_5_code 20 = .ok (.invokestatic 28, 3) := by decide +kernel
theorem d7_23 : decode prog_78_method_5_code 23 = .ok (.putfield 22, 3) := by decide +kernel
theorem d7_26 : decode prog_78_method_5_code 26 = .ok (.aload_n 0, 1) := by decide +kernel
theorem d7_27 : decode prog_78_method_5_code 27 = .ok (.areturn, 1) := by decide +kernel
theorem d7_28 : decode prog_78_method_5_code 28 = .ok (.iload_n 1, 1) := by decide +kernel
theorem d7_29 : decode prog_78_method_5_code 29 = .ok (.aload_n 0, 1) := by decide +kernel
theorem d7_30 : decode prog_78_method_5_code 30 = .ok (.getfield 18, 3) := by decide +kernel
theorem d7_33 : decode prog_78_method_5_code 33 = .ok (.if_icmp .le 17, 3) := by decide +kernel
theorem d7_36 : decode prog_78_method_5_code 36 = .ok (.aload_n 0, 1) := by decide +kernel
theorem d7_37 : decode prog_78_method_5_code 37 = .ok (.aload_n 0, 1) := by decide +kernel
theorem d7_38 : decode prog_78_method_5_code 38 = .ok (.getfield 25, 3) := by decide +kernel
theorem d7_41 : decode prog_78_method_5_code 41 = .ok (.iload_n 1, 1) := by decide +kernel
theorem d7_42 : decode prog_78_method_5_code 42 = .ok (.invokestatic 28, 3) := by decide +kernel
theorem d7_45 : decode prog_78_method_5_code 45 = .ok (.putfield 25, 3) := by decide +kernel
theorem d7_48 : decode prog_78_method_5_code 48 = .ok (.aload_n 0, 1) := by decide +kernel
theorem d7_49 : decode prog_78_method_5_code 49 = .ok (.areturn, 1) := by decide +kernel
theorem d7_50 : decode prog_78_method_5_code 50 = .ok (.aload_n 0, 1) := by decide +kernel
theorem d7_51 : decode prog_78_method_5_code 51 = .ok (.getfield 22, 3) := by decide +kernel
theorem d7_54 : decode prog_78_method_5_code 54 = .ok (.ifnonnull 8, 3) := by decide +kernel
theorem d7_57 : decode prog_78_method_5_code 57 = .ok (.aload_n 0, 1) := by decide +kernel
theorem d7_58 : decode prog_78_method_5_code 58 = .ok (.getfield 25, 3) := by decide +kernel
theorem d7_61 : decode prog_78_method_5_code 61 = .ok (.areturn, 1) := by decide +kernel
theorem d7_62 : decode prog_78_method_5_code 62 = .ok (.aload_n 0, 1) := by decide +kernel
theorem d7_63 : decode prog_78_method_5_code 63 = .ok (.getfield 25, 3) := by decide +kernel
theorem d7_66 : decode prog_78_method_5_code 66 = .ok (.ifnonnull 8, 3) := by decide +kernel
theorem d7_69 : decode prog_78_method_5_code 69 = .ok (.aload_n 0, 1) := by decide +kernel
theorem d7_70 : decode prog_78_method_5_code 70 = .ok (.getfield 22, 3) := by decide +kernel
theorem d7_73 : decode prog_78_method_5_code 73 = .ok (.areturn, 1) := by decide +kernel
theorem d7_74 : decode prog_78_method_5_code 74 = .ok (.aload_n 0, 1) := by decide +kernel
theorem d7_75 : decode prog_78_method_5_code 75 = .ok (.getfield 25, 3) := by decide +kernel
theorem d7_78 : decode prog_78_method_5_code 78 = .ok (.astore_n 2, 1) := by decide +kernel
theorem d7_79 : decode prog_78_method_5_code 79 = .ok (.aload_n 2, 1) := by decide +kernel
theorem d7_80 : decode prog_78_method_5_code 80 = .ok (.getfield 22, 3) := by decide +kernel
theorem d7_83 : decode prog_78_method_5_code 83 = .ok (.ifnull 11, 3) := by decide +kernel
theorem d7_86 : decode prog_78_method_5_code 86 = .ok (.aload_n 2, 1) := by decide +kernel
theorem d7_87 : decode prog_78_method_5_code 87 = .ok (.getfield 22, 3) := by decide +kernel
theorem d7_90 : decode prog_78_method_5_code 90 = .ok (.astore_n 2, 1) := by decide +kernel
theorem d7_91 : decode prog_78_method_5_code 91 = .ok (.goto (-12), 3) := by decide +kernel
theorem d7_94 : decode prog_78_method_5_code 94 = .ok (.aload_n 0, 1) := by decide +kernel
theorem d7_95 : decode prog_78_method_5_code 95 = .ok (.getfield 25, 3) := by decide +kernel
theorem d7_98 : decode prog_78_method_5_code 98 = .ok (.invokestatic 32, 3) := by decide +kernel
theorem d7_101 : decode prog_78_method_5_code 101 = .ok (.astore_n 3, 1) := by decide +kernel
theorem d7_102 : decode prog_78_method_5_code 102 = .ok (.aload_n 2, 1) := by decide +kernel
theorem d7_103 : decode prog_78_method_5_code 103 = .ok (.aload_n 0, 1) := by decide +kernel
theorem d7_104 : decode prog_78_method_5_code 104 = .ok (.getfield 22, 3) := by decide +kernel
theorem d7_107 : decode prog_78_method_5_code 107 = .ok (.putfield 22, 3) := by decide +kernel
theorem d7_110 : decode prog_78_method_5_code 110 = .ok (.aload_n 2, 1) := by decide +kernel
theorem d7_111 : decode prog_78_method_5_code 111 = .ok (.aload_n 3, 1) := by decide +kernel
theorem d7_112 : decode prog_78_method_5_code 112 = .ok (.putfield 25, 3) := by decide +kernel
theorem d7_115 : decode prog_78_method_5_code 115 = .ok (.aload_n 2, 1) := by decide +kernel
theorem d7_116 : decode prog_78_method_5_code 116 = .ok (.areturn, 1) := by decide +kernel
abbrev Q_wS (Z : State) (a : Addr) (key : Int32) (nn : Nat) (ws : List Addr) (S : Int32 → Prop) (n0 : Nat) (h0 : Heap) : Option Value → Heap → List Loc → Prop := fun v h L => own_Qw Z (nn + 1) ws S key n0 h0 v h L
set_option maxRecDepth 65536 in
set_option maxHeartbeats 40000000 in
theorem rm_wS (l : Launch) (Z : State) (a0 : Array Value) (hw : ∀ d ∈ tables_1, d.before a0 Z = true) (a : Addr) (key : Int32) (nn : Nat) (ws : List Addr) (S : Int32 → Prop) (n0 : Nat) (h0 : Heap) (Z0 : n0 ≤ h0.size) (hT : own_T Z h0 (nn + 1) (.ref a) ws S) (gws : ∀ y ∈ ws, n0 ≤ y) (ih : ∀ (r : Value) (ws : List Addr) (S : Int32 → Prop) (h0 : Heap), n0 ≤ h0.size → own_T Z h0 nn r ws S → (∀ y ∈ ws, n0 ≤ y) → own_Met l Z (⟨"subjects/SearchTree", "without", "(Lsubjects/SearchTree$Node;I)Lsubjects/SearchTree$Node;"⟩ : MethodName) prog_78_method_5_code 4 (some (.object "subjects/SearchTree$Node")) (own_roomW nn) #[r, .int key] h0 (own_Qw Z nn ws S key n0 h0)) :
    own_Met l Z (⟨"subjects/SearchTree", "without", "(Lsubjects/SearchTree$Node;I)Lsubjects/SearchTree$Node;"⟩ : MethodName) prog_78_method_5_code 4 (some (.object "subjects/SearchTree$Node")) (own_roomW (nn + 1)) #[(.ref a), (.int key)] h0 (Q_wS Z a key nn ws S n0 h0) := by
  refine own_enter (g0 := fun m => (mkF m 0 #[.val (.ref a), .val (.int key), .unset, .unset] [])) (plainFor_of_name (by first | (simp [plainName, overriddenIn]; done) | decide +kernel)) (fun m => by first | (simp [entryFrame, mkF, argsToLocals, Value.category]; done) | rfl) ?_
  intro p e s m below meth c T hx hby hml hown hnm hZ hret hlk X e0
  replace hown : s.vm.findClass "subjects/SearchTree" = some m.cls := hown
  have N := Fr.nil n0
  have hz := Z0
  show own_Run p e below _ (T.setTop (mkF m 0 #[.val (.ref a), .val (.int key), .unset, .unset] []))
  obtain ⟨kk, tl, tr, wl, wr, Sl, Sr, E_c, F_key, F_left, F_right, tL, tR, hws, d, hS, hl, hr⟩ := hT.ref_
  rw [hws] at gws
  have hca := E_c.lt
  have g_a := gws a (List.mem_cons_self ..)
  show own_Run p e below _ (T.setTop (mkF m 0 #[.val (.ref a), .val (.int key), .unset, .unset] []))
  refine own_go (fun _ kS => XS.aloadN X.here hx rfl (hb hby d7_0) rfl rfl kS) ?_
  show own_Run p e below _ (T.setTop (mkF m 1 #[.val (.ref a), .val (.int key), .unset, .unset] [(.ref a)]))
  refine own_go (fun _ kS => XS.ifnonnullYes X.here hx rfl (pc0 := 1) (pc' := 6) rfl (hb hby d7_1) rfl (by decide) (by decide) kS) ?_
  show own_Run p e below _ (T.setTop (mkF m 6 #[.val (.ref a), .val (.int key), .unset, .unset] []))
  refine own_go (fun _ kS => XS.iloadN X.here hx rfl (hb hby d7_6) rfl kS) ?_
  show own_Run p e below _ (T.setTop (mkF m 7 #[.val (.ref a), .val (.int key), .unset, .unset] [(.int key)]))
  refine own_go (fun _ kS => XS.aloadN X.here hx rfl (hb hby d7_7) rfl rfl kS) ?_
  show own_Run p e below _ (T.setTop (mkF m 8 #[.val (.ref a), .val (.int key), .unset, .unset] [(.ref a), (.int key)]))
  refine own_getR X hx hZ e0 hown (hw _ (List.mem_of_getElem? (i := 25) rfl)) F_key rfl rfl (hb hby d7_8) ?_
  show own_Run p e below _ (T.setTop (mkF m 11 #[.val (.ref a), .val (.int key), .unset, .unset] [(.int kk), (.int key)]))
  by_cases hc11 : key < kk
  · refine own_go (fun _ kS => XS.icmpNo X.here hx rfl (hb hby d7_11) rfl (tlt hc11).2.1 kS) ?_
    show own_Run p e below _ (T.setTop (mkF m 14 #[.val (.ref a), .val (.int key), .unset, .unset] []))
    refine own_go (fun _ kS => XS.aloadN X.here hx rfl (hb hby d7_14) rfl rfl kS) ?_
    show own_Run p e below _ (T.setTop (mkF m 15 #[.val (.ref a), .val (.int key), .unset, .unset] [(.ref a)]))
    refine own_go (fun _ kS => XS.aloadN X.here hx rfl (hb hby d7_15) rfl rfl kS) ?_
    show own_Run p e below _ (T.setTop (mkF m 16 #[.val (.ref a), .val (.int key), .unset, .unset] [(.ref a), (.ref a)]))
    refine own_getR X hx hZ e0 hown (hw _ (List.mem_of_getElem? (i := 28) rfl)) F_left rfl rfl (hb hby d7_16) ?_
    show own_Run p e below _ (T.setTop (mkF m 19 #[.val (.ref a), .val (.int key), .unset, .unset] [tl, (.ref a)]))
    refine own_go (fun _ kS => XS.iloadN X.here hx rfl (hb hby d7_19) rfl kS) ?_
    show own_Run p e below _ (T.setTop (mkF m 20 #[.val (.ref a), .val (.int key), .unset, .unset] [(.int key), tl, (.ref a)]))
    refine own_callS X hx hZ e0 hown (⟨"subjects/SearchTree", "without", "(Lsubjects/SearchTree$Node;I)Lsubjects/SearchTree$Node;"⟩ : MethodName) (hw _ (List.mem_of_getElem? (i := 39) rfl)) (hw _ (List.mem_of_getElem? (i := 40) rfl)) (hw _ (List.mem_of_getElem? (i := 2) rfl)) (hw _ (List.mem_of_getElem? (i := 41) rfl)) (by decide) [tl, (.int key)] [(.ref a)] (ih tl wl Sl h0 hz tL (fun y hy => gws y (own_inL y hy))) (Nat.le_refl _) 1 (by show 1 + (4 + 11) + 16 * nn ≤ 16 * (nn + 1); omega) (Nat.le_refl 0) (Nat.le_refl 0) rfl (by rw [hml]; rfl) (lenOf own_pd2 rfl) rfl (by show 2 * 0 + _ ≤ _; exact Nat.le_of_eq rfl) (hb hby d7_20) (fun v1 h1 L1 T1 Q1 X1 e1 => ?_)
    obtain ⟨r2, ws2, rfl, Nq1, Kq, t2, hw2⟩ := Q1
    replace N := N.app Nq1
    replace hz := Nat.le_trans hz Kq.1
    have nb : a ∉ ws2 := fun q => d.1 (hw2 a q)
    replace E_c := E_c.keep Kq
    replace F_key := F_key.keep Kq d.1
    replace F_left := F_left.keep Kq d.1
    replace F_right := F_right.keep Kq d.1
    replace tR := tR.keep Kq (fun y hy q => d.2.2 y q hy)
    have n_r2 : narrow (.object "subjects/SearchTree$Node") r2 = r2 := own_narR t2.cases
    have f_r2 : fits (.object "subjects/SearchTree$Node") r2 = true := own_fitR t2.cases
    show own_Run p e below _ (T1.setTop (mkF m 23 #[.val (.ref a), .val (.int key), .unset, .unset] [r2, (.ref a)]))
    refine own_putR X1 hx hZ e1 hown (.object "subjects/SearchTree$Node") (hw _ (List.mem_of_getElem? (i := 28) rfl)) F_left E_c (hw _ (List.mem_of_getElem? (i := 29) rfl)) (hw _ (List.mem_of_getElem? (i := 17) rfl)) (by decide) n_r2 f_r2 rfl rfl (hb hby d7_23) (fun T2 h2 X2 e2 W2 => ?_)
    replace E_c := E_c.wr W2
    replace F_key := F_key.other W2 (Or.inr (slot_ne (Or.inr (hw _ (List.mem_of_getElem? (i := 24) rfl))) (Or.inl (hw _ (List.mem_of_getElem? (i := 29) rfl))) (by decide) (t := .int) (t' := (.object "subjects/SearchTree$Node")) (by decide) (by decide)))
    replace F_left := F_left.same W2
    replace F_right := F_right.other W2 (Or.inr (slot_ne (Or.inl (hw _ (List.mem_of_getElem? (i := 27) rfl))) (Or.inl (hw _ (List.mem_of_getElem? (i := 29) rfl))) (by decide) (t := (.object "subjects/SearchTree$Node")) (t' := (.object "subjects/SearchTree$Node")) (by decide) (by decide)))
    replace tR := tR.keep (Keep.of_wr W2) (own_nin1 d.2.1)
    replace t2 := t2.keep (Keep.of_wr W2) (own_nin1 nb)
    replace hz := Nat.le_trans hz (Nat.le_of_eq W2.size.symm)
    replace N := Fr.snoc X2 N g_a
    show own_Run p e below _ (T2.setTop (mkF m 26 #[.val (.ref a), .val (.int key), .unset, .unset] []))
    refine own_go (fun _ kS => XS.aloadN X2.here hx rfl (hb hby d7_26) rfl rfl kS) ?_
    show own_Run p e below _ (T2.setTop (mkF m 27 #[.val (.ref a), .val (.int key), .unset, .unset] [(.ref a)]))
    refine own_retA X2 hx hret hlk rfl rfl rfl (hb hby d7_27) (Nat.le_refl 0) (Nat.le_refl 0) ?_
    rw [e2]
    subst hws
    exact ⟨_, a :: (ws2 ++ wr), rfl, N, (own_weak Kq own_inL).wr W2 (Or.inl (List.mem_cons_self ..)), own_T.node E_c F_key F_left F_right t2 tR ⟨nb, d.2.1, fun y hy => d.2.2 y (hw2 y hy)⟩ (own_iffL (k := kk) hS hc11 hr) (fun y q => hl y q.1) hr, fun y hy => (own_subL (sz := h0.size + y + 1) (fun y hy => Or.inl (hw2 y hy)) y hy).elim id (fun q => absurd q (by omega))⟩
  · refine own_go (fun _ kS => XS.icmpYes X.here hx rfl (pc0 := 11) (pc' := 28) rfl (hb hby d7_11) rfl (flt hc11).2.1 (by decide) (by decide) kS) ?_
    show own_Run p e below _ (T.setTop (mkF m 28 #[.val (.ref a), .val (.int key), .unset, .unset] []))
    refine own_go (fun _ kS => XS.iloadN X.here hx rfl (hb hby d7_28) rfl kS) ?_
    show own_Run p e below _ (T.setTop (mkF m 29 #[.val (.ref a), .val (.int key), .unset, .unset] [(.int key)]))
    refine own_go (fun _ kS => XS.aloadN X.here hx rfl (hb hby d7_29) rfl rfl kS) ?_
    show own_Run p e below _ (T.setTop (mkF m 30 #[.val (.ref a), .val (.int key), .unset, .unset] [(.ref a), (.int key)]))
    refine own_getR X hx hZ e0 hown (hw _ (List.mem_of_getElem? (i := 25) rfl)) F_key rfl rfl (hb hby d7_30) ?_
    show own_Run p e below _ (T.setTop (mkF m 33 #[.val (.ref a), .val (.int key), .unset, .unset] [(.int kk), (.int key)]))
    by_cases hc33 : kk < key
    · refine own_go (fun _ kS => XS.icmpNo X.here hx rfl (hb hby d7_33) rfl (tlt hc33).2.2.2 kS) ?_
      show own_Run p e below _ (T.setTop (mkF m 36 #[.val (.ref a), .val (.int key), .unset, .unset] []))
      refine own_go (fun _ kS => XS.aloadN X.here hx rfl (hb hby d7_36) rfl rfl kS) ?_
      show own_Run p e below _ (T.setTop (mkF m 37 #[.val (.ref a), .val (.int key), .unset, .unset] [(.ref a)]))
      refine own_go (fun _ kS => XS.aloadN X.here hx rfl (hb hby d7_37) rfl rfl kS) ?_
      show own_Run p e below _ (T.setTop (mkF m 38 #[.val (.ref a), .val (.int key), .unset, .unset] [(.ref a), (.ref a)]))
      refine own_getR X hx hZ e0 hown (hw _ (List.mem_of_getElem? (i := 26) rfl)) F_right rfl rfl (hb hby d7_38) ?_
      show own_Run p e below _ (T.setTop (mkF m 41 #[.val (.ref a), .val (.int key), .unset, .unset] [tr, (.ref a)]))
      refine own_go (fun _ kS => XS.iloadN X.here hx rfl (hb hby d7_41) rfl kS) ?_
      show own_Run p e below _ (T.setTop (mkF m 42 #[.val (.ref a), .val (.int key), .unset, .unset] [(.int key), tr, (.ref a)]))
      refine own_callS X hx hZ e0 hown (⟨"subjects/SearchTree", "without", "(Lsubjects/SearchTree$Node;I)Lsubjects/SearchTree$Node;"⟩ : MethodName) (hw _ (List.mem_of_getElem? (i := 39) rfl)) (hw _ (List.mem_of_getElem? (i := 40) rfl)) (hw _ (List.mem_of_getElem? (i := 2) rfl)) (hw _ (List.mem_of_getElem? (i := 41) rfl)) (by decide) [tr, (.int key)] [(.ref a)] (ih tr wr Sr h0 hz tR (fun y hy => gws y (own_inR y hy))) (Nat.le_refl _) 1 (by show 1 + (4 + 11) + 16 * nn ≤ 16 * (nn + 1); omega) (Nat.le_refl 0) (Nat.le_refl 0) rfl (by rw [hml]; rfl) (lenOf own_pd2 rfl) rfl (by show 2 * 0 + _ ≤ _; exact Nat.le_of_eq rfl) (hb hby d7_42) (fun v3 h3 L3 T3 Q3 X3 e3 => ?_)
      obtain ⟨r2, ws2, rfl, Nq3, Kq, t2, hw2⟩ := Q3
      replace N := N.app Nq3
      replace hz := Nat.le_trans hz Kq.1
      have nb : a ∉ ws2 := fun q => d.2.1 (hw2 a q)
      replace E_c := E_c.keep Kq
      replace F_key := F_key.keep Kq d.2.1
      replace F_left := F_left.keep Kq d.2.1
      replace F_right := F_right.keep Kq d.2.1
      replace tL := tL.keep Kq (fun y hy q => d.2.2 y hy q)
      have n_r2 : narrow (.object "subjects/SearchTree$Node") r2 = r2 := own_narR t2.cases
      have f_r2 : fits (.object "subjects/SearchTree$Node") r2 = true := own_fitR t2.cases
      show own_Run p e below _ (T3.setTop (mkF m 45 #[.val (.ref a), .val (.int key), .unset, .unset] [r2, (.ref a)]))
      refine own_putR X3 hx hZ e3 hown (.object "subjects/SearchTree$Node") (hw _ (List.mem_of_getElem? (i := 26) rfl)) F_right E_c (hw _ (List.mem_of_getElem? (i := 27) rfl)) (hw _ (List.mem_of_getElem? (i := 17) rfl)) (by decide) n_r2 f_r2 rfl rfl (hb hby d7_45) (fun T4 h4 X4 e4 W4 => ?_)
      replace E_c := E_c.wr W4
      replace F_key := F_key.other W4 (Or.inr (slot_ne (Or.inr (hw _ (List.mem_of_getElem? (i := 24) rfl))) (Or.inl (hw _ (List.mem_of_getElem? (i := 27) rfl))) (by decide) (t := .int) (t' := (.object "subjects/SearchTree$Node")) (by decide) (by decide)))
      replace F_left := F_left.other W4 (Or.inr (slot_ne (Or.inl (hw _ (List.mem_of_getElem? (i := 29) rfl))) (Or.inl (hw _ (List.mem_of_getElem? (i := 27) rfl))) (by decide) (t := (.object "subjects/SearchTree$Node")) (t' := (.object "subjects/SearchTree$Node")) (by decide) (by decide)))
      replace F_right := F_right.same W4
      replace tL := tL.keep (Keep.of_wr W4) (own_nin1 d.1)
      replace t2 := t2.keep (Keep.of_wr W4) (own_nin1 nb)
      replace hz := Nat.le_trans hz (Nat.le_of_eq W4.size.symm)
      replace N := Fr.snoc X4 N g_a
      show own_Run p e below _ (T4.setTop (mkF m 48 #[.val (.ref a), .val (.int key), .unset, .unset] []))
      refine own_go (fun _ kS => XS.aloadN X4.here hx rfl (hb hby d7_48) rfl rfl kS) ?_
      show own_Run p e below _ (T4.setTop (mkF m 49 #[.val (.ref a), .val (.int key), .unset, .unset] [(.ref a)]))
      refine own_retA X4 hx hret hlk rfl rfl rfl (hb hby d7_49) (Nat.le_refl 0) (Nat.le_refl 0) ?_
      rw [e4]
      subst hws
      exact ⟨_, a :: (wl ++ ws2), rfl, N, (own_weak Kq own_inR).wr W4 (Or.inl (List.mem_cons_self ..)), own_T.node E_c F_key F_left F_right tL t2 ⟨d.1, nb, fun y hy q => d.2.2 y hy (hw2 y q)⟩ (own_iffR hS hc33 hl) hl (fun y q => hr y q.1), fun y hy => (own_subR (sz := h0.size + y + 1) (fun y hy => Or.inl (hw2 y hy)) y hy).elim id (fun q => absurd q (by omega))⟩
    · refine own_go (fun _ kS => XS.icmpYes X.here hx rfl (pc0 := 33) (pc' := 50) rfl (hb hby d7_33) rfl (flt hc33).2.2.2 (by decide) (by decide) kS) ?_
      show own_Run p e below _ (T.setTop (mkF m 50 #[.val (.ref a), .val (.int key), .unset, .unset] []))
      obtain rfl := own_le2 hc11 hc33
      rcases tL.cases with rfl | ⟨cl, rfl⟩
      · have r_tr := own_isR tR.cases
        have n_tr : narrow (.object "subjects/SearchTree$Node") tr = tr := own_narR tR.cases
        show own_Run p e below _ (T.setTop (mkF m 50 #[.val (.ref a), .val (.int key), .unset, .unset] []))
        refine own_go (fun _ kS => XS.aloadN X.here hx rfl (hb hby d7_50) rfl rfl kS) ?_
        show own_Run p e below _ (T.setTop (mkF m 51 #[.val (.ref a), .val (.int key), .unset, .unset] [(.ref a)]))
        refine own_getR X hx hZ e0 hown (hw _ (List.mem_of_getElem? (i := 28) rfl)) F_left rfl rfl (hb hby d7_51) ?_
        show own_Run p e below _ (T.setTop (mkF m 54 #[.val (.ref a), .val (.int key), .unset, .unset] [.null]))
        refine own_go (fun _ kS => XS.ifnonnullNo X.here hx rfl (hb hby d7_54) rfl kS) ?_
        show own_Run p e below _ (T.setTop (mkF m 57 #[.val (.ref a), .val (.int key), .unset, .unset] []))
        refine own_go (fun _ kS => XS.aloadN X.here hx rfl (hb hby d7_57) rfl rfl kS) ?_
        show own_Run p e below _ (T.setTop (mkF m 58 #[.val (.ref a), .val (.int key), .unset, .unset] [(.ref a)]))
        refine own_getR X hx hZ e0 hown (hw _ (List.mem_of_getElem? (i := 26) rfl)) F_right rfl rfl (hb hby d7_58) ?_
        show own_Run p e below _ (T.setTop (mkF m 61 #[.val (.ref a), .val (.int key), .unset, .unset] [tr]))
        refine own_retA X hx hret hlk rfl r_tr n_tr (hb hby d7_61) (Nat.le_refl 0) (Nat.le_refl 0) ?_
        rw [e0]
        subst hws
        exact ⟨_, wr, rfl, N, Keep.refl _ _, tR.mono.congr (fun y => ((own_iffM hS hl hr y).trans ⟨fun q => q.elim (fun w => absurd w (tL.null_.2 y)) id, Or.inr⟩).symm), own_inR⟩
      · show own_Run p e below _ (T.setTop (mkF m 50 #[.val (.ref a), .val (.int key), .unset, .unset] []))
        refine own_go (fun _ kS => XS.aloadN X.here hx rfl (hb hby d7_50) rfl rfl kS) ?_
        show own_Run p e below _ (T.setTop (mkF m 51 #[.val (.ref a), .val (.int key), .unset, .unset] [(.ref a)]))
        refine own_getR X hx hZ e0 hown (hw _ (List.mem_of_getElem? (i := 28) rfl)) F_left rfl rfl (hb hby d7_51) ?_
        show own_Run p e below _ (T.setTop (mkF m 54 #[.val (.ref a), .val (.int key), .unset, .unset] [(.ref cl)]))
        refine own_go (fun _ kS => XS.ifnonnullYes X.here hx rfl (pc0 := 54) (pc' := 62) rfl (hb hby d7_54) rfl (by decide) (by decide) kS) ?_
        show own_Run p e below _ (T.setTop (mkF m 62 #[.val (.ref a), .val (.int key), .unset, .unset] []))
        rcases tR.cases with rfl | ⟨cr, rfl⟩
        · show own_Run p e below _ (T.setTop (mkF m 62 #[.val (.ref a), .val (.int key), .unset, .unset] []))
          refine own_go (fun _ kS => XS.aloadN X.here hx rfl (hb hby d7_62) rfl rfl kS) ?_
          show own_Run p e below _ (T.setTop (mkF m 63 #[.val (.ref a), .val (.int key), .unset, .unset] [(.ref a)]))
          refine own_getR X hx hZ e0 hown (hw _ (List.mem_of_getElem? (i := 26) rfl)) F_right rfl rfl (hb hby d7_63) ?_
          show own_Run p e below _ (T.setTop (mkF m 66 #[.val (.ref a), .val (.int key), .unset, .unset] [.null]))
          refine own_go (fun _ kS => XS.ifnonnullNo X.here hx rfl (hb hby d7_66) rfl kS) ?_
          show own_Run p e below _ (T.setTop (mkF m 69 #[.val (.ref a), .val (.int key), .unset, .unset] []))
          refine own_go (fun _ kS => XS.aloadN X.here hx rfl (hb hby d7_69) rfl rfl kS) ?_
          show own_Run p e below _ (T.setTop (mkF m 70 #[.val (.ref a), .val (.int key), .unset, .unset] [(.ref a)]))
          refine own_getR X hx hZ e0 hown (hw _ (List.mem_of_getElem? (i := 28) rfl)) F_left rfl rfl (hb hby d7_70) ?_
          show own_Run p e below _ (T.setTop (mkF m 73 #[.val (.ref a), .val (.int key), .unset, .unset] [(.ref cl)]))
          refine own_retA X hx hret hlk rfl rfl rfl (hb hby d7_73) (Nat.le_refl 0) (Nat.le_refl 0) ?_
          rw [e0]
          subst hws
          exact ⟨_, wl, rfl, N, Keep.refl _ _, tL.mono.congr (fun y => ((own_iffM hS hl hr y).trans ⟨fun q => q.elim id (fun w => absurd w (tR.null_.2 y)), Or.inl⟩).symm), own_inL⟩
        · show own_Run p e below _ (T.setTop (mkF m 62 #[.val (.ref a), .val (.int key), .unset, .unset] []))
          refine own_go (fun _ kS => XS.aloadN X.here hx rfl (hb hby d7_62) rfl rfl kS) ?_
          show own_Run p e below _ (T.setTop (mkF m 63 #[.val (.ref a), .val (.int key), .unset, .unset] [(.ref a)]))
          refine own_getR X hx hZ e0 hown (hw _ (List.mem_of_getElem? (i := 26) rfl)) F_right rfl rfl (hb hby d7_63) ?_
          show own_Run p e below _ (T.setTop (mkF m 66 #[.val (.ref a), .val (.int key), .unset, .unset] [(.ref cr)]))
          refine own_go (fun _ kS => XS.ifnonnullYes X.here hx rfl (pc0 := 66) (pc' := 74) rfl (hb hby d7_66) rfl (by decide) (by decide) kS) ?_
          show own_Run p e below _ (T.setTop (mkF m 74 #[.val (.ref a), .val (.int key), .unset, .unset] []))
          refine own_go (fun _ kS => XS.aloadN X.here hx rfl (hb hby d7_74) rfl rfl kS) ?_
          show own_Run p e below _ (T.setTop (mkF m 75 #[.val (.ref a), .val (.int key), .unset, .unset] [(.ref a)]))
          refine own_getR X hx hZ e0 hown (hw _ (List.mem_of_getElem? (i := 26) rfl)) F_right rfl rfl (hb hby d7_75) ?_
          show own_Run p e below _ (T.setTop (mkF m 78 #[.val (.ref a), .val (.int key), .unset, .unset] [(.ref cr)]))
          refine own_go (fun _ kS => XS.astoreN X.here hx rfl (hb hby d7_78) rfl rfl (l' := #[.val (.ref a), .val (.int key), .val (.ref cr), .unset]) rfl kS) ?_
          show own_Run p e below _ (T.setTop (mkF m 79 #[.val (.ref a), .val (.int key), .val (.ref cr), .unset] []))
          obtain ⟨mm, km, tm, hM, hmw, E_m, Fk_m, Fl_m, Fr_m, hSm, hmin⟩ := tR.least
          have g_mm := gws mm (own_inR mm hmw)
          have ham : a ≠ mm := fun w => d.2.1 (w ▸ hmw)
          have J94 : own_Run p e below (own_End s (own_roomW (nn + 1)) (Q_wS Z a key nn ws S n0 h0)) (T.setTop (mkF m 94 #[.val (.ref a), .val (.int key), .val (.ref mm), .unset] [])) := by
            show own_Run p e below _ (T.setTop (mkF m 94 #[.val (.ref a), .val (.int key), .val (.ref mm), .unset] []))
            refine own_go (fun _ kS => XS.aloadN X.here hx rfl (hb hby d7_94) rfl rfl kS) ?_
            show own_Run p e below _ (T.setTop (mkF m 95 #[.val (.ref a), .val (.int key), .val (.ref mm), .unset] [(.ref a)]))
            refine own_getR X hx hZ e0 hown (hw _ (List.mem_of_getElem? (i := 26) rfl)) F_right rfl rfl (hb hby d7_95) ?_
            show own_Run p e below _ (T.setTop (mkF m 98 #[.val (.ref a), .val (.int key), .val (.ref mm), .unset] [(.ref cr)]))
            refine own_callS X hx hZ e0 hown (⟨"subjects/SearchTree", "withoutLeast", "(Lsubjects/SearchTree$Node;)Lsubjects/SearchTree$Node;"⟩ : MethodName) (hw _ (List.mem_of_getElem? (i := 47) rfl)) (hw _ (List.mem_of_getElem? (i := 48) rfl)) (hw _ (List.mem_of_getElem? (i := 2) rfl)) (hw _ (List.mem_of_getElem? (i := 49) rfl)) (by decide) [(.ref cr)] [] (rm_wl l Z a0 hw n0 mm km nn cr wr Sr h0 hz tR hM Fk_m (fun y hy => gws y (own_inR y hy))) (Nat.le_refl _) 0 (by show 0 + (1 + 11) + 13 * nn ≤ 16 * (nn + 1); omega) (Nat.le_refl 0) (Nat.le_refl 0) rfl (by rw [hml]; rfl) (lenOf own_pd1 rfl) rfl (by show 2 * 0 + _ ≤ _; exact Nat.le_of_eq rfl) (hb hby d7_98) (fun v5 h5 L5 T5 Q5 X5 e5 => ?_)
            obtain ⟨r2, ws2, rfl, Nq5, Kq, t2, hw2⟩ := Q5
            replace N := N.app Nq5
            replace hz := Nat.le_trans hz Kq.1
            have nb : a ∉ ws2 := fun q => d.2.1 (hw2 a q).1
            have nm : mm ∉ ws2 := fun q => (hw2 mm q).2 rfl
            replace E_c := E_c.keep Kq
            replace E_m := E_m.keep Kq
            replace F_key := F_key.keep Kq nb
            replace F_left := F_left.keep Kq nb
            replace F_right := F_right.keep Kq nb
            replace Fk_m := Fk_m.keep Kq nm
            replace Fl_m := Fl_m.keep Kq nm
            replace Fr_m := Fr_m.keep Kq nm
            replace tL := tL.keep Kq (fun y hy q => d.2.2 y hy (hw2 y q).1)
            have nml : mm ∉ wl := fun q => d.2.2 mm q hmw
            show own_Run p e below _ (T5.setTop (mkF m 101 #[.val (.ref a), .val (.int key), .val (.ref mm), .unset] [r2]))
            rcases t2.cases with rfl | ⟨c3, rfl⟩
            · show own_Run p e below _ (T5.setTop (mkF m 101 #[.val (.ref a), .val (.int key), .val (.ref mm), .unset] [.null]))
              refine own_go (fun _ kS => XS.astoreN X5.here hx rfl (hb hby d7_101) rfl rfl (l' := #[.val (.ref a), .val (.int key), .val (.ref mm), .val .null]) rfl kS) ?_
              show own_Run p e below _ (T5.setTop (mkF m 102 #[.val (.ref a), .val (.int key), .val (.ref mm), .val .null] []))
              refine own_go (fun _ kS => XS.aloadN X5.here hx rfl (hb hby d7_102) rfl rfl kS) ?_
              show own_Run p e below _ (T5.setTop (mkF m 103 #[.val (.ref a), .val (.int key), .val (.ref mm), .val .null] [(.ref mm)]))
              refine own_go (fun _ kS => XS.aloadN X5.here hx rfl (hb hby d7_103) rfl rfl kS) ?_
              show own_Run p e below _ (T5.setTop (mkF m 104 #[.val (.ref a), .val (.int key), .val (.ref mm), .val .null] [(.ref a), (.ref mm)]))
              refine own_getR X5 hx hZ e5 hown (hw _ (List.mem_of_getElem? (i := 28) rfl)) F_left rfl rfl (hb hby d7_104) ?_
              show own_Run p e below _ (T5.setTop (mkF m 107 #[.val (.ref a), .val (.int key), .val (.ref mm), .val .null] [(.ref cl), (.ref mm)]))
              refine own_putR X5 hx hZ e5 hown (.object "subjects/SearchTree$Node") (hw _ (List.mem_of_getElem? (i := 28) rfl)) Fl_m E_m (hw _ (List.mem_of_getElem? (i := 29) rfl)) (hw _ (List.mem_of_getElem? (i := 17) rfl)) (by decide) rfl rfl rfl rfl (hb hby d7_107) (fun T6 h6 X6 e6 W6 => ?_)
              replace E_c := E_c.wr W6
              replace F_key := F_key.other W6 (Or.inl ham)
              replace F_left := F_left.other W6 (Or.inl ham)
              replace F_right := F_right.other W6 (Or.inl ham)
              replace E_m := E_m.wr W6
              replace Fk_m := Fk_m.other W6 (Or.inr (slot_ne (Or.inr (hw _ (List.mem_of_getElem? (i := 24) rfl))) (Or.inl (hw _ (List.mem_of_getElem? (i := 29) rfl))) (by decide) (t := .int) (t' := (.object "subjects/SearchTree$Node")) (by decide) (by decide)))
              replace Fl_m := Fl_m.same W6
              replace Fr_m := Fr_m.other W6 (Or.inr (slot_ne (Or.inl (hw _ (List.mem_of_getElem? (i := 27) rfl))) (Or.inl (hw _ (List.mem_of_getElem? (i := 29) rfl))) (by decide) (t := (.object "subjects/SearchTree$Node")) (t' := (.object "subjects/SearchTree$Node")) (by decide) (by decide)))
              replace tL := tL.keep (Keep.of_wr W6) (own_nin1 nml)
              replace t2 := t2.keep (Keep.of_wr W6) (own_nin1 nm)
              replace hz := Nat.le_trans hz (Nat.le_of_eq W6.size.symm)
              replace N := Fr.snoc X6 N g_mm
              show own_Run p e below _ (T6.setTop (mkF m 110 #[.val (.ref a), .val (.int key), .val (.ref mm), .val .null] []))
              refine own_go (fun _ kS => XS.aloadN X6.here hx rfl (hb hby d7_110) rfl rfl kS) ?_
              show own_Run p e below _ (T6.setTop (mkF m 111 #[.val (.ref a), .val (.int key), .val (.ref mm), .val .null] [(.ref mm)]))
              refine own_go (fun _ kS => XS.aloadN X6.here hx rfl (hb hby d7_111) rfl rfl kS) ?_
              show own_Run p e below _ (T6.setTop (mkF m 112 #[.val (.ref a), .val (.int key), .val (.ref mm), .val .null] [.null, (.ref mm)]))
              refine own_putR X6 hx hZ e6 hown (.object "subjects/SearchTree$Node") (hw _ (List.mem_of_getElem? (i := 26) rfl)) Fr_m E_m (hw _ (List.mem_of_getElem? (i := 27) rfl)) (hw _ (List.mem_of_getElem? (i := 17) rfl)) (by decide) rfl rfl rfl rfl (hb hby d7_112) (fun T7 h7 X7 e7 W7 => ?_)
              replace E_c := E_c.wr W7
              replace F_key := F_key.other W7 (Or.inl ham)
              replace F_left := F_left.other W7 (Or.inl ham)
              replace F_right := F_right.other W7 (Or.inl ham)
              replace E_m := E_m.wr W7
              replace Fk_m := Fk_m.other W7 (Or.inr (slot_ne (Or.inr (hw _ (List.mem_of_getElem? (i := 24) rfl))) (Or.inl (hw _ (List.mem_of_getElem? (i := 27) rfl))) (by decide) (t := .int) (t' := (.object "subjects/SearchTree$Node")) (by decide) (by decide)))
              replace Fl_m := Fl_m.other W7 (Or.inr (slot_ne (Or.inl (hw _ (List.mem_of_getElem? (i := 29) rfl))) (Or.inl (hw _ (List.mem_of_getElem? (i := 27) rfl))) (by decide) (t := (.object "subjects/SearchTree$Node")) (t' := (.object "subjects/SearchTree$Node")) (by decide) (by decide)))
              replace Fr_m := Fr_m.same W7
              replace tL := tL.keep (Keep.of_wr W7) (own_nin1 nml)
              replace t2 := t2.keep (Keep.of_wr W7) (own_nin1 nm)
              replace hz := Nat.le_trans hz (Nat.le_of_eq W7.size.symm)
              replace N := Fr.snoc X7 N g_mm
              show own_Run p e below _ (T7.setTop (mkF m 115 #[.val (.ref a), .val (.int key), .val (.ref mm), .val .null] []))
              refine own_go (fun _ kS => XS.aloadN X7.here hx rfl (hb hby d7_115) rfl rfl kS) ?_
              show own_Run p e below _ (T7.setTop (mkF m 116 #[.val (.ref a), .val (.int key), .val (.ref mm), .val .null] [(.ref mm)]))
              refine own_retA X7 hx hret hlk rfl rfl rfl (hb hby d7_116) (Nat.le_refl 0) (Nat.le_refl 0) ?_
              rw [e7]
              subst hws
              refine ⟨_, mm :: (wl ++ ws2), rfl, N, ((own_weak Kq (fun y hy => own_inR y (hw2 y hy).1)).wr W6 (Or.inl (own_memL hmw))).wr W7 (Or.inl (own_memL hmw)), own_T.node E_m Fk_m Fl_m Fr_m tL t2 ⟨nml, nm, fun y hy q => d.2.2 y hy (hw2 y q).1⟩ (own_iffX (own_iffM hS hl hr) hSm) (fun y q => own_ltt (hl y q) (hr km hSm)) (fun y q => (hmin y q.1).elim (fun w => absurd w q.2) id), fun y hy => ?_⟩
              rcases List.mem_cons.mp hy with rfl | hy
              · exact own_memL hmw
              · rcases List.mem_append.mp hy with hy | hy
                · exact own_inL y hy
                · exact own_inR y (hw2 y hy).1
            · show own_Run p e below _ (T5.setTop (mkF m 101 #[.val (.ref a), .val (.int key), .val (.ref mm), .unset] [(.ref c3)]))
              refine own_go (fun _ kS => XS.astoreN X5.here hx rfl (hb hby d7_101) rfl rfl (l' := #[.val (.ref a), .val (.int key), .val (.ref mm), .val (.ref c3)]) rfl kS) ?_
              show own_Run p e below _ (T5.setTop (mkF m 102 #[.val (.ref a), .val (.int key), .val (.ref mm), .val (.ref c3)] []))
              refine own_go (fun _ kS => XS.aloadN X5.here hx rfl (hb hby d7_102) rfl rfl kS) ?_
              show own_Run p e below _ (T5.setTop (mkF m 103 #[.val (.ref a), .val (.int key), .val (.ref mm), .val (.ref c3)] [(.ref mm)]))
              refine own_go (fun _ kS => XS.aloadN X5.here hx rfl (hb hby d7_103) rfl rfl kS) ?_
              show own_Run p e below _ (T5.setTop (mkF m 104 #[.val (.ref a), .val (.int key), .val (.ref mm), .val (.ref c3)] [(.ref a), (.ref mm)]))
              refine own_getR X5 hx hZ e5 hown (hw _ (List.mem_of_getElem? (i := 28) rfl)) F_left rfl rfl (hb hby d7_104) ?_
              show own_Run p e below _ (T5.setTop (mkF m 107 #[.val (.ref a), .val (.int key), .val (.ref mm), .val (.ref c3)] [(.ref cl), (.ref mm)]))
              refine own_putR X5 hx hZ e5 hown (.object "subjects/SearchTree$Node") (hw _ (List.mem_of_getElem? (i := 28) rfl)) Fl_m E_m (hw _ (List.mem_of_getElem? (i := 29) rfl)) (hw _ (List.mem_of_getElem? (i := 17) rfl)) (by decide) rfl rfl rfl rfl (hb hby d7_107) (fun T8 h8 X8 e8 W8 => ?_)
              replace E_c := E_c.wr W8
              replace F_key := F_key.other W8 (Or.inl ham)
              replace F_left := F_left.other W8 (Or.inl ham)
              replace F_right := F_right.other W8 (Or.inl ham)
              replace E_m := E_m.wr W8
              replace Fk_m := Fk_m.other W8 (Or.inr (slot_ne (Or.inr (hw _ (List.mem_of_getElem? (i := 24) rfl))) (Or.inl (hw _ (List.mem_of_getElem? (i := 29) rfl))) (by decide) (t := .int) (t' := (.object "subjects/SearchTree$Node")) (by decide) (by decide)))
              replace Fl_m := Fl_m.same W8
              replace Fr_m := Fr_m.other W8 (Or.inr (slot_ne (Or.inl (hw _ (List.mem_of_getElem? (i := 27) rfl))) (Or.inl (hw _ (List.mem_of_getElem? (i := 29) rfl))) (by decide) (t := (.object "subjects/SearchTree$Node")) (t' := (.object "subjects/SearchTree$Node")) (by decide) (by decide)))
              replace tL := tL.keep (Keep.of_wr W8) (own_nin1 nml)
              replace t2 := t2.keep (Keep.of_wr W8) (own_nin1 nm)
              replace hz := Nat.le_trans hz (Nat.le_of_eq W8.size.symm)
              replace N := Fr.snoc X8 N g_mm
              show own_Run p e below _ (T8.setTop (mkF m 110 #[.val (.ref a), .val (.int key), .val (.ref mm), .val (.ref c3)] []))
              refine own_go (fun _ kS => XS.aloadN X8.here hx rfl (hb hby d7_110) rfl rfl kS) ?_
              show own_Run p e below _ (T8.setTop (mkF m 111 #[.val (.ref a), .val (.int key), .val (.ref mm), .val (.ref c3)] [(.ref mm)]))
              refine own_go (fun _ kS => XS.aloadN X8.here hx rfl (hb hby d7_111) rfl rfl kS) ?_
              show own_Run p e below _ (T8.setTop (mkF m 112 #[.val (.ref a), .val (.int key), .val (.ref mm), .val (.ref c3)] [(.ref c3), (.ref mm)]))
              refine own_putR X8 hx hZ e8 hown (.object "subjects/SearchTree$Node") (hw _ (List.mem_of_getElem? (i := 26) rfl)) Fr_m E_m (hw _ (List.mem_of_getElem? (i := 27) rfl)) (hw _ (List.mem_of_getElem? (i := 17) rfl)) (by decide) rfl rfl rfl rfl (hb hby d7_112) (fun T9 h9 X9 e9 W9 => ?_)
              replace E_c := E_c.wr W9
              replace F_key := F_key.other W9 (Or.inl ham)
              replace F_left := F_left.other W9 (Or.inl ham)
              replace F_right := F_right.other W9 (Or.inl ham)
              replace E_m := E_m.wr W9
              replace Fk_m := Fk_m.other W9 (Or.inr (slot_ne (Or.inr (hw _ (List.mem_of_getElem? (i := 24) rfl))) (Or.inl (hw _ (List.mem_of_getElem? (i := 27) rfl))) (by decide) (t := .int) (t' := (.object "subjects/SearchTree$Node")) (by decide) (by decide)))
              replace Fl_m := Fl_m.other W9 (Or.inr (slot_ne (Or.inl (hw _ (List.mem_of_getElem? (i := 29) rfl))) (Or.inl (hw _ (List.mem_of_getElem? (i := 27) rfl))) (by decide) (t := (.object "subjects/SearchTree$Node")) (t' := (.object "subjects/SearchTree$Node")) (by decide) (by decide)))
              replace Fr_m := Fr_m.same W9
              replace tL := tL.keep (Keep.of_wr W9) (own_nin1 nml)
              replace t2 := t2.keep (Keep.of_wr W9) (own_nin1 nm)
              replace hz := Nat.le_trans hz (Nat.le_of_eq W9.size.symm)
              replace N := Fr.snoc X9 N g_mm
              show own_Run p e below _ (T9.setTop (mkF m 115 #[.val (.ref a), .val (.int key), .val (.ref mm), .val (.ref c3)] []))
              refine own_go (fun _ kS => XS.aloadN X9.here hx rfl (hb hby d7_115) rfl rfl kS) ?_
              show own_Run p e below _ (T9.setTop (mkF m 116 #[.val (.ref a), .val (.int key), .val (.ref mm), .val (.ref c3)] [(.ref mm)]))
              refine own_retA X9 hx hret hlk rfl rfl rfl (hb hby d7_116) (Nat.le_refl 0) (Nat.le_refl 0) ?_
              rw [e9]
              subst hws
              refine ⟨_, mm :: (wl ++ ws2), rfl, N, ((own_weak Kq (fun y hy => own_inR y (hw2 y hy).1)).wr W8 (Or.inl (own_memL hmw))).wr W9 (Or.inl (own_memL hmw)), own_T.node E_m Fk_m Fl_m Fr_m tL t2 ⟨nml, nm, fun y hy q => d.2.2 y hy (hw2 y q).1⟩ (own_iffX (own_iffM hS hl hr) hSm) (fun y q => own_ltt (hl y q) (hr km hSm)) (fun y q => (hmin y q.1).elim (fun w => absurd w q.2) id), fun y hy => ?_⟩
              rcases List.mem_cons.mp hy with rfl | hy
              · exact own_memL hmw
              · rcases List.mem_append.mp hy with hy | hy
                · exact own_inL y hy
                · exact own_inR y (hw2 y hy).1
          have loop : ∀ (j : Nat) (cc : Addr), own_Lm Z h0 j cc mm → own_Run p e below (own_End s (own_roomW (nn + 1)) (Q_wS Z a key nn ws S n0 h0)) (T.setTop (mkF m 79 #[.val (.ref a), .val (.int key), .val (.ref cc), .unset] [])) := by
            intro j
            induction j with
            | zero => intro cc q; exact q.elim
            | succ j ih2 =>
              intro cc q
              rcases q with ⟨Fc, rfl⟩ | ⟨c2, Fc, q2⟩
              · show own_Run p e below _ (T.setTop (mkF m 79 #[.val (.ref a), .val (.int key), .val (.ref mm), .unset] []))
                refine own_go (fun _ kS => XS.aloadN X.here hx rfl (hb hby d7_79) rfl rfl kS) ?_
                show own_Run p e below _ (T.setTop (mkF m 80 #[.val (.ref a), .val (.int key), .val (.ref mm), .unset] [(.ref mm)]))
                refine own_getR X hx hZ e0 hown (hw _ (List.mem_of_getElem? (i := 28) rfl)) Fc rfl rfl (hb hby d7_80) ?_
                show own_Run p e below _ (T.setTop (mkF m 83 #[.val (.ref a), .val (.int key), .val (.ref mm), .unset] [.null]))
                refine own_go (fun _ kS => XS.ifnullYes X.here hx rfl (pc0 := 83) (pc' := 94) rfl (hb hby d7_83) rfl (by decide) (by decide) kS) ?_
                show own_Run p e below _ (T.setTop (mkF m 94 #[.val (.ref a), .val (.int key), .val (.ref mm), .unset] []))
                exact J94
              · show own_Run p e below _ (T.setTop (mkF m 79 #[.val (.ref a), .val (.int key), .val (.ref cc), .unset] []))
                refine own_go (fun _ kS => XS.aloadN X.here hx rfl (hb hby d7_79) rfl rfl kS) ?_
                show own_Run p e below _ (T.setTop (mkF m 80 #[.val (.ref a), .val (.int key), .val (.ref cc), .unset] [(.ref cc)]))
                refine own_getR X hx hZ e0 hown (hw _ (List.mem_of_getElem? (i := 28) rfl)) Fc rfl rfl (hb hby d7_80) ?_
                show own_Run p e below _ (T.setTop (mkF m 83 #[.val (.ref a), .val (.int key), .val (.ref cc), .unset] [(.ref c2)]))
                refine own_go (fun _ kS => XS.ifnullNo X.here hx rfl (hb hby d7_83) rfl kS) ?_
                show own_Run p e below _ (T.setTop (mkF m 86 #[.val (.ref a), .val (.int key), .val (.ref cc), .unset] []))
                refine own_go (fun _ kS => XS.aloadN X.here hx rfl (hb hby d7_86) rfl rfl kS) ?_
                show own_Run p e below _ (T.setTop (mkF m 87 #[.val (.ref a), .val (.int key), .val (.ref cc), .unset] [(.ref cc)]))
                refine own_getR X hx hZ e0 hown (hw _ (List.mem_of_getElem? (i := 28) rfl)) Fc rfl rfl (hb hby d7_87) ?_
                show own_Run p e below _ (T.setTop (mkF m 90 #[.val (.ref a), .val (.int key), .val (.ref cc), .unset] [(.ref c2)]))
                refine own_go (fun _ kS => XS.astoreN X.here hx rfl (hb hby d7_90) rfl rfl (l' := #[.val (.ref a), .val (.int key), .val (.ref c2), .unset]) rfl kS) ?_
                show own_Run p e below _ (T.setTop (mkF m 91 #[.val (.ref a), .val (.int key), .val (.ref c2), .unset] []))
                refine own_go (fun _ kS => XS.goto X.here hx rfl (pc0 := 91) (pc' := 79) rfl (hb hby d7_91) (by decide) (by decide) kS) ?_
                show own_Run p e below _ (T.setTop (mkF m 79 #[.val (.ref a), .val (.int key), .val (.ref c2), .unset] []))
                exact ih2 c2 q2
          exact loop nn cr hM
theorem rm_w (l : Launch) (Z : State) (a0 : Array Value) (hw : ∀ d ∈ tables_1, d.before a0 Z = true) (n0 : Nat) (key : Int32) : ∀ (nn : Nat) (r : Value) (ws : List Addr) (S : Int32 → Prop) (h0 : Heap), n0 ≤ h0.size → own_T Z h0 nn r ws S → (∀ y ∈ ws, n0 ≤ y) → own_Met l Z (⟨"subjects/SearchTree", "without", "(Lsubjects/SearchTree$Node;I)Lsubjects/SearchTree$Node;"⟩ : MethodName) prog_78_method_5_code 4 (some (.object "subjects/SearchTree$Node")) (own_roomW nn) #[r, .int key] h0 (own_Qw Z nn ws S key n0 h0) := by
  intro nn
  induction nn with
  | zero =>
    intro r ws S h0 z t g
    rcases t.cases with rfl | ⟨a, rfl⟩
    · exact rm_wN l Z a0 hw key 0 ws S n0 h0 z t
    · exact t.zero_.elim
  | succ nn ih =>
    intro r ws S h0 z t g
    rcases t.cases with rfl | ⟨a, rfl⟩
    · exact rm_wN l Z a0 hw key (nn + 1) ws S n0 h0 z t
    · exact rm_wS l Z a0 hw a key nn ws S n0 h0 z t g ih
theorem d8_0 : decode prog_78_method_3_code 0 = .ok (.aload_n 0, 1) := by decide +kernel
theorem d8_1 : decode prog_78_method_3_code 1 = .ok (.aload_n 0, 1) := by decide +kernel
theorem d8_2 : decode prog_78_method_3_code 2 = .ok (.getfield 7, 3) := by decide +kernel
theorem d8_5 : decode prog_78_method_3_code 5 = .ok (.iload_n 1, 1) := by decide +kernel
theorem d8_6 : decode prog_78_method_3_code 6 = .ok (.invokestatic 28, 3) := by decide +kernel
theorem d8_9 : decode prog_78_method_3_code 9 = .ok (.putfield 7, 3) := by decide +kernel
theorem d8_12 : decode prog_78_method_3_code 12 = .ok (.return_, 1) := by decide +kernel
abbrev Q_rem (Z : State) (t : Addr) (key : Int32) (r : Value) (ws : List Addr) (S : Int32 → Prop) (n0 : Nat) (h0 : Heap) : Option Value → Heap → List Loc → Prop := fun v h L => v = none ∧ Fr n0 L ∧ Keep h0 h (t :: ws) ∧ Exa Z h t "subjects/SearchTree" ∧ ∃ (r2 : Value) (ws2 : List Addr), Fld Z h t "subjects/SearchTree" "root" "Lsubjects/SearchTree$Node;" r2 ∧ own_T Z h 4 r2 ws2 (fun y => S y ∧ ¬ y = key) ∧ ∀ y ∈ ws2, y ∈ ws
set_option maxRecDepth 65536 in
set_option maxHeartbeats 40000000 in
theorem rm_rem (l : Launch) (Z : State) (a0 : Array Value) (hw : ∀ d ∈ tables_1, d.before a0 Z = true) (t : Addr) (key : Int32) (r : Value) (ws : List Addr) (S : Int32 → Prop) (n0 : Nat) (h0 : Heap) (Z0 : n0 ≤ h0.size) (E_t : Exa Z h0 t "subjects/SearchTree") (g_t : n0 ≤ t) (F_root : Fld Z h0 t "subjects/SearchTree" "root" "Lsubjects/SearchTree$Node;" r) (hT : own_T Z h0 4 r ws S) (htw : t ∉ ws) (gws : ∀ y ∈ ws, n0 ≤ y) :
    own_Met l Z (⟨"subjects/SearchTree", "remove", "(I)V"⟩ : MethodName) prog_78_method_3_code 2 none ({ frames := 5, cells := 0, slots := 0, locals := 80 } : Room) #[(.ref t), (.int key)] h0 (Q_rem Z t key r ws S n0 h0) := by
  refine own_enter (g0 := fun m => (mkF m 0 #[.val (.ref t), .val (.int key)] [])) (plainFor_of_name (by first | (simp [plainName, overriddenIn]; done) | decide +kernel)) (fun m => by first | (simp [entryFrame, mkF, argsToLocals, Value.category]; done) | rfl) ?_
  intro p e s m below meth c T hx hby hml hown hnm hZ hret hlk X e0
  replace hown : s.vm.findClass "subjects/SearchTree" = some m.cls := hown
  have N := Fr.nil n0
  have hz := Z0
  show own_Run p e below _ (T.setTop (mkF m 0 #[.val (.ref t), .val (.int key)] []))
  refine own_go (fun _ kS => XS.aloadN X.here hx rfl (hb hby d8_0) rfl rfl kS) ?_
  show own_Run p e below _ (T.setTop (mkF m 1 #[.val (.ref t), .val (.int key)] [(.ref t)]))
  refine own_go (fun _ kS => XS.aloadN X.here hx rfl (hb hby d8_1) rfl rfl kS) ?_
  show own_Run p e below _ (T.setTop (mkF m 2 #[.val (.ref t), .val (.int key)] [(.ref t), (.ref t)]))
  refine own_getF X hx hZ e0 hown (hw _ (List.mem_of_getElem? (i := 14) rfl)) F_root rfl rfl (hb hby d8_2) (fun T1 X1 e1 => ?_)
  show own_Run p e below _ (T1.setTop (mkF m 5 #[.val (.ref t), .val (.int key)] [r, (.ref t)]))
  refine own_go (fun _ kS => XS.iloadN X1.here hx rfl (hb hby d8_5) rfl kS) ?_
  show own_Run p e below _ (T1.setTop (mkF m 6 #[.val (.ref t), .val (.int key)] [(.int key), r, (.ref t)]))
  refine own_callS X1 hx hZ e1 hown (⟨"subjects/SearchTree", "without", "(Lsubjects/SearchTree$Node;I)Lsubjects/SearchTree$Node;"⟩ : MethodName) (hw _ (List.mem_of_getElem? (i := 39) rfl)) (hw _ (List.mem_of_getElem? (i := 40) rfl)) (hw _ (List.mem_of_getElem? (i := 2) rfl)) (hw _ (List.mem_of_getElem? (i := 41) rfl)) (by decide) [r, (.int key)] [(.ref t)] (rm_w l Z a0 hw n0 key 4 r ws S h0 hz hT gws) (by decide) 1 (by decide) (by decide) (by decide) rfl (by rw [hml]; rfl) (lenOf own_pd2 rfl) rfl (by show 2 * 0 + _ ≤ _; exact Nat.le_of_eq rfl) (hb hby d8_6) (fun v2 h2 L2 T2 Q2 X2 e2 => ?_)
  obtain ⟨r2, ws2, rfl, Nq2, Kq, t2, hw2⟩ := Q2
  replace N := N.app Nq2
  replace hz := Nat.le_trans hz Kq.1
  replace E_t := E_t.keep Kq
  replace F_root := F_root.keep Kq htw
  have nt2 : t ∉ ws2 := fun q => htw (hw2 t q)
  have n_r2 : narrow (.object "subjects/SearchTree$Node") r2 = r2 := own_narR t2.cases
  have f_r2 : fits (.object "subjects/SearchTree$Node") r2 = true := own_fitR t2.cases
  show own_Run p e below _ (T2.setTop (mkF m 9 #[.val (.ref t), .val (.int key)] [r2, (.ref t)]))
  refine own_putF X2 hx hZ e2 hown (.object "subjects/SearchTree$Node") (hw _ (List.mem_of_getElem? (i := 14) rfl)) F_root E_t (Or.inl (hw _ (List.mem_of_getElem? (i := 15) rfl))) (hw _ (List.mem_of_getElem? (i := 1) rfl)) (v' := r2) (by decide) n_r2 f_r2 rfl rfl (hb hby d8_9) (fun T3 h3 X3 e3 W3 => ?_)
  replace E_t := E_t.wr W3
  replace F_root := F_root.same W3
  replace t2 := t2.keep (Keep.of_wr W3) (own_nin1 nt2)
  replace hz := Nat.le_trans hz (Nat.le_of_eq W3.size.symm)
  replace N := Fr.snoc X3 N g_t
  show own_Run p e below _ (T3.setTop (mkF m 12 #[.val (.ref t), .val (.int key)] []))
  refine own_retV X3 hx hret hlk (hb hby d8_12) (by decide) (by decide) ?_
  rw [e3]
  exact ⟨rfl, N, (own_weak Kq (fun y hy => List.mem_cons_of_mem _ hy)).wr W3 (Or.inl (List.mem_cons_self ..)), E_t, _, ws2, F_root, t2, hw2⟩
theorem own_pd3 : parseMethodDescriptor "()V" = some ⟨[], none⟩ := by decide +kernel
theorem own_pd4 : parseMethodDescriptor "(IIIIII)I" = some ⟨[.int, .int, .int, .int, .int, .int], some .int⟩ := by decide +kernel
theorem own_pd5 : parseMethodDescriptor "(I)Z" = some ⟨[.int], some .boolean⟩ := by decide +kernel
abbrev Q_law (Z : State) (p1 : Int32) (p2 : Int32) (p3 : Int32) (p4 : Int32) (p5 : Int32) (p6 : Int32) (n0 : Nat) (h0 : Heap) : Option Value → Heap → List Loc → Prop := fun v h L => v = some (.int 1) ∧ Fr n0 L
set_option maxRecDepth 65536 in
set_option maxHeartbeats 40000000 in
theorem rm_law (l : Launch) (Z : State) (a0 : Array Value) (hw : ∀ d ∈ tables_1, d.before a0 Z = true) (p1 : Int32) (p2 : Int32) (p3 : Int32) (p4 : Int32) (p5 : Int32) (p6 : Int32) (n0 : Nat) (h0 : Heap) (Z0 : n0 ≤ h0.size)  :
    own_Met l Z x code maxLocals ret room_1 #[(.int p1), (.int p2), (.int p3), (.int p4), (.int p5), (.int p6)] h0 (Q_law Z p1 p2 p3 p4 p5 p6 n0 h0) := by
  refine own_enter (g0 := fun m => (mkF m 0 #[.val (.int p1), .val (.int p2), .val (.int p3), .val (.int p4), .val (.int p5), .val (.int p6), .unset, .unset, .unset, .unset, .unset, .unset, .unset, .unset] [])) (plainFor_of_name (by first | (simp [plainName, overriddenIn]; done) | decide +kernel)) (fun m => by first | (simp [entryFrame, mkF, argsToLocals, Value.category, maxLocals]; done) | rfl) ?_
  intro p e s m below meth c T hx hby hml hown hnm hZ hret hlk X e0
  have hml : c.maxLocals = 14 := hml
  replace hown : s.vm.findClass "subjects/SearchTreeContainsPinLaw" = some m.cls := hown
  have N := Fr.nil n0
  have hz := Z0
  show own_Run p e below _ (T.setTop (mkF m 0 #[.val (.int p1), .val (.int p2), .val (.int p3), .val (.int p4), .val (.int p5), .val (.int p6), .unset, .unset, .unset, .unset, .unset, .unset, .unset, .unset] []))
  refine own_newO X hx hZ e0 hown (hw _ (List.mem_of_getElem? (i := 0) rfl)) (hw _ (List.mem_of_getElem? (i := 1) rfl)) (hw _ (List.mem_of_getElem? (i := 2) rfl)) rfl (hb hby at_0) (by decide) (by decide) (fun b1 T1 h1 gb1 X1 e1 E1 A1 D1 => ?_)
  have g_b1 : n0 ≤ b1 := Nat.le_trans hz (Nat.le_of_eq gb1.symm)
  replace hz := Nat.le_trans hz E1.1
  have F1_root : Fld Z h1 b1 "subjects/SearchTree" "root" "Lsubjects/SearchTree$Node;" .null := D1 (Or.inl (hw _ (List.mem_of_getElem? (i := 15) rfl))) (ty := (.object "subjects/SearchTree$Node")) (by decide)
  show own_Run p e below _ (T1.setTop (mkF m 3 #[.val (.int p1), .val (.int p2), .val (.int p3), .val (.int p4), .val (.int p5), .val (.int p6), .unset, .unset, .unset, .unset, .unset, .unset, .unset, .unset] [(.ref b1)]))
  refine own_go (fun _ kS => XS.dup X1.here hx rfl (hb hby at_3) rfl rfl kS) ?_
  show own_Run p e below _ (T1.setTop (mkF m 4 #[.val (.int p1), .val (.int p2), .val (.int p3), .val (.int p4), .val (.int p5), .val (.int p6), .unset, .unset, .unset, .unset, .unset, .unset, .unset, .unset] [(.ref b1), (.ref b1)]))
  refine own_callN X1 hx hZ e1 hown (⟨"subjects/SearchTree", "<init>", "()V"⟩ : MethodName) rfl (hw _ (List.mem_of_getElem? (i := 3) rfl)) (hw _ (List.mem_of_getElem? (i := 4) rfl)) (hw _ (List.mem_of_getElem? (i := 2) rfl)) (hw _ (List.mem_of_getElem? (i := 5) rfl)) (by decide) b1 [] [(.ref b1)] (rm_tinit l Z a0 hw b1 h1) (by decide) 1 (by decide) (by decide) (by decide) rfl (by rw [hml]; rfl) (lenOf own_pd3 rfl) rfl (by show 2 * 0 + _ ≤ _; exact Nat.le_of_eq rfl) (hb hby at_4) (fun v2 h2 L2 T2 Q2 X2 e2 => ?_)
  obtain ⟨rfl, rfl, rfl⟩ := Q2
  replace N := N.app (Fr.nil n0)
  show own_Run p e below _ (T2.setTop (mkF m 7 #[.val (.int p1), .val (.int p2), .val (.int p3), .val (.int p4), .val (.int p5), .val (.int p6), .unset, .unset, .unset, .unset, .unset, .unset, .unset, .unset] [(.ref b1)]))
  refine own_go (fun _ kS => XS.astore X2.here hx rfl (hb hby at_7) rfl rfl (l' := #[.val (.int p1), .val (.int p2), .val (.int p3), .val (.int p4), .val (.int p5), .val (.int p6), .val (.ref b1), .unset, .unset, .unset, .unset, .unset, .unset, .unset]) rfl kS) ?_
  show own_Run p e below _ (T2.setTop (mkF m 9 #[.val (.int p1), .val (.int p2), .val (.int p3), .val (.int p4), .val (.int p5), .val (.int p6), .val (.ref b1), .unset, .unset, .unset, .unset, .unset, .unset, .unset] []))
  have hT0 : own_T Z h1 0 .null [] (fun _ => False) := own_T.nul (fun _ q => q)
  refine own_go (fun _ kS => XS.aload X2.here hx rfl (hb hby at_9) rfl rfl kS) ?_
  show own_Run p e below _ (T2.setTop (mkF m 11 #[.val (.int p1), .val (.int p2), .val (.int p3), .val (.int p4), .val (.int p5), .val (.int p6), .val (.ref b1), .unset, .unset, .unset, .unset, .unset, .unset, .unset] [(.ref b1)]))
  refine own_go (fun _ kS => XS.iloadN X2.here hx rfl (hb hby at_11) rfl kS) ?_
  show own_Run p e below _ (T2.setTop (mkF m 12 #[.val (.int p1), .val (.int p2), .val (.int p3), .val (.int p4), .val (.int p5), .val (.int p6), .val (.ref b1), .unset, .unset, .unset, .unset, .unset, .unset, .unset] [(.int p1), (.ref b1)]))
  refine own_callV X2 hx hZ e2 hown (⟨"subjects/SearchTree", "add", "(I)V"⟩ : MethodName) (hw _ (List.mem_of_getElem? (i := 9) rfl)) (hw _ (List.mem_of_getElem? (i := 10) rfl)) (hw _ (List.mem_of_getElem? (i := 12) rfl)) (hw _ (List.mem_of_getElem? (i := 11) rfl)) (hw _ (List.mem_of_getElem? (i := 2) rfl)) (hw _ (List.mem_of_getElem? (i := 13) rfl)) (by decide) b1 A1 [(.int p1)] [] (rm_add l Z a0 hw b1 p1 .null 0 [] (fun _ => False) n0 h1 hz A1 g_b1 F1_root hT0 nin0 (fun _ q => nomatch q)) (by decide) 0 (by decide) (by decide) (by decide) rfl (by rw [hml]; rfl) (lenOf own_pd0 rfl) rfl (by show 2 * 0 + _ ≤ _; exact Nat.le_of_eq rfl) (hb hby at_12) (fun v3 h3 L3 T3 Q3 X3 e3 => ?_)
  have hlt3 := A1.lt
  obtain ⟨rfl, Nq3, Kq3, A3, r3, w3, F3_root, hT3, hw3⟩ := Q3
  have gw3 : ∀ y ∈ w3, n0 ≤ y := fun y hy => (hw3 y hy).elim ((fun _ q => nomatch q) y) (fun q => Nat.le_trans hz q)
  have tw3 : b1 ∉ w3 := fun q => (hw3 _ q).elim nin0 (fun q => absurd hlt3 (Nat.not_lt.mpr q))
  replace hz := Nat.le_trans hz Kq3.1
  replace N := N.app Nq3
  show own_Run p e below _ (T3.setTop (mkF m 15 #[.val (.int p1), .val (.int p2), .val (.int p3), .val (.int p4), .val (.int p5), .val (.int p6), .val (.ref b1), .unset, .unset, .unset, .unset, .unset, .unset, .unset] []))
  refine own_go (fun _ kS => XS.aload X3.here hx rfl (hb hby at_15) rfl rfl kS) ?_
  show own_Run p e below _ (T3.setTop (mkF m 17 #[.val (.int p1), .val (.int p2), .val (.int p3), .val (.int p4), .val (.int p5), .val (.int p6), .val (.ref b1), .unset, .unset, .unset, .unset, .unset, .unset, .unset] [(.ref b1)]))
  refine own_go (fun _ kS => XS.iloadN X3.here hx rfl (hb hby at_17) rfl kS) ?_
  show own_Run p e below _ (T3.setTop (mkF m 18 #[.val (.int p1), .val (.int p2), .val (.int p3), .val (.int p4), .val (.int p5), .val (.int p6), .val (.ref b1), .unset, .unset, .unset, .unset, .unset, .unset, .unset] [(.int p2), (.ref b1)]))
  refine own_callV X3 hx hZ e3 hown (⟨"subjects/SearchTree", "add", "(I)V"⟩ : MethodName) (hw _ (List.mem_of_getElem? (i := 9) rfl)) (hw _ (List.mem_of_getElem? (i := 10) rfl)) (hw _ (List.mem_of_getElem? (i := 12) rfl)) (hw _ (List.mem_of_getElem? (i := 11) rfl)) (hw _ (List.mem_of_getElem? (i := 2) rfl)) (hw _ (List.mem_of_getElem? (i := 13) rfl)) (by decide) b1 A3 [(.int p2)] [] (rm_add l Z a0 hw b1 p2 r3 1 w3 (fun y => (fun _ => False) y ∨ y = p1) n0 h3 hz A3 g_b1 F3_root hT3 tw3 gw3) (by decide) 0 (by decide) (by decide) (by decide) rfl (by rw [hml]; rfl) (lenOf own_pd0 rfl) rfl (by show 2 * 0 + _ ≤ _; exact Nat.le_of_eq rfl) (hb hby at_18) (fun v4 h4 L4 T4 Q4 X4 e4 => ?_)
  have hlt4 := A3.lt
  obtain ⟨rfl, Nq4, Kq4, A4, r4, w4, F4_root, hT4, hw4⟩ := Q4
  have gw4 : ∀ y ∈ w4, n0 ≤ y := fun y hy => (hw4 y hy).elim (gw3 y) (fun q => Nat.le_trans hz q)
  have tw4 : b1 ∉ w4 := fun q => (hw4 _ q).elim tw3 (fun q => absurd hlt4 (Nat.not_lt.mpr q))
  replace hz := Nat.le_trans hz Kq4.1
  replace N := N.app Nq4
  show own_Run p e below _ (T4.setTop (mkF m 21 #[.val (.int p1), .val (.int p2), .val (.int p3), .val (.int p4), .val (.int p5), .val (.int p6), .val (.ref b1), .unset, .unset, .unset, .unset, .unset, .unset, .unset] []))
  refine own_go (fun _ kS => XS.aload X4.here hx rfl (hb hby at_21) rfl rfl kS) ?_
  show own_Run p e below _ (T4.setTop (mkF m 23 #[.val (.int p1), .val (.int p2), .val (.int p3), .val (.int p4), .val (.int p5), .val (.int p6), .val (.ref b1), .unset, .unset, .unset, .unset, .unset, .unset, .unset] [(.ref b1)]))
  refine own_go (fun _ kS => XS.iloadN X4.here hx rfl (hb hby at_23) rfl kS) ?_
  show own_Run p e below _ (T4.setTop (mkF m 24 #[.val (.int p1), .val (.int p2), .val (.int p3), .val (.int p4), .val (.int p5), .val (.int p6), .val (.ref b1), .unset, .unset, .unset, .unset, .unset, .unset, .unset] [(.int p3), (.ref b1)]))
  refine own_callV X4 hx hZ e4 hown (⟨"subjects/SearchTree", "add", "(I)V"⟩ : MethodName) (hw _ (List.mem_of_getElem? (i := 9) rfl)) (hw _ (List.mem_of_getElem? (i := 10) rfl)) (hw _ (List.mem_of_getElem? (i := 12) rfl)) (hw _ (List.mem_of_getElem? (i := 11) rfl)) (hw _ (List.mem_of_getElem? (i := 2) rfl)) (hw _ (List.mem_of_getElem? (i := 13) rfl)) (by decide) b1 A4 [(.int p3)] [] (rm_add l Z a0 hw b1 p3 r4 2 w4 (fun y => (fun y => (fun _ => False) y ∨ y = p1) y ∨ y = p2) n0 h4 hz A4 g_b1 F4_root hT4 tw4 gw4) (by decide) 0 (by decide) (by decide) (by decide) rfl (by rw [hml]; rfl) (lenOf own_pd0 rfl) rfl (by show 2 * 0 + _ ≤ _; exact Nat.le_of_eq rfl) (hb hby at_24) (fun v5 h5 L5 T5 Q5 X5 e5 => ?_)
  have hlt5 := A4.lt
  obtain ⟨rfl, Nq5, Kq5, A5, r5, w5, F5_root, hT5, hw5⟩ := Q5
  have gw5 : ∀ y ∈ w5, n0 ≤ y := fun y hy => (hw5 y hy).elim (gw4 y) (fun q => Nat.le_trans hz q)
  have tw5 : b1 ∉ w5 := fun q => (hw5 _ q).elim tw4 (fun q => absurd hlt5 (Nat.not_lt.mpr q))
  replace hz := Nat.le_trans hz Kq5.1
  replace N := N.app Nq5
  show own_Run p e below _ (T5.setTop (mkF m 27 #[.val (.int p1), .val (.int p2), .val (.int p3), .val (.int p4), .val (.int p5), .val (.int p6), .val (.ref b1), .unset, .unset, .unset, .unset, .unset, .unset, .unset] []))
  refine own_go (fun _ kS => XS.aload X5.here hx rfl (hb hby at_27) rfl rfl kS) ?_
  show own_Run p e below _ (T5.setTop (mkF m 29 #[.val (.int p1), .val (.int p2), .val (.int p3), .val (.int p4), .val (.int p5), .val (.int p6), .val (.ref b1), .unset, .unset, .unset, .unset, .unset, .unset, .unset] [(.ref b1)]))
  refine own_go (fun _ kS => XS.iloadN X5.here hx rfl (hb hby at_29) rfl kS) ?_
  show own_Run p e below _ (T5.setTop (mkF m 30 #[.val (.int p1), .val (.int p2), .val (.int p3), .val (.int p4), .val (.int p5), .val (.int p6), .val (.ref b1), .unset, .unset, .unset, .unset, .unset, .unset, .unset] [(.int p4), (.ref b1)]))
  refine own_callV X5 hx hZ e5 hown (⟨"subjects/SearchTree", "add", "(I)V"⟩ : MethodName) (hw _ (List.mem_of_getElem? (i := 9) rfl)) (hw _ (List.mem_of_getElem? (i := 10) rfl)) (hw _ (List.mem_of_getElem? (i := 12) rfl)) (hw _ (List.mem_of_getElem? (i := 11) rfl)) (hw _ (List.mem_of_getElem? (i := 2) rfl)) (hw _ (List.mem_of_getElem? (i := 13) rfl)) (by decide) b1 A5 [(.int p4)] [] (rm_add l Z a0 hw b1 p4 r5 3 w5 (fun y => (fun y => (fun y => (fun _ => False) y ∨ y = p1) y ∨ y = p2) y ∨ y = p3) n0 h5 hz A5 g_b1 F5_root hT5 tw5 gw5) (by decide) 0 (by decide) (by decide) (by decide) rfl (by rw [hml]; rfl) (lenOf own_pd0 rfl) rfl (by show 2 * 0 + _ ≤ _; exact Nat.le_of_eq rfl) (hb hby at_30) (fun v6 h6 L6 T6 Q6 X6 e6 => ?_)
  have hlt6 := A5.lt
  obtain ⟨rfl, Nq6, Kq6, A6, r6, w6, F6_root, hT6, hw6⟩ := Q6
  have gw6 : ∀ y ∈ w6, n0 ≤ y := fun y hy => (hw6 y hy).elim (gw5 y) (fun q => Nat.le_trans hz q)
  have tw6 : b1 ∉ w6 := fun q => (hw6 _ q).elim tw5 (fun q => absurd hlt6 (Nat.not_lt.mpr q))
  replace hz := Nat.le_trans hz Kq6.1
  replace N := N.app Nq6
  show own_Run p e below _ (T6.setTop (mkF m 33 #[.val (.int p1), .val (.int p2), .val (.int p3), .val (.int p4), .val (.int p5), .val (.int p6), .val (.ref b1), .unset, .unset, .unset, .unset, .unset, .unset, .unset] []))
  refine own_go (fun _ kS => XS.iload X6.here hx rfl (hb hby at_33) rfl kS) ?_
  show own_Run p e below _ (T6.setTop (mkF m 35 #[.val (.int p1), .val (.int p2), .val (.int p3), .val (.int p4), .val (.int p5), .val (.int p6), .val (.ref b1), .unset, .unset, .unset, .unset, .unset, .unset, .unset] [(.int p6)]))
  refine own_go (fun _ kS => XS.bipush X6.here hx rfl (hb hby at_35) kS) ?_
  show own_Run p e below _ (T6.setTop (mkF m 37 #[.val (.int p1), .val (.int p2), .val (.int p3), .val (.int p4), .val (.int p5), .val (.int p6), .val (.ref b1), .unset, .unset, .unset, .unset, .unset, .unset, .unset] [(.int (7 : Int32)), (.int p6)]))
  refine own_go (fun _ kS => XS.iand X6.here hx rfl (hb hby at_37) rfl kS) ?_
  show own_Run p e below _ (T6.setTop (mkF m 38 #[.val (.int p1), .val (.int p2), .val (.int p3), .val (.int p4), .val (.int p5), .val (.int p6), .val (.ref b1), .unset, .unset, .unset, .unset, .unset, .unset, .unset] [(.int (p6 &&& (7 : Int32)))]))
  refine own_go (fun _ kS => XS.istore X6.here hx rfl (hb hby at_38) rfl (l' := #[.val (.int p1), .val (.int p2), .val (.int p3), .val (.int p4), .val (.int p5), .val (.int p6), .val (.ref b1), .val (.int (p6 &&& (7 : Int32))), .unset, .unset, .unset, .unset, .unset, .unset]) rfl kS) ?_
  show own_Run p e below _ (T6.setTop (mkF m 40 #[.val (.int p1), .val (.int p2), .val (.int p3), .val (.int p4), .val (.int p5), .val (.int p6), .val (.ref b1), .val (.int (p6 &&& (7 : Int32))), .unset, .unset, .unset, .unset, .unset, .unset] []))
  refine own_go (fun _ kS => XS.iload X6.here hx rfl (hb hby at_40) rfl kS) ?_
  show own_Run p e below _ (T6.setTop (mkF m 42 #[.val (.int p1), .val (.int p2), .val (.int p3), .val (.int p4), .val (.int p5), .val (.int p6), .val (.ref b1), .val (.int (p6 &&& (7 : Int32))), .unset, .unset, .unset, .unset, .unset, .unset] [(.int (p6 &&& (7 : Int32)))]))
  refine own_go (fun _ kS => XS.bipush X6.here hx rfl (hb hby at_42) kS) ?_
  show own_Run p e below _ (T6.setTop (mkF m 44 #[.val (.int p1), .val (.int p2), .val (.int p3), .val (.int p4), .val (.int p5), .val (.int p6), .val (.ref b1), .val (.int (p6 &&& (7 : Int32))), .unset, .unset, .unset, .unset, .unset, .unset] [(.int (7 : Int32)), (.int (p6 &&& (7 : Int32)))]))
  by_cases hc44 : (p6 &&& (7 : Int32)) = (7 : Int32)
  · refine own_go (fun _ kS => XS.icmpYes X6.here hx rfl (pc0 := 44) (pc' := 51) rfl (hb hby at_44) rfl (teq hc44).1 (by decide) (by decide) kS) ?_
    show own_Run p e below _ (T6.setTop (mkF m 51 #[.val (.int p1), .val (.int p2), .val (.int p3), .val (.int p4), .val (.int p5), .val (.int p6), .val (.ref b1), .val (.int (p6 &&& (7 : Int32))), .unset, .unset, .unset, .unset, .unset, .unset] []))
    refine own_go (fun _ kS => XS.iconst X6.here hx rfl (hb hby at_51) kS) ?_
    show own_Run p e below _ (T6.setTop (mkF m 52 #[.val (.int p1), .val (.int p2), .val (.int p3), .val (.int p4), .val (.int p5), .val (.int p6), .val (.ref b1), .val (.int (p6 &&& (7 : Int32))), .unset, .unset, .unset, .unset, .unset, .unset] [(.int (0 : Int32))]))
    refine own_go (fun _ kS => XS.istore X6.here hx rfl (hb hby at_52) rfl (l' := #[.val (.int p1), .val (.int p2), .val (.int p3), .val (.int p4), .val (.int p5), .val (.int p6), .val (.ref b1), .val (.int (p6 &&& (7 : Int32))), .val (.int (0 : Int32)), .unset, .unset, .unset, .unset, .unset]) rfl kS) ?_
    show own_Run p e below _ (T6.setTop (mkF m 54 #[.val (.int p1), .val (.int p2), .val (.int p3), .val (.int p4), .val (.int p5), .val (.int p6), .val (.ref b1), .val (.int (p6 &&& (7 : Int32))), .val (.int (0 : Int32)), .unset, .unset, .unset, .unset, .unset] []))
    refine own_go (fun _ kS => XS.iload X6.here hx rfl (hb hby at_54) rfl kS) ?_
    show own_Run p e below _ (T6.setTop (mkF m 56 #[.val (.int p1), .val (.int p2), .val (.int p3), .val (.int p4), .val (.int p5), .val (.int p6), .val (.ref b1), .val (.int (p6 &&& (7 : Int32))), .val (.int (0 : Int32)), .unset, .unset, .unset, .unset, .unset] [(.int (p6 &&& (7 : Int32)))]))
    refine own_go (fun _ kS => XS.iloadN X6.here hx rfl (hb hby at_56) rfl kS) ?_
    show own_Run p e below _ (T6.setTop (mkF m 57 #[.val (.int p1), .val (.int p2), .val (.int p3), .val (.int p4), .val (.int p5), .val (.int p6), .val (.ref b1), .val (.int (p6 &&& (7 : Int32))), .val (.int (0 : Int32)), .unset, .unset, .unset, .unset, .unset] [(.int p1), (.int (p6 &&& (7 : Int32)))]))
    refine own_go (fun _ kS => XS.iloadN X6.here hx rfl (hb hby at_57) rfl kS) ?_
    show own_Run p e below _ (T6.setTop (mkF m 58 #[.val (.int p1), .val (.int p2), .val (.int p3), .val (.int p4), .val (.int p5), .val (.int p6), .val (.ref b1), .val (.int (p6 &&& (7 : Int32))), .val (.int (0 : Int32)), .unset, .unset, .unset, .unset, .unset] [(.int p2), (.int p1), (.int (p6 &&& (7 : Int32)))]))
    refine own_go (fun _ kS => XS.iloadN X6.here hx rfl (hb hby at_58) rfl kS) ?_
    show own_Run p e below _ (T6.setTop (mkF m 59 #[.val (.int p1), .val (.int p2), .val (.int p3), .val (.int p4), .val (.int p5), .val (.int p6), .val (.ref b1), .val (.int (p6 &&& (7 : Int32))), .val (.int (0 : Int32)), .unset, .unset, .unset, .unset, .unset] [(.int p3), (.int p2), (.int p1), (.int (p6 &&& (7 : Int32)))]))
    refine own_go (fun _ kS => XS.iloadN X6.here hx rfl (hb hby at_59) rfl kS) ?_
    show own_Run p e below _ (T6.setTop (mkF m 60 #[.val (.int p1), .val (.int p2), .val (.int p3), .val (.int p4), .val (.int p5), .val (.int p6), .val (.ref b1), .val (.int (p6 &&& (7 : Int32))), .val (.int (0 : Int32)), .unset, .unset, .unset, .unset, .unset] [(.int p4), (.int p3), (.int p2), (.int p1), (.int (p6 &&& (7 : Int32)))]))
    refine own_go (fun _ kS => XS.iload X6.here hx rfl (hb hby at_60) rfl kS) ?_
    show own_Run p e below _ (T6.setTop (mkF m 62 #[.val (.int p1), .val (.int p2), .val (.int p3), .val (.int p4), .val (.int p5), .val (.int p6), .val (.ref b1), .val (.int (p6 &&& (7 : Int32))), .val (.int (0 : Int32)), .unset, .unset, .unset, .unset, .unset] [(.int p5), (.int p4), (.int p3), (.int p2), (.int p1), (.int (p6 &&& (7 : Int32)))]))
    refine own_callS X6 hx hZ e6 hown (⟨"subjects/SearchTreeContainsPinLaw", "pick", "(IIIIII)I"⟩ : MethodName) (hw _ (List.mem_of_getElem? (i := 30) rfl)) (hw _ (List.mem_of_getElem? (i := 31) rfl)) (hw _ (List.mem_of_getElem? (i := 32) rfl)) (hw _ (List.mem_of_getElem? (i := 33) rfl)) (by decide) [(.int (p6 &&& (7 : Int32))), (.int p1), (.int p2), (.int p3), (.int p4), (.int p5)] [] (rm_pick l Z a0 hw (p6 &&& (7 : Int32)) p1 p2 p3 p4 p5 h6) (by decide) 0 (by decide) (by decide) (by decide) rfl (by rw [hml]; rfl) (lenOf own_pd4 rfl) rfl (by show 2 * 0 + _ ≤ _; exact Nat.le_of_eq rfl) (hb hby at_62) (fun v7 h7 L7 T7 Q7 X7 e7 => ?_)
    obtain ⟨rfl, rfl, rfl⟩ := Q7
    replace N := N.app (Fr.nil n0)
    show own_Run p e below _ (T7.setTop (mkF m 65 #[.val (.int p1), .val (.int p2), .val (.int p3), .val (.int p4), .val (.int p5), .val (.int p6), .val (.ref b1), .val (.int (p6 &&& (7 : Int32))), .val (.int (0 : Int32)), .unset, .unset, .unset, .unset, .unset] [(.int (own_pick (p6 &&& (7 : Int32)) p1 p2 p3 p4 p5))]))
    refine own_go (fun _ kS => XS.istore X7.here hx rfl (hb hby at_65) rfl (l' := #[.val (.int p1), .val (.int p2), .val (.int p3), .val (.int p4), .val (.int p5), .val (.int p6), .val (.ref b1), .val (.int (p6 &&& (7 : Int32))), .val (.int (0 : Int32)), .val (.int (own_pick (p6 &&& (7 : Int32)) p1 p2 p3 p4 p5)), .unset, .unset, .unset, .unset]) rfl kS) ?_
    show own_Run p e below _ (T7.setTop (mkF m 67 #[.val (.int p1), .val (.int p2), .val (.int p3), .val (.int p4), .val (.int p5), .val (.int p6), .val (.ref b1), .val (.int (p6 &&& (7 : Int32))), .val (.int (0 : Int32)), .val (.int (own_pick (p6 &&& (7 : Int32)) p1 p2 p3 p4 p5)), .unset, .unset, .unset, .unset] []))
    generalize e_rr : (own_pick (p6 &&& (7 : Int32)) p1 p2 p3 p4 p5) = rr
    refine own_go (fun _ kS => XS.iload X7.here hx rfl (hb hby at_67) rfl kS) ?_
    show own_Run p e below _ (T7.setTop (mkF m 69 #[.val (.int p1), .val (.int p2), .val (.int p3), .val (.int p4), .val (.int p5), .val (.int p6), .val (.ref b1), .val (.int (p6 &&& (7 : Int32))), .val (.int (0 : Int32)), .val (.int rr), .unset, .unset, .unset, .unset] [(.int (0 : Int32))]))
    refine own_go (fun _ kS => XS.ifYes X7.here hx rfl (pc0 := 69) (pc' := 79) rfl (hb hby at_69) rfl ((if0 _ _).trans (teq (show (0 : Int32) = (0 : Int32) from (rfl))).1) (by decide) (by decide) kS) ?_
    show own_Run p e below _ (T7.setTop (mkF m 79 #[.val (.int p1), .val (.int p2), .val (.int p3), .val (.int p4), .val (.int p5), .val (.int p6), .val (.ref b1), .val (.int (p6 &&& (7 : Int32))), .val (.int (0 : Int32)), .val (.int rr), .unset, .unset, .unset, .unset] []))
    refine own_go (fun _ kS => XS.iload X7.here hx rfl (hb hby at_79) rfl kS) ?_
    show own_Run p e below _ (T7.setTop (mkF m 81 #[.val (.int p1), .val (.int p2), .val (.int p3), .val (.int p4), .val (.int p5), .val (.int p6), .val (.ref b1), .val (.int (p6 &&& (7 : Int32))), .val (.int (0 : Int32)), .val (.int rr), .unset, .unset, .unset, .unset] [(.int p6)]))
    refine own_go (fun _ kS => XS.iconst X7.here hx rfl (hb hby at_81) kS) ?_
    show own_Run p e below _ (T7.setTop (mkF m 82 #[.val (.int p1), .val (.int p2), .val (.int p3), .val (.int p4), .val (.int p5), .val (.int p6), .val (.ref b1), .val (.int (p6 &&& (7 : Int32))), .val (.int (0 : Int32)), .val (.int rr), .unset, .unset, .unset, .unset] [(.int (3 : Int32)), (.int p6)]))
    refine own_go (fun _ kS => XS.iushr X7.here hx rfl (hb hby at_82) rfl kS) ?_
    show own_Run p e below _ (T7.setTop (mkF m 83 #[.val (.int p1), .val (.int p2), .val (.int p3), .val (.int p4), .val (.int p5), .val (.int p6), .val (.ref b1), .val (.int (p6 &&& (7 : Int32))), .val (.int (0 : Int32)), .val (.int rr), .unset, .unset, .unset, .unset] [(.int ((p6.toUInt32 >>> ((3 : Int32) &&& 31).toUInt32).toInt32))]))
    refine own_go (fun _ kS => XS.bipush X7.here hx rfl (hb hby at_83) kS) ?_
    show own_Run p e below _ (T7.setTop (mkF m 85 #[.val (.int p1), .val (.int p2), .val (.int p3), .val (.int p4), .val (.int p5), .val (.int p6), .val (.ref b1), .val (.int (p6 &&& (7 : Int32))), .val (.int (0 : Int32)), .val (.int rr), .unset, .unset, .unset, .unset] [(.int (7 : Int32)), (.int ((p6.toUInt32 >>> ((3 : Int32) &&& 31).toUInt32).toInt32))]))
    refine own_go (fun _ kS => XS.iand X7.here hx rfl (hb hby at_85) rfl kS) ?_
    show own_Run p e below _ (T7.setTop (mkF m 86 #[.val (.int p1), .val (.int p2), .val (.int p3), .val (.int p4), .val (.int p5), .val (.int p6), .val (.ref b1), .val (.int (p6 &&& (7 : Int32))), .val (.int (0 : Int32)), .val (.int rr), .unset, .unset, .unset, .unset] [(.int (((p6.toUInt32 >>> ((3 : Int32) &&& 31).toUInt32).toInt32) &&& (7 : Int32)))]))
    refine own_go (fun _ kS => XS.istore X7.here hx rfl (hb hby at_86) rfl (l' := #[.val (.int p1), .val (.int p2), .val (.int p3), .val (.int p4), .val (.int p5), .val (.int p6), .val (.ref b1), .val (.int (p6 &&& (7 : Int32))), .val (.int (0 : Int32)), .val (.int rr), .val (.int (((p6.toUInt32 >>> ((3 : Int32) &&& 31).toUInt32).toInt32) &&& (7 : Int32))), .unset, .unset, .unset]) rfl kS) ?_
    show own_Run p e below _ (T7.setTop (mkF m 88 #[.val (.int p1), .val (.int p2), .val (.int p3), .val (.int p4), .val (.int p5), .val (.int p6), .val (.ref b1), .val (.int (p6 &&& (7 : Int32))), .val (.int (0 : Int32)), .val (.int rr), .val (.int (((p6.toUInt32 >>> ((3 : Int32) &&& 31).toUInt32).toInt32) &&& (7 : Int32))), .unset, .unset, .unset] []))
    refine own_go (fun _ kS => XS.iload X7.here hx rfl (hb hby at_88) rfl kS) ?_
    show own_Run p e below _ (T7.setTop (mkF m 90 #[.val (.int p1), .val (.int p2), .val (.int p3), .val (.int p4), .val (.int p5), .val (.int p6), .val (.ref b1), .val (.int (p6 &&& (7 : Int32))), .val (.int (0 : Int32)), .val (.int rr), .val (.int (((p6.toUInt32 >>> ((3 : Int32) &&& 31).toUInt32).toInt32) &&& (7 : Int32))), .unset, .unset, .unset] [(.int (((p6.toUInt32 >>> ((3 : Int32) &&& 31).toUInt32).toInt32) &&& (7 : Int32)))]))
    refine own_go (fun _ kS => XS.iloadN X7.here hx rfl (hb hby at_90) rfl kS) ?_
    show own_Run p e below _ (T7.setTop (mkF m 91 #[.val (.int p1), .val (.int p2), .val (.int p3), .val (.int p4), .val (.int p5), .val (.int p6), .val (.ref b1), .val (.int (p6 &&& (7 : Int32))), .val (.int (0 : Int32)), .val (.int rr), .val (.int (((p6.toUInt32 >>> ((3 : Int32) &&& 31).toUInt32).toInt32) &&& (7 : Int32))), .unset, .unset, .unset] [(.int p1), (.int (((p6.toUInt32 >>> ((3 : Int32) &&& 31).toUInt32).toInt32) &&& (7 : Int32)))]))
    refine own_go (fun _ kS => XS.iloadN X7.here hx rfl (hb hby at_91) rfl kS) ?_
    show own_Run p e below _ (T7.setTop (mkF m 92 #[.val (.int p1), .val (.int p2), .val (.int p3), .val (.int p4), .val (.int p5), .val (.int p6), .val (.ref b1), .val (.int (p6 &&& (7 : Int32))), .val (.int (0 : Int32)), .val (.int rr), .val (.int (((p6.toUInt32 >>> ((3 : Int32) &&& 31).toUInt32).toInt32) &&& (7 : Int32))), .unset, .unset, .unset] [(.int p2), (.int p1), (.int (((p6.toUInt32 >>> ((3 : Int32) &&& 31).toUInt32).toInt32) &&& (7 : Int32)))]))
    refine own_go (fun _ kS => XS.iloadN X7.here hx rfl (hb hby at_92) rfl kS) ?_
    show own_Run p e below _ (T7.setTop (mkF m 93 #[.val (.int p1), .val (.int p2), .val (.int p3), .val (.int p4), .val (.int p5), .val (.int p6), .val (.ref b1), .val (.int (p6 &&& (7 : Int32))), .val (.int (0 : Int32)), .val (.int rr), .val (.int (((p6.toUInt32 >>> ((3 : Int32) &&& 31).toUInt32).toInt32) &&& (7 : Int32))), .unset, .unset, .unset] [(.int p3), (.int p2), (.int p1), (.int (((p6.toUInt32 >>> ((3 : Int32) &&& 31).toUInt32).toInt32) &&& (7 : Int32)))]))
    refine own_go (fun _ kS => XS.iloadN X7.here hx rfl (hb hby at_93) rfl kS) ?_
    show own_Run p e below _ (T7.setTop (mkF m 94 #[.val (.int p1), .val (.int p2), .val (.int p3), .val (.int p4), .val (.int p5), .val (.int p6), .val (.ref b1), .val (.int (p6 &&& (7 : Int32))), .val (.int (0 : Int32)), .val (.int rr), .val (.int (((p6.toUInt32 >>> ((3 : Int32) &&& 31).toUInt32).toInt32) &&& (7 : Int32))), .unset, .unset, .unset] [(.int p4), (.int p3), (.int p2), (.int p1), (.int (((p6.toUInt32 >>> ((3 : Int32) &&& 31).toUInt32).toInt32) &&& (7 : Int32)))]))
    refine own_go (fun _ kS => XS.iload X7.here hx rfl (hb hby at_94) rfl kS) ?_
    show own_Run p e below _ (T7.setTop (mkF m 96 #[.val (.int p1), .val (.int p2), .val (.int p3), .val (.int p4), .val (.int p5), .val (.int p6), .val (.ref b1), .val (.int (p6 &&& (7 : Int32))), .val (.int (0 : Int32)), .val (.int rr), .val (.int (((p6.toUInt32 >>> ((3 : Int32) &&& 31).toUInt32).toInt32) &&& (7 : Int32))), .unset, .unset, .unset] [(.int p5), (.int p4), (.int p3), (.int p2), (.int p1), (.int (((p6.toUInt32 >>> ((3 : Int32) &&& 31).toUInt32).toInt32) &&& (7 : Int32)))]))
    refine own_callS X7 hx hZ e7 hown (⟨"subjects/SearchTreeContainsPinLaw", "pick", "(IIIIII)I"⟩ : MethodName) (hw _ (List.mem_of_getElem? (i := 30) rfl)) (hw _ (List.mem_of_getElem? (i := 31) rfl)) (hw _ (List.mem_of_getElem? (i := 32) rfl)) (hw _ (List.mem_of_getElem? (i := 33) rfl)) (by decide) [(.int (((p6.toUInt32 >>> ((3 : Int32) &&& 31).toUInt32).toInt32) &&& (7 : Int32))), (.int p1), (.int p2), (.int p3), (.int p4), (.int p5)] [] (rm_pick l Z a0 hw (((p6.toUInt32 >>> ((3 : Int32) &&& 31).toUInt32).toInt32) &&& (7 : Int32)) p1 p2 p3 p4 p5 h6) (by decide) 0 (by decide) (by decide) (by decide) rfl (by rw [hml]; rfl) (lenOf own_pd4 rfl) rfl (by show 2 * 0 + _ ≤ _; exact Nat.le_of_eq rfl) (hb hby at_96) (fun v8 h8 L8 T8 Q8 X8 e8 => ?_)
    obtain ⟨rfl, rfl, rfl⟩ := Q8
    replace N := N.app (Fr.nil n0)
    show own_Run p e below _ (T8.setTop (mkF m 99 #[.val (.int p1), .val (.int p2), .val (.int p3), .val (.int p4), .val (.int p5), .val (.int p6), .val (.ref b1), .val (.int (p6 &&& (7 : Int32))), .val (.int (0 : Int32)), .val (.int rr), .val (.int (((p6.toUInt32 >>> ((3 : Int32) &&& 31).toUInt32).toInt32) &&& (7 : Int32))), .unset, .unset, .unset] [(.int (own_pick (((p6.toUInt32 >>> ((3 : Int32) &&& 31).toUInt32).toInt32) &&& (7 : Int32)) p1 p2 p3 p4 p5))]))
    refine own_go (fun _ kS => XS.istore X8.here hx rfl (hb hby at_99) rfl (l' := #[.val (.int p1), .val (.int p2), .val (.int p3), .val (.int p4), .val (.int p5), .val (.int p6), .val (.ref b1), .val (.int (p6 &&& (7 : Int32))), .val (.int (0 : Int32)), .val (.int rr), .val (.int (((p6.toUInt32 >>> ((3 : Int32) &&& 31).toUInt32).toInt32) &&& (7 : Int32))), .val (.int (own_pick (((p6.toUInt32 >>> ((3 : Int32) &&& 31).toUInt32).toInt32) &&& (7 : Int32)) p1 p2 p3 p4 p5)), .unset, .unset]) rfl kS) ?_
    show own_Run p e below _ (T8.setTop (mkF m 101 #[.val (.int p1), .val (.int p2), .val (.int p3), .val (.int p4), .val (.int p5), .val (.int p6), .val (.ref b1), .val (.int (p6 &&& (7 : Int32))), .val (.int (0 : Int32)), .val (.int rr), .val (.int (((p6.toUInt32 >>> ((3 : Int32) &&& 31).toUInt32).toInt32) &&& (7 : Int32))), .val (.int (own_pick (((p6.toUInt32 >>> ((3 : Int32) &&& 31).toUInt32).toInt32) &&& (7 : Int32)) p1 p2 p3 p4 p5)), .unset, .unset] []))
    generalize e_xx : (own_pick (((p6.toUInt32 >>> ((3 : Int32) &&& 31).toUInt32).toInt32) &&& (7 : Int32)) p1 p2 p3 p4 p5) = xx
    refine own_go (fun _ kS => XS.iload X8.here hx rfl (hb hby at_101) rfl kS) ?_
    show own_Run p e below _ (T8.setTop (mkF m 103 #[.val (.int p1), .val (.int p2), .val (.int p3), .val (.int p4), .val (.int p5), .val (.int p6), .val (.ref b1), .val (.int (p6 &&& (7 : Int32))), .val (.int (0 : Int32)), .val (.int rr), .val (.int (((p6.toUInt32 >>> ((3 : Int32) &&& 31).toUInt32).toInt32) &&& (7 : Int32))), .val (.int xx), .unset, .unset] [(.int xx)]))
    refine own_go (fun _ kS => XS.iloadN X8.here hx rfl (hb hby at_103) rfl kS) ?_
    show own_Run p e below _ (T8.setTop (mkF m 104 #[.val (.int p1), .val (.int p2), .val (.int p3), .val (.int p4), .val (.int p5), .val (.int p6), .val (.ref b1), .val (.int (p6 &&& (7 : Int32))), .val (.int (0 : Int32)), .val (.int rr), .val (.int (((p6.toUInt32 >>> ((3 : Int32) &&& 31).toUInt32).toInt32) &&& (7 : Int32))), .val (.int xx), .unset, .unset] [(.int p1), (.int xx)]))
    by_cases hc104 : xx = p1
    · refine own_go (fun _ kS => XS.icmpYes X8.here hx rfl (pc0 := 104) (pc' := 125) rfl (hb hby at_104) rfl (teq hc104).1 (by decide) (by decide) kS) ?_
      show own_Run p e below _ (T8.setTop (mkF m 125 #[.val (.int p1), .val (.int p2), .val (.int p3), .val (.int p4), .val (.int p5), .val (.int p6), .val (.ref b1), .val (.int (p6 &&& (7 : Int32))), .val (.int (0 : Int32)), .val (.int rr), .val (.int (((p6.toUInt32 >>> ((3 : Int32) &&& 31).toUInt32).toInt32) &&& (7 : Int32))), .val (.int xx), .unset, .unset] []))
      refine own_go (fun _ kS => XS.iconst X8.here hx rfl (hb hby at_125) kS) ?_
      show own_Run p e below _ (T8.setTop (mkF m 126 #[.val (.int p1), .val (.int p2), .val (.int p3), .val (.int p4), .val (.int p5), .val (.int p6), .val (.ref b1), .val (.int (p6 &&& (7 : Int32))), .val (.int (0 : Int32)), .val (.int rr), .val (.int (((p6.toUInt32 >>> ((3 : Int32) &&& 31).toUInt32).toInt32) &&& (7 : Int32))), .val (.int xx), .unset, .unset] [(.int (1 : Int32))]))
      refine own_go (fun _ kS => XS.goto X8.here hx rfl (pc0 := 126) (pc' := 130) rfl (hb hby at_126) (by decide) (by decide) kS) ?_
      show own_Run p e below _ (T8.setTop (mkF m 130 #[.val (.int p1), .val (.int p2), .val (.int p3), .val (.int p4), .val (.int p5), .val (.int p6), .val (.ref b1), .val (.int (p6 &&& (7 : Int32))), .val (.int (0 : Int32)), .val (.int rr), .val (.int (((p6.toUInt32 >>> ((3 : Int32) &&& 31).toUInt32).toInt32) &&& (7 : Int32))), .val (.int xx), .unset, .unset] [(.int (1 : Int32))]))
      refine own_go (fun _ kS => XS.istore X8.here hx rfl (hb hby at_130) rfl (l' := #[.val (.int p1), .val (.int p2), .val (.int p3), .val (.int p4), .val (.int p5), .val (.int p6), .val (.ref b1), .val (.int (p6 &&& (7 : Int32))), .val (.int (0 : Int32)), .val (.int rr), .val (.int (((p6.toUInt32 >>> ((3 : Int32) &&& 31).toUInt32).toInt32) &&& (7 : Int32))), .val (.int xx), .val (.int (1 : Int32)), .unset]) rfl kS) ?_
      show own_Run p e below _ (T8.setTop (mkF m 132 #[.val (.int p1), .val (.int p2), .val (.int p3), .val (.int p4), .val (.int p5), .val (.int p6), .val (.ref b1), .val (.int (p6 &&& (7 : Int32))), .val (.int (0 : Int32)), .val (.int rr), .val (.int (((p6.toUInt32 >>> ((3 : Int32) &&& 31).toUInt32).toInt32) &&& (7 : Int32))), .val (.int xx), .val (.int (1 : Int32)), .unset] []))
      refine own_go (fun _ kS => XS.iload X8.here hx rfl (hb hby at_132) rfl kS) ?_
      show own_Run p e below _ (T8.setTop (mkF m 134 #[.val (.int p1), .val (.int p2), .val (.int p3), .val (.int p4), .val (.int p5), .val (.int p6), .val (.ref b1), .val (.int (p6 &&& (7 : Int32))), .val (.int (0 : Int32)), .val (.int rr), .val (.int (((p6.toUInt32 >>> ((3 : Int32) &&& 31).toUInt32).toInt32) &&& (7 : Int32))), .val (.int xx), .val (.int (1 : Int32)), .unset] [(.int (1 : Int32))]))
      refine own_go (fun _ kS => XS.ifNo X8.here hx rfl (hb hby at_134) rfl ((if0 _ _).trans (feq (show ¬ ((1 : Int32) = (0 : Int32)) from (by decide))).1) kS) ?_
      show own_Run p e below _ (T8.setTop (mkF m 137 #[.val (.int p1), .val (.int p2), .val (.int p3), .val (.int p4), .val (.int p5), .val (.int p6), .val (.ref b1), .val (.int (p6 &&& (7 : Int32))), .val (.int (0 : Int32)), .val (.int rr), .val (.int (((p6.toUInt32 >>> ((3 : Int32) &&& 31).toUInt32).toInt32) &&& (7 : Int32))), .val (.int xx), .val (.int (1 : Int32)), .unset] []))
      refine own_go (fun _ kS => XS.iload X8.here hx rfl (hb hby at_137) rfl kS) ?_
      show own_Run p e below _ (T8.setTop (mkF m 139 #[.val (.int p1), .val (.int p2), .val (.int p3), .val (.int p4), .val (.int p5), .val (.int p6), .val (.ref b1), .val (.int (p6 &&& (7 : Int32))), .val (.int (0 : Int32)), .val (.int rr), .val (.int (((p6.toUInt32 >>> ((3 : Int32) &&& 31).toUInt32).toInt32) &&& (7 : Int32))), .val (.int xx), .val (.int (1 : Int32)), .unset] [(.int (0 : Int32))]))
      refine own_go (fun _ kS => XS.ifYes X8.here hx rfl (pc0 := 139) (pc' := 149) rfl (hb hby at_139) rfl ((if0 _ _).trans (teq (show (0 : Int32) = (0 : Int32) from (rfl))).1) (by decide) (by decide) kS) ?_
      show own_Run p e below _ (T8.setTop (mkF m 149 #[.val (.int p1), .val (.int p2), .val (.int p3), .val (.int p4), .val (.int p5), .val (.int p6), .val (.ref b1), .val (.int (p6 &&& (7 : Int32))), .val (.int (0 : Int32)), .val (.int rr), .val (.int (((p6.toUInt32 >>> ((3 : Int32) &&& 31).toUInt32).toInt32) &&& (7 : Int32))), .val (.int xx), .val (.int (1 : Int32)), .unset] []))
      refine own_go (fun _ kS => XS.iconst X8.here hx rfl (hb hby at_149) kS) ?_
      show own_Run p e below _ (T8.setTop (mkF m 150 #[.val (.int p1), .val (.int p2), .val (.int p3), .val (.int p4), .val (.int p5), .val (.int p6), .val (.ref b1), .val (.int (p6 &&& (7 : Int32))), .val (.int (0 : Int32)), .val (.int rr), .val (.int (((p6.toUInt32 >>> ((3 : Int32) &&& 31).toUInt32).toInt32) &&& (7 : Int32))), .val (.int xx), .val (.int (1 : Int32)), .unset] [(.int (1 : Int32))]))
      refine own_go (fun _ kS => XS.goto X8.here hx rfl (pc0 := 150) (pc' := 154) rfl (hb hby at_150) (by decide) (by decide) kS) ?_
      show own_Run p e below _ (T8.setTop (mkF m 154 #[.val (.int p1), .val (.int p2), .val (.int p3), .val (.int p4), .val (.int p5), .val (.int p6), .val (.ref b1), .val (.int (p6 &&& (7 : Int32))), .val (.int (0 : Int32)), .val (.int rr), .val (.int (((p6.toUInt32 >>> ((3 : Int32) &&& 31).toUInt32).toInt32) &&& (7 : Int32))), .val (.int xx), .val (.int (1 : Int32)), .unset] [(.int (1 : Int32))]))
      refine own_go (fun _ kS => XS.istore X8.here hx rfl (hb hby at_154) rfl (l' := #[.val (.int p1), .val (.int p2), .val (.int p3), .val (.int p4), .val (.int p5), .val (.int p6), .val (.ref b1), .val (.int (p6 &&& (7 : Int32))), .val (.int (0 : Int32)), .val (.int rr), .val (.int (((p6.toUInt32 >>> ((3 : Int32) &&& 31).toUInt32).toInt32) &&& (7 : Int32))), .val (.int xx), .val (.int (1 : Int32)), .val (.int (1 : Int32))]) rfl kS) ?_
      show own_Run p e below _ (T8.setTop (mkF m 156 #[.val (.int p1), .val (.int p2), .val (.int p3), .val (.int p4), .val (.int p5), .val (.int p6), .val (.ref b1), .val (.int (p6 &&& (7 : Int32))), .val (.int (0 : Int32)), .val (.int rr), .val (.int (((p6.toUInt32 >>> ((3 : Int32) &&& 31).toUInt32).toInt32) &&& (7 : Int32))), .val (.int xx), .val (.int (1 : Int32)), .val (.int (1 : Int32))] []))
      refine own_go (fun _ kS => XS.aload X8.here hx rfl (hb hby at_156) rfl rfl kS) ?_
      show own_Run p e below _ (T8.setTop (mkF m 158 #[.val (.int p1), .val (.int p2), .val (.int p3), .val (.int p4), .val (.int p5), .val (.int p6), .val (.ref b1), .val (.int (p6 &&& (7 : Int32))), .val (.int (0 : Int32)), .val (.int rr), .val (.int (((p6.toUInt32 >>> ((3 : Int32) &&& 31).toUInt32).toInt32) &&& (7 : Int32))), .val (.int xx), .val (.int (1 : Int32)), .val (.int (1 : Int32))] [(.ref b1)]))
      refine own_go (fun _ kS => XS.iload X8.here hx rfl (hb hby at_158) rfl kS) ?_
      show own_Run p e below _ (T8.setTop (mkF m 160 #[.val (.int p1), .val (.int p2), .val (.int p3), .val (.int p4), .val (.int p5), .val (.int p6), .val (.ref b1), .val (.int (p6 &&& (7 : Int32))), .val (.int (0 : Int32)), .val (.int rr), .val (.int (((p6.toUInt32 >>> ((3 : Int32) &&& 31).toUInt32).toInt32) &&& (7 : Int32))), .val (.int xx), .val (.int (1 : Int32)), .val (.int (1 : Int32))] [(.int xx), (.ref b1)]))
      refine own_callV X8 hx hZ e8 hown (⟨"subjects/SearchTree", "contains", "(I)Z"⟩ : MethodName) (hw _ (List.mem_of_getElem? (i := 42) rfl)) (hw _ (List.mem_of_getElem? (i := 43) rfl)) (hw _ (List.mem_of_getElem? (i := 45) rfl)) (hw _ (List.mem_of_getElem? (i := 44) rfl)) (hw _ (List.mem_of_getElem? (i := 2) rfl)) (hw _ (List.mem_of_getElem? (i := 46) rfl)) (by decide) b1 A6 [(.int xx)] [] (rm_cont l Z a0 hw b1 xx r6 4 w6 (fun y => (fun y => (fun y => (fun y => (fun _ => False) y ∨ y = p1) y ∨ y = p2) y ∨ y = p3) y ∨ y = p4) h6 F6_root hT6) (by decide) 0 (by decide) (by decide) (by decide) rfl (by rw [hml]; rfl) (lenOf own_pd5 rfl) rfl (by show 2 * 0 + _ ≤ _; exact Nat.le_of_eq rfl) (hb hby at_160) (fun v9 h9 L9 T9 Q9 X9 e9 => ?_)
      obtain ⟨zz, rfl, rfl, rfl, hzz⟩ := Q9
      replace N := N.app (Fr.nil n0)
      show own_Run p e below _ (T9.setTop (mkF m 163 #[.val (.int p1), .val (.int p2), .val (.int p3), .val (.int p4), .val (.int p5), .val (.int p6), .val (.ref b1), .val (.int (p6 &&& (7 : Int32))), .val (.int (0 : Int32)), .val (.int rr), .val (.int (((p6.toUInt32 >>> ((3 : Int32) &&& 31).toUInt32).toInt32) &&& (7 : Int32))), .val (.int xx), .val (.int (1 : Int32)), .val (.int (1 : Int32))] [(.int zz)]))
      refine own_go (fun _ kS => XS.iload X9.here hx rfl (hb hby at_163) rfl kS) ?_
      show own_Run p e below _ (T9.setTop (mkF m 165 #[.val (.int p1), .val (.int p2), .val (.int p3), .val (.int p4), .val (.int p5), .val (.int p6), .val (.ref b1), .val (.int (p6 &&& (7 : Int32))), .val (.int (0 : Int32)), .val (.int rr), .val (.int (((p6.toUInt32 >>> ((3 : Int32) &&& 31).toUInt32).toInt32) &&& (7 : Int32))), .val (.int xx), .val (.int (1 : Int32)), .val (.int (1 : Int32))] [(.int (1 : Int32)), (.int zz)]))
      refine own_go (fun _ kS => XS.icmpNo X9.here hx rfl (hb hby at_165) rfl (teq (show zz = (1 : Int32) from (hzz.elim (fun q => q.1) (fun q => absurd (Or.inl (Or.inl (Or.inl (Or.inr hc104)))) q.2)))).2 kS) ?_
      show own_Run p e below _ (T9.setTop (mkF m 168 #[.val (.int p1), .val (.int p2), .val (.int p3), .val (.int p4), .val (.int p5), .val (.int p6), .val (.ref b1), .val (.int (p6 &&& (7 : Int32))), .val (.int (0 : Int32)), .val (.int rr), .val (.int (((p6.toUInt32 >>> ((3 : Int32) &&& 31).toUInt32).toInt32) &&& (7 : Int32))), .val (.int xx), .val (.int (1 : Int32)), .val (.int (1 : Int32))] []))
      refine own_go (fun _ kS => XS.iconst X9.here hx rfl (hb hby at_168) kS) ?_
      show own_Run p e below _ (T9.setTop (mkF m 169 #[.val (.int p1), .val (.int p2), .val (.int p3), .val (.int p4), .val (.int p5), .val (.int p6), .val (.ref b1), .val (.int (p6 &&& (7 : Int32))), .val (.int (0 : Int32)), .val (.int rr), .val (.int (((p6.toUInt32 >>> ((3 : Int32) &&& 31).toUInt32).toInt32) &&& (7 : Int32))), .val (.int xx), .val (.int (1 : Int32)), .val (.int (1 : Int32))] [(.int (1 : Int32))]))
      refine own_go (fun _ kS => XS.goto X9.here hx rfl (pc0 := 169) (pc' := 173) rfl (hb hby at_169) (by decide) (by decide) kS) ?_
      show own_Run p e below _ (T9.setTop (mkF m 173 #[.val (.int p1), .val (.int p2), .val (.int p3), .val (.int p4), .val (.int p5), .val (.int p6), .val (.ref b1), .val (.int (p6 &&& (7 : Int32))), .val (.int (0 : Int32)), .val (.int rr), .val (.int (((p6.toUInt32 >>> ((3 : Int32) &&& 31).toUInt32).toInt32) &&& (7 : Int32))), .val (.int xx), .val (.int (1 : Int32)), .val (.int (1 : Int32))] [(.int (1 : Int32))]))
      refine own_retN X9 hx (t := .boolean) hret hlk (by simp) (hb hby at_173) (by decide) (by decide) ?_
      exact ⟨rfl, N⟩
    · refine own_go (fun _ kS => XS.icmpNo X8.here hx rfl (hb hby at_104) rfl (feq hc104).1 kS) ?_
      show own_Run p e below _ (T8.setTop (mkF m 107 #[.val (.int p1), .val (.int p2), .val (.int p3), .val (.int p4), .val (.int p5), .val (.int p6), .val (.ref b1), .val (.int (p6 &&& (7 : Int32))), .val (.int (0 : Int32)), .val (.int rr), .val (.int (((p6.toUInt32 >>> ((3 : Int32) &&& 31).toUInt32).toInt32) &&& (7 : Int32))), .val (.int xx), .unset, .unset] []))
      refine own_go (fun _ kS => XS.iload X8.here hx rfl (hb hby at_107) rfl kS) ?_
      show own_Run p e below _ (T8.setTop (mkF m 109 #[.val (.int p1), .val (.int p2), .val (.int p3), .val (.int p4), .val (.int p5), .val (.int p6), .val (.ref b1), .val (.int (p6 &&& (7 : Int32))), .val (.int (0 : Int32)), .val (.int rr), .val (.int (((p6.toUInt32 >>> ((3 : Int32) &&& 31).toUInt32).toInt32) &&& (7 : Int32))), .val (.int xx), .unset, .unset] [(.int xx)]))
      refine own_go (fun _ kS => XS.iloadN X8.here hx rfl (hb hby at_109) rfl kS) ?_
      show own_Run p e below _ (T8.setTop (mkF m 110 #[.val (.int p1), .val (.int p2), .val (.int p3), .val (.int p4), .val (.int p5), .val (.int p6), .val (.ref b1), .val (.int (p6 &&& (7 : Int32))), .val (.int (0 : Int32)), .val (.int rr), .val (.int (((p6.toUInt32 >>> ((3 : Int32) &&& 31).toUInt32).toInt32) &&& (7 : Int32))), .val (.int xx), .unset, .unset] [(.int p2), (.int xx)]))
      by_cases hc110 : xx = p2
      · refine own_go (fun _ kS => XS.icmpYes X8.here hx rfl (pc0 := 110) (pc' := 125) rfl (hb hby at_110) rfl (teq hc110).1 (by decide) (by decide) kS) ?_
        show own_Run p e below _ (T8.setTop (mkF m 125 #[.val (.int p1), .val (.int p2), .val (.int p3), .val (.int p4), .val (.int p5), .val (.int p6), .val (.ref b1), .val (.int (p6 &&& (7 : Int32))), .val (.int (0 : Int32)), .val (.int rr), .val (.int (((p6.toUInt32 >>> ((3 : Int32) &&& 31).toUInt32).toInt32) &&& (7 : Int32))), .val (.int xx), .unset, .unset] []))
        refine own_go (fun _ kS => XS.iconst X8.here hx rfl (hb hby at_125) kS) ?_
        show own_Run p e below _ (T8.setTop (mkF m 126 #[.val (.int p1), .val (.int p2), .val (.int p3), .val (.int p4), .val (.int p5), .val (.int p6), .val (.ref b1), .val (.int (p6 &&& (7 : Int32))), .val (.int (0 : Int32)), .val (.int rr), .val (.int (((p6.toUInt32 >>> ((3 : Int32) &&& 31).toUInt32).toInt32) &&& (7 : Int32))), .val (.int xx), .unset, .unset] [(.int (1 : Int32))]))
        refine own_go (fun _ kS => XS.goto X8.here hx rfl (pc0 := 126) (pc' := 130) rfl (hb hby at_126) (by decide) (by decide) kS) ?_
        show own_Run p e below _ (T8.setTop (mkF m 130 #[.val (.int p1), .val (.int p2), .val (.int p3), .val (.int p4), .val (.int p5), .val (.int p6), .val (.ref b1), .val (.int (p6 &&& (7 : Int32))), .val (.int (0 : Int32)), .val (.int rr), .val (.int (((p6.toUInt32 >>> ((3 : Int32) &&& 31).toUInt32).toInt32) &&& (7 : Int32))), .val (.int xx), .unset, .unset] [(.int (1 : Int32))]))
        refine own_go (fun _ kS => XS.istore X8.here hx rfl (hb hby at_130) rfl (l' := #[.val (.int p1), .val (.int p2), .val (.int p3), .val (.int p4), .val (.int p5), .val (.int p6), .val (.ref b1), .val (.int (p6 &&& (7 : Int32))), .val (.int (0 : Int32)), .val (.int rr), .val (.int (((p6.toUInt32 >>> ((3 : Int32) &&& 31).toUInt32).toInt32) &&& (7 : Int32))), .val (.int xx), .val (.int (1 : Int32)), .unset]) rfl kS) ?_
        show own_Run p e below _ (T8.setTop (mkF m 132 #[.val (.int p1), .val (.int p2), .val (.int p3), .val (.int p4), .val (.int p5), .val (.int p6), .val (.ref b1), .val (.int (p6 &&& (7 : Int32))), .val (.int (0 : Int32)), .val (.int rr), .val (.int (((p6.toUInt32 >>> ((3 : Int32) &&& 31).toUInt32).toInt32) &&& (7 : Int32))), .val (.int xx), .val (.int (1 : Int32)), .unset] []))
        refine own_go (fun _ kS => XS.iload X8.here hx rfl (hb hby at_132) rfl kS) ?_
        show own_Run p e below _ (T8.setTop (mkF m 134 #[.val (.int p1), .val (.int p2), .val (.int p3), .val (.int p4), .val (.int p5), .val (.int p6), .val (.ref b1), .val (.int (p6 &&& (7 : Int32))), .val (.int (0 : Int32)), .val (.int rr), .val (.int (((p6.toUInt32 >>> ((3 : Int32) &&& 31).toUInt32).toInt32) &&& (7 : Int32))), .val (.int xx), .val (.int (1 : Int32)), .unset] [(.int (1 : Int32))]))
        refine own_go (fun _ kS => XS.ifNo X8.here hx rfl (hb hby at_134) rfl ((if0 _ _).trans (feq (show ¬ ((1 : Int32) = (0 : Int32)) from (by decide))).1) kS) ?_
        show own_Run p e below _ (T8.setTop (mkF m 137 #[.val (.int p1), .val (.int p2), .val (.int p3), .val (.int p4), .val (.int p5), .val (.int p6), .val (.ref b1), .val (.int (p6 &&& (7 : Int32))), .val (.int (0 : Int32)), .val (.int rr), .val (.int (((p6.toUInt32 >>> ((3 : Int32) &&& 31).toUInt32).toInt32) &&& (7 : Int32))), .val (.int xx), .val (.int (1 : Int32)), .unset] []))
        refine own_go (fun _ kS => XS.iload X8.here hx rfl (hb hby at_137) rfl kS) ?_
        show own_Run p e below _ (T8.setTop (mkF m 139 #[.val (.int p1), .val (.int p2), .val (.int p3), .val (.int p4), .val (.int p5), .val (.int p6), .val (.ref b1), .val (.int (p6 &&& (7 : Int32))), .val (.int (0 : Int32)), .val (.int rr), .val (.int (((p6.toUInt32 >>> ((3 : Int32) &&& 31).toUInt32).toInt32) &&& (7 : Int32))), .val (.int xx), .val (.int (1 : Int32)), .unset] [(.int (0 : Int32))]))
        refine own_go (fun _ kS => XS.ifYes X8.here hx rfl (pc0 := 139) (pc' := 149) rfl (hb hby at_139) rfl ((if0 _ _).trans (teq (show (0 : Int32) = (0 : Int32) from (rfl))).1) (by decide) (by decide) kS) ?_
        show own_Run p e below _ (T8.setTop (mkF m 149 #[.val (.int p1), .val (.int p2), .val (.int p3), .val (.int p4), .val (.int p5), .val (.int p6), .val (.ref b1), .val (.int (p6 &&& (7 : Int32))), .val (.int (0 : Int32)), .val (.int rr), .val (.int (((p6.toUInt32 >>> ((3 : Int32) &&& 31).toUInt32).toInt32) &&& (7 : Int32))), .val (.int xx), .val (.int (1 : Int32)), .unset] []))
        refine own_go (fun _ kS => XS.iconst X8.here hx rfl (hb hby at_149) kS) ?_
        show own_Run p e below _ (T8.setTop (mkF m 150 #[.val (.int p1), .val (.int p2), .val (.int p3), .val (.int p4), .val (.int p5), .val (.int p6), .val (.ref b1), .val (.int (p6 &&& (7 : Int32))), .val (.int (0 : Int32)), .val (.int rr), .val (.int (((p6.toUInt32 >>> ((3 : Int32) &&& 31).toUInt32).toInt32) &&& (7 : Int32))), .val (.int xx), .val (.int (1 : Int32)), .unset] [(.int (1 : Int32))]))
        refine own_go (fun _ kS => XS.goto X8.here hx rfl (pc0 := 150) (pc' := 154) rfl (hb hby at_150) (by decide) (by decide) kS) ?_
        show own_Run p e below _ (T8.setTop (mkF m 154 #[.val (.int p1), .val (.int p2), .val (.int p3), .val (.int p4), .val (.int p5), .val (.int p6), .val (.ref b1), .val (.int (p6 &&& (7 : Int32))), .val (.int (0 : Int32)), .val (.int rr), .val (.int (((p6.toUInt32 >>> ((3 : Int32) &&& 31).toUInt32).toInt32) &&& (7 : Int32))), .val (.int xx), .val (.int (1 : Int32)), .unset] [(.int (1 : Int32))]))
        refine own_go (fun _ kS => XS.istore X8.here hx rfl (hb hby at_154) rfl (l' := #[.val (.int p1), .val (.int p2), .val (.int p3), .val (.int p4), .val (.int p5), .val (.int p6), .val (.ref b1), .val (.int (p6 &&& (7 : Int32))), .val (.int (0 : Int32)), .val (.int rr), .val (.int (((p6.toUInt32 >>> ((3 : Int32) &&& 31).toUInt32).toInt32) &&& (7 : Int32))), .val (.int xx), .val (.int (1 : Int32)), .val (.int (1 : Int32))]) rfl kS) ?_
        show own_Run p e below _ (T8.setTop (mkF m 156 #[.val (.int p1), .val (.int p2), .val (.int p3), .val (.int p4), .val (.int p5), .val (.int p6), .val (.ref b1), .val (.int (p6 &&& (7 : Int32))), .val (.int (0 : Int32)), .val (.int rr), .val (.int (((p6.toUInt32 >>> ((3 : Int32) &&& 31).toUInt32).toInt32) &&& (7 : Int32))), .val (.int xx), .val (.int (1 : Int32)), .val (.int (1 : Int32))] []))
        refine own_go (fun _ kS => XS.aload X8.here hx rfl (hb hby at_156) rfl rfl kS) ?_
        show own_Run p e below _ (T8.setTop (mkF m 158 #[.val (.int p1), .val (.int p2), .val (.int p3), .val (.int p4), .val (.int p5), .val (.int p6), .val (.ref b1), .val (.int (p6 &&& (7 : Int32))), .val (.int (0 : Int32)), .val (.int rr), .val (.int (((p6.toUInt32 >>> ((3 : Int32) &&& 31).toUInt32).toInt32) &&& (7 : Int32))), .val (.int xx), .val (.int (1 : Int32)), .val (.int (1 : Int32))] [(.ref b1)]))
        refine own_go (fun _ kS => XS.iload X8.here hx rfl (hb hby at_158) rfl kS) ?_
        show own_Run p e below _ (T8.setTop (mkF m 160 #[.val (.int p1), .val (.int p2), .val (.int p3), .val (.int p4), .val (.int p5), .val (.int p6), .val (.ref b1), .val (.int (p6 &&& (7 : Int32))), .val (.int (0 : Int32)), .val (.int rr), .val (.int (((p6.toUInt32 >>> ((3 : Int32) &&& 31).toUInt32).toInt32) &&& (7 : Int32))), .val (.int xx), .val (.int (1 : Int32)), .val (.int (1 : Int32))] [(.int xx), (.ref b1)]))
        refine own_callV X8 hx hZ e8 hown (⟨"subjects/SearchTree", "contains", "(I)Z"⟩ : MethodName) (hw _ (List.mem_of_getElem? (i := 42) rfl)) (hw _ (List.mem_of_getElem? (i := 43) rfl)) (hw _ (List.mem_of_getElem? (i := 45) rfl)) (hw _ (List.mem_of_getElem? (i := 44) rfl)) (hw _ (List.mem_of_getElem? (i := 2) rfl)) (hw _ (List.mem_of_getElem? (i := 46) rfl)) (by decide) b1 A6 [(.int xx)] [] (rm_cont l Z a0 hw b1 xx r6 4 w6 (fun y => (fun y => (fun y => (fun y => (fun _ => False) y ∨ y = p1) y ∨ y = p2) y ∨ y = p3) y ∨ y = p4) h6 F6_root hT6) (by decide) 0 (by decide) (by decide) (by decide) rfl (by rw [hml]; rfl) (lenOf own_pd5 rfl) rfl (by show 2 * 0 + _ ≤ _; exact Nat.le_of_eq rfl) (hb hby at_160) (fun v10 h10 L10 T10 Q10 X10 e10 => ?_)
        obtain ⟨zz, rfl, rfl, rfl, hzz⟩ := Q10
        replace N := N.app (Fr.nil n0)
        show own_Run p e below _ (T10.setTop (mkF m 163 #[.val (.int p1), .val (.int p2), .val (.int p3), .val (.int p4), .val (.int p5), .val (.int p6), .val (.ref b1), .val (.int (p6 &&& (7 : Int32))), .val (.int (0 : Int32)), .val (.int rr), .val (.int (((p6.toUInt32 >>> ((3 : Int32) &&& 31).toUInt32).toInt32) &&& (7 : Int32))), .val (.int xx), .val (.int (1 : Int32)), .val (.int (1 : Int32))] [(.int zz)]))
        refine own_go (fun _ kS => XS.iload X10.here hx rfl (hb hby at_163) rfl kS) ?_
        show own_Run p e below _ (T10.setTop (mkF m 165 #[.val (.int p1), .val (.int p2), .val (.int p3), .val (.int p4), .val (.int p5), .val (.int p6), .val (.ref b1), .val (.int (p6 &&& (7 : Int32))), .val (.int (0 : Int32)), .val (.int rr), .val (.int (((p6.toUInt32 >>> ((3 : Int32) &&& 31).toUInt32).toInt32) &&& (7 : Int32))), .val (.int xx), .val (.int (1 : Int32)), .val (.int (1 : Int32))] [(.int (1 : Int32)), (.int zz)]))
        refine own_go (fun _ kS => XS.icmpNo X10.here hx rfl (hb hby at_165) rfl (teq (show zz = (1 : Int32) from (hzz.elim (fun q => q.1) (fun q => absurd (Or.inl (Or.inl (Or.inr hc110))) q.2)))).2 kS) ?_
        show own_Run p e below _ (T10.setTop (mkF m 168 #[.val (.int p1), .val (.int p2), .val (.int p3), .val (.int p4), .val (.int p5), .val (.int p6), .val (.ref b1), .val (.int (p6 &&& (7 : Int32))), .val (.int (0 : Int32)), .val (.int rr), .val (.int (((p6.toUInt32 >>> ((3 : Int32) &&& 31).toUInt32).toInt32) &&& (7 : Int32))), .val (.int xx), .val (.int (1 : Int32)), .val (.int (1 : Int32))] []))
        refine own_go (fun _ kS => XS.iconst X10.here hx rfl (hb hby at_168) kS) ?_
        show own_Run p e below _ (T10.setTop (mkF m 169 #[.val (.int p1), .val (.int p2), .val (.int p3), .val (.int p4), .val (.int p5), .val (.int p6), .val (.ref b1), .val (.int (p6 &&& (7 : Int32))), .val (.int (0 : Int32)), .val (.int rr), .val (.int (((p6.toUInt32 >>> ((3 : Int32) &&& 31).toUInt32).toInt32) &&& (7 : Int32))), .val (.int xx), .val (.int (1 : Int32)), .val (.int (1 : Int32))] [(.int (1 : Int32))]))
        refine own_go (fun _ kS => XS.goto X10.here hx rfl (pc0 := 169) (pc' := 173) rfl (hb hby at_169) (by decide) (by decide) kS) ?_
        show own_Run p e below _ (T10.setTop (mkF m 173 #[.val (.int p1), .val (.int p2), .val (.int p3), .val (.int p4), .val (.int p5), .val (.int p6), .val (.ref b1), .val (.int (p6 &&& (7 : Int32))), .val (.int (0 : Int32)), .val (.int rr), .val (.int (((p6.toUInt32 >>> ((3 : Int32) &&& 31).toUInt32).toInt32) &&& (7 : Int32))), .val (.int xx), .val (.int (1 : Int32)), .val (.int (1 : Int32))] [(.int (1 : Int32))]))
        refine own_retN X10 hx (t := .boolean) hret hlk (by simp) (hb hby at_173) (by decide) (by decide) ?_
        exact ⟨rfl, N⟩
      · refine own_go (fun _ kS => XS.icmpNo X8.here hx rfl (hb hby at_110) rfl (feq hc110).1 kS) ?_
        show own_Run p e below _ (T8.setTop (mkF m 113 #[.val (.int p1), .val (.int p2), .val (.int p3), .val (.int p4), .val (.int p5), .val (.int p6), .val (.ref b1), .val (.int (p6 &&& (7 : Int32))), .val (.int (0 : Int32)), .val (.int rr), .val (.int (((p6.toUInt32 >>> ((3 : Int32) &&& 31).toUInt32).toInt32) &&& (7 : Int32))), .val (.int xx), .unset, .unset] []))
        refine own_go (fun _ kS => XS.iload X8.here hx rfl (hb hby at_113) rfl kS) ?_
        show own_Run p e below _ (T8.setTop (mkF m 115 #[.val (.int p1), .val (.int p2), .val (.int p3), .val (.int p4), .val (.int p5), .val (.int p6), .val (.ref b1), .val (.int (p6 &&& (7 : Int32))), .val (.int (0 : Int32)), .val (.int rr), .val (.int (((p6.toUInt32 >>> ((3 : Int32) &&& 31).toUInt32).toInt32) &&& (7 : Int32))), .val (.int xx), .unset, .unset] [(.int xx)]))
        refine own_go (fun _ kS => XS.iloadN X8.here hx rfl (hb hby at_115) rfl kS) ?_
        show own_Run p e below _ (T8.setTop (mkF m 116 #[.val (.int p1), .val (.int p2), .val (.int p3), .val (.int p4), .val (.int p5), .val (.int p6), .val (.ref b1), .val (.int (p6 &&& (7 : Int32))), .val (.int (0 : Int32)), .val (.int rr), .val (.int (((p6.toUInt32 >>> ((3 : Int32) &&& 31).toUInt32).toInt32) &&& (7 : Int32))), .val (.int xx), .unset, .unset] [(.int p3), (.int xx)]))
        by_cases hc116 : xx = p3
        · refine own_go (fun _ kS => XS.icmpYes X8.here hx rfl (pc0 := 116) (pc' := 125) rfl (hb hby at_116) rfl (teq hc116).1 (by decide) (by decide) kS) ?_
          show own_Run p e below _ (T8.setTop (mkF m 125 #[.val (.int p1), .val (.int p2), .val (.int p3), .val (.int p4), .val (.int p5), .val (.int p6), .val (.ref b1), .val (.int (p6 &&& (7 : Int32))), .val (.int (0 : Int32)), .val (.int rr), .val (.int (((p6.toUInt32 >>> ((3 : Int32) &&& 31).toUInt32).toInt32) &&& (7 : Int32))), .val (.int xx), .unset, .unset] []))
          refine own_go (fun _ kS => XS.iconst X8.here hx rfl (hb hby at_125) kS) ?_
          show own_Run p e below _ (T8.setTop (mkF m 126 #[.val (.int p1), .val (.int p2), .val (.int p3), .val (.int p4), .val (.int p5), .val (.int p6), .val (.ref b1), .val (.int (p6 &&& (7 : Int32))), .val (.int (0 : Int32)), .val (.int rr), .val (.int (((p6.toUInt32 >>> ((3 : Int32) &&& 31).toUInt32).toInt32) &&& (7 : Int32))), .val (.int xx), .unset, .unset] [(.int (1 : Int32))]))
          refine own_go (fun _ kS => XS.goto X8.here hx rfl (pc0 := 126) (pc' := 130) rfl (hb hby at_126) (by decide) (by decide) kS) ?_
          show own_Run p e below _ (T8.setTop (mkF m 130 #[.val (.int p1), .val (.int p2), .val (.int p3), .val (.int p4), .val (.int p5), .val (.int p6), .val (.ref b1), .val (.int (p6 &&& (7 : Int32))), .val (.int (0 : Int32)), .val (.int rr), .val (.int (((p6.toUInt32 >>> ((3 : Int32) &&& 31).toUInt32).toInt32) &&& (7 : Int32))), .val (.int xx), .unset, .unset] [(.int (1 : Int32))]))
          refine own_go (fun _ kS => XS.istore X8.here hx rfl (hb hby at_130) rfl (l' := #[.val (.int p1), .val (.int p2), .val (.int p3), .val (.int p4), .val (.int p5), .val (.int p6), .val (.ref b1), .val (.int (p6 &&& (7 : Int32))), .val (.int (0 : Int32)), .val (.int rr), .val (.int (((p6.toUInt32 >>> ((3 : Int32) &&& 31).toUInt32).toInt32) &&& (7 : Int32))), .val (.int xx), .val (.int (1 : Int32)), .unset]) rfl kS) ?_
          show own_Run p e below _ (T8.setTop (mkF m 132 #[.val (.int p1), .val (.int p2), .val (.int p3), .val (.int p4), .val (.int p5), .val (.int p6), .val (.ref b1), .val (.int (p6 &&& (7 : Int32))), .val (.int (0 : Int32)), .val (.int rr), .val (.int (((p6.toUInt32 >>> ((3 : Int32) &&& 31).toUInt32).toInt32) &&& (7 : Int32))), .val (.int xx), .val (.int (1 : Int32)), .unset] []))
          refine own_go (fun _ kS => XS.iload X8.here hx rfl (hb hby at_132) rfl kS) ?_
          show own_Run p e below _ (T8.setTop (mkF m 134 #[.val (.int p1), .val (.int p2), .val (.int p3), .val (.int p4), .val (.int p5), .val (.int p6), .val (.ref b1), .val (.int (p6 &&& (7 : Int32))), .val (.int (0 : Int32)), .val (.int rr), .val (.int (((p6.toUInt32 >>> ((3 : Int32) &&& 31).toUInt32).toInt32) &&& (7 : Int32))), .val (.int xx), .val (.int (1 : Int32)), .unset] [(.int (1 : Int32))]))
          refine own_go (fun _ kS => XS.ifNo X8.here hx rfl (hb hby at_134) rfl ((if0 _ _).trans (feq (show ¬ ((1 : Int32) = (0 : Int32)) from (by decide))).1) kS) ?_
          show own_Run p e below _ (T8.setTop (mkF m 137 #[.val (.int p1), .val (.int p2), .val (.int p3), .val (.int p4), .val (.int p5), .val (.int p6), .val (.ref b1), .val (.int (p6 &&& (7 : Int32))), .val (.int (0 : Int32)), .val (.int rr), .val (.int (((p6.toUInt32 >>> ((3 : Int32) &&& 31).toUInt32).toInt32) &&& (7 : Int32))), .val (.int xx), .val (.int (1 : Int32)), .unset] []))
          refine own_go (fun _ kS => XS.iload X8.here hx rfl (hb hby at_137) rfl kS) ?_
          show own_Run p e below _ (T8.setTop (mkF m 139 #[.val (.int p1), .val (.int p2), .val (.int p3), .val (.int p4), .val (.int p5), .val (.int p6), .val (.ref b1), .val (.int (p6 &&& (7 : Int32))), .val (.int (0 : Int32)), .val (.int rr), .val (.int (((p6.toUInt32 >>> ((3 : Int32) &&& 31).toUInt32).toInt32) &&& (7 : Int32))), .val (.int xx), .val (.int (1 : Int32)), .unset] [(.int (0 : Int32))]))
          refine own_go (fun _ kS => XS.ifYes X8.here hx rfl (pc0 := 139) (pc' := 149) rfl (hb hby at_139) rfl ((if0 _ _).trans (teq (show (0 : Int32) = (0 : Int32) from (rfl))).1) (by decide) (by decide) kS) ?_
          show own_Run p e below _ (T8.setTop (mkF m 149 #[.val (.int p1), .val (.int p2), .val (.int p3), .val (.int p4), .val (.int p5), .val (.int p6), .val (.ref b1), .val (.int (p6 &&& (7 : Int32))), .val (.int (0 : Int32)), .val (.int rr), .val (.int (((p6.toUInt32 >>> ((3 : Int32) &&& 31).toUInt32).toInt32) &&& (7 : Int32))), .val (.int xx), .val (.int (1 : Int32)), .unset] []))
          refine own_go (fun _ kS => XS.iconst X8.here hx rfl (hb hby at_149) kS) ?_
          show own_Run p e below _ (T8.setTop (mkF m 150 #[.val (.int p1), .val (.int p2), .val (.int p3), .val (.int p4), .val (.int p5), .val (.int p6), .val (.ref b1), .val (.int (p6 &&& (7 : Int32))), .val (.int (0 : Int32)), .val (.int rr), .val (.int (((p6.toUInt32 >>> ((3 : Int32) &&& 31).toUInt32).toInt32) &&& (7 : Int32))), .val (.int xx), .val (.int (1 : Int32)), .unset] [(.int (1 : Int32))]))
          refine own_go (fun _ kS => XS.goto X8.here hx rfl (pc0 := 150) (pc' := 154) rfl (hb hby at_150) (by decide) (by decide) kS) ?_
          show own_Run p e below _ (T8.setTop (mkF m 154 #[.val (.int p1), .val (.int p2), .val (.int p3), .val (.int p4), .val (.int p5), .val (.int p6), .val (.ref b1), .val (.int (p6 &&& (7 : Int32))), .val (.int (0 : Int32)), .val (.int rr), .val (.int (((p6.toUInt32 >>> ((3 : Int32) &&& 31).toUInt32).toInt32) &&& (7 : Int32))), .val (.int xx), .val (.int (1 : Int32)), .unset] [(.int (1 : Int32))]))
          refine own_go (fun _ kS => XS.istore X8.here hx rfl (hb hby at_154) rfl (l' := #[.val (.int p1), .val (.int p2), .val (.int p3), .val (.int p4), .val (.int p5), .val (.int p6), .val (.ref b1), .val (.int (p6 &&& (7 : Int32))), .val (.int (0 : Int32)), .val (.int rr), .val (.int (((p6.toUInt32 >>> ((3 : Int32) &&& 31).toUInt32).toInt32) &&& (7 : Int32))), .val (.int xx), .val (.int (1 : Int32)), .val (.int (1 : Int32))]) rfl kS) ?_
          show own_Run p e below _ (T8.setTop (mkF m 156 #[.val (.int p1), .val (.int p2), .val (.int p3), .val (.int p4), .val (.int p5), .val (.int p6), .val (.ref b1), .val (.int (p6 &&& (7 : Int32))), .val (.int (0 : Int32)), .val (.int rr), .val (.int (((p6.toUInt32 >>> ((3 : Int32) &&& 31).toUInt32).toInt32) &&& (7 : Int32))), .val (.int xx), .val (.int (1 : Int32)), .val (.int (1 : Int32))] []))
          refine own_go (fun _ kS => XS.aload X8.here hx rfl (hb hby at_156) rfl rfl kS) ?_
          show own_Run p e below _ (T8.setTop (mkF m 158 #[.val (.int p1), .val (.int p2), .val (.int p3), .val (.int p4), .val (.int p5), .val (.int p6), .val (.ref b1), .val (.int (p6 &&& (7 : Int32))), .val (.int (0 : Int32)), .val (.int rr), .val (.int (((p6.toUInt32 >>> ((3 : Int32) &&& 31).toUInt32).toInt32) &&& (7 : Int32))), .val (.int xx), .val (.int (1 : Int32)), .val (.int (1 : Int32))] [(.ref b1)]))
          refine own_go (fun _ kS => XS.iload X8.here hx rfl (hb hby at_158) rfl kS) ?_
          show own_Run p e below _ (T8.setTop (mkF m 160 #[.val (.int p1), .val (.int p2), .val (.int p3), .val (.int p4), .val (.int p5), .val (.int p6), .val (.ref b1), .val (.int (p6 &&& (7 : Int32))), .val (.int (0 : Int32)), .val (.int rr), .val (.int (((p6.toUInt32 >>> ((3 : Int32) &&& 31).toUInt32).toInt32) &&& (7 : Int32))), .val (.int xx), .val (.int (1 : Int32)), .val (.int (1 : Int32))] [(.int xx), (.ref b1)]))
          refine own_callV X8 hx hZ e8 hown (⟨"subjects/SearchTree", "contains", "(I)Z"⟩ : MethodName) (hw _ (List.mem_of_getElem? (i := 42) rfl)) (hw _ (List.mem_of_getElem? (i := 43) rfl)) (hw _ (List.mem_of_getElem? (i := 45) rfl)) (hw _ (List.mem_of_getElem? (i := 44) rfl)) (hw _ (List.mem_of_getElem? (i := 2) rfl)) (hw _ (List.mem_of_getElem? (i := 46) rfl)) (by decide) b1 A6 [(.int xx)] [] (rm_cont l Z a0 hw b1 xx r6 4 w6 (fun y => (fun y => (fun y => (fun y => (fun _ => False) y ∨ y = p1) y ∨ y = p2) y ∨ y = p3) y ∨ y = p4) h6 F6_root hT6) (by decide) 0 (by decide) (by decide) (by decide) rfl (by rw [hml]; rfl) (lenOf own_pd5 rfl) rfl (by show 2 * 0 + _ ≤ _; exact Nat.le_of_eq rfl) (hb hby at_160) (fun v11 h11 L11 T11 Q11 X11 e11 => ?_)
          obtain ⟨zz, rfl, rfl, rfl, hzz⟩ := Q11
          replace N := N.app (Fr.nil n0)
          show own_Run p e below _ (T11.setTop (mkF m 163 #[.val (.int p1), .val (.int p2), .val (.int p3), .val (.int p4), .val (.int p5), .val (.int p6), .val (.ref b1), .val (.int (p6 &&& (7 : Int32))), .val (.int (0 : Int32)), .val (.int rr), .val (.int (((p6.toUInt32 >>> ((3 : Int32) &&& 31).toUInt32).toInt32) &&& (7 : Int32))), .val (.int xx), .val (.int (1 : Int32)), .val (.int (1 : Int32))] [(.int zz)]))
          refine own_go (fun _ kS => XS.iload X11.here hx rfl (hb hby at_163) rfl kS) ?_
          show own_Run p e below _ (T11.setTop (mkF m 165 #[.val (.int p1), .val (.int p2), .val (.int p3), .val (.int p4), .val (.int p5), .val (.int p6), .val (.ref b1), .val (.int (p6 &&& (7 : Int32))), .val (.int (0 : Int32)), .val (.int rr), .val (.int (((p6.toUInt32 >>> ((3 : Int32) &&& 31).toUInt32).toInt32) &&& (7 : Int32))), .val (.int xx), .val (.int (1 : Int32)), .val (.int (1 : Int32))] [(.int (1 : Int32)), (.int zz)]))
          refine own_go (fun _ kS => XS.icmpNo X11.here hx rfl (hb hby at_165) rfl (teq (show zz = (1 : Int32) from (hzz.elim (fun q => q.1) (fun q => absurd (Or.inl (Or.inr hc116)) q.2)))).2 kS) ?_
          show own_Run p e below _ (T11.setTop (mkF m 168 #[.val (.int p1), .val (.int p2), .val (.int p3), .val (.int p4), .val (.int p5), .val (.int p6), .val (.ref b1), .val (.int (p6 &&& (7 : Int32))), .val (.int (0 : Int32)), .val (.int rr), .val (.int (((p6.toUInt32 >>> ((3 : Int32) &&& 31).toUInt32).toInt32) &&& (7 : Int32))), .val (.int xx), .val (.int (1 : Int32)), .val (.int (1 : Int32))] []))
          refine own_go (fun _ kS => XS.iconst X11.here hx rfl (hb hby at_168) kS) ?_
          show own_Run p e below _ (T11.setTop (mkF m 169 #[.val (.int p1), .val (.int p2), .val (.int p3), .val (.int p4), .val (.int p5), .val (.int p6), .val (.ref b1), .val (.int (p6 &&& (7 : Int32))), .val (.int (0 : Int32)), .val (.int rr), .val (.int (((p6.toUInt32 >>> ((3 : Int32) &&& 31).toUInt32).toInt32) &&& (7 : Int32))), .val (.int xx), .val (.int (1 : Int32)), .val (.int (1 : Int32))] [(.int (1 : Int32))]))
          refine own_go (fun _ kS => XS.goto X11.here hx rfl (pc0 := 169) (pc' := 173) rfl (hb hby at_169) (by decide) (by decide) kS) ?_
          show own_Run p e below _ (T11.setTop (mkF m 173 #[.val (.int p1), .val (.int p2), .val (.int p3), .val (.int p4), .val (.int p5), .val (.int p6), .val (.ref b1), .val (.int (p6 &&& (7 : Int32))), .val (.int (0 : Int32)), .val (.int rr), .val (.int (((p6.toUInt32 >>> ((3 : Int32) &&& 31).toUInt32).toInt32) &&& (7 : Int32))), .val (.int xx), .val (.int (1 : Int32)), .val (.int (1 : Int32))] [(.int (1 : Int32))]))
          refine own_retN X11 hx (t := .boolean) hret hlk (by simp) (hb hby at_173) (by decide) (by decide) ?_
          exact ⟨rfl, N⟩
        · refine own_go (fun _ kS => XS.icmpNo X8.here hx rfl (hb hby at_116) rfl (feq hc116).1 kS) ?_
          show own_Run p e below _ (T8.setTop (mkF m 119 #[.val (.int p1), .val (.int p2), .val (.int p3), .val (.int p4), .val (.int p5), .val (.int p6), .val (.ref b1), .val (.int (p6 &&& (7 : Int32))), .val (.int (0 : Int32)), .val (.int rr), .val (.int (((p6.toUInt32 >>> ((3 : Int32) &&& 31).toUInt32).toInt32) &&& (7 : Int32))), .val (.int xx), .unset, .unset] []))
          refine own_go (fun _ kS => XS.iload X8.here hx rfl (hb hby at_119) rfl kS) ?_
          show own_Run p e below _ (T8.setTop (mkF m 121 #[.val (.int p1), .val (.int p2), .val (.int p3), .val (.int p4), .val (.int p5), .val (.int p6), .val (.ref b1), .val (.int (p6 &&& (7 : Int32))), .val (.int (0 : Int32)), .val (.int rr), .val (.int (((p6.toUInt32 >>> ((3 : Int32) &&& 31).toUInt32).toInt32) &&& (7 : Int32))), .val (.int xx), .unset, .unset] [(.int xx)]))
          refine own_go (fun _ kS => XS.iloadN X8.here hx rfl (hb hby at_121) rfl kS) ?_
          show own_Run p e below _ (T8.setTop (mkF m 122 #[.val (.int p1), .val (.int p2), .val (.int p3), .val (.int p4), .val (.int p5), .val (.int p6), .val (.ref b1), .val (.int (p6 &&& (7 : Int32))), .val (.int (0 : Int32)), .val (.int rr), .val (.int (((p6.toUInt32 >>> ((3 : Int32) &&& 31).toUInt32).toInt32) &&& (7 : Int32))), .val (.int xx), .unset, .unset] [(.int p4), (.int xx)]))
          by_cases hc122 : xx = p4
          · refine own_go (fun _ kS => XS.icmpNo X8.here hx rfl (hb hby at_122) rfl (teq hc122).2 kS) ?_
            show own_Run p e below _ (T8.setTop (mkF m 125 #[.val (.int p1), .val (.int p2), .val (.int p3), .val (.int p4), .val (.int p5), .val (.int p6), .val (.ref b1), .val (.int (p6 &&& (7 : Int32))), .val (.int (0 : Int32)), .val (.int rr), .val (.int (((p6.toUInt32 >>> ((3 : Int32) &&& 31).toUInt32).toInt32) &&& (7 : Int32))), .val (.int xx), .unset, .unset] []))
            refine own_go (fun _ kS => XS.iconst X8.here hx rfl (hb hby at_125) kS) ?_
            show own_Run p e below _ (T8.setTop (mkF m 126 #[.val (.int p1), .val (.int p2), .val (.int p3), .val (.int p4), .val (.int p5), .val (.int p6), .val (.ref b1), .val (.int (p6 &&& (7 : Int32))), .val (.int (0 : Int32)), .val (.int rr), .val (.int (((p6.toUInt32 >>> ((3 : Int32) &&& 31).toUInt32).toInt32) &&& (7 : Int32))), .val (.int xx), .unset, .unset] [(.int (1 : Int32))]))
            refine own_go (fun _ kS => XS.goto X8.here hx rfl (pc0 := 126) (pc' := 130) rfl (hb hby at_126) (by decide) (by decide) kS) ?_
            show own_Run p e below _ (T8.setTop (mkF m 130 #[.val (.int p1), .val (.int p2), .val (.int p3), .val (.int p4), .val (.int p5), .val (.int p6), .val (.ref b1), .val (.int (p6 &&& (7 : Int32))), .val (.int (0 : Int32)), .val (.int rr), .val (.int (((p6.toUInt32 >>> ((3 : Int32) &&& 31).toUInt32).toInt32) &&& (7 : Int32))), .val (.int xx), .unset, .unset] [(.int (1 : Int32))]))
            refine own_go (fun _ kS => XS.istore X8.here hx rfl (hb hby at_130) rfl (l' := #[.val (.int p1), .val (.int p2), .val (.int p3), .val (.int p4), .val (.int p5), .val (.int p6), .val (.ref b1), .val (.int (p6 &&& (7 : Int32))), .val (.int (0 : Int32)), .val (.int rr), .val (.int (((p6.toUInt32 >>> ((3 : Int32) &&& 31).toUInt32).toInt32) &&& (7 : Int32))), .val (.int xx), .val (.int (1 : Int32)), .unset]) rfl kS) ?_
            show own_Run p e below _ (T8.setTop (mkF m 132 #[.val (.int p1), .val (.int p2), .val (.int p3), .val (.int p4), .val (.int p5), .val (.int p6), .val (.ref b1), .val (.int (p6 &&& (7 : Int32))), .val (.int (0 : Int32)), .val (.int rr), .val (.int (((p6.toUInt32 >>> ((3 : Int32) &&& 31).toUInt32).toInt32) &&& (7 : Int32))), .val (.int xx), .val (.int (1 : Int32)), .unset] []))
            refine own_go (fun _ kS => XS.iload X8.here hx rfl (hb hby at_132) rfl kS) ?_
            show own_Run p e below _ (T8.setTop (mkF m 134 #[.val (.int p1), .val (.int p2), .val (.int p3), .val (.int p4), .val (.int p5), .val (.int p6), .val (.ref b1), .val (.int (p6 &&& (7 : Int32))), .val (.int (0 : Int32)), .val (.int rr), .val (.int (((p6.toUInt32 >>> ((3 : Int32) &&& 31).toUInt32).toInt32) &&& (7 : Int32))), .val (.int xx), .val (.int (1 : Int32)), .unset] [(.int (1 : Int32))]))
            refine own_go (fun _ kS => XS.ifNo X8.here hx rfl (hb hby at_134) rfl ((if0 _ _).trans (feq (show ¬ ((1 : Int32) = (0 : Int32)) from (by decide))).1) kS) ?_
            show own_Run p e below _ (T8.setTop (mkF m 137 #[.val (.int p1), .val (.int p2), .val (.int p3), .val (.int p4), .val (.int p5), .val (.int p6), .val (.ref b1), .val (.int (p6 &&& (7 : Int32))), .val (.int (0 : Int32)), .val (.int rr), .val (.int (((p6.toUInt32 >>> ((3 : Int32) &&& 31).toUInt32).toInt32) &&& (7 : Int32))), .val (.int xx), .val (.int (1 : Int32)), .unset] []))
            refine own_go (fun _ kS => XS.iload X8.here hx rfl (hb hby at_137) rfl kS) ?_
            show own_Run p e below _ (T8.setTop (mkF m 139 #[.val (.int p1), .val (.int p2), .val (.int p3), .val (.int p4), .val (.int p5), .val (.int p6), .val (.ref b1), .val (.int (p6 &&& (7 : Int32))), .val (.int (0 : Int32)), .val (.int rr), .val (.int (((p6.toUInt32 >>> ((3 : Int32) &&& 31).toUInt32).toInt32) &&& (7 : Int32))), .val (.int xx), .val (.int (1 : Int32)), .unset] [(.int (0 : Int32))]))
            refine own_go (fun _ kS => XS.ifYes X8.here hx rfl (pc0 := 139) (pc' := 149) rfl (hb hby at_139) rfl ((if0 _ _).trans (teq (show (0 : Int32) = (0 : Int32) from (rfl))).1) (by decide) (by decide) kS) ?_
            show own_Run p e below _ (T8.setTop (mkF m 149 #[.val (.int p1), .val (.int p2), .val (.int p3), .val (.int p4), .val (.int p5), .val (.int p6), .val (.ref b1), .val (.int (p6 &&& (7 : Int32))), .val (.int (0 : Int32)), .val (.int rr), .val (.int (((p6.toUInt32 >>> ((3 : Int32) &&& 31).toUInt32).toInt32) &&& (7 : Int32))), .val (.int xx), .val (.int (1 : Int32)), .unset] []))
            refine own_go (fun _ kS => XS.iconst X8.here hx rfl (hb hby at_149) kS) ?_
            show own_Run p e below _ (T8.setTop (mkF m 150 #[.val (.int p1), .val (.int p2), .val (.int p3), .val (.int p4), .val (.int p5), .val (.int p6), .val (.ref b1), .val (.int (p6 &&& (7 : Int32))), .val (.int (0 : Int32)), .val (.int rr), .val (.int (((p6.toUInt32 >>> ((3 : Int32) &&& 31).toUInt32).toInt32) &&& (7 : Int32))), .val (.int xx), .val (.int (1 : Int32)), .unset] [(.int (1 : Int32))]))
            refine own_go (fun _ kS => XS.goto X8.here hx rfl (pc0 := 150) (pc' := 154) rfl (hb hby at_150) (by decide) (by decide) kS) ?_
            show own_Run p e below _ (T8.setTop (mkF m 154 #[.val (.int p1), .val (.int p2), .val (.int p3), .val (.int p4), .val (.int p5), .val (.int p6), .val (.ref b1), .val (.int (p6 &&& (7 : Int32))), .val (.int (0 : Int32)), .val (.int rr), .val (.int (((p6.toUInt32 >>> ((3 : Int32) &&& 31).toUInt32).toInt32) &&& (7 : Int32))), .val (.int xx), .val (.int (1 : Int32)), .unset] [(.int (1 : Int32))]))
            refine own_go (fun _ kS => XS.istore X8.here hx rfl (hb hby at_154) rfl (l' := #[.val (.int p1), .val (.int p2), .val (.int p3), .val (.int p4), .val (.int p5), .val (.int p6), .val (.ref b1), .val (.int (p6 &&& (7 : Int32))), .val (.int (0 : Int32)), .val (.int rr), .val (.int (((p6.toUInt32 >>> ((3 : Int32) &&& 31).toUInt32).toInt32) &&& (7 : Int32))), .val (.int xx), .val (.int (1 : Int32)), .val (.int (1 : Int32))]) rfl kS) ?_
            show own_Run p e below _ (T8.setTop (mkF m 156 #[.val (.int p1), .val (.int p2), .val (.int p3), .val (.int p4), .val (.int p5), .val (.int p6), .val (.ref b1), .val (.int (p6 &&& (7 : Int32))), .val (.int (0 : Int32)), .val (.int rr), .val (.int (((p6.toUInt32 >>> ((3 : Int32) &&& 31).toUInt32).toInt32) &&& (7 : Int32))), .val (.int xx), .val (.int (1 : Int32)), .val (.int (1 : Int32))] []))
            refine own_go (fun _ kS => XS.aload X8.here hx rfl (hb hby at_156) rfl rfl kS) ?_
            show own_Run p e below _ (T8.setTop (mkF m 158 #[.val (.int p1), .val (.int p2), .val (.int p3), .val (.int p4), .val (.int p5), .val (.int p6), .val (.ref b1), .val (.int (p6 &&& (7 : Int32))), .val (.int (0 : Int32)), .val (.int rr), .val (.int (((p6.toUInt32 >>> ((3 : Int32) &&& 31).toUInt32).toInt32) &&& (7 : Int32))), .val (.int xx), .val (.int (1 : Int32)), .val (.int (1 : Int32))] [(.ref b1)]))
            refine own_go (fun _ kS => XS.iload X8.here hx rfl (hb hby at_158) rfl kS) ?_
            show own_Run p e below _ (T8.setTop (mkF m 160 #[.val (.int p1), .val (.int p2), .val (.int p3), .val (.int p4), .val (.int p5), .val (.int p6), .val (.ref b1), .val (.int (p6 &&& (7 : Int32))), .val (.int (0 : Int32)), .val (.int rr), .val (.int (((p6.toUInt32 >>> ((3 : Int32) &&& 31).toUInt32).toInt32) &&& (7 : Int32))), .val (.int xx), .val (.int (1 : Int32)), .val (.int (1 : Int32))] [(.int xx), (.ref b1)]))
            refine own_callV X8 hx hZ e8 hown (⟨"subjects/SearchTree", "contains", "(I)Z"⟩ : MethodName) (hw _ (List.mem_of_getElem? (i := 42) rfl)) (hw _ (List.mem_of_getElem? (i := 43) rfl)) (hw _ (List.mem_of_getElem? (i := 45) rfl)) (hw _ (List.mem_of_getElem? (i := 44) rfl)) (hw _ (List.mem_of_getElem? (i := 2) rfl)) (hw _ (List.mem_of_getElem? (i := 46) rfl)) (by decide) b1 A6 [(.int xx)] [] (rm_cont l Z a0 hw b1 xx r6 4 w6 (fun y => (fun y => (fun y => (fun y => (fun _ => False) y ∨ y = p1) y ∨ y = p2) y ∨ y = p3) y ∨ y = p4) h6 F6_root hT6) (by decide) 0 (by decide) (by decide) (by decide) rfl (by rw [hml]; rfl) (lenOf own_pd5 rfl) rfl (by show 2 * 0 + _ ≤ _; exact Nat.le_of_eq rfl) (hb hby at_160) (fun v12 h12 L12 T12 Q12 X12 e12 => ?_)
            obtain ⟨zz, rfl, rfl, rfl, hzz⟩ := Q12
            replace N := N.app (Fr.nil n0)
            show own_Run p e below _ (T12.setTop (mkF m 163 #[.val (.int p1), .val (.int p2), .val (.int p3), .val (.int p4), .val (.int p5), .val (.int p6), .val (.ref b1), .val (.int (p6 &&& (7 : Int32))), .val (.int (0 : Int32)), .val (.int rr), .val (.int (((p6.toUInt32 >>> ((3 : Int32) &&& 31).toUInt32).toInt32) &&& (7 : Int32))), .val (.int xx), .val (.int (1 : Int32)), .val (.int (1 : Int32))] [(.int zz)]))
            refine own_go (fun _ kS => XS.iload X12.here hx rfl (hb hby at_163) rfl kS) ?_
            show own_Run p e below _ (T12.setTop (mkF m 165 #[.val (.int p1), .val (.int p2), .val (.int p3), .val (.int p4), .val (.int p5), .val (.int p6), .val (.ref b1), .val (.int (p6 &&& (7 : Int32))), .val (.int (0 : Int32)), .val (.int rr), .val (.int (((p6.toUInt32 >>> ((3 : Int32) &&& 31).toUInt32).toInt32) &&& (7 : Int32))), .val (.int xx), .val (.int (1 : Int32)), .val (.int (1 : Int32))] [(.int (1 : Int32)), (.int zz)]))
            refine own_go (fun _ kS => XS.icmpNo X12.here hx rfl (hb hby at_165) rfl (teq (show zz = (1 : Int32) from (hzz.elim (fun q => q.1) (fun q => absurd (Or.inr hc122) q.2)))).2 kS) ?_
            show own_Run p e below _ (T12.setTop (mkF m 168 #[.val (.int p1), .val (.int p2), .val (.int p3), .val (.int p4), .val (.int p5), .val (.int p6), .val (.ref b1), .val (.int (p6 &&& (7 : Int32))), .val (.int (0 : Int32)), .val (.int rr), .val (.int (((p6.toUInt32 >>> ((3 : Int32) &&& 31).toUInt32).toInt32) &&& (7 : Int32))), .val (.int xx), .val (.int (1 : Int32)), .val (.int (1 : Int32))] []))
            refine own_go (fun _ kS => XS.iconst X12.here hx rfl (hb hby at_168) kS) ?_
            show own_Run p e below _ (T12.setTop (mkF m 169 #[.val (.int p1), .val (.int p2), .val (.int p3), .val (.int p4), .val (.int p5), .val (.int p6), .val (.ref b1), .val (.int (p6 &&& (7 : Int32))), .val (.int (0 : Int32)), .val (.int rr), .val (.int (((p6.toUInt32 >>> ((3 : Int32) &&& 31).toUInt32).toInt32) &&& (7 : Int32))), .val (.int xx), .val (.int (1 : Int32)), .val (.int (1 : Int32))] [(.int (1 : Int32))]))
            refine own_go (fun _ kS => XS.goto X12.here hx rfl (pc0 := 169) (pc' := 173) rfl (hb hby at_169) (by decide) (by decide) kS) ?_
            show own_Run p e below _ (T12.setTop (mkF m 173 #[.val (.int p1), .val (.int p2), .val (.int p3), .val (.int p4), .val (.int p5), .val (.int p6), .val (.ref b1), .val (.int (p6 &&& (7 : Int32))), .val (.int (0 : Int32)), .val (.int rr), .val (.int (((p6.toUInt32 >>> ((3 : Int32) &&& 31).toUInt32).toInt32) &&& (7 : Int32))), .val (.int xx), .val (.int (1 : Int32)), .val (.int (1 : Int32))] [(.int (1 : Int32))]))
            refine own_retN X12 hx (t := .boolean) hret hlk (by simp) (hb hby at_173) (by decide) (by decide) ?_
            exact ⟨rfl, N⟩
          · refine own_go (fun _ kS => XS.icmpYes X8.here hx rfl (pc0 := 122) (pc' := 129) rfl (hb hby at_122) rfl (feq hc122).2 (by decide) (by decide) kS) ?_
            show own_Run p e below _ (T8.setTop (mkF m 129 #[.val (.int p1), .val (.int p2), .val (.int p3), .val (.int p4), .val (.int p5), .val (.int p6), .val (.ref b1), .val (.int (p6 &&& (7 : Int32))), .val (.int (0 : Int32)), .val (.int rr), .val (.int (((p6.toUInt32 >>> ((3 : Int32) &&& 31).toUInt32).toInt32) &&& (7 : Int32))), .val (.int xx), .unset, .unset] []))
            refine own_go (fun _ kS => XS.iconst X8.here hx rfl (hb hby at_129) kS) ?_
            show own_Run p e below _ (T8.setTop (mkF m 130 #[.val (.int p1), .val (.int p2), .val (.int p3), .val (.int p4), .val (.int p5), .val (.int p6), .val (.ref b1), .val (.int (p6 &&& (7 : Int32))), .val (.int (0 : Int32)), .val (.int rr), .val (.int (((p6.toUInt32 >>> ((3 : Int32) &&& 31).toUInt32).toInt32) &&& (7 : Int32))), .val (.int xx), .unset, .unset] [(.int (0 : Int32))]))
            refine own_go (fun _ kS => XS.istore X8.here hx rfl (hb hby at_130) rfl (l' := #[.val (.int p1), .val (.int p2), .val (.int p3), .val (.int p4), .val (.int p5), .val (.int p6), .val (.ref b1), .val (.int (p6 &&& (7 : Int32))), .val (.int (0 : Int32)), .val (.int rr), .val (.int (((p6.toUInt32 >>> ((3 : Int32) &&& 31).toUInt32).toInt32) &&& (7 : Int32))), .val (.int xx), .val (.int (0 : Int32)), .unset]) rfl kS) ?_
            show own_Run p e below _ (T8.setTop (mkF m 132 #[.val (.int p1), .val (.int p2), .val (.int p3), .val (.int p4), .val (.int p5), .val (.int p6), .val (.ref b1), .val (.int (p6 &&& (7 : Int32))), .val (.int (0 : Int32)), .val (.int rr), .val (.int (((p6.toUInt32 >>> ((3 : Int32) &&& 31).toUInt32).toInt32) &&& (7 : Int32))), .val (.int xx), .val (.int (0 : Int32)), .unset] []))
            refine own_go (fun _ kS => XS.iload X8.here hx rfl (hb hby at_132) rfl kS) ?_
            show own_Run p e below _ (T8.setTop (mkF m 134 #[.val (.int p1), .val (.int p2), .val (.int p3), .val (.int p4), .val (.int p5), .val (.int p6), .val (.ref b1), .val (.int (p6 &&& (7 : Int32))), .val (.int (0 : Int32)), .val (.int rr), .val (.int (((p6.toUInt32 >>> ((3 : Int32) &&& 31).toUInt32).toInt32) &&& (7 : Int32))), .val (.int xx), .val (.int (0 : Int32)), .unset] [(.int (0 : Int32))]))
            refine own_go (fun _ kS => XS.ifYes X8.here hx rfl (pc0 := 134) (pc' := 153) rfl (hb hby at_134) rfl ((if0 _ _).trans (teq (show (0 : Int32) = (0 : Int32) from (rfl))).1) (by decide) (by decide) kS) ?_
            show own_Run p e below _ (T8.setTop (mkF m 153 #[.val (.int p1), .val (.int p2), .val (.int p3), .val (.int p4), .val (.int p5), .val (.int p6), .val (.ref b1), .val (.int (p6 &&& (7 : Int32))), .val (.int (0 : Int32)), .val (.int rr), .val (.int (((p6.toUInt32 >>> ((3 : Int32) &&& 31).toUInt32).toInt32) &&& (7 : Int32))), .val (.int xx), .val (.int (0 : Int32)), .unset] []))
            refine own_go (fun _ kS => XS.iconst X8.here hx rfl (hb hby at_153) kS) ?_
            show own_Run p e below _ (T8.setTop (mkF m 154 #[.val (.int p1), .val (.int p2), .val (.int p3), .val (.int p4), .val (.int p5), .val (.int p6), .val (.ref b1), .val (.int (p6 &&& (7 : Int32))), .val (.int (0 : Int32)), .val (.int rr), .val (.int (((p6.toUInt32 >>> ((3 : Int32) &&& 31).toUInt32).toInt32) &&& (7 : Int32))), .val (.int xx), .val (.int (0 : Int32)), .unset] [(.int (0 : Int32))]))
            refine own_go (fun _ kS => XS.istore X8.here hx rfl (hb hby at_154) rfl (l' := #[.val (.int p1), .val (.int p2), .val (.int p3), .val (.int p4), .val (.int p5), .val (.int p6), .val (.ref b1), .val (.int (p6 &&& (7 : Int32))), .val (.int (0 : Int32)), .val (.int rr), .val (.int (((p6.toUInt32 >>> ((3 : Int32) &&& 31).toUInt32).toInt32) &&& (7 : Int32))), .val (.int xx), .val (.int (0 : Int32)), .val (.int (0 : Int32))]) rfl kS) ?_
            show own_Run p e below _ (T8.setTop (mkF m 156 #[.val (.int p1), .val (.int p2), .val (.int p3), .val (.int p4), .val (.int p5), .val (.int p6), .val (.ref b1), .val (.int (p6 &&& (7 : Int32))), .val (.int (0 : Int32)), .val (.int rr), .val (.int (((p6.toUInt32 >>> ((3 : Int32) &&& 31).toUInt32).toInt32) &&& (7 : Int32))), .val (.int xx), .val (.int (0 : Int32)), .val (.int (0 : Int32))] []))
            refine own_go (fun _ kS => XS.aload X8.here hx rfl (hb hby at_156) rfl rfl kS) ?_
            show own_Run p e below _ (T8.setTop (mkF m 158 #[.val (.int p1), .val (.int p2), .val (.int p3), .val (.int p4), .val (.int p5), .val (.int p6), .val (.ref b1), .val (.int (p6 &&& (7 : Int32))), .val (.int (0 : Int32)), .val (.int rr), .val (.int (((p6.toUInt32 >>> ((3 : Int32) &&& 31).toUInt32).toInt32) &&& (7 : Int32))), .val (.int xx), .val (.int (0 : Int32)), .val (.int (0 : Int32))] [(.ref b1)]))
            refine own_go (fun _ kS => XS.iload X8.here hx rfl (hb hby at_158) rfl kS) ?_
            show own_Run p e below _ (T8.setTop (mkF m 160 #[.val (.int p1), .val (.int p2), .val (.int p3), .val (.int p4), .val (.int p5), .val (.int p6), .val (.ref b1), .val (.int (p6 &&& (7 : Int32))), .val (.int (0 : Int32)), .val (.int rr), .val (.int (((p6.toUInt32 >>> ((3 : Int32) &&& 31).toUInt32).toInt32) &&& (7 : Int32))), .val (.int xx), .val (.int (0 : Int32)), .val (.int (0 : Int32))] [(.int xx), (.ref b1)]))
            refine own_callV X8 hx hZ e8 hown (⟨"subjects/SearchTree", "contains", "(I)Z"⟩ : MethodName) (hw _ (List.mem_of_getElem? (i := 42) rfl)) (hw _ (List.mem_of_getElem? (i := 43) rfl)) (hw _ (List.mem_of_getElem? (i := 45) rfl)) (hw _ (List.mem_of_getElem? (i := 44) rfl)) (hw _ (List.mem_of_getElem? (i := 2) rfl)) (hw _ (List.mem_of_getElem? (i := 46) rfl)) (by decide) b1 A6 [(.int xx)] [] (rm_cont l Z a0 hw b1 xx r6 4 w6 (fun y => (fun y => (fun y => (fun y => (fun _ => False) y ∨ y = p1) y ∨ y = p2) y ∨ y = p3) y ∨ y = p4) h6 F6_root hT6) (by decide) 0 (by decide) (by decide) (by decide) rfl (by rw [hml]; rfl) (lenOf own_pd5 rfl) rfl (by show 2 * 0 + _ ≤ _; exact Nat.le_of_eq rfl) (hb hby at_160) (fun v13 h13 L13 T13 Q13 X13 e13 => ?_)
            obtain ⟨zz, rfl, rfl, rfl, hzz⟩ := Q13
            replace N := N.app (Fr.nil n0)
            show own_Run p e below _ (T13.setTop (mkF m 163 #[.val (.int p1), .val (.int p2), .val (.int p3), .val (.int p4), .val (.int p5), .val (.int p6), .val (.ref b1), .val (.int (p6 &&& (7 : Int32))), .val (.int (0 : Int32)), .val (.int rr), .val (.int (((p6.toUInt32 >>> ((3 : Int32) &&& 31).toUInt32).toInt32) &&& (7 : Int32))), .val (.int xx), .val (.int (0 : Int32)), .val (.int (0 : Int32))] [(.int zz)]))
            refine own_go (fun _ kS => XS.iload X13.here hx rfl (hb hby at_163) rfl kS) ?_
            show own_Run p e below _ (T13.setTop (mkF m 165 #[.val (.int p1), .val (.int p2), .val (.int p3), .val (.int p4), .val (.int p5), .val (.int p6), .val (.ref b1), .val (.int (p6 &&& (7 : Int32))), .val (.int (0 : Int32)), .val (.int rr), .val (.int (((p6.toUInt32 >>> ((3 : Int32) &&& 31).toUInt32).toInt32) &&& (7 : Int32))), .val (.int xx), .val (.int (0 : Int32)), .val (.int (0 : Int32))] [(.int (0 : Int32)), (.int zz)]))
            refine own_go (fun _ kS => XS.icmpNo X13.here hx rfl (hb hby at_165) rfl (teq (show zz = (0 : Int32) from (hzz.elim (fun q => absurd q.2 (own_not4 hc104 hc110 hc116 hc122)) (fun q => q.1)))).2 kS) ?_
            show own_Run p e below _ (T13.setTop (mkF m 168 #[.val (.int p1), .val (.int p2), .val (.int p3), .val (.int p4), .val (.int p5), .val (.int p6), .val (.ref b1), .val (.int (p6 &&& (7 : Int32))), .val (.int (0 : Int32)), .val (.int rr), .val (.int (((p6.toUInt32 >>> ((3 : Int32) &&& 31).toUInt32).toInt32) &&& (7 : Int32))), .val (.int xx), .val (.int (0 : Int32)), .val (.int (0 : Int32))] []))
            refine own_go (fun _ kS => XS.iconst X13.here hx rfl (hb hby at_168) kS) ?_
            show own_Run p e below _ (T13.setTop (mkF m 169 #[.val (.int p1), .val (.int p2), .val (.int p3), .val (.int p4), .val (.int p5), .val (.int p6), .val (.ref b1), .val (.int (p6 &&& (7 : Int32))), .val (.int (0 : Int32)), .val (.int rr), .val (.int (((p6.toUInt32 >>> ((3 : Int32) &&& 31).toUInt32).toInt32) &&& (7 : Int32))), .val (.int xx), .val (.int (0 : Int32)), .val (.int (0 : Int32))] [(.int (1 : Int32))]))
            refine own_go (fun _ kS => XS.goto X13.here hx rfl (pc0 := 169) (pc' := 173) rfl (hb hby at_169) (by decide) (by decide) kS) ?_
            show own_Run p e below _ (T13.setTop (mkF m 173 #[.val (.int p1), .val (.int p2), .val (.int p3), .val (.int p4), .val (.int p5), .val (.int p6), .val (.ref b1), .val (.int (p6 &&& (7 : Int32))), .val (.int (0 : Int32)), .val (.int rr), .val (.int (((p6.toUInt32 >>> ((3 : Int32) &&& 31).toUInt32).toInt32) &&& (7 : Int32))), .val (.int xx), .val (.int (0 : Int32)), .val (.int (0 : Int32))] [(.int (1 : Int32))]))
            refine own_retN X13 hx (t := .boolean) hret hlk (by simp) (hb hby at_173) (by decide) (by decide) ?_
            exact ⟨rfl, N⟩
  · refine own_go (fun _ kS => XS.icmpNo X6.here hx rfl (hb hby at_44) rfl (feq hc44).1 kS) ?_
    show own_Run p e below _ (T6.setTop (mkF m 47 #[.val (.int p1), .val (.int p2), .val (.int p3), .val (.int p4), .val (.int p5), .val (.int p6), .val (.ref b1), .val (.int (p6 &&& (7 : Int32))), .unset, .unset, .unset, .unset, .unset, .unset] []))
    refine own_go (fun _ kS => XS.iconst X6.here hx rfl (hb hby at_47) kS) ?_
    show own_Run p e below _ (T6.setTop (mkF m 48 #[.val (.int p1), .val (.int p2), .val (.int p3), .val (.int p4), .val (.int p5), .val (.int p6), .val (.ref b1), .val (.int (p6 &&& (7 : Int32))), .unset, .unset, .unset, .unset, .unset, .unset] [(.int (1 : Int32))]))
    refine own_go (fun _ kS => XS.goto X6.here hx rfl (pc0 := 48) (pc' := 52) rfl (hb hby at_48) (by decide) (by decide) kS) ?_
    show own_Run p e below _ (T6.setTop (mkF m 52 #[.val (.int p1), .val (.int p2), .val (.int p3), .val (.int p4), .val (.int p5), .val (.int p6), .val (.ref b1), .val (.int (p6 &&& (7 : Int32))), .unset, .unset, .unset, .unset, .unset, .unset] [(.int (1 : Int32))]))
    refine own_go (fun _ kS => XS.istore X6.here hx rfl (hb hby at_52) rfl (l' := #[.val (.int p1), .val (.int p2), .val (.int p3), .val (.int p4), .val (.int p5), .val (.int p6), .val (.ref b1), .val (.int (p6 &&& (7 : Int32))), .val (.int (1 : Int32)), .unset, .unset, .unset, .unset, .unset]) rfl kS) ?_
    show own_Run p e below _ (T6.setTop (mkF m 54 #[.val (.int p1), .val (.int p2), .val (.int p3), .val (.int p4), .val (.int p5), .val (.int p6), .val (.ref b1), .val (.int (p6 &&& (7 : Int32))), .val (.int (1 : Int32)), .unset, .unset, .unset, .unset, .unset] []))
    refine own_go (fun _ kS => XS.iload X6.here hx rfl (hb hby at_54) rfl kS) ?_
    show own_Run p e below _ (T6.setTop (mkF m 56 #[.val (.int p1), .val (.int p2), .val (.int p3), .val (.int p4), .val (.int p5), .val (.int p6), .val (.ref b1), .val (.int (p6 &&& (7 : Int32))), .val (.int (1 : Int32)), .unset, .unset, .unset, .unset, .unset] [(.int (p6 &&& (7 : Int32)))]))
    refine own_go (fun _ kS => XS.iloadN X6.here hx rfl (hb hby at_56) rfl kS) ?_
    show own_Run p e below _ (T6.setTop (mkF m 57 #[.val (.int p1), .val (.int p2), .val (.int p3), .val (.int p4), .val (.int p5), .val (.int p6), .val (.ref b1), .val (.int (p6 &&& (7 : Int32))), .val (.int (1 : Int32)), .unset, .unset, .unset, .unset, .unset] [(.int p1), (.int (p6 &&& (7 : Int32)))]))
    refine own_go (fun _ kS => XS.iloadN X6.here hx rfl (hb hby at_57) rfl kS) ?_
    show own_Run p e below _ (T6.setTop (mkF m 58 #[.val (.int p1), .val (.int p2), .val (.int p3), .val (.int p4), .val (.int p5), .val (.int p6), .val (.ref b1), .val (.int (p6 &&& (7 : Int32))), .val (.int (1 : Int32)), .unset, .unset, .unset, .unset, .unset] [(.int p2), (.int p1), (.int (p6 &&& (7 : Int32)))]))
    refine own_go (fun _ kS => XS.iloadN X6.here hx rfl (hb hby at_58) rfl kS) ?_
    show own_Run p e below _ (T6.setTop (mkF m 59 #[.val (.int p1), .val (.int p2), .val (.int p3), .val (.int p4), .val (.int p5), .val (.int p6), .val (.ref b1), .val (.int (p6 &&& (7 : Int32))), .val (.int (1 : Int32)), .unset, .unset, .unset, .unset, .unset] [(.int p3), (.int p2), (.int p1), (.int (p6 &&& (7 : Int32)))]))
    refine own_go (fun _ kS => XS.iloadN X6.here hx rfl (hb hby at_59) rfl kS) ?_
    show own_Run p e below _ (T6.setTop (mkF m 60 #[.val (.int p1), .val (.int p2), .val (.int p3), .val (.int p4), .val (.int p5), .val (.int p6), .val (.ref b1), .val (.int (p6 &&& (7 : Int32))), .val (.int (1 : Int32)), .unset, .unset, .unset, .unset, .unset] [(.int p4), (.int p3), (.int p2), (.int p1), (.int (p6 &&& (7 : Int32)))]))
    refine own_go (fun _ kS => XS.iload X6.here hx rfl (hb hby at_60) rfl kS) ?_
    show own_Run p e below _ (T6.setTop (mkF m 62 #[.val (.int p1), .val (.int p2), .val (.int p3), .val (.int p4), .val (.int p5), .val (.int p6), .val (.ref b1), .val (.int (p6 &&& (7 : Int32))), .val (.int (1 : Int32)), .unset, .unset, .unset, .unset, .unset] [(.int p5), (.int p4), (.int p3), (.int p2), (.int p1), (.int (p6 &&& (7 : Int32)))]))
    refine own_callS X6 hx hZ e6 hown (⟨"subjects/SearchTreeContainsPinLaw", "pick", "(IIIIII)I"⟩ : MethodName) (hw _ (List.mem_of_getElem? (i := 30) rfl)) (hw _ (List.mem_of_getElem? (i := 31) rfl)) (hw _ (List.mem_of_getElem? (i := 32) rfl)) (hw _ (List.mem_of_getElem? (i := 33) rfl)) (by decide) [(.int (p6 &&& (7 : Int32))), (.int p1), (.int p2), (.int p3), (.int p4), (.int p5)] [] (rm_pick l Z a0 hw (p6 &&& (7 : Int32)) p1 p2 p3 p4 p5 h6) (by decide) 0 (by decide) (by decide) (by decide) rfl (by rw [hml]; rfl) (lenOf own_pd4 rfl) rfl (by show 2 * 0 + _ ≤ _; exact Nat.le_of_eq rfl) (hb hby at_62) (fun v14 h14 L14 T14 Q14 X14 e14 => ?_)
    obtain ⟨rfl, rfl, rfl⟩ := Q14
    replace N := N.app (Fr.nil n0)
    show own_Run p e below _ (T14.setTop (mkF m 65 #[.val (.int p1), .val (.int p2), .val (.int p3), .val (.int p4), .val (.int p5), .val (.int p6), .val (.ref b1), .val (.int (p6 &&& (7 : Int32))), .val (.int (1 : Int32)), .unset, .unset, .unset, .unset, .unset] [(.int (own_pick (p6 &&& (7 : Int32)) p1 p2 p3 p4 p5))]))
    refine own_go (fun _ kS => XS.istore X14.here hx rfl (hb hby at_65) rfl (l' := #[.val (.int p1), .val (.int p2), .val (.int p3), .val (.int p4), .val (.int p5), .val (.int p6), .val (.ref b1), .val (.int (p6 &&& (7 : Int32))), .val (.int (1 : Int32)), .val (.int (own_pick (p6 &&& (7 : Int32)) p1 p2 p3 p4 p5)), .unset, .unset, .unset, .unset]) rfl kS) ?_
    show own_Run p e below _ (T14.setTop (mkF m 67 #[.val (.int p1), .val (.int p2), .val (.int p3), .val (.int p4), .val (.int p5), .val (.int p6), .val (.ref b1), .val (.int (p6 &&& (7 : Int32))), .val (.int (1 : Int32)), .val (.int (own_pick (p6 &&& (7 : Int32)) p1 p2 p3 p4 p5)), .unset, .unset, .unset, .unset] []))
    generalize e_rr : (own_pick (p6 &&& (7 : Int32)) p1 p2 p3 p4 p5) = rr
    refine own_go (fun _ kS => XS.iload X14.here hx rfl (hb hby at_67) rfl kS) ?_
    show own_Run p e below _ (T14.setTop (mkF m 69 #[.val (.int p1), .val (.int p2), .val (.int p3), .val (.int p4), .val (.int p5), .val (.int p6), .val (.ref b1), .val (.int (p6 &&& (7 : Int32))), .val (.int (1 : Int32)), .val (.int rr), .unset, .unset, .unset, .unset] [(.int (1 : Int32))]))
    refine own_go (fun _ kS => XS.ifNo X14.here hx rfl (hb hby at_69) rfl ((if0 _ _).trans (feq (show ¬ ((1 : Int32) = (0 : Int32)) from (by decide))).1) kS) ?_
    show own_Run p e below _ (T14.setTop (mkF m 72 #[.val (.int p1), .val (.int p2), .val (.int p3), .val (.int p4), .val (.int p5), .val (.int p6), .val (.ref b1), .val (.int (p6 &&& (7 : Int32))), .val (.int (1 : Int32)), .val (.int rr), .unset, .unset, .unset, .unset] []))
    refine own_go (fun _ kS => XS.aload X14.here hx rfl (hb hby at_72) rfl rfl kS) ?_
    show own_Run p e below _ (T14.setTop (mkF m 74 #[.val (.int p1), .val (.int p2), .val (.int p3), .val (.int p4), .val (.int p5), .val (.int p6), .val (.ref b1), .val (.int (p6 &&& (7 : Int32))), .val (.int (1 : Int32)), .val (.int rr), .unset, .unset, .unset, .unset] [(.ref b1)]))
    refine own_go (fun _ kS => XS.iload X14.here hx rfl (hb hby at_74) rfl kS) ?_
    show own_Run p e below _ (T14.setTop (mkF m 76 #[.val (.int p1), .val (.int p2), .val (.int p3), .val (.int p4), .val (.int p5), .val (.int p6), .val (.ref b1), .val (.int (p6 &&& (7 : Int32))), .val (.int (1 : Int32)), .val (.int rr), .unset, .unset, .unset, .unset] [(.int rr), (.ref b1)]))
    refine own_callV X14 hx hZ e14 hown (⟨"subjects/SearchTree", "remove", "(I)V"⟩ : MethodName) (hw _ (List.mem_of_getElem? (i := 34) rfl)) (hw _ (List.mem_of_getElem? (i := 35) rfl)) (hw _ (List.mem_of_getElem? (i := 37) rfl)) (hw _ (List.mem_of_getElem? (i := 36) rfl)) (hw _ (List.mem_of_getElem? (i := 2) rfl)) (hw _ (List.mem_of_getElem? (i := 38) rfl)) (by decide) b1 A6 [(.int rr)] [] (rm_rem l Z a0 hw b1 rr r6 w6 (fun y => (fun y => (fun y => (fun y => (fun _ => False) y ∨ y = p1) y ∨ y = p2) y ∨ y = p3) y ∨ y = p4) n0 h6 hz A6 g_b1 F6_root hT6 tw6 gw6) (by decide) 0 (by decide) (by decide) (by decide) rfl (by rw [hml]; rfl) (lenOf own_pd0 rfl) rfl (by show 2 * 0 + _ ≤ _; exact Nat.le_of_eq rfl) (hb hby at_76) (fun v15 h15 L15 T15 Q15 X15 e15 => ?_)
    obtain ⟨rfl, Nq15, Kq15, A15, r15, w15, F15_root, hT15, hw15⟩ := Q15
    replace hz := Nat.le_trans hz Kq15.1
    replace N := N.app Nq15
    show own_Run p e below _ (T15.setTop (mkF m 79 #[.val (.int p1), .val (.int p2), .val (.int p3), .val (.int p4), .val (.int p5), .val (.int p6), .val (.ref b1), .val (.int (p6 &&& (7 : Int32))), .val (.int (1 : Int32)), .val (.int rr), .unset, .unset, .unset, .unset] []))
    refine own_go (fun _ kS => XS.iload X15.here hx rfl (hb hby at_79) rfl kS) ?_
    show own_Run p e below _ (T15.setTop (mkF m 81 #[.val (.int p1), .val (.int p2), .val (.int p3), .val (.int p4), .val (.int p5), .val (.int p6), .val (.ref b1), .val (.int (p6 &&& (7 : Int32))), .val (.int (1 : Int32)), .val (.int rr), .unset, .unset, .unset, .unset] [(.int p6)]))
    refine own_go (fun _ kS => XS.iconst X15.here hx rfl (hb hby at_81) kS) ?_
    show own_Run p e below _ (T15.setTop (mkF m 82 #[.val (.int p1), .val (.int p2), .val (.int p3), .val (.int p4), .val (.int p5), .val (.int p6), .val (.ref b1), .val (.int (p6 &&& (7 : Int32))), .val (.int (1 : Int32)), .val (.int rr), .unset, .unset, .unset, .unset] [(.int (3 : Int32)), (.int p6)]))
    refine own_go (fun _ kS => XS.iushr X15.here hx rfl (hb hby at_82) rfl kS) ?_
    show own_Run p e below _ (T15.setTop (mkF m 83 #[.val (.int p1), .val (.int p2), .val (.int p3), .val (.int p4), .val (.int p5), .val (.int p6), .val (.ref b1), .val (.int (p6 &&& (7 : Int32))), .val (.int (1 : Int32)), .val (.int rr), .unset, .unset, .unset, .unset] [(.int ((p6.toUInt32 >>> ((3 : Int32) &&& 31).toUInt32).toInt32))]))
    refine own_go (fun _ kS => XS.bipush X15.here hx rfl (hb hby at_83) kS) ?_
    show own_Run p e below _ (T15.setTop (mkF m 85 #[.val (.int p1), .val (.int p2), .val (.int p3), .val (.int p4), .val (.int p5), .val (.int p6), .val (.ref b1), .val (.int (p6 &&& (7 : Int32))), .val (.int (1 : Int32)), .val (.int rr), .unset, .unset, .unset, .unset] [(.int (7 : Int32)), (.int ((p6.toUInt32 >>> ((3 : Int32) &&& 31).toUInt32).toInt32))]))
    refine own_go (fun _ kS => XS.iand X15.here hx rfl (hb hby at_85) rfl kS) ?_
    show own_Run p e below _ (T15.setTop (mkF m 86 #[.val (.int p1), .val (.int p2), .val (.int p3), .val (.int p4), .val (.int p5), .val (.int p6), .val (.ref b1), .val (.int (p6 &&& (7 : Int32))), .val (.int (1 : Int32)), .val (.int rr), .unset, .unset, .unset, .unset] [(.int (((p6.toUInt32 >>> ((3 : Int32) &&& 31).toUInt32).toInt32) &&& (7 : Int32)))]))
    refine own_go (fun _ kS => XS.istore X15.here hx rfl (hb hby at_86) rfl (l' := #[.val (.int p1), .val (.int p2), .val (.int p3), .val (.int p4), .val (.int p5), .val (.int p6), .val (.ref b1), .val (.int (p6 &&& (7 : Int32))), .val (.int (1 : Int32)), .val (.int rr), .val (.int (((p6.toUInt32 >>> ((3 : Int32) &&& 31).toUInt32).toInt32) &&& (7 : Int32))), .unset, .unset, .unset]) rfl kS) ?_
    show own_Run p e below _ (T15.setTop (mkF m 88 #[.val (.int p1), .val (.int p2), .val (.int p3), .val (.int p4), .val (.int p5), .val (.int p6), .val (.ref b1), .val (.int (p6 &&& (7 : Int32))), .val (.int (1 : Int32)), .val (.int rr), .val (.int (((p6.toUInt32 >>> ((3 : Int32) &&& 31).toUInt32).toInt32) &&& (7 : Int32))), .unset, .unset, .unset] []))
    refine own_go (fun _ kS => XS.iload X15.here hx rfl (hb hby at_88) rfl kS) ?_
    show own_Run p e below _ (T15.setTop (mkF m 90 #[.val (.int p1), .val (.int p2), .val (.int p3), .val (.int p4), .val (.int p5), .val (.int p6), .val (.ref b1), .val (.int (p6 &&& (7 : Int32))), .val (.int (1 : Int32)), .val (.int rr), .val (.int (((p6.toUInt32 >>> ((3 : Int32) &&& 31).toUInt32).toInt32) &&& (7 : Int32))), .unset, .unset, .unset] [(.int (((p6.toUInt32 >>> ((3 : Int32) &&& 31).toUInt32).toInt32) &&& (7 : Int32)))]))
    refine own_go (fun _ kS => XS.iloadN X15.here hx rfl (hb hby at_90) rfl kS) ?_
    show own_Run p e below _ (T15.setTop (mkF m 91 #[.val (.int p1), .val (.int p2), .val (.int p3), .val (.int p4), .val (.int p5), .val (.int p6), .val (.ref b1), .val (.int (p6 &&& (7 : Int32))), .val (.int (1 : Int32)), .val (.int rr), .val (.int (((p6.toUInt32 >>> ((3 : Int32) &&& 31).toUInt32).toInt32) &&& (7 : Int32))), .unset, .unset, .unset] [(.int p1), (.int (((p6.toUInt32 >>> ((3 : Int32) &&& 31).toUInt32).toInt32) &&& (7 : Int32)))]))
    refine own_go (fun _ kS => XS.iloadN X15.here hx rfl (hb hby at_91) rfl kS) ?_
    show own_Run p e below _ (T15.setTop (mkF m 92 #[.val (.int p1), .val (.int p2), .val (.int p3), .val (.int p4), .val (.int p5), .val (.int p6), .val (.ref b1), .val (.int (p6 &&& (7 : Int32))), .val (.int (1 : Int32)), .val (.int rr), .val (.int (((p6.toUInt32 >>> ((3 : Int32) &&& 31).toUInt32).toInt32) &&& (7 : Int32))), .unset, .unset, .unset] [(.int p2), (.int p1), (.int (((p6.toUInt32 >>> ((3 : Int32) &&& 31).toUInt32).toInt32) &&& (7 : Int32)))]))
    refine own_go (fun _ kS => XS.iloadN X15.here hx rfl (hb hby at_92) rfl kS) ?_
    show own_Run p e below _ (T15.setTop (mkF m 93 #[.val (.int p1), .val (.int p2), .val (.int p3), .val (.int p4), .val (.int p5), .val (.int p6), .val (.ref b1), .val (.int (p6 &&& (7 : Int32))), .val (.int (1 : Int32)), .val (.int rr), .val (.int (((p6.toUInt32 >>> ((3 : Int32) &&& 31).toUInt32).toInt32) &&& (7 : Int32))), .unset, .unset, .unset] [(.int p3), (.int p2), (.int p1), (.int (((p6.toUInt32 >>> ((3 : Int32) &&& 31).toUInt32).toInt32) &&& (7 : Int32)))]))
    refine own_go (fun _ kS => XS.iloadN X15.here hx rfl (hb hby at_93) rfl kS) ?_
    show own_Run p e below _ (T15.setTop (mkF m 94 #[.val (.int p1), .val (.int p2), .val (.int p3), .val (.int p4), .val (.int p5), .val (.int p6), .val (.ref b1), .val (.int (p6 &&& (7 : Int32))), .val (.int (1 : Int32)), .val (.int rr), .val (.int (((p6.toUInt32 >>> ((3 : Int32) &&& 31).toUInt32).toInt32) &&& (7 : Int32))), .unset, .unset, .unset] [(.int p4), (.int p3), (.int p2), (.int p1), (.int (((p6.toUInt32 >>> ((3 : Int32) &&& 31).toUInt32).toInt32) &&& (7 : Int32)))]))
    refine own_go (fun _ kS => XS.iload X15.here hx rfl (hb hby at_94) rfl kS) ?_
    show own_Run p e below _ (T15.setTop (mkF m 96 #[.val (.int p1), .val (.int p2), .val (.int p3), .val (.int p4), .val (.int p5), .val (.int p6), .val (.ref b1), .val (.int (p6 &&& (7 : Int32))), .val (.int (1 : Int32)), .val (.int rr), .val (.int (((p6.toUInt32 >>> ((3 : Int32) &&& 31).toUInt32).toInt32) &&& (7 : Int32))), .unset, .unset, .unset] [(.int p5), (.int p4), (.int p3), (.int p2), (.int p1), (.int (((p6.toUInt32 >>> ((3 : Int32) &&& 31).toUInt32).toInt32) &&& (7 : Int32)))]))
    refine own_callS X15 hx hZ e15 hown (⟨"subjects/SearchTreeContainsPinLaw", "pick", "(IIIIII)I"⟩ : MethodName) (hw _ (List.mem_of_getElem? (i := 30) rfl)) (hw _ (List.mem_of_getElem? (i := 31) rfl)) (hw _ (List.mem_of_getElem? (i := 32) rfl)) (hw _ (List.mem_of_getElem? (i := 33) rfl)) (by decide) [(.int (((p6.toUInt32 >>> ((3 : Int32) &&& 31).toUInt32).toInt32) &&& (7 : Int32))), (.int p1), (.int p2), (.int p3), (.int p4), (.int p5)] [] (rm_pick l Z a0 hw (((p6.toUInt32 >>> ((3 : Int32) &&& 31).toUInt32).toInt32) &&& (7 : Int32)) p1 p2 p3 p4 p5 h15) (by decide) 0 (by decide) (by decide) (by decide) rfl (by rw [hml]; rfl) (lenOf own_pd4 rfl) rfl (by show 2 * 0 + _ ≤ _; exact Nat.le_of_eq rfl) (hb hby at_96) (fun v16 h16 L16 T16 Q16 X16 e16 => ?_)
    obtain ⟨rfl, rfl, rfl⟩ := Q16
    replace N := N.app (Fr.nil n0)
    show own_Run p e below _ (T16.setTop (mkF m 99 #[.val (.int p1), .val (.int p2), .val (.int p3), .val (.int p4), .val (.int p5), .val (.int p6), .val (.ref b1), .val (.int (p6 &&& (7 : Int32))), .val (.int (1 : Int32)), .val (.int rr), .val (.int (((p6.toUInt32 >>> ((3 : Int32) &&& 31).toUInt32).toInt32) &&& (7 : Int32))), .unset, .unset, .unset] [(.int (own_pick (((p6.toUInt32 >>> ((3 : Int32) &&& 31).toUInt32).toInt32) &&& (7 : Int32)) p1 p2 p3 p4 p5))]))
    refine own_go (fun _ kS => XS.istore X16.here hx rfl (hb hby at_99) rfl (l' := #[.val (.int p1), .val (.int p2), .val (.int p3), .val (.int p4), .val (.int p5), .val (.int p6), .val (.ref b1), .val (.int (p6 &&& (7 : Int32))), .val (.int (1 : Int32)), .val (.int rr), .val (.int (((p6.toUInt32 >>> ((3 : Int32) &&& 31).toUInt32).toInt32) &&& (7 : Int32))), .val (.int (own_pick (((p6.toUInt32 >>> ((3 : Int32) &&& 31).toUInt32).toInt32) &&& (7 : Int32)) p1 p2 p3 p4 p5)), .unset, .unset]) rfl kS) ?_
    show own_Run p e below _ (T16.setTop (mkF m 101 #[.val (.int p1), .val (.int p2), .val (.int p3), .val (.int p4), .val (.int p5), .val (.int p6), .val (.ref b1), .val (.int (p6 &&& (7 : Int32))), .val (.int (1 : Int32)), .val (.int rr), .val (.int (((p6.toUInt32 >>> ((3 : Int32) &&& 31).toUInt32).toInt32) &&& (7 : Int32))), .val (.int (own_pick (((p6.toUInt32 >>> ((3 : Int32) &&& 31).toUInt32).toInt32) &&& (7 : Int32)) p1 p2 p3 p4 p5)), .unset, .unset] []))
    generalize e_xx : (own_pick (((p6.toUInt32 >>> ((3 : Int32) &&& 31).toUInt32).toInt32) &&& (7 : Int32)) p1 p2 p3 p4 p5) = xx
    refine own_go (fun _ kS => XS.iload X16.here hx rfl (hb hby at_101) rfl kS) ?_
    show own_Run p e below _ (T16.setTop (mkF m 103 #[.val (.int p1), .val (.int p2), .val (.int p3), .val (.int p4), .val (.int p5), .val (.int p6), .val (.ref b1), .val (.int (p6 &&& (7 : Int32))), .val (.int (1 : Int32)), .val (.int rr), .val (.int (((p6.toUInt32 >>> ((3 : Int32) &&& 31).toUInt32).toInt32) &&& (7 : Int32))), .val (.int xx), .unset, .unset] [(.int xx)]))
    refine own_go (fun _ kS => XS.iloadN X16.here hx rfl (hb hby at_103) rfl kS) ?_
    show own_Run p e below _ (T16.setTop (mkF m 104 #[.val (.int p1), .val (.int p2), .val (.int p3), .val (.int p4), .val (.int p5), .val (.int p6), .val (.ref b1), .val (.int (p6 &&& (7 : Int32))), .val (.int (1 : Int32)), .val (.int rr), .val (.int (((p6.toUInt32 >>> ((3 : Int32) &&& 31).toUInt32).toInt32) &&& (7 : Int32))), .val (.int xx), .unset, .unset] [(.int p1), (.int xx)]))
    by_cases hc104 : xx = p1
    · refine own_go (fun _ kS => XS.icmpYes X16.here hx rfl (pc0 := 104) (pc' := 125) rfl (hb hby at_104) rfl (teq hc104).1 (by decide) (by decide) kS) ?_
      show own_Run p e below _ (T16.setTop (mkF m 125 #[.val (.int p1), .val (.int p2), .val (.int p3), .val (.int p4), .val (.int p5), .val (.int p6), .val (.ref b1), .val (.int (p6 &&& (7 : Int32))), .val (.int (1 : Int32)), .val (.int rr), .val (.int (((p6.toUInt32 >>> ((3 : Int32) &&& 31).toUInt32).toInt32) &&& (7 : Int32))), .val (.int xx), .unset, .unset] []))
      refine own_go (fun _ kS => XS.iconst X16.here hx rfl (hb hby at_125) kS) ?_
      show own_Run p e below _ (T16.setTop (mkF m 126 #[.val (.int p1), .val (.int p2), .val (.int p3), .val (.int p4), .val (.int p5), .val (.int p6), .val (.ref b1), .val (.int (p6 &&& (7 : Int32))), .val (.int (1 : Int32)), .val (.int rr), .val (.int (((p6.toUInt32 >>> ((3 : Int32) &&& 31).toUInt32).toInt32) &&& (7 : Int32))), .val (.int xx), .unset, .unset] [(.int (1 : Int32))]))
      refine own_go (fun _ kS => XS.goto X16.here hx rfl (pc0 := 126) (pc' := 130) rfl (hb hby at_126) (by decide) (by decide) kS) ?_
      show own_Run p e below _ (T16.setTop (mkF m 130 #[.val (.int p1), .val (.int p2), .val (.int p3), .val (.int p4), .val (.int p5), .val (.int p6), .val (.ref b1), .val (.int (p6 &&& (7 : Int32))), .val (.int (1 : Int32)), .val (.int rr), .val (.int (((p6.toUInt32 >>> ((3 : Int32) &&& 31).toUInt32).toInt32) &&& (7 : Int32))), .val (.int xx), .unset, .unset] [(.int (1 : Int32))]))
      refine own_go (fun _ kS => XS.istore X16.here hx rfl (hb hby at_130) rfl (l' := #[.val (.int p1), .val (.int p2), .val (.int p3), .val (.int p4), .val (.int p5), .val (.int p6), .val (.ref b1), .val (.int (p6 &&& (7 : Int32))), .val (.int (1 : Int32)), .val (.int rr), .val (.int (((p6.toUInt32 >>> ((3 : Int32) &&& 31).toUInt32).toInt32) &&& (7 : Int32))), .val (.int xx), .val (.int (1 : Int32)), .unset]) rfl kS) ?_
      show own_Run p e below _ (T16.setTop (mkF m 132 #[.val (.int p1), .val (.int p2), .val (.int p3), .val (.int p4), .val (.int p5), .val (.int p6), .val (.ref b1), .val (.int (p6 &&& (7 : Int32))), .val (.int (1 : Int32)), .val (.int rr), .val (.int (((p6.toUInt32 >>> ((3 : Int32) &&& 31).toUInt32).toInt32) &&& (7 : Int32))), .val (.int xx), .val (.int (1 : Int32)), .unset] []))
      refine own_go (fun _ kS => XS.iload X16.here hx rfl (hb hby at_132) rfl kS) ?_
      show own_Run p e below _ (T16.setTop (mkF m 134 #[.val (.int p1), .val (.int p2), .val (.int p3), .val (.int p4), .val (.int p5), .val (.int p6), .val (.ref b1), .val (.int (p6 &&& (7 : Int32))), .val (.int (1 : Int32)), .val (.int rr), .val (.int (((p6.toUInt32 >>> ((3 : Int32) &&& 31).toUInt32).toInt32) &&& (7 : Int32))), .val (.int xx), .val (.int (1 : Int32)), .unset] [(.int (1 : Int32))]))
      refine own_go (fun _ kS => XS.ifNo X16.here hx rfl (hb hby at_134) rfl ((if0 _ _).trans (feq (show ¬ ((1 : Int32) = (0 : Int32)) from (by decide))).1) kS) ?_
      show own_Run p e below _ (T16.setTop (mkF m 137 #[.val (.int p1), .val (.int p2), .val (.int p3), .val (.int p4), .val (.int p5), .val (.int p6), .val (.ref b1), .val (.int (p6 &&& (7 : Int32))), .val (.int (1 : Int32)), .val (.int rr), .val (.int (((p6.toUInt32 >>> ((3 : Int32) &&& 31).toUInt32).toInt32) &&& (7 : Int32))), .val (.int xx), .val (.int (1 : Int32)), .unset] []))
      refine own_go (fun _ kS => XS.iload X16.here hx rfl (hb hby at_137) rfl kS) ?_
      show own_Run p e below _ (T16.setTop (mkF m 139 #[.val (.int p1), .val (.int p2), .val (.int p3), .val (.int p4), .val (.int p5), .val (.int p6), .val (.ref b1), .val (.int (p6 &&& (7 : Int32))), .val (.int (1 : Int32)), .val (.int rr), .val (.int (((p6.toUInt32 >>> ((3 : Int32) &&& 31).toUInt32).toInt32) &&& (7 : Int32))), .val (.int xx), .val (.int (1 : Int32)), .unset] [(.int (1 : Int32))]))
      refine own_go (fun _ kS => XS.ifNo X16.here hx rfl (hb hby at_139) rfl ((if0 _ _).trans (feq (show ¬ ((1 : Int32) = (0 : Int32)) from (by decide))).1) kS) ?_
      show own_Run p e below _ (T16.setTop (mkF m 142 #[.val (.int p1), .val (.int p2), .val (.int p3), .val (.int p4), .val (.int p5), .val (.int p6), .val (.ref b1), .val (.int (p6 &&& (7 : Int32))), .val (.int (1 : Int32)), .val (.int rr), .val (.int (((p6.toUInt32 >>> ((3 : Int32) &&& 31).toUInt32).toInt32) &&& (7 : Int32))), .val (.int xx), .val (.int (1 : Int32)), .unset] []))
      refine own_go (fun _ kS => XS.iload X16.here hx rfl (hb hby at_142) rfl kS) ?_
      show own_Run p e below _ (T16.setTop (mkF m 144 #[.val (.int p1), .val (.int p2), .val (.int p3), .val (.int p4), .val (.int p5), .val (.int p6), .val (.ref b1), .val (.int (p6 &&& (7 : Int32))), .val (.int (1 : Int32)), .val (.int rr), .val (.int (((p6.toUInt32 >>> ((3 : Int32) &&& 31).toUInt32).toInt32) &&& (7 : Int32))), .val (.int xx), .val (.int (1 : Int32)), .unset] [(.int xx)]))
      refine own_go (fun _ kS => XS.iload X16.here hx rfl (hb hby at_144) rfl kS) ?_
      show own_Run p e below _ (T16.setTop (mkF m 146 #[.val (.int p1), .val (.int p2), .val (.int p3), .val (.int p4), .val (.int p5), .val (.int p6), .val (.ref b1), .val (.int (p6 &&& (7 : Int32))), .val (.int (1 : Int32)), .val (.int rr), .val (.int (((p6.toUInt32 >>> ((3 : Int32) &&& 31).toUInt32).toInt32) &&& (7 : Int32))), .val (.int xx), .val (.int (1 : Int32)), .unset] [(.int rr), (.int xx)]))
      by_cases hc146 : xx = rr
      · refine own_go (fun _ kS => XS.icmpYes X16.here hx rfl (pc0 := 146) (pc' := 153) rfl (hb hby at_146) rfl (teq hc146).1 (by decide) (by decide) kS) ?_
        show own_Run p e below _ (T16.setTop (mkF m 153 #[.val (.int p1), .val (.int p2), .val (.int p3), .val (.int p4), .val (.int p5), .val (.int p6), .val (.ref b1), .val (.int (p6 &&& (7 : Int32))), .val (.int (1 : Int32)), .val (.int rr), .val (.int (((p6.toUInt32 >>> ((3 : Int32) &&& 31).toUInt32).toInt32) &&& (7 : Int32))), .val (.int xx), .val (.int (1 : Int32)), .unset] []))
        refine own_go (fun _ kS => XS.iconst X16.here hx rfl (hb hby at_153) kS) ?_
        show own_Run p e below _ (T16.setTop (mkF m 154 #[.val (.int p1), .val (.int p2), .val (.int p3), .val (.int p4), .val (.int p5), .val (.int p6), .val (.ref b1), .val (.int (p6 &&& (7 : Int32))), .val (.int (1 : Int32)), .val (.int rr), .val (.int (((p6.toUInt32 >>> ((3 : Int32) &&& 31).toUInt32).toInt32) &&& (7 : Int32))), .val (.int xx), .val (.int (1 : Int32)), .unset] [(.int (0 : Int32))]))
        refine own_go (fun _ kS => XS.istore X16.here hx rfl (hb hby at_154) rfl (l' := #[.val (.int p1), .val (.int p2), .val (.int p3), .val (.int p4), .val (.int p5), .val (.int p6), .val (.ref b1), .val (.int (p6 &&& (7 : Int32))), .val (.int (1 : Int32)), .val (.int rr), .val (.int (((p6.toUInt32 >>> ((3 : Int32) &&& 31).toUInt32).toInt32) &&& (7 : Int32))), .val (.int xx), .val (.int (1 : Int32)), .val (.int (0 : Int32))]) rfl kS) ?_
        show own_Run p e below _ (T16.setTop (mkF m 156 #[.val (.int p1), .val (.int p2), .val (.int p3), .val (.int p4), .val (.int p5), .val (.int p6), .val (.ref b1), .val (.int (p6 &&& (7 : Int32))), .val (.int (1 : Int32)), .val (.int rr), .val (.int (((p6.toUInt32 >>> ((3 : Int32) &&& 31).toUInt32).toInt32) &&& (7 : Int32))), .val (.int xx), .val (.int (1 : Int32)), .val (.int (0 : Int32))] []))
        refine own_go (fun _ kS => XS.aload X16.here hx rfl (hb hby at_156) rfl rfl kS) ?_
        show own_Run p e below _ (T16.setTop (mkF m 158 #[.val (.int p1), .val (.int p2), .val (.int p3), .val (.int p4), .val (.int p5), .val (.int p6), .val (.ref b1), .val (.int (p6 &&& (7 : Int32))), .val (.int (1 : Int32)), .val (.int rr), .val (.int (((p6.toUInt32 >>> ((3 : Int32) &&& 31).toUInt32).toInt32) &&& (7 : Int32))), .val (.int xx), .val (.int (1 : Int32)), .val (.int (0 : Int32))] [(.ref b1)]))
        refine own_go (fun _ kS => XS.iload X16.here hx rfl (hb hby at_158) rfl kS) ?_
        show own_Run p e below _ (T16.setTop (mkF m 160 #[.val (.int p1), .val (.int p2), .val (.int p3), .val (.int p4), .val (.int p5), .val (.int p6), .val (.ref b1), .val (.int (p6 &&& (7 : Int32))), .val (.int (1 : Int32)), .val (.int rr), .val (.int (((p6.toUInt32 >>> ((3 : Int32) &&& 31).toUInt32).toInt32) &&& (7 : Int32))), .val (.int xx), .val (.int (1 : Int32)), .val (.int (0 : Int32))] [(.int xx), (.ref b1)]))
        refine own_callV X16 hx hZ e16 hown (⟨"subjects/SearchTree", "contains", "(I)Z"⟩ : MethodName) (hw _ (List.mem_of_getElem? (i := 42) rfl)) (hw _ (List.mem_of_getElem? (i := 43) rfl)) (hw _ (List.mem_of_getElem? (i := 45) rfl)) (hw _ (List.mem_of_getElem? (i := 44) rfl)) (hw _ (List.mem_of_getElem? (i := 2) rfl)) (hw _ (List.mem_of_getElem? (i := 46) rfl)) (by decide) b1 A15 [(.int xx)] [] (rm_cont l Z a0 hw b1 xx r15 4 w15 (fun y => (fun y => (fun y => (fun y => (fun y => (fun _ => False) y ∨ y = p1) y ∨ y = p2) y ∨ y = p3) y ∨ y = p4) y ∧ ¬ y = rr) h15 F15_root hT15) (by decide) 0 (by decide) (by decide) (by decide) rfl (by rw [hml]; rfl) (lenOf own_pd5 rfl) rfl (by show 2 * 0 + _ ≤ _; exact Nat.le_of_eq rfl) (hb hby at_160) (fun v17 h17 L17 T17 Q17 X17 e17 => ?_)
        obtain ⟨zz, rfl, rfl, rfl, hzz⟩ := Q17
        replace N := N.app (Fr.nil n0)
        show own_Run p e below _ (T17.setTop (mkF m 163 #[.val (.int p1), .val (.int p2), .val (.int p3), .val (.int p4), .val (.int p5), .val (.int p6), .val (.ref b1), .val (.int (p6 &&& (7 : Int32))), .val (.int (1 : Int32)), .val (.int rr), .val (.int (((p6.toUInt32 >>> ((3 : Int32) &&& 31).toUInt32).toInt32) &&& (7 : Int32))), .val (.int xx), .val (.int (1 : Int32)), .val (.int (0 : Int32))] [(.int zz)]))
        refine own_go (fun _ kS => XS.iload X17.here hx rfl (hb hby at_163) rfl kS) ?_
        show own_Run p e below _ (T17.setTop (mkF m 165 #[.val (.int p1), .val (.int p2), .val (.int p3), .val (.int p4), .val (.int p5), .val (.int p6), .val (.ref b1), .val (.int (p6 &&& (7 : Int32))), .val (.int (1 : Int32)), .val (.int rr), .val (.int (((p6.toUInt32 >>> ((3 : Int32) &&& 31).toUInt32).toInt32) &&& (7 : Int32))), .val (.int xx), .val (.int (1 : Int32)), .val (.int (0 : Int32))] [(.int (0 : Int32)), (.int zz)]))
        refine own_go (fun _ kS => XS.icmpNo X17.here hx rfl (hb hby at_165) rfl (teq (show zz = (0 : Int32) from (hzz.elim (fun q => absurd hc146 q.2.2) (fun q => q.1)))).2 kS) ?_
        show own_Run p e below _ (T17.setTop (mkF m 168 #[.val (.int p1), .val (.int p2), .val (.int p3), .val (.int p4), .val (.int p5), .val (.int p6), .val (.ref b1), .val (.int (p6 &&& (7 : Int32))), .val (.int (1 : Int32)), .val (.int rr), .val (.int (((p6.toUInt32 >>> ((3 : Int32) &&& 31).toUInt32).toInt32) &&& (7 : Int32))), .val (.int xx), .val (.int (1 : Int32)), .val (.int (0 : Int32))] []))
        refine own_go (fun _ kS => XS.iconst X17.here hx rfl (hb hby at_168) kS) ?_
        show own_Run p e below _ (T17.setTop (mkF m 169 #[.val (.int p1), .val (.int p2), .val (.int p3), .val (.int p4), .val (.int p5), .val (.int p6), .val (.ref b1), .val (.int (p6 &&& (7 : Int32))), .val (.int (1 : Int32)), .val (.int rr), .val (.int (((p6.toUInt32 >>> ((3 : Int32) &&& 31).toUInt32).toInt32) &&& (7 : Int32))), .val (.int xx), .val (.int (1 : Int32)), .val (.int (0 : Int32))] [(.int (1 : Int32))]))
        refine own_go (fun _ kS => XS.goto X17.here hx rfl (pc0 := 169) (pc' := 173) rfl (hb hby at_169) (by decide) (by decide) kS) ?_
        show own_Run p e below _ (T17.setTop (mkF m 173 #[.val (.int p1), .val (.int p2), .val (.int p3), .val (.int p4), .val (.int p5), .val (.int p6), .val (.ref b1), .val (.int (p6 &&& (7 : Int32))), .val (.int (1 : Int32)), .val (.int rr), .val (.int (((p6.toUInt32 >>> ((3 : Int32) &&& 31).toUInt32).toInt32) &&& (7 : Int32))), .val (.int xx), .val (.int (1 : Int32)), .val (.int (0 : Int32))] [(.int (1 : Int32))]))
        refine own_retN X17 hx (t := .boolean) hret hlk (by simp) (hb hby at_173) (by decide) (by decide) ?_
        exact ⟨rfl, N⟩
      · refine own_go (fun _ kS => XS.icmpNo X16.here hx rfl (hb hby at_146) rfl (feq hc146).1 kS) ?_
        show own_Run p e below _ (T16.setTop (mkF m 149 #[.val (.int p1), .val (.int p2), .val (.int p3), .val (.int p4), .val (.int p5), .val (.int p6), .val (.ref b1), .val (.int (p6 &&& (7 : Int32))), .val (.int (1 : Int32)), .val (.int rr), .val (.int (((p6.toUInt32 >>> ((3 : Int32) &&& 31).toUInt32).toInt32) &&& (7 : Int32))), .val (.int xx), .val (.int (1 : Int32)), .unset] []))
        refine own_go (fun _ kS => XS.iconst X16.here hx rfl (hb hby at_149) kS) ?_
        show own_Run p e below _ (T16.setTop (mkF m 150 #[.val (.int p1), .val (.int p2), .val (.int p3), .val (.int p4), .val (.int p5), .val (.int p6), .val (.ref b1), .val (.int (p6 &&& (7 : Int32))), .val (.int (1 : Int32)), .val (.int rr), .val (.int (((p6.toUInt32 >>> ((3 : Int32) &&& 31).toUInt32).toInt32) &&& (7 : Int32))), .val (.int xx), .val (.int (1 : Int32)), .unset] [(.int (1 : Int32))]))
        refine own_go (fun _ kS => XS.goto X16.here hx rfl (pc0 := 150) (pc' := 154) rfl (hb hby at_150) (by decide) (by decide) kS) ?_
        show own_Run p e below _ (T16.setTop (mkF m 154 #[.val (.int p1), .val (.int p2), .val (.int p3), .val (.int p4), .val (.int p5), .val (.int p6), .val (.ref b1), .val (.int (p6 &&& (7 : Int32))), .val (.int (1 : Int32)), .val (.int rr), .val (.int (((p6.toUInt32 >>> ((3 : Int32) &&& 31).toUInt32).toInt32) &&& (7 : Int32))), .val (.int xx), .val (.int (1 : Int32)), .unset] [(.int (1 : Int32))]))
        refine own_go (fun _ kS => XS.istore X16.here hx rfl (hb hby at_154) rfl (l' := #[.val (.int p1), .val (.int p2), .val (.int p3), .val (.int p4), .val (.int p5), .val (.int p6), .val (.ref b1), .val (.int (p6 &&& (7 : Int32))), .val (.int (1 : Int32)), .val (.int rr), .val (.int (((p6.toUInt32 >>> ((3 : Int32) &&& 31).toUInt32).toInt32) &&& (7 : Int32))), .val (.int xx), .val (.int (1 : Int32)), .val (.int (1 : Int32))]) rfl kS) ?_
        show own_Run p e below _ (T16.setTop (mkF m 156 #[.val (.int p1), .val (.int p2), .val (.int p3), .val (.int p4), .val (.int p5), .val (.int p6), .val (.ref b1), .val (.int (p6 &&& (7 : Int32))), .val (.int (1 : Int32)), .val (.int rr), .val (.int (((p6.toUInt32 >>> ((3 : Int32) &&& 31).toUInt32).toInt32) &&& (7 : Int32))), .val (.int xx), .val (.int (1 : Int32)), .val (.int (1 : Int32))] []))
        refine own_go (fun _ kS => XS.aload X16.here hx rfl (hb hby at_156) rfl rfl kS) ?_
        show own_Run p e below _ (T16.setTop (mkF m 158 #[.val (.int p1), .val (.int p2), .val (.int p3), .val (.int p4), .val (.int p5), .val (.int p6), .val (.ref b1), .val (.int (p6 &&& (7 : Int32))), .val (.int (1 : Int32)), .val (.int rr), .val (.int (((p6.toUInt32 >>> ((3 : Int32) &&& 31).toUInt32).toInt32) &&& (7 : Int32))), .val (.int xx), .val (.int (1 : Int32)), .val (.int (1 : Int32))] [(.ref b1)]))
        refine own_go (fun _ kS => XS.iload X16.here hx rfl (hb hby at_158) rfl kS) ?_
        show own_Run p e below _ (T16.setTop (mkF m 160 #[.val (.int p1), .val (.int p2), .val (.int p3), .val (.int p4), .val (.int p5), .val (.int p6), .val (.ref b1), .val (.int (p6 &&& (7 : Int32))), .val (.int (1 : Int32)), .val (.int rr), .val (.int (((p6.toUInt32 >>> ((3 : Int32) &&& 31).toUInt32).toInt32) &&& (7 : Int32))), .val (.int xx), .val (.int (1 : Int32)), .val (.int (1 : Int32))] [(.int xx), (.ref b1)]))
        refine own_callV X16 hx hZ e16 hown (⟨"subjects/SearchTree", "contains", "(I)Z"⟩ : MethodName) (hw _ (List.mem_of_getElem? (i := 42) rfl)) (hw _ (List.mem_of_getElem? (i := 43) rfl)) (hw _ (List.mem_of_getElem? (i := 45) rfl)) (hw _ (List.mem_of_getElem? (i := 44) rfl)) (hw _ (List.mem_of_getElem? (i := 2) rfl)) (hw _ (List.mem_of_getElem? (i := 46) rfl)) (by decide) b1 A15 [(.int xx)] [] (rm_cont l Z a0 hw b1 xx r15 4 w15 (fun y => (fun y => (fun y => (fun y => (fun y => (fun _ => False) y ∨ y = p1) y ∨ y = p2) y ∨ y = p3) y ∨ y = p4) y ∧ ¬ y = rr) h15 F15_root hT15) (by decide) 0 (by decide) (by decide) (by decide) rfl (by rw [hml]; rfl) (lenOf own_pd5 rfl) rfl (by show 2 * 0 + _ ≤ _; exact Nat.le_of_eq rfl) (hb hby at_160) (fun v18 h18 L18 T18 Q18 X18 e18 => ?_)
        obtain ⟨zz, rfl, rfl, rfl, hzz⟩ := Q18
        replace N := N.app (Fr.nil n0)
        show own_Run p e below _ (T18.setTop (mkF m 163 #[.val (.int p1), .val (.int p2), .val (.int p3), .val (.int p4), .val (.int p5), .val (.int p6), .val (.ref b1), .val (.int (p6 &&& (7 : Int32))), .val (.int (1 : Int32)), .val (.int rr), .val (.int (((p6.toUInt32 >>> ((3 : Int32) &&& 31).toUInt32).toInt32) &&& (7 : Int32))), .val (.int xx), .val (.int (1 : Int32)), .val (.int (1 : Int32))] [(.int zz)]))
        refine own_go (fun _ kS => XS.iload X18.here hx rfl (hb hby at_163) rfl kS) ?_
        show own_Run p e below _ (T18.setTop (mkF m 165 #[.val (.int p1), .val (.int p2), .val (.int p3), .val (.int p4), .val (.int p5), .val (.int p6), .val (.ref b1), .val (.int (p6 &&& (7 : Int32))), .val (.int (1 : Int32)), .val (.int rr), .val (.int (((p6.toUInt32 >>> ((3 : Int32) &&& 31).toUInt32).toInt32) &&& (7 : Int32))), .val (.int xx), .val (.int (1 : Int32)), .val (.int (1 : Int32))] [(.int (1 : Int32)), (.int zz)]))
        refine own_go (fun _ kS => XS.icmpNo X18.here hx rfl (hb hby at_165) rfl (teq (show zz = (1 : Int32) from (hzz.elim (fun q => q.1) (fun q => absurd (⟨(Or.inl (Or.inl (Or.inl (Or.inr hc104)))), hc146⟩ : _ ∧ _) q.2)))).2 kS) ?_
        show own_Run p e below _ (T18.setTop (mkF m 168 #[.val (.int p1), .val (.int p2), .val (.int p3), .val (.int p4), .val (.int p5), .val (.int p6), .val (.ref b1), .val (.int (p6 &&& (7 : Int32))), .val (.int (1 : Int32)), .val (.int rr), .val (.int (((p6.toUInt32 >>> ((3 : Int32) &&& 31).toUInt32).toInt32) &&& (7 : Int32))), .val (.int xx), .val (.int (1 : Int32)), .val (.int (1 : Int32))] []))
        refine own_go (fun _ kS => XS.iconst X18.here hx rfl (hb hby at_168) kS) ?_
        show own_Run p e below _ (T18.setTop (mkF m 169 #[.val (.int p1), .val (.int p2), .val (.int p3), .val (.int p4), .val (.int p5), .val (.int p6), .val (.ref b1), .val (.int (p6 &&& (7 : Int32))), .val (.int (1 : Int32)), .val (.int rr), .val (.int (((p6.toUInt32 >>> ((3 : Int32) &&& 31).toUInt32).toInt32) &&& (7 : Int32))), .val (.int xx), .val (.int (1 : Int32)), .val (.int (1 : Int32))] [(.int (1 : Int32))]))
        refine own_go (fun _ kS => XS.goto X18.here hx rfl (pc0 := 169) (pc' := 173) rfl (hb hby at_169) (by decide) (by decide) kS) ?_
        show own_Run p e below _ (T18.setTop (mkF m 173 #[.val (.int p1), .val (.int p2), .val (.int p3), .val (.int p4), .val (.int p5), .val (.int p6), .val (.ref b1), .val (.int (p6 &&& (7 : Int32))), .val (.int (1 : Int32)), .val (.int rr), .val (.int (((p6.toUInt32 >>> ((3 : Int32) &&& 31).toUInt32).toInt32) &&& (7 : Int32))), .val (.int xx), .val (.int (1 : Int32)), .val (.int (1 : Int32))] [(.int (1 : Int32))]))
        refine own_retN X18 hx (t := .boolean) hret hlk (by simp) (hb hby at_173) (by decide) (by decide) ?_
        exact ⟨rfl, N⟩
    · refine own_go (fun _ kS => XS.icmpNo X16.here hx rfl (hb hby at_104) rfl (feq hc104).1 kS) ?_
      show own_Run p e below _ (T16.setTop (mkF m 107 #[.val (.int p1), .val (.int p2), .val (.int p3), .val (.int p4), .val (.int p5), .val (.int p6), .val (.ref b1), .val (.int (p6 &&& (7 : Int32))), .val (.int (1 : Int32)), .val (.int rr), .val (.int (((p6.toUInt32 >>> ((3 : Int32) &&& 31).toUInt32).toInt32) &&& (7 : Int32))), .val (.int xx), .unset, .unset] []))
      refine own_go (fun _ kS => XS.iload X16.here hx rfl (hb hby at_107) rfl kS) ?_
      show own_Run p e below _ (T16.setTop (mkF m 109 #[.val (.int p1), .val (.int p2), .val (.int p3), .val (.int p4), .val (.int p5), .val (.int p6), .val (.ref b1), .val (.int (p6 &&& (7 : Int32))), .val (.int (1 : Int32)), .val (.int rr), .val (.int (((p6.toUInt32 >>> ((3 : Int32) &&& 31).toUInt32).toInt32) &&& (7 : Int32))), .val (.int xx), .unset, .unset] [(.int xx)]))
      refine own_go (fun _ kS => XS.iloadN X16.here hx rfl (hb hby at_109) rfl kS) ?_
      show own_Run p e below _ (T16.setTop (mkF m 110 #[.val (.int p1), .val (.int p2), .val (.int p3), .val (.int p4), .val (.int p5), .val (.int p6), .val (.ref b1), .val (.int (p6 &&& (7 : Int32))), .val (.int (1 : Int32)), .val (.int rr), .val (.int (((p6.toUInt32 >>> ((3 : Int32) &&& 31).toUInt32).toInt32) &&& (7 : Int32))), .val (.int xx), .unset, .unset] [(.int p2), (.int xx)]))
      by_cases hc110 : xx = p2
      · refine own_go (fun _ kS => XS.icmpYes X16.here hx rfl (pc0 := 110) (pc' := 125) rfl (hb hby at_110) rfl (teq hc110).1 (by decide) (by decide) kS) ?_
        show own_Run p e below _ (T16.setTop (mkF m 125 #[.val (.int p1), .val (.int p2), .val (.int p3), .val (.int p4), .val (.int p5), .val (.int p6), .val (.ref b1), .val (.int (p6 &&& (7 : Int32))), .val (.int (1 : Int32)), .val (.int rr), .val (.int (((p6.toUInt32 >>> ((3 : Int32) &&& 31).toUInt32).toInt32) &&& (7 : Int32))), .val (.int xx), .unset, .unset] []))
        refine own_go (fun _ kS => XS.iconst X16.here hx rfl (hb hby at_125) kS) ?_
        show own_Run p e below _ (T16.setTop (mkF m 126 #[.val (.int p1), .val (.int p2), .val (.int p3), .val (.int p4), .val (.int p5), .val (.int p6), .val (.ref b1), .val (.int (p6 &&& (7 : Int32))), .val (.int (1 : Int32)), .val (.int rr), .val (.int (((p6.toUInt32 >>> ((3 : Int32) &&& 31).toUInt32).toInt32) &&& (7 : Int32))), .val (.int xx), .unset, .unset] [(.int (1 : Int32))]))
        refine own_go (fun _ kS => XS.goto X16.here hx rfl (pc0 := 126) (pc' := 130) rfl (hb hby at_126) (by decide) (by decide) kS) ?_
        show own_Run p e below _ (T16.setTop (mkF m 130 #[.val (.int p1), .val (.int p2), .val (.int p3), .val (.int p4), .val (.int p5), .val (.int p6), .val (.ref b1), .val (.int (p6 &&& (7 : Int32))), .val (.int (1 : Int32)), .val (.int rr), .val (.int (((p6.toUInt32 >>> ((3 : Int32) &&& 31).toUInt32).toInt32) &&& (7 : Int32))), .val (.int xx), .unset, .unset] [(.int (1 : Int32))]))
        refine own_go (fun _ kS => XS.istore X16.here hx rfl (hb hby at_130) rfl (l' := #[.val (.int p1), .val (.int p2), .val (.int p3), .val (.int p4), .val (.int p5), .val (.int p6), .val (.ref b1), .val (.int (p6 &&& (7 : Int32))), .val (.int (1 : Int32)), .val (.int rr), .val (.int (((p6.toUInt32 >>> ((3 : Int32) &&& 31).toUInt32).toInt32) &&& (7 : Int32))), .val (.int xx), .val (.int (1 : Int32)), .unset]) rfl kS) ?_
        show own_Run p e below _ (T16.setTop (mkF m 132 #[.val (.int p1), .val (.int p2), .val (.int p3), .val (.int p4), .val (.int p5), .val (.int p6), .val (.ref b1), .val (.int (p6 &&& (7 : Int32))), .val (.int (1 : Int32)), .val (.int rr), .val (.int (((p6.toUInt32 >>> ((3 : Int32) &&& 31).toUInt32).toInt32) &&& (7 : Int32))), .val (.int xx), .val (.int (1 : Int32)), .unset] []))
        refine own_go (fun _ kS => XS.iload X16.here hx rfl (hb hby at_132) rfl kS) ?_
        show own_Run p e below _ (T16.setTop (mkF m 134 #[.val (.int p1), .val (.int p2), .val (.int p3), .val (.int p4), .val (.int p5), .val (.int p6), .val (.ref b1), .val (.int (p6 &&& (7 : Int32))), .val (.int (1 : Int32)), .val (.int rr), .val (.int (((p6.toUInt32 >>> ((3 : Int32) &&& 31).toUInt32).toInt32) &&& (7 : Int32))), .val (.int xx), .val (.int (1 : Int32)), .unset] [(.int (1 : Int32))]))
        refine own_go (fun _ kS => XS.ifNo X16.here hx rfl (hb hby at_134) rfl ((if0 _ _).trans (feq (show ¬ ((1 : Int32) = (0 : Int32)) from (by decide))).1) kS) ?_
        show own_Run p e below _ (T16.setTop (mkF m 137 #[.val (.int p1), .val (.int p2), .val (.int p3), .val (.int p4), .val (.int p5), .val (.int p6), .val (.ref b1), .val (.int (p6 &&& (7 : Int32))), .val (.int (1 : Int32)), .val (.int rr), .val (.int (((p6.toUInt32 >>> ((3 : Int32) &&& 31).toUInt32).toInt32) &&& (7 : Int32))), .val (.int xx), .val (.int (1 : Int32)), .unset] []))
        refine own_go (fun _ kS => XS.iload X16.here hx rfl (hb hby at_137) rfl kS) ?_
        show own_Run p e below _ (T16.setTop (mkF m 139 #[.val (.int p1), .val (.int p2), .val (.int p3), .val (.int p4), .val (.int p5), .val (.int p6), .val (.ref b1), .val (.int (p6 &&& (7 : Int32))), .val (.int (1 : Int32)), .val (.int rr), .val (.int (((p6.toUInt32 >>> ((3 : Int32) &&& 31).toUInt32).toInt32) &&& (7 : Int32))), .val (.int xx), .val (.int (1 : Int32)), .unset] [(.int (1 : Int32))]))
        refine own_go (fun _ kS => XS.ifNo X16.here hx rfl (hb hby at_139) rfl ((if0 _ _).trans (feq (show ¬ ((1 : Int32) = (0 : Int32)) from (by decide))).1) kS) ?_
        show own_Run p e below _ (T16.setTop (mkF m 142 #[.val (.int p1), .val (.int p2), .val (.int p3), .val (.int p4), .val (.int p5), .val (.int p6), .val (.ref b1), .val (.int (p6 &&& (7 : Int32))), .val (.int (1 : Int32)), .val (.int rr), .val (.int (((p6.toUInt32 >>> ((3 : Int32) &&& 31).toUInt32).toInt32) &&& (7 : Int32))), .val (.int xx), .val (.int (1 : Int32)), .unset] []))
        refine own_go (fun _ kS => XS.iload X16.here hx rfl (hb hby at_142) rfl kS) ?_
        show own_Run p e below _ (T16.setTop (mkF m 144 #[.val (.int p1), .val (.int p2), .val (.int p3), .val (.int p4), .val (.int p5), .val (.int p6), .val (.ref b1), .val (.int (p6 &&& (7 : Int32))), .val (.int (1 : Int32)), .val (.int rr), .val (.int (((p6.toUInt32 >>> ((3 : Int32) &&& 31).toUInt32).toInt32) &&& (7 : Int32))), .val (.int xx), .val (.int (1 : Int32)), .unset] [(.int xx)]))
        refine own_go (fun _ kS => XS.iload X16.here hx rfl (hb hby at_144) rfl kS) ?_
        show own_Run p e below _ (T16.setTop (mkF m 146 #[.val (.int p1), .val (.int p2), .val (.int p3), .val (.int p4), .val (.int p5), .val (.int p6), .val (.ref b1), .val (.int (p6 &&& (7 : Int32))), .val (.int (1 : Int32)), .val (.int rr), .val (.int (((p6.toUInt32 >>> ((3 : Int32) &&& 31).toUInt32).toInt32) &&& (7 : Int32))), .val (.int xx), .val (.int (1 : Int32)), .unset] [(.int rr), (.int xx)]))
        by_cases hc146 : xx = rr
        · refine own_go (fun _ kS => XS.icmpYes X16.here hx rfl (pc0 := 146) (pc' := 153) rfl (hb hby at_146) rfl (teq hc146).1 (by decide) (by decide) kS) ?_
          show own_Run p e below _ (T16.setTop (mkF m 153 #[.val (.int p1), .val (.int p2), .val (.int p3), .val (.int p4), .val (.int p5), .val (.int p6), .val (.ref b1), .val (.int (p6 &&& (7 : Int32))), .val (.int (1 : Int32)), .val (.int rr), .val (.int (((p6.toUInt32 >>> ((3 : Int32) &&& 31).toUInt32).toInt32) &&& (7 : Int32))), .val (.int xx), .val (.int (1 : Int32)), .unset] []))
          refine own_go (fun _ kS => XS.iconst X16.here hx rfl (hb hby at_153) kS) ?_
          show own_Run p e below _ (T16.setTop (mkF m 154 #[.val (.int p1), .val (.int p2), .val (.int p3), .val (.int p4), .val (.int p5), .val (.int p6), .val (.ref b1), .val (.int (p6 &&& (7 : Int32))), .val (.int (1 : Int32)), .val (.int rr), .val (.int (((p6.toUInt32 >>> ((3 : Int32) &&& 31).toUInt32).toInt32) &&& (7 : Int32))), .val (.int xx), .val (.int (1 : Int32)), .unset] [(.int (0 : Int32))]))
          refine own_go (fun _ kS => XS.istore X16.here hx rfl (hb hby at_154) rfl (l' := #[.val (.int p1), .val (.int p2), .val (.int p3), .val (.int p4), .val (.int p5), .val (.int p6), .val (.ref b1), .val (.int (p6 &&& (7 : Int32))), .val (.int (1 : Int32)), .val (.int rr), .val (.int (((p6.toUInt32 >>> ((3 : Int32) &&& 31).toUInt32).toInt32) &&& (7 : Int32))), .val (.int xx), .val (.int (1 : Int32)), .val (.int (0 : Int32))]) rfl kS) ?_
          show own_Run p e below _ (T16.setTop (mkF m 156 #[.val (.int p1), .val (.int p2), .val (.int p3), .val (.int p4), .val (.int p5), .val (.int p6), .val (.ref b1), .val (.int (p6 &&& (7 : Int32))), .val (.int (1 : Int32)), .val (.int rr), .val (.int (((p6.toUInt32 >>> ((3 : Int32) &&& 31).toUInt32).toInt32) &&& (7 : Int32))), .val (.int xx), .val (.int (1 : Int32)), .val (.int (0 : Int32))] []))
          refine own_go (fun _ kS => XS.aload X16.here hx rfl (hb hby at_156) rfl rfl kS) ?_
          show own_Run p e below _ (T16.setTop (mkF m 158 #[.val (.int p1), .val (.int p2), .val (.int p3), .val (.int p4), .val (.int p5), .val (.int p6), .val (.ref b1), .val (.int (p6 &&& (7 : Int32))), .val (.int (1 : Int32)), .val (.int rr), .val (.int (((p6.toUInt32 >>> ((3 : Int32) &&& 31).toUInt32).toInt32) &&& (7 : Int32))), .val (.int xx), .val (.int (1 : Int32)), .val (.int (0 : Int32))] [(.ref b1)]))
          refine own_go (fun _ kS => XS.iload X16.here hx rfl (hb hby at_158) rfl kS) ?_
          show own_Run p e below _ (T16.setTop (mkF m 160 #[.val (.int p1), .val (.int p2), .val (.int p3), .val (.int p4), .val (.int p5), .val (.int p6), .val (.ref b1), .val (.int (p6 &&& (7 : Int32))), .val (.int (1 : Int32)), .val (.int rr), .val (.int (((p6.toUInt32 >>> ((3 : Int32) &&& 31).toUInt32).toInt32) &&& (7 : Int32))), .val (.int xx), .val (.int (1 : Int32)), .val (.int (0 : Int32))] [(.int xx), (.ref b1)]))
          refine own_callV X16 hx hZ e16 hown (⟨"subjects/SearchTree", "contains", "(I)Z"⟩ : MethodName) (hw _ (List.mem_of_getElem? (i := 42) rfl)) (hw _ (List.mem_of_getElem? (i := 43) rfl)) (hw _ (List.mem_of_getElem? (i := 45) rfl)) (hw _ (List.mem_of_getElem? (i := 44) rfl)) (hw _ (List.mem_of_getElem? (i := 2) rfl)) (hw _ (List.mem_of_getElem? (i := 46) rfl)) (by decide) b1 A15 [(.int xx)] [] (rm_cont l Z a0 hw b1 xx r15 4 w15 (fun y => (fun y => (fun y => (fun y => (fun y => (fun _ => False) y ∨ y = p1) y ∨ y = p2) y ∨ y = p3) y ∨ y = p4) y ∧ ¬ y = rr) h15 F15_root hT15) (by decide) 0 (by decide) (by decide) (by decide) rfl (by rw [hml]; rfl) (lenOf own_pd5 rfl) rfl (by show 2 * 0 + _ ≤ _; exact Nat.le_of_eq rfl) (hb hby at_160) (fun v19 h19 L19 T19 Q19 X19 e19 => ?_)
          obtain ⟨zz, rfl, rfl, rfl, hzz⟩ := Q19
          replace N := N.app (Fr.nil n0)
          show own_Run p e below _ (T19.setTop (mkF m 163 #[.val (.int p1), .val (.int p2), .val (.int p3), .val (.int p4), .val (.int p5), .val (.int p6), .val (.ref b1), .val (.int (p6 &&& (7 : Int32))), .val (.int (1 : Int32)), .val (.int rr), .val (.int (((p6.toUInt32 >>> ((3 : Int32) &&& 31).toUInt32).toInt32) &&& (7 : Int32))), .val (.int xx), .val (.int (1 : Int32)), .val (.int (0 : Int32))] [(.int zz)]))
          refine own_go (fun _ kS => XS.iload X19.here hx rfl (hb hby at_163) rfl kS) ?_
          show own_Run p e below _ (T19.setTop (mkF m 165 #[.val (.int p1), .val (.int p2), .val (.int p3), .val (.int p4), .val (.int p5), .val (.int p6), .val (.ref b1), .val (.int (p6 &&& (7 : Int32))), .val (.int (1 : Int32)), .val (.int rr), .val (.int (((p6.toUInt32 >>> ((3 : Int32) &&& 31).toUInt32).toInt32) &&& (7 : Int32))), .val (.int xx), .val (.int (1 : Int32)), .val (.int (0 : Int32))] [(.int (0 : Int32)), (.int zz)]))
          refine own_go (fun _ kS => XS.icmpNo X19.here hx rfl (hb hby at_165) rfl (teq (show zz = (0 : Int32) from (hzz.elim (fun q => absurd hc146 q.2.2) (fun q => q.1)))).2 kS) ?_
          show own_Run p e below _ (T19.setTop (mkF m 168 #[.val (.int p1), .val (.int p2), .val (.int p3), .val (.int p4), .val (.int p5), .val (.int p6), .val (.ref b1), .val (.int (p6 &&& (7 : Int32))), .val (.int (1 : Int32)), .val (.int rr), .val (.int (((p6.toUInt32 >>> ((3 : Int32) &&& 31).toUInt32).toInt32) &&& (7 : Int32))), .val (.int xx), .val (.int (1 : Int32)), .val (.int (0 : Int32))] []))
          refine own_go (fun _ kS => XS.iconst X19.here hx rfl (hb hby at_168) kS) ?_
          show own_Run p e below _ (T19.setTop (mkF m 169 #[.val (.int p1), .val (.int p2), .val (.int p3), .val (.int p4), .val (.int p5), .val (.int p6), .val (.ref b1), .val (.int (p6 &&& (7 : Int32))), .val (.int (1 : Int32)), .val (.int rr), .val (.int (((p6.toUInt32 >>> ((3 : Int32) &&& 31).toUInt32).toInt32) &&& (7 : Int32))), .val (.int xx), .val (.int (1 : Int32)), .val (.int (0 : Int32))] [(.int (1 : Int32))]))
          refine own_go (fun _ kS => XS.goto X19.here hx rfl (pc0 := 169) (pc' := 173) rfl (hb hby at_169) (by decide) (by decide) kS) ?_
          show own_Run p e below _ (T19.setTop (mkF m 173 #[.val (.int p1), .val (.int p2), .val (.int p3), .val (.int p4), .val (.int p5), .val (.int p6), .val (.ref b1), .val (.int (p6 &&& (7 : Int32))), .val (.int (1 : Int32)), .val (.int rr), .val (.int (((p6.toUInt32 >>> ((3 : Int32) &&& 31).toUInt32).toInt32) &&& (7 : Int32))), .val (.int xx), .val (.int (1 : Int32)), .val (.int (0 : Int32))] [(.int (1 : Int32))]))
          refine own_retN X19 hx (t := .boolean) hret hlk (by simp) (hb hby at_173) (by decide) (by decide) ?_
          exact ⟨rfl, N⟩
        · refine own_go (fun _ kS => XS.icmpNo X16.here hx rfl (hb hby at_146) rfl (feq hc146).1 kS) ?_
          show own_Run p e below _ (T16.setTop (mkF m 149 #[.val (.int p1), .val (.int p2), .val (.int p3), .val (.int p4), .val (.int p5), .val (.int p6), .val (.ref b1), .val (.int (p6 &&& (7 : Int32))), .val (.int (1 : Int32)), .val (.int rr), .val (.int (((p6.toUInt32 >>> ((3 : Int32) &&& 31).toUInt32).toInt32) &&& (7 : Int32))), .val (.int xx), .val (.int (1 : Int32)), .unset] []))
          refine own_go (fun _ kS => XS.iconst X16.here hx rfl (hb hby at_149) kS) ?_
          show own_Run p e below _ (T16.setTop (mkF m 150 #[.val (.int p1), .val (.int p2), .val (.int p3), .val (.int p4), .val (.int p5), .val (.int p6), .val (.ref b1), .val (.int (p6 &&& (7 : Int32))), .val (.int (1 : Int32)), .val (.int rr), .val (.int (((p6.toUInt32 >>> ((3 : Int32) &&& 31).toUInt32).toInt32) &&& (7 : Int32))), .val (.int xx), .val (.int (1 : Int32)), .unset] [(.int (1 : Int32))]))
          refine own_go (fun _ kS => XS.goto X16.here hx rfl (pc0 := 150) (pc' := 154) rfl (hb hby at_150) (by decide) (by decide) kS) ?_
          show own_Run p e below _ (T16.setTop (mkF m 154 #[.val (.int p1), .val (.int p2), .val (.int p3), .val (.int p4), .val (.int p5), .val (.int p6), .val (.ref b1), .val (.int (p6 &&& (7 : Int32))), .val (.int (1 : Int32)), .val (.int rr), .val (.int (((p6.toUInt32 >>> ((3 : Int32) &&& 31).toUInt32).toInt32) &&& (7 : Int32))), .val (.int xx), .val (.int (1 : Int32)), .unset] [(.int (1 : Int32))]))
          refine own_go (fun _ kS => XS.istore X16.here hx rfl (hb hby at_154) rfl (l' := #[.val (.int p1), .val (.int p2), .val (.int p3), .val (.int p4), .val (.int p5), .val (.int p6), .val (.ref b1), .val (.int (p6 &&& (7 : Int32))), .val (.int (1 : Int32)), .val (.int rr), .val (.int (((p6.toUInt32 >>> ((3 : Int32) &&& 31).toUInt32).toInt32) &&& (7 : Int32))), .val (.int xx), .val (.int (1 : Int32)), .val (.int (1 : Int32))]) rfl kS) ?_
          show own_Run p e below _ (T16.setTop (mkF m 156 #[.val (.int p1), .val (.int p2), .val (.int p3), .val (.int p4), .val (.int p5), .val (.int p6), .val (.ref b1), .val (.int (p6 &&& (7 : Int32))), .val (.int (1 : Int32)), .val (.int rr), .val (.int (((p6.toUInt32 >>> ((3 : Int32) &&& 31).toUInt32).toInt32) &&& (7 : Int32))), .val (.int xx), .val (.int (1 : Int32)), .val (.int (1 : Int32))] []))
          refine own_go (fun _ kS => XS.aload X16.here hx rfl (hb hby at_156) rfl rfl kS) ?_
          show own_Run p e below _ (T16.setTop (mkF m 158 #[.val (.int p1), .val (.int p2), .val (.int p3), .val (.int p4), .val (.int p5), .val (.int p6), .val (.ref b1), .val (.int (p6 &&& (7 : Int32))), .val (.int (1 : Int32)), .val (.int rr), .val (.int (((p6.toUInt32 >>> ((3 : Int32) &&& 31).toUInt32).toInt32) &&& (7 : Int32))), .val (.int xx), .val (.int (1 : Int32)), .val (.int (1 : Int32))] [(.ref b1)]))
          refine own_go (fun _ kS => XS.iload X16.here hx rfl (hb hby at_158) rfl kS) ?_
          show own_Run p e below _ (T16.setTop (mkF m 160 #[.val (.int p1), .val (.int p2), .val (.int p3), .val (.int p4), .val (.int p5), .val (.int p6), .val (.ref b1), .val (.int (p6 &&& (7 : Int32))), .val (.int (1 : Int32)), .val (.int rr), .val (.int (((p6.toUInt32 >>> ((3 : Int32) &&& 31).toUInt32).toInt32) &&& (7 : Int32))), .val (.int xx), .val (.int (1 : Int32)), .val (.int (1 : Int32))] [(.int xx), (.ref b1)]))
          refine own_callV X16 hx hZ e16 hown (⟨"subjects/SearchTree", "contains", "(I)Z"⟩ : MethodName) (hw _ (List.mem_of_getElem? (i := 42) rfl)) (hw _ (List.mem_of_getElem? (i := 43) rfl)) (hw _ (List.mem_of_getElem? (i := 45) rfl)) (hw _ (List.mem_of_getElem? (i := 44) rfl)) (hw _ (List.mem_of_getElem? (i := 2) rfl)) (hw _ (List.mem_of_getElem? (i := 46) rfl)) (by decide) b1 A15 [(.int xx)] [] (rm_cont l Z a0 hw b1 xx r15 4 w15 (fun y => (fun y => (fun y => (fun y => (fun y => (fun _ => False) y ∨ y = p1) y ∨ y = p2) y ∨ y = p3) y ∨ y = p4) y ∧ ¬ y = rr) h15 F15_root hT15) (by decide) 0 (by decide) (by decide) (by decide) rfl (by rw [hml]; rfl) (lenOf own_pd5 rfl) rfl (by show 2 * 0 + _ ≤ _; exact Nat.le_of_eq rfl) (hb hby at_160) (fun v20 h20 L20 T20 Q20 X20 e20 => ?_)
          obtain ⟨zz, rfl, rfl, rfl, hzz⟩ := Q20
          replace N := N.app (Fr.nil n0)
          show own_Run p e below _ (T20.setTop (mkF m 163 #[.val (.int p1), .val (.int p2), .val (.int p3), .val (.int p4), .val (.int p5), .val (.int p6), .val (.ref b1), .val (.int (p6 &&& (7 : Int32))), .val (.int (1 : Int32)), .val (.int rr), .val (.int (((p6.toUInt32 >>> ((3 : Int32) &&& 31).toUInt32).toInt32) &&& (7 : Int32))), .val (.int xx), .val (.int (1 : Int32)), .val (.int (1 : Int32))] [(.int zz)]))
          refine own_go (fun _ kS => XS.iload X20.here hx rfl (hb hby at_163) rfl kS) ?_
          show own_Run p e below _ (T20.setTop (mkF m 165 #[.val (.int p1), .val (.int p2), .val (.int p3), .val (.int p4), .val (.int p5), .val (.int p6), .val (.ref b1), .val (.int (p6 &&& (7 : Int32))), .val (.int (1 : Int32)), .val (.int rr), .val (.int (((p6.toUInt32 >>> ((3 : Int32) &&& 31).toUInt32).toInt32) &&& (7 : Int32))), .val (.int xx), .val (.int (1 : Int32)), .val (.int (1 : Int32))] [(.int (1 : Int32)), (.int zz)]))
          refine own_go (fun _ kS => XS.icmpNo X20.here hx rfl (hb hby at_165) rfl (teq (show zz = (1 : Int32) from (hzz.elim (fun q => q.1) (fun q => absurd (⟨(Or.inl (Or.inl (Or.inr hc110))), hc146⟩ : _ ∧ _) q.2)))).2 kS) ?_
          show own_Run p e below _ (T20.setTop (mkF m 168 #[.val (.int p1), .val (.int p2), .val (.int p3), .val (.int p4), .val (.int p5), .val (.int p6), .val (.ref b1), .val (.int (p6 &&& (7 : Int32))), .val (.int (1 : Int32)), .val (.int rr), .val (.int (((p6.toUInt32 >>> ((3 : Int32) &&& 31).toUInt32).toInt32) &&& (7 : Int32))), .val (.int xx), .val (.int (1 : Int32)), .val (.int (1 : Int32))] []))
          refine own_go (fun _ kS => XS.iconst X20.here hx rfl (hb hby at_168) kS) ?_
          show own_Run p e below _ (T20.setTop (mkF m 169 #[.val (.int p1), .val (.int p2), .val (.int p3), .val (.int p4), .val (.int p5), .val (.int p6), .val (.ref b1), .val (.int (p6 &&& (7 : Int32))), .val (.int (1 : Int32)), .val (.int rr), .val (.int (((p6.toUInt32 >>> ((3 : Int32) &&& 31).toUInt32).toInt32) &&& (7 : Int32))), .val (.int xx), .val (.int (1 : Int32)), .val (.int (1 : Int32))] [(.int (1 : Int32))]))
          refine own_go (fun _ kS => XS.goto X20.here hx rfl (pc0 := 169) (pc' := 173) rfl (hb hby at_169) (by decide) (by decide) kS) ?_
          show own_Run p e below _ (T20.setTop (mkF m 173 #[.val (.int p1), .val (.int p2), .val (.int p3), .val (.int p4), .val (.int p5), .val (.int p6), .val (.ref b1), .val (.int (p6 &&& (7 : Int32))), .val (.int (1 : Int32)), .val (.int rr), .val (.int (((p6.toUInt32 >>> ((3 : Int32) &&& 31).toUInt32).toInt32) &&& (7 : Int32))), .val (.int xx), .val (.int (1 : Int32)), .val (.int (1 : Int32))] [(.int (1 : Int32))]))
          refine own_retN X20 hx (t := .boolean) hret hlk (by simp) (hb hby at_173) (by decide) (by decide) ?_
          exact ⟨rfl, N⟩
      · refine own_go (fun _ kS => XS.icmpNo X16.here hx rfl (hb hby at_110) rfl (feq hc110).1 kS) ?_
        show own_Run p e below _ (T16.setTop (mkF m 113 #[.val (.int p1), .val (.int p2), .val (.int p3), .val (.int p4), .val (.int p5), .val (.int p6), .val (.ref b1), .val (.int (p6 &&& (7 : Int32))), .val (.int (1 : Int32)), .val (.int rr), .val (.int (((p6.toUInt32 >>> ((3 : Int32) &&& 31).toUInt32).toInt32) &&& (7 : Int32))), .val (.int xx), .unset, .unset] []))
        refine own_go (fun _ kS => XS.iload X16.here hx rfl (hb hby at_113) rfl kS) ?_
        show own_Run p e below _ (T16.setTop (mkF m 115 #[.val (.int p1), .val (.int p2), .val (.int p3), .val (.int p4), .val (.int p5), .val (.int p6), .val (.ref b1), .val (.int (p6 &&& (7 : Int32))), .val (.int (1 : Int32)), .val (.int rr), .val (.int (((p6.toUInt32 >>> ((3 : Int32) &&& 31).toUInt32).toInt32) &&& (7 : Int32))), .val (.int xx), .unset, .unset] [(.int xx)]))
        refine own_go (fun _ kS => XS.iloadN X16.here hx rfl (hb hby at_115) rfl kS) ?_
        show own_Run p e below _ (T16.setTop (mkF m 116 #[.val (.int p1), .val (.int p2), .val (.int p3), .val (.int p4), .val (.int p5), .val (.int p6), .val (.ref b1), .val (.int (p6 &&& (7 : Int32))), .val (.int (1 : Int32)), .val (.int rr), .val (.int (((p6.toUInt32 >>> ((3 : Int32) &&& 31).toUInt32).toInt32) &&& (7 : Int32))), .val (.int xx), .unset, .unset] [(.int p3), (.int xx)]))
        by_cases hc116 : xx = p3
        · refine own_go (fun _ kS => XS.icmpYes X16.here hx rfl (pc0 := 116) (pc' := 125) rfl (hb hby at_116) rfl (teq hc116).1 (by decide) (by decide) kS) ?_
          show own_Run p e below _ (T16.setTop (mkF m 125 #[.val (.int p1), .val (.int p2), .val (.int p3), .val (.int p4), .val (.int p5), .val (.int p6), .val (.ref b1), .val (.int (p6 &&& (7 : Int32))), .val (.int (1 : Int32)), .val (.int rr), .val (.int (((p6.toUInt32 >>> ((3 : Int32) &&& 31).toUInt32).toInt32) &&& (7 : Int32))), .val (.int xx), .unset, .unset] []))
          refine own_go (fun _ kS => XS.iconst X16.here hx rfl (hb hby at_125) kS) ?_
          show own_Run p e below _ (T16.setTop (mkF m 126 #[.val (.int p1), .val (.int p2), .val (.int p3), .val (.int p4), .val (.int p5), .val (.int p6), .val (.ref b1), .val (.int (p6 &&& (7 : Int32))), .val (.int (1 : Int32)), .val (.int rr), .val (.int (((p6.toUInt32 >>> ((3 : Int32) &&& 31).toUInt32).toInt32) &&& (7 : Int32))), .val (.int xx), .unset, .unset] [(.int (1 : Int32))]))
          refine own_go (fun _ kS => XS.goto X16.here hx rfl (pc0 := 126) (pc' := 130) rfl (hb hby at_126) (by decide) (by decide) kS) ?_
          show own_Run p e below _ (T16.setTop (mkF m 130 #[.val (.int p1), .val (.int p2), .val (.int p3), .val (.int p4), .val (.int p5), .val (.int p6), .val (.ref b1), .val (.int (p6 &&& (7 : Int32))), .val (.int (1 : Int32)), .val (.int rr), .val (.int (((p6.toUInt32 >>> ((3 : Int32) &&& 31).toUInt32).toInt32) &&& (7 : Int32))), .val (.int xx), .unset, .unset] [(.int (1 : Int32))]))
          refine own_go (fun _ kS => XS.istore X16.here hx rfl (hb hby at_130) rfl (l' := #[.val (.int p1), .val (.int p2), .val (.int p3), .val (.int p4), .val (.int p5), .val (.int p6), .val (.ref b1), .val (.int (p6 &&& (7 : Int32))), .val (.int (1 : Int32)), .val (.int rr), .val (.int (((p6.toUInt32 >>> ((3 : Int32) &&& 31).toUInt32).toInt32) &&& (7 : Int32))), .val (.int xx), .val (.int (1 : Int32)), .unset]) rfl kS) ?_
          show own_Run p e below _ (T16.setTop (mkF m 132 #[.val (.int p1), .val (.int p2), .val (.int p3), .val (.int p4), .val (.int p5), .val (.int p6), .val (.ref b1), .val (.int (p6 &&& (7 : Int32))), .val (.int (1 : Int32)), .val (.int rr), .val (.int (((p6.toUInt32 >>> ((3 : Int32) &&& 31).toUInt32).toInt32) &&& (7 : Int32))), .val (.int xx), .val (.int (1 : Int32)), .unset] []))
          refine own_go (fun _ kS => XS.iload X16.here hx rfl (hb hby at_132) rfl kS) ?_
          show own_Run p e below _ (T16.setTop (mkF m 134 #[.val (.int p1), .val (.int p2), .val (.int p3), .val (.int p4), .val (.int p5), .val (.int p6), .val (.ref b1), .val (.int (p6 &&& (7 : Int32))), .val (.int (1 : Int32)), .val (.int rr), .val (.int (((p6.toUInt32 >>> ((3 : Int32) &&& 31).toUInt32).toInt32) &&& (7 : Int32))), .val (.int xx), .val (.int (1 : Int32)), .unset] [(.int (1 : Int32))]))
          refine own_go (fun _ kS => XS.ifNo X16.here hx rfl (hb hby at_134) rfl ((if0 _ _).trans (feq (show ¬ ((1 : Int32) = (0 : Int32)) from (by decide))).1) kS) ?_
          show own_Run p e below _ (T16.setTop (mkF m 137 #[.val (.int p1), .val (.int p2), .val (.int p3), .val (.int p4), .val (.int p5), .val (.int p6), .val (.ref b1), .val (.int (p6 &&& (7 : Int32))), .val (.int (1 : Int32)), .val (.int rr), .val (.int (((p6.toUInt32 >>> ((3 : Int32) &&& 31).toUInt32).toInt32) &&& (7 : Int32))), .val (.int xx), .val (.int (1 : Int32)), .unset] []))
          refine own_go (fun _ kS => XS.iload X16.here hx rfl (hb hby at_137) rfl kS) ?_
          show own_Run p e below _ (T16.setTop (mkF m 139 #[.val (.int p1), .val (.int p2), .val (.int p3), .val (.int p4), .val (.int p5), .val (.int p6), .val (.ref b1), .val (.int (p6 &&& (7 : Int32))), .val (.int (1 : Int32)), .val (.int rr), .val (.int (((p6.toUInt32 >>> ((3 : Int32) &&& 31).toUInt32).toInt32) &&& (7 : Int32))), .val (.int xx), .val (.int (1 : Int32)), .unset] [(.int (1 : Int32))]))
          refine own_go (fun _ kS => XS.ifNo X16.here hx rfl (hb hby at_139) rfl ((if0 _ _).trans (feq (show ¬ ((1 : Int32) = (0 : Int32)) from (by decide))).1) kS) ?_
          show own_Run p e below _ (T16.setTop (mkF m 142 #[.val (.int p1), .val (.int p2), .val (.int p3), .val (.int p4), .val (.int p5), .val (.int p6), .val (.ref b1), .val (.int (p6 &&& (7 : Int32))), .val (.int (1 : Int32)), .val (.int rr), .val (.int (((p6.toUInt32 >>> ((3 : Int32) &&& 31).toUInt32).toInt32) &&& (7 : Int32))), .val (.int xx), .val (.int (1 : Int32)), .unset] []))
          refine own_go (fun _ kS => XS.iload X16.here hx rfl (hb hby at_142) rfl kS) ?_
          show own_Run p e below _ (T16.setTop (mkF m 144 #[.val (.int p1), .val (.int p2), .val (.int p3), .val (.int p4), .val (.int p5), .val (.int p6), .val (.ref b1), .val (.int (p6 &&& (7 : Int32))), .val (.int (1 : Int32)), .val (.int rr), .val (.int (((p6.toUInt32 >>> ((3 : Int32) &&& 31).toUInt32).toInt32) &&& (7 : Int32))), .val (.int xx), .val (.int (1 : Int32)), .unset] [(.int xx)]))
          refine own_go (fun _ kS => XS.iload X16.here hx rfl (hb hby at_144) rfl kS) ?_
          show own_Run p e below _ (T16.setTop (mkF m 146 #[.val (.int p1), .val (.int p2), .val (.int p3), .val (.int p4), .val (.int p5), .val (.int p6), .val (.ref b1), .val (.int (p6 &&& (7 : Int32))), .val (.int (1 : Int32)), .val (.int rr), .val (.int (((p6.toUInt32 >>> ((3 : Int32) &&& 31).toUInt32).toInt32) &&& (7 : Int32))), .val (.int xx), .val (.int (1 : Int32)), .unset] [(.int rr), (.int xx)]))
          by_cases hc146 : xx = rr
          · refine own_go (fun _ kS => XS.icmpYes X16.here hx rfl (pc0 := 146) (pc' := 153) rfl (hb hby at_146) rfl (teq hc146).1 (by decide) (by decide) kS) ?_
            show own_Run p e below _ (T16.setTop (mkF m 153 #[.val (.int p1), .val (.int p2), .val (.int p3), .val (.int p4), .val (.int p5), .val (.int p6), .val (.ref b1), .val (.int (p6 &&& (7 : Int32))), .val (.int (1 : Int32)), .val (.int rr), .val (.int (((p6.toUInt32 >>> ((3 : Int32) &&& 31).toUInt32).toInt32) &&& (7 : Int32))), .val (.int xx), .val (.int (1 : Int32)), .unset] []))
            refine own_go (fun _ kS => XS.iconst X16.here hx rfl (hb hby at_153) kS) ?_
            show own_Run p e below _ (T16.setTop (mkF m 154 #[.val (.int p1), .val (.int p2), .val (.int p3), .val (.int p4), .val (.int p5), .val (.int p6), .val (.ref b1), .val (.int (p6 &&& (7 : Int32))), .val (.int (1 : Int32)), .val (.int rr), .val (.int (((p6.toUInt32 >>> ((3 : Int32) &&& 31).toUInt32).toInt32) &&& (7 : Int32))), .val (.int xx), .val (.int (1 : Int32)), .unset] [(.int (0 : Int32))]))
            refine own_go (fun _ kS => XS.istore X16.here hx rfl (hb hby at_154) rfl (l' := #[.val (.int p1), .val (.int p2), .val (.int p3), .val (.int p4), .val (.int p5), .val (.int p6), .val (.ref b1), .val (.int (p6 &&& (7 : Int32))), .val (.int (1 : Int32)), .val (.int rr), .val (.int (((p6.toUInt32 >>> ((3 : Int32) &&& 31).toUInt32).toInt32) &&& (7 : Int32))), .val (.int xx), .val (.int (1 : Int32)), .val (.int (0 : Int32))]) rfl kS) ?_
            show own_Run p e below _ (T16.setTop (mkF m 156 #[.val (.int p1), .val (.int p2), .val (.int p3), .val (.int p4), .val (.int p5), .val (.int p6), .val (.ref b1), .val (.int (p6 &&& (7 : Int32))), .val (.int (1 : Int32)), .val (.int rr), .val (.int (((p6.toUInt32 >>> ((3 : Int32) &&& 31).toUInt32).toInt32) &&& (7 : Int32))), .val (.int xx), .val (.int (1 : Int32)), .val (.int (0 : Int32))] []))
            refine own_go (fun _ kS => XS.aload X16.here hx rfl (hb hby at_156) rfl rfl kS) ?_
            show own_Run p e below _ (T16.setTop (mkF m 158 #[.val (.int p1), .val (.int p2), .val (.int p3), .val (.int p4), .val (.int p5), .val (.int p6), .val (.ref b1), .val (.int (p6 &&& (7 : Int32))), .val (.int (1 : Int32)), .val (.int rr), .val (.int (((p6.toUInt32 >>> ((3 : Int32) &&& 31).toUInt32).toInt32) &&& (7 : Int32))), .val (.int xx), .val (.int (1 : Int32)), .val (.int (0 : Int32))] [(.ref b1)]))
            refine own_go (fun _ kS => XS.iload X16.here hx rfl (hb hby at_158) rfl kS) ?_
            show own_Run p e below _ (T16.setTop (mkF m 160 #[.val (.int p1), .val (.int p2), .val (.int p3), .val (.int p4), .val (.int p5), .val (.int p6), .val (.ref b1), .val (.int (p6 &&& (7 : Int32))), .val (.int (1 : Int32)), .val (.int rr), .val (.int (((p6.toUInt32 >>> ((3 : Int32) &&& 31).toUInt32).toInt32) &&& (7 : Int32))), .val (.int xx), .val (.int (1 : Int32)), .val (.int (0 : Int32))] [(.int xx), (.ref b1)]))
            refine own_callV X16 hx hZ e16 hown (⟨"subjects/SearchTree", "contains", "(I)Z"⟩ : MethodName) (hw _ (List.mem_of_getElem? (i := 42) rfl)) (hw _ (List.mem_of_getElem? (i := 43) rfl)) (hw _ (List.mem_of_getElem? (i := 45) rfl)) (hw _ (List.mem_of_getElem? (i := 44) rfl)) (hw _ (List.mem_of_getElem? (i := 2) rfl)) (hw _ (List.mem_of_getElem? (i := 46) rfl)) (by decide) b1 A15 [(.int xx)] [] (rm_cont l Z a0 hw b1 xx r15 4 w15 (fun y => (fun y => (fun y => (fun y => (fun y => (fun _ => False) y ∨ y = p1) y ∨ y = p2) y ∨ y = p3) y ∨ y = p4) y ∧ ¬ y = rr) h15 F15_root hT15) (by decide) 0 (by decide) (by decide) (by decide) rfl (by rw [hml]; rfl) (lenOf own_pd5 rfl) rfl (by show 2 * 0 + _ ≤ _; exact Nat.le_of_eq rfl) (hb hby at_160) (fun v21 h21 L21 T21 Q21 X21 e21 => ?_)
            obtain ⟨zz, rfl, rfl, rfl, hzz⟩ := Q21
            replace N := N.app (Fr.nil n0)
            show own_Run p e below _ (T21.setTop (mkF m 163 #[.val (.int p1), .val (.int p2), .val (.int p3), .val (.int p4), .val (.int p5), .val (.int p6), .val (.ref b1), .val (.int (p6 &&& (7 : Int32))), .val (.int (1 : Int32)), .val (.int rr), .val (.int (((p6.toUInt32 >>> ((3 : Int32) &&& 31).toUInt32).toInt32) &&& (7 : Int32))), .val (.int xx), .val (.int (1 : Int32)), .val (.int (0 : Int32))] [(.int zz)]))
            refine own_go (fun _ kS => XS.iload X21.here hx rfl (hb hby at_163) rfl kS) ?_
            show own_Run p e below _ (T21.setTop (mkF m 165 #[.val (.int p1), .val (.int p2), .val (.int p3), .val (.int p4), .val (.int p5), .val (.int p6), .val (.ref b1), .val (.int (p6 &&& (7 : Int32))), .val (.int (1 : Int32)), .val (.int rr), .val (.int (((p6.toUInt32 >>> ((3 : Int32) &&& 31).toUInt32).toInt32) &&& (7 : Int32))), .val (.int xx), .val (.int (1 : Int32)), .val (.int (0 : Int32))] [(.int (0 : Int32)), (.int zz)]))
            refine own_go (fun _ kS => XS.icmpNo X21.here hx rfl (hb hby at_165) rfl (teq (show zz = (0 : Int32) from (hzz.elim (fun q => absurd hc146 q.2.2) (fun q => q.1)))).2 kS) ?_
            show own_Run p e below _ (T21.setTop (mkF m 168 #[.val (.int p1), .val (.int p2), .val (.int p3), .val (.int p4), .val (.int p5), .val (.int p6), .val (.ref b1), .val (.int (p6 &&& (7 : Int32))), .val (.int (1 : Int32)), .val (.int rr), .val (.int (((p6.toUInt32 >>> ((3 : Int32) &&& 31).toUInt32).toInt32) &&& (7 : Int32))), .val (.int xx), .val (.int (1 : Int32)), .val (.int (0 : Int32))] []))
            refine own_go (fun _ kS => XS.iconst X21.here hx rfl (hb hby at_168) kS) ?_
            show own_Run p e below _ (T21.setTop (mkF m 169 #[.val (.int p1), .val (.int p2), .val (.int p3), .val (.int p4), .val (.int p5), .val (.int p6), .val (.ref b1), .val (.int (p6 &&& (7 : Int32))), .val (.int (1 : Int32)), .val (.int rr), .val (.int (((p6.toUInt32 >>> ((3 : Int32) &&& 31).toUInt32).toInt32) &&& (7 : Int32))), .val (.int xx), .val (.int (1 : Int32)), .val (.int (0 : Int32))] [(.int (1 : Int32))]))
            refine own_go (fun _ kS => XS.goto X21.here hx rfl (pc0 := 169) (pc' := 173) rfl (hb hby at_169) (by decide) (by decide) kS) ?_
            show own_Run p e below _ (T21.setTop (mkF m 173 #[.val (.int p1), .val (.int p2), .val (.int p3), .val (.int p4), .val (.int p5), .val (.int p6), .val (.ref b1), .val (.int (p6 &&& (7 : Int32))), .val (.int (1 : Int32)), .val (.int rr), .val (.int (((p6.toUInt32 >>> ((3 : Int32) &&& 31).toUInt32).toInt32) &&& (7 : Int32))), .val (.int xx), .val (.int (1 : Int32)), .val (.int (0 : Int32))] [(.int (1 : Int32))]))
            refine own_retN X21 hx (t := .boolean) hret hlk (by simp) (hb hby at_173) (by decide) (by decide) ?_
            exact ⟨rfl, N⟩
          · refine own_go (fun _ kS => XS.icmpNo X16.here hx rfl (hb hby at_146) rfl (feq hc146).1 kS) ?_
            show own_Run p e below _ (T16.setTop (mkF m 149 #[.val (.int p1), .val (.int p2), .val (.int p3), .val (.int p4), .val (.int p5), .val (.int p6), .val (.ref b1), .val (.int (p6 &&& (7 : Int32))), .val (.int (1 : Int32)), .val (.int rr), .val (.int (((p6.toUInt32 >>> ((3 : Int32) &&& 31).toUInt32).toInt32) &&& (7 : Int32))), .val (.int xx), .val (.int (1 : Int32)), .unset] []))
            refine own_go (fun _ kS => XS.iconst X16.here hx rfl (hb hby at_149) kS) ?_
            show own_Run p e below _ (T16.setTop (mkF m 150 #[.val (.int p1), .val (.int p2), .val (.int p3), .val (.int p4), .val (.int p5), .val (.int p6), .val (.ref b1), .val (.int (p6 &&& (7 : Int32))), .val (.int (1 : Int32)), .val (.int rr), .val (.int (((p6.toUInt32 >>> ((3 : Int32) &&& 31).toUInt32).toInt32) &&& (7 : Int32))), .val (.int xx), .val (.int (1 : Int32)), .unset] [(.int (1 : Int32))]))
            refine own_go (fun _ kS => XS.goto X16.here hx rfl (pc0 := 150) (pc' := 154) rfl (hb hby at_150) (by decide) (by decide) kS) ?_
            show own_Run p e below _ (T16.setTop (mkF m 154 #[.val (.int p1), .val (.int p2), .val (.int p3), .val (.int p4), .val (.int p5), .val (.int p6), .val (.ref b1), .val (.int (p6 &&& (7 : Int32))), .val (.int (1 : Int32)), .val (.int rr), .val (.int (((p6.toUInt32 >>> ((3 : Int32) &&& 31).toUInt32).toInt32) &&& (7 : Int32))), .val (.int xx), .val (.int (1 : Int32)), .unset] [(.int (1 : Int32))]))
            refine own_go (fun _ kS => XS.istore X16.here hx rfl (hb hby at_154) rfl (l' := #[.val (.int p1), .val (.int p2), .val (.int p3), .val (.int p4), .val (.int p5), .val (.int p6), .val (.ref b1), .val (.int (p6 &&& (7 : Int32))), .val (.int (1 : Int32)), .val (.int rr), .val (.int (((p6.toUInt32 >>> ((3 : Int32) &&& 31).toUInt32).toInt32) &&& (7 : Int32))), .val (.int xx), .val (.int (1 : Int32)), .val (.int (1 : Int32))]) rfl kS) ?_
            show own_Run p e below _ (T16.setTop (mkF m 156 #[.val (.int p1), .val (.int p2), .val (.int p3), .val (.int p4), .val (.int p5), .val (.int p6), .val (.ref b1), .val (.int (p6 &&& (7 : Int32))), .val (.int (1 : Int32)), .val (.int rr), .val (.int (((p6.toUInt32 >>> ((3 : Int32) &&& 31).toUInt32).toInt32) &&& (7 : Int32))), .val (.int xx), .val (.int (1 : Int32)), .val (.int (1 : Int32))] []))
            refine own_go (fun _ kS => XS.aload X16.here hx rfl (hb hby at_156) rfl rfl kS) ?_
            show own_Run p e below _ (T16.setTop (mkF m 158 #[.val (.int p1), .val (.int p2), .val (.int p3), .val (.int p4), .val (.int p5), .val (.int p6), .val (.ref b1), .val (.int (p6 &&& (7 : Int32))), .val (.int (1 : Int32)), .val (.int rr), .val (.int (((p6.toUInt32 >>> ((3 : Int32) &&& 31).toUInt32).toInt32) &&& (7 : Int32))), .val (.int xx), .val (.int (1 : Int32)), .val (.int (1 : Int32))] [(.ref b1)]))
            refine own_go (fun _ kS => XS.iload X16.here hx rfl (hb hby at_158) rfl kS) ?_
            show own_Run p e below _ (T16.setTop (mkF m 160 #[.val (.int p1), .val (.int p2), .val (.int p3), .val (.int p4), .val (.int p5), .val (.int p6), .val (.ref b1), .val (.int (p6 &&& (7 : Int32))), .val (.int (1 : Int32)), .val (.int rr), .val (.int (((p6.toUInt32 >>> ((3 : Int32) &&& 31).toUInt32).toInt32) &&& (7 : Int32))), .val (.int xx), .val (.int (1 : Int32)), .val (.int (1 : Int32))] [(.int xx), (.ref b1)]))
            refine own_callV X16 hx hZ e16 hown (⟨"subjects/SearchTree", "contains", "(I)Z"⟩ : MethodName) (hw _ (List.mem_of_getElem? (i := 42) rfl)) (hw _ (List.mem_of_getElem? (i := 43) rfl)) (hw _ (List.mem_of_getElem? (i := 45) rfl)) (hw _ (List.mem_of_getElem? (i := 44) rfl)) (hw _ (List.mem_of_getElem? (i := 2) rfl)) (hw _ (List.mem_of_getElem? (i := 46) rfl)) (by decide) b1 A15 [(.int xx)] [] (rm_cont l Z a0 hw b1 xx r15 4 w15 (fun y => (fun y => (fun y => (fun y => (fun y => (fun _ => False) y ∨ y = p1) y ∨ y = p2) y ∨ y = p3) y ∨ y = p4) y ∧ ¬ y = rr) h15 F15_root hT15) (by decide) 0 (by decide) (by decide) (by decide) rfl (by rw [hml]; rfl) (lenOf own_pd5 rfl) rfl (by show 2 * 0 + _ ≤ _; exact Nat.le_of_eq rfl) (hb hby at_160) (fun v22 h22 L22 T22 Q22 X22 e22 => ?_)
            obtain ⟨zz, rfl, rfl, rfl, hzz⟩ := Q22
            replace N := N.app (Fr.nil n0)
            show own_Run p e below _ (T22.setTop (mkF m 163 #[.val (.int p1), .val (.int p2), .val (.int p3), .val (.int p4), .val (.int p5), .val (.int p6), .val (.ref b1), .val (.int (p6 &&& (7 : Int32))), .val (.int (1 : Int32)), .val (.int rr), .val (.int (((p6.toUInt32 >>> ((3 : Int32) &&& 31).toUInt32).toInt32) &&& (7 : Int32))), .val (.int xx), .val (.int (1 : Int32)), .val (.int (1 : Int32))] [(.int zz)]))
            refine own_go (fun _ kS => XS.iload X22.here hx rfl (hb hby at_163) rfl kS) ?_
            show own_Run p e below _ (T22.setTop (mkF m 165 #[.val (.int p1), .val (.int p2), .val (.int p3), .val (.int p4), .val (.int p5), .val (.int p6), .val (.ref b1), .val (.int (p6 &&& (7 : Int32))), .val (.int (1 : Int32)), .val (.int rr), .val (.int (((p6.toUInt32 >>> ((3 : Int32) &&& 31).toUInt32).toInt32) &&& (7 : Int32))), .val (.int xx), .val (.int (1 : Int32)), .val (.int (1 : Int32))] [(.int (1 : Int32)), (.int zz)]))
            refine own_go (fun _ kS => XS.icmpNo X22.here hx rfl (hb hby at_165) rfl (teq (show zz = (1 : Int32) from (hzz.elim (fun q => q.1) (fun q => absurd (⟨(Or.inl (Or.inr hc116)), hc146⟩ : _ ∧ _) q.2)))).2 kS) ?_
            show own_Run p e below _ (T22.setTop (mkF m 168 #[.val (.int p1), .val (.int p2), .val (.int p3), .val (.int p4), .val (.int p5), .val (.int p6), .val (.ref b1), .val (.int (p6 &&& (7 : Int32))), .val (.int (1 : Int32)), .val (.int rr), .val (.int (((p6.toUInt32 >>> ((3 : Int32) &&& 31).toUInt32).toInt32) &&& (7 : Int32))), .val (.int xx), .val (.int (1 : Int32)), .val (.int (1 : Int32))] []))
            refine own_go (fun _ kS => XS.iconst X22.here hx rfl (hb hby at_168) kS) ?_
            show own_Run p e below _ (T22.setTop (mkF m 169 #[.val (.int p1), .val (.int p2), .val (.int p3), .val (.int p4), .val (.int p5), .val (.int p6), .val (.ref b1), .val (.int (p6 &&& (7 : Int32))), .val (.int (1 : Int32)), .val (.int rr), .val (.int (((p6.toUInt32 >>> ((3 : Int32) &&& 31).toUInt32).toInt32) &&& (7 : Int32))), .val (.int xx), .val (.int (1 : Int32)), .val (.int (1 : Int32))] [(.int (1 : Int32))]))
            refine own_go (fun _ kS => XS.goto X22.here hx rfl (pc0 := 169) (pc' := 173) rfl (hb hby at_169) (by decide) (by decide) kS) ?_
            show own_Run p e below _ (T22.setTop (mkF m 173 #[.val (.int p1), .val (.int p2), .val (.int p3), .val (.int p4), .val (.int p5), .val (.int p6), .val (.ref b1), .val (.int (p6 &&& (7 : Int32))), .val (.int (1 : Int32)), .val (.int rr), .val (.int (((p6.toUInt32 >>> ((3 : Int32) &&& 31).toUInt32).toInt32) &&& (7 : Int32))), .val (.int xx), .val (.int (1 : Int32)), .val (.int (1 : Int32))] [(.int (1 : Int32))]))
            refine own_retN X22 hx (t := .boolean) hret hlk (by simp) (hb hby at_173) (by decide) (by decide) ?_
            exact ⟨rfl, N⟩
        · refine own_go (fun _ kS => XS.icmpNo X16.here hx rfl (hb hby at_116) rfl (feq hc116).1 kS) ?_
          show own_Run p e below _ (T16.setTop (mkF m 119 #[.val (.int p1), .val (.int p2), .val (.int p3), .val (.int p4), .val (.int p5), .val (.int p6), .val (.ref b1), .val (.int (p6 &&& (7 : Int32))), .val (.int (1 : Int32)), .val (.int rr), .val (.int (((p6.toUInt32 >>> ((3 : Int32) &&& 31).toUInt32).toInt32) &&& (7 : Int32))), .val (.int xx), .unset, .unset] []))
          refine own_go (fun _ kS => XS.iload X16.here hx rfl (hb hby at_119) rfl kS) ?_
          show own_Run p e below _ (T16.setTop (mkF m 121 #[.val (.int p1), .val (.int p2), .val (.int p3), .val (.int p4), .val (.int p5), .val (.int p6), .val (.ref b1), .val (.int (p6 &&& (7 : Int32))), .val (.int (1 : Int32)), .val (.int rr), .val (.int (((p6.toUInt32 >>> ((3 : Int32) &&& 31).toUInt32).toInt32) &&& (7 : Int32))), .val (.int xx), .unset, .unset] [(.int xx)]))
          refine own_go (fun _ kS => XS.iloadN X16.here hx rfl (hb hby at_121) rfl kS) ?_
          show own_Run p e below _ (T16.setTop (mkF m 122 #[.val (.int p1), .val (.int p2), .val (.int p3), .val (.int p4), .val (.int p5), .val (.int p6), .val (.ref b1), .val (.int (p6 &&& (7 : Int32))), .val (.int (1 : Int32)), .val (.int rr), .val (.int (((p6.toUInt32 >>> ((3 : Int32) &&& 31).toUInt32).toInt32) &&& (7 : Int32))), .val (.int xx), .unset, .unset] [(.int p4), (.int xx)]))
          by_cases hc122 : xx = p4
          · refine own_go (fun _ kS => XS.icmpNo X16.here hx rfl (hb hby at_122) rfl (teq hc122).2 kS) ?_
            show own_Run p e below _ (T16.setTop (mkF m 125 #[.val (.int p1), .val (.int p2), .val (.int p3), .val (.int p4), .val (.int p5), .val (.int p6), .val (.ref b1), .val (.int (p6 &&& (7 : Int32))), .val (.int (1 : Int32)), .val (.int rr), .val (.int (((p6.toUInt32 >>> ((3 : Int32) &&& 31).toUInt32).toInt32) &&& (7 : Int32))), .val (.int xx), .unset, .unset] []))
            refine own_go (fun _ kS => XS.iconst X16.here hx rfl (hb hby at_125) kS) ?_
            show own_Run p e below _ (T16.setTop (mkF m 126 #[.val (.int p1), .val (.int p2), .val (.int p3), .val (.int p4), .val (.int p5), .val (.int p6), .val (.ref b1), .val (.int (p6 &&& (7 : Int32))), .val (.int (1 : Int32)), .val (.int rr), .val (.int (((p6.toUInt32 >>> ((3 : Int32) &&& 31).toUInt32).toInt32) &&& (7 : Int32))), .val (.int xx), .unset, .unset] [(.int (1 : Int32))]))
            refine own_go (fun _ kS => XS.goto X16.here hx rfl (pc0 := 126) (pc' := 130) rfl (hb hby at_126) (by decide) (by decide) kS) ?_
            show own_Run p e below _ (T16.setTop (mkF m 130 #[.val (.int p1), .val (.int p2), .val (.int p3), .val (.int p4), .val (.int p5), .val (.int p6), .val (.ref b1), .val (.int (p6 &&& (7 : Int32))), .val (.int (1 : Int32)), .val (.int rr), .val (.int (((p6.toUInt32 >>> ((3 : Int32) &&& 31).toUInt32).toInt32) &&& (7 : Int32))), .val (.int xx), .unset, .unset] [(.int (1 : Int32))]))
            refine own_go (fun _ kS => XS.istore X16.here hx rfl (hb hby at_130) rfl (l' := #[.val (.int p1), .val (.int p2), .val (.int p3), .val (.int p4), .val (.int p5), .val (.int p6), .val (.ref b1), .val (.int (p6 &&& (7 : Int32))), .val (.int (1 : Int32)), .val (.int rr), .val (.int (((p6.toUInt32 >>> ((3 : Int32) &&& 31).toUInt32).toInt32) &&& (7 : Int32))), .val (.int xx), .val (.int (1 : Int32)), .unset]) rfl kS) ?_
            show own_Run p e below _ (T16.setTop (mkF m 132 #[.val (.int p1), .val (.int p2), .val (.int p3), .val (.int p4), .val (.int p5), .val (.int p6), .val (.ref b1), .val (.int (p6 &&& (7 : Int32))), .val (.int (1 : Int32)), .val (.int rr), .val (.int (((p6.toUInt32 >>> ((3 : Int32) &&& 31).toUInt32).toInt32) &&& (7 : Int32))), .val (.int xx), .val (.int (1 : Int32)), .unset] []))
            refine own_go (fun _ kS => XS.iload X16.here hx rfl (hb hby at_132) rfl kS) ?_
            show own_Run p e below _ (T16.setTop (mkF m 134 #[.val (.int p1), .val (.int p2), .val (.int p3), .val (.int p4), .val (.int p5), .val (.int p6), .val (.ref b1), .val (.int (p6 &&& (7 : Int32))), .val (.int (1 : Int32)), .val (.int rr), .val (.int (((p6.toUInt32 >>> ((3 : Int32) &&& 31).toUInt32).toInt32) &&& (7 : Int32))), .val (.int xx), .val (.int (1 : Int32)), .unset] [(.int (1 : Int32))]))
            refine own_go (fun _ kS => XS.ifNo X16.here hx rfl (hb hby at_134) rfl ((if0 _ _).trans (feq (show ¬ ((1 : Int32) = (0 : Int32)) from (by decide))).1) kS) ?_
            show own_Run p e below _ (T16.setTop (mkF m 137 #[.val (.int p1), .val (.int p2), .val (.int p3), .val (.int p4), .val (.int p5), .val (.int p6), .val (.ref b1), .val (.int (p6 &&& (7 : Int32))), .val (.int (1 : Int32)), .val (.int rr), .val (.int (((p6.toUInt32 >>> ((3 : Int32) &&& 31).toUInt32).toInt32) &&& (7 : Int32))), .val (.int xx), .val (.int (1 : Int32)), .unset] []))
            refine own_go (fun _ kS => XS.iload X16.here hx rfl (hb hby at_137) rfl kS) ?_
            show own_Run p e below _ (T16.setTop (mkF m 139 #[.val (.int p1), .val (.int p2), .val (.int p3), .val (.int p4), .val (.int p5), .val (.int p6), .val (.ref b1), .val (.int (p6 &&& (7 : Int32))), .val (.int (1 : Int32)), .val (.int rr), .val (.int (((p6.toUInt32 >>> ((3 : Int32) &&& 31).toUInt32).toInt32) &&& (7 : Int32))), .val (.int xx), .val (.int (1 : Int32)), .unset] [(.int (1 : Int32))]))
            refine own_go (fun _ kS => XS.ifNo X16.here hx rfl (hb hby at_139) rfl ((if0 _ _).trans (feq (show ¬ ((1 : Int32) = (0 : Int32)) from (by decide))).1) kS) ?_
            show own_Run p e below _ (T16.setTop (mkF m 142 #[.val (.int p1), .val (.int p2), .val (.int p3), .val (.int p4), .val (.int p5), .val (.int p6), .val (.ref b1), .val (.int (p6 &&& (7 : Int32))), .val (.int (1 : Int32)), .val (.int rr), .val (.int (((p6.toUInt32 >>> ((3 : Int32) &&& 31).toUInt32).toInt32) &&& (7 : Int32))), .val (.int xx), .val (.int (1 : Int32)), .unset] []))
            refine own_go (fun _ kS => XS.iload X16.here hx rfl (hb hby at_142) rfl kS) ?_
            show own_Run p e below _ (T16.setTop (mkF m 144 #[.val (.int p1), .val (.int p2), .val (.int p3), .val (.int p4), .val (.int p5), .val (.int p6), .val (.ref b1), .val (.int (p6 &&& (7 : Int32))), .val (.int (1 : Int32)), .val (.int rr), .val (.int (((p6.toUInt32 >>> ((3 : Int32) &&& 31).toUInt32).toInt32) &&& (7 : Int32))), .val (.int xx), .val (.int (1 : Int32)), .unset] [(.int xx)]))
            refine own_go (fun _ kS => XS.iload X16.here hx rfl (hb hby at_144) rfl kS) ?_
            show own_Run p e below _ (T16.setTop (mkF m 146 #[.val (.int p1), .val (.int p2), .val (.int p3), .val (.int p4), .val (.int p5), .val (.int p6), .val (.ref b1), .val (.int (p6 &&& (7 : Int32))), .val (.int (1 : Int32)), .val (.int rr), .val (.int (((p6.toUInt32 >>> ((3 : Int32) &&& 31).toUInt32).toInt32) &&& (7 : Int32))), .val (.int xx), .val (.int (1 : Int32)), .unset] [(.int rr), (.int xx)]))
            by_cases hc146 : xx = rr
            · refine own_go (fun _ kS => XS.icmpYes X16.here hx rfl (pc0 := 146) (pc' := 153) rfl (hb hby at_146) rfl (teq hc146).1 (by decide) (by decide) kS) ?_
              show own_Run p e below _ (T16.setTop (mkF m 153 #[.val (.int p1), .val (.int p2), .val (.int p3), .val (.int p4), .val (.int p5), .val (.int p6), .val (.ref b1), .val (.int (p6 &&& (7 : Int32))), .val (.int (1 : Int32)), .val (.int rr), .val (.int (((p6.toUInt32 >>> ((3 : Int32) &&& 31).toUInt32).toInt32) &&& (7 : Int32))), .val (.int xx), .val (.int (1 : Int32)), .unset] []))
              refine own_go (fun _ kS => XS.iconst X16.here hx rfl (hb hby at_153) kS) ?_
              show own_Run p e below _ (T16.setTop (mkF m 154 #[.val (.int p1), .val (.int p2), .val (.int p3), .val (.int p4), .val (.int p5), .val (.int p6), .val (.ref b1), .val (.int (p6 &&& (7 : Int32))), .val (.int (1 : Int32)), .val (.int rr), .val (.int (((p6.toUInt32 >>> ((3 : Int32) &&& 31).toUInt32).toInt32) &&& (7 : Int32))), .val (.int xx), .val (.int (1 : Int32)), .unset] [(.int (0 : Int32))]))
              refine own_go (fun _ kS => XS.istore X16.here hx rfl (hb hby at_154) rfl (l' := #[.val (.int p1), .val (.int p2), .val (.int p3), .val (.int p4), .val (.int p5), .val (.int p6), .val (.ref b1), .val (.int (p6 &&& (7 : Int32))), .val (.int (1 : Int32)), .val (.int rr), .val (.int (((p6.toUInt32 >>> ((3 : Int32) &&& 31).toUInt32).toInt32) &&& (7 : Int32))), .val (.int xx), .val (.int (1 : Int32)), .val (.int (0 : Int32))]) rfl kS) ?_
              show own_Run p e below _ (T16.setTop (mkF m 156 #[.val (.int p1), .val (.int p2), .val (.int p3), .val (.int p4), .val (.int p5), .val (.int p6), .val (.ref b1), .val (.int (p6 &&& (7 : Int32))), .val (.int (1 : Int32)), .val (.int rr), .val (.int (((p6.toUInt32 >>> ((3 : Int32) &&& 31).toUInt32).toInt32) &&& (7 : Int32))), .val (.int xx), .val (.int (1 : Int32)), .val (.int (0 : Int32))] []))
              refine own_go (fun _ kS => XS.aload X16.here hx rfl (hb hby at_156) rfl rfl kS) ?_
              show own_Run p e below _ (T16.setTop (mkF m 158 #[.val (.int p1), .val (.int p2), .val (.int p3), .val (.int p4), .val (.int p5), .val (.int p6), .val (.ref b1), .val (.int (p6 &&& (7 : Int32))), .val (.int (1 : Int32)), .val (.int rr), .val (.int (((p6.toUInt32 >>> ((3 : Int32) &&& 31).toUInt32).toInt32) &&& (7 : Int32))), .val (.int xx), .val (.int (1 : Int32)), .val (.int (0 : Int32))] [(.ref b1)]))
              refine own_go (fun _ kS => XS.iload X16.here hx rfl (hb hby at_158) rfl kS) ?_
              show own_Run p e below _ (T16.setTop (mkF m 160 #[.val (.int p1), .val (.int p2), .val (.int p3), .val (.int p4), .val (.int p5), .val (.int p6), .val (.ref b1), .val (.int (p6 &&& (7 : Int32))), .val (.int (1 : Int32)), .val (.int rr), .val (.int (((p6.toUInt32 >>> ((3 : Int32) &&& 31).toUInt32).toInt32) &&& (7 : Int32))), .val (.int xx), .val (.int (1 : Int32)), .val (.int (0 : Int32))] [(.int xx), (.ref b1)]))
              refine own_callV X16 hx hZ e16 hown (⟨"subjects/SearchTree", "contains", "(I)Z"⟩ : MethodName) (hw _ (List.mem_of_getElem? (i := 42) rfl)) (hw _ (List.mem_of_getElem? (i := 43) rfl)) (hw _ (List.mem_of_getElem? (i := 45) rfl)) (hw _ (List.mem_of_getElem? (i := 44) rfl)) (hw _ (List.mem_of_getElem? (i := 2) rfl)) (hw _ (List.mem_of_getElem? (i := 46) rfl)) (by decide) b1 A15 [(.int xx)] [] (rm_cont l Z a0 hw b1 xx r15 4 w15 (fun y => (fun y => (fun y => (fun y => (fun y => (fun _ => False) y ∨ y = p1) y ∨ y = p2) y ∨ y = p3) y ∨ y = p4) y ∧ ¬ y = rr) h15 F15_root hT15) (by decide) 0 (by decide) (by decide) (by decide) rfl (by rw [hml]; rfl) (lenOf own_pd5 rfl) rfl (by show 2 * 0 + _ ≤ _; exact Nat.le_of_eq rfl) (hb hby at_160) (fun v23 h23 L23 T23 Q23 X23 e23 => ?_)
              obtain ⟨zz, rfl, rfl, rfl, hzz⟩ := Q23
              replace N := N.app (Fr.nil n0)
              show own_Run p e below _ (T23.setTop (mkF m 163 #[.val (.int p1), .val (.int p2), .val (.int p3), .val (.int p4), .val (.int p5), .val (.int p6), .val (.ref b1), .val (.int (p6 &&& (7 : Int32))), .val (.int (1 : Int32)), .val (.int rr), .val (.int (((p6.toUInt32 >>> ((3 : Int32) &&& 31).toUInt32).toInt32) &&& (7 : Int32))), .val (.int xx), .val (.int (1 : Int32)), .val (.int (0 : Int32))] [(.int zz)]))
              refine own_go (fun _ kS => XS.iload X23.here hx rfl (hb hby at_163) rfl kS) ?_
              show own_Run p e below _ (T23.setTop (mkF m 165 #[.val (.int p1), .val (.int p2), .val (.int p3), .val (.int p4), .val (.int p5), .val (.int p6), .val (.ref b1), .val (.int (p6 &&& (7 : Int32))), .val (.int (1 : Int32)), .val (.int rr), .val (.int (((p6.toUInt32 >>> ((3 : Int32) &&& 31).toUInt32).toInt32) &&& (7 : Int32))), .val (.int xx), .val (.int (1 : Int32)), .val (.int (0 : Int32))] [(.int (0 : Int32)), (.int zz)]))
              refine own_go (fun _ kS => XS.icmpNo X23.here hx rfl (hb hby at_165) rfl (teq (show zz = (0 : Int32) from (hzz.elim (fun q => absurd hc146 q.2.2) (fun q => q.1)))).2 kS) ?_
              show own_Run p e below _ (T23.setTop (mkF m 168 #[.val (.int p1), .val (.int p2), .val (.int p3), .val (.int p4), .val (.int p5), .val (.int p6), .val (.ref b1), .val (.int (p6 &&& (7 : Int32))), .val (.int (1 : Int32)), .val (.int rr), .val (.int (((p6.toUInt32 >>> ((3 : Int32) &&& 31).toUInt32).toInt32) &&& (7 : Int32))), .val (.int xx), .val (.int (1 : Int32)), .val (.int (0 : Int32))] []))
              refine own_go (fun _ kS => XS.iconst X23.here hx rfl (hb hby at_168) kS) ?_
              show own_Run p e below _ (T23.setTop (mkF m 169 #[.val (.int p1), .val (.int p2), .val (.int p3), .val (.int p4), .val (.int p5), .val (.int p6), .val (.ref b1), .val (.int (p6 &&& (7 : Int32))), .val (.int (1 : Int32)), .val (.int rr), .val (.int (((p6.toUInt32 >>> ((3 : Int32) &&& 31).toUInt32).toInt32) &&& (7 : Int32))), .val (.int xx), .val (.int (1 : Int32)), .val (.int (0 : Int32))] [(.int (1 : Int32))]))
              refine own_go (fun _ kS => XS.goto X23.here hx rfl (pc0 := 169) (pc' := 173) rfl (hb hby at_169) (by decide) (by decide) kS) ?_
              show own_Run p e below _ (T23.setTop (mkF m 173 #[.val (.int p1), .val (.int p2), .val (.int p3), .val (.int p4), .val (.int p5), .val (.int p6), .val (.ref b1), .val (.int (p6 &&& (7 : Int32))), .val (.int (1 : Int32)), .val (.int rr), .val (.int (((p6.toUInt32 >>> ((3 : Int32) &&& 31).toUInt32).toInt32) &&& (7 : Int32))), .val (.int xx), .val (.int (1 : Int32)), .val (.int (0 : Int32))] [(.int (1 : Int32))]))
              refine own_retN X23 hx (t := .boolean) hret hlk (by simp) (hb hby at_173) (by decide) (by decide) ?_
              exact ⟨rfl, N⟩
            · refine own_go (fun _ kS => XS.icmpNo X16.here hx rfl (hb hby at_146) rfl (feq hc146).1 kS) ?_
              show own_Run p e below _ (T16.setTop (mkF m 149 #[.val (.int p1), .val (.int p2), .val (.int p3), .val (.int p4), .val (.int p5), .val (.int p6), .val (.ref b1), .val (.int (p6 &&& (7 : Int32))), .val (.int (1 : Int32)), .val (.int rr), .val (.int (((p6.toUInt32 >>> ((3 : Int32) &&& 31).toUInt32).toInt32) &&& (7 : Int32))), .val (.int xx), .val (.int (1 : Int32)), .unset] []))
              refine own_go (fun _ kS => XS.iconst X16.here hx rfl (hb hby at_149) kS) ?_
              show own_Run p e below _ (T16.setTop (mkF m 150 #[.val (.int p1), .val (.int p2), .val (.int p3), .val (.int p4), .val (.int p5), .val (.int p6), .val (.ref b1), .val (.int (p6 &&& (7 : Int32))), .val (.int (1 : Int32)), .val (.int rr), .val (.int (((p6.toUInt32 >>> ((3 : Int32) &&& 31).toUInt32).toInt32) &&& (7 : Int32))), .val (.int xx), .val (.int (1 : Int32)), .unset] [(.int (1 : Int32))]))
              refine own_go (fun _ kS => XS.goto X16.here hx rfl (pc0 := 150) (pc' := 154) rfl (hb hby at_150) (by decide) (by decide) kS) ?_
              show own_Run p e below _ (T16.setTop (mkF m 154 #[.val (.int p1), .val (.int p2), .val (.int p3), .val (.int p4), .val (.int p5), .val (.int p6), .val (.ref b1), .val (.int (p6 &&& (7 : Int32))), .val (.int (1 : Int32)), .val (.int rr), .val (.int (((p6.toUInt32 >>> ((3 : Int32) &&& 31).toUInt32).toInt32) &&& (7 : Int32))), .val (.int xx), .val (.int (1 : Int32)), .unset] [(.int (1 : Int32))]))
              refine own_go (fun _ kS => XS.istore X16.here hx rfl (hb hby at_154) rfl (l' := #[.val (.int p1), .val (.int p2), .val (.int p3), .val (.int p4), .val (.int p5), .val (.int p6), .val (.ref b1), .val (.int (p6 &&& (7 : Int32))), .val (.int (1 : Int32)), .val (.int rr), .val (.int (((p6.toUInt32 >>> ((3 : Int32) &&& 31).toUInt32).toInt32) &&& (7 : Int32))), .val (.int xx), .val (.int (1 : Int32)), .val (.int (1 : Int32))]) rfl kS) ?_
              show own_Run p e below _ (T16.setTop (mkF m 156 #[.val (.int p1), .val (.int p2), .val (.int p3), .val (.int p4), .val (.int p5), .val (.int p6), .val (.ref b1), .val (.int (p6 &&& (7 : Int32))), .val (.int (1 : Int32)), .val (.int rr), .val (.int (((p6.toUInt32 >>> ((3 : Int32) &&& 31).toUInt32).toInt32) &&& (7 : Int32))), .val (.int xx), .val (.int (1 : Int32)), .val (.int (1 : Int32))] []))
              refine own_go (fun _ kS => XS.aload X16.here hx rfl (hb hby at_156) rfl rfl kS) ?_
              show own_Run p e below _ (T16.setTop (mkF m 158 #[.val (.int p1), .val (.int p2), .val (.int p3), .val (.int p4), .val (.int p5), .val (.int p6), .val (.ref b1), .val (.int (p6 &&& (7 : Int32))), .val (.int (1 : Int32)), .val (.int rr), .val (.int (((p6.toUInt32 >>> ((3 : Int32) &&& 31).toUInt32).toInt32) &&& (7 : Int32))), .val (.int xx), .val (.int (1 : Int32)), .val (.int (1 : Int32))] [(.ref b1)]))
              refine own_go (fun _ kS => XS.iload X16.here hx rfl (hb hby at_158) rfl kS) ?_
              show own_Run p e below _ (T16.setTop (mkF m 160 #[.val (.int p1), .val (.int p2), .val (.int p3), .val (.int p4), .val (.int p5), .val (.int p6), .val (.ref b1), .val (.int (p6 &&& (7 : Int32))), .val (.int (1 : Int32)), .val (.int rr), .val (.int (((p6.toUInt32 >>> ((3 : Int32) &&& 31).toUInt32).toInt32) &&& (7 : Int32))), .val (.int xx), .val (.int (1 : Int32)), .val (.int (1 : Int32))] [(.int xx), (.ref b1)]))
              refine own_callV X16 hx hZ e16 hown (⟨"subjects/SearchTree", "contains", "(I)Z"⟩ : MethodName) (hw _ (List.mem_of_getElem? (i := 42) rfl)) (hw _ (List.mem_of_getElem? (i := 43) rfl)) (hw _ (List.mem_of_getElem? (i := 45) rfl)) (hw _ (List.mem_of_getElem? (i := 44) rfl)) (hw _ (List.mem_of_getElem? (i := 2) rfl)) (hw _ (List.mem_of_getElem? (i := 46) rfl)) (by decide) b1 A15 [(.int xx)] [] (rm_cont l Z a0 hw b1 xx r15 4 w15 (fun y => (fun y => (fun y => (fun y => (fun y => (fun _ => False) y ∨ y = p1) y ∨ y = p2) y ∨ y = p3) y ∨ y = p4) y ∧ ¬ y = rr) h15 F15_root hT15) (by decide) 0 (by decide) (by decide) (by decide) rfl (by rw [hml]; rfl) (lenOf own_pd5 rfl) rfl (by show 2 * 0 + _ ≤ _; exact Nat.le_of_eq rfl) (hb hby at_160) (fun v24 h24 L24 T24 Q24 X24 e24 => ?_)
              obtain ⟨zz, rfl, rfl, rfl, hzz⟩ := Q24
              replace N := N.app (Fr.nil n0)
              show own_Run p e below _ (T24.setTop (mkF m 163 #[.val (.int p1), .val (.int p2), .val (.int p3), .val (.int p4), .val (.int p5), .val (.int p6), .val (.ref b1), .val (.int (p6 &&& (7 : Int32))), .val (.int (1 : Int32)), .val (.int rr), .val (.int (((p6.toUInt32 >>> ((3 : Int32) &&& 31).toUInt32).toInt32) &&& (7 : Int32))), .val (.int xx), .val (.int (1 : Int32)), .val (.int (1 : Int32))] [(.int zz)]))
              refine own_go (fun _ kS => XS.iload X24.here hx rfl (hb hby at_163) rfl kS) ?_
              show own_Run p e below _ (T24.setTop (mkF m 165 #[.val (.int p1), .val (.int p2), .val (.int p3), .val (.int p4), .val (.int p5), .val (.int p6), .val (.ref b1), .val (.int (p6 &&& (7 : Int32))), .val (.int (1 : Int32)), .val (.int rr), .val (.int (((p6.toUInt32 >>> ((3 : Int32) &&& 31).toUInt32).toInt32) &&& (7 : Int32))), .val (.int xx), .val (.int (1 : Int32)), .val (.int (1 : Int32))] [(.int (1 : Int32)), (.int zz)]))
              refine own_go (fun _ kS => XS.icmpNo X24.here hx rfl (hb hby at_165) rfl (teq (show zz = (1 : Int32) from (hzz.elim (fun q => q.1) (fun q => absurd (⟨(Or.inr hc122), hc146⟩ : _ ∧ _) q.2)))).2 kS) ?_
              show own_Run p e below _ (T24.setTop (mkF m 168 #[.val (.int p1), .val (.int p2), .val (.int p3), .val (.int p4), .val (.int p5), .val (.int p6), .val (.ref b1), .val (.int (p6 &&& (7 : Int32))), .val (.int (1 : Int32)), .val (.int rr), .val (.int (((p6.toUInt32 >>> ((3 : Int32) &&& 31).toUInt32).toInt32) &&& (7 : Int32))), .val (.int xx), .val (.int (1 : Int32)), .val (.int (1 : Int32))] []))
              refine own_go (fun _ kS => XS.iconst X24.here hx rfl (hb hby at_168) kS) ?_
              show own_Run p e below _ (T24.setTop (mkF m 169 #[.val (.int p1), .val (.int p2), .val (.int p3), .val (.int p4), .val (.int p5), .val (.int p6), .val (.ref b1), .val (.int (p6 &&& (7 : Int32))), .val (.int (1 : Int32)), .val (.int rr), .val (.int (((p6.toUInt32 >>> ((3 : Int32) &&& 31).toUInt32).toInt32) &&& (7 : Int32))), .val (.int xx), .val (.int (1 : Int32)), .val (.int (1 : Int32))] [(.int (1 : Int32))]))
              refine own_go (fun _ kS => XS.goto X24.here hx rfl (pc0 := 169) (pc' := 173) rfl (hb hby at_169) (by decide) (by decide) kS) ?_
              show own_Run p e below _ (T24.setTop (mkF m 173 #[.val (.int p1), .val (.int p2), .val (.int p3), .val (.int p4), .val (.int p5), .val (.int p6), .val (.ref b1), .val (.int (p6 &&& (7 : Int32))), .val (.int (1 : Int32)), .val (.int rr), .val (.int (((p6.toUInt32 >>> ((3 : Int32) &&& 31).toUInt32).toInt32) &&& (7 : Int32))), .val (.int xx), .val (.int (1 : Int32)), .val (.int (1 : Int32))] [(.int (1 : Int32))]))
              refine own_retN X24 hx (t := .boolean) hret hlk (by simp) (hb hby at_173) (by decide) (by decide) ?_
              exact ⟨rfl, N⟩
          · refine own_go (fun _ kS => XS.icmpYes X16.here hx rfl (pc0 := 122) (pc' := 129) rfl (hb hby at_122) rfl (feq hc122).2 (by decide) (by decide) kS) ?_
            show own_Run p e below _ (T16.setTop (mkF m 129 #[.val (.int p1), .val (.int p2), .val (.int p3), .val (.int p4), .val (.int p5), .val (.int p6), .val (.ref b1), .val (.int (p6 &&& (7 : Int32))), .val (.int (1 : Int32)), .val (.int rr), .val (.int (((p6.toUInt32 >>> ((3 : Int32) &&& 31).toUInt32).toInt32) &&& (7 : Int32))), .val (.int xx), .unset, .unset] []))
            refine own_go (fun _ kS => XS.iconst X16.here hx rfl (hb hby at_129) kS) ?_
            show own_Run p e below _ (T16.setTop (mkF m 130 #[.val (.int p1), .val (.int p2), .val (.int p3), .val (.int p4), .val (.int p5), .val (.int p6), .val (.ref b1), .val (.int (p6 &&& (7 : Int32))), .val (.int (1 : Int32)), .val (.int rr), .val (.int (((p6.toUInt32 >>> ((3 : Int32) &&& 31).toUInt32).toInt32) &&& (7 : Int32))), .val (.int xx), .unset, .unset] [(.int (0 : Int32))]))
            refine own_go (fun _ kS => XS.istore X16.here hx rfl (hb hby at_130) rfl (l' := #[.val (.int p1), .val (.int p2), .val (.int p3), .val (.int p4), .val (.int p5), .val (.int p6), .val (.ref b1), .val (.int (p6 &&& (7 : Int32))), .val (.int (1 : Int32)), .val (.int rr), .val (.int (((p6.toUInt32 >>> ((3 : Int32) &&& 31).toUInt32).toInt32) &&& (7 : Int32))), .val (.int xx), .val (.int (0 : Int32)), .unset]) rfl kS) ?_
            show own_Run p e below _ (T16.setTop (mkF m 132 #[.val (.int p1), .val (.int p2), .val (.int p3), .val (.int p4), .val (.int p5), .val (.int p6), .val (.ref b1), .val (.int (p6 &&& (7 : Int32))), .val (.int (1 : Int32)), .val (.int rr), .val (.int (((p6.toUInt32 >>> ((3 : Int32) &&& 31).toUInt32).toInt32) &&& (7 : Int32))), .val (.int xx), .val (.int (0 : Int32)), .unset] []))
            refine own_go (fun _ kS => XS.iload X16.here hx rfl (hb hby at_132) rfl kS) ?_
            show own_Run p e below _ (T16.setTop (mkF m 134 #[.val (.int p1), .val (.int p2), .val (.int p3), .val (.int p4), .val (.int p5), .val (.int p6), .val (.ref b1), .val (.int (p6 &&& (7 : Int32))), .val (.int (1 : Int32)), .val (.int rr), .val (.int (((p6.toUInt32 >>> ((3 : Int32) &&& 31).toUInt32).toInt32) &&& (7 : Int32))), .val (.int xx), .val (.int (0 : Int32)), .unset] [(.int (0 : Int32))]))
            refine own_go (fun _ kS => XS.ifYes X16.here hx rfl (pc0 := 134) (pc' := 153) rfl (hb hby at_134) rfl ((if0 _ _).trans (teq (show (0 : Int32) = (0 : Int32) from (rfl))).1) (by decide) (by decide) kS) ?_
            show own_Run p e below _ (T16.setTop (mkF m 153 #[.val (.int p1), .val (.int p2), .val (.int p3), .val (.int p4), .val (.int p5), .val (.int p6), .val (.ref b1), .val (.int (p6 &&& (7 : Int32))), .val (.int (1 : Int32)), .val (.int rr), .val (.int (((p6.toUInt32 >>> ((3 : Int32) &&& 31).toUInt32).toInt32) &&& (7 : Int32))), .val (.int xx), .val (.int (0 : Int32)), .unset] []))
            refine own_go (fun _ kS => XS.iconst X16.here hx rfl (hb hby at_153) kS) ?_
            show own_Run p e below _ (T16.setTop (mkF m 154 #[.val (.int p1), .val (.int p2), .val (.int p3), .val (.int p4), .val (.int p5), .val (.int p6), .val (.ref b1), .val (.int (p6 &&& (7 : Int32))), .val (.int (1 : Int32)), .val (.int rr), .val (.int (((p6.toUInt32 >>> ((3 : Int32) &&& 31).toUInt32).toInt32) &&& (7 : Int32))), .val (.int xx), .val (.int (0 : Int32)), .unset] [(.int (0 : Int32))]))
            refine own_go (fun _ kS => XS.istore X16.here hx rfl (hb hby at_154) rfl (l' := #[.val (.int p1), .val (.int p2), .val (.int p3), .val (.int p4), .val (.int p5), .val (.int p6), .val (.ref b1), .val (.int (p6 &&& (7 : Int32))), .val (.int (1 : Int32)), .val (.int rr), .val (.int (((p6.toUInt32 >>> ((3 : Int32) &&& 31).toUInt32).toInt32) &&& (7 : Int32))), .val (.int xx), .val (.int (0 : Int32)), .val (.int (0 : Int32))]) rfl kS) ?_
            show own_Run p e below _ (T16.setTop (mkF m 156 #[.val (.int p1), .val (.int p2), .val (.int p3), .val (.int p4), .val (.int p5), .val (.int p6), .val (.ref b1), .val (.int (p6 &&& (7 : Int32))), .val (.int (1 : Int32)), .val (.int rr), .val (.int (((p6.toUInt32 >>> ((3 : Int32) &&& 31).toUInt32).toInt32) &&& (7 : Int32))), .val (.int xx), .val (.int (0 : Int32)), .val (.int (0 : Int32))] []))
            refine own_go (fun _ kS => XS.aload X16.here hx rfl (hb hby at_156) rfl rfl kS) ?_
            show own_Run p e below _ (T16.setTop (mkF m 158 #[.val (.int p1), .val (.int p2), .val (.int p3), .val (.int p4), .val (.int p5), .val (.int p6), .val (.ref b1), .val (.int (p6 &&& (7 : Int32))), .val (.int (1 : Int32)), .val (.int rr), .val (.int (((p6.toUInt32 >>> ((3 : Int32) &&& 31).toUInt32).toInt32) &&& (7 : Int32))), .val (.int xx), .val (.int (0 : Int32)), .val (.int (0 : Int32))] [(.ref b1)]))
            refine own_go (fun _ kS => XS.iload X16.here hx rfl (hb hby at_158) rfl kS) ?_
            show own_Run p e below _ (T16.setTop (mkF m 160 #[.val (.int p1), .val (.int p2), .val (.int p3), .val (.int p4), .val (.int p5), .val (.int p6), .val (.ref b1), .val (.int (p6 &&& (7 : Int32))), .val (.int (1 : Int32)), .val (.int rr), .val (.int (((p6.toUInt32 >>> ((3 : Int32) &&& 31).toUInt32).toInt32) &&& (7 : Int32))), .val (.int xx), .val (.int (0 : Int32)), .val (.int (0 : Int32))] [(.int xx), (.ref b1)]))
            refine own_callV X16 hx hZ e16 hown (⟨"subjects/SearchTree", "contains", "(I)Z"⟩ : MethodName) (hw _ (List.mem_of_getElem? (i := 42) rfl)) (hw _ (List.mem_of_getElem? (i := 43) rfl)) (hw _ (List.mem_of_getElem? (i := 45) rfl)) (hw _ (List.mem_of_getElem? (i := 44) rfl)) (hw _ (List.mem_of_getElem? (i := 2) rfl)) (hw _ (List.mem_of_getElem? (i := 46) rfl)) (by decide) b1 A15 [(.int xx)] [] (rm_cont l Z a0 hw b1 xx r15 4 w15 (fun y => (fun y => (fun y => (fun y => (fun y => (fun _ => False) y ∨ y = p1) y ∨ y = p2) y ∨ y = p3) y ∨ y = p4) y ∧ ¬ y = rr) h15 F15_root hT15) (by decide) 0 (by decide) (by decide) (by decide) rfl (by rw [hml]; rfl) (lenOf own_pd5 rfl) rfl (by show 2 * 0 + _ ≤ _; exact Nat.le_of_eq rfl) (hb hby at_160) (fun v25 h25 L25 T25 Q25 X25 e25 => ?_)
            obtain ⟨zz, rfl, rfl, rfl, hzz⟩ := Q25
            replace N := N.app (Fr.nil n0)
            show own_Run p e below _ (T25.setTop (mkF m 163 #[.val (.int p1), .val (.int p2), .val (.int p3), .val (.int p4), .val (.int p5), .val (.int p6), .val (.ref b1), .val (.int (p6 &&& (7 : Int32))), .val (.int (1 : Int32)), .val (.int rr), .val (.int (((p6.toUInt32 >>> ((3 : Int32) &&& 31).toUInt32).toInt32) &&& (7 : Int32))), .val (.int xx), .val (.int (0 : Int32)), .val (.int (0 : Int32))] [(.int zz)]))
            refine own_go (fun _ kS => XS.iload X25.here hx rfl (hb hby at_163) rfl kS) ?_
            show own_Run p e below _ (T25.setTop (mkF m 165 #[.val (.int p1), .val (.int p2), .val (.int p3), .val (.int p4), .val (.int p5), .val (.int p6), .val (.ref b1), .val (.int (p6 &&& (7 : Int32))), .val (.int (1 : Int32)), .val (.int rr), .val (.int (((p6.toUInt32 >>> ((3 : Int32) &&& 31).toUInt32).toInt32) &&& (7 : Int32))), .val (.int xx), .val (.int (0 : Int32)), .val (.int (0 : Int32))] [(.int (0 : Int32)), (.int zz)]))
            refine own_go (fun _ kS => XS.icmpNo X25.here hx rfl (hb hby at_165) rfl (teq (show zz = (0 : Int32) from (hzz.elim (fun q => absurd q.2 (fun q => (own_not4 hc104 hc110 hc116 hc122) q.1)) (fun q => q.1)))).2 kS) ?_
            show own_Run p e below _ (T25.setTop (mkF m 168 #[.val (.int p1), .val (.int p2), .val (.int p3), .val (.int p4), .val (.int p5), .val (.int p6), .val (.ref b1), .val (.int (p6 &&& (7 : Int32))), .val (.int (1 : Int32)), .val (.int rr), .val (.int (((p6.toUInt32 >>> ((3 : Int32) &&& 31).toUInt32).toInt32) &&& (7 : Int32))), .val (.int xx), .val (.int (0 : Int32)), .val (.int (0 : Int32))] []))
            refine own_go (fun _ kS => XS.iconst X25.here hx rfl (hb hby at_168) kS) ?_
            show own_Run p e below _ (T25.setTop (mkF m 169 #[.val (.int p1), .val (.int p2), .val (.int p3), .val (.int p4), .val (.int p5), .val (.int p6), .val (.ref b1), .val (.int (p6 &&& (7 : Int32))), .val (.int (1 : Int32)), .val (.int rr), .val (.int (((p6.toUInt32 >>> ((3 : Int32) &&& 31).toUInt32).toInt32) &&& (7 : Int32))), .val (.int xx), .val (.int (0 : Int32)), .val (.int (0 : Int32))] [(.int (1 : Int32))]))
            refine own_go (fun _ kS => XS.goto X25.here hx rfl (pc0 := 169) (pc' := 173) rfl (hb hby at_169) (by decide) (by decide) kS) ?_
            show own_Run p e below _ (T25.setTop (mkF m 173 #[.val (.int p1), .val (.int p2), .val (.int p3), .val (.int p4), .val (.int p5), .val (.int p6), .val (.ref b1), .val (.int (p6 &&& (7 : Int32))), .val (.int (1 : Int32)), .val (.int rr), .val (.int (((p6.toUInt32 >>> ((3 : Int32) &&& 31).toUInt32).toInt32) &&& (7 : Int32))), .val (.int xx), .val (.int (0 : Int32)), .val (.int (0 : Int32))] [(.int (1 : Int32))]))
            refine own_retN X25 hx (t := .boolean) hret hlk (by simp) (hb hby at_173) (by decide) (by decide) ?_
            exact ⟨rfl, N⟩
set_option maxRecDepth 65536 in
set_option maxHeartbeats 40000000 in
theorem own_comes_1 {Post : Tables → Env → Array Value → State → Outcome → State → Prop} (hpost : ∀ tb e args s v u, (limb_1_1.after args s (.returned v) u = true ∧ limb_1_2.after args s (.returned v) u = true) → FrameEnd s (.returned v) u (Jvm.fieldLocs frame_1_writes args s ++ Jvm.arrayLocs frame_1_arrays args s ++ Jvm.staticLocs frame_1_statics s) 24 128 → Post tb e args s (.returned v) u) :
    ArmFor flags0 classFile x code maxLocals ret World_1 tables_1 room_1 Calls_1 rest_1 Pre_1 Post := by
  intro l hfl _ _ p e ha hc hk s m args below hf hA hF happ hP
  obtain ⟨hcalls, hrest, hpre⟩ := hP
  obtain ⟨-, -, -, hnamed, -, -, -, hat⟩ := (Spec.applies_iff hf).mp happ
  obtain ⟨hg, hn⟩ := and_e (Cond.before_iff.mp (show (Jvm.Cond.and given_1 narrow_1).before args s = true from hpre))
  obtain ⟨g0, hg⟩ := and_e hg
  obtain ⟨k0, hg⟩ := and_e hg
  obtain ⟨k1, hg⟩ := and_e hg
  obtain ⟨k2, hg⟩ := and_e hg
  obtain ⟨k3, hg⟩ := and_e hg
  obtain ⟨k4, hg⟩ := and_e hg
  have k5 := hg
  obtain ⟨w0, w1, w2, w3, w4, w5, rfl⟩ : ∃ w0 w1 w2 w3 w4 w5 : Value, args = #[w0, w1, w2, w3, w4, w5] := by
    have hs : args.size = 6 := by simpa [Cond.value, given_1] using g0
    obtain ⟨L⟩ := args
    match L, hs with
    | [w0, w1, w2, w3, w4, w5], _ => exact ⟨w0, w1, w2, w3, w4, w5, rfl⟩
  have hw := fun d (hd : d ∈ tables_1) => atoms_spec (ws := Jvm.Cond.code x code maxLocals ret :: tables_1) hat d (List.mem_cons_of_mem _ hd)
  obtain ⟨i0, ei0⟩ := is_v k0
  obtain rfl : w0 = (.int i0) := Option.some.inj ei0
  obtain ⟨i1, ei1⟩ := is_v k1
  obtain rfl : w1 = (.int i1) := Option.some.inj ei1
  obtain ⟨i2, ei2⟩ := is_v k2
  obtain rfl : w2 = (.int i2) := Option.some.inj ei2
  obtain ⟨i3, ei3⟩ := is_v k3
  obtain rfl : w3 = (.int i3) := Option.some.inj ei3
  obtain ⟨i4, ei4⟩ := is_v k4
  obtain rfl : w4 = (.int i4) := Option.some.inj ei4
  obtain ⟨i5, ei5⟩ := is_v k5
  obtain rfl : w5 = (.int i5) := Option.some.inj ei5
  obtain ⟨n, o, h1, h2, h3, _, L, rfl, ⟨rfl, N⟩, hq⟩ := rm_law l s _ hw i0 i1 i2 i3 i4 i5 s.heap.size s.heap (Nat.le_refl _) tables_1 p e ha hc hk s m _ below hf ((Spec.applies_iff_loose hf).mp happ).1 ⟨rfl, State.Warmed39.refl s, rfl⟩ trivial
  refine ⟨n, _, h1, h2, h3, hpost _ _ _ _ _ _ ⟨Cond.after_iff.mpr rfl, Cond.after_iff.mpr (eq_i res_at (Term.int_eval (1)) rfl)⟩ ⟨hq.1, hq.2.1, (hq.2.2.sift fun y hy => Or.inr (N y hy)).mono (by decide) (by decide)⟩⟩
theorem main_1_1 : Claimed_1_1 := own_comes_1 fun _ _ _ _ _ _ h hF => ⟨h.1, hF⟩
theorem main_1_2 : Claimed_1_2 := own_comes_1 fun _ _ _ _ _ _ h hF => ⟨h.2, hF⟩
end Jvm.Pilot.@@N@@
namespace Jvm.Pilot.@@N@@
open Jvm Jvm.ClassFile Sem Op Lib Jvm.Free Jvm.Stand Jvm.Pilot.@@N@@.Jvm.D
/-! MADE BY PROGRAM (witnessworld.py) out of the Statement's table words and the real class files: 10 classes; the members and pool entries that the words name. The judged class is class 1, her method 1. -/
namespace start1
open Jvm.ClassFile
def u (s : String) : CpInfo := .utf8 (stringToUtf16 s)
/-- a pool by its gaps: so many unusable entries, then the entry; so many at the end -/
def gap : Nat → List CpInfo → List CpInfo
  | 0, r => r
  | n + 1, r => .unusable :: gap n r
def poolList (es : List (Nat × CpInfo)) (last : Nat) : List CpInfo := es.foldr (fun e r => gap e.1 (e.2 :: r)) (gap last [])
def pool (es : List (Nat × CpInfo)) (last : Nat) : Array CpInfo := ⟨poolList es last⟩
def fileOf (pool : Array CpInfo) (this : Nat) (attrs : Array Attribute := #[]) (ms : Array MethodInfo := #[]) (fl : Nat := 33) (sup : Nat := 0) (ifs : Array Nat := #[]) (fds : Array FieldInfo := #[]) : ClassFile where
  minorVersion := 0
  majorVersion := 65
  constantPool := pool
  accessFlags := fl
  thisClass := this
  superClass := sup
  interfaces := ifs
  fields := fds
  methods := ms
  attributes := attrs
def plain (name : String) (sup : Option ClassId) : Class where
  name := name
  kind := .ordinary
  loader := none
  accessFlags := 33
  super := sup
  interfaces := #[]
  cf := none
  fields := #[]
  methods := #[]
  instanceTypes := #[]
  staticTypes := #[]
  resolved := #[]
  callSites := []
  init := .initialized
  statics := none
  mirror := none

def pool0 : Array CpInfo := pool [(5, u "<init>"), (0, u "()V"), (1, .class_ 10), (1, u "java/lang/Object")] 113

def k0c0 : Code := { maxStack := 0, maxLocals := 1, code := object_method_1_code, exceptionTable := #[], attributes := #[] }
def k0m0 : Method := { name := "<init>", desc := "()V", sig := { parameters := [], returnType := none }, accessFlags := 1, code := some k0c0 }
/-- java/lang/Object -/
def k0 : Class := { plain "java/lang/Object" none with
  accessFlags := 33
  interfaces := #[]
  cf := some (fileOf pool0 8 #[] #[{ accessFlags := 1, nameIndex := 5, descriptorIndex := 6, attributes := #[] }] 33 0 #[] #[])
  fields := #[]
  methods := #[k0m0]
  instanceTypes := #[]
  staticTypes := #[]
  resolved := Array.replicate 124 none
  statics := none }

def pool1 : Array CpInfo := pool [(2, .class_ 4), (0, .nameAndType 5 6), (0, u "java/lang/Object"), (0, u "<init>"), (0, u "()V"), (0, .class_ 8), (0, u "subjects/SearchTree"), (0, .methodref 7 3), (0, .methodref 7 11), (0, .nameAndType 12 13), (0, u "add"), (0, u "(I)V"), (0, .methodref 15 16), (0, .class_ 17), (0, .nameAndType 18 19), (0, u "subjects/SearchTreeContainsPinLaw"), (0, u "pick"), (0, u "(IIIIII)I"), (0, .methodref 7 21), (0, .nameAndType 22 13), (0, u "remove"), (0, .methodref 7 24), (0, .nameAndType 25 26), (0, u "contains"), (0, u "(I)Z"), (2, u "law"), (0, u "(IIIIII)Z")] 3

def k1m0 : Method := { name := "<init>", desc := "()V", sig := { parameters := [], returnType := none }, accessFlags := 1, code := none }
def k1c1 : Code := { maxStack := 6, maxLocals := 14, code := code, exceptionTable := #[], attributes := #[] }
def k1m1 : Method := { name := "law", desc := "(IIIIII)Z", sig := { parameters := [.int, .int, .int, .int, .int, .int], returnType := some .boolean }, accessFlags := 9, code := some k1c1 }
def k1c2 : Code := { maxStack := 2, maxLocals := 6, code := method_3_code, exceptionTable := #[], attributes := #[] }
def k1m2 : Method := { name := "pick", desc := "(IIIIII)I", sig := { parameters := [.int, .int, .int, .int, .int, .int], returnType := some .int }, accessFlags := 10, code := some k1c2 }
/-- subjects/SearchTreeContainsPinLaw -/
def k1 : Class := { plain "subjects/SearchTreeContainsPinLaw" (some 0) with
  accessFlags := 49
  interfaces := #[]
  cf := some (fileOf pool1 15 #[] #[{ accessFlags := 1, nameIndex := 5, descriptorIndex := 6, attributes := #[] }, { accessFlags := 9, nameIndex := 29, descriptorIndex := 30, attributes := #[] }, { accessFlags := 10, nameIndex := 18, descriptorIndex := 19, attributes := #[] }] 49 2 #[] #[])
  fields := #[]
  methods := #[k1m0, k1m1, k1m2]
  instanceTypes := #[]
  staticTypes := #[]
  resolved := Array.replicate 34 none
  statics := none }

def pool2 : Array CpInfo := pool [(1, .methodref 2 3), (0, .class_ 4), (0, .nameAndType 5 6), (0, u "java/lang/Object"), (0, u "<init>"), (0, u "()V"), (0, .fieldref 8 9), (0, .class_ 10), (0, .nameAndType 11 12), (0, u "subjects/SearchTree"), (0, u "root"), (0, u "Lsubjects/SearchTree$Node;"), (0, .class_ 14), (0, u "subjects/SearchTree$Node"), (0, .methodref 13 16), (0, .nameAndType 5 17), (0, u "(I)V"), (0, .fieldref 13 19), (0, .nameAndType 20 21), (0, u "key"), (0, u "I"), (0, .fieldref 13 23), (0, .nameAndType 24 12), (0, u "left"), (0, .fieldref 13 26), (0, .nameAndType 27 12), (0, u "right"), (0, .methodref 8 29), (0, .nameAndType 30 31), (0, u "without"), (0, u "(Lsubjects/SearchTree$Node;I)Lsubjects/SearchTree$Node;"), (0, .methodref 8 33), (0, .nameAndType 34 35), (0, u "withoutLeast"), (0, u "(Lsubjects/SearchTree$Node;)Lsubjects/SearchTree$Node;"), (2, u "add"), (1, u "remove"), (0, u "contains"), (0, u "(I)Z")] 5

def k2c0 : Code := { maxStack := 1, maxLocals := 1, code := prog_78_method_1_code, exceptionTable := #[], attributes := #[] }
def k2m0 : Method := { name := "<init>", desc := "()V", sig := { parameters := [], returnType := none }, accessFlags := 1, code := some k2c0 }
def k2c1 : Code := { maxStack := 4, maxLocals := 3, code := prog_78_method_2_code, exceptionTable := #[], attributes := #[] }
def k2m1 : Method := { name := "add", desc := "(I)V", sig := { parameters := [.int], returnType := none }, accessFlags := 1, code := some k2c1 }
def k2c2 : Code := { maxStack := 3, maxLocals := 2, code := prog_78_method_3_code, exceptionTable := #[], attributes := #[] }
def k2m2 : Method := { name := "remove", desc := "(I)V", sig := { parameters := [.int], returnType := none }, accessFlags := 1, code := some k2c2 }
def k2c3 : Code := { maxStack := 2, maxLocals := 3, code := prog_78_method_4_code, exceptionTable := #[], attributes := #[] }
def k2m3 : Method := { name := "contains", desc := "(I)Z", sig := { parameters := [.int], returnType := some .boolean }, accessFlags := 1, code := some k2c3 }
def k2c4 : Code := { maxStack := 3, maxLocals := 4, code := prog_78_method_5_code, exceptionTable := #[], attributes := #[] }
def k2m4 : Method := { name := "without", desc := "(Lsubjects/SearchTree$Node;I)Lsubjects/SearchTree$Node;", sig := { parameters := [(.object "subjects/SearchTree$Node"), .int], returnType := some (.object "subjects/SearchTree$Node") }, accessFlags := 10, code := some k2c4 }
def k2c5 : Code := { maxStack := 2, maxLocals := 1, code := prog_78_method_6_code, exceptionTable := #[], attributes := #[] }
def k2m5 : Method := { name := "withoutLeast", desc := "(Lsubjects/SearchTree$Node;)Lsubjects/SearchTree$Node;", sig := { parameters := [(.object "subjects/SearchTree$Node")], returnType := some (.object "subjects/SearchTree$Node") }, accessFlags := 10, code := some k2c5 }
/-- subjects/SearchTree -/
def k2 : Class := { plain "subjects/SearchTree" (some 0) with
  accessFlags := 33
  interfaces := #[]
  cf := some (fileOf pool2 8 #[.nestMembers #[13]] #[{ accessFlags := 1, nameIndex := 5, descriptorIndex := 6, attributes := #[] }, { accessFlags := 1, nameIndex := 38, descriptorIndex := 17, attributes := #[] }, { accessFlags := 1, nameIndex := 40, descriptorIndex := 17, attributes := #[] }, { accessFlags := 1, nameIndex := 41, descriptorIndex := 42, attributes := #[] }, { accessFlags := 10, nameIndex := 30, descriptorIndex := 31, attributes := #[] }, { accessFlags := 10, nameIndex := 34, descriptorIndex := 35, attributes := #[] }] 33 2 #[] #[{ accessFlags := 2, nameIndex := 11, descriptorIndex := 12, attributes := #[] }])
  fields := #[{ name := "root", type := (.object "subjects/SearchTree$Node"), accessFlags := 2, slot := 0, constantValue := 0 }]
  methods := #[k2m0, k2m1, k2m2, k2m3, k2m4, k2m5]
  instanceTypes := #[(.object "subjects/SearchTree$Node")]
  staticTypes := #[]
  resolved := (((Array.replicate 48 none).setIfInBounds 18 (some (.field 3 0))).setIfInBounds 22 (some (.field 3 1))).setIfInBounds 25 (some (.field 3 2))
  statics := none }

def pool3 : Array CpInfo := pool [(1, .methodref 2 3), (0, .class_ 4), (0, .nameAndType 5 6), (0, u "java/lang/Object"), (0, u "<init>"), (0, u "()V"), (0, .fieldref 8 9), (0, .class_ 10), (0, .nameAndType 11 12), (0, u "subjects/SearchTree$Node"), (0, u "key"), (0, u "I"), (0, u "left"), (0, u "Lsubjects/SearchTree$Node;"), (0, u "right"), (0, u "(I)V"), (5, .class_ 23), (0, u "subjects/SearchTree")] 2

def k3c0 : Code := { maxStack := 2, maxLocals := 2, code := prog_79_method_1_code, exceptionTable := #[], attributes := #[] }
def k3m0 : Method := { name := "<init>", desc := "(I)V", sig := { parameters := [.int], returnType := none }, accessFlags := 0, code := some k3c0 }
/-- subjects/SearchTree$Node -/
def k3 : Class := { plain "subjects/SearchTree$Node" (some 0) with
  accessFlags := 48
  interfaces := #[]
  cf := some (fileOf pool3 8 #[.nestHost 22] #[{ accessFlags := 0, nameIndex := 5, descriptorIndex := 16, attributes := #[] }] 48 2 #[] #[{ accessFlags := 18, nameIndex := 11, descriptorIndex := 12, attributes := #[] }, { accessFlags := 2, nameIndex := 13, descriptorIndex := 14, attributes := #[] }, { accessFlags := 2, nameIndex := 15, descriptorIndex := 14, attributes := #[] }])
  fields := #[{ name := "key", type := .int, accessFlags := 18, slot := 0, constantValue := 0 }, { name := "left", type := (.object "subjects/SearchTree$Node"), accessFlags := 2, slot := 1, constantValue := 0 }, { name := "right", type := (.object "subjects/SearchTree$Node"), accessFlags := 2, slot := 2, constantValue := 0 }]
  methods := #[k3m0]
  instanceTypes := #[.int, (.object "subjects/SearchTree$Node"), (.object "subjects/SearchTree$Node")]
  staticTypes := #[]
  resolved := Array.replicate 26 none
  statics := none }

def pool4 : Array CpInfo := pool [(1, u "java/lang/Cloneable"), (0, .class_ 1), (0, u "java/lang/Object"), (0, .class_ 3)] 3

/-- java/lang/Cloneable -/
def k4 : Class := { plain "java/lang/Cloneable" (some 0) with
  accessFlags := 1537
  interfaces := #[]
  cf := some (fileOf pool4 2 #[] #[] 1537 4 #[] #[])
  fields := #[]
  methods := #[]
  instanceTypes := #[]
  staticTypes := #[]
  resolved := Array.replicate 8 none
  statics := none }

def pool5 : Array CpInfo := pool [(1, u "java/io/Serializable"), (0, .class_ 1), (0, u "java/lang/Object"), (0, .class_ 3)] 3

/-- java/io/Serializable -/
def k5 : Class := { plain "java/io/Serializable" (some 0) with
  accessFlags := 1537
  interfaces := #[]
  cf := some (fileOf pool5 2 #[] #[] 1537 4 #[] #[])
  fields := #[]
  methods := #[]
  instanceTypes := #[]
  staticTypes := #[]
  resolved := Array.replicate 8 none
  statics := none }

/-- the primitive byte -/
def k6 : Class := { plain "byte" none with kind := .primitive 'B', accessFlags := 0x411 }
/-- [B -/
def k7 : Class := { plain "[B" (some 0) with kind := .array 6 .byte, interfaces := #[4, 5], accessFlags := 1041 }

/-- the primitive int -/
def k8 : Class := { plain "int" none with kind := .primitive 'I', accessFlags := 0x411 }
/-- [I -/
def k9 : Class := { plain "[I" (some 0) with kind := .array 8 .int, interfaces := #[4, 5], accessFlags := 1041 }

def heap : Heap := #[]
def classes : Array Class := #[k0, k1, k2, k3, k4, k5, k6, k7, k8, k9]
def interned : List (Array UInt16 × Addr) := []
def slotsUsed : Nat := 0
def theMethod : MethodId := ⟨1, 1⟩
def args0 : Array Value := #[.int 5, .int 7, .int 3, .int 2, .int 9, .int 6]
def aboutOver (below : List Frame) : State where
  vm := { classes := classes, interned := interned.toArray }
  heap := heap
  slotsUsed := slotsUsed
  threads := #[{ frames := .invoking theMethod args0 :: below }]
def below0 : List Frame := [.native { method := ⟨0, 0⟩, args := #[] }]
def about1 : State := aboutOver below0
def p0 : Program := .bare "" "" ""
def e0 : Env := launch0.env 0 0 0
theorem w_frames : about1.frames = Frame.invoking theMethod args0 :: below0 := rfl
set_option maxRecDepth 65536 in
theorem w_args : argsFit about1.vm theMethod args0 = true := by decide +kernel
set_option maxRecDepth 65536 in
theorem w_heap : heapFits about1 = true := by decide +kernel
set_option maxRecDepth 65536 in
theorem w_runnable : about1.curStatus? = some .runnable := by decide +kernel
set_option maxRecDepth 65536 in
theorem w_alone : about1.alone = true := by decide +kernel
set_option maxRecDepth 65536 in
theorem w_named : about1.methodNamed? x = some theMethod := by decide +kernel
set_option maxRecDepth 65536 in
theorem w_hears : about1.hears theMethod below0 = true := by decide +kernel
set_option maxRecDepth 65536 in
theorem w_ripe : about1.ripe theMethod args0 below0 = true := by decide +kernel
theorem w_running : about1.status = .running := rfl
set_option maxRecDepth 65536 in
theorem w_room : about1.hasRoom e0.platform room_1 = true :=
  launch0.hasRoom_least _ room_1 (by decide +kernel) (by decide +kernel) (by decide +kernel) (by decide +kernel) (by decide +kernel) (by decide +kernel)
theorem allAtoms_all (ts : List Jvm.Cond) (a : Array Jvm.Value) (st : Jvm.State) : (allAtoms ts).before a st = ts.all (fun c => c.before a st) := by
  induction ts with
  | nil => rfl
  | cons c t ih =>
    show (Jvm.Cond.and c (allAtoms t)).before a st = _
    rw [Jvm.Cond.before_and, ih, List.all_cons]
def words1 : List Jvm.Cond := Jvm.Cond.code x code maxLocals ret :: tables_1
/-- a 'code' word, met by the world's own term for the bytes: nothing is compared byte by byte -/
theorem code_word {y : MethodName} {bytes : ByteArray} {mx : Nat} {rt : Option FieldType} {a : Array Value} {s : State} {m : MethodId} {meth : Method} {c : Code} (h1 : s.methodNamed? y = some m) (h2 : s.vm.method? m = some meth) (h3 : meth.code = some c) (h4 : c.code = bytes)
    (h5 : (c.maxLocals == mx && c.exceptionTable.isEmpty && decide (c.maxStack ≤ mostOperands) && decide (meth.sig.returnType = rt) && !meth.locks && decide (parseMethodDescriptor y.desc = some meth.sig)) = true) : (Jvm.Cond.code y bytes mx rt).before a s = true := by
  simp only [Bool.and_eq_true, beq_iff_eq, Bool.not_eq_true', decide_eq_true_eq] at h5
  obtain ⟨⟨⟨⟨⟨g1, g2⟩, g3⟩, g4⟩, g5⟩, g6⟩ := h5
  simp [Cond.before, Cond.holds, Cond.value, h1, h2, h3, h4, g1, g2, g3, g4, g5, g6]
def isCode : Jvm.Cond → Bool
  | .code _ _ _ _ => true
  | _ => false
theorem all_split {L : List Jvm.Cond} {P : Jvm.Cond → Bool} (h1 : L.all (fun c => isCode c || P c) = true) (h2 : ∀ c ∈ L.filter isCode, P c = true) : L.all P = true := by
  refine List.all_eq_true.mpr fun c hc => ?_
  have h := List.all_eq_true.mp h1 c hc
  rcases Bool.eq_false_or_eq_true (isCode c) with hi | hi
  · exact h2 c (List.mem_filter.mpr ⟨hc, hi⟩)
  · simpa [hi] using h
set_option maxRecDepth 65536 in
theorem w_c0 : (Jvm.Cond.code x code maxLocals ret).before args0 about1 = true := code_word (m := ⟨1, 1⟩) (meth := k1m1) (c := k1c1) (by decide +kernel) rfl rfl rfl (by decide +kernel)
set_option maxRecDepth 65536 in
theorem w_c1 : (Jvm.Cond.code ({ cls := "subjects/SearchTree", name := "<init>", desc := "()V" } : Jvm.MethodName) prog_78_method_1_code (1 : Nat) (Option.none : Option Jvm.ClassFile.FieldType)).before args0 about1 = true := code_word (m := ⟨2, 0⟩) (meth := k2m0) (c := k2c0) (by decide +kernel) rfl rfl rfl (by decide +kernel)
set_option maxRecDepth 65536 in
theorem w_c2 : (Jvm.Cond.code ({ cls := "java/lang/Object", name := "<init>", desc := "()V" } : Jvm.MethodName) object_method_1_code (1 : Nat) (Option.none : Option Jvm.ClassFile.FieldType)).before args0 about1 = true := code_word (m := ⟨0, 0⟩) (meth := k0m0) (c := k0c0) (by decide +kernel) rfl rfl rfl (by decide +kernel)
set_option maxRecDepth 65536 in
theorem w_c3 : (Jvm.Cond.code ({ cls := "subjects/SearchTree", name := "add", desc := "(I)V" } : Jvm.MethodName) prog_78_method_2_code (3 : Nat) (Option.none : Option Jvm.ClassFile.FieldType)).before args0 about1 = true := code_word (m := ⟨2, 1⟩) (meth := k2m1) (c := k2c1) (by decide +kernel) rfl rfl rfl (by decide +kernel)
set_option maxRecDepth 65536 in
theorem w_c4 : (Jvm.Cond.code ({ cls := "subjects/SearchTree$Node", name := "<init>", desc := "(I)V" } : Jvm.MethodName) prog_79_method_1_code (2 : Nat) (Option.none : Option Jvm.ClassFile.FieldType)).before args0 about1 = true := code_word (m := ⟨3, 0⟩) (meth := k3m0) (c := k3c0) (by decide +kernel) rfl rfl rfl (by decide +kernel)
set_option maxRecDepth 65536 in
theorem w_c5 : (Jvm.Cond.code ({ cls := "subjects/SearchTreeContainsPinLaw", name := "pick", desc := "(IIIIII)I" } : Jvm.MethodName) method_3_code (6 : Nat) (Option.some Jvm.ClassFile.FieldType.int)).before args0 about1 = true := code_word (m := ⟨1, 2⟩) (meth := k1m2) (c := k1c2) (by decide +kernel) rfl rfl rfl (by decide +kernel)
set_option maxRecDepth 65536 in
theorem w_c6 : (Jvm.Cond.code ({ cls := "subjects/SearchTree", name := "remove", desc := "(I)V" } : Jvm.MethodName) prog_78_method_3_code (2 : Nat) (Option.none : Option Jvm.ClassFile.FieldType)).before args0 about1 = true := code_word (m := ⟨2, 2⟩) (meth := k2m2) (c := k2c2) (by decide +kernel) rfl rfl rfl (by decide +kernel)
set_option maxRecDepth 65536 in
theorem w_c7 : (Jvm.Cond.code ({ cls := "subjects/SearchTree", name := "without", desc := "(Lsubjects/SearchTree$Node;I)Lsubjects/SearchTree$Node;" } : Jvm.MethodName) prog_78_method_5_code (4 : Nat) (Option.some (Jvm.ClassFile.FieldType.object "subjects/SearchTree$Node"))).before args0 about1 = true := code_word (m := ⟨2, 4⟩) (meth := k2m4) (c := k2c4) (by decide +kernel) rfl rfl rfl (by decide +kernel)
set_option maxRecDepth 65536 in
theorem w_c8 : (Jvm.Cond.code ({ cls := "subjects/SearchTree", name := "contains", desc := "(I)Z" } : Jvm.MethodName) prog_78_method_4_code (3 : Nat) (Option.some Jvm.ClassFile.FieldType.boolean)).before args0 about1 = true := code_word (m := ⟨2, 3⟩) (meth := k2m3) (c := k2c3) (by decide +kernel) rfl rfl rfl (by decide +kernel)
set_option maxRecDepth 65536 in
theorem w_c9 : (Jvm.Cond.code ({ cls := "subjects/SearchTree", name := "withoutLeast", desc := "(Lsubjects/SearchTree$Node;)Lsubjects/SearchTree$Node;" } : Jvm.MethodName) prog_78_method_6_code (1 : Nat) (Option.some (Jvm.ClassFile.FieldType.object "subjects/SearchTree$Node"))).before args0 about1 = true := code_word (m := ⟨2, 5⟩) (meth := k2m5) (c := k2c5) (by decide +kernel) rfl rfl rfl (by decide +kernel)
def codes1 : List Jvm.Cond := [Jvm.Cond.code x code maxLocals ret, Jvm.Cond.code ({ cls := "subjects/SearchTree", name := "<init>", desc := "()V" } : Jvm.MethodName) prog_78_method_1_code (1 : Nat) (Option.none : Option Jvm.ClassFile.FieldType), Jvm.Cond.code ({ cls := "java/lang/Object", name := "<init>", desc := "()V" } : Jvm.MethodName) object_method_1_code (1 : Nat) (Option.none : Option Jvm.ClassFile.FieldType), Jvm.Cond.code ({ cls := "subjects/SearchTree", name := "add", desc := "(I)V" } : Jvm.MethodName) prog_78_method_2_code (3 : Nat) (Option.none : Option Jvm.ClassFile.FieldType), Jvm.Cond.code ({ cls := "subjects/SearchTree$Node", name := "<init>", desc := "(I)V" } : Jvm.MethodName) prog_79_method_1_code (2 : Nat) (Option.none : Option Jvm.ClassFile.FieldType), Jvm.Cond.code ({ cls := "subjects/SearchTreeContainsPinLaw", name := "pick", desc := "(IIIIII)I" } : Jvm.MethodName) method_3_code (6 : Nat) (Option.some Jvm.ClassFile.FieldType.int), Jvm.Cond.code ({ cls := "subjects/SearchTree", name := "remove", desc := "(I)V" } : Jvm.MethodName) prog_78_method_3_code (2 : Nat) (Option.none : Option Jvm.ClassFile.FieldType), Jvm.Cond.code ({ cls := "subjects/SearchTree", name := "without", desc := "(Lsubjects/SearchTree$Node;I)Lsubjects/SearchTree$Node;" } : Jvm.MethodName) prog_78_method_5_code (4 : Nat) (Option.some (Jvm.ClassFile.FieldType.object "subjects/SearchTree$Node")), Jvm.Cond.code ({ cls := "subjects/SearchTree", name := "contains", desc := "(I)Z" } : Jvm.MethodName) prog_78_method_4_code (3 : Nat) (Option.some Jvm.ClassFile.FieldType.boolean), Jvm.Cond.code ({ cls := "subjects/SearchTree", name := "withoutLeast", desc := "(Lsubjects/SearchTree$Node;)Lsubjects/SearchTree$Node;" } : Jvm.MethodName) prog_78_method_6_code (1 : Nat) (Option.some (Jvm.ClassFile.FieldType.object "subjects/SearchTree$Node"))]
set_option maxRecDepth 65536 in
theorem codes_eq : words1.filter isCode = codes1 := rfl
theorem w_codes : ∀ c ∈ words1.filter isCode, c.before args0 about1 = true := by
  rw [codes_eq]
  intro c hc
  simp only [codes1, List.mem_cons, List.not_mem_nil, or_false] at hc
  rcases hc with rfl | rfl | rfl | rfl | rfl | rfl | rfl | rfl | rfl | rfl
  · exact w_c0
  · exact w_c1
  · exact w_c2
  · exact w_c3
  · exact w_c4
  · exact w_c5
  · exact w_c6
  · exact w_c7
  · exact w_c8
  · exact w_c9
set_option maxRecDepth 65536 in
theorem w_t1 : (words1.take 24).all (fun c => isCode c || c.before args0 about1) = true := by decide +kernel
set_option maxRecDepth 65536 in
theorem w_t2 : ((words1.drop 24).take 24).all (fun c => isCode c || c.before args0 about1) = true := by decide +kernel
set_option maxRecDepth 65536 in
theorem w_t3 : ((words1.drop 24).drop 24).all (fun c => isCode c || c.before args0 about1) = true := by decide +kernel
theorem w_tables : (allAtoms (Jvm.Cond.code x code maxLocals ret :: tables_1)).before args0 about1 = true := by
  rw [allAtoms_all]
  show words1.all (fun c => c.before args0 about1) = true
  refine all_split ?_ w_codes
  rw [← List.take_append_drop 24 words1, List.all_append, w_t1, ← List.take_append_drop 24 (words1.drop 24), List.all_append, w_t2, w_t3]
  rfl
set_option maxRecDepth 65536 in
theorem w_case : (Jvm.Cond.and given_1 narrow_1).before args0 about1 = true := by decide +kernel
theorem w_applies : (headSpec (Jvm.Cond.code x code maxLocals ret :: tables_1) room_1).applies x e0.platform about1 = true :=
  (Spec.applies_iff w_frames).mpr ⟨w_running, w_runnable, w_alone, w_named, w_hears, w_ripe, w_room, w_tables⟩
theorem atStart : AtStart classFile x code maxLocals ret World_1 tables_1 room_1 Calls_1 rest_1 Pre_1 launch0 p0 e0 about1 theMethod args0 below0 :=
  ⟨lists_1, trivial, launch0.admits_env _ _ _, launch0.least_env, fairChoices_fair.cas, fairChoices_fair.clock, w_frames, w_args, w_heap, w_applies, trivial, trivial, w_case⟩
end start1
theorem witness_1 : WitnessClaimed_1 := ⟨start1.p0, start1.e0, start1.about1, start1.theMethod, start1.args0, start1.below0, start1.atStart⟩
end Jvm.Pilot.@@N@@
