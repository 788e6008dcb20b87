import JvmDerived
import JvmDerived.Pilot.@@N@@Statement
import JvmDerived.Pilot.@@N@@Code
set_option linter.unusedVariables false
set_option linter.unusedSimpArgs false
namespace Jvm.Pilot.@@N@@
open Jvm Jvm.ClassFile Sem Op Lib Jvm.Free Jvm.Stand Jvm.LawKit Jvm.RoadKit Bundle Jvm.Pilot.@@N@@.Jvm.D
section OwnKit
variable {p : Program} {l : Launch} {e : Env} {R : Room} {s : State} {m : MethodId} {args : Array Value} {below : List Frame} {meth : Method} {c : Code} {T : State} {locs : List Loc} {cells slots : Nat} {Z : State} {a0 : Array Value} {h h' : Heap}
/-- the run from t on comes to the method's end, and there Fin holds -/
def own_Run (p : Program) (e : Env) (below : List Frame) (Fin : Outcome → State → Prop) (t : State) : Prop :=
  ∃ s₂ o, Steps p.tables e below t s₂ ∧ s₂.status = .running ∧ Ended s₂ below o ∧ Fin o s₂
variable {Fin : Outcome → State → Prop}
theorem own_go {t t' : State} (st : ∀ target, Steps p.tables e below t' target → Steps p.tables e below t target) (k : own_Run p e below Fin t') : own_Run p e below Fin t := by
  obtain ⟨s₂, o, h1, h2⟩ := k
  exact ⟨s₂, o, st _ h1, h2⟩
def own_End (s : State) (R : Room) (Q : Option Value → Heap → List Loc → Prop) (o : Outcome) (U : State) : Prop :=
  ∃ v L, o = .returned v ∧ Q v U.heap L ∧ FrameEnd s o U L R.cells R.slots
/-- a body's contract: called with these arguments over the heap h0 it returns, and Q says what is left -/
def own_Met (l : Launch) (Z : State) (y : MethodName) (bytes : ByteArray) (maxL : Nat) (ret : Option FieldType) (rm : Room) (as : Array Value) (h0 : Heap) (Q : Option Value → Heap → List Loc → Prop) : Prop :=
  ∀ ws : List Jvm.Cond, MetFree l y (head1 (Jvm.Cond.code y bytes maxL ret :: ws) rm) (fun a U => a = as ∧ Z.Warmed39 U.vm ∧ U.heap = h0) (fun _ _ _ _ _ => True) (fun _ U o U' => own_End U rm Q o U')
theorem own_enter {y : MethodName} {bytes : ByteArray} {maxL : Nat} {ret : Option FieldType} {rm : Room} {as : Array Value} {h0 : Heap} {Q : Option Value → Heap → List Loc → Prop} {g0 : MethodId → JFrame} (hpl : plainFor y = true) (hg0 : ∀ m, entryFrame m as maxL = g0 m)
    (body : ∀ (p : Program) (e : Env) (s : State) (m : MethodId) (below : List Frame) (meth : Method) (c : Code) (T : State), p.tables.exec = Jvm.exec → c.code = bytes → c.maxLocals = maxL → s.vm.findClass y.cls = some m.cls → meth.name = y.name → Z.Warmed39 s.vm → meth.sig.returnType = ret → meth.locks = false →
      Stand p l e rm s m as below meth c T [] 0 0 → T.heap = h0 → own_Run p e below (own_End s rm Q) (T.setTop (g0 m))) : own_Met l Z y bytes maxL ret rm as h0 Q := by
  intro ws
  refine MetFree.of_bodySF hpl hisR ?_
  intro p e s m args below meth c s₁ Bd hml0 hP hK
  obtain ⟨rfl, hZ, hh⟩ := hP
  rw [hg0]
  exact body p e s m below meth c s₁ Bd.exec Bd.bytes hml0 (findClass_of_methodNamed Bd.named) (name_of_methodNamed Bd.named Bd.method).1 hZ Bd.returns Bd.notSynchronized (Stand.of_body Bd) (by rw [← hh, Bd.state]; rfl)
theorem own_ret (X : Stand p l e R s m args below meth c T locs cells slots) {g : JFrame} {v : Option Value} {Q : Option Value → Heap → List Loc → Prop} (hv : meth.sig.returnType = none → v = none) (hlk : meth.locks = false) (hc : cells ≤ R.cells) (hs : slots ≤ R.slots)
    (st : ∀ fs, (∀ (f : JFrame) (acts : List Action), f.method = m → f.locked = none → f.entered = [] → (doReturn e (T.setTop f) acts v).1 = T.setFrames fs) → Steps p.tables e below (T.setTop g) (T.setFrames fs)) (hq : Q v T.heap locs) : own_Run p e below (own_End s R Q) (T.setTop g) := by
  obtain ⟨fs, hr, hrun, hended, hW, hsame⟩ := X.leave (v := v) hv hlk
  exact ⟨_, _, st fs hr, hrun, hended, _, _, rfl, hq, ⟨_, rfl⟩, hW, hsame.mono hc hs⟩
theorem own_retN (X : Stand p l e R s m args below meth c T locs cells slots) (hx : p.tables.exec = Jvm.exec) {t : FieldType} (hret : meth.sig.returnType = some t) (hlk : meth.locks = false) (ht : t = .boolean ∨ t = .byte ∨ t = .char ∨ t = .short) {pc : Nat} {Ls : Array Slot} {z : Int32} {rest : List Value} (hd : decode c.code pc = .ok (.ireturn, 1)) {Q : Option Value → Heap → List Loc → Prop} (hc : cells ≤ R.cells) (hs : slots ≤ R.slots)
    (hq : Q (some (.int (nar t z))) T.heap locs) : own_Run p e below (own_End s R Q) (T.setTop (mkF m pc Ls (.int z :: rest))) :=
  own_ret X (fun q => by rw [hret] at q; cases q) hlk hc hs (fun fs hr => retN X hx hret ht hd hr) hq
theorem own_retI (X : Stand p l e R s m args below meth c T locs cells slots) (hx : p.tables.exec = Jvm.exec) (hret : meth.sig.returnType = some .int) (hlk : meth.locks = false) {pc : Nat} {Ls : Array Slot} {z : Int32} {rest : List Value} (hd : decode c.code pc = .ok (.ireturn, 1)) {Q : Option Value → Heap → List Loc → Prop} (hc : cells ≤ R.cells) (hs : slots ≤ R.slots)
    (hq : Q (some (.int z)) T.heap locs) : own_Run p e below (own_End s R Q) (T.setTop (mkF m pc Ls (.int z :: rest))) :=
  own_ret X (fun q => by rw [hret] at q; cases q) hlk hc hs (fun fs hr => retOut X hx hret rfl (Or.inl ⟨rfl, Or.inl rfl, z, rfl⟩) hd hr) hq
theorem own_retJ (X : Stand p l e R s m args below meth c T locs cells slots) (hx : p.tables.exec = Jvm.exec) (hret : meth.sig.returnType = some .long) (hlk : meth.locks = false) {pc : Nat} {Ls : Array Slot} {z : Int64} {rest : List Value} (hd : decode c.code pc = .ok (.lreturn, 1)) {Q : Option Value → Heap → List Loc → Prop} (hc : cells ≤ R.cells) (hs : slots ≤ R.slots)
    (hq : Q (some (.long z)) T.heap locs) : own_Run p e below (own_End s R Q) (T.setTop (mkF m pc Ls (.long z :: rest))) :=
  own_ret X (fun q => by rw [hret] at q; cases q) hlk hc hs (fun fs hr => retOut X hx hret rfl (Or.inr (Or.inl ⟨rfl, rfl, z, rfl⟩)) hd hr) hq
theorem own_retA (X : Stand p l e R s m args below meth c T locs cells slots) (hx : p.tables.exec = Jvm.exec) {t : FieldType} (hret : meth.sig.returnType = some t) (hlk : meth.locks = false) (ht : t.isReference = true) {pc : Nat} {Ls : Array Slot} {w : Value} (hw : w.isRef = true) {rest : List Value} (hn : narrow t w = w) (hd : decode c.code pc = .ok (.areturn, 1)) {Q : Option Value → Heap → List Loc → Prop} (hc : cells ≤ R.cells) (hs : slots ≤ R.slots)
    (hq : Q (some w) T.heap locs) : own_Run p e below (own_End s R Q) (T.setTop (mkF m pc Ls (w :: rest))) :=
  own_ret X (fun q => by rw [hret] at q; cases q) hlk hc hs (fun fs hr => retOut X hx hret hn (Or.inr (Or.inr (Or.inr (Or.inr ⟨rfl, ht, hw⟩)))) hd hr) hq
theorem own_retV (X : Stand p l e R s m args below meth c T locs cells slots) (hx : p.tables.exec = Jvm.exec) (hret : meth.sig.returnType = none) (hlk : meth.locks = false) {pc : Nat} {Ls : Array Slot} (hd : decode c.code pc = .ok (.return_, 1)) {Q : Option Value → Heap → List Loc → Prop} (hc : cells ≤ R.cells) (hs : slots ≤ R.slots)
    (hq : Q none T.heap locs) : own_Run p e below (own_End s R Q) (T.setTop (mkF m pc Ls [])) :=
  own_ret X (fun _ => rfl) hlk hc hs (fun fs hr => X.returnOut hx hret hd hr) hq
/-! calls -/
theorem own_callS (X : Stand p l e R s m args below meth c T locs cells slots) (hx : p.tables.exec = Jvm.exec) (hZ : Z.Warmed39 s.vm) (eT : T.heap = h) {own : String} (hown : s.vm.findClass own = some m.cls) {index : Nat} (y : MethodName) {bytes : ByteArray} {maxL : Nat} {ret : Option FieldType} {rm : Room} {Q : Option Value → Heap → List Loc → Prop}
    (w1 : (Jvm.Cond.methodLink own index y).before a0 Z = true) (w2 : (Jvm.Cond.static y).before a0 Z = true) (w3 : (Jvm.Cond.initialized y.cls).before a0 Z = true) (w4 : (Jvm.Cond.code y bytes maxL ret).before a0 Z = true) (hy : y.cls ≠ "java/lang/invoke/MethodHandle" ∧ y.cls ≠ "java/lang/invoke/VarHandle")
    (argsL rest : List Value) (hM : own_Met l Z y bytes maxL ret rm argsL.toArray h Q) (hf : rm.frames + 1 ≤ R.frames) (W : Nat) (hl : W + (maxL + 11) + rm.locals ≤ R.locals) (hc : cells + rm.cells ≤ R.cells) (hs : slots + rm.slots ≤ R.slots)
    {g : JFrame} (hg : g.method = m) (hsize : g.locals.size = c.maxLocals) (hlen : ∀ sig, parseMethodDescriptor y.desc = some sig → argsL.length = sig.parameters.length) (hstack : g.stack = argsL.reverse ++ rest) (hW : 2 * g.monitorRoom + (rest.map fun v => v.category).sum ≤ W) (hd : decode c.code g.pc = .ok (.invokestatic index, 3))
    (k : ∀ (v : Option Value) (h' : Heap) (L : List Loc) (T' : State), Q v h' L → Stand p l e R s m args below meth c T' (locs ++ L) (cells + rm.cells) (slots + rm.slots) → T'.heap = h' → own_Run p e below Fin (T'.setTop { g with pc := g.pc + 3, stack := v.toList ++ rest })) : own_Run p e below Fin (T.setTop g) := by
  obtain ⟨v, _, ⟨T', L', k', n'⟩, -, X', ⟨Lc, hQ, l1, y1, z1⟩, st⟩ := Jvm.LawKit.callS X hx (y := y) hown (mvT hZ w1) (mvT hZ w2) (mvT hZ w3) (mvT hZ w4) hy (backOf (W := W) (hM []) hZ w4 w3 hf hl) hg hsize (argsL := argsL) (rest := rest) hlen hstack hW hd (fun _ _ => ⟨rfl, eT, hc, hs⟩)
  dsimp only [Pt.U, Pt.locs, Pt.cells, Pt.slots] at X' l1 y1 z1 st hQ
  subst l1 y1 z1
  exact own_go st (k v T'.heap Lc T' hQ X' rfl)
theorem own_callN (X : Stand p l e R s m args below meth c T locs cells slots) (hx : p.tables.exec = Jvm.exec) (hZ : Z.Warmed39 s.vm) (eT : T.heap = h) {own : String} (hown : s.vm.findClass own = some m.cls) {index : Nat} (y : MethodName) (hy1 : y.name = "<init>") {bytes : ByteArray} {maxL : Nat} {rm : Room} {Q : Option Value → Heap → List Loc → Prop}
    (w1 : (Jvm.Cond.methodLink own index y).before a0 Z = true) (w2 : (Jvm.Cond.instanceMethod y).before a0 Z = true) (w3 : (Jvm.Cond.initialized y.cls).before a0 Z = true) (w4 : (Jvm.Cond.code y bytes maxL none).before a0 Z = true) (hy : y.cls ≠ "java/lang/invoke/MethodHandle" ∧ y.cls ≠ "java/lang/invoke/VarHandle")
    (a : Addr) (argsL rest : List Value) (hM : own_Met l Z y bytes maxL none rm (.ref a :: argsL).toArray h Q) (hf : rm.frames + 1 ≤ R.frames) (W : Nat) (hl : W + (maxL + 11) + rm.locals ≤ R.locals) (hc : cells + rm.cells ≤ R.cells) (hs : slots + rm.slots ≤ R.slots)
    {g : JFrame} (hg : g.method = m) (hsize : g.locals.size = c.maxLocals) (hlen : ∀ sig, parseMethodDescriptor y.desc = some sig → argsL.length = sig.parameters.length) (hstack : g.stack = argsL.reverse ++ .ref a :: rest) (hW : 2 * g.monitorRoom + (rest.map fun v => v.category).sum ≤ W) (hd : decode c.code g.pc = .ok (.invokespecial index, 3))
    (k : ∀ (v : Option Value) (h' : Heap) (L : List Loc) (T' : State), Q v h' L → Stand p l e R s m args below meth c T' (locs ++ L) (cells + rm.cells) (slots + rm.slots) → T'.heap = h' → own_Run p e below Fin (T'.setTop { g with pc := g.pc + 3, stack := v.toList ++ rest })) : own_Run p e below Fin (T.setTop g) := by
  obtain ⟨v, _, ⟨T', L', k', n'⟩, -, X', ⟨Lc, hQ, l1, y1, z1⟩, st⟩ := X.specialBack hx (y := y) hy1 hown (mvT hZ w1) (mvT hZ w2) (mvT hZ w4) hy (backOf (W := W) (hM []) hZ w4 w3 hf hl) hg hsize (Steps.refl _) (a := a) (argsL := argsL) (rest := rest) hlen hstack hW hd (fun _ _ => ⟨rfl, eT, hc, hs⟩)
  dsimp only [Pt.U, Pt.locs, Pt.cells, Pt.slots] at X' l1 y1 z1 st hQ
  subst l1 y1 z1
  exact own_go (fun _ q => st.trans q) (k v T'.heap Lc T' hQ X' rfl)
theorem own_callV (X : Stand p l e R s m args below meth c T locs cells slots) (hx : p.tables.exec = Jvm.exec) (hZ : Z.Warmed39 s.vm) (eT : T.heap = h) {own : String} (hown : s.vm.findClass own = some m.cls) {index : Nat} (y : MethodName) {C : String} {bytes : ByteArray} {maxL : Nat} {ret : Option FieldType} {rm : Room} {Q : Option Value → Heap → List Loc → Prop}
    (w1 : (Jvm.Cond.methodLink own index y).before a0 Z = true) (w5 : (Jvm.Cond.declares y).before a0 Z = true) (w6 : (Jvm.Cond.selects C y y).before a0 Z = true) (w2 : (Jvm.Cond.instanceMethod y).before a0 Z = true) (w3 : (Jvm.Cond.initialized y.cls).before a0 Z = true) (w4 : (Jvm.Cond.code y bytes maxL ret).before a0 Z = true) (hy : y.cls ≠ "java/lang/invoke/MethodHandle" ∧ y.cls ≠ "java/lang/invoke/VarHandle")
    (a : Addr) (E : Exa Z h a C) (argsL rest : List Value) (hM : own_Met l Z y bytes maxL ret rm (.ref a :: argsL).toArray h Q) (hf : rm.frames + 1 ≤ R.frames) (W : Nat) (hl : W + (maxL + 11) + rm.locals ≤ R.locals) (hc : cells + rm.cells ≤ R.cells) (hs : slots + rm.slots ≤ R.slots)
    {g : JFrame} (hg : g.method = m) (hsize : g.locals.size = c.maxLocals) (hlen : ∀ sig, parseMethodDescriptor y.desc = some sig → argsL.length = sig.parameters.length) (hstack : g.stack = argsL.reverse ++ .ref a :: rest) (hW : 2 * g.monitorRoom + (rest.map fun v => v.category).sum ≤ W) (hd : decode c.code g.pc = .ok (.invokevirtual index, 3))
    (k : ∀ (v : Option Value) (h' : Heap) (L : List Loc) (T' : State), Q v h' L → Stand p l e R s m args below meth c T' (locs ++ L) (cells + rm.cells) (slots + rm.slots) → T'.heap = h' → own_Run p e below Fin (T'.setTop { g with pc := g.pc + 3, stack := v.toList ++ rest })) : own_Run p e below Fin (T.setTop g) := by
  obtain ⟨cq, kq, qa, qb, qc⟩ := isOf hZ eT E
  obtain ⟨v, _, ⟨T', L', k', n'⟩, -, X', ⟨Lc, hQ, l1, y1, z1⟩, st⟩ := X.virtualBack hx (y := y) (z := y) hown (mvT hZ w1) (mvT hZ w5) (notFace_of_selects (args := #[]) (mvT hZ w6)) (mvT hZ w6) (mvT hZ w2) hy (backOf (W := W) (hM []) hZ w4 w3 hf hl) qa qc hg hsize (Steps.refl _) (argsL := argsL) (rest := rest) hlen hstack hW hd (fun _ _ => ⟨rfl, eT, hc, hs⟩)
  dsimp only [Pt.U, Pt.locs, Pt.cells, Pt.slots] at X' l1 y1 z1 st hQ
  subst l1 y1 z1
  exact own_go (fun _ q => st.trans q) (k v T'.heap Lc T' hQ X' rfl)
theorem own_initO (X : Stand p l e R s m args below meth c T locs cells slots) (hx : p.tables.exec = Jvm.exec) (hZ : Z.Warmed39 s.vm) (eT : T.heap = h) {own : String} (hown : s.vm.findClass own = some m.cls) {idx : Nat} (w1 : (Jvm.Cond.methodLink own idx Lib.objectInit).before a0 Z = true) (w2 : (Jvm.Cond.instanceMethod Lib.objectInit).before a0 Z = true)
    (w3 : (Jvm.Cond.code Lib.objectInit object_method_1_code 1 none).before a0 Z = true) {g : JFrame} (hg : g.method = m) (hsize : g.locals.size = c.maxLocals) {a : Addr} {rest : List Value} (hs : g.stack = .ref a :: rest) (hd : decode c.code g.pc = .ok (.invokespecial idx, 3))
    (hf : 1 ≤ R.frames) (W : Nat) (hW : 2 * g.monitorRoom + (rest.map fun v => v.category).sum ≤ W) (hl : W + 12 ≤ R.locals)
    (k : ∀ T' : State, Stand p l e R s m args below meth c T' locs cells slots → T'.heap = h → own_Run p e below Fin (T'.setTop { g with pc := g.pc + 3, stack := rest })) : own_Run p e below Fin (T.setTop g) := by
  obtain ⟨T', X', e', st⟩ := initO X hx hZ hown w1 w2 w3 eT hg hsize hs hd hf hW hl
  exact own_go st (k T' X' e')
/-! fields -/
theorem own_getF (X : Stand p l e R s m args below meth c T locs cells slots) (hx : p.tables.exec = Jvm.exec) (hZ : Z.Warmed39 s.vm) (eT : T.heap = h) {own O n d : String} (hown : s.vm.findClass own = some m.cls) {index : Nat} (w : (Jvm.Cond.fieldLink own index O n d).before a0 Z = true)
    {a : Addr} {v : Value} (F : Fld Z h a O n d v) {g : JFrame} (hg : g.method = m) {rest : List Value} (hs : g.stack = .ref a :: rest) (hd : decode c.code g.pc = .ok (.getfield index, 3))
    (k : ∀ T' : State, Stand p l e R s m args below meth c T' locs cells slots → T'.heap = h → own_Run p e below Fin (T'.setTop { g with pc := g.pc + 3, stack := v :: rest })) : own_Run p e below Fin (T.setTop g) := by
  obtain ⟨T', X', e', st⟩ := getF X hx hZ hown (host := "") (Or.inl w) Via.refl eT F hg hs hd
  exact own_go st (k T' X' e')
theorem own_putF (X : Stand p l e R s m args below meth c T locs cells slots) (hx : p.tables.exec = Jvm.exec) (hZ : Z.Warmed39 s.vm) (eT : T.heap = h) {own O n d C : String} (hown : s.vm.findClass own = some m.cls) {index kk : Nat} (ty : FieldType) (w : (Jvm.Cond.fieldLink own index O n d).before a0 Z = true)
    {a : Addr} {v v' old : Value} (F : Fld Z h a O n d old) (E : Exa Z h a C) (L : (Jvm.Cond.lays C O n d).before a0 Z = true ∨ ((Jvm.Cond.laysFinal C O n d).before a0 Z = true ∧ own = O ∧ meth.name = "<init>")) (wi : (Jvm.Cond.instantiable C kk).before a0 Z = true)
    (hty : parseFieldDescriptor d = some ty) (hn : narrow ty v = v') (hf : fits ty v' = true) {g : JFrame} (hg : g.method = m) {rest : List Value} (hs : g.stack = v :: .ref a :: rest) (hd : decode c.code g.pc = .ok (.putfield index, 3))
    (k : ∀ (T' : State) (h' : Heap), Stand p l e R s m args below meth c T' (locs ++ [⟨a, Jvm.RoadKit.slotOf Z O n d⟩]) cells slots → T'.heap = h' → Wr h h' a (Jvm.RoadKit.slotOf Z O n d) v' → own_Run p e below Fin (T'.setTop { g with pc := g.pc + 3, stack := rest })) : own_Run p e below Fin (T.setTop g) := by
  obtain ⟨T', h', X', e', W, st⟩ := putFN X hx hZ hown w Via.refl eT F E L wi hty hn hf hg hs hd
  exact own_go st (k T' h' X' e' W)
/-! fresh objects -/
theorem own_newO (X : Stand p l e R s m args below meth c T locs cells slots) (hx : p.tables.exec = Jvm.exec) (hZ : Z.Warmed39 s.vm) (eT : T.heap = h) {own C : String} {index n : Nat} (hown : s.vm.findClass own = some m.cls) (w : (Jvm.Cond.classLink own index C).before a0 Z = true) (wi : (Jvm.Cond.instantiable C n).before a0 Z = true) (wz : (Jvm.Cond.initialized C).before a0 Z = true)
    {g : JFrame} (hg : g.method = m) (hd : decode c.code g.pc = .ok (.new index, 3)) (hc : cells + 1 ≤ R.cells) (hl : slots + n ≤ R.slots)
    (k : ∀ (b : Addr) (T' : State) (h' : Heap), b = h.size → Stand p l e R s m args below meth c T' locs (cells + 1) (slots + n) → T'.heap = h' → Ext h h' → Exa Z h' b C → (∀ {O nm d : String} {ty : FieldType}, Laid Z a0 C O nm d → parseFieldDescriptor d = some ty → Fld Z h' b O nm d (defaultValue ty)) →
      own_Run p e below Fin (T'.setTop { g with pc := g.pc + 3, stack := .ref b :: g.stack })) : own_Run p e below Fin (T.setTop g) := by
  obtain ⟨T', h', X', e', E, A, D, -, st⟩ := newO X hx hZ hown w wi wz eT hg hd hc hl
  exact own_go st (k h.size T' h' rfl X' e' E A D)
/-! arrays: n places, place k holds f k -/
def own_Arr (Z : State) (h : Heap) (a : Addr) (ty : FieldType) (n : Nat) (f : Nat → Value) : Prop := ∃ cl : Cell, Arr Z h a cl ty ∧ cl.slots.size = n ∧ ∀ k, k < n → cl.slots[k]? = some (f k)
theorem own_Arr.lt {a : Addr} {ty : FieldType} {n : Nat} {f : Nat → Value} (F : own_Arr Z h a ty n f) : a < h.size := by obtain ⟨c, A, -⟩ := F; exact A.lt
theorem own_Arr.ext {a : Addr} {ty : FieldType} {n : Nat} {f : Nat → Value} (F : own_Arr Z h a ty n f) (E : Ext h h') : own_Arr Z h' a ty n f := by obtain ⟨c, A, r⟩ := F; exact ⟨c, A.ext E, r⟩
theorem own_Arr.other {a b : Addr} {sl : Nat} {v : Value} {ty : FieldType} {n : Nat} {f : Nat → Value} (F : own_Arr Z h b ty n f) (W : Wr h h' a sl v) (q : b ≠ a) : own_Arr Z h' b ty n f := by obtain ⟨c, A, r⟩ := F; exact ⟨c, A.other W q, r⟩
theorem own_Arr.keep {a : Addr} {ws : List Addr} {ty : FieldType} {n : Nat} {f : Nat → Value} (F : own_Arr Z h a ty n f) (K : Keep h h' ws) (q : a ∉ ws) : own_Arr Z h' a ty n f := by obtain ⟨c, A, r⟩ := F; exact ⟨c, ⟨K.2.1 a c A.1 q, A.2⟩, r⟩
theorem own_Arr.set {a : Addr} {j : Nat} {v : Value} {ty : FieldType} {n : Nat} {f : Nat → Value} (F : own_Arr Z h a ty n f) (W : Wr h h' a j v) (hj : j < n) : own_Arr Z h' a ty n (fun k => if k = j then v else f k) := by
  obtain ⟨cl, A, r1, r2⟩ := F
  refine ⟨_, A.same W, by rw [sz_set]; exact r1, fun k hk => ?_⟩
  by_cases q : k = j
  · subst q; simp [Cell.setSlot, r1, hj]
  · show (cl.setSlot j v).slots[k]? = some (if k = j then v else f k)
    rw [if_neg q]; exact (Array.getElem?_setIfInBounds_ne (Ne.symm q)).trans (r2 k hk)
theorem own_Arr.congr {a : Addr} {ty : FieldType} {n : Nat} {f f' : Nat → Value} (F : own_Arr Z h a ty n f) (q : ∀ k, k < n → f k = f' k) : own_Arr Z h a ty n f' := by
  obtain ⟨cl, A, r1, r2⟩ := F
  exact ⟨cl, A, r1, fun k hk => by rw [← q k hk]; exact r2 k hk⟩
theorem own_in {cl : Cell} {n : Nat} {j : Int32} (r : cl.slots.size = n) (hj : 0 ≤ j.toInt ∧ j.toInt < n) : ¬ (j < 0 ∨ cl.slots.size ≤ j.toNatClampNeg) := by
  have e0 : (0 : Int32).toInt = 0 := rfl
  simp only [Int32.lt_iff_toInt_lt, Int32.toNatClampNeg, r, e0]; omega
theorem own_idx {n : Nat} {j : Int32} (hj : 0 ≤ j.toInt ∧ j.toInt < n) : j.toNatClampNeg < n := by
  simp only [Int32.toNatClampNeg]; omega
theorem own_newP (X : Stand p l e R s m args below meth c T locs cells slots) (hx : p.tables.exec = Jvm.exec) (hZ : Z.Warmed39 s.vm) (eT : T.heap = h) {aty : ArrayType} (w : (Jvm.Cond.arrayClass (newarray.typeOf aty)).before a0 Z = true) {g : JFrame} (hg : g.method = m) (hd : decode c.code g.pc = .ok (.newarray aty, 2)) {z : Int32} {rest : List Value} (hs : g.stack = .int z :: rest)
    (n cap : Nat) (hn : z.toInt = n) (hcap : n ≤ cap) (hb : cap * 8 ≤ 536870912) (hc : cells + 1 ≤ R.cells) (hl : slots + cap ≤ R.slots) (ad : String) (had : "[" ++ (newarray.typeOf aty).toString = ad)
    (k : ∀ (b : Addr) (T' : State) (h' : Heap), b = h.size → Stand p l e R s m args below meth c T' locs (cells + 1) (slots + cap) → T'.heap = h' → Ext h h' → own_Arr Z h' b (newarray.typeOf aty) n (fun _ => defaultValue (newarray.typeOf aty)) → Exa Z h' b ad →
      own_Run p e below Fin (T'.setTop { g with pc := g.pc + 2, stack := .ref b :: rest })) : own_Run p e below Fin (T.setTop g) := by
  have hz : z.toNatClampNeg = n := by simp only [Int32.toNatClampNeg]; omega
  have e0 : (0 : Int32).toInt = 0 := rfl
  have hz0 : ¬ z < 0 := by rw [Int32.lt_iff_toInt_lt, e0]; omega
  obtain ⟨T', h', cA, X', e', E, A, Ex, st⟩ := newPE X hx hZ w eT hg hd hs (n := z) hz0 (cap := cap) (by omega) hb hc hl had
  exact own_go st (k h.size T' h' rfl X' e' E ⟨_, A, by rw [sz_new]; exact hz, fun i hi => by simp [newA, hz, hi]⟩ Ex)
theorem own_iastore (X : Stand p l e R s m args below meth c T locs cells slots) (hx : p.tables.exec = Jvm.exec) (hZ : Z.Warmed39 s.vm) (eT : T.heap = h) {a : Addr} {n : Nat} {f : Nat → Value} (A : own_Arr Z h a .int n f) {j x : Int32} (hj : 0 ≤ j.toInt ∧ j.toInt < n) {g : JFrame} (hg : g.method = m) {rest : List Value} (hs : g.stack = .int x :: .int j :: .ref a :: rest) (hd : decode c.code g.pc = .ok (.iastore, 1))
    (k : ∀ (T' : State) (h' : Heap), Stand p l e R s m args below meth c T' (locs ++ [⟨a, j.toNatClampNeg⟩]) cells slots → T'.heap = h' → Wr h h' a j.toNatClampNeg (.int x) → own_Arr Z h' a .int n (fun i => if i = j.toNatClampNeg then .int x else f i) → own_Run p e below Fin (T'.setTop { g with pc := g.pc + 1, stack := rest })) : own_Run p e below Fin (T.setTop g) := by
  obtain ⟨cl, A1, r1, r2⟩ := A
  obtain ⟨T', h', X', e', W, st⟩ := stI X hx hZ eT A1 (own_in r1 hj) hg hs hd
  exact own_go st (k T' h' X' e' W (own_Arr.set ⟨cl, A1, r1, r2⟩ W (own_idx hj)))
theorem own_bastore (X : Stand p l e R s m args below meth c T locs cells slots) (hx : p.tables.exec = Jvm.exec) (hZ : Z.Warmed39 s.vm) (eT : T.heap = h) {a : Addr} {n : Nat} {f : Nat → Value} (A : own_Arr Z h a .byte n f) {j x : Int32} (hj : 0 ≤ j.toInt ∧ j.toInt < n) {g : JFrame} (hg : g.method = m) {rest : List Value} (hs : g.stack = .int x :: .int j :: .ref a :: rest) (hd : decode c.code g.pc = .ok (.bastore, 1))
    (k : ∀ (T' : State) (h' : Heap), Stand p l e R s m args below meth c T' (locs ++ [⟨a, j.toNatClampNeg⟩]) cells slots → T'.heap = h' → Wr h h' a j.toNatClampNeg (.int (nar .byte x)) → own_Arr Z h' a .byte n (fun i => if i = j.toNatClampNeg then .int (nar .byte x) else f i) → own_Run p e below Fin (T'.setTop { g with pc := g.pc + 1, stack := rest })) : own_Run p e below Fin (T.setTop g) := by
  obtain ⟨cl, A1, r1, r2⟩ := A
  obtain ⟨T', h', X', e', W, st⟩ := stB X hx hZ eT A1 (own_in r1 hj) hg hs hd
  exact own_go st (k T' h' X' e' W (own_Arr.set ⟨cl, A1, r1, r2⟩ W (own_idx hj)))
theorem own_iaload (X : Stand p l e R s m args below meth c T locs cells slots) (hx : p.tables.exec = Jvm.exec) (hZ : Z.Warmed39 s.vm) (eT : T.heap = h) {a : Addr} {n : Nat} {f : Nat → Value} (A : own_Arr Z h a .int n f) {j : Int32} (v : Int32) (hj : 0 ≤ j.toInt ∧ j.toInt < n) (hv : f j.toNatClampNeg = .int v) {g : JFrame} (hg : g.method = m) {rest : List Value} (hs : g.stack = .int j :: .ref a :: rest) (hd : decode c.code g.pc = .ok (.iaload, 1))
    (k : own_Run p e below Fin (T.setTop { g with pc := g.pc + 1, stack := .int v :: rest })) : own_Run p e below Fin (T.setTop g) := by
  obtain ⟨cl, A1, r1, r2⟩ := A
  exact own_go (X.iaload hx (by rw [eT]; exact A1.1) (State.isArrayOf_alike hZ.alike A1.2.1) A1.2.2 (own_in r1 hj) ((r2 _ (own_idx hj)).trans (by rw [hv])) hg hs hd) k
theorem own_baload (X : Stand p l e R s m args below meth c T locs cells slots) (hx : p.tables.exec = Jvm.exec) (hZ : Z.Warmed39 s.vm) (eT : T.heap = h) {a : Addr} {n : Nat} {f : Nat → Value} (A : own_Arr Z h a .byte n f) {j : Int32} (v : Int32) (hj : 0 ≤ j.toInt ∧ j.toInt < n) (hv : f j.toNatClampNeg = .int v) {g : JFrame} (hg : g.method = m) {rest : List Value} (hs : g.stack = .int j :: .ref a :: rest) (hd : decode c.code g.pc = .ok (.baload, 1))
    (k : own_Run p e below Fin (T.setTop { g with pc := g.pc + 1, stack := .int v :: rest })) : own_Run p e below Fin (T.setTop g) := by
  obtain ⟨cl, A1, r1, r2⟩ := A
  exact own_go (X.baloadBytes hx (by rw [eT]; exact A1.1) (State.isArrayOf_alike hZ.alike A1.2.1) A1.2.2 (own_in r1 hj) ((r2 _ (own_idx hj)).trans (by rw [hv])) hg hs hd) k
theorem own_alen (X : Stand p l e R s m args below meth c T locs cells slots) (hx : p.tables.exec = Jvm.exec) (hZ : Z.Warmed39 s.vm) (eT : T.heap = h) {a : Addr} {ty : FieldType} {n : Nat} {f : Nat → Value} (A : own_Arr Z h a ty n f) (z : Int32) (hz : z.toInt = n) {g : JFrame} (hg : g.method = m) {rest : List Value} (hs : g.stack = .ref a :: rest) (hd : decode c.code g.pc = .ok (.arraylength, 1))
    (k : own_Run p e below Fin (T.setTop { g with pc := g.pc + 1, stack := .int z :: rest })) : own_Run p e below Fin (T.setTop g) := by
  obtain ⟨cl, A1, r1, r2⟩ := A
  have e0 : (0 : Int32).toInt = 0 := rfl
  have hz0 : ¬ z < 0 := by rw [Int32.lt_iff_toInt_lt, e0]; omega
  have q : cl.slots.size.toInt32 = z := len_of (by rw [r1]; simp only [Int32.toNatClampNeg]; omega) hz0
  exact own_go (X.arraylength hx (by rw [eT]; exact A1.1) (State.isArrayOf_alike hZ.alike A1.2.1) hg hs hd) (by rw [q]; exact k)
theorem own_clone (X : Stand p l e R s m args below meth c T locs cells slots) (hx : p.tables.exec = Jvm.exec) (hZ : Z.Warmed39 s.vm) (eT : T.heap = h) {own ad : String} {index : Nat} (hown : s.vm.findClass own = some m.cls)
    (w1 : (Jvm.Cond.methodLink own index ⟨ad, "clone", "()Ljava/lang/Object;"⟩).before a0 Z = true) (w2 : (Jvm.Cond.sameMethod ad "java/lang/Object" "clone" "()Ljava/lang/Object;").before a0 Z = true) (w3 : (Jvm.Cond.native ⟨"java/lang/Object", "clone", "()Ljava/lang/Object;"⟩).before a0 Z = true)
    (w4 : (Jvm.Cond.instanceMethod ⟨"java/lang/Object", "clone", "()Ljava/lang/Object;"⟩).before a0 Z = true) (w5 : (Jvm.Cond.selects ad ⟨ad, "clone", "()Ljava/lang/Object;"⟩ ⟨"java/lang/Object", "clone", "()Ljava/lang/Object;"⟩).before a0 Z = true) (w6 : (Jvm.Cond.castable ad "java/lang/Cloneable").before a0 Z = true)
    {a : Addr} {ty : FieldType} {n : Nat} {f : Nat → Value} (A : own_Arr Z h a ty n f) (E : Exa Z h a ad) (hfit : ∀ i, i < n → fits ty (f i) = true) {g : JFrame} (hg : g.method = m) (hsize : g.locals.size = c.maxLocals) {rest : List Value} (hs : g.stack = .ref a :: rest) (hd : decode c.code g.pc = .ok (.invokevirtual index, 3))
    (hf : 1 ≤ R.frames) (W cap : Nat) (hW : 2 * g.monitorRoom + (rest.map fun v => v.category).sum ≤ W) (hl : W + 14 ≤ R.locals) (hcap : n ≤ cap) (hc : cells + 1 ≤ R.cells) (hsl : slots + cap ≤ R.slots)
    (k : ∀ (b : Addr) (T' : State) (h' : Heap), b = h.size → Stand p l e R s m args below meth c T' locs (cells + 1) (slots + cap) → T'.heap = h' → Ext h h' → own_Arr Z h' b ty n f → Exa Z h' b ad → own_Run p e below Fin (T'.setTop { g with pc := g.pc + 3, stack := .ref b :: rest })) : own_Run p e below Fin (T.setTop g) := by
  obtain ⟨cl, A1, r1, r2⟩ := A
  have FC : FitC Z cl := fitC_of A1 fun i hi v hv => by
    rw [r2 i (by omega)] at hv; cases hv; exact hfit i (by omega)
  obtain ⟨T', h', X', e', ex, A', E', st⟩ := cloneA X hx hZ hown w1 w2 w3 w4 w5 w6 eT A1 E FC hg hsize hs hd hf hW hl (by omega) hc hsl
  exact own_go st (k h.size T' h' rfl X' e' ex ⟨cloneOf cl, A', r1, r2⟩ E')
theorem own_cast (X : Stand p l e R s m args below meth c T locs cells slots) (hx : p.tables.exec = Jvm.exec) (hZ : Z.Warmed39 s.vm) (eT : T.heap = h) {own K C : String} {index : Nat} (hown : s.vm.findClass own = some m.cls) (w : (Jvm.Cond.classLink own index K).before a0 Z = true) {a : Addr} (E : Exa Z h a C) (w2 : (Jvm.Cond.castable C K).before a0 Z = true)
    {g : JFrame} (hg : g.method = m) {rest : List Value} (hs : g.stack = .ref a :: rest) (hd : decode c.code g.pc = .ok (.checkcast index, 3))
    (k : ∀ T' : State, Stand p l e R s m args below meth c T' locs cells slots → T'.heap = h → own_Run p e below Fin (T'.setTop { g with pc := g.pc + 3 })) : own_Run p e below Fin (T.setTop g) := by
  obtain ⟨T', X', e', st⟩ := castY X hx hZ hown w eT (Ins.of_exa E w2) hg hs hd
  exact own_go st (k T' X' e')
/-! constants -/
theorem own_ldc (X : Stand p l e R s m args below meth c T locs cells slots) (hx : p.tables.exec = Jvm.exec) (hZ : Z.Warmed39 s.vm) {own : String} {index : Nat} {v : Int32} (hown : s.vm.findClass own = some m.cls) (w : (Jvm.Cond.constant own index v).before a0 Z = true) {g : JFrame} (hg : g.method = m) (hd : decode c.code g.pc = .ok (.ldc index, 2))
    (k : own_Run p e below Fin (T.setTop { g with pc := g.pc + 2, stack := .int v :: g.stack })) : own_Run p e below Fin (T.setTop g) := own_go (X.ldcInt hx hown (mvT hZ w) hg hd) k
theorem own_ldc2 (X : Stand p l e R s m args below meth c T locs cells slots) (hx : p.tables.exec = Jvm.exec) (hZ : Z.Warmed39 s.vm) {own : String} {index : Nat} {v : Int64} (hown : s.vm.findClass own = some m.cls) (w : (Jvm.Cond.constantLong own index v).before a0 Z = true) {g : JFrame} (hg : g.method = m) (hd : decode c.code g.pc = .ok (.ldc2_w index, 3))
    (k : own_Run p e below Fin (T.setTop { g with pc := g.pc + 3, stack := .long v :: g.stack })) : own_Run p e below Fin (T.setTop g) := own_go (X.ldc2Long hx hown (mvT hZ w) hg hd) k
theorem own_inj {x y : Int32} (q : x.toInt = y.toInt) : x = y := Int32.toInt_inj.mp q
theorem own_injL {x y : Int64} (q : x.toInt = y.toInt) : x = y := Int64.toInt_inj.mp q
end OwnKit
def own_is (w u : Int32) : Int32 := if (u % (2 : Int32)) = (1 : Int32) then (if w = (1 : Int32) then (1 : Int32) else (0 : Int32)) else (if w = (0 : Int32) then (1 : Int32) else (0 : Int32))
theorem own_par (u : Int32) (h : 0 ≤ u.toInt) : (u % (2 : Int32) = (1 : Int32) ∧ ¬ (u &&& (1 : Int32)) = (0 : Int32)) ∨ (¬ u % (2 : Int32) = (1 : Int32) ∧ (u &&& (1 : Int32)) = (0 : Int32)) := by
  have e1 : (u &&& 1).toInt = u.toInt % (2 ^ 1 : Nat) := c_mask u 1 1 (by decide) (by decide)
  have e2 := (c_irem u 2 2 rfl).1 h
  have z1 : (1 : Int32).toInt = 1 := rfl
  have z0 : (0 : Int32).toInt = 0 := rfl
  by_cases q : u.toInt % 2 = 1
  · left
    refine ⟨own_inj (by omega), fun w => ?_⟩
    rw [w, z0] at e1; omega
  · right
    refine ⟨fun w => ?_, own_inj (by omega)⟩
    rw [w, z1] at e2; omega
theorem own_l0 (u od : Int32) (h : 0 ≤ u.toInt) (hod : od = (if (u &&& (1 : Int32)) = (0 : Int32) then 0 else 1)) : (od = (0 : Int32) → own_is (nar .boolean (0 : Int32)) u = (1 : Int32)) ∧ (¬ od = (0 : Int32) → own_is (nar .boolean (0 : Int32)) u = (0 : Int32)) ∧ own_is (nar .boolean (1 : Int32)) u = od ∧ ¬ own_is (nar .boolean (0 : Int32)) u = own_is (nar .boolean (1 : Int32)) u := by
  have n0 : nar .boolean (0 : Int32) = (0 : Int32) := rfl
  have n1 : nar .boolean (1 : Int32) = (1 : Int32) := rfl
  rw [n0, n1]
  rcases own_par u h with ⟨q, r⟩ | ⟨q, r⟩
  · rw [if_neg r] at hod
    subst hod
    have a0 : own_is 0 u = 0 := by unfold own_is; rw [if_pos q]; rfl
    have a1 : own_is 1 u = 1 := by unfold own_is; rw [if_pos q]; rfl
    rw [a0, a1]; decide
  · rw [if_pos r] at hod
    subst hod
    have a0 : own_is 0 u = 1 := by unfold own_is; rw [if_neg q]; rfl
    have a1 : own_is 1 u = 0 := by unfold own_is; rw [if_neg q]; rfl
    rw [a0, a1]; decide
theorem d0_0 : decode jdk_71_method_1_code 0 = .ok (.aload_n 0, 1) := by decide +kernel
theorem d0_1 : decode jdk_71_method_1_code 1 = .ok (.invokespecial 1, 3) := by decide +kernel
theorem d0_4 : decode jdk_71_method_1_code 4 = .ok (.return_, 1) := by decide +kernel
abbrev Q_am (Z : State) (a : Addr) (h0 : Heap) : Option Value → Heap → List Loc → Prop := fun v h L => v = none ∧ h0 = h ∧ L = []
set_option maxRecDepth 65536 in
set_option maxHeartbeats 40000000 in
theorem rm_am (l : Launch) (Z : State) (a0 : Array Value) (hw : ∀ d ∈ tables_1, d.before a0 Z = true) (a : Addr) (h0 : Heap)  :
    own_Met l Z (⟨"java/util/AbstractMap", "<init>", "()V"⟩ : MethodName) jdk_71_method_1_code 1 none ({ frames := 1, cells := 0, slots := 0, locals := 12 } : Room) #[(.ref a)] h0 (Q_am Z a h0) := by
  refine own_enter (g0 := fun m => (mkF m 0 #[.val (.ref a)] [])) (plainFor_of_name (by first | (simp [plainName, overriddenIn]; done) | decide +kernel)) (fun m => by first | (simp [entryFrame, mkF, argsToLocals, Value.category]; done) | rfl) ?_
  intro p e s m below meth c T hx hby hml hown hnm hZ hret hlk X e0
  replace hown : s.vm.findClass "java/util/AbstractMap" = some m.cls := hown
  show own_Run p e below _ (T.setTop (mkF m 0 #[.val (.ref a)] []))
  refine own_go (fun _ kS => XS.aloadN X.here hx rfl (hb hby d0_0) rfl rfl kS) ?_
  show own_Run p e below _ (T.setTop (mkF m 1 #[.val (.ref a)] [(.ref a)]))
  refine own_initO X hx hZ e0 hown (hw _ (List.mem_of_getElem? (i := 22) rfl)) (hw _ (List.mem_of_getElem? (i := 8) rfl)) (hw _ (List.mem_of_getElem? (i := 9) rfl)) rfl (by rw [hml]; rfl) rfl (hb hby d0_1) (by decide) 0 (by show 2 * 0 + _ ≤ _; exact Nat.le_of_eq rfl) (by decide) (fun T1 X1 e1 => ?_)
  show own_Run p e below _ (T1.setTop (mkF m 4 #[.val (.ref a)] []))
  refine own_retV X1 hx hret hlk (hb hby d0_4) (by decide) (by decide) ?_
  exact ⟨rfl, e1.symm, rfl⟩
theorem own_pd0 : parseMethodDescriptor "()V" = some ⟨[], none⟩ := by decide +kernel
theorem d1_0 : decode jdk_2776_method_8_code 0 = .ok (.aload_n 0, 1) := by decide +kernel
theorem d1_1 : decode jdk_2776_method_8_code 1 = .ok (.invokespecial 67, 3) := by decide +kernel
theorem d1_4 : decode jdk_2776_method_8_code 4 = .ok (.return_, 1) := by decide +kernel
abbrev Q_chm (Z : State) (a : Addr) (h0 : Heap) : Option Value → Heap → List Loc → Prop := fun v h L => v = none ∧ h0 = h ∧ L = []
set_option maxRecDepth 65536 in
set_option maxHeartbeats 40000000 in
theorem rm_chm (l : Launch) (Z : State) (a0 : Array Value) (hw : ∀ d ∈ tables_1, d.before a0 Z = true) (a : Addr) (h0 : Heap)  :
    own_Met l Z (⟨"java/util/concurrent/ConcurrentHashMap", "<init>", "()V"⟩ : MethodName) jdk_2776_method_8_code 1 none ({ frames := 2, cells := 0, slots := 0, locals := 24 } : Room) #[(.ref a)] h0 (Q_chm Z a h0) := by
  refine own_enter (g0 := fun m => (mkF m 0 #[.val (.ref a)] [])) (plainFor_of_name (by first | (simp [plainName, overriddenIn]; done) | decide +kernel)) (fun m => by first | (simp [entryFrame, mkF, argsToLocals, Value.category]; done) | rfl) ?_
  intro p e s m below meth c T hx hby hml hown hnm hZ hret hlk X e0
  replace hown : s.vm.findClass "java/util/concurrent/ConcurrentHashMap" = some m.cls := hown
  show own_Run p e below _ (T.setTop (mkF m 0 #[.val (.ref a)] []))
  refine own_go (fun _ kS => XS.aloadN X.here hx rfl (hb hby d1_0) rfl rfl kS) ?_
  show own_Run p e below _ (T.setTop (mkF m 1 #[.val (.ref a)] [(.ref a)]))
  refine own_callN X hx hZ e0 hown (⟨"java/util/AbstractMap", "<init>", "()V"⟩ : MethodName) rfl (hw _ (List.mem_of_getElem? (i := 16) rfl)) (hw _ (List.mem_of_getElem? (i := 17) rfl)) (hw _ (List.mem_of_getElem? (i := 20) rfl)) (hw _ (List.mem_of_getElem? (i := 21) rfl)) (by decide) a [] [] (rm_am l Z a0 hw a h0) (by decide) 0 (by decide) (by decide) (by decide) rfl (by rw [hml]; rfl) (lenOf own_pd0 rfl) rfl (by show 2 * 0 + _ ≤ _; exact Nat.le_of_eq rfl) (hb hby d1_1) (fun v1 h1 L1 T1 Q1 X1 e1 => ?_)
  obtain ⟨rfl, rfl, rfl⟩ := Q1
  show own_Run p e below _ (T1.setTop (mkF m 4 #[.val (.ref a)] []))
  refine own_retV X1 hx hret hlk (hb hby d1_4) (by decide) (by decide) ?_
  exact ⟨rfl, e1.symm, rfl⟩
theorem d2_0 : decode prog_27_method_1_code 0 = .ok (.aload_n 0, 1) := by decide +kernel
theorem d2_1 : decode prog_27_method_1_code 1 = .ok (.invokespecial 1, 3) := by decide +kernel
theorem d2_4 : decode prog_27_method_1_code 4 = .ok (.aload_n 0, 1) := by decide +kernel
theorem d2_5 : decode prog_27_method_1_code 5 = .ok (.new 7, 3) := by decide +kernel
theorem d2_8 : decode prog_27_method_1_code 8 = .ok (.dup, 1) := by decide +kernel
theorem d2_9 : decode prog_27_method_1_code 9 = .ok (.invokespecial 9, 3) := by decide +kernel
theorem d2_12 : decode prog_27_method_1_code 12 = .ok (.putfield 10, 3) := by decide +kernel
theorem d2_15 : decode prog_27_method_1_code 15 = .ok (.aload_n 0, 1) := by decide +kernel
theorem d2_16 : decode prog_27_method_1_code 16 = .ok (.new 7, 3) := by decide +kernel
theorem d2_19 : decode prog_27_method_1_code 19 = .ok (.dup, 1) := by decide +kernel
theorem d2_20 : decode prog_27_method_1_code 20 = .ok (.invokespecial 9, 3) := by decide +kernel
theorem d2_23 : decode prog_27_method_1_code 23 = .ok (.putfield 16, 3) := by decide +kernel
theorem d2_26 : decode prog_27_method_1_code 26 = .ok (.aload_n 0, 1) := by decide +kernel
theorem d2_27 : decode prog_27_method_1_code 27 = .ok (.iload_n 1, 1) := by decide +kernel
theorem d2_28 : decode prog_27_method_1_code 28 = .ok (.putfield 19, 3) := by decide +kernel
theorem d2_31 : decode prog_27_method_1_code 31 = .ok (.return_, 1) := by decide +kernel
abbrev Q_init (Z : State) (a : Addr) (u : Int32) (n0 : Nat) (h0 : Heap) : Option Value → Heap → List Loc → Prop := fun v h L => v = none ∧ Fr n0 L ∧ Keep h0 h [a] ∧ Exa Z h a "com/example/credence/credence/OpenStreams" ∧ Fld Z h a "com/example/credence/credence/OpenStreams" "client" "Z" (.int (nar .boolean u))
set_option maxRecDepth 65536 in
set_option maxHeartbeats 40000000 in
theorem rm_init (l : Launch) (Z : State) (a0 : Array Value) (hw : ∀ d ∈ tables_1, d.before a0 Z = true) (a : Addr) (u : Int32) (n0 : Nat) (h0 : Heap) (Z0 : n0 ≤ h0.size) (E_a : Exa Z h0 a "com/example/credence/credence/OpenStreams") (g_a : n0 ≤ a) (F_own : Fld Z h0 a "com/example/credence/credence/OpenStreams" "own" "Ljava/util/Map;" .null) (F_peers : Fld Z h0 a "com/example/credence/credence/OpenStreams" "peers" "Ljava/util/Map;" .null) (F_client : Fld Z h0 a "com/example/credence/credence/OpenStreams" "client" "Z" (.int (0 : Int32))) :
    own_Met l Z (⟨"com/example/credence/credence/OpenStreams", "<init>", "(Z)V"⟩ : MethodName) prog_27_method_1_code 2 none ({ frames := 3, cells := 2, slots := 24, locals := 38 } : Room) #[(.ref a), (.int u)] h0 (Q_init Z a u n0 h0) := by
  refine own_enter (g0 := fun m => (mkF m 0 #[.val (.ref a), .val (.int u)] [])) (plainFor_of_name (by first | (simp [plainName, overriddenIn]; done) | decide +kernel)) (fun m => by first | (simp [entryFrame, mkF, argsToLocals, Value.category]; done) | rfl) ?_
  intro p e s m below meth c T hx hby hml hown hnm hZ hret hlk X e0
  replace hown : s.vm.findClass "com/example/credence/credence/OpenStreams" = some m.cls := hown
  have N := Fr.nil n0
  have hz := Z0
  have K := Keep.refl h0 [a]
  show own_Run p e below _ (T.setTop (mkF m 0 #[.val (.ref a), .val (.int u)] []))
  refine own_go (fun _ kS => XS.aloadN X.here hx rfl (hb hby d2_0) rfl rfl kS) ?_
  show own_Run p e below _ (T.setTop (mkF m 1 #[.val (.ref a), .val (.int u)] [(.ref a)]))
  refine own_initO X hx hZ e0 hown (hw _ (List.mem_of_getElem? (i := 7) rfl)) (hw _ (List.mem_of_getElem? (i := 8) rfl)) (hw _ (List.mem_of_getElem? (i := 9) rfl)) rfl (by rw [hml]; rfl) rfl (hb hby d2_1) (by decide) 0 (by show 2 * 0 + _ ≤ _; exact Nat.le_of_eq rfl) (by decide) (fun T1 X1 e1 => ?_)
  show own_Run p e below _ (T1.setTop (mkF m 4 #[.val (.ref a), .val (.int u)] []))
  refine own_go (fun _ kS => XS.aloadN X1.here hx rfl (hb hby d2_4) rfl rfl kS) ?_
  show own_Run p e below _ (T1.setTop (mkF m 5 #[.val (.ref a), .val (.int u)] [(.ref a)]))
  refine own_newO X1 hx hZ e1 hown (hw _ (List.mem_of_getElem? (i := 10) rfl)) (hw _ (List.mem_of_getElem? (i := 11) rfl)) (hw _ (List.mem_of_getElem? (i := 12) rfl)) rfl (hb hby d2_5) (by decide) (by decide) (fun b2 T2 h2 gb2 X2 e2 E2 A2 D2 => ?_)
  have ne_a_b2 : a ≠ b2 := Nat.ne_of_lt (Nat.lt_of_lt_of_le E_a.lt (Nat.le_of_eq gb2.symm))
  have g_b2 : n0 ≤ b2 := Nat.le_trans hz (Nat.le_of_eq gb2.symm)
  have z_b2 : h0.size ≤ b2 := Nat.le_trans K.1 (Nat.le_of_eq gb2.symm)
  replace E_a := E_a.ext E2
  replace F_own := F_own.ext E2
  replace F_peers := F_peers.ext E2
  replace F_client := F_client.ext E2
  replace hz := Nat.le_trans hz E2.1
  replace K := K.ext E2
  show own_Run p e below _ (T2.setTop (mkF m 8 #[.val (.ref a), .val (.int u)] [(.ref b2), (.ref a)]))
  refine own_go (fun _ kS => XS.dup X2.here hx rfl (hb hby d2_8) rfl rfl kS) ?_
  show own_Run p e below _ (T2.setTop (mkF m 9 #[.val (.ref a), .val (.int u)] [(.ref b2), (.ref b2), (.ref a)]))
  refine own_callN X2 hx hZ e2 hown (⟨"java/util/concurrent/ConcurrentHashMap", "<init>", "()V"⟩ : MethodName) rfl (hw _ (List.mem_of_getElem? (i := 13) rfl)) (hw _ (List.mem_of_getElem? (i := 14) rfl)) (hw _ (List.mem_of_getElem? (i := 12) rfl)) (hw _ (List.mem_of_getElem? (i := 15) rfl)) (by decide) b2 [] [(.ref b2), (.ref a)] (rm_chm l Z a0 hw b2 h2) (by decide) 2 (by decide) (by decide) (by decide) rfl (by rw [hml]; rfl) (lenOf own_pd0 rfl) rfl (by show 2 * 0 + _ ≤ _; exact Nat.le_of_eq rfl) (hb hby d2_9) (fun v3 h3 L3 T3 Q3 X3 e3 => ?_)
  obtain ⟨rfl, rfl, rfl⟩ := Q3
  replace N := N.app (Fr.nil n0)
  show own_Run p e below _ (T3.setTop (mkF m 12 #[.val (.ref a), .val (.int u)] [(.ref b2), (.ref a)]))
  refine own_putF X3 hx hZ e3 hown (.object "java/util/Map") (hw _ (List.mem_of_getElem? (i := 23) rfl)) F_own E_a (Or.inr ⟨(hw _ (List.mem_of_getElem? (i := 24) rfl)), rfl, hnm⟩) (hw _ (List.mem_of_getElem? (i := 2) rfl)) (v' := (.ref b2)) (by decide) rfl rfl rfl rfl (hb hby d2_12) (fun T4 h4 X4 e4 W4 => ?_)
  replace E_a := E_a.wr W4
  replace F_own := F_own.same W4
  replace F_peers := F_peers.other W4 (Or.inr (slot_ne (Or.inr (hw _ (List.mem_of_getElem? (i := 26) rfl))) (Or.inr (hw _ (List.mem_of_getElem? (i := 24) rfl))) (by decide) (t := (.object "java/util/Map")) (t' := (.object "java/util/Map")) (by decide) (by decide)))
  replace F_client := F_client.other W4 (Or.inr (slot_ne (Or.inr (hw _ (List.mem_of_getElem? (i := 28) rfl))) (Or.inr (hw _ (List.mem_of_getElem? (i := 24) rfl))) (by decide) (t := .boolean) (t' := (.object "java/util/Map")) (by decide) (by decide)))
  replace A2 := A2.wr W4
  replace hz := Nat.le_trans hz (Nat.le_of_eq W4.size.symm)
  replace N := Fr.snoc X4 N g_a
  replace K := K.wr W4 (Or.inl (List.mem_of_getElem? (i := 0) rfl))
  show own_Run p e below _ (T4.setTop (mkF m 15 #[.val (.ref a), .val (.int u)] []))
  refine own_go (fun _ kS => XS.aloadN X4.here hx rfl (hb hby d2_15) rfl rfl kS) ?_
  show own_Run p e below _ (T4.setTop (mkF m 16 #[.val (.ref a), .val (.int u)] [(.ref a)]))
  refine own_newO X4 hx hZ e4 hown (hw _ (List.mem_of_getElem? (i := 10) rfl)) (hw _ (List.mem_of_getElem? (i := 11) rfl)) (hw _ (List.mem_of_getElem? (i := 12) rfl)) rfl (hb hby d2_16) (by decide) (by decide) (fun b5 T5 h5 gb5 X5 e5 E5 A5 D5 => ?_)
  have ne_a_b5 : a ≠ b5 := Nat.ne_of_lt (Nat.lt_of_lt_of_le E_a.lt (Nat.le_of_eq gb5.symm))
  have ne_b2_b5 : b2 ≠ b5 := Nat.ne_of_lt (Nat.lt_of_lt_of_le A2.lt (Nat.le_of_eq gb5.symm))
  have g_b5 : n0 ≤ b5 := Nat.le_trans hz (Nat.le_of_eq gb5.symm)
  have z_b5 : h0.size ≤ b5 := Nat.le_trans K.1 (Nat.le_of_eq gb5.symm)
  replace E_a := E_a.ext E5
  replace F_own := F_own.ext E5
  replace F_peers := F_peers.ext E5
  replace F_client := F_client.ext E5
  replace A2 := A2.ext E5
  replace hz := Nat.le_trans hz E5.1
  replace K := K.ext E5
  show own_Run p e below _ (T5.setTop (mkF m 19 #[.val (.ref a), .val (.int u)] [(.ref b5), (.ref a)]))
  refine own_go (fun _ kS => XS.dup X5.here hx rfl (hb hby d2_19) rfl rfl kS) ?_
  show own_Run p e below _ (T5.setTop (mkF m 20 #[.val (.ref a), .val (.int u)] [(.ref b5), (.ref b5), (.ref a)]))
  refine own_callN X5 hx hZ e5 hown (⟨"java/util/concurrent/ConcurrentHashMap", "<init>", "()V"⟩ : MethodName) rfl (hw _ (List.mem_of_getElem? (i := 13) rfl)) (hw _ (List.mem_of_getElem? (i := 14) rfl)) (hw _ (List.mem_of_getElem? (i := 12) rfl)) (hw _ (List.mem_of_getElem? (i := 15) rfl)) (by decide) b5 [] [(.ref b5), (.ref a)] (rm_chm l Z a0 hw b5 h5) (by decide) 2 (by decide) (by decide) (by decide) rfl (by rw [hml]; rfl) (lenOf own_pd0 rfl) rfl (by show 2 * 0 + _ ≤ _; exact Nat.le_of_eq rfl) (hb hby d2_20) (fun v6 h6 L6 T6 Q6 X6 e6 => ?_)
  obtain ⟨rfl, rfl, rfl⟩ := Q6
  replace N := N.app (Fr.nil n0)
  show own_Run p e below _ (T6.setTop (mkF m 23 #[.val (.ref a), .val (.int u)] [(.ref b5), (.ref a)]))
  refine own_putF X6 hx hZ e6 hown (.object "java/util/Map") (hw _ (List.mem_of_getElem? (i := 25) rfl)) F_peers E_a (Or.inr ⟨(hw _ (List.mem_of_getElem? (i := 26) rfl)), rfl, hnm⟩) (hw _ (List.mem_of_getElem? (i := 2) rfl)) (v' := (.ref b5)) (by decide) rfl rfl rfl rfl (hb hby d2_23) (fun T7 h7 X7 e7 W7 => ?_)
  replace E_a := E_a.wr W7
  replace F_own := F_own.other W7 (Or.inr (slot_ne (Or.inr (hw _ (List.mem_of_getElem? (i := 24) rfl))) (Or.inr (hw _ (List.mem_of_getElem? (i := 26) rfl))) (by decide) (t := (.object "java/util/Map")) (t' := (.object "java/util/Map")) (by decide) (by decide)))
  replace F_peers := F_peers.same W7
  replace F_client := F_client.other W7 (Or.inr (slot_ne (Or.inr (hw _ (List.mem_of_getElem? (i := 28) rfl))) (Or.inr (hw _ (List.mem_of_getElem? (i := 26) rfl))) (by decide) (t := .boolean) (t' := (.object "java/util/Map")) (by decide) (by decide)))
  replace A2 := A2.wr W7
  replace A5 := A5.wr W7
  replace hz := Nat.le_trans hz (Nat.le_of_eq W7.size.symm)
  replace N := Fr.snoc X7 N g_a
  replace K := K.wr W7 (Or.inl (List.mem_of_getElem? (i := 0) rfl))
  show own_Run p e below _ (T7.setTop (mkF m 26 #[.val (.ref a), .val (.int u)] []))
  refine own_go (fun _ kS => XS.aloadN X7.here hx rfl (hb hby d2_26) rfl rfl kS) ?_
  show own_Run p e below _ (T7.setTop (mkF m 27 #[.val (.ref a), .val (.int u)] [(.ref a)]))
  refine own_go (fun _ kS => XS.iloadN X7.here hx rfl (hb hby d2_27) rfl kS) ?_
  show own_Run p e below _ (T7.setTop (mkF m 28 #[.val (.ref a), .val (.int u)] [(.int u), (.ref a)]))
  refine own_putF X7 hx hZ e7 hown .boolean (hw _ (List.mem_of_getElem? (i := 27) rfl)) F_client E_a (Or.inr ⟨(hw _ (List.mem_of_getElem? (i := 28) rfl)), rfl, hnm⟩) (hw _ (List.mem_of_getElem? (i := 2) rfl)) (v' := (.int (nar .boolean u))) (by decide) rfl (fits_nar_bool _) rfl rfl (hb hby d2_28) (fun T8 h8 X8 e8 W8 => ?_)
  replace E_a := E_a.wr W8
  replace F_own := F_own.other W8 (Or.inr (slot_ne (Or.inr (hw _ (List.mem_of_getElem? (i := 24) rfl))) (Or.inr (hw _ (List.mem_of_getElem? (i := 28) rfl))) (by decide) (t := (.object "java/util/Map")) (t' := .boolean) (by decide) (by decide)))
  replace F_peers := F_peers.other W8 (Or.inr (slot_ne (Or.inr (hw _ (List.mem_of_getElem? (i := 26) rfl))) (Or.inr (hw _ (List.mem_of_getElem? (i := 28) rfl))) (by decide) (t := (.object "java/util/Map")) (t' := .boolean) (by decide) (by decide)))
  replace F_client := F_client.same W8
  replace A2 := A2.wr W8
  replace A5 := A5.wr W8
  replace hz := Nat.le_trans hz (Nat.le_of_eq W8.size.symm)
  replace N := Fr.snoc X8 N g_a
  replace K := K.wr W8 (Or.inl (List.mem_of_getElem? (i := 0) rfl))
  show own_Run p e below _ (T8.setTop (mkF m 31 #[.val (.ref a), .val (.int u)] []))
  refine own_retV X8 hx hret hlk (hb hby d2_31) (by decide) (by decide) ?_
  rw [e8]
  exact ⟨rfl, N, K, E_a, F_client⟩
theorem d3_0 : decode prog_27_method_2_code 0 = .ok (.aload_n 0, 1) := by decide +kernel
theorem d3_1 : decode prog_27_method_2_code 1 = .ok (.getfield 19, 3) := by decide +kernel
theorem d3_4 : decode prog_27_method_2_code 4 = .ok (.iload_n 1, 1) := by decide +kernel
theorem d3_5 : decode prog_27_method_2_code 5 = .ok (.iconst 2, 1) := by decide +kernel
theorem d3_6 : decode prog_27_method_2_code 6 = .ok (.irem, 1) := by decide +kernel
theorem d3_7 : decode prog_27_method_2_code 7 = .ok (.iconst 1, 1) := by decide +kernel
theorem d3_8 : decode prog_27_method_2_code 8 = .ok (.if_icmp .ne 7, 3) := by decide +kernel
theorem d3_11 : decode prog_27_method_2_code 11 = .ok (.iconst 1, 1) := by decide +kernel
theorem d3_12 : decode prog_27_method_2_code 12 = .ok (.goto 4, 3) := by decide +kernel
theorem d3_15 : decode prog_27_method_2_code 15 = .ok (.iconst 0, 1) := by decide +kernel
theorem d3_16 : decode prog_27_method_2_code 16 = .ok (.if_icmp .ne 7, 3) := by decide +kernel
theorem d3_19 : decode prog_27_method_2_code 19 = .ok (.iconst 1, 1) := by decide +kernel
theorem d3_20 : decode prog_27_method_2_code 20 = .ok (.goto 4, 3) := by decide +kernel
theorem d3_23 : decode prog_27_method_2_code 23 = .ok (.iconst 0, 1) := by decide +kernel
theorem d3_24 : decode prog_27_method_2_code 24 = .ok (.ireturn, 1) := by decide +kernel
abbrev Q_isOwn (Z : State) (a : Addr) (u : Int32) (w : Int32) (h0 : Heap) : Option Value → Heap → List Loc → Prop := fun v h L => v = some (.int (own_is w u)) ∧ h0 = h ∧ L = []
set_option maxRecDepth 65536 in
set_option maxHeartbeats 40000000 in
theorem rm_isOwn (l : Launch) (Z : State) (a0 : Array Value) (hw : ∀ d ∈ tables_1, d.before a0 Z = true) (a : Addr) (u : Int32) (w : Int32) (h0 : Heap) (F_a : Fld Z h0 a "com/example/credence/credence/OpenStreams" "client" "Z" (.int w)) :
    own_Met l Z (⟨"com/example/credence/credence/OpenStreams", "isOwn", "(I)Z"⟩ : MethodName) prog_27_method_2_code 2 (some .boolean) ({ frames := 0, cells := 0, slots := 0, locals := 0 } : Room) #[(.ref a), (.int u)] h0 (Q_isOwn Z a u w h0) := by
  refine own_enter (g0 := fun m => (mkF m 0 #[.val (.ref a), .val (.int u)] [])) (plainFor_of_name (by first | (simp [plainName, overriddenIn]; done) | decide +kernel)) (fun m => by first | (simp [entryFrame, mkF, argsToLocals, Value.category]; done) | rfl) ?_
  intro p e s m below meth c T hx hby hml hown hnm hZ hret hlk X e0
  replace hown : s.vm.findClass "com/example/credence/credence/OpenStreams" = some m.cls := hown
  show own_Run p e below _ (T.setTop (mkF m 0 #[.val (.ref a), .val (.int u)] []))
  refine own_go (fun _ kS => XS.aloadN X.here hx rfl (hb hby d3_0) rfl rfl kS) ?_
  show own_Run p e below _ (T.setTop (mkF m 1 #[.val (.ref a), .val (.int u)] [(.ref a)]))
  refine own_getF X hx hZ e0 hown (hw _ (List.mem_of_getElem? (i := 27) rfl)) F_a rfl rfl (hb hby d3_1) (fun T1 X1 e1 => ?_)
  show own_Run p e below _ (T1.setTop (mkF m 4 #[.val (.ref a), .val (.int u)] [(.int w)]))
  refine own_go (fun _ kS => XS.iloadN X1.here hx rfl (hb hby d3_4) rfl kS) ?_
  show own_Run p e below _ (T1.setTop (mkF m 5 #[.val (.ref a), .val (.int u)] [(.int u), (.int w)]))
  refine own_go (fun _ kS => XS.iconst X1.here hx rfl (hb hby d3_5) kS) ?_
  show own_Run p e below _ (T1.setTop (mkF m 6 #[.val (.ref a), .val (.int u)] [(.int (2 : Int32)), (.int u), (.int w)]))
  refine own_go (fun _ kS => iremM X1 hx rfl (hb hby d3_6) rfl (by decide) kS) ?_
  show own_Run p e below _ (T1.setTop (mkF m 7 #[.val (.ref a), .val (.int u)] [(.int (u % (2 : Int32))), (.int w)]))
  refine own_go (fun _ kS => XS.iconst X1.here hx rfl (hb hby d3_7) kS) ?_
  show own_Run p e below _ (T1.setTop (mkF m 8 #[.val (.ref a), .val (.int u)] [(.int (1 : Int32)), (.int (u % (2 : Int32))), (.int w)]))
  by_cases hc8 : (u % (2 : Int32)) = (1 : Int32)
  · refine own_go (fun _ kS => XS.icmpNo X1.here hx rfl (hb hby d3_8) rfl (teq hc8).2 kS) ?_
    show own_Run p e below _ (T1.setTop (mkF m 11 #[.val (.ref a), .val (.int u)] [(.int w)]))
    refine own_go (fun _ kS => XS.iconst X1.here hx rfl (hb hby d3_11) kS) ?_
    show own_Run p e below _ (T1.setTop (mkF m 12 #[.val (.ref a), .val (.int u)] [(.int (1 : Int32)), (.int w)]))
    refine own_go (fun _ kS => XS.goto X1.here hx rfl (pc0 := 12) (pc' := 16) rfl (hb hby d3_12) (by decide) (by decide) kS) ?_
    show own_Run p e below _ (T1.setTop (mkF m 16 #[.val (.ref a), .val (.int u)] [(.int (1 : Int32)), (.int w)]))
    by_cases hc16 : w = (1 : Int32)
    · refine own_go (fun _ kS => XS.icmpNo X1.here hx rfl (hb hby d3_16) rfl (teq hc16).2 kS) ?_
      show own_Run p e below _ (T1.setTop (mkF m 19 #[.val (.ref a), .val (.int u)] []))
      refine own_go (fun _ kS => XS.iconst X1.here hx rfl (hb hby d3_19) kS) ?_
      show own_Run p e below _ (T1.setTop (mkF m 20 #[.val (.ref a), .val (.int u)] [(.int (1 : Int32))]))
      refine own_go (fun _ kS => XS.goto X1.here hx rfl (pc0 := 20) (pc' := 24) rfl (hb hby d3_20) (by decide) (by decide) kS) ?_
      show own_Run p e below _ (T1.setTop (mkF m 24 #[.val (.ref a), .val (.int u)] [(.int (1 : Int32))]))
      refine own_retN X1 hx (t := .boolean) hret hlk (by simp) (hb hby d3_24) (by decide) (by decide) ?_
      exact ⟨by rw [(by unfold own_is; rw [if_pos hc8, if_pos hc16] : own_is w u = (1 : Int32))]; rfl, e1.symm, rfl⟩
    · refine own_go (fun _ kS => XS.icmpYes X1.here hx rfl (pc0 := 16) (pc' := 23) rfl (hb hby d3_16) rfl (feq hc16).2 (by decide) (by decide) kS) ?_
      show own_Run p e below _ (T1.setTop (mkF m 23 #[.val (.ref a), .val (.int u)] []))
      refine own_go (fun _ kS => XS.iconst X1.here hx rfl (hb hby d3_23) kS) ?_
      show own_Run p e below _ (T1.setTop (mkF m 24 #[.val (.ref a), .val (.int u)] [(.int (0 : Int32))]))
      refine own_retN X1 hx (t := .boolean) hret hlk (by simp) (hb hby d3_24) (by decide) (by decide) ?_
      exact ⟨by rw [(by unfold own_is; rw [if_pos hc8, if_neg hc16] : own_is w u = (0 : Int32))]; rfl, e1.symm, rfl⟩
  · refine own_go (fun _ kS => XS.icmpYes X1.here hx rfl (pc0 := 8) (pc' := 15) rfl (hb hby d3_8) rfl (feq hc8).2 (by decide) (by decide) kS) ?_
    show own_Run p e below _ (T1.setTop (mkF m 15 #[.val (.ref a), .val (.int u)] [(.int w)]))
    refine own_go (fun _ kS => XS.iconst X1.here hx rfl (hb hby d3_15) kS) ?_
    show own_Run p e below _ (T1.setTop (mkF m 16 #[.val (.ref a), .val (.int u)] [(.int (0 : Int32)), (.int w)]))
    by_cases hc16 : w = (0 : Int32)
    · refine own_go (fun _ kS => XS.icmpNo X1.here hx rfl (hb hby d3_16) rfl (teq hc16).2 kS) ?_
      show own_Run p e below _ (T1.setTop (mkF m 19 #[.val (.ref a), .val (.int u)] []))
      refine own_go (fun _ kS => XS.iconst X1.here hx rfl (hb hby d3_19) kS) ?_
      show own_Run p e below _ (T1.setTop (mkF m 20 #[.val (.ref a), .val (.int u)] [(.int (1 : Int32))]))
      refine own_go (fun _ kS => XS.goto X1.here hx rfl (pc0 := 20) (pc' := 24) rfl (hb hby d3_20) (by decide) (by decide) kS) ?_
      show own_Run p e below _ (T1.setTop (mkF m 24 #[.val (.ref a), .val (.int u)] [(.int (1 : Int32))]))
      refine own_retN X1 hx (t := .boolean) hret hlk (by simp) (hb hby d3_24) (by decide) (by decide) ?_
      exact ⟨by rw [(by unfold own_is; rw [if_neg hc8, if_pos hc16] : own_is w u = (1 : Int32))]; rfl, e1.symm, rfl⟩
    · refine own_go (fun _ kS => XS.icmpYes X1.here hx rfl (pc0 := 16) (pc' := 23) rfl (hb hby d3_16) rfl (feq hc16).2 (by decide) (by decide) kS) ?_
      show own_Run p e below _ (T1.setTop (mkF m 23 #[.val (.ref a), .val (.int u)] []))
      refine own_go (fun _ kS => XS.iconst X1.here hx rfl (hb hby d3_23) kS) ?_
      show own_Run p e below _ (T1.setTop (mkF m 24 #[.val (.ref a), .val (.int u)] [(.int (0 : Int32))]))
      refine own_retN X1 hx (t := .boolean) hret hlk (by simp) (hb hby d3_24) (by decide) (by decide) ?_
      exact ⟨by rw [(by unfold own_is; rw [if_neg hc8, if_neg hc16] : own_is w u = (0 : Int32))]; rfl, e1.symm, rfl⟩
theorem own_pd1 : parseMethodDescriptor "(Z)V" = some ⟨[.boolean], none⟩ := by decide +kernel
theorem own_pd2 : parseMethodDescriptor "(I)Z" = some ⟨[.int], some .boolean⟩ := by decide +kernel
abbrev Q_law (Z : State) (p1 : Int32) (p2 : Int32) (n0 : Nat) (h0 : Heap) : Option Value → Heap → List Loc → Prop := fun v h L => v = some (.int 1) ∧ Fr n0 L
set_option maxRecDepth 65536 in
set_option maxHeartbeats 40000000 in
theorem rm_law (l : Launch) (Z : State) (a0 : Array Value) (hw : ∀ d ∈ tables_1, d.before a0 Z = true) (p1 : Int32) (p2 : Int32) (n0 : Nat) (h0 : Heap) (Z0 : n0 ≤ h0.size)  :
    own_Met l Z x code maxLocals ret room_1 #[(.int p1), (.int p2)] h0 (Q_law Z p1 p2 n0 h0) := by
  refine own_enter (g0 := fun m => (mkF m 0 #[.val (.int p1), .val (.int p2), .unset, .unset, .unset, .unset, .unset, .unset, .unset, .unset] [])) (plainFor_of_name (by first | (simp [plainName, overriddenIn]; done) | decide +kernel)) (fun m => by first | (simp [entryFrame, mkF, argsToLocals, Value.category, maxLocals]; done) | rfl) ?_
  intro p e s m below meth c T hx hby hml hown hnm hZ hret hlk X e0
  have hml : c.maxLocals = 10 := hml
  replace hown : s.vm.findClass "com/example/credence/credence/OpenStreamsIsOwnPinLaw" = some m.cls := hown
  have N := Fr.nil n0
  have hz := Z0
  show own_Run p e below _ (T.setTop (mkF m 0 #[.val (.int p1), .val (.int p2), .unset, .unset, .unset, .unset, .unset, .unset, .unset, .unset] []))
  refine own_go (fun _ kS => XS.iloadN X.here hx rfl (hb hby at_0) rfl kS) ?_
  show own_Run p e below _ (T.setTop (mkF m 1 #[.val (.int p1), .val (.int p2), .unset, .unset, .unset, .unset, .unset, .unset, .unset, .unset] [(.int p2)]))
  refine own_go (fun _ kS => XS.iconst X.here hx rfl (hb hby at_1) kS) ?_
  show own_Run p e below _ (T.setTop (mkF m 2 #[.val (.int p1), .val (.int p2), .unset, .unset, .unset, .unset, .unset, .unset, .unset, .unset] [(.int (1 : Int32)), (.int p2)]))
  refine own_go (fun _ kS => XS.iand X.here hx rfl (hb hby at_2) rfl kS) ?_
  show own_Run p e below _ (T.setTop (mkF m 3 #[.val (.int p1), .val (.int p2), .unset, .unset, .unset, .unset, .unset, .unset, .unset, .unset] [(.int (p2 &&& (1 : Int32)))]))
  have J12 : ∀ cl : Int32, cl = 0 ∨ cl = 1 → own_Run p e below (own_End s room_1 (Q_law Z p1 p2 n0 h0)) (T.setTop (mkF m 12 #[.val (.int p1), .val (.int p2), .val (.int cl), .unset, .unset, .unset, .unset, .unset, .unset, .unset] [])) := by
    intro cl hcl
    show own_Run p e below _ (T.setTop (mkF m 12 #[.val (.int p1), .val (.int p2), .val (.int cl), .unset, .unset, .unset, .unset, .unset, .unset, .unset] []))
    refine own_go (fun _ kS => XS.iloadN X.here hx rfl (hb hby at_12) rfl kS) ?_
    show own_Run p e below _ (T.setTop (mkF m 13 #[.val (.int p1), .val (.int p2), .val (.int cl), .unset, .unset, .unset, .unset, .unset, .unset, .unset] [(.int p1)]))
    refine own_ldc X hx hZ hown (hw _ (List.mem_of_getElem? (i := 0) rfl)) rfl (hb hby at_13) ?_
    show own_Run p e below _ (T.setTop (mkF m 15 #[.val (.int p1), .val (.int p2), .val (.int cl), .unset, .unset, .unset, .unset, .unset, .unset, .unset] [(.int (2147483647 : Int32)), (.int p1)]))
    refine own_go (fun _ kS => XS.iand X.here hx rfl (hb hby at_15) rfl kS) ?_
    show own_Run p e below _ (T.setTop (mkF m 16 #[.val (.int p1), .val (.int p2), .val (.int cl), .unset, .unset, .unset, .unset, .unset, .unset, .unset] [(.int (p1 &&& (2147483647 : Int32)))]))
    refine own_go (fun _ kS => XS.istoreN X.here hx rfl (hb hby at_16) rfl (l' := #[.val (.int p1), .val (.int p2), .val (.int cl), .val (.int (p1 &&& (2147483647 : Int32))), .unset, .unset, .unset, .unset, .unset, .unset]) rfl kS) ?_
    show own_Run p e below _ (T.setTop (mkF m 17 #[.val (.int p1), .val (.int p2), .val (.int cl), .val (.int (p1 &&& (2147483647 : Int32))), .unset, .unset, .unset, .unset, .unset, .unset] []))
    generalize e_u : (p1 &&& (2147483647 : Int32)) = u
    refine own_go (fun _ kS => XS.iloadN X.here hx rfl (hb hby at_17) rfl kS) ?_
    show own_Run p e below _ (T.setTop (mkF m 18 #[.val (.int p1), .val (.int p2), .val (.int cl), .val (.int u), .unset, .unset, .unset, .unset, .unset, .unset] [(.int u)]))
    refine own_go (fun _ kS => XS.iconst X.here hx rfl (hb hby at_18) kS) ?_
    show own_Run p e below _ (T.setTop (mkF m 19 #[.val (.int p1), .val (.int p2), .val (.int cl), .val (.int u), .unset, .unset, .unset, .unset, .unset, .unset] [(.int (1 : Int32)), (.int u)]))
    refine own_go (fun _ kS => XS.iand X.here hx rfl (hb hby at_19) rfl kS) ?_
    show own_Run p e below _ (T.setTop (mkF m 20 #[.val (.int p1), .val (.int p2), .val (.int cl), .val (.int u), .unset, .unset, .unset, .unset, .unset, .unset] [(.int (u &&& (1 : Int32)))]))
    have J30 : ∀ od : Int32, od = (if (u &&& (1 : Int32)) = (0 : Int32) then 0 else 1) → own_Run p e below (own_End s room_1 (Q_law Z p1 p2 n0 h0)) (T.setTop (mkF m 30 #[.val (.int p1), .val (.int p2), .val (.int cl), .val (.int u), .val (.int od), .unset, .unset, .unset, .unset, .unset] [])) := by
      intro od hod
      show own_Run p e below _ (T.setTop (mkF m 30 #[.val (.int p1), .val (.int p2), .val (.int cl), .val (.int u), .val (.int od), .unset, .unset, .unset, .unset, .unset] []))
      rcases hcl with rfl | rfl
      · show own_Run p e below _ (T.setTop (mkF m 30 #[.val (.int p1), .val (.int p2), .val (.int (0 : Int32)), .val (.int u), .val (.int od), .unset, .unset, .unset, .unset, .unset] []))
        refine own_newO X hx hZ e0 hown (hw _ (List.mem_of_getElem? (i := 1) rfl)) (hw _ (List.mem_of_getElem? (i := 2) rfl)) (hw _ (List.mem_of_getElem? (i := 3) rfl)) rfl (hb hby at_30) (by decide) (by decide) (fun b1 T1 h1 gb1 X1 e1 E1 A1 D1 => ?_)
        have g_b1 : n0 ≤ b1 := Nat.le_trans hz (Nat.le_of_eq gb1.symm)
        replace hz := Nat.le_trans hz E1.1
        have F1_own : Fld Z h1 b1 "com/example/credence/credence/OpenStreams" "own" "Ljava/util/Map;" .null := D1 (Or.inr (hw _ (List.mem_of_getElem? (i := 24) rfl))) (ty := (.object "java/util/Map")) (by decide)
        have F1_peers : Fld Z h1 b1 "com/example/credence/credence/OpenStreams" "peers" "Ljava/util/Map;" .null := D1 (Or.inr (hw _ (List.mem_of_getElem? (i := 26) rfl))) (ty := (.object "java/util/Map")) (by decide)
        have F1_client : Fld Z h1 b1 "com/example/credence/credence/OpenStreams" "client" "Z" (.int (0 : Int32)) := D1 (Or.inr (hw _ (List.mem_of_getElem? (i := 28) rfl))) (ty := .boolean) (by decide)
        show own_Run p e below _ (T1.setTop (mkF m 33 #[.val (.int p1), .val (.int p2), .val (.int (0 : Int32)), .val (.int u), .val (.int od), .unset, .unset, .unset, .unset, .unset] [(.ref b1)]))
        refine own_go (fun _ kS => XS.dup X1.here hx rfl (hb hby at_33) rfl rfl kS) ?_
        show own_Run p e below _ (T1.setTop (mkF m 34 #[.val (.int p1), .val (.int p2), .val (.int (0 : Int32)), .val (.int u), .val (.int od), .unset, .unset, .unset, .unset, .unset] [(.ref b1), (.ref b1)]))
        refine own_go (fun _ kS => XS.iloadN X1.here hx rfl (hb hby at_34) rfl kS) ?_
        show own_Run p e below _ (T1.setTop (mkF m 35 #[.val (.int p1), .val (.int p2), .val (.int (0 : Int32)), .val (.int u), .val (.int od), .unset, .unset, .unset, .unset, .unset] [(.int (0 : Int32)), (.ref b1), (.ref b1)]))
        refine own_callN X1 hx hZ e1 hown (⟨"com/example/credence/credence/OpenStreams", "<init>", "(Z)V"⟩ : MethodName) rfl (hw _ (List.mem_of_getElem? (i := 4) rfl)) (hw _ (List.mem_of_getElem? (i := 5) rfl)) (hw _ (List.mem_of_getElem? (i := 3) rfl)) (hw _ (List.mem_of_getElem? (i := 6) rfl)) (by decide) b1 [(.int (0 : Int32))] [(.ref b1)] (rm_init l Z a0 hw b1 (0 : Int32) n0 h1 hz A1 g_b1 F1_own F1_peers F1_client) (by decide) 1 (by decide) (by decide) (by decide) rfl (by rw [hml]; rfl) (lenOf own_pd1 rfl) rfl (by show 2 * 0 + _ ≤ _; exact Nat.le_of_eq rfl) (hb hby at_35) (fun v2 h2 L2 T2 Q2 X2 e2 => ?_)
        obtain ⟨rfl, Nq2, Kq2, A2, F2_client⟩ := Q2
        replace hz := Nat.le_trans hz Kq2.1
        replace N := N.app Nq2
        show own_Run p e below _ (T2.setTop (mkF m 38 #[.val (.int p1), .val (.int p2), .val (.int (0 : Int32)), .val (.int u), .val (.int od), .unset, .unset, .unset, .unset, .unset] [(.ref b1)]))
        refine own_go (fun _ kS => XS.astore X2.here hx rfl (hb hby at_38) rfl rfl (l' := #[.val (.int p1), .val (.int p2), .val (.int (0 : Int32)), .val (.int u), .val (.int od), .val (.ref b1), .unset, .unset, .unset, .unset]) rfl kS) ?_
        show own_Run p e below _ (T2.setTop (mkF m 40 #[.val (.int p1), .val (.int p2), .val (.int (0 : Int32)), .val (.int u), .val (.int od), .val (.ref b1), .unset, .unset, .unset, .unset] []))
        refine own_newO X2 hx hZ e2 hown (hw _ (List.mem_of_getElem? (i := 1) rfl)) (hw _ (List.mem_of_getElem? (i := 2) rfl)) (hw _ (List.mem_of_getElem? (i := 3) rfl)) rfl (hb hby at_40) (by decide) (by decide) (fun b3 T3 h3 gb3 X3 e3 E3 A3 D3 => ?_)
        have ne_b1_b3 : b1 ≠ b3 := Nat.ne_of_lt (Nat.lt_of_lt_of_le A2.lt (Nat.le_of_eq gb3.symm))
        have g_b3 : n0 ≤ b3 := Nat.le_trans hz (Nat.le_of_eq gb3.symm)
        replace A2 := A2.ext E3
        replace F2_client := F2_client.ext E3
        replace hz := Nat.le_trans hz E3.1
        have F3_own : Fld Z h3 b3 "com/example/credence/credence/OpenStreams" "own" "Ljava/util/Map;" .null := D3 (Or.inr (hw _ (List.mem_of_getElem? (i := 24) rfl))) (ty := (.object "java/util/Map")) (by decide)
        have F3_peers : Fld Z h3 b3 "com/example/credence/credence/OpenStreams" "peers" "Ljava/util/Map;" .null := D3 (Or.inr (hw _ (List.mem_of_getElem? (i := 26) rfl))) (ty := (.object "java/util/Map")) (by decide)
        have F3_client : Fld Z h3 b3 "com/example/credence/credence/OpenStreams" "client" "Z" (.int (0 : Int32)) := D3 (Or.inr (hw _ (List.mem_of_getElem? (i := 28) rfl))) (ty := .boolean) (by decide)
        show own_Run p e below _ (T3.setTop (mkF m 43 #[.val (.int p1), .val (.int p2), .val (.int (0 : Int32)), .val (.int u), .val (.int od), .val (.ref b1), .unset, .unset, .unset, .unset] [(.ref b3)]))
        refine own_go (fun _ kS => XS.dup X3.here hx rfl (hb hby at_43) rfl rfl kS) ?_
        show own_Run p e below _ (T3.setTop (mkF m 44 #[.val (.int p1), .val (.int p2), .val (.int (0 : Int32)), .val (.int u), .val (.int od), .val (.ref b1), .unset, .unset, .unset, .unset] [(.ref b3), (.ref b3)]))
        refine own_go (fun _ kS => XS.iloadN X3.here hx rfl (hb hby at_44) rfl kS) ?_
        show own_Run p e below _ (T3.setTop (mkF m 45 #[.val (.int p1), .val (.int p2), .val (.int (0 : Int32)), .val (.int u), .val (.int od), .val (.ref b1), .unset, .unset, .unset, .unset] [(.int (0 : Int32)), (.ref b3), (.ref b3)]))
        refine own_go (fun _ kS => XS.ifNo X3.here hx rfl (hb hby at_45) rfl ((if0 _ _).trans (teq (show (0 : Int32) = (0 : Int32) from (by decide))).2) kS) ?_
        show own_Run p e below _ (T3.setTop (mkF m 48 #[.val (.int p1), .val (.int p2), .val (.int (0 : Int32)), .val (.int u), .val (.int od), .val (.ref b1), .unset, .unset, .unset, .unset] [(.ref b3), (.ref b3)]))
        refine own_go (fun _ kS => XS.iconst X3.here hx rfl (hb hby at_48) kS) ?_
        show own_Run p e below _ (T3.setTop (mkF m 49 #[.val (.int p1), .val (.int p2), .val (.int (0 : Int32)), .val (.int u), .val (.int od), .val (.ref b1), .unset, .unset, .unset, .unset] [(.int (1 : Int32)), (.ref b3), (.ref b3)]))
        refine own_go (fun _ kS => XS.goto X3.here hx rfl (pc0 := 49) (pc' := 53) rfl (hb hby at_49) (by decide) (by decide) kS) ?_
        show own_Run p e below _ (T3.setTop (mkF m 53 #[.val (.int p1), .val (.int p2), .val (.int (0 : Int32)), .val (.int u), .val (.int od), .val (.ref b1), .unset, .unset, .unset, .unset] [(.int (1 : Int32)), (.ref b3), (.ref b3)]))
        refine own_callN X3 hx hZ e3 hown (⟨"com/example/credence/credence/OpenStreams", "<init>", "(Z)V"⟩ : MethodName) rfl (hw _ (List.mem_of_getElem? (i := 4) rfl)) (hw _ (List.mem_of_getElem? (i := 5) rfl)) (hw _ (List.mem_of_getElem? (i := 3) rfl)) (hw _ (List.mem_of_getElem? (i := 6) rfl)) (by decide) b3 [(.int (1 : Int32))] [(.ref b3)] (rm_init l Z a0 hw b3 (1 : Int32) n0 h3 hz A3 g_b3 F3_own F3_peers F3_client) (by decide) 1 (by decide) (by decide) (by decide) rfl (by rw [hml]; rfl) (lenOf own_pd1 rfl) rfl (by show 2 * 0 + _ ≤ _; exact Nat.le_of_eq rfl) (hb hby at_53) (fun v4 h4 L4 T4 Q4 X4 e4 => ?_)
        obtain ⟨rfl, Nq4, Kq4, A4, F4_client⟩ := Q4
        replace A2 := A2.keep Kq4
        replace F2_client := F2_client.keep Kq4 (ninS ne_b1_b3 nin0)
        replace hz := Nat.le_trans hz Kq4.1
        replace N := N.app Nq4
        show own_Run p e below _ (T4.setTop (mkF m 56 #[.val (.int p1), .val (.int p2), .val (.int (0 : Int32)), .val (.int u), .val (.int od), .val (.ref b1), .unset, .unset, .unset, .unset] [(.ref b3)]))
        refine own_go (fun _ kS => XS.astore X4.here hx rfl (hb hby at_56) rfl rfl (l' := #[.val (.int p1), .val (.int p2), .val (.int (0 : Int32)), .val (.int u), .val (.int od), .val (.ref b1), .val (.ref b3), .unset, .unset, .unset]) rfl kS) ?_
        show own_Run p e below _ (T4.setTop (mkF m 58 #[.val (.int p1), .val (.int p2), .val (.int (0 : Int32)), .val (.int u), .val (.int od), .val (.ref b1), .val (.ref b3), .unset, .unset, .unset] []))
        refine own_go (fun _ kS => XS.aload X4.here hx rfl (hb hby at_58) rfl rfl kS) ?_
        show own_Run p e below _ (T4.setTop (mkF m 60 #[.val (.int p1), .val (.int p2), .val (.int (0 : Int32)), .val (.int u), .val (.int od), .val (.ref b1), .val (.ref b3), .unset, .unset, .unset] [(.ref b1)]))
        refine own_go (fun _ kS => XS.iloadN X4.here hx rfl (hb hby at_60) rfl kS) ?_
        show own_Run p e below _ (T4.setTop (mkF m 61 #[.val (.int p1), .val (.int p2), .val (.int (0 : Int32)), .val (.int u), .val (.int od), .val (.ref b1), .val (.ref b3), .unset, .unset, .unset] [(.int u), (.ref b1)]))
        refine own_callV X4 hx hZ e4 hown (⟨"com/example/credence/credence/OpenStreams", "isOwn", "(I)Z"⟩ : MethodName) (hw _ (List.mem_of_getElem? (i := 29) rfl)) (hw _ (List.mem_of_getElem? (i := 30) rfl)) (hw _ (List.mem_of_getElem? (i := 32) rfl)) (hw _ (List.mem_of_getElem? (i := 31) rfl)) (hw _ (List.mem_of_getElem? (i := 3) rfl)) (hw _ (List.mem_of_getElem? (i := 33) rfl)) (by decide) b1 A2 [(.int u)] [] (rm_isOwn l Z a0 hw b1 u (nar .boolean (0 : Int32)) h4 F2_client) (by decide) 0 (by decide) (by decide) (by decide) rfl (by rw [hml]; rfl) (lenOf own_pd2 rfl) rfl (by show 2 * 0 + _ ≤ _; exact Nat.le_of_eq rfl) (hb hby at_61) (fun v5 h5 L5 T5 Q5 X5 e5 => ?_)
        obtain ⟨rfl, rfl, rfl⟩ := Q5
        replace N := N.app (Fr.nil n0)
        show own_Run p e below _ (T5.setTop (mkF m 64 #[.val (.int p1), .val (.int p2), .val (.int (0 : Int32)), .val (.int u), .val (.int od), .val (.ref b1), .val (.ref b3), .unset, .unset, .unset] [(.int (own_is (nar .boolean (0 : Int32)) u))]))
        refine own_go (fun _ kS => XS.istore X5.here hx rfl (hb hby at_64) rfl (l' := #[.val (.int p1), .val (.int p2), .val (.int (0 : Int32)), .val (.int u), .val (.int od), .val (.ref b1), .val (.ref b3), .val (.int (own_is (nar .boolean (0 : Int32)) u)), .unset, .unset]) rfl kS) ?_
        show own_Run p e below _ (T5.setTop (mkF m 66 #[.val (.int p1), .val (.int p2), .val (.int (0 : Int32)), .val (.int u), .val (.int od), .val (.ref b1), .val (.ref b3), .val (.int (own_is (nar .boolean (0 : Int32)) u)), .unset, .unset] []))
        refine own_go (fun _ kS => XS.aload X5.here hx rfl (hb hby at_66) rfl rfl kS) ?_
        show own_Run p e below _ (T5.setTop (mkF m 68 #[.val (.int p1), .val (.int p2), .val (.int (0 : Int32)), .val (.int u), .val (.int od), .val (.ref b1), .val (.ref b3), .val (.int (own_is (nar .boolean (0 : Int32)) u)), .unset, .unset] [(.ref b3)]))
        refine own_go (fun _ kS => XS.iloadN X5.here hx rfl (hb hby at_68) rfl kS) ?_
        show own_Run p e below _ (T5.setTop (mkF m 69 #[.val (.int p1), .val (.int p2), .val (.int (0 : Int32)), .val (.int u), .val (.int od), .val (.ref b1), .val (.ref b3), .val (.int (own_is (nar .boolean (0 : Int32)) u)), .unset, .unset] [(.int u), (.ref b3)]))
        refine own_callV X5 hx hZ e5 hown (⟨"com/example/credence/credence/OpenStreams", "isOwn", "(I)Z"⟩ : MethodName) (hw _ (List.mem_of_getElem? (i := 29) rfl)) (hw _ (List.mem_of_getElem? (i := 30) rfl)) (hw _ (List.mem_of_getElem? (i := 32) rfl)) (hw _ (List.mem_of_getElem? (i := 31) rfl)) (hw _ (List.mem_of_getElem? (i := 3) rfl)) (hw _ (List.mem_of_getElem? (i := 33) rfl)) (by decide) b3 A4 [(.int u)] [] (rm_isOwn l Z a0 hw b3 u (nar .boolean (1 : Int32)) h4 F4_client) (by decide) 0 (by decide) (by decide) (by decide) rfl (by rw [hml]; rfl) (lenOf own_pd2 rfl) rfl (by show 2 * 0 + _ ≤ _; exact Nat.le_of_eq rfl) (hb hby at_69) (fun v6 h6 L6 T6 Q6 X6 e6 => ?_)
        obtain ⟨rfl, rfl, rfl⟩ := Q6
        replace N := N.app (Fr.nil n0)
        show own_Run p e below _ (T6.setTop (mkF m 72 #[.val (.int p1), .val (.int p2), .val (.int (0 : Int32)), .val (.int u), .val (.int od), .val (.ref b1), .val (.ref b3), .val (.int (own_is (nar .boolean (0 : Int32)) u)), .unset, .unset] [(.int (own_is (nar .boolean (1 : Int32)) u))]))
        refine own_go (fun _ kS => XS.istore X6.here hx rfl (hb hby at_72) rfl (l' := #[.val (.int p1), .val (.int p2), .val (.int (0 : Int32)), .val (.int u), .val (.int od), .val (.ref b1), .val (.ref b3), .val (.int (own_is (nar .boolean (0 : Int32)) u)), .val (.int (own_is (nar .boolean (1 : Int32)) u)), .unset]) rfl kS) ?_
        show own_Run p e below _ (T6.setTop (mkF m 74 #[.val (.int p1), .val (.int p2), .val (.int (0 : Int32)), .val (.int u), .val (.int od), .val (.ref b1), .val (.ref b3), .val (.int (own_is (nar .boolean (0 : Int32)) u)), .val (.int (own_is (nar .boolean (1 : Int32)) u)), .unset] []))
        refine own_go (fun _ kS => XS.iloadN X6.here hx rfl (hb hby at_74) rfl kS) ?_
        show own_Run p e below _ (T6.setTop (mkF m 75 #[.val (.int p1), .val (.int p2), .val (.int (0 : Int32)), .val (.int u), .val (.int od), .val (.ref b1), .val (.ref b3), .val (.int (own_is (nar .boolean (0 : Int32)) u)), .val (.int (own_is (nar .boolean (1 : Int32)) u)), .unset] [(.int (0 : Int32))]))
        refine own_go (fun _ kS => XS.ifYes X6.here hx rfl (pc0 := 75) (pc' := 85) rfl (hb hby at_75) rfl ((if0 _ _).trans (teq (show (0 : Int32) = (0 : Int32) from (by decide))).1) (by decide) (by decide) kS) ?_
        show own_Run p e below _ (T6.setTop (mkF m 85 #[.val (.int p1), .val (.int p2), .val (.int (0 : Int32)), .val (.int u), .val (.int od), .val (.ref b1), .val (.ref b3), .val (.int (own_is (nar .boolean (0 : Int32)) u)), .val (.int (own_is (nar .boolean (1 : Int32)) u)), .unset] []))
        refine own_go (fun _ kS => XS.iload X6.here hx rfl (hb hby at_85) rfl kS) ?_
        show own_Run p e below _ (T6.setTop (mkF m 87 #[.val (.int p1), .val (.int p2), .val (.int (0 : Int32)), .val (.int u), .val (.int od), .val (.ref b1), .val (.ref b3), .val (.int (own_is (nar .boolean (0 : Int32)) u)), .val (.int (own_is (nar .boolean (1 : Int32)) u)), .unset] [(.int od)]))
        by_cases hc87 : od = (0 : Int32)
        · refine own_go (fun _ kS => XS.ifNo X6.here hx rfl (hb hby at_87) rfl ((if0 _ _).trans (teq hc87).2) kS) ?_
          show own_Run p e below _ (T6.setTop (mkF m 90 #[.val (.int p1), .val (.int p2), .val (.int (0 : Int32)), .val (.int u), .val (.int od), .val (.ref b1), .val (.ref b3), .val (.int (own_is (nar .boolean (0 : Int32)) u)), .val (.int (own_is (nar .boolean (1 : Int32)) u)), .unset] []))
          refine own_go (fun _ kS => XS.iconst X6.here hx rfl (hb hby at_90) kS) ?_
          show own_Run p e below _ (T6.setTop (mkF m 91 #[.val (.int p1), .val (.int p2), .val (.int (0 : Int32)), .val (.int u), .val (.int od), .val (.ref b1), .val (.ref b3), .val (.int (own_is (nar .boolean (0 : Int32)) u)), .val (.int (own_is (nar .boolean (1 : Int32)) u)), .unset] [(.int (1 : Int32))]))
          refine own_go (fun _ kS => XS.goto X6.here hx rfl (pc0 := 91) (pc' := 95) rfl (hb hby at_91) (by decide) (by decide) kS) ?_
          show own_Run p e below _ (T6.setTop (mkF m 95 #[.val (.int p1), .val (.int p2), .val (.int (0 : Int32)), .val (.int u), .val (.int od), .val (.ref b1), .val (.ref b3), .val (.int (own_is (nar .boolean (0 : Int32)) u)), .val (.int (own_is (nar .boolean (1 : Int32)) u)), .unset] [(.int (1 : Int32))]))
          refine own_go (fun _ kS => XS.istore X6.here hx rfl (hb hby at_95) rfl (l' := #[.val (.int p1), .val (.int p2), .val (.int (0 : Int32)), .val (.int u), .val (.int od), .val (.ref b1), .val (.ref b3), .val (.int (own_is (nar .boolean (0 : Int32)) u)), .val (.int (own_is (nar .boolean (1 : Int32)) u)), .val (.int (1 : Int32))]) rfl kS) ?_
          show own_Run p e below _ (T6.setTop (mkF m 97 #[.val (.int p1), .val (.int p2), .val (.int (0 : Int32)), .val (.int u), .val (.int od), .val (.ref b1), .val (.ref b3), .val (.int (own_is (nar .boolean (0 : Int32)) u)), .val (.int (own_is (nar .boolean (1 : Int32)) u)), .val (.int (1 : Int32))] []))
          refine own_go (fun _ kS => XS.iload X6.here hx rfl (hb hby at_97) rfl kS) ?_
          show own_Run p e below _ (T6.setTop (mkF m 99 #[.val (.int p1), .val (.int p2), .val (.int (0 : Int32)), .val (.int u), .val (.int od), .val (.ref b1), .val (.ref b3), .val (.int (own_is (nar .boolean (0 : Int32)) u)), .val (.int (own_is (nar .boolean (1 : Int32)) u)), .val (.int (1 : Int32))] [(.int (own_is (nar .boolean (0 : Int32)) u))]))
          refine own_go (fun _ kS => XS.iload X6.here hx rfl (hb hby at_99) rfl kS) ?_
          show own_Run p e below _ (T6.setTop (mkF m 101 #[.val (.int p1), .val (.int p2), .val (.int (0 : Int32)), .val (.int u), .val (.int od), .val (.ref b1), .val (.ref b3), .val (.int (own_is (nar .boolean (0 : Int32)) u)), .val (.int (own_is (nar .boolean (1 : Int32)) u)), .val (.int (1 : Int32))] [(.int (1 : Int32)), (.int (own_is (nar .boolean (0 : Int32)) u))]))
          refine own_go (fun _ kS => XS.icmpNo X6.here hx rfl (hb hby at_101) rfl (teq (show (own_is (nar .boolean (0 : Int32)) u) = (1 : Int32) from ((own_l0 u od (e_u ▸ (c_and p1 2147483647 (by decide)).1) hod).1 hc87))).2 kS) ?_
          show own_Run p e below _ (T6.setTop (mkF m 104 #[.val (.int p1), .val (.int p2), .val (.int (0 : Int32)), .val (.int u), .val (.int od), .val (.ref b1), .val (.ref b3), .val (.int (own_is (nar .boolean (0 : Int32)) u)), .val (.int (own_is (nar .boolean (1 : Int32)) u)), .val (.int (1 : Int32))] []))
          refine own_go (fun _ kS => XS.iload X6.here hx rfl (hb hby at_104) rfl kS) ?_
          show own_Run p e below _ (T6.setTop (mkF m 106 #[.val (.int p1), .val (.int p2), .val (.int (0 : Int32)), .val (.int u), .val (.int od), .val (.ref b1), .val (.ref b3), .val (.int (own_is (nar .boolean (0 : Int32)) u)), .val (.int (own_is (nar .boolean (1 : Int32)) u)), .val (.int (1 : Int32))] [(.int (own_is (nar .boolean (0 : Int32)) u))]))
          refine own_go (fun _ kS => XS.iload X6.here hx rfl (hb hby at_106) rfl kS) ?_
          show own_Run p e below _ (T6.setTop (mkF m 108 #[.val (.int p1), .val (.int p2), .val (.int (0 : Int32)), .val (.int u), .val (.int od), .val (.ref b1), .val (.ref b3), .val (.int (own_is (nar .boolean (0 : Int32)) u)), .val (.int (own_is (nar .boolean (1 : Int32)) u)), .val (.int (1 : Int32))] [(.int (own_is (nar .boolean (1 : Int32)) u)), (.int (own_is (nar .boolean (0 : Int32)) u))]))
          refine own_go (fun _ kS => XS.icmpNo X6.here hx rfl (hb hby at_108) rfl (feq (show ¬ ((own_is (nar .boolean (0 : Int32)) u) = (own_is (nar .boolean (1 : Int32)) u)) from ((own_l0 u od (e_u ▸ (c_and p1 2147483647 (by decide)).1) hod).2.2.2))).1 kS) ?_
          show own_Run p e below _ (T6.setTop (mkF m 111 #[.val (.int p1), .val (.int p2), .val (.int (0 : Int32)), .val (.int u), .val (.int od), .val (.ref b1), .val (.ref b3), .val (.int (own_is (nar .boolean (0 : Int32)) u)), .val (.int (own_is (nar .boolean (1 : Int32)) u)), .val (.int (1 : Int32))] []))
          refine own_go (fun _ kS => XS.iconst X6.here hx rfl (hb hby at_111) kS) ?_
          show own_Run p e below _ (T6.setTop (mkF m 112 #[.val (.int p1), .val (.int p2), .val (.int (0 : Int32)), .val (.int u), .val (.int od), .val (.ref b1), .val (.ref b3), .val (.int (own_is (nar .boolean (0 : Int32)) u)), .val (.int (own_is (nar .boolean (1 : Int32)) u)), .val (.int (1 : Int32))] [(.int (1 : Int32))]))
          refine own_go (fun _ kS => XS.goto X6.here hx rfl (pc0 := 112) (pc' := 116) rfl (hb hby at_112) (by decide) (by decide) kS) ?_
          show own_Run p e below _ (T6.setTop (mkF m 116 #[.val (.int p1), .val (.int p2), .val (.int (0 : Int32)), .val (.int u), .val (.int od), .val (.ref b1), .val (.ref b3), .val (.int (own_is (nar .boolean (0 : Int32)) u)), .val (.int (own_is (nar .boolean (1 : Int32)) u)), .val (.int (1 : Int32))] [(.int (1 : Int32))]))
          refine own_retN X6 hx (t := .boolean) hret hlk (by simp) (hb hby at_116) (by decide) (by decide) ?_
          exact ⟨rfl, N⟩
        · refine own_go (fun _ kS => XS.ifYes X6.here hx rfl (pc0 := 87) (pc' := 94) rfl (hb hby at_87) rfl ((if0 _ _).trans (feq hc87).2) (by decide) (by decide) kS) ?_
          show own_Run p e below _ (T6.setTop (mkF m 94 #[.val (.int p1), .val (.int p2), .val (.int (0 : Int32)), .val (.int u), .val (.int od), .val (.ref b1), .val (.ref b3), .val (.int (own_is (nar .boolean (0 : Int32)) u)), .val (.int (own_is (nar .boolean (1 : Int32)) u)), .unset] []))
          refine own_go (fun _ kS => XS.iconst X6.here hx rfl (hb hby at_94) kS) ?_
          show own_Run p e below _ (T6.setTop (mkF m 95 #[.val (.int p1), .val (.int p2), .val (.int (0 : Int32)), .val (.int u), .val (.int od), .val (.ref b1), .val (.ref b3), .val (.int (own_is (nar .boolean (0 : Int32)) u)), .val (.int (own_is (nar .boolean (1 : Int32)) u)), .unset] [(.int (0 : Int32))]))
          refine own_go (fun _ kS => XS.istore X6.here hx rfl (hb hby at_95) rfl (l' := #[.val (.int p1), .val (.int p2), .val (.int (0 : Int32)), .val (.int u), .val (.int od), .val (.ref b1), .val (.ref b3), .val (.int (own_is (nar .boolean (0 : Int32)) u)), .val (.int (own_is (nar .boolean (1 : Int32)) u)), .val (.int (0 : Int32))]) rfl kS) ?_
          show own_Run p e below _ (T6.setTop (mkF m 97 #[.val (.int p1), .val (.int p2), .val (.int (0 : Int32)), .val (.int u), .val (.int od), .val (.ref b1), .val (.ref b3), .val (.int (own_is (nar .boolean (0 : Int32)) u)), .val (.int (own_is (nar .boolean (1 : Int32)) u)), .val (.int (0 : Int32))] []))
          refine own_go (fun _ kS => XS.iload X6.here hx rfl (hb hby at_97) rfl kS) ?_
          show own_Run p e below _ (T6.setTop (mkF m 99 #[.val (.int p1), .val (.int p2), .val (.int (0 : Int32)), .val (.int u), .val (.int od), .val (.ref b1), .val (.ref b3), .val (.int (own_is (nar .boolean (0 : Int32)) u)), .val (.int (own_is (nar .boolean (1 : Int32)) u)), .val (.int (0 : Int32))] [(.int (own_is (nar .boolean (0 : Int32)) u))]))
          refine own_go (fun _ kS => XS.iload X6.here hx rfl (hb hby at_99) rfl kS) ?_
          show own_Run p e below _ (T6.setTop (mkF m 101 #[.val (.int p1), .val (.int p2), .val (.int (0 : Int32)), .val (.int u), .val (.int od), .val (.ref b1), .val (.ref b3), .val (.int (own_is (nar .boolean (0 : Int32)) u)), .val (.int (own_is (nar .boolean (1 : Int32)) u)), .val (.int (0 : Int32))] [(.int (0 : Int32)), (.int (own_is (nar .boolean (0 : Int32)) u))]))
          refine own_go (fun _ kS => XS.icmpNo X6.here hx rfl (hb hby at_101) rfl (teq (show (own_is (nar .boolean (0 : Int32)) u) = (0 : Int32) from ((own_l0 u od (e_u ▸ (c_and p1 2147483647 (by decide)).1) hod).2.1 hc87))).2 kS) ?_
          show own_Run p e below _ (T6.setTop (mkF m 104 #[.val (.int p1), .val (.int p2), .val (.int (0 : Int32)), .val (.int u), .val (.int od), .val (.ref b1), .val (.ref b3), .val (.int (own_is (nar .boolean (0 : Int32)) u)), .val (.int (own_is (nar .boolean (1 : Int32)) u)), .val (.int (0 : Int32))] []))
          refine own_go (fun _ kS => XS.iload X6.here hx rfl (hb hby at_104) rfl kS) ?_
          show own_Run p e below _ (T6.setTop (mkF m 106 #[.val (.int p1), .val (.int p2), .val (.int (0 : Int32)), .val (.int u), .val (.int od), .val (.ref b1), .val (.ref b3), .val (.int (own_is (nar .boolean (0 : Int32)) u)), .val (.int (own_is (nar .boolean (1 : Int32)) u)), .val (.int (0 : Int32))] [(.int (own_is (nar .boolean (0 : Int32)) u))]))
          refine own_go (fun _ kS => XS.iload X6.here hx rfl (hb hby at_106) rfl kS) ?_
          show own_Run p e below _ (T6.setTop (mkF m 108 #[.val (.int p1), .val (.int p2), .val (.int (0 : Int32)), .val (.int u), .val (.int od), .val (.ref b1), .val (.ref b3), .val (.int (own_is (nar .boolean (0 : Int32)) u)), .val (.int (own_is (nar .boolean (1 : Int32)) u)), .val (.int (0 : Int32))] [(.int (own_is (nar .boolean (1 : Int32)) u)), (.int (own_is (nar .boolean (0 : Int32)) u))]))
          refine own_go (fun _ kS => XS.icmpNo X6.here hx rfl (hb hby at_108) rfl (feq (show ¬ ((own_is (nar .boolean (0 : Int32)) u) = (own_is (nar .boolean (1 : Int32)) u)) from ((own_l0 u od (e_u ▸ (c_and p1 2147483647 (by decide)).1) hod).2.2.2))).1 kS) ?_
          show own_Run p e below _ (T6.setTop (mkF m 111 #[.val (.int p1), .val (.int p2), .val (.int (0 : Int32)), .val (.int u), .val (.int od), .val (.ref b1), .val (.ref b3), .val (.int (own_is (nar .boolean (0 : Int32)) u)), .val (.int (own_is (nar .boolean (1 : Int32)) u)), .val (.int (0 : Int32))] []))
          refine own_go (fun _ kS => XS.iconst X6.here hx rfl (hb hby at_111) kS) ?_
          show own_Run p e below _ (T6.setTop (mkF m 112 #[.val (.int p1), .val (.int p2), .val (.int (0 : Int32)), .val (.int u), .val (.int od), .val (.ref b1), .val (.ref b3), .val (.int (own_is (nar .boolean (0 : Int32)) u)), .val (.int (own_is (nar .boolean (1 : Int32)) u)), .val (.int (0 : Int32))] [(.int (1 : Int32))]))
          refine own_go (fun _ kS => XS.goto X6.here hx rfl (pc0 := 112) (pc' := 116) rfl (hb hby at_112) (by decide) (by decide) kS) ?_
          show own_Run p e below _ (T6.setTop (mkF m 116 #[.val (.int p1), .val (.int p2), .val (.int (0 : Int32)), .val (.int u), .val (.int od), .val (.ref b1), .val (.ref b3), .val (.int (own_is (nar .boolean (0 : Int32)) u)), .val (.int (own_is (nar .boolean (1 : Int32)) u)), .val (.int (0 : Int32))] [(.int (1 : Int32))]))
          refine own_retN X6 hx (t := .boolean) hret hlk (by simp) (hb hby at_116) (by decide) (by decide) ?_
          exact ⟨rfl, N⟩
      · show own_Run p e below _ (T.setTop (mkF m 30 #[.val (.int p1), .val (.int p2), .val (.int (1 : Int32)), .val (.int u), .val (.int od), .unset, .unset, .unset, .unset, .unset] []))
        refine own_newO X hx hZ e0 hown (hw _ (List.mem_of_getElem? (i := 1) rfl)) (hw _ (List.mem_of_getElem? (i := 2) rfl)) (hw _ (List.mem_of_getElem? (i := 3) rfl)) rfl (hb hby at_30) (by decide) (by decide) (fun b7 T7 h7 gb7 X7 e7 E7 A7 D7 => ?_)
        have g_b7 : n0 ≤ b7 := Nat.le_trans hz (Nat.le_of_eq gb7.symm)
        replace hz := Nat.le_trans hz E7.1
        have F7_own : Fld Z h7 b7 "com/example/credence/credence/OpenStreams" "own" "Ljava/util/Map;" .null := D7 (Or.inr (hw _ (List.mem_of_getElem? (i := 24) rfl))) (ty := (.object "java/util/Map")) (by decide)
        have F7_peers : Fld Z h7 b7 "com/example/credence/credence/OpenStreams" "peers" "Ljava/util/Map;" .null := D7 (Or.inr (hw _ (List.mem_of_getElem? (i := 26) rfl))) (ty := (.object "java/util/Map")) (by decide)
        have F7_client : Fld Z h7 b7 "com/example/credence/credence/OpenStreams" "client" "Z" (.int (0 : Int32)) := D7 (Or.inr (hw _ (List.mem_of_getElem? (i := 28) rfl))) (ty := .boolean) (by decide)
        show own_Run p e below _ (T7.setTop (mkF m 33 #[.val (.int p1), .val (.int p2), .val (.int (1 : Int32)), .val (.int u), .val (.int od), .unset, .unset, .unset, .unset, .unset] [(.ref b7)]))
        refine own_go (fun _ kS => XS.dup X7.here hx rfl (hb hby at_33) rfl rfl kS) ?_
        show own_Run p e below _ (T7.setTop (mkF m 34 #[.val (.int p1), .val (.int p2), .val (.int (1 : Int32)), .val (.int u), .val (.int od), .unset, .unset, .unset, .unset, .unset] [(.ref b7), (.ref b7)]))
        refine own_go (fun _ kS => XS.iloadN X7.here hx rfl (hb hby at_34) rfl kS) ?_
        show own_Run p e below _ (T7.setTop (mkF m 35 #[.val (.int p1), .val (.int p2), .val (.int (1 : Int32)), .val (.int u), .val (.int od), .unset, .unset, .unset, .unset, .unset] [(.int (1 : Int32)), (.ref b7), (.ref b7)]))
        refine own_callN X7 hx hZ e7 hown (⟨"com/example/credence/credence/OpenStreams", "<init>", "(Z)V"⟩ : MethodName) rfl (hw _ (List.mem_of_getElem? (i := 4) rfl)) (hw _ (List.mem_of_getElem? (i := 5) rfl)) (hw _ (List.mem_of_getElem? (i := 3) rfl)) (hw _ (List.mem_of_getElem? (i := 6) rfl)) (by decide) b7 [(.int (1 : Int32))] [(.ref b7)] (rm_init l Z a0 hw b7 (1 : Int32) n0 h7 hz A7 g_b7 F7_own F7_peers F7_client) (by decide) 1 (by decide) (by decide) (by decide) rfl (by rw [hml]; rfl) (lenOf own_pd1 rfl) rfl (by show 2 * 0 + _ ≤ _; exact Nat.le_of_eq rfl) (hb hby at_35) (fun v8 h8 L8 T8 Q8 X8 e8 => ?_)
        obtain ⟨rfl, Nq8, Kq8, A8, F8_client⟩ := Q8
        replace hz := Nat.le_trans hz Kq8.1
        replace N := N.app Nq8
        show own_Run p e below _ (T8.setTop (mkF m 38 #[.val (.int p1), .val (.int p2), .val (.int (1 : Int32)), .val (.int u), .val (.int od), .unset, .unset, .unset, .unset, .unset] [(.ref b7)]))
        refine own_go (fun _ kS => XS.astore X8.here hx rfl (hb hby at_38) rfl rfl (l' := #[.val (.int p1), .val (.int p2), .val (.int (1 : Int32)), .val (.int u), .val (.int od), .val (.ref b7), .unset, .unset, .unset, .unset]) rfl kS) ?_
        show own_Run p e below _ (T8.setTop (mkF m 40 #[.val (.int p1), .val (.int p2), .val (.int (1 : Int32)), .val (.int u), .val (.int od), .val (.ref b7), .unset, .unset, .unset, .unset] []))
        refine own_newO X8 hx hZ e8 hown (hw _ (List.mem_of_getElem? (i := 1) rfl)) (hw _ (List.mem_of_getElem? (i := 2) rfl)) (hw _ (List.mem_of_getElem? (i := 3) rfl)) rfl (hb hby at_40) (by decide) (by decide) (fun b9 T9 h9 gb9 X9 e9 E9 A9 D9 => ?_)
        have ne_b7_b9 : b7 ≠ b9 := Nat.ne_of_lt (Nat.lt_of_lt_of_le A8.lt (Nat.le_of_eq gb9.symm))
        have g_b9 : n0 ≤ b9 := Nat.le_trans hz (Nat.le_of_eq gb9.symm)
        replace A8 := A8.ext E9
        replace F8_client := F8_client.ext E9
        replace hz := Nat.le_trans hz E9.1
        have F9_own : Fld Z h9 b9 "com/example/credence/credence/OpenStreams" "own" "Ljava/util/Map;" .null := D9 (Or.inr (hw _ (List.mem_of_getElem? (i := 24) rfl))) (ty := (.object "java/util/Map")) (by decide)
        have F9_peers : Fld Z h9 b9 "com/example/credence/credence/OpenStreams" "peers" "Ljava/util/Map;" .null := D9 (Or.inr (hw _ (List.mem_of_getElem? (i := 26) rfl))) (ty := (.object "java/util/Map")) (by decide)
        have F9_client : Fld Z h9 b9 "com/example/credence/credence/OpenStreams" "client" "Z" (.int (0 : Int32)) := D9 (Or.inr (hw _ (List.mem_of_getElem? (i := 28) rfl))) (ty := .boolean) (by decide)
        show own_Run p e below _ (T9.setTop (mkF m 43 #[.val (.int p1), .val (.int p2), .val (.int (1 : Int32)), .val (.int u), .val (.int od), .val (.ref b7), .unset, .unset, .unset, .unset] [(.ref b9)]))
        refine own_go (fun _ kS => XS.dup X9.here hx rfl (hb hby at_43) rfl rfl kS) ?_
        show own_Run p e below _ (T9.setTop (mkF m 44 #[.val (.int p1), .val (.int p2), .val (.int (1 : Int32)), .val (.int u), .val (.int od), .val (.ref b7), .unset, .unset, .unset, .unset] [(.ref b9), (.ref b9)]))
        refine own_go (fun _ kS => XS.iloadN X9.here hx rfl (hb hby at_44) rfl kS) ?_
        show own_Run p e below _ (T9.setTop (mkF m 45 #[.val (.int p1), .val (.int p2), .val (.int (1 : Int32)), .val (.int u), .val (.int od), .val (.ref b7), .unset, .unset, .unset, .unset] [(.int (1 : Int32)), (.ref b9), (.ref b9)]))
        refine own_go (fun _ kS => XS.ifYes X9.here hx rfl (pc0 := 45) (pc' := 52) rfl (hb hby at_45) rfl ((if0 _ _).trans (feq (show ¬ ((1 : Int32) = (0 : Int32)) from (by decide))).2) (by decide) (by decide) kS) ?_
        show own_Run p e below _ (T9.setTop (mkF m 52 #[.val (.int p1), .val (.int p2), .val (.int (1 : Int32)), .val (.int u), .val (.int od), .val (.ref b7), .unset, .unset, .unset, .unset] [(.ref b9), (.ref b9)]))
        refine own_go (fun _ kS => XS.iconst X9.here hx rfl (hb hby at_52) kS) ?_
        show own_Run p e below _ (T9.setTop (mkF m 53 #[.val (.int p1), .val (.int p2), .val (.int (1 : Int32)), .val (.int u), .val (.int od), .val (.ref b7), .unset, .unset, .unset, .unset] [(.int (0 : Int32)), (.ref b9), (.ref b9)]))
        refine own_callN X9 hx hZ e9 hown (⟨"com/example/credence/credence/OpenStreams", "<init>", "(Z)V"⟩ : MethodName) rfl (hw _ (List.mem_of_getElem? (i := 4) rfl)) (hw _ (List.mem_of_getElem? (i := 5) rfl)) (hw _ (List.mem_of_getElem? (i := 3) rfl)) (hw _ (List.mem_of_getElem? (i := 6) rfl)) (by decide) b9 [(.int (0 : Int32))] [(.ref b9)] (rm_init l Z a0 hw b9 (0 : Int32) n0 h9 hz A9 g_b9 F9_own F9_peers F9_client) (by decide) 1 (by decide) (by decide) (by decide) rfl (by rw [hml]; rfl) (lenOf own_pd1 rfl) rfl (by show 2 * 0 + _ ≤ _; exact Nat.le_of_eq rfl) (hb hby at_53) (fun v10 h10 L10 T10 Q10 X10 e10 => ?_)
        obtain ⟨rfl, Nq10, Kq10, A10, F10_client⟩ := Q10
        replace A8 := A8.keep Kq10
        replace F8_client := F8_client.keep Kq10 (ninS ne_b7_b9 nin0)
        replace hz := Nat.le_trans hz Kq10.1
        replace N := N.app Nq10
        show own_Run p e below _ (T10.setTop (mkF m 56 #[.val (.int p1), .val (.int p2), .val (.int (1 : Int32)), .val (.int u), .val (.int od), .val (.ref b7), .unset, .unset, .unset, .unset] [(.ref b9)]))
        refine own_go (fun _ kS => XS.astore X10.here hx rfl (hb hby at_56) rfl rfl (l' := #[.val (.int p1), .val (.int p2), .val (.int (1 : Int32)), .val (.int u), .val (.int od), .val (.ref b7), .val (.ref b9), .unset, .unset, .unset]) rfl kS) ?_
        show own_Run p e below _ (T10.setTop (mkF m 58 #[.val (.int p1), .val (.int p2), .val (.int (1 : Int32)), .val (.int u), .val (.int od), .val (.ref b7), .val (.ref b9), .unset, .unset, .unset] []))
        refine own_go (fun _ kS => XS.aload X10.here hx rfl (hb hby at_58) rfl rfl kS) ?_
        show own_Run p e below _ (T10.setTop (mkF m 60 #[.val (.int p1), .val (.int p2), .val (.int (1 : Int32)), .val (.int u), .val (.int od), .val (.ref b7), .val (.ref b9), .unset, .unset, .unset] [(.ref b7)]))
        refine own_go (fun _ kS => XS.iloadN X10.here hx rfl (hb hby at_60) rfl kS) ?_
        show own_Run p e below _ (T10.setTop (mkF m 61 #[.val (.int p1), .val (.int p2), .val (.int (1 : Int32)), .val (.int u), .val (.int od), .val (.ref b7), .val (.ref b9), .unset, .unset, .unset] [(.int u), (.ref b7)]))
        refine own_callV X10 hx hZ e10 hown (⟨"com/example/credence/credence/OpenStreams", "isOwn", "(I)Z"⟩ : MethodName) (hw _ (List.mem_of_getElem? (i := 29) rfl)) (hw _ (List.mem_of_getElem? (i := 30) rfl)) (hw _ (List.mem_of_getElem? (i := 32) rfl)) (hw _ (List.mem_of_getElem? (i := 31) rfl)) (hw _ (List.mem_of_getElem? (i := 3) rfl)) (hw _ (List.mem_of_getElem? (i := 33) rfl)) (by decide) b7 A8 [(.int u)] [] (rm_isOwn l Z a0 hw b7 u (nar .boolean (1 : Int32)) h10 F8_client) (by decide) 0 (by decide) (by decide) (by decide) rfl (by rw [hml]; rfl) (lenOf own_pd2 rfl) rfl (by show 2 * 0 + _ ≤ _; exact Nat.le_of_eq rfl) (hb hby at_61) (fun v11 h11 L11 T11 Q11 X11 e11 => ?_)
        obtain ⟨rfl, rfl, rfl⟩ := Q11
        replace N := N.app (Fr.nil n0)
        show own_Run p e below _ (T11.setTop (mkF m 64 #[.val (.int p1), .val (.int p2), .val (.int (1 : Int32)), .val (.int u), .val (.int od), .val (.ref b7), .val (.ref b9), .unset, .unset, .unset] [(.int (own_is (nar .boolean (1 : Int32)) u))]))
        refine own_go (fun _ kS => XS.istore X11.here hx rfl (hb hby at_64) rfl (l' := #[.val (.int p1), .val (.int p2), .val (.int (1 : Int32)), .val (.int u), .val (.int od), .val (.ref b7), .val (.ref b9), .val (.int (own_is (nar .boolean (1 : Int32)) u)), .unset, .unset]) rfl kS) ?_
        show own_Run p e below _ (T11.setTop (mkF m 66 #[.val (.int p1), .val (.int p2), .val (.int (1 : Int32)), .val (.int u), .val (.int od), .val (.ref b7), .val (.ref b9), .val (.int (own_is (nar .boolean (1 : Int32)) u)), .unset, .unset] []))
        refine own_go (fun _ kS => XS.aload X11.here hx rfl (hb hby at_66) rfl rfl kS) ?_
        show own_Run p e below _ (T11.setTop (mkF m 68 #[.val (.int p1), .val (.int p2), .val (.int (1 : Int32)), .val (.int u), .val (.int od), .val (.ref b7), .val (.ref b9), .val (.int (own_is (nar .boolean (1 : Int32)) u)), .unset, .unset] [(.ref b9)]))
        refine own_go (fun _ kS => XS.iloadN X11.here hx rfl (hb hby at_68) rfl kS) ?_
        show own_Run p e below _ (T11.setTop (mkF m 69 #[.val (.int p1), .val (.int p2), .val (.int (1 : Int32)), .val (.int u), .val (.int od), .val (.ref b7), .val (.ref b9), .val (.int (own_is (nar .boolean (1 : Int32)) u)), .unset, .unset] [(.int u), (.ref b9)]))
        refine own_callV X11 hx hZ e11 hown (⟨"com/example/credence/credence/OpenStreams", "isOwn", "(I)Z"⟩ : MethodName) (hw _ (List.mem_of_getElem? (i := 29) rfl)) (hw _ (List.mem_of_getElem? (i := 30) rfl)) (hw _ (List.mem_of_getElem? (i := 32) rfl)) (hw _ (List.mem_of_getElem? (i := 31) rfl)) (hw _ (List.mem_of_getElem? (i := 3) rfl)) (hw _ (List.mem_of_getElem? (i := 33) rfl)) (by decide) b9 A10 [(.int u)] [] (rm_isOwn l Z a0 hw b9 u (nar .boolean (0 : Int32)) h10 F10_client) (by decide) 0 (by decide) (by decide) (by decide) rfl (by rw [hml]; rfl) (lenOf own_pd2 rfl) rfl (by show 2 * 0 + _ ≤ _; exact Nat.le_of_eq rfl) (hb hby at_69) (fun v12 h12 L12 T12 Q12 X12 e12 => ?_)
        obtain ⟨rfl, rfl, rfl⟩ := Q12
        replace N := N.app (Fr.nil n0)
        show own_Run p e below _ (T12.setTop (mkF m 72 #[.val (.int p1), .val (.int p2), .val (.int (1 : Int32)), .val (.int u), .val (.int od), .val (.ref b7), .val (.ref b9), .val (.int (own_is (nar .boolean (1 : Int32)) u)), .unset, .unset] [(.int (own_is (nar .boolean (0 : Int32)) u))]))
        refine own_go (fun _ kS => XS.istore X12.here hx rfl (hb hby at_72) rfl (l' := #[.val (.int p1), .val (.int p2), .val (.int (1 : Int32)), .val (.int u), .val (.int od), .val (.ref b7), .val (.ref b9), .val (.int (own_is (nar .boolean (1 : Int32)) u)), .val (.int (own_is (nar .boolean (0 : Int32)) u)), .unset]) rfl kS) ?_
        show own_Run p e below _ (T12.setTop (mkF m 74 #[.val (.int p1), .val (.int p2), .val (.int (1 : Int32)), .val (.int u), .val (.int od), .val (.ref b7), .val (.ref b9), .val (.int (own_is (nar .boolean (1 : Int32)) u)), .val (.int (own_is (nar .boolean (0 : Int32)) u)), .unset] []))
        refine own_go (fun _ kS => XS.iloadN X12.here hx rfl (hb hby at_74) rfl kS) ?_
        show own_Run p e below _ (T12.setTop (mkF m 75 #[.val (.int p1), .val (.int p2), .val (.int (1 : Int32)), .val (.int u), .val (.int od), .val (.ref b7), .val (.ref b9), .val (.int (own_is (nar .boolean (1 : Int32)) u)), .val (.int (own_is (nar .boolean (0 : Int32)) u)), .unset] [(.int (1 : Int32))]))
        refine own_go (fun _ kS => XS.ifNo X12.here hx rfl (hb hby at_75) rfl ((if0 _ _).trans (feq (show ¬ ((1 : Int32) = (0 : Int32)) from (by decide))).1) kS) ?_
        show own_Run p e below _ (T12.setTop (mkF m 78 #[.val (.int p1), .val (.int p2), .val (.int (1 : Int32)), .val (.int u), .val (.int od), .val (.ref b7), .val (.ref b9), .val (.int (own_is (nar .boolean (1 : Int32)) u)), .val (.int (own_is (nar .boolean (0 : Int32)) u)), .unset] []))
        refine own_go (fun _ kS => XS.iload X12.here hx rfl (hb hby at_78) rfl kS) ?_
        show own_Run p e below _ (T12.setTop (mkF m 80 #[.val (.int p1), .val (.int p2), .val (.int (1 : Int32)), .val (.int u), .val (.int od), .val (.ref b7), .val (.ref b9), .val (.int (own_is (nar .boolean (1 : Int32)) u)), .val (.int (own_is (nar .boolean (0 : Int32)) u)), .unset] [(.int od)]))
        refine own_go (fun _ kS => XS.istore X12.here hx rfl (hb hby at_80) rfl (l' := #[.val (.int p1), .val (.int p2), .val (.int (1 : Int32)), .val (.int u), .val (.int od), .val (.ref b7), .val (.ref b9), .val (.int (own_is (nar .boolean (1 : Int32)) u)), .val (.int (own_is (nar .boolean (0 : Int32)) u)), .val (.int od)]) rfl kS) ?_
        show own_Run p e below _ (T12.setTop (mkF m 82 #[.val (.int p1), .val (.int p2), .val (.int (1 : Int32)), .val (.int u), .val (.int od), .val (.ref b7), .val (.ref b9), .val (.int (own_is (nar .boolean (1 : Int32)) u)), .val (.int (own_is (nar .boolean (0 : Int32)) u)), .val (.int od)] []))
        refine own_go (fun _ kS => XS.goto X12.here hx rfl (pc0 := 82) (pc' := 97) rfl (hb hby at_82) (by decide) (by decide) kS) ?_
        show own_Run p e below _ (T12.setTop (mkF m 97 #[.val (.int p1), .val (.int p2), .val (.int (1 : Int32)), .val (.int u), .val (.int od), .val (.ref b7), .val (.ref b9), .val (.int (own_is (nar .boolean (1 : Int32)) u)), .val (.int (own_is (nar .boolean (0 : Int32)) u)), .val (.int od)] []))
        refine own_go (fun _ kS => XS.iload X12.here hx rfl (hb hby at_97) rfl kS) ?_
        show own_Run p e below _ (T12.setTop (mkF m 99 #[.val (.int p1), .val (.int p2), .val (.int (1 : Int32)), .val (.int u), .val (.int od), .val (.ref b7), .val (.ref b9), .val (.int (own_is (nar .boolean (1 : Int32)) u)), .val (.int (own_is (nar .boolean (0 : Int32)) u)), .val (.int od)] [(.int (own_is (nar .boolean (1 : Int32)) u))]))
        refine own_go (fun _ kS => XS.iload X12.here hx rfl (hb hby at_99) rfl kS) ?_
        show own_Run p e below _ (T12.setTop (mkF m 101 #[.val (.int p1), .val (.int p2), .val (.int (1 : Int32)), .val (.int u), .val (.int od), .val (.ref b7), .val (.ref b9), .val (.int (own_is (nar .boolean (1 : Int32)) u)), .val (.int (own_is (nar .boolean (0 : Int32)) u)), .val (.int od)] [(.int od), (.int (own_is (nar .boolean (1 : Int32)) u))]))
        refine own_go (fun _ kS => XS.icmpNo X12.here hx rfl (hb hby at_101) rfl (teq (show (own_is (nar .boolean (1 : Int32)) u) = od from ((own_l0 u od (e_u ▸ (c_and p1 2147483647 (by decide)).1) hod).2.2.1))).2 kS) ?_
        show own_Run p e below _ (T12.setTop (mkF m 104 #[.val (.int p1), .val (.int p2), .val (.int (1 : Int32)), .val (.int u), .val (.int od), .val (.ref b7), .val (.ref b9), .val (.int (own_is (nar .boolean (1 : Int32)) u)), .val (.int (own_is (nar .boolean (0 : Int32)) u)), .val (.int od)] []))
        refine own_go (fun _ kS => XS.iload X12.here hx rfl (hb hby at_104) rfl kS) ?_
        show own_Run p e below _ (T12.setTop (mkF m 106 #[.val (.int p1), .val (.int p2), .val (.int (1 : Int32)), .val (.int u), .val (.int od), .val (.ref b7), .val (.ref b9), .val (.int (own_is (nar .boolean (1 : Int32)) u)), .val (.int (own_is (nar .boolean (0 : Int32)) u)), .val (.int od)] [(.int (own_is (nar .boolean (1 : Int32)) u))]))
        refine own_go (fun _ kS => XS.iload X12.here hx rfl (hb hby at_106) rfl kS) ?_
        show own_Run p e below _ (T12.setTop (mkF m 108 #[.val (.int p1), .val (.int p2), .val (.int (1 : Int32)), .val (.int u), .val (.int od), .val (.ref b7), .val (.ref b9), .val (.int (own_is (nar .boolean (1 : Int32)) u)), .val (.int (own_is (nar .boolean (0 : Int32)) u)), .val (.int od)] [(.int (own_is (nar .boolean (0 : Int32)) u)), (.int (own_is (nar .boolean (1 : Int32)) u))]))
        refine own_go (fun _ kS => XS.icmpNo X12.here hx rfl (hb hby at_108) rfl (feq (show ¬ ((own_is (nar .boolean (1 : Int32)) u) = (own_is (nar .boolean (0 : Int32)) u)) from (fun q => (own_l0 u od (e_u ▸ (c_and p1 2147483647 (by decide)).1) hod).2.2.2 q.symm))).1 kS) ?_
        show own_Run p e below _ (T12.setTop (mkF m 111 #[.val (.int p1), .val (.int p2), .val (.int (1 : Int32)), .val (.int u), .val (.int od), .val (.ref b7), .val (.ref b9), .val (.int (own_is (nar .boolean (1 : Int32)) u)), .val (.int (own_is (nar .boolean (0 : Int32)) u)), .val (.int od)] []))
        refine own_go (fun _ kS => XS.iconst X12.here hx rfl (hb hby at_111) kS) ?_
        show own_Run p e below _ (T12.setTop (mkF m 112 #[.val (.int p1), .val (.int p2), .val (.int (1 : Int32)), .val (.int u), .val (.int od), .val (.ref b7), .val (.ref b9), .val (.int (own_is (nar .boolean (1 : Int32)) u)), .val (.int (own_is (nar .boolean (0 : Int32)) u)), .val (.int od)] [(.int (1 : Int32))]))
        refine own_go (fun _ kS => XS.goto X12.here hx rfl (pc0 := 112) (pc' := 116) rfl (hb hby at_112) (by decide) (by decide) kS) ?_
        show own_Run p e below _ (T12.setTop (mkF m 116 #[.val (.int p1), .val (.int p2), .val (.int (1 : Int32)), .val (.int u), .val (.int od), .val (.ref b7), .val (.ref b9), .val (.int (own_is (nar .boolean (1 : Int32)) u)), .val (.int (own_is (nar .boolean (0 : Int32)) u)), .val (.int od)] [(.int (1 : Int32))]))
        refine own_retN X12 hx (t := .boolean) hret hlk (by simp) (hb hby at_116) (by decide) (by decide) ?_
        exact ⟨rfl, N⟩
    by_cases hc20 : (u &&& (1 : Int32)) = (0 : Int32)
    · refine own_go (fun _ kS => XS.ifYes X.here hx rfl (pc0 := 20) (pc' := 27) rfl (hb hby at_20) rfl ((if0 _ _).trans (teq hc20).1) (by decide) (by decide) kS) ?_
      show own_Run p e below _ (T.setTop (mkF m 27 #[.val (.int p1), .val (.int p2), .val (.int cl), .val (.int u), .unset, .unset, .unset, .unset, .unset, .unset] []))
      refine own_go (fun _ kS => XS.iconst X.here hx rfl (hb hby at_27) kS) ?_
      show own_Run p e below _ (T.setTop (mkF m 28 #[.val (.int p1), .val (.int p2), .val (.int cl), .val (.int u), .unset, .unset, .unset, .unset, .unset, .unset] [(.int (0 : Int32))]))
      refine own_go (fun _ kS => XS.istore X.here hx rfl (hb hby at_28) rfl (l' := #[.val (.int p1), .val (.int p2), .val (.int cl), .val (.int u), .val (.int (0 : Int32)), .unset, .unset, .unset, .unset, .unset]) rfl kS) ?_
      show own_Run p e below _ (T.setTop (mkF m 30 #[.val (.int p1), .val (.int p2), .val (.int cl), .val (.int u), .val (.int (0 : Int32)), .unset, .unset, .unset, .unset, .unset] []))
      exact J30 _ (by first | exact (if_pos hc20).symm | exact (if_neg hc20).symm)
    · refine own_go (fun _ kS => XS.ifNo X.here hx rfl (hb hby at_20) rfl ((if0 _ _).trans (feq hc20).1) kS) ?_
      show own_Run p e below _ (T.setTop (mkF m 23 #[.val (.int p1), .val (.int p2), .val (.int cl), .val (.int u), .unset, .unset, .unset, .unset, .unset, .unset] []))
      refine own_go (fun _ kS => XS.iconst X.here hx rfl (hb hby at_23) kS) ?_
      show own_Run p e below _ (T.setTop (mkF m 24 #[.val (.int p1), .val (.int p2), .val (.int cl), .val (.int u), .unset, .unset, .unset, .unset, .unset, .unset] [(.int (1 : Int32))]))
      refine own_go (fun _ kS => XS.goto X.here hx rfl (pc0 := 24) (pc' := 28) rfl (hb hby at_24) (by decide) (by decide) kS) ?_
      show own_Run p e below _ (T.setTop (mkF m 28 #[.val (.int p1), .val (.int p2), .val (.int cl), .val (.int u), .unset, .unset, .unset, .unset, .unset, .unset] [(.int (1 : Int32))]))
      refine own_go (fun _ kS => XS.istore X.here hx rfl (hb hby at_28) rfl (l' := #[.val (.int p1), .val (.int p2), .val (.int cl), .val (.int u), .val (.int (1 : Int32)), .unset, .unset, .unset, .unset, .unset]) rfl kS) ?_
      show own_Run p e below _ (T.setTop (mkF m 30 #[.val (.int p1), .val (.int p2), .val (.int cl), .val (.int u), .val (.int (1 : Int32)), .unset, .unset, .unset, .unset, .unset] []))
      exact J30 _ (by first | exact (if_pos hc20).symm | exact (if_neg hc20).symm)
  by_cases hc3 : (p2 &&& (1 : Int32)) = (0 : Int32)
  · refine own_go (fun _ kS => XS.ifYes X.here hx rfl (pc0 := 3) (pc' := 10) rfl (hb hby at_3) rfl ((if0 _ _).trans (teq hc3).1) (by decide) (by decide) kS) ?_
    show own_Run p e below _ (T.setTop (mkF m 10 #[.val (.int p1), .val (.int p2), .unset, .unset, .unset, .unset, .unset, .unset, .unset, .unset] []))
    refine own_go (fun _ kS => XS.iconst X.here hx rfl (hb hby at_10) kS) ?_
    show own_Run p e below _ (T.setTop (mkF m 11 #[.val (.int p1), .val (.int p2), .unset, .unset, .unset, .unset, .unset, .unset, .unset, .unset] [(.int (0 : Int32))]))
    refine own_go (fun _ kS => XS.istoreN X.here hx rfl (hb hby at_11) rfl (l' := #[.val (.int p1), .val (.int p2), .val (.int (0 : Int32)), .unset, .unset, .unset, .unset, .unset, .unset, .unset]) rfl kS) ?_
    show own_Run p e below _ (T.setTop (mkF m 12 #[.val (.int p1), .val (.int p2), .val (.int (0 : Int32)), .unset, .unset, .unset, .unset, .unset, .unset, .unset] []))
    exact J12 _ (by first | exact Or.inl rfl | exact Or.inr rfl)
  · refine own_go (fun _ kS => XS.ifNo X.here hx rfl (hb hby at_3) rfl ((if0 _ _).trans (feq hc3).1) kS) ?_
    show own_Run p e below _ (T.setTop (mkF m 6 #[.val (.int p1), .val (.int p2), .unset, .unset, .unset, .unset, .unset, .unset, .unset, .unset] []))
    refine own_go (fun _ kS => XS.iconst X.here hx rfl (hb hby at_6) kS) ?_
    show own_Run p e below _ (T.setTop (mkF m 7 #[.val (.int p1), .val (.int p2), .unset, .unset, .unset, .unset, .unset, .unset, .unset, .unset] [(.int (1 : Int32))]))
    refine own_go (fun _ kS => XS.goto X.here hx rfl (pc0 := 7) (pc' := 11) rfl (hb hby at_7) (by decide) (by decide) kS) ?_
    show own_Run p e below _ (T.setTop (mkF m 11 #[.val (.int p1), .val (.int p2), .unset, .unset, .unset, .unset, .unset, .unset, .unset, .unset] [(.int (1 : Int32))]))
    refine own_go (fun _ kS => XS.istoreN X.here hx rfl (hb hby at_11) rfl (l' := #[.val (.int p1), .val (.int p2), .val (.int (1 : Int32)), .unset, .unset, .unset, .unset, .unset, .unset, .unset]) rfl kS) ?_
    show own_Run p e below _ (T.setTop (mkF m 12 #[.val (.int p1), .val (.int p2), .val (.int (1 : Int32)), .unset, .unset, .unset, .unset, .unset, .unset, .unset] []))
    exact J12 _ (by first | exact Or.inl rfl | exact Or.inr rfl)
set_option maxRecDepth 65536 in
set_option maxHeartbeats 40000000 in
theorem own_comes_1 {Post : Tables → Env → Array Value → State → Outcome → State → Prop} (hpost : ∀ tb e args s v u, (limb_1_1.after args s (.returned v) u = true ∧ limb_1_2.after args s (.returned v) u = true) → FrameEnd s (.returned v) u (Jvm.fieldLocs frame_1_writes args s ++ Jvm.arrayLocs frame_1_arrays args s ++ Jvm.staticLocs frame_1_statics s) 24 192 → Post tb e args s (.returned v) u) :
    ArmFor flags0 classFile x code maxLocals ret World_1 tables_1 room_1 Calls_1 rest_1 Pre_1 Post := by
  intro l hfl _ _ p e ha hc hk s m args below hf hA hF happ hP
  obtain ⟨hcalls, hrest, hpre⟩ := hP
  obtain ⟨-, -, -, hnamed, -, -, -, hat⟩ := (Spec.applies_iff hf).mp happ
  obtain ⟨hg, hn⟩ := and_e (Cond.before_iff.mp (show (Jvm.Cond.and given_1 narrow_1).before args s = true from hpre))
  obtain ⟨g0, hg⟩ := and_e hg
  obtain ⟨k0, hg⟩ := and_e hg
  have k1 := hg
  obtain ⟨w0, w1, rfl⟩ : ∃ w0 w1 : Value, args = #[w0, w1] := by
    have hs : args.size = 2 := by simpa [Cond.value, given_1] using g0
    obtain ⟨L⟩ := args
    match L, hs with
    | [w0, w1], _ => exact ⟨w0, w1, rfl⟩
  have hw := fun d (hd : d ∈ tables_1) => atoms_spec (ws := Jvm.Cond.code x code maxLocals ret :: tables_1) hat d (List.mem_cons_of_mem _ hd)
  obtain ⟨i0, ei0⟩ := is_v k0
  obtain rfl : w0 = (.int i0) := Option.some.inj ei0
  obtain ⟨i1, ei1⟩ := is_v k1
  obtain rfl : w1 = (.int i1) := Option.some.inj ei1
  obtain ⟨n, o, h1, h2, h3, _, L, rfl, ⟨rfl, N⟩, hq⟩ := rm_law l s _ hw i0 i1 s.heap.size s.heap (Nat.le_refl _) tables_1 p e ha hc hk s m _ below hf ((Spec.applies_iff_loose hf).mp happ).1 ⟨rfl, State.Warmed39.refl s, rfl⟩ trivial
  refine ⟨n, _, h1, h2, h3, hpost _ _ _ _ _ _ ⟨Cond.after_iff.mpr rfl, Cond.after_iff.mpr (eq_i res_at (Term.int_eval (1)) rfl)⟩ ⟨hq.1, hq.2.1, (hq.2.2.sift fun y hy => Or.inr (N y hy)).mono (by decide) (by decide)⟩⟩
theorem main_1_1 : Claimed_1_1 := own_comes_1 fun _ _ _ _ _ _ h hF => ⟨h.1, hF⟩
theorem main_1_2 : Claimed_1_2 := own_comes_1 fun _ _ _ _ _ _ h hF => ⟨h.2, hF⟩
end Jvm.Pilot.@@N@@
namespace Jvm.Pilot.@@N@@
open Jvm Jvm.ClassFile Sem Op Lib Jvm.Free Jvm.Stand Jvm.Pilot.@@N@@.Jvm.D
/-! MADE BY PROGRAM (witnessworld.py) out of the Statement's table words and the real class files: 13 classes; the members and pool entries that the words name. The judged class is class 1, her method 1. -/
namespace start1
open Jvm.ClassFile
def u (s : String) : CpInfo := .utf8 (stringToUtf16 s)
/-- a pool by its gaps: so many unusable entries, then the entry; so many at the end -/
def gap : Nat → List CpInfo → List CpInfo
  | 0, r => r
  | n + 1, r => .unusable :: gap n r
def poolList (es : List (Nat × CpInfo)) (last : Nat) : List CpInfo := es.foldr (fun e r => gap e.1 (e.2 :: r)) (gap last [])
def pool (es : List (Nat × CpInfo)) (last : Nat) : Array CpInfo := ⟨poolList es last⟩
def fileOf (pool : Array CpInfo) (this : Nat) (attrs : Array Attribute := #[]) (ms : Array MethodInfo := #[]) (fl : Nat := 33) (sup : Nat := 0) (ifs : Array Nat := #[]) (fds : Array FieldInfo := #[]) : ClassFile where
  minorVersion := 0
  majorVersion := 65
  constantPool := pool
  accessFlags := fl
  thisClass := this
  superClass := sup
  interfaces := ifs
  fields := fds
  methods := ms
  attributes := attrs
def plain (name : String) (sup : Option ClassId) : Class where
  name := name
  kind := .ordinary
  loader := none
  accessFlags := 33
  super := sup
  interfaces := #[]
  cf := none
  fields := #[]
  methods := #[]
  instanceTypes := #[]
  staticTypes := #[]
  resolved := #[]
  callSites := []
  init := .initialized
  statics := none
  mirror := none

def pool0 : Array CpInfo := pool [(5, u "<init>"), (0, u "()V"), (1, .class_ 10), (1, u "java/lang/Object")] 113

def k0c0 : Code := { maxStack := 0, maxLocals := 1, code := object_method_1_code, exceptionTable := #[], attributes := #[] }
def k0m0 : Method := { name := "<init>", desc := "()V", sig := { parameters := [], returnType := none }, accessFlags := 1, code := some k0c0 }
/-- java/lang/Object -/
def k0 : Class := { plain "java/lang/Object" none with
  accessFlags := 33
  interfaces := #[]
  cf := some (fileOf pool0 8 #[] #[{ accessFlags := 1, nameIndex := 5, descriptorIndex := 6, attributes := #[] }] 33 0 #[] #[])
  fields := #[]
  methods := #[k0m0]
  instanceTypes := #[]
  staticTypes := #[]
  resolved := Array.replicate 124 none
  statics := none }

def pool1 : Array CpInfo := pool [(2, .class_ 4), (1, u "java/lang/Object"), (0, u "<init>"), (0, u "()V"), (0, .integer 2147483647), (0, .class_ 9), (0, u "com/example/credence/credence/OpenStreams"), (0, .methodref 8 11), (0, .nameAndType 5 12), (0, u "(Z)V"), (0, .methodref 8 14), (0, .nameAndType 15 16), (0, u "isOwn"), (0, u "(I)Z"), (0, .class_ 18), (0, u "com/example/credence/credence/OpenStreamsIsOwnPinLaw"), (2, u "law"), (0, u "(II)Z")] 3

def k1m0 : Method := { name := "<init>", desc := "()V", sig := { parameters := [], returnType := none }, accessFlags := 2, code := none }
def k1c1 : Code := { maxStack := 3, maxLocals := 10, code := code, exceptionTable := #[], attributes := #[] }
def k1m1 : Method := { name := "law", desc := "(II)Z", sig := { parameters := [.int, .int], returnType := some .boolean }, accessFlags := 9, code := some k1c1 }
/-- com/example/credence/credence/OpenStreamsIsOwnPinLaw -/
def k1 : Class := { plain "com/example/credence/credence/OpenStreamsIsOwnPinLaw" (some 0) with
  accessFlags := 49
  interfaces := #[]
  cf := some (fileOf pool1 17 #[] #[{ accessFlags := 2, nameIndex := 5, descriptorIndex := 6, attributes := #[] }, { accessFlags := 9, nameIndex := 21, descriptorIndex := 22, attributes := #[] }] 49 2 #[] #[])
  fields := #[]
  methods := #[k1m0, k1m1]
  instanceTypes := #[]
  staticTypes := #[]
  resolved := Array.replicate 26 none
  statics := none }

def pool2 : Array CpInfo := pool [(1, .methodref 2 3), (0, .class_ 4), (0, .nameAndType 5 6), (0, u "java/lang/Object"), (0, u "<init>"), (0, u "()V"), (0, .class_ 8), (0, u "java/util/concurrent/ConcurrentHashMap"), (0, .methodref 7 3), (0, .fieldref 11 12), (0, .class_ 13), (0, .nameAndType 14 15), (0, u "com/example/credence/credence/OpenStreams"), (0, u "own"), (0, u "Ljava/util/Map;"), (0, .fieldref 11 17), (0, .nameAndType 18 15), (0, u "peers"), (0, .fieldref 11 20), (0, .nameAndType 21 22), (0, u "client"), (0, u "Z"), (70, u "isOwn"), (0, u "(I)Z"), (2, u "(Z)V")] 14

def k2c0 : Code := { maxStack := 3, maxLocals := 2, code := prog_27_method_1_code, exceptionTable := #[], attributes := #[] }
def k2m0 : Method := { name := "<init>", desc := "(Z)V", sig := { parameters := [.boolean], returnType := none }, accessFlags := 0, code := some k2c0 }
def k2c1 : Code := { maxStack := 3, maxLocals := 2, code := prog_27_method_2_code, exceptionTable := #[], attributes := #[] }
def k2m1 : Method := { name := "isOwn", desc := "(I)Z", sig := { parameters := [.int], returnType := some .boolean }, accessFlags := 0, code := some k2c1 }
/-- com/example/credence/credence/OpenStreams -/
def k2 : Class := { plain "com/example/credence/credence/OpenStreams" (some 0) with
  accessFlags := 48
  interfaces := #[]
  cf := some (fileOf pool2 11 #[] #[{ accessFlags := 0, nameIndex := 5, descriptorIndex := 97, attributes := #[] }, { accessFlags := 0, nameIndex := 93, descriptorIndex := 94, attributes := #[] }] 48 2 #[] #[{ accessFlags := 18, nameIndex := 21, descriptorIndex := 22, attributes := #[] }, { accessFlags := 18, nameIndex := 14, descriptorIndex := 15, attributes := #[] }, { accessFlags := 18, nameIndex := 18, descriptorIndex := 15, attributes := #[] }])
  fields := #[{ name := "client", type := .boolean, accessFlags := 18, slot := 0, constantValue := 0 }, { name := "own", type := (.object "java/util/Map"), accessFlags := 18, slot := 1, constantValue := 0 }, { name := "peers", type := (.object "java/util/Map"), accessFlags := 18, slot := 2, constantValue := 0 }]
  methods := #[k2m0, k2m1]
  instanceTypes := #[.boolean, (.object "java/util/Map"), (.object "java/util/Map")]
  staticTypes := #[]
  resolved := Array.replicate 112 none
  statics := none }

def pool3 : Array CpInfo := pool [(2, .class_ 4), (1, u "java/util/Map"), (31, .class_ 37), (0, u "java/util/Map$Entry"), (55, .class_ 94), (0, u "java/lang/Object")] 168

/-- java/util/Map -/
def k3 : Class := { plain "java/util/Map" (some 0) with
  accessFlags := 1537
  interfaces := #[]
  cf := some (fileOf pool3 2 #[.nestMembers #[36]] #[] 1537 93 #[] #[])
  fields := #[]
  methods := #[]
  instanceTypes := #[]
  staticTypes := #[]
  resolved := Array.replicate 263 none
  statics := none }

def pool4 : Array CpInfo := pool [(1, .methodref 2 3), (0, .class_ 4), (0, .nameAndType 5 6), (0, u "java/lang/Object"), (0, u "<init>"), (0, u "()V"), (1, .class_ 10), (1, u "java/util/AbstractMap"), (42, .class_ 54), (0, u "java/util/Map"), (9, u "keySet"), (0, u "Ljava/util/Set;"), (0, .class_ 67), (0, u "java/util/AbstractMap$1"), (5, u "values"), (0, u "Ljava/util/Collection;"), (0, .class_ 76), (0, u "java/util/AbstractMap$2"), (104, .class_ 182), (0, u "java/util/AbstractMap$ViewCollection"), (0, .class_ 184), (0, u "java/util/AbstractMap$SimpleImmutableEntry"), (0, .class_ 186), (0, u "java/util/AbstractMap$SimpleEntry"), (0, .class_ 188), (0, u "java/util/AbstractMap$2$1"), (0, .class_ 190), (0, u "java/util/AbstractMap$1$1")] 5

def k4c0 : Code := { maxStack := 1, maxLocals := 1, code := jdk_71_method_1_code, exceptionTable := #[], attributes := #[] }
def k4m0 : Method := { name := "<init>", desc := "()V", sig := { parameters := [], returnType := none }, accessFlags := 4, code := some k4c0 }
/-- java/util/AbstractMap -/
def k4 : Class := { plain "java/util/AbstractMap" (some 0) with
  accessFlags := 1057
  interfaces := #[3]
  cf := some (fileOf pool4 8 #[.nestMembers #[181, 183, 185, 75, 187, 66, 189]] #[{ accessFlags := 4, nameIndex := 5, descriptorIndex := 6, attributes := #[] }] 1057 2 #[53] #[{ accessFlags := 128, nameIndex := 64, descriptorIndex := 65, attributes := #[] }, { accessFlags := 128, nameIndex := 73, descriptorIndex := 74, attributes := #[] }])
  fields := #[{ name := "keySet", type := (.object "java/util/Set"), accessFlags := 128, slot := 0, constantValue := 0 }, { name := "values", type := (.object "java/util/Collection"), accessFlags := 128, slot := 1, constantValue := 0 }]
  methods := #[k4m0]
  instanceTypes := #[(.object "java/util/Set"), (.object "java/util/Collection")]
  staticTypes := #[]
  resolved := Array.replicate 196 none
  statics := none }

def pool5 : Array CpInfo := pool [(2, .class_ 4), (1, u "java/util/concurrent/ConcurrentMap"), (71, .class_ 77), (0, u "java/lang/Object"), (0, .class_ 79), (0, u "java/util/Map")] 77

/-- java/util/concurrent/ConcurrentMap -/
def k5 : Class := { plain "java/util/concurrent/ConcurrentMap" (some 0) with
  accessFlags := 1537
  interfaces := #[3]
  cf := some (fileOf pool5 2 #[] #[] 1537 76 #[78] #[])
  fields := #[]
  methods := #[]
  instanceTypes := #[]
  staticTypes := #[]
  resolved := Array.replicate 157 none
  statics := none }

def pool6 : Array CpInfo := pool [(1, .class_ 2), (0, u "java/io/Serializable"), (0, .class_ 4), (0, u "java/lang/Object")] 2

/-- java/io/Serializable -/
def k6 : Class := { plain "java/io/Serializable" (some 0) with
  accessFlags := 1537
  interfaces := #[]
  cf := some (fileOf pool6 1 #[] #[] 1537 3 #[] #[])
  fields := #[]
  methods := #[]
  instanceTypes := #[]
  staticTypes := #[]
  resolved := Array.replicate 7 none
  statics := none }

def pool7 : Array CpInfo := pool [(3, .class_ 4), (0, u "java/util/concurrent/ConcurrentHashMap"), (37, u "U"), (0, u "Ljdk/internal/misc/Unsafe;"), (2, u "ASHIFT"), (0, u "I"), (2, u "ABASE"), (6, .class_ 58), (0, u "java/util/concurrent/ConcurrentHashMap$Node"), (8, .methodref 68 69), (0, .class_ 70), (0, .nameAndType 71 72), (0, u "java/util/AbstractMap"), (0, u "<init>"), (0, u "()V"), (6, u "sizeCtl"), (27, u "table"), (0, u "[Ljava/util/concurrent/ConcurrentHashMap$Node;"), (33, .class_ 143), (0, u "java/util/concurrent/ConcurrentHashMap$Traverser"), (26, .class_ 171), (0, u "java/util/concurrent/ConcurrentHashMap$TreeBin"), (4, .class_ 177), (0, u "java/util/concurrent/ConcurrentHashMap$ReservationNode"), (26, u "entrySet"), (37, .class_ 244), (1, u "java/util/concurrent/ConcurrentHashMap$TreeNode"), (18, u "keySet"), (0, u "Ljava/util/concurrent/ConcurrentHashMap$KeySetView;"), (0, .class_ 266), (0, u "java/util/concurrent/ConcurrentHashMap$KeySetView"), (5, u "values"), (0, u "Ljava/util/concurrent/ConcurrentHashMap$ValuesView;"), (0, .class_ 275), (0, u "java/util/concurrent/ConcurrentHashMap$ValuesView"), (5, u "Ljava/util/concurrent/ConcurrentHashMap$EntrySetView;"), (0, .class_ 283), (0, u "java/util/concurrent/ConcurrentHashMap$EntrySetView"), (18, .class_ 303), (0, u "java/util/concurrent/ConcurrentHashMap$Segment"), (54, u "baseCount"), (0, u "J"), (29, .class_ 390), (0, u "java/util/concurrent/ConcurrentHashMap$KeyIterator"), (3, .class_ 395), (0, u "java/util/concurrent/ConcurrentHashMap$ValueIterator"), (18, u "SIZECTL"), (6, u "counterCells"), (0, u "[Ljava/util/concurrent/ConcurrentHashMap$CounterCell;"), (2, u "BASECOUNT"), (11, u "CELLVALUE"), (1, .class_ 441), (1, u "java/util/concurrent/ConcurrentHashMap$CounterCell"), (11, u "nextTable"), (2, u "transferIndex"), (4, .class_ 462), (0, u "java/util/concurrent/ConcurrentHashMap$ForwardingNode"), (4, u "NCPU"), (7, u "TRANSFERINDEX"), (5, u "cellsBusy"), (5, u "CELLSBUSY"), (19, .class_ 508), (0, u "java/util/concurrent/ConcurrentHashMap$ForEachMappingTask"), (10, .class_ 520), (0, u "java/util/concurrent/ConcurrentHashMap$ForEachTransformedMappingTask"), (4, .class_ 526), (0, u "java/util/concurrent/ConcurrentHashMap$SearchMappingsTask"), (7, .class_ 535), (0, u "java/util/concurrent/ConcurrentHashMap$MapReduceMappingsTask"), (4, .class_ 541), (0, u "java/util/concurrent/ConcurrentHashMap$MapReduceMappingsToDoubleTask"), (10, .class_ 553), (0, u "java/util/concurrent/ConcurrentHashMap$MapReduceMappingsToLongTask"), (7, .class_ 562), (0, u "java/util/concurrent/ConcurrentHashMap$MapReduceMappingsToIntTask"), (7, .class_ 571), (0, u "java/util/concurrent/ConcurrentHashMap$ForEachKeyTask"), (4, .class_ 577), (0, u "java/util/concurrent/ConcurrentHashMap$ForEachTransformedKeyTask"), (4, .class_ 583), (0, u "java/util/concurrent/ConcurrentHashMap$SearchKeysTask"), (4, .class_ 589), (0, u "java/util/concurrent/ConcurrentHashMap$ReduceKeysTask"), (4, .class_ 595), (0, u "java/util/concurrent/ConcurrentHashMap$MapReduceKeysTask"), (4, .class_ 601), (0, u "java/util/concurrent/ConcurrentHashMap$MapReduceKeysToDoubleTask"), (4, .class_ 607), (0, u "java/util/concurrent/ConcurrentHashMap$MapReduceKeysToLongTask"), (4, .class_ 613), (0, u "java/util/concurrent/ConcurrentHashMap$MapReduceKeysToIntTask"), (4, .class_ 619), (0, u "java/util/concurrent/ConcurrentHashMap$ForEachValueTask"), (2, .class_ 623), (0, u "java/util/concurrent/ConcurrentHashMap$ForEachTransformedValueTask"), (2, .class_ 627), (0, u "java/util/concurrent/ConcurrentHashMap$SearchValuesTask"), (2, .class_ 631), (0, u "java/util/concurrent/ConcurrentHashMap$ReduceValuesTask"), (4, .class_ 637), (0, u "java/util/concurrent/ConcurrentHashMap$MapReduceValuesTask"), (4, .class_ 643), (0, u "java/util/concurrent/ConcurrentHashMap$MapReduceValuesToDoubleTask"), (4, .class_ 649), (0, u "java/util/concurrent/ConcurrentHashMap$MapReduceValuesToLongTask"), (4, .class_ 655), (0, u "java/util/concurrent/ConcurrentHashMap$MapReduceValuesToIntTask"), (4, .class_ 661), (0, u "java/util/concurrent/ConcurrentHashMap$ForEachEntryTask"), (2, .class_ 665), (0, u "java/util/concurrent/ConcurrentHashMap$ForEachTransformedEntryTask"), (2, .class_ 669), (0, u "java/util/concurrent/ConcurrentHashMap$SearchEntriesTask"), (2, .class_ 673), (0, u "java/util/concurrent/ConcurrentHashMap$ReduceEntriesTask"), (4, .class_ 679), (0, u "java/util/concurrent/ConcurrentHashMap$MapReduceEntriesTask"), (4, .class_ 685), (0, u "java/util/concurrent/ConcurrentHashMap$MapReduceEntriesToDoubleTask"), (4, .class_ 691), (0, u "java/util/concurrent/ConcurrentHashMap$MapReduceEntriesToLongTask"), (4, .class_ 697), (0, u "java/util/concurrent/ConcurrentHashMap$MapReduceEntriesToIntTask"), (29, u "serialPersistentFields"), (0, u "[Ljava/io/ObjectStreamField;"), (28, .class_ 758), (0, u "java/util/concurrent/ConcurrentMap"), (0, .class_ 760), (0, u "java/io/Serializable"), (0, u "serialVersionUID"), (3, u "MAXIMUM_CAPACITY"), (0, u "DEFAULT_CAPACITY"), (1, u "MAX_ARRAY_SIZE"), (1, u "DEFAULT_CONCURRENCY_LEVEL"), (0, u "LOAD_FACTOR"), (0, u "F"), (0, u "TREEIFY_THRESHOLD"), (1, u "UNTREEIFY_THRESHOLD"), (1, u "MIN_TREEIFY_CAPACITY"), (1, u "MIN_TRANSFER_STRIDE"), (0, u "RESIZE_STAMP_BITS"), (0, u "MAX_RESIZERS"), (0, u "RESIZE_STAMP_SHIFT"), (0, u "MOVED"), (1, u "TREEBIN"), (1, u "RESERVED"), (1, u "HASH_BITS"), (345, .class_ 1136), (0, u "java/util/concurrent/ConcurrentHashMap$BulkTask"), (0, .class_ 1138), (0, u "java/util/concurrent/ConcurrentHashMap$CollectionView"), (0, .class_ 1140), (0, u "java/util/concurrent/ConcurrentHashMap$EntrySpliterator"), (0, .class_ 1142), (0, u "java/util/concurrent/ConcurrentHashMap$ValueSpliterator"), (0, .class_ 1144), (0, u "java/util/concurrent/ConcurrentHashMap$KeySpliterator"), (0, .class_ 1146), (0, u "java/util/concurrent/ConcurrentHashMap$MapEntry"), (0, .class_ 1148), (0, u "java/util/concurrent/ConcurrentHashMap$EntryIterator"), (0, .class_ 1150), (0, u "java/util/concurrent/ConcurrentHashMap$BaseIterator"), (0, .class_ 1152), (0, u "java/util/concurrent/ConcurrentHashMap$TableStack")] 57

def k7c0 : Code := { maxStack := 1, maxLocals := 1, code := jdk_2776_method_8_code, exceptionTable := #[], attributes := #[] }
def k7m0 : Method := { name := "<init>", desc := "()V", sig := { parameters := [], returnType := none }, accessFlags := 1, code := some k7c0 }
/-- java/util/concurrent/ConcurrentHashMap -/
def k7 : Class := { plain "java/util/concurrent/ConcurrentHashMap" (some 4) with
  accessFlags := 33
  interfaces := #[5, 6]
  cf := some (fileOf pool7 3 #[.nestMembers #[561, 696, 654, 612, 552, 690, 648, 606, 540, 684, 642, 600, 534, 678, 636, 594, 672, 630, 588, 525, 668, 626, 582, 519, 664, 622, 576, 507, 660, 618, 570, 1135, 282, 274, 265, 1137, 1139, 1141, 1143, 1145, 1147, 394, 389, 1149, 142, 1151, 170, 242, 439, 176, 461, 302, 57]] #[{ accessFlags := 1, nameIndex := 71, descriptorIndex := 72, attributes := #[] }] 33 68 #[757, 759] #[{ accessFlags := 26, nameIndex := 761, descriptorIndex := 359, attributes := #[] }, { accessFlags := 26, nameIndex := 765, descriptorIndex := 47, attributes := #[] }, { accessFlags := 26, nameIndex := 766, descriptorIndex := 47, attributes := #[] }, { accessFlags := 24, nameIndex := 768, descriptorIndex := 47, attributes := #[] }, { accessFlags := 26, nameIndex := 770, descriptorIndex := 47, attributes := #[] }, { accessFlags := 26, nameIndex := 771, descriptorIndex := 772, attributes := #[] }, { accessFlags := 24, nameIndex := 773, descriptorIndex := 47, attributes := #[] }, { accessFlags := 24, nameIndex := 775, descriptorIndex := 47, attributes := #[] }, { accessFlags := 24, nameIndex := 777, descriptorIndex := 47, attributes := #[] }, { accessFlags := 26, nameIndex := 779, descriptorIndex := 47, attributes := #[] }, { accessFlags := 26, nameIndex := 780, descriptorIndex := 47, attributes := #[] }, { accessFlags := 26, nameIndex := 781, descriptorIndex := 47, attributes := #[] }, { accessFlags := 26, nameIndex := 782, descriptorIndex := 47, attributes := #[] }, { accessFlags := 24, nameIndex := 783, descriptorIndex := 47, attributes := #[] }, { accessFlags := 24, nameIndex := 785, descriptorIndex := 47, attributes := #[] }, { accessFlags := 24, nameIndex := 787, descriptorIndex := 47, attributes := #[] }, { accessFlags := 24, nameIndex := 789, descriptorIndex := 47, attributes := #[] }, { accessFlags := 24, nameIndex := 467, descriptorIndex := 47, attributes := #[] }, { accessFlags := 26, nameIndex := 727, descriptorIndex := 728, attributes := #[] }, { accessFlags := 192, nameIndex := 107, descriptorIndex := 108, attributes := #[] }, { accessFlags := 194, nameIndex := 453, descriptorIndex := 108, attributes := #[] }, { accessFlags := 194, nameIndex := 358, descriptorIndex := 359, attributes := #[] }, { accessFlags := 194, nameIndex := 79, descriptorIndex := 47, attributes := #[] }, { accessFlags := 194, nameIndex := 456, descriptorIndex := 47, attributes := #[] }, { accessFlags := 194, nameIndex := 481, descriptorIndex := 47, attributes := #[] }, { accessFlags := 194, nameIndex := 421, descriptorIndex := 422, attributes := #[] }, { accessFlags := 130, nameIndex := 263, descriptorIndex := 264, attributes := #[] }, { accessFlags := 130, nameIndex := 272, descriptorIndex := 273, attributes := #[] }, { accessFlags := 130, nameIndex := 204, descriptorIndex := 281, attributes := #[] }, { accessFlags := 26, nameIndex := 42, descriptorIndex := 43, attributes := #[] }, { accessFlags := 26, nameIndex := 414, descriptorIndex := 359, attributes := #[] }, { accessFlags := 26, nameIndex := 475, descriptorIndex := 359, attributes := #[] }, { accessFlags := 26, nameIndex := 425, descriptorIndex := 359, attributes := #[] }, { accessFlags := 26, nameIndex := 487, descriptorIndex := 359, attributes := #[] }, { accessFlags := 26, nameIndex := 437, descriptorIndex := 359, attributes := #[] }, { accessFlags := 26, nameIndex := 50, descriptorIndex := 47, attributes := #[] }, { accessFlags := 26, nameIndex := 46, descriptorIndex := 47, attributes := #[] }])
  fields := #[{ name := "serialVersionUID", type := .long, accessFlags := 26, slot := 0, constantValue := 0 }, { name := "MAXIMUM_CAPACITY", type := .int, accessFlags := 26, slot := 1, constantValue := 0 }, { name := "DEFAULT_CAPACITY", type := .int, accessFlags := 26, slot := 2, constantValue := 0 }, { name := "MAX_ARRAY_SIZE", type := .int, accessFlags := 24, slot := 3, constantValue := 0 }, { name := "DEFAULT_CONCURRENCY_LEVEL", type := .int, accessFlags := 26, slot := 4, constantValue := 0 }, { name := "LOAD_FACTOR", type := .float, accessFlags := 26, slot := 5, constantValue := 0 }, { name := "TREEIFY_THRESHOLD", type := .int, accessFlags := 24, slot := 6, constantValue := 0 }, { name := "UNTREEIFY_THRESHOLD", type := .int, accessFlags := 24, slot := 7, constantValue := 0 }, { name := "MIN_TREEIFY_CAPACITY", type := .int, accessFlags := 24, slot := 8, constantValue := 0 }, { name := "MIN_TRANSFER_STRIDE", type := .int, accessFlags := 26, slot := 9, constantValue := 0 }, { name := "RESIZE_STAMP_BITS", type := .int, accessFlags := 26, slot := 10, constantValue := 0 }, { name := "MAX_RESIZERS", type := .int, accessFlags := 26, slot := 11, constantValue := 0 }, { name := "RESIZE_STAMP_SHIFT", type := .int, accessFlags := 26, slot := 12, constantValue := 0 }, { name := "MOVED", type := .int, accessFlags := 24, slot := 13, constantValue := 0 }, { name := "TREEBIN", type := .int, accessFlags := 24, slot := 14, constantValue := 0 }, { name := "RESERVED", type := .int, accessFlags := 24, slot := 15, constantValue := 0 }, { name := "HASH_BITS", type := .int, accessFlags := 24, slot := 16, constantValue := 0 }, { name := "NCPU", type := .int, accessFlags := 24, slot := 17, constantValue := 0 }, { name := "serialPersistentFields", type := (.array (.object "java/io/ObjectStreamField")), accessFlags := 26, slot := 18, constantValue := 0 }, { name := "table", type := (.array (.object "java/util/concurrent/ConcurrentHashMap$Node")), accessFlags := 192, slot := 2, constantValue := 0 }, { name := "nextTable", type := (.array (.object "java/util/concurrent/ConcurrentHashMap$Node")), accessFlags := 194, slot := 3, constantValue := 0 }, { name := "baseCount", type := .long, accessFlags := 194, slot := 4, constantValue := 0 }, { name := "sizeCtl", type := .int, accessFlags := 194, slot := 5, constantValue := 0 }, { name := "transferIndex", type := .int, accessFlags := 194, slot := 6, constantValue := 0 }, { name := "cellsBusy", type := .int, accessFlags := 194, slot := 7, constantValue := 0 }, { name := "counterCells", type := (.array (.object "java/util/concurrent/ConcurrentHashMap$CounterCell")), accessFlags := 194, slot := 8, constantValue := 0 }, { name := "keySet", type := (.object "java/util/concurrent/ConcurrentHashMap$KeySetView"), accessFlags := 130, slot := 9, constantValue := 0 }, { name := "values", type := (.object "java/util/concurrent/ConcurrentHashMap$ValuesView"), accessFlags := 130, slot := 10, constantValue := 0 }, { name := "entrySet", type := (.object "java/util/concurrent/ConcurrentHashMap$EntrySetView"), accessFlags := 130, slot := 11, constantValue := 0 }, { name := "U", type := (.object "jdk/internal/misc/Unsafe"), accessFlags := 26, slot := 19, constantValue := 0 }, { name := "SIZECTL", type := .long, accessFlags := 26, slot := 20, constantValue := 0 }, { name := "TRANSFERINDEX", type := .long, accessFlags := 26, slot := 21, constantValue := 0 }, { name := "BASECOUNT", type := .long, accessFlags := 26, slot := 22, constantValue := 0 }, { name := "CELLSBUSY", type := .long, accessFlags := 26, slot := 23, constantValue := 0 }, { name := "CELLVALUE", type := .long, accessFlags := 26, slot := 24, constantValue := 0 }, { name := "ABASE", type := .int, accessFlags := 26, slot := 25, constantValue := 0 }, { name := "ASHIFT", type := .int, accessFlags := 26, slot := 26, constantValue := 0 }]
  methods := #[k7m0]
  instanceTypes := #[(.object "java/util/Set"), (.object "java/util/Collection"), (.array (.object "java/util/concurrent/ConcurrentHashMap$Node")), (.array (.object "java/util/concurrent/ConcurrentHashMap$Node")), .long, .int, .int, .int, (.array (.object "java/util/concurrent/ConcurrentHashMap$CounterCell")), (.object "java/util/concurrent/ConcurrentHashMap$KeySetView"), (.object "java/util/concurrent/ConcurrentHashMap$ValuesView"), (.object "java/util/concurrent/ConcurrentHashMap$EntrySetView")]
  staticTypes := #[.long, .int, .int, .int, .int, .float, .int, .int, .int, .int, .int, .int, .int, .int, .int, .int, .int, .int, (.array (.object "java/io/ObjectStreamField")), (.object "jdk/internal/misc/Unsafe"), .long, .long, .long, .long, .long, .int, .int]
  resolved := Array.replicate 1210 none
  statics := none }

def pool8 : Array CpInfo := pool [(1, u "java/lang/Cloneable"), (0, .class_ 1), (0, u "java/lang/Object"), (0, .class_ 3)] 3

/-- java/lang/Cloneable -/
def k8 : Class := { plain "java/lang/Cloneable" (some 0) with
  accessFlags := 1537
  interfaces := #[]
  cf := some (fileOf pool8 2 #[] #[] 1537 4 #[] #[])
  fields := #[]
  methods := #[]
  instanceTypes := #[]
  staticTypes := #[]
  resolved := Array.replicate 8 none
  statics := none }

/-- the primitive byte -/
def k9 : Class := { plain "byte" none with kind := .primitive 'B', accessFlags := 0x411 }
/-- [B -/
def k10 : Class := { plain "[B" (some 0) with kind := .array 9 .byte, interfaces := #[8, 6], accessFlags := 1041 }

/-- the primitive int -/
def k11 : Class := { plain "int" none with kind := .primitive 'I', accessFlags := 0x411 }
/-- [I -/
def k12 : Class := { plain "[I" (some 0) with kind := .array 11 .int, interfaces := #[8, 6], accessFlags := 1041 }

def heap : Heap := #[]
def classes : Array Class := #[k0, k1, k2, k3, k4, k5, k6, k7, k8, k9, k10, k11, k12]
def interned : List (Array UInt16 × Addr) := []
def slotsUsed : Nat := 0
def theMethod : MethodId := ⟨1, 1⟩
def args0 : Array Value := #[.int 5, .int 7]
def aboutOver (below : List Frame) : State where
  vm := { classes := classes, interned := interned.toArray }
  heap := heap
  slotsUsed := slotsUsed
  threads := #[{ frames := .invoking theMethod args0 :: below }]
def below0 : List Frame := [.native { method := ⟨0, 0⟩, args := #[] }]
def about1 : State := aboutOver below0
def p0 : Program := .bare "" "" ""
def e0 : Env := launch0.env 0 0 0
theorem w_frames : about1.frames = Frame.invoking theMethod args0 :: below0 := rfl
set_option maxRecDepth 65536 in
theorem w_args : argsFit about1.vm theMethod args0 = true := by decide +kernel
set_option maxRecDepth 65536 in
theorem w_heap : heapFits about1 = true := by decide +kernel
set_option maxRecDepth 65536 in
theorem w_runnable : about1.curStatus? = some .runnable := by decide +kernel
set_option maxRecDepth 65536 in
theorem w_alone : about1.alone = true := by decide +kernel
set_option maxRecDepth 65536 in
theorem w_named : about1.methodNamed? x = some theMethod := by decide +kernel
set_option maxRecDepth 65536 in
theorem w_hears : about1.hears theMethod below0 = true := by decide +kernel
set_option maxRecDepth 65536 in
theorem w_ripe : about1.ripe theMethod args0 below0 = true := by decide +kernel
theorem w_running : about1.status = .running := rfl
set_option maxRecDepth 65536 in
theorem w_room : about1.hasRoom e0.platform room_1 = true :=
  launch0.hasRoom_least _ room_1 (by decide +kernel) (by decide +kernel) (by decide +kernel) (by decide +kernel) (by decide +kernel) (by decide +kernel)
theorem allAtoms_all (ts : List Jvm.Cond) (a : Array Jvm.Value) (st : Jvm.State) : (allAtoms ts).before a st = ts.all (fun c => c.before a st) := by
  induction ts with
  | nil => rfl
  | cons c t ih =>
    show (Jvm.Cond.and c (allAtoms t)).before a st = _
    rw [Jvm.Cond.before_and, ih, List.all_cons]
def words1 : List Jvm.Cond := Jvm.Cond.code x code maxLocals ret :: tables_1
/-- a 'code' word, met by the world's own term for the bytes: nothing is compared byte by byte -/
theorem code_word {y : MethodName} {bytes : ByteArray} {mx : Nat} {rt : Option FieldType} {a : Array Value} {s : State} {m : MethodId} {meth : Method} {c : Code} (h1 : s.methodNamed? y = some m) (h2 : s.vm.method? m = some meth) (h3 : meth.code = some c) (h4 : c.code = bytes)
    (h5 : (c.maxLocals == mx && c.exceptionTable.isEmpty && decide (c.maxStack ≤ mostOperands) && decide (meth.sig.returnType = rt) && !meth.locks && decide (parseMethodDescriptor y.desc = some meth.sig)) = true) : (Jvm.Cond.code y bytes mx rt).before a s = true := by
  simp only [Bool.and_eq_true, beq_iff_eq, Bool.not_eq_true', decide_eq_true_eq] at h5
  obtain ⟨⟨⟨⟨⟨g1, g2⟩, g3⟩, g4⟩, g5⟩, g6⟩ := h5
  simp [Cond.before, Cond.holds, Cond.value, h1, h2, h3, h4, g1, g2, g3, g4, g5, g6]
def isCode : Jvm.Cond → Bool
  | .code _ _ _ _ => true
  | _ => false
theorem all_split {L : List Jvm.Cond} {P : Jvm.Cond → Bool} (h1 : L.all (fun c => isCode c || P c) = true) (h2 : ∀ c ∈ L.filter isCode, P c = true) : L.all P = true := by
  refine List.all_eq_true.mpr fun c hc => ?_
  have h := List.all_eq_true.mp h1 c hc
  rcases Bool.eq_false_or_eq_true (isCode c) with hi | hi
  · exact h2 c (List.mem_filter.mpr ⟨hc, hi⟩)
  · simpa [hi] using h
set_option maxRecDepth 65536 in
theorem w_c0 : (Jvm.Cond.code x code maxLocals ret).before args0 about1 = true := code_word (m := ⟨1, 1⟩) (meth := k1m1) (c := k1c1) (by decide +kernel) rfl rfl rfl (by decide +kernel)
set_option maxRecDepth 65536 in
theorem w_c1 : (Jvm.Cond.code ({ cls := "com/example/credence/credence/OpenStreams", name := "<init>", desc := "(Z)V" } : Jvm.MethodName) prog_27_method_1_code (2 : Nat) (Option.none : Option Jvm.ClassFile.FieldType)).before args0 about1 = true := code_word (m := ⟨2, 0⟩) (meth := k2m0) (c := k2c0) (by decide +kernel) rfl rfl rfl (by decide +kernel)
set_option maxRecDepth 65536 in
theorem w_c2 : (Jvm.Cond.code ({ cls := "java/lang/Object", name := "<init>", desc := "()V" } : Jvm.MethodName) object_method_1_code (1 : Nat) (Option.none : Option Jvm.ClassFile.FieldType)).before args0 about1 = true := code_word (m := ⟨0, 0⟩) (meth := k0m0) (c := k0c0) (by decide +kernel) rfl rfl rfl (by decide +kernel)
set_option maxRecDepth 65536 in
theorem w_c3 : (Jvm.Cond.code ({ cls := "java/util/concurrent/ConcurrentHashMap", name := "<init>", desc := "()V" } : Jvm.MethodName) jdk_2776_method_8_code (1 : Nat) (Option.none : Option Jvm.ClassFile.FieldType)).before args0 about1 = true := code_word (m := ⟨7, 0⟩) (meth := k7m0) (c := k7c0) (by decide +kernel) rfl rfl rfl (by decide +kernel)
set_option maxRecDepth 65536 in
theorem w_c4 : (Jvm.Cond.code ({ cls := "java/util/AbstractMap", name := "<init>", desc := "()V" } : Jvm.MethodName) jdk_71_method_1_code (1 : Nat) (Option.none : Option Jvm.ClassFile.FieldType)).before args0 about1 = true := code_word (m := ⟨4, 0⟩) (meth := k4m0) (c := k4c0) (by decide +kernel) rfl rfl rfl (by decide +kernel)
set_option maxRecDepth 65536 in
theorem w_c5 : (Jvm.Cond.code ({ cls := "com/example/credence/credence/OpenStreams", name := "isOwn", desc := "(I)Z" } : Jvm.MethodName) prog_27_method_2_code (2 : Nat) (Option.some Jvm.ClassFile.FieldType.boolean)).before args0 about1 = true := code_word (m := ⟨2, 1⟩) (meth := k2m1) (c := k2c1) (by decide +kernel) rfl rfl rfl (by decide +kernel)
def codes1 : List Jvm.Cond := [Jvm.Cond.code x code maxLocals ret, Jvm.Cond.code ({ cls := "com/example/credence/credence/OpenStreams", name := "<init>", desc := "(Z)V" } : Jvm.MethodName) prog_27_method_1_code (2 : Nat) (Option.none : Option Jvm.ClassFile.FieldType), Jvm.Cond.code ({ cls := "java/lang/Object", name := "<init>", desc := "()V" } : Jvm.MethodName) object_method_1_code (1 : Nat) (Option.none : Option Jvm.ClassFile.FieldType), Jvm.Cond.code ({ cls := "java/util/concurrent/ConcurrentHashMap", name := "<init>", desc := "()V" } : Jvm.MethodName) jdk_2776_method_8_code (1 : Nat) (Option.none : Option Jvm.ClassFile.FieldType), Jvm.Cond.code ({ cls := "java/util/AbstractMap", name := "<init>", desc := "()V" } : Jvm.MethodName) jdk_71_method_1_code (1 : Nat) (Option.none : Option Jvm.ClassFile.FieldType), Jvm.Cond.code ({ cls := "com/example/credence/credence/OpenStreams", name := "isOwn", desc := "(I)Z" } : Jvm.MethodName) prog_27_method_2_code (2 : Nat) (Option.some Jvm.ClassFile.FieldType.boolean)]
set_option maxRecDepth 65536 in
theorem codes_eq : words1.filter isCode = codes1 := rfl
theorem w_codes : ∀ c ∈ words1.filter isCode, c.before args0 about1 = true := by
  rw [codes_eq]
  intro c hc
  simp only [codes1, List.mem_cons, List.not_mem_nil, or_false] at hc
  rcases hc with rfl | rfl | rfl | rfl | rfl | rfl
  · exact w_c0
  · exact w_c1
  · exact w_c2
  · exact w_c3
  · exact w_c4
  · exact w_c5
set_option maxRecDepth 65536 in
theorem w_t1 : (words1.take 24).all (fun c => isCode c || c.before args0 about1) = true := by decide +kernel
set_option maxRecDepth 65536 in
theorem w_t2 : (words1.drop 24).all (fun c => isCode c || c.before args0 about1) = true := by decide +kernel
theorem w_tables : (allAtoms (Jvm.Cond.code x code maxLocals ret :: tables_1)).before args0 about1 = true := by
  rw [allAtoms_all]
  show words1.all (fun c => c.before args0 about1) = true
  refine all_split ?_ w_codes
  rw [← List.take_append_drop 24 words1, List.all_append, w_t1, w_t2]
  rfl
set_option maxRecDepth 65536 in
theorem w_case : (Jvm.Cond.and given_1 narrow_1).before args0 about1 = true := by decide +kernel
theorem w_applies : (headSpec (Jvm.Cond.code x code maxLocals ret :: tables_1) room_1).applies x e0.platform about1 = true :=
  (Spec.applies_iff w_frames).mpr ⟨w_running, w_runnable, w_alone, w_named, w_hears, w_ripe, w_room, w_tables⟩
theorem atStart : AtStart classFile x code maxLocals ret World_1 tables_1 room_1 Calls_1 rest_1 Pre_1 launch0 p0 e0 about1 theMethod args0 below0 :=
  ⟨lists_1, trivial, launch0.admits_env _ _ _, launch0.least_env, fairChoices_fair.cas, fairChoices_fair.clock, w_frames, w_args, w_heap, w_applies, trivial, trivial, w_case⟩
end start1
theorem witness_1 : WitnessClaimed_1 := ⟨start1.p0, start1.e0, start1.about1, start1.theMethod, start1.args0, start1.below0, start1.atStart⟩
end Jvm.Pilot.@@N@@
