import JvmDerived
import JvmDerived.Pilot.@@N@@Statement
import JvmDerived.Pilot.@@N@@Code
set_option linter.unusedVariables false
set_option linter.unusedSimpArgs false
namespace Jvm.Pilot.@@N@@
open Jvm Jvm.ClassFile Sem Op Lib Jvm.Free Jvm.Stand Jvm.LawKit Jvm.RoadKit Bundle Jvm.Pilot.@@N@@.Jvm.D
section OwnKit
variable {p : Program} {l : Launch} {e : Env} {R : Room} {s : State} {m : MethodId} {args : Array Value} {below : List Frame} {meth : Method} {c : Code} {T : State} {locs : List Loc} {cells slots : Nat} {Z : State} {a0 : Array Value} {h h' : Heap}
/-- the run from t on comes to the method's end, and there Fin holds -/
def own_Run (p : Program) (e : Env) (below : List Frame) (Fin : Outcome → State → Prop) (t : State) : Prop :=
  ∃ s₂ o, Steps p.tables e below t s₂ ∧ s₂.status = .running ∧ Ended s₂ below o ∧ Fin o s₂
variable {Fin : Outcome → State → Prop}
theorem own_go {t t' : State} (st : ∀ target, Steps p.tables e below t' target → Steps p.tables e below t target) (k : own_Run p e below Fin t') : own_Run p e below Fin t := by
  obtain ⟨s₂, o, h1, h2⟩ := k
  exact ⟨s₂, o, st _ h1, h2⟩
def own_End (s : State) (R : Room) (Q : Option Value → Heap → List Loc → Prop) (o : Outcome) (U : State) : Prop :=
  ∃ v L, o = .returned v ∧ Q v U.heap L ∧ FrameEnd s o U L R.cells R.slots
/-- a body's contract: called with these arguments over the heap h0 it returns, and Q says what is left -/
def own_Met (l : Launch) (Z : State) (y : MethodName) (bytes : ByteArray) (maxL : Nat) (ret : Option FieldType) (rm : Room) (as : Array Value) (h0 : Heap) (Q : Option Value → Heap → List Loc → Prop) : Prop :=
  ∀ ws : List Jvm.Cond, MetFree l y (head1 (Jvm.Cond.code y bytes maxL ret :: ws) rm) (fun a U => a = as ∧ Z.Warmed39 U.vm ∧ U.heap = h0) (fun _ _ _ _ _ => True) (fun _ U o U' => own_End U rm Q o U')
theorem own_enter {y : MethodName} {bytes : ByteArray} {maxL : Nat} {ret : Option FieldType} {rm : Room} {as : Array Value} {h0 : Heap} {Q : Option Value → Heap → List Loc → Prop} {g0 : MethodId → JFrame} (hpl : plainFor y = true) (hg0 : ∀ m, entryFrame m as maxL = g0 m)
    (body : ∀ (p : Program) (e : Env) (s : State) (m : MethodId) (below : List Frame) (meth : Method) (c : Code) (T : State), p.tables.exec = Jvm.exec → c.code = bytes → c.maxLocals = maxL → s.vm.findClass y.cls = some m.cls → meth.name = y.name → Z.Warmed39 s.vm → meth.sig.returnType = ret → meth.locks = false →
      Stand p l e rm s m as below meth c T [] 0 0 → T.heap = h0 → own_Run p e below (own_End s rm Q) (T.setTop (g0 m))) : own_Met l Z y bytes maxL ret rm as h0 Q := by
  intro ws
  refine MetFree.of_bodySF hpl hisR ?_
  intro p e s m args below meth c s₁ Bd hml0 hP hK
  obtain ⟨rfl, hZ, hh⟩ := hP
  rw [hg0]
  exact body p e s m below meth c s₁ Bd.exec Bd.bytes hml0 (findClass_of_methodNamed Bd.named) (name_of_methodNamed Bd.named Bd.method).1 hZ Bd.returns Bd.notSynchronized (Stand.of_body Bd) (by rw [← hh, Bd.state]; rfl)
theorem own_ret (X : Stand p l e R s m args below meth c T locs cells slots) {g : JFrame} {v : Option Value} {Q : Option Value → Heap → List Loc → Prop} (hv : meth.sig.returnType = none → v = none) (hlk : meth.locks = false) (hc : cells ≤ R.cells) (hs : slots ≤ R.slots)
    (st : ∀ fs, (∀ (f : JFrame) (acts : List Action), f.method = m → f.locked = none → f.entered = [] → (doReturn e (T.setTop f) acts v).1 = T.setFrames fs) → Steps p.tables e below (T.setTop g) (T.setFrames fs)) (hq : Q v T.heap locs) : own_Run p e below (own_End s R Q) (T.setTop g) := by
  obtain ⟨fs, hr, hrun, hended, hW, hsame⟩ := X.leave (v := v) hv hlk
  exact ⟨_, _, st fs hr, hrun, hended, _, _, rfl, hq, ⟨_, rfl⟩, hW, hsame.mono hc hs⟩
theorem own_retN (X : Stand p l e R s m args below meth c T locs cells slots) (hx : p.tables.exec = Jvm.exec) {t : FieldType} (hret : meth.sig.returnType = some t) (hlk : meth.locks = false) (ht : t = .boolean ∨ t = .byte ∨ t = .char ∨ t = .short) {pc : Nat} {Ls : Array Slot} {z : Int32} {rest : List Value} (hd : decode c.code pc = .ok (.ireturn, 1)) {Q : Option Value → Heap → List Loc → Prop} (hc : cells ≤ R.cells) (hs : slots ≤ R.slots)
    (hq : Q (some (.int (nar t z))) T.heap locs) : own_Run p e below (own_End s R Q) (T.setTop (mkF m pc Ls (.int z :: rest))) :=
  own_ret X (fun q => by rw [hret] at q; cases q) hlk hc hs (fun fs hr => retN X hx hret ht hd hr) hq
theorem own_retI (X : Stand p l e R s m args below meth c T locs cells slots) (hx : p.tables.exec = Jvm.exec) (hret : meth.sig.returnType = some .int) (hlk : meth.locks = false) {pc : Nat} {Ls : Array Slot} {z : Int32} {rest : List Value} (hd : decode c.code pc = .ok (.ireturn, 1)) {Q : Option Value → Heap → List Loc → Prop} (hc : cells ≤ R.cells) (hs : slots ≤ R.slots)
    (hq : Q (some (.int z)) T.heap locs) : own_Run p e below (own_End s R Q) (T.setTop (mkF m pc Ls (.int z :: rest))) :=
  own_ret X (fun q => by rw [hret] at q; cases q) hlk hc hs (fun fs hr => retOut X hx hret rfl (Or.inl ⟨rfl, Or.inl rfl, z, rfl⟩) hd hr) hq
theorem own_retJ (X : Stand p l e R s m args below meth c T locs cells slots) (hx : p.tables.exec = Jvm.exec) (hret : meth.sig.returnType = some .long) (hlk : meth.locks = false) {pc : Nat} {Ls : Array Slot} {z : Int64} {rest : List Value} (hd : decode c.code pc = .ok (.lreturn, 1)) {Q : Option Value → Heap → List Loc → Prop} (hc : cells ≤ R.cells) (hs : slots ≤ R.slots)
    (hq : Q (some (.long z)) T.heap locs) : own_Run p e below (own_End s R Q) (T.setTop (mkF m pc Ls (.long z :: rest))) :=
  own_ret X (fun q => by rw [hret] at q; cases q) hlk hc hs (fun fs hr => retOut X hx hret rfl (Or.inr (Or.inl ⟨rfl, rfl, z, rfl⟩)) hd hr) hq
theorem own_retA (X : Stand p l e R s m args below meth c T locs cells slots) (hx : p.tables.exec = Jvm.exec) {t : FieldType} (hret : meth.sig.returnType = some t) (hlk : meth.locks = false) (ht : t.isReference = true) {pc : Nat} {Ls : Array Slot} {w : Value} (hw : w.isRef = true) {rest : List Value} (hn : narrow t w = w) (hd : decode c.code pc = .ok (.areturn, 1)) {Q : Option Value → Heap → List Loc → Prop} (hc : cells ≤ R.cells) (hs : slots ≤ R.slots)
    (hq : Q (some w) T.heap locs) : own_Run p e below (own_End s R Q) (T.setTop (mkF m pc Ls (w :: rest))) :=
  own_ret X (fun q => by rw [hret] at q; cases q) hlk hc hs (fun fs hr => retOut X hx hret hn (Or.inr (Or.inr (Or.inr (Or.inr ⟨rfl, ht, hw⟩)))) hd hr) hq
theorem own_retV (X : Stand p l e R s m args below meth c T locs cells slots) (hx : p.tables.exec = Jvm.exec) (hret : meth.sig.returnType = none) (hlk : meth.locks = false) {pc : Nat} {Ls : Array Slot} (hd : decode c.code pc = .ok (.return_, 1)) {Q : Option Value → Heap → List Loc → Prop} (hc : cells ≤ R.cells) (hs : slots ≤ R.slots)
    (hq : Q none T.heap locs) : own_Run p e below (own_End s R Q) (T.setTop (mkF m pc Ls [])) :=
  own_ret X (fun _ => rfl) hlk hc hs (fun fs hr => X.returnOut hx hret hd hr) hq
/-! calls -/
theorem own_callS (X : Stand p l e R s m args below meth c T locs cells slots) (hx : p.tables.exec = Jvm.exec) (hZ : Z.Warmed39 s.vm) (eT : T.heap = h) {own : String} (hown : s.vm.findClass own = some m.cls) {index : Nat} (y : MethodName) {bytes : ByteArray} {maxL : Nat} {ret : Option FieldType} {rm : Room} {Q : Option Value → Heap → List Loc → Prop}
    (w1 : (Jvm.Cond.methodLink own index y).before a0 Z = true) (w2 : (Jvm.Cond.static y).before a0 Z = true) (w3 : (Jvm.Cond.initialized y.cls).before a0 Z = true) (w4 : (Jvm.Cond.code y bytes maxL ret).before a0 Z = true) (hy : y.cls ≠ "java/lang/invoke/MethodHandle" ∧ y.cls ≠ "java/lang/invoke/VarHandle")
    (argsL rest : List Value) (hM : own_Met l Z y bytes maxL ret rm argsL.toArray h Q) (hf : rm.frames + 1 ≤ R.frames) (W : Nat) (hl : W + (maxL + 11) + rm.locals ≤ R.locals) (hc : cells + rm.cells ≤ R.cells) (hs : slots + rm.slots ≤ R.slots)
    {g : JFrame} (hg : g.method = m) (hsize : g.locals.size = c.maxLocals) (hlen : ∀ sig, parseMethodDescriptor y.desc = some sig → argsL.length = sig.parameters.length) (hstack : g.stack = argsL.reverse ++ rest) (hW : 2 * g.monitorRoom + (rest.map fun v => v.category).sum ≤ W) (hd : decode c.code g.pc = .ok (.invokestatic index, 3))
    (k : ∀ (v : Option Value) (h' : Heap) (L : List Loc) (T' : State), Q v h' L → Stand p l e R s m args below meth c T' (locs ++ L) (cells + rm.cells) (slots + rm.slots) → T'.heap = h' → own_Run p e below Fin (T'.setTop { g with pc := g.pc + 3, stack := v.toList ++ rest })) : own_Run p e below Fin (T.setTop g) := by
  obtain ⟨v, _, ⟨T', L', k', n'⟩, -, X', ⟨Lc, hQ, l1, y1, z1⟩, st⟩ := Jvm.LawKit.callS X hx (y := y) hown (mvT hZ w1) (mvT hZ w2) (mvT hZ w3) (mvT hZ w4) hy (backOf (W := W) (hM []) hZ w4 w3 hf hl) hg hsize (argsL := argsL) (rest := rest) hlen hstack hW hd (fun _ _ => ⟨rfl, eT, hc, hs⟩)
  dsimp only [Pt.U, Pt.locs, Pt.cells, Pt.slots] at X' l1 y1 z1 st hQ
  subst l1 y1 z1
  exact own_go st (k v T'.heap Lc T' hQ X' rfl)
theorem own_callN (X : Stand p l e R s m args below meth c T locs cells slots) (hx : p.tables.exec = Jvm.exec) (hZ : Z.Warmed39 s.vm) (eT : T.heap = h) {own : String} (hown : s.vm.findClass own = some m.cls) {index : Nat} (y : MethodName) (hy1 : y.name = "<init>") {bytes : ByteArray} {maxL : Nat} {rm : Room} {Q : Option Value → Heap → List Loc → Prop}
    (w1 : (Jvm.Cond.methodLink own index y).before a0 Z = true) (w2 : (Jvm.Cond.instanceMethod y).before a0 Z = true) (w3 : (Jvm.Cond.initialized y.cls).before a0 Z = true) (w4 : (Jvm.Cond.code y bytes maxL none).before a0 Z = true) (hy : y.cls ≠ "java/lang/invoke/MethodHandle" ∧ y.cls ≠ "java/lang/invoke/VarHandle")
    (a : Addr) (argsL rest : List Value) (hM : own_Met l Z y bytes maxL none rm (.ref a :: argsL).toArray h Q) (hf : rm.frames + 1 ≤ R.frames) (W : Nat) (hl : W + (maxL + 11) + rm.locals ≤ R.locals) (hc : cells + rm.cells ≤ R.cells) (hs : slots + rm.slots ≤ R.slots)
    {g : JFrame} (hg : g.method = m) (hsize : g.locals.size = c.maxLocals) (hlen : ∀ sig, parseMethodDescriptor y.desc = some sig → argsL.length = sig.parameters.length) (hstack : g.stack = argsL.reverse ++ .ref a :: rest) (hW : 2 * g.monitorRoom + (rest.map fun v => v.category).sum ≤ W) (hd : decode c.code g.pc = .ok (.invokespecial index, 3))
    (k : ∀ (v : Option Value) (h' : Heap) (L : List Loc) (T' : State), Q v h' L → Stand p l e R s m args below meth c T' (locs ++ L) (cells + rm.cells) (slots + rm.slots) → T'.heap = h' → own_Run p e below Fin (T'.setTop { g with pc := g.pc + 3, stack := v.toList ++ rest })) : own_Run p e below Fin (T.setTop g) := by
  obtain ⟨v, _, ⟨T', L', k', n'⟩, -, X', ⟨Lc, hQ, l1, y1, z1⟩, st⟩ := X.specialBack hx (y := y) hy1 hown (mvT hZ w1) (mvT hZ w2) (mvT hZ w4) hy (backOf (W := W) (hM []) hZ w4 w3 hf hl) hg hsize (Steps.refl _) (a := a) (argsL := argsL) (rest := rest) hlen hstack hW hd (fun _ _ => ⟨rfl, eT, hc, hs⟩)
  dsimp only [Pt.U, Pt.locs, Pt.cells, Pt.slots] at X' l1 y1 z1 st hQ
  subst l1 y1 z1
  exact own_go (fun _ q => st.trans q) (k v T'.heap Lc T' hQ X' rfl)
theorem own_callV (X : Stand p l e R s m args below meth c T locs cells slots) (hx : p.tables.exec = Jvm.exec) (hZ : Z.Warmed39 s.vm) (eT : T.heap = h) {own : String} (hown : s.vm.findClass own = some m.cls) {index : Nat} (y : MethodName) {C : String} {bytes : ByteArray} {maxL : Nat} {ret : Option FieldType} {rm : Room} {Q : Option Value → Heap → List Loc → Prop}
    (w1 : (Jvm.Cond.methodLink own index y).before a0 Z = true) (w5 : (Jvm.Cond.declares y).before a0 Z = true) (w6 : (Jvm.Cond.selects C y y).before a0 Z = true) (w2 : (Jvm.Cond.instanceMethod y).before a0 Z = true) (w3 : (Jvm.Cond.initialized y.cls).before a0 Z = true) (w4 : (Jvm.Cond.code y bytes maxL ret).before a0 Z = true) (hy : y.cls ≠ "java/lang/invoke/MethodHandle" ∧ y.cls ≠ "java/lang/invoke/VarHandle")
    (a : Addr) (E : Exa Z h a C) (argsL rest : List Value) (hM : own_Met l Z y bytes maxL ret rm (.ref a :: argsL).toArray h Q) (hf : rm.frames + 1 ≤ R.frames) (W : Nat) (hl : W + (maxL + 11) + rm.locals ≤ R.locals) (hc : cells + rm.cells ≤ R.cells) (hs : slots + rm.slots ≤ R.slots)
    {g : JFrame} (hg : g.method = m) (hsize : g.locals.size = c.maxLocals) (hlen : ∀ sig, parseMethodDescriptor y.desc = some sig → argsL.length = sig.parameters.length) (hstack : g.stack = argsL.reverse ++ .ref a :: rest) (hW : 2 * g.monitorRoom + (rest.map fun v => v.category).sum ≤ W) (hd : decode c.code g.pc = .ok (.invokevirtual index, 3))
    (k : ∀ (v : Option Value) (h' : Heap) (L : List Loc) (T' : State), Q v h' L → Stand p l e R s m args below meth c T' (locs ++ L) (cells + rm.cells) (slots + rm.slots) → T'.heap = h' → own_Run p e below Fin (T'.setTop { g with pc := g.pc + 3, stack := v.toList ++ rest })) : own_Run p e below Fin (T.setTop g) := by
  obtain ⟨cq, kq, qa, qb, qc⟩ := isOf hZ eT E
  obtain ⟨v, _, ⟨T', L', k', n'⟩, -, X', ⟨Lc, hQ, l1, y1, z1⟩, st⟩ := X.virtualBack hx (y := y) (z := y) hown (mvT hZ w1) (mvT hZ w5) (notFace_of_selects (args := #[]) (mvT hZ w6)) (mvT hZ w6) (mvT hZ w2) hy (backOf (W := W) (hM []) hZ w4 w3 hf hl) qa qc hg hsize (Steps.refl _) (argsL := argsL) (rest := rest) hlen hstack hW hd (fun _ _ => ⟨rfl, eT, hc, hs⟩)
  dsimp only [Pt.U, Pt.locs, Pt.cells, Pt.slots] at X' l1 y1 z1 st hQ
  subst l1 y1 z1
  exact own_go (fun _ q => st.trans q) (k v T'.heap Lc T' hQ X' rfl)
/-! fields -/
theorem own_getF (X : Stand p l e R s m args below meth c T locs cells slots) (hx : p.tables.exec = Jvm.exec) (hZ : Z.Warmed39 s.vm) (eT : T.heap = h) {own O n d : String} (hown : s.vm.findClass own = some m.cls) {index : Nat} (w : (Jvm.Cond.fieldLink own index O n d).before a0 Z = true)
    {a : Addr} {v : Value} (F : Fld Z h a O n d v) {g : JFrame} (hg : g.method = m) {rest : List Value} (hs : g.stack = .ref a :: rest) (hd : decode c.code g.pc = .ok (.getfield index, 3))
    (k : ∀ T' : State, Stand p l e R s m args below meth c T' locs cells slots → T'.heap = h → own_Run p e below Fin (T'.setTop { g with pc := g.pc + 3, stack := v :: rest })) : own_Run p e below Fin (T.setTop g) := by
  obtain ⟨T', X', e', st⟩ := getF X hx hZ hown (host := "") (Or.inl w) Via.refl eT F hg hs hd
  exact own_go st (k T' X' e')
theorem own_putF (X : Stand p l e R s m args below meth c T locs cells slots) (hx : p.tables.exec = Jvm.exec) (hZ : Z.Warmed39 s.vm) (eT : T.heap = h) {own O n d C : String} (hown : s.vm.findClass own = some m.cls) {index kk : Nat} (ty : FieldType) (w : (Jvm.Cond.fieldLink own index O n d).before a0 Z = true)
    {a : Addr} {v v' old : Value} (F : Fld Z h a O n d old) (E : Exa Z h a C) (L : (Jvm.Cond.lays C O n d).before a0 Z = true ∨ ((Jvm.Cond.laysFinal C O n d).before a0 Z = true ∧ own = O ∧ meth.name = "<init>")) (wi : (Jvm.Cond.instantiable C kk).before a0 Z = true)
    (hty : parseFieldDescriptor d = some ty) (hn : narrow ty v = v') (hf : fits ty v' = true) {g : JFrame} (hg : g.method = m) {rest : List Value} (hs : g.stack = v :: .ref a :: rest) (hd : decode c.code g.pc = .ok (.putfield index, 3))
    (k : ∀ (T' : State) (h' : Heap), Stand p l e R s m args below meth c T' (locs ++ [⟨a, Jvm.RoadKit.slotOf Z O n d⟩]) cells slots → T'.heap = h' → Wr h h' a (Jvm.RoadKit.slotOf Z O n d) v' → own_Run p e below Fin (T'.setTop { g with pc := g.pc + 3, stack := rest })) : own_Run p e below Fin (T.setTop g) := by
  obtain ⟨T', h', X', e', W, st⟩ := putFN X hx hZ hown w Via.refl eT F E L wi hty hn hf hg hs hd
  exact own_go st (k T' h' X' e' W)
/-! fresh objects -/
theorem own_newO (X : Stand p l e R s m args below meth c T locs cells slots) (hx : p.tables.exec = Jvm.exec) (hZ : Z.Warmed39 s.vm) (eT : T.heap = h) {own C : String} {index n : Nat} (hown : s.vm.findClass own = some m.cls) (w : (Jvm.Cond.classLink own index C).before a0 Z = true) (wi : (Jvm.Cond.instantiable C n).before a0 Z = true) (wz : (Jvm.Cond.initialized C).before a0 Z = true)
    {g : JFrame} (hg : g.method = m) (hd : decode c.code g.pc = .ok (.new index, 3)) (hc : cells + 1 ≤ R.cells) (hl : slots + n ≤ R.slots)
    (k : ∀ (b : Addr) (T' : State) (h' : Heap), b = h.size → Stand p l e R s m args below meth c T' locs (cells + 1) (slots + n) → T'.heap = h' → Ext h h' → Exa Z h' b C → (∀ {O nm d : String} {ty : FieldType}, Laid Z a0 C O nm d → parseFieldDescriptor d = some ty → Fld Z h' b O nm d (defaultValue ty)) →
      own_Run p e below Fin (T'.setTop { g with pc := g.pc + 3, stack := .ref b :: g.stack })) : own_Run p e below Fin (T.setTop g) := by
  obtain ⟨T', h', X', e', E, A, D, -, st⟩ := newO X hx hZ hown w wi wz eT hg hd hc hl
  exact own_go st (k h.size T' h' rfl X' e' E A D)
/-! arrays: n places, place k holds f k -/
def own_Arr (Z : State) (h : Heap) (a : Addr) (ty : FieldType) (n : Nat) (f : Nat → Value) : Prop := ∃ cl : Cell, Arr Z h a cl ty ∧ cl.slots.size = n ∧ ∀ k, k < n → cl.slots[k]? = some (f k)
theorem own_Arr.lt {a : Addr} {ty : FieldType} {n : Nat} {f : Nat → Value} (F : own_Arr Z h a ty n f) : a < h.size := by obtain ⟨c, A, -⟩ := F; exact A.lt
theorem own_Arr.ext {a : Addr} {ty : FieldType} {n : Nat} {f : Nat → Value} (F : own_Arr Z h a ty n f) (E : Ext h h') : own_Arr Z h' a ty n f := by obtain ⟨c, A, r⟩ := F; exact ⟨c, A.ext E, r⟩
theorem own_Arr.other {a b : Addr} {sl : Nat} {v : Value} {ty : FieldType} {n : Nat} {f : Nat → Value} (F : own_Arr Z h b ty n f) (W : Wr h h' a sl v) (q : b ≠ a) : own_Arr Z h' b ty n f := by obtain ⟨c, A, r⟩ := F; exact ⟨c, A.other W q, r⟩
theorem own_Arr.keep {a : Addr} {ws : List Addr} {ty : FieldType} {n : Nat} {f : Nat → Value} (F : own_Arr Z h a ty n f) (K : Keep h h' ws) (q : a ∉ ws) : own_Arr Z h' a ty n f := by obtain ⟨c, A, r⟩ := F; exact ⟨c, ⟨K.2.1 a c A.1 q, A.2⟩, r⟩
theorem own_Arr.set {a : Addr} {j : Nat} {v : Value} {ty : FieldType} {n : Nat} {f : Nat → Value} (F : own_Arr Z h a ty n f) (W : Wr h h' a j v) (hj : j < n) : own_Arr Z h' a ty n (fun k => if k = j then v else f k) := by
  obtain ⟨cl, A, r1, r2⟩ := F
  refine ⟨_, A.same W, by rw [sz_set]; exact r1, fun k hk => ?_⟩
  by_cases q : k = j
  · subst q; simp [Cell.setSlot, r1, hj]
  · show (cl.setSlot j v).slots[k]? = some (if k = j then v else f k)
    rw [if_neg q]; exact (Array.getElem?_setIfInBounds_ne (Ne.symm q)).trans (r2 k hk)
theorem own_Arr.congr {a : Addr} {ty : FieldType} {n : Nat} {f f' : Nat → Value} (F : own_Arr Z h a ty n f) (q : ∀ k, k < n → f k = f' k) : own_Arr Z h a ty n f' := by
  obtain ⟨cl, A, r1, r2⟩ := F
  exact ⟨cl, A, r1, fun k hk => by rw [← q k hk]; exact r2 k hk⟩
theorem own_in {cl : Cell} {n : Nat} {j : Int32} (r : cl.slots.size = n) (hj : 0 ≤ j.toInt ∧ j.toInt < n) : ¬ (j < 0 ∨ cl.slots.size ≤ j.toNatClampNeg) := by
  have e0 : (0 : Int32).toInt = 0 := rfl
  simp only [Int32.lt_iff_toInt_lt, Int32.toNatClampNeg, r, e0]; omega
theorem own_idx {n : Nat} {j : Int32} (hj : 0 ≤ j.toInt ∧ j.toInt < n) : j.toNatClampNeg < n := by
  simp only [Int32.toNatClampNeg]; omega
theorem own_newP (X : Stand p l e R s m args below meth c T locs cells slots) (hx : p.tables.exec = Jvm.exec) (hZ : Z.Warmed39 s.vm) (eT : T.heap = h) {aty : ArrayType} (w : (Jvm.Cond.arrayClass (newarray.typeOf aty)).before a0 Z = true) {g : JFrame} (hg : g.method = m) (hd : decode c.code g.pc = .ok (.newarray aty, 2)) {z : Int32} {rest : List Value} (hs : g.stack = .int z :: rest)
    (n cap : Nat) (hn : z.toInt = n) (hcap : n ≤ cap) (hb : cap * 8 ≤ 536870912) (hc : cells + 1 ≤ R.cells) (hl : slots + cap ≤ R.slots) (ad : String) (had : "[" ++ (newarray.typeOf aty).toString = ad)
    (k : ∀ (b : Addr) (T' : State) (h' : Heap), b = h.size → Stand p l e R s m args below meth c T' locs (cells + 1) (slots + cap) → T'.heap = h' → Ext h h' → own_Arr Z h' b (newarray.typeOf aty) n (fun _ => defaultValue (newarray.typeOf aty)) → Exa Z h' b ad →
      own_Run p e below Fin (T'.setTop { g with pc := g.pc + 2, stack := .ref b :: rest })) : own_Run p e below Fin (T.setTop g) := by
  have hz : z.toNatClampNeg = n := by simp only [Int32.toNatClampNeg]; omega
  have e0 : (0 : Int32).toInt = 0 := rfl
  have hz0 : ¬ z < 0 := by rw [Int32.lt_iff_toInt_lt, e0]; omega
  obtain ⟨T', h', cA, X', e', E, A, Ex, st⟩ := newPE X hx hZ w eT hg hd hs (n := z) hz0 (cap := cap) (by omega) hb hc hl had
  exact own_go st (k h.size T' h' rfl X' e' E ⟨_, A, by rw [sz_new]; exact hz, fun i hi => by simp [newA, hz, hi]⟩ Ex)
theorem own_iastore (X : Stand p l e R s m args below meth c T locs cells slots) (hx : p.tables.exec = Jvm.exec) (hZ : Z.Warmed39 s.vm) (eT : T.heap = h) {a : Addr} {n : Nat} {f : Nat → Value} (A : own_Arr Z h a .int n f) {j x : Int32} (hj : 0 ≤ j.toInt ∧ j.toInt < n) {g : JFrame} (hg : g.method = m) {rest : List Value} (hs : g.stack = .int x :: .int j :: .ref a :: rest) (hd : decode c.code g.pc = .ok (.iastore, 1))
    (k : ∀ (T' : State) (h' : Heap), Stand p l e R s m args below meth c T' (locs ++ [⟨a, j.toNatClampNeg⟩]) cells slots → T'.heap = h' → Wr h h' a j.toNatClampNeg (.int x) → own_Arr Z h' a .int n (fun i => if i = j.toNatClampNeg then .int x else f i) → own_Run p e below Fin (T'.setTop { g with pc := g.pc + 1, stack := rest })) : own_Run p e below Fin (T.setTop g) := by
  obtain ⟨cl, A1, r1, r2⟩ := A
  obtain ⟨T', h', X', e', W, st⟩ := stI X hx hZ eT A1 (own_in r1 hj) hg hs hd
  exact own_go st (k T' h' X' e' W (own_Arr.set ⟨cl, A1, r1, r2⟩ W (own_idx hj)))
theorem own_bastore (X : Stand p l e R s m args below meth c T locs cells slots) (hx : p.tables.exec = Jvm.exec) (hZ : Z.Warmed39 s.vm) (eT : T.heap = h) {a : Addr} {n : Nat} {f : Nat → Value} (A : own_Arr Z h a .byte n f) {j x : Int32} (hj : 0 ≤ j.toInt ∧ j.toInt < n) {g : JFrame} (hg : g.method = m) {rest : List Value} (hs : g.stack = .int x :: .int j :: .ref a :: rest) (hd : decode c.code g.pc = .ok (.bastore, 1))
    (k : ∀ (T' : State) (h' : Heap), Stand p l e R s m args below meth c T' (locs ++ [⟨a, j.toNatClampNeg⟩]) cells slots → T'.heap = h' → Wr h h' a j.toNatClampNeg (.int (nar .byte x)) → own_Arr Z h' a .byte n (fun i => if i = j.toNatClampNeg then .int (nar .byte x) else f i) → own_Run p e below Fin (T'.setTop { g with pc := g.pc + 1, stack := rest })) : own_Run p e below Fin (T.setTop g) := by
  obtain ⟨cl, A1, r1, r2⟩ := A
  obtain ⟨T', h', X', e', W, st⟩ := stB X hx hZ eT A1 (own_in r1 hj) hg hs hd
  exact own_go st (k T' h' X' e' W (own_Arr.set ⟨cl, A1, r1, r2⟩ W (own_idx hj)))
theorem own_iaload (X : Stand p l e R s m args below meth c T locs cells slots) (hx : p.tables.exec = Jvm.exec) (hZ : Z.Warmed39 s.vm) (eT : T.heap = h) {a : Addr} {n : Nat} {f : Nat → Value} (A : own_Arr Z h a .int n f) {j : Int32} (v : Int32) (hj : 0 ≤ j.toInt ∧ j.toInt < n) (hv : f j.toNatClampNeg = .int v) {g : JFrame} (hg : g.method = m) {rest : List Value} (hs : g.stack = .int j :: .ref a :: rest) (hd : decode c.code g.pc = .ok (.iaload, 1))
    (k : own_Run p e below Fin (T.setTop { g with pc := g.pc + 1, stack := .int v :: rest })) : own_Run p e below Fin (T.setTop g) := by
  obtain ⟨cl, A1, r1, r2⟩ := A
  exact own_go (X.iaload hx (by rw [eT]; exact A1.1) (State.isArrayOf_alike hZ.alike A1.2.1) A1.2.2 (own_in r1 hj) ((r2 _ (own_idx hj)).trans (by rw [hv])) hg hs hd) k
theorem own_baload (X : Stand p l e R s m args below meth c T locs cells slots) (hx : p.tables.exec = Jvm.exec) (hZ : Z.Warmed39 s.vm) (eT : T.heap = h) {a : Addr} {n : Nat} {f : Nat → Value} (A : own_Arr Z h a .byte n f) {j : Int32} (v : Int32) (hj : 0 ≤ j.toInt ∧ j.toInt < n) (hv : f j.toNatClampNeg = .int v) {g : JFrame} (hg : g.method = m) {rest : List Value} (hs : g.stack = .int j :: .ref a :: rest) (hd : decode c.code g.pc = .ok (.baload, 1))
    (k : own_Run p e below Fin (T.setTop { g with pc := g.pc + 1, stack := .int v :: rest })) : own_Run p e below Fin (T.setTop g) := by
  obtain ⟨cl, A1, r1, r2⟩ := A
  exact own_go (X.baloadBytes hx (by rw [eT]; exact A1.1) (State.isArrayOf_alike hZ.alike A1.2.1) A1.2.2 (own_in r1 hj) ((r2 _ (own_idx hj)).trans (by rw [hv])) hg hs hd) k
theorem own_alen (X : Stand p l e R s m args below meth c T locs cells slots) (hx : p.tables.exec = Jvm.exec) (hZ : Z.Warmed39 s.vm) (eT : T.heap = h) {a : Addr} {ty : FieldType} {n : Nat} {f : Nat → Value} (A : own_Arr Z h a ty n f) (z : Int32) (hz : z.toInt = n) {g : JFrame} (hg : g.method = m) {rest : List Value} (hs : g.stack = .ref a :: rest) (hd : decode c.code g.pc = .ok (.arraylength, 1))
    (k : own_Run p e below Fin (T.setTop { g with pc := g.pc + 1, stack := .int z :: rest })) : own_Run p e below Fin (T.setTop g) := by
  obtain ⟨cl, A1, r1, r2⟩ := A
  have e0 : (0 : Int32).toInt = 0 := rfl
  have hz0 : ¬ z < 0 := by rw [Int32.lt_iff_toInt_lt, e0]; omega
  have q : cl.slots.size.toInt32 = z := len_of (by rw [r1]; simp only [Int32.toNatClampNeg]; omega) hz0
  exact own_go (X.arraylength hx (by rw [eT]; exact A1.1) (State.isArrayOf_alike hZ.alike A1.2.1) hg hs hd) (by rw [q]; exact k)
theorem own_clone (X : Stand p l e R s m args below meth c T locs cells slots) (hx : p.tables.exec = Jvm.exec) (hZ : Z.Warmed39 s.vm) (eT : T.heap = h) {own ad : String} {index : Nat} (hown : s.vm.findClass own = some m.cls)
    (w1 : (Jvm.Cond.methodLink own index ⟨ad, "clone", "()Ljava/lang/Object;"⟩).before a0 Z = true) (w2 : (Jvm.Cond.sameMethod ad "java/lang/Object" "clone" "()Ljava/lang/Object;").before a0 Z = true) (w3 : (Jvm.Cond.native ⟨"java/lang/Object", "clone", "()Ljava/lang/Object;"⟩).before a0 Z = true)
    (w4 : (Jvm.Cond.instanceMethod ⟨"java/lang/Object", "clone", "()Ljava/lang/Object;"⟩).before a0 Z = true) (w5 : (Jvm.Cond.selects ad ⟨ad, "clone", "()Ljava/lang/Object;"⟩ ⟨"java/lang/Object", "clone", "()Ljava/lang/Object;"⟩).before a0 Z = true) (w6 : (Jvm.Cond.castable ad "java/lang/Cloneable").before a0 Z = true)
    {a : Addr} {ty : FieldType} {n : Nat} {f : Nat → Value} (A : own_Arr Z h a ty n f) (E : Exa Z h a ad) (hfit : ∀ i, i < n → fits ty (f i) = true) {g : JFrame} (hg : g.method = m) (hsize : g.locals.size = c.maxLocals) {rest : List Value} (hs : g.stack = .ref a :: rest) (hd : decode c.code g.pc = .ok (.invokevirtual index, 3))
    (hf : 1 ≤ R.frames) (W cap : Nat) (hW : 2 * g.monitorRoom + (rest.map fun v => v.category).sum ≤ W) (hl : W + 14 ≤ R.locals) (hcap : n ≤ cap) (hc : cells + 1 ≤ R.cells) (hsl : slots + cap ≤ R.slots)
    (k : ∀ (b : Addr) (T' : State) (h' : Heap), b = h.size → Stand p l e R s m args below meth c T' locs (cells + 1) (slots + cap) → T'.heap = h' → Ext h h' → own_Arr Z h' b ty n f → Exa Z h' b ad → own_Run p e below Fin (T'.setTop { g with pc := g.pc + 3, stack := .ref b :: rest })) : own_Run p e below Fin (T.setTop g) := by
  obtain ⟨cl, A1, r1, r2⟩ := A
  have FC : FitC Z cl := fitC_of A1 fun i hi v hv => by
    rw [r2 i (by omega)] at hv; cases hv; exact hfit i (by omega)
  obtain ⟨T', h', X', e', ex, A', E', st⟩ := cloneA X hx hZ hown w1 w2 w3 w4 w5 w6 eT A1 E FC hg hsize hs hd hf hW hl (by omega) hc hsl
  exact own_go st (k h.size T' h' rfl X' e' ex ⟨cloneOf cl, A', r1, r2⟩ E')
theorem own_cast (X : Stand p l e R s m args below meth c T locs cells slots) (hx : p.tables.exec = Jvm.exec) (hZ : Z.Warmed39 s.vm) (eT : T.heap = h) {own K C : String} {index : Nat} (hown : s.vm.findClass own = some m.cls) (w : (Jvm.Cond.classLink own index K).before a0 Z = true) {a : Addr} (E : Exa Z h a C) (w2 : (Jvm.Cond.castable C K).before a0 Z = true)
    {g : JFrame} (hg : g.method = m) {rest : List Value} (hs : g.stack = .ref a :: rest) (hd : decode c.code g.pc = .ok (.checkcast index, 3))
    (k : ∀ T' : State, Stand p l e R s m args below meth c T' locs cells slots → T'.heap = h → own_Run p e below Fin (T'.setTop { g with pc := g.pc + 3 })) : own_Run p e below Fin (T.setTop g) := by
  obtain ⟨T', X', e', st⟩ := castY X hx hZ hown w eT (Ins.of_exa E w2) hg hs hd
  exact own_go st (k T' X' e')
/-! constants -/
theorem own_ldc (X : Stand p l e R s m args below meth c T locs cells slots) (hx : p.tables.exec = Jvm.exec) (hZ : Z.Warmed39 s.vm) {own : String} {index : Nat} {v : Int32} (hown : s.vm.findClass own = some m.cls) (w : (Jvm.Cond.constant own index v).before a0 Z = true) {g : JFrame} (hg : g.method = m) (hd : decode c.code g.pc = .ok (.ldc index, 2))
    (k : own_Run p e below Fin (T.setTop { g with pc := g.pc + 2, stack := .int v :: g.stack })) : own_Run p e below Fin (T.setTop g) := own_go (X.ldcInt hx hown (mvT hZ w) hg hd) k
theorem own_ldc2 (X : Stand p l e R s m args below meth c T locs cells slots) (hx : p.tables.exec = Jvm.exec) (hZ : Z.Warmed39 s.vm) {own : String} {index : Nat} {v : Int64} (hown : s.vm.findClass own = some m.cls) (w : (Jvm.Cond.constantLong own index v).before a0 Z = true) {g : JFrame} (hg : g.method = m) (hd : decode c.code g.pc = .ok (.ldc2_w index, 3))
    (k : own_Run p e below Fin (T.setTop { g with pc := g.pc + 3, stack := .long v :: g.stack })) : own_Run p e below Fin (T.setTop g) := own_go (X.ldc2Long hx hown (mvT hZ w) hg hd) k
theorem own_inj {x y : Int32} (q : x.toInt = y.toInt) : x = y := Int32.toInt_inj.mp q
theorem own_injL {x y : Int64} (q : x.toInt = y.toInt) : x = y := Int64.toInt_inj.mp q
end OwnKit
theorem own_oi (k : Nat) (h : k < 2147483648) : (Int32.ofInt (k : Int)).toInt = k := by rw [Int32.toInt_ofInt]; exact Int.bmod_eq_of_le (by have hs : Int32.size = 4294967296 := rfl; omega) (by have hs : Int32.size = 4294967296 := rfl; omega)
theorem own_ofn (j : Nat) (h : j < 4) : (Int32.ofInt (j : Int)).toNatClampNeg = j := by have := own_oi j (by omega); simp only [Int32.toNatClampNeg]; omega
theorem own_next (k : Nat) : Int32.ofInt (k : Int) + (1 : Int32) = Int32.ofInt ((k + 1 : Nat) : Int) := by
  rw [show (1 : Int32) = Int32.ofInt 1 from rfl, ← Int32.ofInt_add]; rfl
def own_max (u w : Int32) : Int32 := if u < w then w else u
theorem own_max1 (w : Int32) : 1 ≤ (own_max (1 : Int32) w).toInt := by
  have z1 : (1 : Int32).toInt = 1 := rfl
  unfold own_max
  by_cases q : (1 : Int32) < w
  · rw [if_pos q]; rw [Int32.lt_iff_toInt_lt] at q; omega
  · rw [if_neg q, z1]; exact Int.le_refl _
def own_ex (mm sl : Int32) (sum : Int64) (cu : Int32) : Int32 := if cu = (0 : Int32) then mm else ((mm.toInt64 * sl.toInt64) / sum).toInt32
def own_cut (sum : Int64) (sl : Int32) : Int32 := if sl.toInt64 < sum then (1 : Int32) else (0 : Int32)
theorem own_cutnz {sum : Int64} {sl : Int32} (h0 : 1 ≤ sl.toInt) (h : ¬ own_cut sum sl = (0 : Int32)) : ¬ sum = (0 : Int64) := by
  intro q; subst q
  apply h
  have z0 : (0 : Int64).toInt = 0 := rfl
  have e := c_i2l sl
  unfold own_cut
  rw [if_neg]
  rw [Int64.lt_iff_toInt_lt]; omega
def own_ups (G : Nat → Int32) (t : Nat) (v : Int32) : Nat → Int32 := fun i => if i = t then v else G i
def own_up (f : Nat → Value) (t : Nat) (v : Value) : Nat → Value := fun i => if i = t then v else f i
theorem own_upsc {j : Int32} {t : Nat} (h : j.toNatClampNeg = t) (G : Nat → Int32) (v : Int32) (i : Nat) : (fun i => if i = j.toNatClampNeg then Value.int v else (fun k => Value.int (G k)) i) i = (fun k => Value.int (own_ups G t v k)) i := by
  show (if i = j.toNatClampNeg then Value.int v else Value.int (G i)) = Value.int (own_ups G t v i)
  rw [h]; unfold own_ups
  by_cases q : i = t
  · rw [if_pos q, if_pos q]
  · rw [if_neg q, if_neg q]
def own_giv (P : Nat → Nat) (M : Nat → Int32) (sl : Int32) (sum : Int64) (cu : Int32) (nf : Nat) (G : Nat → Int32) : Nat → Nat → Int32
  | 0 => G
  | j + 1 => own_ups (own_giv P M sl sum cu nf G j) (P (nf + j)) (own_ex (M (P (nf + j))) sl sum cu)
def own_fre (P : Nat → Nat) (M : Nat → Int32) (sl : Int32) (sum : Int64) (cu : Int32) (nf : Nat) : Nat → Int32
  | 0 => sl
  | j + 1 => own_fre P M sl sum cu nf j - own_ex (M (P (nf + j))) sl sum cu
theorem own_givhit (P : Nat → Nat) (M : Nat → Int32) (sl : Int32) (sum : Int64) (cu : Int32) (nf : Nat) (G : Nat → Int32) (j : Nat) : own_giv P M sl sum cu nf G (j + 1) (P (nf + j)) = own_ex (M (P (nf + j))) sl sum cu := if_pos rfl
theorem own_givst (P : Nat → Nat) (M : Nat → Int32) (sl : Int32) (sum : Int64) (cu : Int32) (nf : Nat) (G : Nat → Int32) (j i : Nat) (c : (Int32.ofInt ((P (nf + j) : Nat) : Int)).toNatClampNeg = P (nf + j)) :
    (fun i => if i = (Int32.ofInt ((P (nf + j) : Nat) : Int)).toNatClampNeg then Value.int (own_ex (M (P (nf + j))) sl sum cu) else (fun k => Value.int (own_giv P M sl sum cu nf G j k)) i) i = (fun k => Value.int (own_giv P M sl sum cu nf G (j + 1) k)) i := own_upsc c _ _ i
theorem own_st11 {s0 s1 s2 s3 s4 s5 s6 s7 s8 s9 s10 s11 : Slot} {v : Int32} (h : One s11) : storeLocals #[s0, s1, s2, s3, s4, s5, s6, s7, s8, s9, s10, s11] 11 (.int v) = some #[s0, s1, s2, s3, s4, s5, s6, s7, s8, s9, s10, .val (.int v)] := by
  rcases h with rfl | ⟨w, rfl, hw⟩
  · rfl
  · cases w <;> first | rfl | (simp [Value.category] at hw)
theorem own_st23 {s0 s1 s2 s3 s4 s5 s6 s7 s8 s9 s10 s11 s12 s13 s14 s15 s16 s17 s18 s19 s20 s21 s22 s23 : Slot} {v : Int32} (h : One s23) : storeLocals #[s0, s1, s2, s3, s4, s5, s6, s7, s8, s9, s10, s11, s12, s13, s14, s15, s16, s17, s18, s19, s20, s21, s22, s23] 23 (.int v) = some #[s0, s1, s2, s3, s4, s5, s6, s7, s8, s9, s10, s11, s12, s13, s14, s15, s16, s17, s18, s19, s20, s21, s22, .val (.int v)] := by
  rcases h with rfl | ⟨w, rfl, hw⟩
  · rfl
  · cases w <;> first | rfl | (simp [Value.category] at hw)
def own_P (nr : Nat) : Nat → Nat := fun k => (k + nr) % 4
theorem own_Plt (nr k : Nat) : own_P nr k < 4 := Nat.mod_lt _ (by decide)
theorem own_and3 (y : Int32) : (y &&& (3 : Int32)).toInt = y.toInt % (2 ^ 2 : Nat) := c_mask y 3 2 (by decide) (by decide)
theorem own_pres (rr : Int32) (nr : Nat) (h : rr.toInt = nr) (h3 : nr ≤ 3) (k : Nat) (hk : k < 4) : own_up (own_up (own_up (own_up (fun _ => (.int (0 : Int32))) 0 (.int rr)) 1 (.int (((1 : Int32) + rr) &&& (3 : Int32)))) 2 (.int (((2 : Int32) + rr) &&& (3 : Int32)))) 3 (.int (((3 : Int32) + rr) &&& (3 : Int32))) k = (fun k => Value.int (Int32.ofInt ((own_P nr k : Nat) : Int))) k := by
  have z1 : (1 : Int32).toInt = 1 := rfl
  have z2 : (2 : Int32).toInt = 2 := rfl
  have z3 : (3 : Int32).toInt = 3 := rfl
  have a1 := own_and3 ((1 : Int32) + rr)
  have a2 := own_and3 ((2 : Int32) + rr)
  have a3 := own_and3 ((3 : Int32) + rr)
  have b1 := c_iadd 1 rr
  have b2 := c_iadd 2 rr
  have b3 := c_iadd 3 rr
  have r1 := rng32 ((1 : Int32) + rr)
  have r2 := rng32 ((2 : Int32) + rr)
  have r3 := rng32 ((3 : Int32) + rr)
  have e : ∀ (w : Int32) (j : Nat), w.toInt = ((own_P nr j : Nat) : Int) → Value.int w = Value.int (Int32.ofInt ((own_P nr j : Nat) : Int)) := fun w j q => congrArg Value.int (own_inj (by rw [own_oi _ (Nat.lt_trans (own_Plt nr j) (by decide))]; exact q))
  match k, hk with
  | 0, _ => exact e rr 0 (by unfold own_P; omega)
  | 1, _ => exact e (((1 : Int32) + rr) &&& (3 : Int32)) 1 (by unfold own_P; omega)
  | 2, _ => exact e (((2 : Int32) + rr) &&& (3 : Int32)) 2 (by unfold own_P; omega)
  | 3, _ => exact e (((3 : Int32) + rr) &&& (3 : Int32)) 3 (by unfold own_P; omega)
def own_M (nr nf no : Nat) (m0 m1 m2 m3 : Int32) : Nat → Int32 := own_ups (own_ups (own_ups (own_ups (fun _ => (0 : Int32)) (own_P nr nf) m0) (own_P nr (nf + 1)) m1) (own_P nr (nf + 2)) m2) (own_P nr no) m3
theorem own_ups_hit (G : Nat → Int32) (t : Nat) (v : Int32) {i : Nat} (h : i = t) : own_ups G t v i = v := if_pos h
theorem own_ups_miss (G : Nat → Int32) (t : Nat) (v : Int32) {i : Nat} (h : ¬ i = t) : own_ups G t v i = G i := if_neg h
theorem own_M0 (nr nf no : Nat) (m0 m1 m2 m3 : Int32) (h : nf = 0 ∧ no = 3 ∨ nf = 1 ∧ no = 0) (h3 : nr ≤ 3) : own_M nr nf no m0 m1 m2 m3 (own_P nr (nf + 0)) = m0 := by
  unfold own_M
  rw [own_ups_miss _ _ _ (by unfold own_P; omega), own_ups_miss _ _ _ (by unfold own_P; omega), own_ups_miss _ _ _ (by unfold own_P; omega), own_ups_hit _ _ _ (by unfold own_P; omega)]
theorem own_M1 (nr nf no : Nat) (m0 m1 m2 m3 : Int32) (h : nf = 0 ∧ no = 3 ∨ nf = 1 ∧ no = 0) (h3 : nr ≤ 3) : own_M nr nf no m0 m1 m2 m3 (own_P nr (nf + 1)) = m1 := by
  unfold own_M
  rw [own_ups_miss _ _ _ (by unfold own_P; omega), own_ups_miss _ _ _ (by unfold own_P; omega), own_ups_hit _ _ _ rfl]
theorem own_M2 (nr nf no : Nat) (m0 m1 m2 m3 : Int32) (h : nf = 0 ∧ no = 3 ∨ nf = 1 ∧ no = 0) (h3 : nr ≤ 3) : own_M nr nf no m0 m1 m2 m3 (own_P nr (nf + 2)) = m2 := by
  unfold own_M
  rw [own_ups_miss _ _ _ (by unfold own_P; omega), own_ups_hit _ _ _ rfl]
def own_sj (j nc : Nat) (mm : Int32) : Int64 := if j < nc then mm.toInt64 else (0 : Int64)
theorem own_all4 (G : Nat → Value) (v : Int32) (k : Nat) (h : k < 4) : own_up (own_up (own_up (own_up G 0 (.int v)) 1 (.int v)) 2 (.int v)) 3 (.int v) k = .int v := by
  unfold own_up
  repeat' split
  all_goals first | rfl | omega
theorem own_giv0 (P : Nat → Nat) (M : Nat → Int32) (sl : Int32) (sum : Int64) (cu : Int32) (nf : Nat) (G : Nat → Int32) (nc k : Nat) : own_giv P M sl sum cu nf G (min 0 nc) k = G k := by rw [Nat.zero_min]; rfl
theorem own_fre0 (P : Nat → Nat) (M : Nat → Int32) (sl : Int32) (sum : Int64) (cu : Int32) (nf nc : Nat) : sl = own_fre P M sl sum cu nf (min 0 nc) := by rw [Nat.zero_min]; rfl
theorem own_minT {j nc : Nat} (h : j < nc) : min j nc = j ∧ min (j + 1) nc = j + 1 := ⟨Nat.min_eq_left (by omega), Nat.min_eq_left (by omega)⟩
theorem own_minF {j nc : Nat} (h : ¬ j < nc) : min j nc = nc ∧ min (j + 1) nc = nc := ⟨Nat.min_eq_right (by omega), Nat.min_eq_right (by omega)⟩
theorem own_stepT (P : Nat → Nat) (M : Nat → Int32) (sl : Int32) (sum : Int64) (cu : Int32) (nf : Nat) (G : Nat → Int32) (j nc : Nat) (h : j < nc) {mj : Int32} (hm : M (P (nf + j)) = mj) (k : Nat) : own_ups (own_giv P M sl sum cu nf G (min j nc)) (P (nf + j)) (own_ex mj sl sum cu) k = own_giv P M sl sum cu nf G (min (j + 1) nc) k := by
  rw [(own_minT h).1, (own_minT h).2, ← hm]; rfl
theorem own_stepF (P : Nat → Nat) (M : Nat → Int32) (sl : Int32) (sum : Int64) (cu : Int32) (nf : Nat) (G : Nat → Int32) (j nc : Nat) (h : ¬ j < nc) (k : Nat) : own_giv P M sl sum cu nf G (min j nc) k = own_giv P M sl sum cu nf G (min (j + 1) nc) k := by
  rw [(own_minF h).1, (own_minF h).2]
theorem own_frT (P : Nat → Nat) (M : Nat → Int32) (sl : Int32) (sum : Int64) (cu : Int32) (nf : Nat) (j nc : Nat) (h : j < nc) {mj w : Int32} (hm : M (P (nf + j)) = mj) (hw : w = own_fre P M sl sum cu nf (min j nc)) : w - own_ex mj sl sum cu = own_fre P M sl sum cu nf (min (j + 1) nc) := by
  subst hw hm
  rw [(own_minT h).1, (own_minT h).2]; rfl
theorem own_frF (P : Nat → Nat) (M : Nat → Int32) (sl : Int32) (sum : Int64) (cu : Int32) (nf : Nat) (j nc : Nat) (h : ¬ j < nc) {w : Int32} (hw : w = own_fre P M sl sum cu nf (min j nc)) : w = own_fre P M sl sum cu nf (min (j + 1) nc) := by
  rw [hw, (own_minF h).1, (own_minF h).2]
theorem own_exb (mm sl : Int32) (sum : Int64) (hm : 0 ≤ mm.toInt) (hms : mm.toInt ≤ sum.toInt) (hsl : 1 ≤ sl.toInt) : 0 ≤ (own_ex mm sl sum (own_cut sum sl)).toInt ∧ (own_ex mm sl sum (own_cut sum sl)).toInt ≤ mm.toInt ∧ (own_ex mm sl sum (own_cut sum sl)).toInt * sum.toInt ≤ mm.toInt * sl.toInt := by
  have e1 := c_i2l mm
  have e2 := c_i2l sl
  have r1 := rng32 mm
  have r2 := rng32 sl
  by_cases c : sl.toInt64 < sum
  · have hc : own_cut sum sl = 1 := if_pos c
    rw [hc]
    have hx : own_ex mm sl sum 1 = ((mm.toInt64 * sl.toInt64) / sum).toInt32 := if_neg (by decide)
    rw [hx]
    rw [Int64.lt_iff_toInt_lt, e2] at c
    have hp0 : 0 ≤ mm.toInt * sl.toInt := Int.mul_nonneg hm (by omega)
    have hp1 : mm.toInt * sl.toInt ≤ 2147483648 * 2147483648 := Int.mul_le_mul (by omega) (by omega) (by omega) (by decide)
    have ml := c_lmul mm.toInt64 sl.toInt64
    have rl := rng64 (mm.toInt64 * sl.toInt64)
    rw [e1, e2] at ml
    have pv : (mm.toInt64 * sl.toInt64).toInt = mm.toInt * sl.toInt := by omega
    have dv := (c_ldiv (mm.toInt64 * sl.toInt64) sum sum.toInt rfl (fun w => by rw [w] at c; have : (-1 : Int64).toInt = -1 := rfl; omega)).1 (by omega)
    rw [pv] at dv
    have hS : 0 < sum.toInt := by omega
    have q0 : 0 ≤ mm.toInt * sl.toInt / sum.toInt := Int.ediv_nonneg hp0 (by omega)
    have q1 : mm.toInt * sl.toInt / sum.toInt ≤ mm.toInt := Int.ediv_le_of_le_mul hS (Int.mul_le_mul_of_nonneg_left (by omega) hm)
    have q2 : mm.toInt * sl.toInt / sum.toInt * sum.toInt ≤ mm.toInt * sl.toInt := Int.ediv_mul_le _ (by omega)
    have li := c_l2i ((mm.toInt64 * sl.toInt64) / sum)
    have ri := rng32 ((mm.toInt64 * sl.toInt64) / sum).toInt32
    have qv : ((mm.toInt64 * sl.toInt64) / sum).toInt32.toInt = mm.toInt * sl.toInt / sum.toInt := by omega
    rw [qv]
    exact ⟨q0, q1, q2⟩
  · have hc : own_cut sum sl = 0 := if_neg c
    rw [hc]
    have hx : own_ex mm sl sum 0 = mm := if_pos rfl
    rw [hx]
    rw [Int64.lt_iff_toInt_lt, e2] at c
    exact ⟨hm, Int.le_refl _, Int.mul_le_mul_of_nonneg_left (by omega) hm⟩
theorem own_leS {q S sl : Int} (h : q * S ≤ S * sl) (hS : 0 < S) : q ≤ sl := Int.le_of_mul_le_mul_right (by rw [Int.mul_comm sl S]; exact h) hS
theorem own_free0 {P : Nat → Nat} {M : Nat → Int32} {sl : Int32} {sum s0 s1 s2 : Int64} {nf nc : Nat} {m0 m1 m2 : Int32} (hnc : nc ≤ 3) (hM0 : M (P (nf + 0)) = m0) (hM1 : M (P (nf + 1)) = m1) (hM2 : M (P (nf + 2)) = m2) (hsl : 1 ≤ sl.toInt) (k0 : 0 ≤ m0.toInt) (k1 : 0 ≤ m1.toInt) (k2 : 0 ≤ m2.toInt)
    (hs0 : s0 = own_sj 0 nc m0) (hs1 : s1 = own_sj 1 nc m1) (hs2 : s2 = own_sj 2 nc m2) (hsum : (s0 + s1) + s2 = sum) : ¬ own_fre P M sl sum (own_cut sum sl) nf nc < (0 : Int32) := by
  have z0 : (0 : Int32).toInt = 0 := rfl
  have zl : (0 : Int64).toInt = 0 := rfl
  have e0 := c_i2l m0
  have e1 := c_i2l m1
  have e2 := c_i2l m2
  have r0 := rng32 m0
  have r1 := rng32 m1
  have r2 := rng32 m2
  have rsl := rng32 sl
  have a1 := c_ladd s0 s1
  have a2 := c_ladd (s0 + s1) s2
  have b1 := rng64 (s0 + s1)
  have b2 := rng64 ((s0 + s1) + s2)
  rw [Int32.lt_iff_toInt_lt, z0]
  rcases (by omega : nc = 0 ∨ nc = 1 ∨ nc = 2 ∨ nc = 3) with rfl | rfl | rfl | rfl
  · show ¬ sl.toInt < 0; omega
  · have t0 : s0 = m0.toInt64 := hs0
    have t1 : s1 = 0 := hs1
    have t2 : s2 = 0 := hs2
    subst t0 t1 t2
    rw [hsum] at a2 b2
    have S : sum.toInt = m0.toInt := by omega
    obtain ⟨x0, y0, w0⟩ := own_exb m0 sl sum k0 (by omega) hsl
    show ¬ (sl - own_ex (M (P (nf + 0))) sl sum (own_cut sum sl)).toInt < 0
    rw [hM0]
    generalize own_ex m0 sl sum (own_cut sum sl) = q0 at *
    have c0 := c_isub sl q0
    have d0 := rng32 (sl - q0)
    have L : q0.toInt ≤ sl.toInt := by
      by_cases hS : sum.toInt = 0
      · omega
      · exact own_leS (S := sum.toInt) (by rw [S] at w0 ⊢; exact w0) (by omega)
    omega
  · have t0 : s0 = m0.toInt64 := hs0
    have t1 : s1 = m1.toInt64 := hs1
    have t2 : s2 = 0 := hs2
    subst t0 t1 t2
    rw [hsum] at a2 b2
    have S : sum.toInt = m0.toInt + m1.toInt := by omega
    obtain ⟨x0, y0, w0⟩ := own_exb m0 sl sum k0 (by omega) hsl
    obtain ⟨x1, y1, w1⟩ := own_exb m1 sl sum k1 (by omega) hsl
    show ¬ (sl - own_ex (M (P (nf + 0))) sl sum (own_cut sum sl) - own_ex (M (P (nf + 1))) sl sum (own_cut sum sl)).toInt < 0
    rw [hM0, hM1]
    generalize own_ex m0 sl sum (own_cut sum sl) = q0 at *
    generalize own_ex m1 sl sum (own_cut sum sl) = q1 at *
    have c0 := c_isub sl q0
    have d0 := rng32 (sl - q0)
    have c1 := c_isub (sl - q0) q1
    have d1 := rng32 (sl - q0 - q1)
    have L : q0.toInt + q1.toInt ≤ sl.toInt := by
      by_cases hS : sum.toInt = 0
      · omega
      · refine own_leS (S := sum.toInt) ?_ (by omega)
        have u : sum.toInt * sl.toInt = m0.toInt * sl.toInt + m1.toInt * sl.toInt := by rw [S, Int.add_mul]
        rw [u, Int.add_mul]; omega
    omega
  · have t0 : s0 = m0.toInt64 := hs0
    have t1 : s1 = m1.toInt64 := hs1
    have t2 : s2 = m2.toInt64 := hs2
    subst t0 t1 t2
    rw [hsum] at a2 b2
    have S : sum.toInt = m0.toInt + m1.toInt + m2.toInt := by omega
    obtain ⟨x0, y0, w0⟩ := own_exb m0 sl sum k0 (by omega) hsl
    obtain ⟨x1, y1, w1⟩ := own_exb m1 sl sum k1 (by omega) hsl
    obtain ⟨x2, y2, w2⟩ := own_exb m2 sl sum k2 (by omega) hsl
    show ¬ (sl - own_ex (M (P (nf + 0))) sl sum (own_cut sum sl) - own_ex (M (P (nf + 1))) sl sum (own_cut sum sl) - own_ex (M (P (nf + 2))) sl sum (own_cut sum sl)).toInt < 0
    rw [hM0, hM1, hM2]
    generalize own_ex m0 sl sum (own_cut sum sl) = q0 at *
    generalize own_ex m1 sl sum (own_cut sum sl) = q1 at *
    generalize own_ex m2 sl sum (own_cut sum sl) = q2 at *
    have c0 := c_isub sl q0
    have d0 := rng32 (sl - q0)
    have c1 := c_isub (sl - q0) q1
    have d1 := rng32 (sl - q0 - q1)
    have c2 := c_isub (sl - q0 - q1) q2
    have d2 := rng32 (sl - q0 - q1 - q2)
    have L : q0.toInt + q1.toInt + q2.toInt ≤ sl.toInt := by
      by_cases hS : sum.toInt = 0
      · omega
      · refine own_leS (S := sum.toInt) ?_ (by omega)
        have u : sum.toInt * sl.toInt = m0.toInt * sl.toInt + m1.toInt * sl.toInt + m2.toInt * sl.toInt := by rw [S, Int.add_mul, Int.add_mul]
        rw [u, Int.add_mul, Int.add_mul]; omega
    omega
theorem d0_0 : decode jdk_29_method_65_code 0 = .ok (.iload_n 0, 1) := by decide +kernel
theorem d0_1 : decode jdk_29_method_65_code 1 = .ok (.iload_n 1, 1) := by decide +kernel
theorem d0_2 : decode jdk_29_method_65_code 2 = .ok (.if_icmp .lt 7, 3) := by decide +kernel
theorem d0_5 : decode jdk_29_method_65_code 5 = .ok (.iload_n 0, 1) := by decide +kernel
theorem d0_6 : decode jdk_29_method_65_code 6 = .ok (.goto 4, 3) := by decide +kernel
theorem d0_9 : decode jdk_29_method_65_code 9 = .ok (.iload_n 1, 1) := by decide +kernel
theorem d0_10 : decode jdk_29_method_65_code 10 = .ok (.ireturn, 1) := by decide +kernel
abbrev Q_max (Z : State) (u : Int32) (w : Int32) (h0 : Heap) : Option Value → Heap → List Loc → Prop := fun v h L => v = some (.int (own_max u w)) ∧ h0 = h ∧ L = []
set_option maxRecDepth 65536 in
set_option maxHeartbeats 40000000 in
theorem rm_max (l : Launch) (Z : State) (a0 : Array Value) (hw : ∀ d ∈ tables_1, d.before a0 Z = true) (u : Int32) (w : Int32) (h0 : Heap)  :
    own_Met l Z (⟨"java/lang/Math", "max", "(II)I"⟩ : MethodName) jdk_29_method_65_code 2 (some .int) ({ frames := 0, cells := 0, slots := 0, locals := 0 } : Room) #[(.int u), (.int w)] h0 (Q_max Z u w h0) := by
  refine own_enter (g0 := fun m => (mkF m 0 #[.val (.int u), .val (.int w)] [])) (Jvm.Free.JP.mathPlain rfl (by decide +kernel)) (fun m => by first | (simp [entryFrame, mkF, argsToLocals, Value.category]; done) | rfl) ?_
  intro p e s m below meth c T hx hby hml hown hnm hZ hret hlk X e0
  replace hown : s.vm.findClass "java/lang/Math" = some m.cls := hown
  show own_Run p e below _ (T.setTop (mkF m 0 #[.val (.int u), .val (.int w)] []))
  refine own_go (fun _ kS => XS.iloadN X.here hx rfl (hb hby d0_0) rfl kS) ?_
  show own_Run p e below _ (T.setTop (mkF m 1 #[.val (.int u), .val (.int w)] [(.int u)]))
  refine own_go (fun _ kS => XS.iloadN X.here hx rfl (hb hby d0_1) rfl kS) ?_
  show own_Run p e below _ (T.setTop (mkF m 2 #[.val (.int u), .val (.int w)] [(.int w), (.int u)]))
  by_cases hc2 : u < w
  · refine own_go (fun _ kS => XS.icmpYes X.here hx rfl (pc0 := 2) (pc' := 9) rfl (hb hby d0_2) rfl (tlt hc2).1 (by decide) (by decide) kS) ?_
    show own_Run p e below _ (T.setTop (mkF m 9 #[.val (.int u), .val (.int w)] []))
    refine own_go (fun _ kS => XS.iloadN X.here hx rfl (hb hby d0_9) rfl kS) ?_
    show own_Run p e below _ (T.setTop (mkF m 10 #[.val (.int u), .val (.int w)] [(.int w)]))
    refine own_retI X hx hret hlk (hb hby d0_10) (by decide) (by decide) ?_
    exact ⟨by rw [(by unfold own_max; rw [if_pos hc2] : own_max u w = w)], e0.symm, rfl⟩
  · refine own_go (fun _ kS => XS.icmpNo X.here hx rfl (hb hby d0_2) rfl (flt hc2).1 kS) ?_
    show own_Run p e below _ (T.setTop (mkF m 5 #[.val (.int u), .val (.int w)] []))
    refine own_go (fun _ kS => XS.iloadN X.here hx rfl (hb hby d0_5) rfl kS) ?_
    show own_Run p e below _ (T.setTop (mkF m 6 #[.val (.int u), .val (.int w)] [(.int u)]))
    refine own_go (fun _ kS => XS.goto X.here hx rfl (pc0 := 6) (pc' := 10) rfl (hb hby d0_6) (by decide) (by decide) kS) ?_
    show own_Run p e below _ (T.setTop (mkF m 10 #[.val (.int u), .val (.int w)] [(.int u)]))
    refine own_retI X hx hret hlk (hb hby d0_10) (by decide) (by decide) ?_
    exact ⟨by rw [(by unfold own_max; rw [if_neg hc2] : own_max u w = u)], e0.symm, rfl⟩
theorem d1_0 : decode method_3_code 0 = .ok (.iload 4, 2) := by decide +kernel
theorem d1_2 : decode method_3_code 2 = .ok (.ifCond .ne 5, 3) := by decide +kernel
theorem d1_5 : decode method_3_code 5 = .ok (.iload_n 0, 1) := by decide +kernel
theorem d1_6 : decode method_3_code 6 = .ok (.ireturn, 1) := by decide +kernel
theorem d1_7 : decode method_3_code 7 = .ok (.iload_n 0, 1) := by decide +kernel
theorem d1_8 : decode method_3_code 8 = .ok (.i2l, 1) := by decide +kernel
theorem d1_9 : decode method_3_code 9 = .ok (.iload_n 1, 1) := by decide +kernel
theorem d1_10 : decode method_3_code 10 = .ok (.i2l, 1) := by decide +kernel
theorem d1_11 : decode method_3_code 11 = .ok (.lmul, 1) := by decide +kernel
theorem d1_12 : decode method_3_code 12 = .ok (.lstore 5, 2) := by decide +kernel
theorem d1_14 : decode method_3_code 14 = .ok (.lload 5, 2) := by decide +kernel
theorem d1_16 : decode method_3_code 16 = .ok (.lload_n 2, 1) := by decide +kernel
theorem d1_17 : decode method_3_code 17 = .ok (.ldiv, 1) := by decide +kernel
theorem d1_18 : decode method_3_code 18 = .ok (.l2i, 1) := by decide +kernel
theorem d1_19 : decode method_3_code 19 = .ok (.ireturn, 1) := by decide +kernel
abbrev Q_ex (Z : State) (mm : Int32) (sl : Int32) (sum : Int64) (cu : Int32) (h0 : Heap) : Option Value → Heap → List Loc → Prop := fun v h L => v = some (.int (own_ex mm sl sum cu)) ∧ h0 = h ∧ L = []
set_option maxRecDepth 65536 in
set_option maxHeartbeats 40000000 in
theorem rm_ex (l : Launch) (Z : State) (a0 : Array Value) (hw : ∀ d ∈ tables_1, d.before a0 Z = true) (mm : Int32) (sl : Int32) (sum : Int64) (cu : Int32) (h0 : Heap) (hs : ¬ cu = (0 : Int32) → ¬ sum = (0 : Int64)) :
    own_Met l Z (⟨"com/example/slotwise/slotwise/flex/PackerGiveMinimaPinLaw", "expect", "(IIJZ)I"⟩ : MethodName) method_3_code 7 (some .int) ({ frames := 0, cells := 0, slots := 0, locals := 0 } : Room) #[(.int mm), (.int sl), (.long sum), (.int cu)] h0 (Q_ex Z mm sl sum cu h0) := by
  refine own_enter (g0 := fun m => (mkF m 0 #[.val (.int mm), .val (.int sl), .val (.long sum), .second, .val (.int cu), .unset, .unset] [])) (plainFor_of_name (by first | (simp [plainName, overriddenIn]; done) | decide +kernel)) (fun m => by first | (simp [entryFrame, mkF, argsToLocals, Value.category]; done) | rfl) ?_
  intro p e s m below meth c T hx hby hml hown hnm hZ hret hlk X e0
  replace hown : s.vm.findClass "com/example/slotwise/slotwise/flex/PackerGiveMinimaPinLaw" = some m.cls := hown
  show own_Run p e below _ (T.setTop (mkF m 0 #[.val (.int mm), .val (.int sl), .val (.long sum), .second, .val (.int cu), .unset, .unset] []))
  refine own_go (fun _ kS => XS.iload X.here hx rfl (hb hby d1_0) rfl kS) ?_
  show own_Run p e below _ (T.setTop (mkF m 2 #[.val (.int mm), .val (.int sl), .val (.long sum), .second, .val (.int cu), .unset, .unset] [(.int cu)]))
  by_cases hc2 : cu = (0 : Int32)
  · refine own_go (fun _ kS => XS.ifNo X.here hx rfl (hb hby d1_2) rfl ((if0 _ _).trans (teq hc2).2) kS) ?_
    show own_Run p e below _ (T.setTop (mkF m 5 #[.val (.int mm), .val (.int sl), .val (.long sum), .second, .val (.int cu), .unset, .unset] []))
    refine own_go (fun _ kS => XS.iloadN X.here hx rfl (hb hby d1_5) rfl kS) ?_
    show own_Run p e below _ (T.setTop (mkF m 6 #[.val (.int mm), .val (.int sl), .val (.long sum), .second, .val (.int cu), .unset, .unset] [(.int mm)]))
    refine own_retI X hx hret hlk (hb hby d1_6) (by decide) (by decide) ?_
    exact ⟨by rw [(by unfold own_ex; rw [if_pos hc2] : own_ex mm sl sum cu = mm)], e0.symm, rfl⟩
  · refine own_go (fun _ kS => XS.ifYes X.here hx rfl (pc0 := 2) (pc' := 7) rfl (hb hby d1_2) rfl ((if0 _ _).trans (feq hc2).2) (by decide) (by decide) kS) ?_
    show own_Run p e below _ (T.setTop (mkF m 7 #[.val (.int mm), .val (.int sl), .val (.long sum), .second, .val (.int cu), .unset, .unset] []))
    refine own_go (fun _ kS => XS.iloadN X.here hx rfl (hb hby d1_7) rfl kS) ?_
    show own_Run p e below _ (T.setTop (mkF m 8 #[.val (.int mm), .val (.int sl), .val (.long sum), .second, .val (.int cu), .unset, .unset] [(.int mm)]))
    refine own_go (fun _ kS => XS.i2l X.here hx rfl (hb hby d1_8) rfl kS) ?_
    show own_Run p e below _ (T.setTop (mkF m 9 #[.val (.int mm), .val (.int sl), .val (.long sum), .second, .val (.int cu), .unset, .unset] [(.long mm.toInt64)]))
    refine own_go (fun _ kS => XS.iloadN X.here hx rfl (hb hby d1_9) rfl kS) ?_
    show own_Run p e below _ (T.setTop (mkF m 10 #[.val (.int mm), .val (.int sl), .val (.long sum), .second, .val (.int cu), .unset, .unset] [(.int sl), (.long mm.toInt64)]))
    refine own_go (fun _ kS => XS.i2l X.here hx rfl (hb hby d1_10) rfl kS) ?_
    show own_Run p e below _ (T.setTop (mkF m 11 #[.val (.int mm), .val (.int sl), .val (.long sum), .second, .val (.int cu), .unset, .unset] [(.long sl.toInt64), (.long mm.toInt64)]))
    refine own_go (fun _ kS => XS.lmul X.here hx rfl (hb hby d1_11) rfl kS) ?_
    show own_Run p e below _ (T.setTop (mkF m 12 #[.val (.int mm), .val (.int sl), .val (.long sum), .second, .val (.int cu), .unset, .unset] [(.long (mm.toInt64 * sl.toInt64))]))
    refine own_go (fun _ kS => XS.lstore X.here hx rfl (hb hby d1_12) rfl (l' := #[.val (.int mm), .val (.int sl), .val (.long sum), .second, .val (.int cu), .val (.long (mm.toInt64 * sl.toInt64)), .second]) rfl kS) ?_
    show own_Run p e below _ (T.setTop (mkF m 14 #[.val (.int mm), .val (.int sl), .val (.long sum), .second, .val (.int cu), .val (.long (mm.toInt64 * sl.toInt64)), .second] []))
    refine own_go (fun _ kS => XS.lload X.here hx rfl (hb hby d1_14) rfl kS) ?_
    show own_Run p e below _ (T.setTop (mkF m 16 #[.val (.int mm), .val (.int sl), .val (.long sum), .second, .val (.int cu), .val (.long (mm.toInt64 * sl.toInt64)), .second] [(.long (mm.toInt64 * sl.toInt64))]))
    refine own_go (fun _ kS => XS.lloadN X.here hx rfl (hb hby d1_16) rfl kS) ?_
    show own_Run p e below _ (T.setTop (mkF m 17 #[.val (.int mm), .val (.int sl), .val (.long sum), .second, .val (.int cu), .val (.long (mm.toInt64 * sl.toInt64)), .second] [(.long sum), (.long (mm.toInt64 * sl.toInt64))]))
    refine own_go (fun _ kS => XS.ldiv X.here hx rfl (hb hby d1_17) rfl (hs hc2) kS) ?_
    show own_Run p e below _ (T.setTop (mkF m 18 #[.val (.int mm), .val (.int sl), .val (.long sum), .second, .val (.int cu), .val (.long (mm.toInt64 * sl.toInt64)), .second] [(.long ((mm.toInt64 * sl.toInt64) / sum))]))
    refine own_go (fun _ kS => XS.l2i X.here hx rfl (hb hby d1_18) rfl kS) ?_
    show own_Run p e below _ (T.setTop (mkF m 19 #[.val (.int mm), .val (.int sl), .val (.long sum), .second, .val (.int cu), .val (.long (mm.toInt64 * sl.toInt64)), .second] [(.int ((mm.toInt64 * sl.toInt64) / sum).toInt32)]))
    refine own_retI X hx hret hlk (hb hby d1_19) (by decide) (by decide) ?_
    exact ⟨by rw [(by unfold own_ex; rw [if_neg hc2] : own_ex mm sl sum cu = ((mm.toInt64 * sl.toInt64) / sum).toInt32)], e0.symm, rfl⟩
theorem d2_0 : decode prog_81_method_9_code 0 = .ok (.lload 4, 2) := by decide +kernel
theorem d2_2 : decode prog_81_method_9_code 2 = .ok (.iload 6, 2) := by decide +kernel
theorem d2_4 : decode prog_81_method_9_code 4 = .ok (.i2l, 1) := by decide +kernel
theorem d2_5 : decode prog_81_method_9_code 5 = .ok (.lcmp, 1) := by decide +kernel
theorem d2_6 : decode prog_81_method_9_code 6 = .ok (.ifCond .le 7, 3) := by decide +kernel
theorem d2_9 : decode prog_81_method_9_code 9 = .ok (.iconst 1, 1) := by decide +kernel
theorem d2_10 : decode prog_81_method_9_code 10 = .ok (.goto 4, 3) := by decide +kernel
theorem d2_13 : decode prog_81_method_9_code 13 = .ok (.iconst 0, 1) := by decide +kernel
theorem d2_14 : decode prog_81_method_9_code 14 = .ok (.istore 8, 2) := by decide +kernel
theorem d2_16 : decode prog_81_method_9_code 16 = .ok (.iload 6, 2) := by decide +kernel
theorem d2_18 : decode prog_81_method_9_code 18 = .ok (.istore 9, 2) := by decide +kernel
theorem d2_20 : decode prog_81_method_9_code 20 = .ok (.iload_n 1, 1) := by decide +kernel
theorem d2_21 : decode prog_81_method_9_code 21 = .ok (.istore 10, 2) := by decide +kernel
theorem d2_23 : decode prog_81_method_9_code 23 = .ok (.iload 10, 2) := by decide +kernel
theorem d2_25 : decode prog_81_method_9_code 25 = .ok (.iload_n 1, 1) := by decide +kernel
theorem d2_26 : decode prog_81_method_9_code 26 = .ok (.iload_n 2, 1) := by decide +kernel
theorem d2_27 : decode prog_81_method_9_code 27 = .ok (.iadd, 1) := by decide +kernel
theorem d2_28 : decode prog_81_method_9_code 28 = .ok (.if_icmp .ge 55, 3) := by decide +kernel
theorem d2_31 : decode prog_81_method_9_code 31 = .ok (.aload_n 0, 1) := by decide +kernel
theorem d2_32 : decode prog_81_method_9_code 32 = .ok (.iload 10, 2) := by decide +kernel
theorem d2_34 : decode prog_81_method_9_code 34 = .ok (.iaload, 1) := by decide +kernel
theorem d2_35 : decode prog_81_method_9_code 35 = .ok (.istore 11, 2) := by decide +kernel
theorem d2_37 : decode prog_81_method_9_code 37 = .ok (.aload 7, 2) := by decide +kernel
theorem d2_39 : decode prog_81_method_9_code 39 = .ok (.iload 11, 2) := by decide +kernel
theorem d2_41 : decode prog_81_method_9_code 41 = .ok (.iload 8, 2) := by decide +kernel
theorem d2_43 : decode prog_81_method_9_code 43 = .ok (.ifCond .eq 19, 3) := by decide +kernel
theorem d2_46 : decode prog_81_method_9_code 46 = .ok (.aload_n 3, 1) := by decide +kernel
theorem d2_47 : decode prog_81_method_9_code 47 = .ok (.iload 11, 2) := by decide +kernel
theorem d2_49 : decode prog_81_method_9_code 49 = .ok (.iaload, 1) := by decide +kernel
theorem d2_50 : decode prog_81_method_9_code 50 = .ok (.i2l, 1) := by decide +kernel
theorem d2_51 : decode prog_81_method_9_code 51 = .ok (.iload 6, 2) := by decide +kernel
theorem d2_53 : decode prog_81_method_9_code 53 = .ok (.i2l, 1) := by decide +kernel
theorem d2_54 : decode prog_81_method_9_code 54 = .ok (.lmul, 1) := by decide +kernel
theorem d2_55 : decode prog_81_method_9_code 55 = .ok (.lload 4, 2) := by decide +kernel
theorem d2_57 : decode prog_81_method_9_code 57 = .ok (.ldiv, 1) := by decide +kernel
theorem d2_58 : decode prog_81_method_9_code 58 = .ok (.l2i, 1) := by decide +kernel
theorem d2_59 : decode prog_81_method_9_code 59 = .ok (.goto 7, 3) := by decide +kernel
theorem d2_62 : decode prog_81_method_9_code 62 = .ok (.aload_n 3, 1) := by decide +kernel
theorem d2_63 : decode prog_81_method_9_code 63 = .ok (.iload 11, 2) := by decide +kernel
theorem d2_65 : decode prog_81_method_9_code 65 = .ok (.iaload, 1) := by decide +kernel
theorem d2_66 : decode prog_81_method_9_code 66 = .ok (.iastore, 1) := by decide +kernel
theorem d2_67 : decode prog_81_method_9_code 67 = .ok (.iload 9, 2) := by decide +kernel
theorem d2_69 : decode prog_81_method_9_code 69 = .ok (.aload 7, 2) := by decide +kernel
theorem d2_71 : decode prog_81_method_9_code 71 = .ok (.iload 11, 2) := by decide +kernel
theorem d2_73 : decode prog_81_method_9_code 73 = .ok (.iaload, 1) := by decide +kernel
theorem d2_74 : decode prog_81_method_9_code 74 = .ok (.isub, 1) := by decide +kernel
theorem d2_75 : decode prog_81_method_9_code 75 = .ok (.istore 9, 2) := by decide +kernel
theorem d2_77 : decode prog_81_method_9_code 77 = .ok (.iinc 10 1, 3) := by decide +kernel
theorem d2_80 : decode prog_81_method_9_code 80 = .ok (.goto (-57), 3) := by decide +kernel
theorem d2_83 : decode prog_81_method_9_code 83 = .ok (.iload 9, 2) := by decide +kernel
theorem d2_85 : decode prog_81_method_9_code 85 = .ok (.ireturn, 1) := by decide +kernel
abbrev Q_gm (Z : State) (ap : Addr) (fr : Int32) (ct : Int32) (am : Addr) (sum : Int64) (sl : Int32) (ag : Addr) (P : Nat → Nat) (M G : Nat → Int32) (nf nc : Nat) (n0 : Nat) (h0 : Heap) : Option Value → Heap → List Loc → Prop := fun v h L => v = some (.int (own_fre P M sl sum (own_cut sum sl) nf nc)) ∧ Fr n0 L ∧ Keep h0 h [ag] ∧ own_Arr Z h ag .int 4 (fun k => .int ((own_giv P M sl sum (own_cut sum sl) nf G nc) k))
set_option maxRecDepth 65536 in
set_option maxHeartbeats 40000000 in
theorem rm_gm (l : Launch) (Z : State) (a0 : Array Value) (hw : ∀ d ∈ tables_1, d.before a0 Z = true) (ap : Addr) (fr : Int32) (ct : Int32) (am : Addr) (sum : Int64) (sl : Int32) (ag : Addr) (P : Nat → Nat) (M G : Nat → Int32) (nf nc : Nat) (n0 : Nat) (h0 : Heap) (Z0 : n0 ≤ h0.size) (A_p : own_Arr Z h0 ap .int 4 (fun k => .int (Int32.ofInt (P k)))) (A_m : own_Arr Z h0 am .int 4 (fun k => .int (M k))) (A_g : own_Arr Z h0 ag .int 4 (fun k => .int (G k))) (g_ag : n0 ≤ ag) (npg : ap ≠ ag) (nmg : am ≠ ag) (hnf : fr.toInt = nf) (hnc : ct.toInt = nc) (hfc : nf + nc ≤ 4) (hP : ∀ i, i < 4 → P i < 4) (hsl : 1 ≤ sl.toInt) :
    own_Met l Z (⟨"com/example/slotwise/slotwise/flex/Packer", "giveMinima", "([III[IJI[I)I"⟩ : MethodName) prog_81_method_9_code 12 (some .int) ({ frames := 0, cells := 0, slots := 0, locals := 0 } : Room) #[(.ref ap), (.int fr), (.int ct), (.ref am), (.long sum), (.int sl), (.ref ag)] h0 (Q_gm Z ap fr ct am sum sl ag P M G nf nc n0 h0) := by
  refine own_enter (g0 := fun m => (mkF m 0 #[.val (.ref ap), .val (.int fr), .val (.int ct), .val (.ref am), .val (.long sum), .second, .val (.int sl), .val (.ref ag), .unset, .unset, .unset, .unset] [])) (plainFor_of_name (by first | (simp [plainName, overriddenIn]; done) | decide +kernel)) (fun m => by first | (simp [entryFrame, mkF, argsToLocals, Value.category]; done) | rfl) ?_
  intro p e s m below meth c T hx hby hml hown hnm hZ hret hlk X e0
  replace hown : s.vm.findClass "com/example/slotwise/slotwise/flex/Packer" = some m.cls := hown
  have N := Fr.nil n0
  have hz := Z0
  have K := Keep.refl h0 [ag]
  have hfcx : (fr + ct).toInt = ((nf + nc : Nat) : Int) := by have w := c_iadd fr ct; have w2 := rng32 (fr + ct); omega
  show own_Run p e below _ (T.setTop (mkF m 0 #[.val (.ref ap), .val (.int fr), .val (.int ct), .val (.ref am), .val (.long sum), .second, .val (.int sl), .val (.ref ag), .unset, .unset, .unset, .unset] []))
  refine own_go (fun _ kS => XS.lload X.here hx rfl (hb hby d2_0) rfl kS) ?_
  show own_Run p e below _ (T.setTop (mkF m 2 #[.val (.ref ap), .val (.int fr), .val (.int ct), .val (.ref am), .val (.long sum), .second, .val (.int sl), .val (.ref ag), .unset, .unset, .unset, .unset] [(.long sum)]))
  refine own_go (fun _ kS => XS.iload X.here hx rfl (hb hby d2_2) rfl kS) ?_
  show own_Run p e below _ (T.setTop (mkF m 4 #[.val (.ref ap), .val (.int fr), .val (.int ct), .val (.ref am), .val (.long sum), .second, .val (.int sl), .val (.ref ag), .unset, .unset, .unset, .unset] [(.int sl), (.long sum)]))
  refine own_go (fun _ kS => XS.i2l X.here hx rfl (hb hby d2_4) rfl kS) ?_
  show own_Run p e below _ (T.setTop (mkF m 5 #[.val (.ref ap), .val (.int fr), .val (.int ct), .val (.ref am), .val (.long sum), .second, .val (.int sl), .val (.ref ag), .unset, .unset, .unset, .unset] [(.long sl.toInt64), (.long sum)]))
  refine own_go (fun _ kS => XS.lcmp X.here hx rfl (hb hby d2_5) rfl kS) ?_
  show own_Run p e below _ (T.setTop (mkF m 6 #[.val (.ref ap), .val (.int fr), .val (.int ct), .val (.ref am), .val (.long sum), .second, .val (.int sl), .val (.ref ag), .unset, .unset, .unset, .unset] [(.int (lcmpW sum sl.toInt64))]))
  have J16 : ∀ cu : Int32, cu = own_cut sum sl → own_Run p e below (own_End s ({ frames := 0, cells := 0, slots := 0, locals := 0 } : Room) (Q_gm Z ap fr ct am sum sl ag P M G nf nc n0 h0)) (T.setTop (mkF m 16 #[.val (.ref ap), .val (.int fr), .val (.int ct), .val (.ref am), .val (.long sum), .second, .val (.int sl), .val (.ref ag), .val (.int cu), .unset, .unset, .unset] [])) := by
    intro cu hcu
    subst hcu
    show own_Run p e below _ (T.setTop (mkF m 16 #[.val (.ref ap), .val (.int fr), .val (.int ct), .val (.ref am), .val (.long sum), .second, .val (.int sl), .val (.ref ag), .val (.int (own_cut sum sl)), .unset, .unset, .unset] []))
    refine own_go (fun _ kS => XS.iload X.here hx rfl (hb hby d2_16) rfl kS) ?_
    show own_Run p e below _ (T.setTop (mkF m 18 #[.val (.ref ap), .val (.int fr), .val (.int ct), .val (.ref am), .val (.long sum), .second, .val (.int sl), .val (.ref ag), .val (.int (own_cut sum sl)), .unset, .unset, .unset] [(.int sl)]))
    refine own_go (fun _ kS => XS.istore X.here hx rfl (hb hby d2_18) rfl (l' := #[.val (.ref ap), .val (.int fr), .val (.int ct), .val (.ref am), .val (.long sum), .second, .val (.int sl), .val (.ref ag), .val (.int (own_cut sum sl)), .val (.int sl), .unset, .unset]) rfl kS) ?_
    show own_Run p e below _ (T.setTop (mkF m 20 #[.val (.ref ap), .val (.int fr), .val (.int ct), .val (.ref am), .val (.long sum), .second, .val (.int sl), .val (.ref ag), .val (.int (own_cut sum sl)), .val (.int sl), .unset, .unset] []))
    refine own_go (fun _ kS => XS.iloadN X.here hx rfl (hb hby d2_20) rfl kS) ?_
    show own_Run p e below _ (T.setTop (mkF m 21 #[.val (.ref ap), .val (.int fr), .val (.int ct), .val (.ref am), .val (.long sum), .second, .val (.int sl), .val (.ref ag), .val (.int (own_cut sum sl)), .val (.int sl), .unset, .unset] [(.int fr)]))
    refine own_go (fun _ kS => XS.istore X.here hx rfl (hb hby d2_21) rfl (l' := #[.val (.ref ap), .val (.int fr), .val (.int ct), .val (.ref am), .val (.long sum), .second, .val (.int sl), .val (.ref ag), .val (.int (own_cut sum sl)), .val (.int sl), .val (.int fr), .unset]) rfl kS) ?_
    show own_Run p e below _ (T.setTop (mkF m 23 #[.val (.ref ap), .val (.int fr), .val (.int ct), .val (.ref am), .val (.long sum), .second, .val (.int sl), .val (.ref ag), .val (.int (own_cut sum sl)), .val (.int sl), .val (.int fr), .unset] []))
    have loop : ∀ (d j : Nat) (s11 : Slot) (T' : State) (h' : Heap) (locs : List Loc), j + d = nc → One s11 → Stand p l e ({ frames := 0, cells := 0, slots := 0, locals := 0 } : Room) s m #[(.ref ap), (.int fr), (.int ct), (.ref am), (.long sum), (.int sl), (.ref ag)] below meth c T' locs 0 0 → T'.heap = h' → Fr n0 locs → n0 ≤ h'.size → Keep h0 h' [ag] → own_Arr Z h' ap .int 4 (fun k => .int (Int32.ofInt (P k))) → own_Arr Z h' am .int 4 (fun k => .int (M k)) → own_Arr Z h' ag .int 4 (fun k => .int ((own_giv P M sl sum (own_cut sum sl) nf G j) k)) → own_Run p e below (own_End s ({ frames := 0, cells := 0, slots := 0, locals := 0 } : Room) (Q_gm Z ap fr ct am sum sl ag P M G nf nc n0 h0)) (T'.setTop (mkF m 23 #[.val (.ref ap), .val (.int fr), .val (.int ct), .val (.ref am), .val (.long sum), .second, .val (.int sl), .val (.ref ag), .val (.int (own_cut sum sl)), .val (.int (own_fre P M sl sum (own_cut sum sl) nf j)), .val (.int (Int32.ofInt ((nf + j : Nat) : Int))), s11] [])) := by
      intro d
      induction d with
      | zero =>
        intro j s11 T' h' locs hj h11 X' e' N hz K A_p A_m A_g
        have hij := own_oi (nf + j) (by omega)
        show own_Run p e below _ (T'.setTop (mkF m 23 #[.val (.ref ap), .val (.int fr), .val (.int ct), .val (.ref am), .val (.long sum), .second, .val (.int sl), .val (.ref ag), .val (.int (own_cut sum sl)), .val (.int (own_fre P M sl sum (own_cut sum sl) nf j)), .val (.int (Int32.ofInt ((nf + j : Nat) : Int))), s11] []))
        refine own_go (fun _ kS => XS.iload X'.here hx rfl (hb hby d2_23) rfl kS) ?_
        show own_Run p e below _ (T'.setTop (mkF m 25 #[.val (.ref ap), .val (.int fr), .val (.int ct), .val (.ref am), .val (.long sum), .second, .val (.int sl), .val (.ref ag), .val (.int (own_cut sum sl)), .val (.int (own_fre P M sl sum (own_cut sum sl) nf j)), .val (.int (Int32.ofInt ((nf + j : Nat) : Int))), s11] [(.int (Int32.ofInt ((nf + j : Nat) : Int)))]))
        refine own_go (fun _ kS => XS.iloadN X'.here hx rfl (hb hby d2_25) rfl kS) ?_
        show own_Run p e below _ (T'.setTop (mkF m 26 #[.val (.ref ap), .val (.int fr), .val (.int ct), .val (.ref am), .val (.long sum), .second, .val (.int sl), .val (.ref ag), .val (.int (own_cut sum sl)), .val (.int (own_fre P M sl sum (own_cut sum sl) nf j)), .val (.int (Int32.ofInt ((nf + j : Nat) : Int))), s11] [(.int fr), (.int (Int32.ofInt ((nf + j : Nat) : Int)))]))
        refine own_go (fun _ kS => XS.iloadN X'.here hx rfl (hb hby d2_26) rfl kS) ?_
        show own_Run p e below _ (T'.setTop (mkF m 27 #[.val (.ref ap), .val (.int fr), .val (.int ct), .val (.ref am), .val (.long sum), .second, .val (.int sl), .val (.ref ag), .val (.int (own_cut sum sl)), .val (.int (own_fre P M sl sum (own_cut sum sl) nf j)), .val (.int (Int32.ofInt ((nf + j : Nat) : Int))), s11] [(.int ct), (.int fr), (.int (Int32.ofInt ((nf + j : Nat) : Int)))]))
        refine own_go (fun _ kS => XS.iadd X'.here hx rfl (hb hby d2_27) rfl kS) ?_
        show own_Run p e below _ (T'.setTop (mkF m 28 #[.val (.ref ap), .val (.int fr), .val (.int ct), .val (.ref am), .val (.long sum), .second, .val (.int sl), .val (.ref ag), .val (.int (own_cut sum sl)), .val (.int (own_fre P M sl sum (own_cut sum sl) nf j)), .val (.int (Int32.ofInt ((nf + j : Nat) : Int))), s11] [(.int (fr + ct)), (.int (Int32.ofInt ((nf + j : Nat) : Int)))]))
        refine own_go (fun _ kS => XS.icmpYes X'.here hx rfl (pc0 := 28) (pc' := 83) rfl (hb hby d2_28) rfl (flt (show ¬ ((Int32.ofInt ((nf + j : Nat) : Int)) < (fr + ct)) from (by rw [Int32.lt_iff_toInt_lt]; omega))).2.1 (by decide) (by decide) kS) ?_
        show own_Run p e below _ (T'.setTop (mkF m 83 #[.val (.ref ap), .val (.int fr), .val (.int ct), .val (.ref am), .val (.long sum), .second, .val (.int sl), .val (.ref ag), .val (.int (own_cut sum sl)), .val (.int (own_fre P M sl sum (own_cut sum sl) nf j)), .val (.int (Int32.ofInt ((nf + j : Nat) : Int))), s11] []))
        refine own_go (fun _ kS => XS.iload X'.here hx rfl (hb hby d2_83) rfl kS) ?_
        show own_Run p e below _ (T'.setTop (mkF m 85 #[.val (.ref ap), .val (.int fr), .val (.int ct), .val (.ref am), .val (.long sum), .second, .val (.int sl), .val (.ref ag), .val (.int (own_cut sum sl)), .val (.int (own_fre P M sl sum (own_cut sum sl) nf j)), .val (.int (Int32.ofInt ((nf + j : Nat) : Int))), s11] [(.int (own_fre P M sl sum (own_cut sum sl) nf j))]))
        refine own_retI X' hx hret hlk (hb hby d2_85) (by decide) (by decide) ?_
        rw [e']
        have hjn : j = nc := by omega
        subst hjn
        exact ⟨rfl, N, K, A_g⟩
      | succ d ih =>
        intro j s11 T' h' locs hj h11 X' e' N hz K A_p A_m A_g
        have hij := own_oi (nf + j) (by omega)
        show own_Run p e below _ (T'.setTop (mkF m 23 #[.val (.ref ap), .val (.int fr), .val (.int ct), .val (.ref am), .val (.long sum), .second, .val (.int sl), .val (.ref ag), .val (.int (own_cut sum sl)), .val (.int (own_fre P M sl sum (own_cut sum sl) nf j)), .val (.int (Int32.ofInt ((nf + j : Nat) : Int))), s11] []))
        have hPj := hP (nf + j) (by omega)
        have cPj := own_ofn (P (nf + j)) (by omega)
        refine own_go (fun _ kS => XS.iload X'.here hx rfl (hb hby d2_23) rfl kS) ?_
        show own_Run p e below _ (T'.setTop (mkF m 25 #[.val (.ref ap), .val (.int fr), .val (.int ct), .val (.ref am), .val (.long sum), .second, .val (.int sl), .val (.ref ag), .val (.int (own_cut sum sl)), .val (.int (own_fre P M sl sum (own_cut sum sl) nf j)), .val (.int (Int32.ofInt ((nf + j : Nat) : Int))), s11] [(.int (Int32.ofInt ((nf + j : Nat) : Int)))]))
        refine own_go (fun _ kS => XS.iloadN X'.here hx rfl (hb hby d2_25) rfl kS) ?_
        show own_Run p e below _ (T'.setTop (mkF m 26 #[.val (.ref ap), .val (.int fr), .val (.int ct), .val (.ref am), .val (.long sum), .second, .val (.int sl), .val (.ref ag), .val (.int (own_cut sum sl)), .val (.int (own_fre P M sl sum (own_cut sum sl) nf j)), .val (.int (Int32.ofInt ((nf + j : Nat) : Int))), s11] [(.int fr), (.int (Int32.ofInt ((nf + j : Nat) : Int)))]))
        refine own_go (fun _ kS => XS.iloadN X'.here hx rfl (hb hby d2_26) rfl kS) ?_
        show own_Run p e below _ (T'.setTop (mkF m 27 #[.val (.ref ap), .val (.int fr), .val (.int ct), .val (.ref am), .val (.long sum), .second, .val (.int sl), .val (.ref ag), .val (.int (own_cut sum sl)), .val (.int (own_fre P M sl sum (own_cut sum sl) nf j)), .val (.int (Int32.ofInt ((nf + j : Nat) : Int))), s11] [(.int ct), (.int fr), (.int (Int32.ofInt ((nf + j : Nat) : Int)))]))
        refine own_go (fun _ kS => XS.iadd X'.here hx rfl (hb hby d2_27) rfl kS) ?_
        show own_Run p e below _ (T'.setTop (mkF m 28 #[.val (.ref ap), .val (.int fr), .val (.int ct), .val (.ref am), .val (.long sum), .second, .val (.int sl), .val (.ref ag), .val (.int (own_cut sum sl)), .val (.int (own_fre P M sl sum (own_cut sum sl) nf j)), .val (.int (Int32.ofInt ((nf + j : Nat) : Int))), s11] [(.int (fr + ct)), (.int (Int32.ofInt ((nf + j : Nat) : Int)))]))
        refine own_go (fun _ kS => XS.icmpNo X'.here hx rfl (hb hby d2_28) rfl (tlt (show (Int32.ofInt ((nf + j : Nat) : Int)) < (fr + ct) from (by rw [Int32.lt_iff_toInt_lt]; omega))).2.1 kS) ?_
        show own_Run p e below _ (T'.setTop (mkF m 31 #[.val (.ref ap), .val (.int fr), .val (.int ct), .val (.ref am), .val (.long sum), .second, .val (.int sl), .val (.ref ag), .val (.int (own_cut sum sl)), .val (.int (own_fre P M sl sum (own_cut sum sl) nf j)), .val (.int (Int32.ofInt ((nf + j : Nat) : Int))), s11] []))
        refine own_go (fun _ kS => XS.aloadN X'.here hx rfl (hb hby d2_31) rfl rfl kS) ?_
        show own_Run p e below _ (T'.setTop (mkF m 32 #[.val (.ref ap), .val (.int fr), .val (.int ct), .val (.ref am), .val (.long sum), .second, .val (.int sl), .val (.ref ag), .val (.int (own_cut sum sl)), .val (.int (own_fre P M sl sum (own_cut sum sl) nf j)), .val (.int (Int32.ofInt ((nf + j : Nat) : Int))), s11] [(.ref ap)]))
        refine own_go (fun _ kS => XS.iload X'.here hx rfl (hb hby d2_32) rfl kS) ?_
        show own_Run p e below _ (T'.setTop (mkF m 34 #[.val (.ref ap), .val (.int fr), .val (.int ct), .val (.ref am), .val (.long sum), .second, .val (.int sl), .val (.ref ag), .val (.int (own_cut sum sl)), .val (.int (own_fre P M sl sum (own_cut sum sl) nf j)), .val (.int (Int32.ofInt ((nf + j : Nat) : Int))), s11] [(.int (Int32.ofInt ((nf + j : Nat) : Int))), (.ref ap)]))
        refine own_iaload X' hx hZ e' A_p (j := (Int32.ofInt ((nf + j : Nat) : Int))) (Int32.ofInt ((P (nf + j) : Nat) : Int)) ⟨by first | omega | (rw [own_oi _ (by omega)]; omega), by first | omega | (rw [own_oi _ (by omega)]; omega)⟩ (by show Value.int (Int32.ofInt ((P (Int32.ofInt ((nf + j : Nat) : Int)).toNatClampNeg : Nat) : Int)) = _; rw [own_ofn (nf + j) (by omega)]) rfl rfl (hb hby d2_34) ?_
        show own_Run p e below _ (T'.setTop (mkF m 35 #[.val (.ref ap), .val (.int fr), .val (.int ct), .val (.ref am), .val (.long sum), .second, .val (.int sl), .val (.ref ag), .val (.int (own_cut sum sl)), .val (.int (own_fre P M sl sum (own_cut sum sl) nf j)), .val (.int (Int32.ofInt ((nf + j : Nat) : Int))), s11] [(.int (Int32.ofInt ((P (nf + j) : Nat) : Int)))]))
        refine own_go (fun _ kS => XS.istore X'.here hx rfl (hb hby d2_35) rfl (l' := #[.val (.ref ap), .val (.int fr), .val (.int ct), .val (.ref am), .val (.long sum), .second, .val (.int sl), .val (.ref ag), .val (.int (own_cut sum sl)), .val (.int (own_fre P M sl sum (own_cut sum sl) nf j)), .val (.int (Int32.ofInt ((nf + j : Nat) : Int))), .val (.int (Int32.ofInt ((P (nf + j) : Nat) : Int)))]) (own_st11 h11) kS) ?_
        show own_Run p e below _ (T'.setTop (mkF m 37 #[.val (.ref ap), .val (.int fr), .val (.int ct), .val (.ref am), .val (.long sum), .second, .val (.int sl), .val (.ref ag), .val (.int (own_cut sum sl)), .val (.int (own_fre P M sl sum (own_cut sum sl) nf j)), .val (.int (Int32.ofInt ((nf + j : Nat) : Int))), .val (.int (Int32.ofInt ((P (nf + j) : Nat) : Int)))] []))
        refine own_go (fun _ kS => XS.aload X'.here hx rfl (hb hby d2_37) rfl rfl kS) ?_
        show own_Run p e below _ (T'.setTop (mkF m 39 #[.val (.ref ap), .val (.int fr), .val (.int ct), .val (.ref am), .val (.long sum), .second, .val (.int sl), .val (.ref ag), .val (.int (own_cut sum sl)), .val (.int (own_fre P M sl sum (own_cut sum sl) nf j)), .val (.int (Int32.ofInt ((nf + j : Nat) : Int))), .val (.int (Int32.ofInt ((P (nf + j) : Nat) : Int)))] [(.ref ag)]))
        refine own_go (fun _ kS => XS.iload X'.here hx rfl (hb hby d2_39) rfl kS) ?_
        show own_Run p e below _ (T'.setTop (mkF m 41 #[.val (.ref ap), .val (.int fr), .val (.int ct), .val (.ref am), .val (.long sum), .second, .val (.int sl), .val (.ref ag), .val (.int (own_cut sum sl)), .val (.int (own_fre P M sl sum (own_cut sum sl) nf j)), .val (.int (Int32.ofInt ((nf + j : Nat) : Int))), .val (.int (Int32.ofInt ((P (nf + j) : Nat) : Int)))] [(.int (Int32.ofInt ((P (nf + j) : Nat) : Int))), (.ref ag)]))
        refine own_go (fun _ kS => XS.iload X'.here hx rfl (hb hby d2_41) rfl kS) ?_
        show own_Run p e below _ (T'.setTop (mkF m 43 #[.val (.ref ap), .val (.int fr), .val (.int ct), .val (.ref am), .val (.long sum), .second, .val (.int sl), .val (.ref ag), .val (.int (own_cut sum sl)), .val (.int (own_fre P M sl sum (own_cut sum sl) nf j)), .val (.int (Int32.ofInt ((nf + j : Nat) : Int))), .val (.int (Int32.ofInt ((P (nf + j) : Nat) : Int)))] [(.int (own_cut sum sl)), (.int (Int32.ofInt ((P (nf + j) : Nat) : Int))), (.ref ag)]))
        have J66 : ∀ val : Int32, val = (own_ex (M (P (nf + j))) sl sum (own_cut sum sl)) → own_Run p e below (own_End s ({ frames := 0, cells := 0, slots := 0, locals := 0 } : Room) (Q_gm Z ap fr ct am sum sl ag P M G nf nc n0 h0)) (T'.setTop (mkF m 66 #[.val (.ref ap), .val (.int fr), .val (.int ct), .val (.ref am), .val (.long sum), .second, .val (.int sl), .val (.ref ag), .val (.int (own_cut sum sl)), .val (.int (own_fre P M sl sum (own_cut sum sl) nf j)), .val (.int (Int32.ofInt ((nf + j : Nat) : Int))), .val (.int (Int32.ofInt ((P (nf + j) : Nat) : Int)))] [(.int val), (.int (Int32.ofInt ((P (nf + j) : Nat) : Int))), (.ref ag)])) := by
          intro val hval
          subst hval
          show own_Run p e below _ (T'.setTop (mkF m 66 #[.val (.ref ap), .val (.int fr), .val (.int ct), .val (.ref am), .val (.long sum), .second, .val (.int sl), .val (.ref ag), .val (.int (own_cut sum sl)), .val (.int (own_fre P M sl sum (own_cut sum sl) nf j)), .val (.int (Int32.ofInt ((nf + j : Nat) : Int))), .val (.int (Int32.ofInt ((P (nf + j) : Nat) : Int)))] [(.int (own_ex (M (P (nf + j))) sl sum (own_cut sum sl))), (.int (Int32.ofInt ((P (nf + j) : Nat) : Int))), (.ref ag)]))
          refine own_iastore X' hx hZ e' A_g (j := (Int32.ofInt ((P (nf + j) : Nat) : Int))) ⟨by first | omega | (rw [own_oi _ (by omega)]; omega), by first | omega | (rw [own_oi _ (by omega)]; omega)⟩ rfl rfl (hb hby d2_66) (fun T1 h1 X1 e1 W1 A1 => ?_)
          replace A_p := A_p.other W1 npg
          replace A_m := A_m.other W1 nmg
          replace hz := Nat.le_trans hz (Nat.le_of_eq W1.size.symm)
          replace N := Fr.snoc X1 N g_ag
          replace K := K.wr W1 (Or.inl (List.mem_of_getElem? (i := 0) rfl))
          replace A1 : own_Arr Z h1 ag .int 4 (fun k => .int ((own_giv P M sl sum (own_cut sum sl) nf G (j + 1)) k)) := A1.congr (fun i _ => own_givst P M sl sum (own_cut sum sl) nf G j i cPj)
          show own_Run p e below _ (T1.setTop (mkF m 67 #[.val (.ref ap), .val (.int fr), .val (.int ct), .val (.ref am), .val (.long sum), .second, .val (.int sl), .val (.ref ag), .val (.int (own_cut sum sl)), .val (.int (own_fre P M sl sum (own_cut sum sl) nf j)), .val (.int (Int32.ofInt ((nf + j : Nat) : Int))), .val (.int (Int32.ofInt ((P (nf + j) : Nat) : Int)))] []))
          refine own_go (fun _ kS => XS.iload X1.here hx rfl (hb hby d2_67) rfl kS) ?_
          show own_Run p e below _ (T1.setTop (mkF m 69 #[.val (.ref ap), .val (.int fr), .val (.int ct), .val (.ref am), .val (.long sum), .second, .val (.int sl), .val (.ref ag), .val (.int (own_cut sum sl)), .val (.int (own_fre P M sl sum (own_cut sum sl) nf j)), .val (.int (Int32.ofInt ((nf + j : Nat) : Int))), .val (.int (Int32.ofInt ((P (nf + j) : Nat) : Int)))] [(.int (own_fre P M sl sum (own_cut sum sl) nf j))]))
          refine own_go (fun _ kS => XS.aload X1.here hx rfl (hb hby d2_69) rfl rfl kS) ?_
          show own_Run p e below _ (T1.setTop (mkF m 71 #[.val (.ref ap), .val (.int fr), .val (.int ct), .val (.ref am), .val (.long sum), .second, .val (.int sl), .val (.ref ag), .val (.int (own_cut sum sl)), .val (.int (own_fre P M sl sum (own_cut sum sl) nf j)), .val (.int (Int32.ofInt ((nf + j : Nat) : Int))), .val (.int (Int32.ofInt ((P (nf + j) : Nat) : Int)))] [(.ref ag), (.int (own_fre P M sl sum (own_cut sum sl) nf j))]))
          refine own_go (fun _ kS => XS.iload X1.here hx rfl (hb hby d2_71) rfl kS) ?_
          show own_Run p e below _ (T1.setTop (mkF m 73 #[.val (.ref ap), .val (.int fr), .val (.int ct), .val (.ref am), .val (.long sum), .second, .val (.int sl), .val (.ref ag), .val (.int (own_cut sum sl)), .val (.int (own_fre P M sl sum (own_cut sum sl) nf j)), .val (.int (Int32.ofInt ((nf + j : Nat) : Int))), .val (.int (Int32.ofInt ((P (nf + j) : Nat) : Int)))] [(.int (Int32.ofInt ((P (nf + j) : Nat) : Int))), (.ref ag), (.int (own_fre P M sl sum (own_cut sum sl) nf j))]))
          refine own_iaload X1 hx hZ e1 A1 (j := (Int32.ofInt ((P (nf + j) : Nat) : Int))) (own_ex (M (P (nf + j))) sl sum (own_cut sum sl)) ⟨by first | omega | (rw [own_oi _ (by omega)]; omega), by first | omega | (rw [own_oi _ (by omega)]; omega)⟩ (by show Value.int (own_giv P M sl sum (own_cut sum sl) nf G (j + 1) (Int32.ofInt ((P (nf + j) : Nat) : Int)).toNatClampNeg) = _; rw [cPj]; exact congrArg Value.int (own_givhit P M sl sum (own_cut sum sl) nf G j)) rfl rfl (hb hby d2_73) ?_
          show own_Run p e below _ (T1.setTop (mkF m 74 #[.val (.ref ap), .val (.int fr), .val (.int ct), .val (.ref am), .val (.long sum), .second, .val (.int sl), .val (.ref ag), .val (.int (own_cut sum sl)), .val (.int (own_fre P M sl sum (own_cut sum sl) nf j)), .val (.int (Int32.ofInt ((nf + j : Nat) : Int))), .val (.int (Int32.ofInt ((P (nf + j) : Nat) : Int)))] [(.int (own_ex (M (P (nf + j))) sl sum (own_cut sum sl))), (.int (own_fre P M sl sum (own_cut sum sl) nf j))]))
          refine own_go (fun _ kS => XS.isub X1.here hx rfl (hb hby d2_74) rfl kS) ?_
          show own_Run p e below _ (T1.setTop (mkF m 75 #[.val (.ref ap), .val (.int fr), .val (.int ct), .val (.ref am), .val (.long sum), .second, .val (.int sl), .val (.ref ag), .val (.int (own_cut sum sl)), .val (.int (own_fre P M sl sum (own_cut sum sl) nf j)), .val (.int (Int32.ofInt ((nf + j : Nat) : Int))), .val (.int (Int32.ofInt ((P (nf + j) : Nat) : Int)))] [(.int ((own_fre P M sl sum (own_cut sum sl) nf j) - (own_ex (M (P (nf + j))) sl sum (own_cut sum sl))))]))
          refine own_go (fun _ kS => XS.istore X1.here hx rfl (hb hby d2_75) rfl (l' := #[.val (.ref ap), .val (.int fr), .val (.int ct), .val (.ref am), .val (.long sum), .second, .val (.int sl), .val (.ref ag), .val (.int (own_cut sum sl)), .val (.int ((own_fre P M sl sum (own_cut sum sl) nf j) - (own_ex (M (P (nf + j))) sl sum (own_cut sum sl)))), .val (.int (Int32.ofInt ((nf + j : Nat) : Int))), .val (.int (Int32.ofInt ((P (nf + j) : Nat) : Int)))]) rfl kS) ?_
          show own_Run p e below _ (T1.setTop (mkF m 77 #[.val (.ref ap), .val (.int fr), .val (.int ct), .val (.ref am), .val (.long sum), .second, .val (.int sl), .val (.ref ag), .val (.int (own_cut sum sl)), .val (.int ((own_fre P M sl sum (own_cut sum sl) nf j) - (own_ex (M (P (nf + j))) sl sum (own_cut sum sl)))), .val (.int (Int32.ofInt ((nf + j : Nat) : Int))), .val (.int (Int32.ofInt ((P (nf + j) : Nat) : Int)))] []))
          refine own_go (fun _ kS => XS.iinc X1.here hx rfl (hb hby d2_77) rfl (l' := #[.val (.ref ap), .val (.int fr), .val (.int ct), .val (.ref am), .val (.long sum), .second, .val (.int sl), .val (.ref ag), .val (.int (own_cut sum sl)), .val (.int ((own_fre P M sl sum (own_cut sum sl) nf j) - (own_ex (M (P (nf + j))) sl sum (own_cut sum sl)))), .val (.int ((Int32.ofInt ((nf + j : Nat) : Int)) + (1 : Int32))), .val (.int (Int32.ofInt ((P (nf + j) : Nat) : Int)))]) rfl kS) ?_
          show own_Run p e below _ (T1.setTop (mkF m 80 #[.val (.ref ap), .val (.int fr), .val (.int ct), .val (.ref am), .val (.long sum), .second, .val (.int sl), .val (.ref ag), .val (.int (own_cut sum sl)), .val (.int ((own_fre P M sl sum (own_cut sum sl) nf j) - (own_ex (M (P (nf + j))) sl sum (own_cut sum sl)))), .val (.int ((Int32.ofInt ((nf + j : Nat) : Int)) + (1 : Int32))), .val (.int (Int32.ofInt ((P (nf + j) : Nat) : Int)))] []))
          refine own_go (fun _ kS => XS.goto X1.here hx rfl (pc0 := 80) (pc' := 23) rfl (hb hby d2_80) (by decide) (by decide) kS) ?_
          show own_Run p e below _ (T1.setTop (mkF m 23 #[.val (.ref ap), .val (.int fr), .val (.int ct), .val (.ref am), .val (.long sum), .second, .val (.int sl), .val (.ref ag), .val (.int (own_cut sum sl)), .val (.int ((own_fre P M sl sum (own_cut sum sl) nf j) - (own_ex (M (P (nf + j))) sl sum (own_cut sum sl)))), .val (.int ((Int32.ofInt ((nf + j : Nat) : Int)) + (1 : Int32))), .val (.int (Int32.ofInt ((P (nf + j) : Nat) : Int)))] []))
          rw [own_next (nf + j)]
          exact ih (j + 1) _ _ _ _ (by omega) (One.val rfl) X1 e1 N hz K A_p A_m A1
        by_cases hc43 : (own_cut sum sl) = (0 : Int32)
        · refine own_go (fun _ kS => XS.ifYes X'.here hx rfl (pc0 := 43) (pc' := 62) rfl (hb hby d2_43) rfl ((if0 _ _).trans (teq hc43).1) (by decide) (by decide) kS) ?_
          show own_Run p e below _ (T'.setTop (mkF m 62 #[.val (.ref ap), .val (.int fr), .val (.int ct), .val (.ref am), .val (.long sum), .second, .val (.int sl), .val (.ref ag), .val (.int (own_cut sum sl)), .val (.int (own_fre P M sl sum (own_cut sum sl) nf j)), .val (.int (Int32.ofInt ((nf + j : Nat) : Int))), .val (.int (Int32.ofInt ((P (nf + j) : Nat) : Int)))] [(.int (Int32.ofInt ((P (nf + j) : Nat) : Int))), (.ref ag)]))
          refine own_go (fun _ kS => XS.aloadN X'.here hx rfl (hb hby d2_62) rfl rfl kS) ?_
          show own_Run p e below _ (T'.setTop (mkF m 63 #[.val (.ref ap), .val (.int fr), .val (.int ct), .val (.ref am), .val (.long sum), .second, .val (.int sl), .val (.ref ag), .val (.int (own_cut sum sl)), .val (.int (own_fre P M sl sum (own_cut sum sl) nf j)), .val (.int (Int32.ofInt ((nf + j : Nat) : Int))), .val (.int (Int32.ofInt ((P (nf + j) : Nat) : Int)))] [(.ref am), (.int (Int32.ofInt ((P (nf + j) : Nat) : Int))), (.ref ag)]))
          refine own_go (fun _ kS => XS.iload X'.here hx rfl (hb hby d2_63) rfl kS) ?_
          show own_Run p e below _ (T'.setTop (mkF m 65 #[.val (.ref ap), .val (.int fr), .val (.int ct), .val (.ref am), .val (.long sum), .second, .val (.int sl), .val (.ref ag), .val (.int (own_cut sum sl)), .val (.int (own_fre P M sl sum (own_cut sum sl) nf j)), .val (.int (Int32.ofInt ((nf + j : Nat) : Int))), .val (.int (Int32.ofInt ((P (nf + j) : Nat) : Int)))] [(.int (Int32.ofInt ((P (nf + j) : Nat) : Int))), (.ref am), (.int (Int32.ofInt ((P (nf + j) : Nat) : Int))), (.ref ag)]))
          refine own_iaload X' hx hZ e' A_m (j := (Int32.ofInt ((P (nf + j) : Nat) : Int))) (M (P (nf + j))) ⟨by first | omega | (rw [own_oi _ (by omega)]; omega), by first | omega | (rw [own_oi _ (by omega)]; omega)⟩ (by show Value.int (M (Int32.ofInt ((P (nf + j) : Nat) : Int)).toNatClampNeg) = _; rw [cPj]) rfl rfl (hb hby d2_65) ?_
          show own_Run p e below _ (T'.setTop (mkF m 66 #[.val (.ref ap), .val (.int fr), .val (.int ct), .val (.ref am), .val (.long sum), .second, .val (.int sl), .val (.ref ag), .val (.int (own_cut sum sl)), .val (.int (own_fre P M sl sum (own_cut sum sl) nf j)), .val (.int (Int32.ofInt ((nf + j : Nat) : Int))), .val (.int (Int32.ofInt ((P (nf + j) : Nat) : Int)))] [(.int (M (P (nf + j)))), (.int (Int32.ofInt ((P (nf + j) : Nat) : Int))), (.ref ag)]))
          exact J66 _ (by unfold own_ex; first | rw [if_pos hc43] | rw [if_neg hc43])
        · refine own_go (fun _ kS => XS.ifNo X'.here hx rfl (hb hby d2_43) rfl ((if0 _ _).trans (feq hc43).1) kS) ?_
          show own_Run p e below _ (T'.setTop (mkF m 46 #[.val (.ref ap), .val (.int fr), .val (.int ct), .val (.ref am), .val (.long sum), .second, .val (.int sl), .val (.ref ag), .val (.int (own_cut sum sl)), .val (.int (own_fre P M sl sum (own_cut sum sl) nf j)), .val (.int (Int32.ofInt ((nf + j : Nat) : Int))), .val (.int (Int32.ofInt ((P (nf + j) : Nat) : Int)))] [(.int (Int32.ofInt ((P (nf + j) : Nat) : Int))), (.ref ag)]))
          refine own_go (fun _ kS => XS.aloadN X'.here hx rfl (hb hby d2_46) rfl rfl kS) ?_
          show own_Run p e below _ (T'.setTop (mkF m 47 #[.val (.ref ap), .val (.int fr), .val (.int ct), .val (.ref am), .val (.long sum), .second, .val (.int sl), .val (.ref ag), .val (.int (own_cut sum sl)), .val (.int (own_fre P M sl sum (own_cut sum sl) nf j)), .val (.int (Int32.ofInt ((nf + j : Nat) : Int))), .val (.int (Int32.ofInt ((P (nf + j) : Nat) : Int)))] [(.ref am), (.int (Int32.ofInt ((P (nf + j) : Nat) : Int))), (.ref ag)]))
          refine own_go (fun _ kS => XS.iload X'.here hx rfl (hb hby d2_47) rfl kS) ?_
          show own_Run p e below _ (T'.setTop (mkF m 49 #[.val (.ref ap), .val (.int fr), .val (.int ct), .val (.ref am), .val (.long sum), .second, .val (.int sl), .val (.ref ag), .val (.int (own_cut sum sl)), .val (.int (own_fre P M sl sum (own_cut sum sl) nf j)), .val (.int (Int32.ofInt ((nf + j : Nat) : Int))), .val (.int (Int32.ofInt ((P (nf + j) : Nat) : Int)))] [(.int (Int32.ofInt ((P (nf + j) : Nat) : Int))), (.ref am), (.int (Int32.ofInt ((P (nf + j) : Nat) : Int))), (.ref ag)]))
          refine own_iaload X' hx hZ e' A_m (j := (Int32.ofInt ((P (nf + j) : Nat) : Int))) (M (P (nf + j))) ⟨by first | omega | (rw [own_oi _ (by omega)]; omega), by first | omega | (rw [own_oi _ (by omega)]; omega)⟩ (by show Value.int (M (Int32.ofInt ((P (nf + j) : Nat) : Int)).toNatClampNeg) = _; rw [cPj]) rfl rfl (hb hby d2_49) ?_
          show own_Run p e below _ (T'.setTop (mkF m 50 #[.val (.ref ap), .val (.int fr), .val (.int ct), .val (.ref am), .val (.long sum), .second, .val (.int sl), .val (.ref ag), .val (.int (own_cut sum sl)), .val (.int (own_fre P M sl sum (own_cut sum sl) nf j)), .val (.int (Int32.ofInt ((nf + j : Nat) : Int))), .val (.int (Int32.ofInt ((P (nf + j) : Nat) : Int)))] [(.int (M (P (nf + j)))), (.int (Int32.ofInt ((P (nf + j) : Nat) : Int))), (.ref ag)]))
          refine own_go (fun _ kS => XS.i2l X'.here hx rfl (hb hby d2_50) rfl kS) ?_
          show own_Run p e below _ (T'.setTop (mkF m 51 #[.val (.ref ap), .val (.int fr), .val (.int ct), .val (.ref am), .val (.long sum), .second, .val (.int sl), .val (.ref ag), .val (.int (own_cut sum sl)), .val (.int (own_fre P M sl sum (own_cut sum sl) nf j)), .val (.int (Int32.ofInt ((nf + j : Nat) : Int))), .val (.int (Int32.ofInt ((P (nf + j) : Nat) : Int)))] [(.long (M (P (nf + j))).toInt64), (.int (Int32.ofInt ((P (nf + j) : Nat) : Int))), (.ref ag)]))
          refine own_go (fun _ kS => XS.iload X'.here hx rfl (hb hby d2_51) rfl kS) ?_
          show own_Run p e below _ (T'.setTop (mkF m 53 #[.val (.ref ap), .val (.int fr), .val (.int ct), .val (.ref am), .val (.long sum), .second, .val (.int sl), .val (.ref ag), .val (.int (own_cut sum sl)), .val (.int (own_fre P M sl sum (own_cut sum sl) nf j)), .val (.int (Int32.ofInt ((nf + j : Nat) : Int))), .val (.int (Int32.ofInt ((P (nf + j) : Nat) : Int)))] [(.int sl), (.long (M (P (nf + j))).toInt64), (.int (Int32.ofInt ((P (nf + j) : Nat) : Int))), (.ref ag)]))
          refine own_go (fun _ kS => XS.i2l X'.here hx rfl (hb hby d2_53) rfl kS) ?_
          show own_Run p e below _ (T'.setTop (mkF m 54 #[.val (.ref ap), .val (.int fr), .val (.int ct), .val (.ref am), .val (.long sum), .second, .val (.int sl), .val (.ref ag), .val (.int (own_cut sum sl)), .val (.int (own_fre P M sl sum (own_cut sum sl) nf j)), .val (.int (Int32.ofInt ((nf + j : Nat) : Int))), .val (.int (Int32.ofInt ((P (nf + j) : Nat) : Int)))] [(.long sl.toInt64), (.long (M (P (nf + j))).toInt64), (.int (Int32.ofInt ((P (nf + j) : Nat) : Int))), (.ref ag)]))
          refine own_go (fun _ kS => XS.lmul X'.here hx rfl (hb hby d2_54) rfl kS) ?_
          show own_Run p e below _ (T'.setTop (mkF m 55 #[.val (.ref ap), .val (.int fr), .val (.int ct), .val (.ref am), .val (.long sum), .second, .val (.int sl), .val (.ref ag), .val (.int (own_cut sum sl)), .val (.int (own_fre P M sl sum (own_cut sum sl) nf j)), .val (.int (Int32.ofInt ((nf + j : Nat) : Int))), .val (.int (Int32.ofInt ((P (nf + j) : Nat) : Int)))] [(.long ((M (P (nf + j))).toInt64 * sl.toInt64)), (.int (Int32.ofInt ((P (nf + j) : Nat) : Int))), (.ref ag)]))
          refine own_go (fun _ kS => XS.lload X'.here hx rfl (hb hby d2_55) rfl kS) ?_
          show own_Run p e below _ (T'.setTop (mkF m 57 #[.val (.ref ap), .val (.int fr), .val (.int ct), .val (.ref am), .val (.long sum), .second, .val (.int sl), .val (.ref ag), .val (.int (own_cut sum sl)), .val (.int (own_fre P M sl sum (own_cut sum sl) nf j)), .val (.int (Int32.ofInt ((nf + j : Nat) : Int))), .val (.int (Int32.ofInt ((P (nf + j) : Nat) : Int)))] [(.long sum), (.long ((M (P (nf + j))).toInt64 * sl.toInt64)), (.int (Int32.ofInt ((P (nf + j) : Nat) : Int))), (.ref ag)]))
          refine own_go (fun _ kS => XS.ldiv X'.here hx rfl (hb hby d2_57) rfl (own_cutnz hsl hc43) kS) ?_
          show own_Run p e below _ (T'.setTop (mkF m 58 #[.val (.ref ap), .val (.int fr), .val (.int ct), .val (.ref am), .val (.long sum), .second, .val (.int sl), .val (.ref ag), .val (.int (own_cut sum sl)), .val (.int (own_fre P M sl sum (own_cut sum sl) nf j)), .val (.int (Int32.ofInt ((nf + j : Nat) : Int))), .val (.int (Int32.ofInt ((P (nf + j) : Nat) : Int)))] [(.long (((M (P (nf + j))).toInt64 * sl.toInt64) / sum)), (.int (Int32.ofInt ((P (nf + j) : Nat) : Int))), (.ref ag)]))
          refine own_go (fun _ kS => XS.l2i X'.here hx rfl (hb hby d2_58) rfl kS) ?_
          show own_Run p e below _ (T'.setTop (mkF m 59 #[.val (.ref ap), .val (.int fr), .val (.int ct), .val (.ref am), .val (.long sum), .second, .val (.int sl), .val (.ref ag), .val (.int (own_cut sum sl)), .val (.int (own_fre P M sl sum (own_cut sum sl) nf j)), .val (.int (Int32.ofInt ((nf + j : Nat) : Int))), .val (.int (Int32.ofInt ((P (nf + j) : Nat) : Int)))] [(.int (((M (P (nf + j))).toInt64 * sl.toInt64) / sum).toInt32), (.int (Int32.ofInt ((P (nf + j) : Nat) : Int))), (.ref ag)]))
          refine own_go (fun _ kS => XS.goto X'.here hx rfl (pc0 := 59) (pc' := 66) rfl (hb hby d2_59) (by decide) (by decide) kS) ?_
          show own_Run p e below _ (T'.setTop (mkF m 66 #[.val (.ref ap), .val (.int fr), .val (.int ct), .val (.ref am), .val (.long sum), .second, .val (.int sl), .val (.ref ag), .val (.int (own_cut sum sl)), .val (.int (own_fre P M sl sum (own_cut sum sl) nf j)), .val (.int (Int32.ofInt ((nf + j : Nat) : Int))), .val (.int (Int32.ofInt ((P (nf + j) : Nat) : Int)))] [(.int (((M (P (nf + j))).toInt64 * sl.toInt64) / sum).toInt32), (.int (Int32.ofInt ((P (nf + j) : Nat) : Int))), (.ref ag)]))
          exact J66 _ (by unfold own_ex; first | rw [if_pos hc43] | rw [if_neg hc43])
    have q := loop nc 0 .unset _ _ _ (by omega) One.u X e0 N hz K A_p A_m A_g
    have hfr : fr = Int32.ofInt ((nf + 0 : Nat) : Int) := own_inj (by rw [own_oi (nf + 0) (by omega)]; exact hnf)
    rw [← hfr] at q
    exact q
  by_cases hc6 : sl.toInt64 < sum
  · refine own_go (fun _ kS => XS.ifNo X.here hx rfl (hb hby d2_6) rfl ((if0 _ _).trans (tlt ((lw_gt sum sl.toInt64).mpr hc6)).2.2.2) kS) ?_
    show own_Run p e below _ (T.setTop (mkF m 9 #[.val (.ref ap), .val (.int fr), .val (.int ct), .val (.ref am), .val (.long sum), .second, .val (.int sl), .val (.ref ag), .unset, .unset, .unset, .unset] []))
    refine own_go (fun _ kS => XS.iconst X.here hx rfl (hb hby d2_9) kS) ?_
    show own_Run p e below _ (T.setTop (mkF m 10 #[.val (.ref ap), .val (.int fr), .val (.int ct), .val (.ref am), .val (.long sum), .second, .val (.int sl), .val (.ref ag), .unset, .unset, .unset, .unset] [(.int (1 : Int32))]))
    refine own_go (fun _ kS => XS.goto X.here hx rfl (pc0 := 10) (pc' := 14) rfl (hb hby d2_10) (by decide) (by decide) kS) ?_
    show own_Run p e below _ (T.setTop (mkF m 14 #[.val (.ref ap), .val (.int fr), .val (.int ct), .val (.ref am), .val (.long sum), .second, .val (.int sl), .val (.ref ag), .unset, .unset, .unset, .unset] [(.int (1 : Int32))]))
    refine own_go (fun _ kS => XS.istore X.here hx rfl (hb hby d2_14) rfl (l' := #[.val (.ref ap), .val (.int fr), .val (.int ct), .val (.ref am), .val (.long sum), .second, .val (.int sl), .val (.ref ag), .val (.int (1 : Int32)), .unset, .unset, .unset]) rfl kS) ?_
    show own_Run p e below _ (T.setTop (mkF m 16 #[.val (.ref ap), .val (.int fr), .val (.int ct), .val (.ref am), .val (.long sum), .second, .val (.int sl), .val (.ref ag), .val (.int (1 : Int32)), .unset, .unset, .unset] []))
    exact J16 _ (by unfold own_cut; first | rw [if_pos hc6] | rw [if_neg hc6])
  · refine own_go (fun _ kS => XS.ifYes X.here hx rfl (pc0 := 6) (pc' := 13) rfl (hb hby d2_6) rfl ((if0 _ _).trans (flt (mt (lw_gt sum sl.toInt64).mp hc6)).2.2.2) (by decide) (by decide) kS) ?_
    show own_Run p e below _ (T.setTop (mkF m 13 #[.val (.ref ap), .val (.int fr), .val (.int ct), .val (.ref am), .val (.long sum), .second, .val (.int sl), .val (.ref ag), .unset, .unset, .unset, .unset] []))
    refine own_go (fun _ kS => XS.iconst X.here hx rfl (hb hby d2_13) kS) ?_
    show own_Run p e below _ (T.setTop (mkF m 14 #[.val (.ref ap), .val (.int fr), .val (.int ct), .val (.ref am), .val (.long sum), .second, .val (.int sl), .val (.ref ag), .unset, .unset, .unset, .unset] [(.int (0 : Int32))]))
    refine own_go (fun _ kS => XS.istore X.here hx rfl (hb hby d2_14) rfl (l' := #[.val (.ref ap), .val (.int fr), .val (.int ct), .val (.ref am), .val (.long sum), .second, .val (.int sl), .val (.ref ag), .val (.int (0 : Int32)), .unset, .unset, .unset]) rfl kS) ?_
    show own_Run p e below _ (T.setTop (mkF m 16 #[.val (.ref ap), .val (.int fr), .val (.int ct), .val (.ref am), .val (.long sum), .second, .val (.int sl), .val (.ref ag), .val (.int (0 : Int32)), .unset, .unset, .unset] []))
    exact J16 _ (by unfold own_cut; first | rw [if_pos hc6] | rw [if_neg hc6])
theorem own_pd0 : parseMethodDescriptor "(II)I" = some ⟨[.int, .int], some .int⟩ := by decide +kernel
theorem own_pd1 : parseMethodDescriptor "([III[IJI[I)I" = some ⟨[(.array .int), .int, .int, (.array .int), .long, .int, (.array .int)], some .int⟩ := by decide +kernel
theorem own_pd2 : parseMethodDescriptor "(IIJZ)I" = some ⟨[.int, .int, .long, .boolean], some .int⟩ := by decide +kernel
abbrev Q_law (Z : State) (p1 : Int32) (p2 : Int32) (p3 : Int32) (p4 : Int32) (p5 : Int32) (p6 : Int32) (n0 : Nat) (h0 : Heap) : Option Value → Heap → List Loc → Prop := fun v h L => v = some (.int 1) ∧ Fr n0 L
set_option maxRecDepth 65536 in
set_option maxHeartbeats 40000000 in
theorem rm_law (l : Launch) (Z : State) (a0 : Array Value) (hw : ∀ d ∈ tables_1, d.before a0 Z = true) (p1 : Int32) (p2 : Int32) (p3 : Int32) (p4 : Int32) (p5 : Int32) (p6 : Int32) (n0 : Nat) (h0 : Heap) (Z0 : n0 ≤ h0.size)  :
    own_Met l Z x code maxLocals ret room_1 #[(.int p1), (.int p2), (.int p3), (.int p4), (.int p5), (.int p6)] h0 (Q_law Z p1 p2 p3 p4 p5 p6 n0 h0) := by
  refine own_enter (g0 := fun m => (mkF m 0 #[.val (.int p1), .val (.int p2), .val (.int p3), .val (.int p4), .val (.int p5), .val (.int p6), .unset, .unset, .unset, .unset, .unset, .unset, .unset, .unset, .unset, .unset, .unset, .unset, .unset, .unset, .unset, .unset, .unset, .unset] [])) (plainFor_of_name (by first | (simp [plainName, overriddenIn]; done) | decide +kernel)) (fun m => by first | (simp [entryFrame, mkF, argsToLocals, Value.category, maxLocals]; done) | rfl) ?_
  intro p e s m below meth c T hx hby hml hown hnm hZ hret hlk X e0
  have hml : c.maxLocals = 24 := hml
  replace hown : s.vm.findClass "com/example/slotwise/slotwise/flex/PackerGiveMinimaPinLaw" = some m.cls := hown
  have N := Fr.nil n0
  have hz := Z0
  show own_Run p e below _ (T.setTop (mkF m 0 #[.val (.int p1), .val (.int p2), .val (.int p3), .val (.int p4), .val (.int p5), .val (.int p6), .unset, .unset, .unset, .unset, .unset, .unset, .unset, .unset, .unset, .unset, .unset, .unset, .unset, .unset, .unset, .unset, .unset, .unset] []))
  refine own_go (fun _ kS => XS.iloadN X.here hx rfl (hb hby at_0) rfl kS) ?_
  show own_Run p e below _ (T.setTop (mkF m 1 #[.val (.int p1), .val (.int p2), .val (.int p3), .val (.int p4), .val (.int p5), .val (.int p6), .unset, .unset, .unset, .unset, .unset, .unset, .unset, .unset, .unset, .unset, .unset, .unset, .unset, .unset, .unset, .unset, .unset, .unset] [(.int p1)]))
  refine own_ldc X hx hZ hown (hw _ (List.mem_of_getElem? (i := 0) rfl)) rfl (hb hby at_1) ?_
  show own_Run p e below _ (T.setTop (mkF m 3 #[.val (.int p1), .val (.int p2), .val (.int p3), .val (.int p4), .val (.int p5), .val (.int p6), .unset, .unset, .unset, .unset, .unset, .unset, .unset, .unset, .unset, .unset, .unset, .unset, .unset, .unset, .unset, .unset, .unset, .unset] [(.int (2147483647 : Int32)), (.int p1)]))
  refine own_go (fun _ kS => XS.iand X.here hx rfl (hb hby at_3) rfl kS) ?_
  show own_Run p e below _ (T.setTop (mkF m 4 #[.val (.int p1), .val (.int p2), .val (.int p3), .val (.int p4), .val (.int p5), .val (.int p6), .unset, .unset, .unset, .unset, .unset, .unset, .unset, .unset, .unset, .unset, .unset, .unset, .unset, .unset, .unset, .unset, .unset, .unset] [(.int (p1 &&& (2147483647 : Int32)))]))
  refine own_go (fun _ kS => XS.istore X.here hx rfl (hb hby at_4) rfl (l' := #[.val (.int p1), .val (.int p2), .val (.int p3), .val (.int p4), .val (.int p5), .val (.int p6), .val (.int (p1 &&& (2147483647 : Int32))), .unset, .unset, .unset, .unset, .unset, .unset, .unset, .unset, .unset, .unset, .unset, .unset, .unset, .unset, .unset, .unset, .unset]) rfl kS) ?_
  show own_Run p e below _ (T.setTop (mkF m 6 #[.val (.int p1), .val (.int p2), .val (.int p3), .val (.int p4), .val (.int p5), .val (.int p6), .val (.int (p1 &&& (2147483647 : Int32))), .unset, .unset, .unset, .unset, .unset, .unset, .unset, .unset, .unset, .unset, .unset, .unset, .unset, .unset, .unset, .unset, .unset] []))
  generalize e_m0 : (p1 &&& (2147483647 : Int32)) = m0
  have r_m0 := e_m0 ▸ (c_and p1 2147483647 (by decide)).1
  refine own_go (fun _ kS => XS.iloadN X.here hx rfl (hb hby at_6) rfl kS) ?_
  show own_Run p e below _ (T.setTop (mkF m 7 #[.val (.int p1), .val (.int p2), .val (.int p3), .val (.int p4), .val (.int p5), .val (.int p6), .val (.int m0), .unset, .unset, .unset, .unset, .unset, .unset, .unset, .unset, .unset, .unset, .unset, .unset, .unset, .unset, .unset, .unset, .unset] [(.int p2)]))
  refine own_ldc X hx hZ hown (hw _ (List.mem_of_getElem? (i := 0) rfl)) rfl (hb hby at_7) ?_
  show own_Run p e below _ (T.setTop (mkF m 9 #[.val (.int p1), .val (.int p2), .val (.int p3), .val (.int p4), .val (.int p5), .val (.int p6), .val (.int m0), .unset, .unset, .unset, .unset, .unset, .unset, .unset, .unset, .unset, .unset, .unset, .unset, .unset, .unset, .unset, .unset, .unset] [(.int (2147483647 : Int32)), (.int p2)]))
  refine own_go (fun _ kS => XS.iand X.here hx rfl (hb hby at_9) rfl kS) ?_
  show own_Run p e below _ (T.setTop (mkF m 10 #[.val (.int p1), .val (.int p2), .val (.int p3), .val (.int p4), .val (.int p5), .val (.int p6), .val (.int m0), .unset, .unset, .unset, .unset, .unset, .unset, .unset, .unset, .unset, .unset, .unset, .unset, .unset, .unset, .unset, .unset, .unset] [(.int (p2 &&& (2147483647 : Int32)))]))
  refine own_go (fun _ kS => XS.istore X.here hx rfl (hb hby at_10) rfl (l' := #[.val (.int p1), .val (.int p2), .val (.int p3), .val (.int p4), .val (.int p5), .val (.int p6), .val (.int m0), .val (.int (p2 &&& (2147483647 : Int32))), .unset, .unset, .unset, .unset, .unset, .unset, .unset, .unset, .unset, .unset, .unset, .unset, .unset, .unset, .unset, .unset]) rfl kS) ?_
  show own_Run p e below _ (T.setTop (mkF m 12 #[.val (.int p1), .val (.int p2), .val (.int p3), .val (.int p4), .val (.int p5), .val (.int p6), .val (.int m0), .val (.int (p2 &&& (2147483647 : Int32))), .unset, .unset, .unset, .unset, .unset, .unset, .unset, .unset, .unset, .unset, .unset, .unset, .unset, .unset, .unset, .unset] []))
  generalize e_m1 : (p2 &&& (2147483647 : Int32)) = m1
  have r_m1 := e_m1 ▸ (c_and p2 2147483647 (by decide)).1
  refine own_go (fun _ kS => XS.iloadN X.here hx rfl (hb hby at_12) rfl kS) ?_
  show own_Run p e below _ (T.setTop (mkF m 13 #[.val (.int p1), .val (.int p2), .val (.int p3), .val (.int p4), .val (.int p5), .val (.int p6), .val (.int m0), .val (.int m1), .unset, .unset, .unset, .unset, .unset, .unset, .unset, .unset, .unset, .unset, .unset, .unset, .unset, .unset, .unset, .unset] [(.int p3)]))
  refine own_ldc X hx hZ hown (hw _ (List.mem_of_getElem? (i := 0) rfl)) rfl (hb hby at_13) ?_
  show own_Run p e below _ (T.setTop (mkF m 15 #[.val (.int p1), .val (.int p2), .val (.int p3), .val (.int p4), .val (.int p5), .val (.int p6), .val (.int m0), .val (.int m1), .unset, .unset, .unset, .unset, .unset, .unset, .unset, .unset, .unset, .unset, .unset, .unset, .unset, .unset, .unset, .unset] [(.int (2147483647 : Int32)), (.int p3)]))
  refine own_go (fun _ kS => XS.iand X.here hx rfl (hb hby at_15) rfl kS) ?_
  show own_Run p e below _ (T.setTop (mkF m 16 #[.val (.int p1), .val (.int p2), .val (.int p3), .val (.int p4), .val (.int p5), .val (.int p6), .val (.int m0), .val (.int m1), .unset, .unset, .unset, .unset, .unset, .unset, .unset, .unset, .unset, .unset, .unset, .unset, .unset, .unset, .unset, .unset] [(.int (p3 &&& (2147483647 : Int32)))]))
  refine own_go (fun _ kS => XS.istore X.here hx rfl (hb hby at_16) rfl (l' := #[.val (.int p1), .val (.int p2), .val (.int p3), .val (.int p4), .val (.int p5), .val (.int p6), .val (.int m0), .val (.int m1), .val (.int (p3 &&& (2147483647 : Int32))), .unset, .unset, .unset, .unset, .unset, .unset, .unset, .unset, .unset, .unset, .unset, .unset, .unset, .unset, .unset]) rfl kS) ?_
  show own_Run p e below _ (T.setTop (mkF m 18 #[.val (.int p1), .val (.int p2), .val (.int p3), .val (.int p4), .val (.int p5), .val (.int p6), .val (.int m0), .val (.int m1), .val (.int (p3 &&& (2147483647 : Int32))), .unset, .unset, .unset, .unset, .unset, .unset, .unset, .unset, .unset, .unset, .unset, .unset, .unset, .unset, .unset] []))
  generalize e_m2 : (p3 &&& (2147483647 : Int32)) = m2
  have r_m2 := e_m2 ▸ (c_and p3 2147483647 (by decide)).1
  refine own_go (fun _ kS => XS.iloadN X.here hx rfl (hb hby at_18) rfl kS) ?_
  show own_Run p e below _ (T.setTop (mkF m 19 #[.val (.int p1), .val (.int p2), .val (.int p3), .val (.int p4), .val (.int p5), .val (.int p6), .val (.int m0), .val (.int m1), .val (.int m2), .unset, .unset, .unset, .unset, .unset, .unset, .unset, .unset, .unset, .unset, .unset, .unset, .unset, .unset, .unset] [(.int p4)]))
  refine own_ldc X hx hZ hown (hw _ (List.mem_of_getElem? (i := 0) rfl)) rfl (hb hby at_19) ?_
  show own_Run p e below _ (T.setTop (mkF m 21 #[.val (.int p1), .val (.int p2), .val (.int p3), .val (.int p4), .val (.int p5), .val (.int p6), .val (.int m0), .val (.int m1), .val (.int m2), .unset, .unset, .unset, .unset, .unset, .unset, .unset, .unset, .unset, .unset, .unset, .unset, .unset, .unset, .unset] [(.int (2147483647 : Int32)), (.int p4)]))
  refine own_go (fun _ kS => XS.iand X.here hx rfl (hb hby at_21) rfl kS) ?_
  show own_Run p e below _ (T.setTop (mkF m 22 #[.val (.int p1), .val (.int p2), .val (.int p3), .val (.int p4), .val (.int p5), .val (.int p6), .val (.int m0), .val (.int m1), .val (.int m2), .unset, .unset, .unset, .unset, .unset, .unset, .unset, .unset, .unset, .unset, .unset, .unset, .unset, .unset, .unset] [(.int (p4 &&& (2147483647 : Int32)))]))
  refine own_go (fun _ kS => XS.istore X.here hx rfl (hb hby at_22) rfl (l' := #[.val (.int p1), .val (.int p2), .val (.int p3), .val (.int p4), .val (.int p5), .val (.int p6), .val (.int m0), .val (.int m1), .val (.int m2), .val (.int (p4 &&& (2147483647 : Int32))), .unset, .unset, .unset, .unset, .unset, .unset, .unset, .unset, .unset, .unset, .unset, .unset, .unset, .unset]) rfl kS) ?_
  show own_Run p e below _ (T.setTop (mkF m 24 #[.val (.int p1), .val (.int p2), .val (.int p3), .val (.int p4), .val (.int p5), .val (.int p6), .val (.int m0), .val (.int m1), .val (.int m2), .val (.int (p4 &&& (2147483647 : Int32))), .unset, .unset, .unset, .unset, .unset, .unset, .unset, .unset, .unset, .unset, .unset, .unset, .unset, .unset] []))
  generalize e_m3 : (p4 &&& (2147483647 : Int32)) = m3
  refine own_go (fun _ kS => XS.iconst X.here hx rfl (hb hby at_24) kS) ?_
  show own_Run p e below _ (T.setTop (mkF m 25 #[.val (.int p1), .val (.int p2), .val (.int p3), .val (.int p4), .val (.int p5), .val (.int p6), .val (.int m0), .val (.int m1), .val (.int m2), .val (.int m3), .unset, .unset, .unset, .unset, .unset, .unset, .unset, .unset, .unset, .unset, .unset, .unset, .unset, .unset] [(.int (1 : Int32))]))
  refine own_go (fun _ kS => XS.iload X.here hx rfl (hb hby at_25) rfl kS) ?_
  show own_Run p e below _ (T.setTop (mkF m 27 #[.val (.int p1), .val (.int p2), .val (.int p3), .val (.int p4), .val (.int p5), .val (.int p6), .val (.int m0), .val (.int m1), .val (.int m2), .val (.int m3), .unset, .unset, .unset, .unset, .unset, .unset, .unset, .unset, .unset, .unset, .unset, .unset, .unset, .unset] [(.int p5), (.int (1 : Int32))]))
  refine own_ldc X hx hZ hown (hw _ (List.mem_of_getElem? (i := 0) rfl)) rfl (hb hby at_27) ?_
  show own_Run p e below _ (T.setTop (mkF m 29 #[.val (.int p1), .val (.int p2), .val (.int p3), .val (.int p4), .val (.int p5), .val (.int p6), .val (.int m0), .val (.int m1), .val (.int m2), .val (.int m3), .unset, .unset, .unset, .unset, .unset, .unset, .unset, .unset, .unset, .unset, .unset, .unset, .unset, .unset] [(.int (2147483647 : Int32)), (.int p5), (.int (1 : Int32))]))
  refine own_go (fun _ kS => XS.iand X.here hx rfl (hb hby at_29) rfl kS) ?_
  show own_Run p e below _ (T.setTop (mkF m 30 #[.val (.int p1), .val (.int p2), .val (.int p3), .val (.int p4), .val (.int p5), .val (.int p6), .val (.int m0), .val (.int m1), .val (.int m2), .val (.int m3), .unset, .unset, .unset, .unset, .unset, .unset, .unset, .unset, .unset, .unset, .unset, .unset, .unset, .unset] [(.int (p5 &&& (2147483647 : Int32))), (.int (1 : Int32))]))
  refine own_callS X hx hZ e0 hown (⟨"java/lang/Math", "max", "(II)I"⟩ : MethodName) (hw _ (List.mem_of_getElem? (i := 1) rfl)) (hw _ (List.mem_of_getElem? (i := 2) rfl)) (hw _ (List.mem_of_getElem? (i := 3) rfl)) (hw _ (List.mem_of_getElem? (i := 4) rfl)) (by decide) [(.int (1 : Int32)), (.int (p5 &&& (2147483647 : Int32)))] [] (rm_max l Z a0 hw (1 : Int32) (p5 &&& (2147483647 : Int32)) h0) (by decide) 0 (by decide) (by decide) (by decide) rfl (by rw [hml]; rfl) (lenOf own_pd0 rfl) rfl (by show 2 * 0 + _ ≤ _; exact Nat.le_of_eq rfl) (hb hby at_30) (fun v1 h1 L1 T1 Q1 X1 e1 => ?_)
  obtain ⟨rfl, rfl, rfl⟩ := Q1
  replace N := N.app (Fr.nil n0)
  show own_Run p e below _ (T1.setTop (mkF m 33 #[.val (.int p1), .val (.int p2), .val (.int p3), .val (.int p4), .val (.int p5), .val (.int p6), .val (.int m0), .val (.int m1), .val (.int m2), .val (.int m3), .unset, .unset, .unset, .unset, .unset, .unset, .unset, .unset, .unset, .unset, .unset, .unset, .unset, .unset] [(.int (own_max (1 : Int32) (p5 &&& (2147483647 : Int32))))]))
  refine own_go (fun _ kS => XS.istore X1.here hx rfl (hb hby at_33) rfl (l' := #[.val (.int p1), .val (.int p2), .val (.int p3), .val (.int p4), .val (.int p5), .val (.int p6), .val (.int m0), .val (.int m1), .val (.int m2), .val (.int m3), .val (.int (own_max (1 : Int32) (p5 &&& (2147483647 : Int32)))), .unset, .unset, .unset, .unset, .unset, .unset, .unset, .unset, .unset, .unset, .unset, .unset, .unset]) rfl kS) ?_
  show own_Run p e below _ (T1.setTop (mkF m 35 #[.val (.int p1), .val (.int p2), .val (.int p3), .val (.int p4), .val (.int p5), .val (.int p6), .val (.int m0), .val (.int m1), .val (.int m2), .val (.int m3), .val (.int (own_max (1 : Int32) (p5 &&& (2147483647 : Int32)))), .unset, .unset, .unset, .unset, .unset, .unset, .unset, .unset, .unset, .unset, .unset, .unset, .unset] []))
  generalize e_sl : (own_max (1 : Int32) (p5 &&& (2147483647 : Int32))) = sl
  have r_sl := e_sl ▸ own_max1 (p5 &&& (2147483647 : Int32))
  refine own_go (fun _ kS => XS.iload X1.here hx rfl (hb hby at_35) rfl kS) ?_
  show own_Run p e below _ (T1.setTop (mkF m 37 #[.val (.int p1), .val (.int p2), .val (.int p3), .val (.int p4), .val (.int p5), .val (.int p6), .val (.int m0), .val (.int m1), .val (.int m2), .val (.int m3), .val (.int sl), .unset, .unset, .unset, .unset, .unset, .unset, .unset, .unset, .unset, .unset, .unset, .unset, .unset] [(.int p6)]))
  refine own_go (fun _ kS => XS.iconst X1.here hx rfl (hb hby at_37) kS) ?_
  show own_Run p e below _ (T1.setTop (mkF m 38 #[.val (.int p1), .val (.int p2), .val (.int p3), .val (.int p4), .val (.int p5), .val (.int p6), .val (.int m0), .val (.int m1), .val (.int m2), .val (.int m3), .val (.int sl), .unset, .unset, .unset, .unset, .unset, .unset, .unset, .unset, .unset, .unset, .unset, .unset, .unset] [(.int (1 : Int32)), (.int p6)]))
  refine own_go (fun _ kS => XS.iand X1.here hx rfl (hb hby at_38) rfl kS) ?_
  show own_Run p e below _ (T1.setTop (mkF m 39 #[.val (.int p1), .val (.int p2), .val (.int p3), .val (.int p4), .val (.int p5), .val (.int p6), .val (.int m0), .val (.int m1), .val (.int m2), .val (.int m3), .val (.int sl), .unset, .unset, .unset, .unset, .unset, .unset, .unset, .unset, .unset, .unset, .unset, .unset, .unset] [(.int (p6 &&& (1 : Int32)))]))
  refine own_go (fun _ kS => XS.istore X1.here hx rfl (hb hby at_39) rfl (l' := #[.val (.int p1), .val (.int p2), .val (.int p3), .val (.int p4), .val (.int p5), .val (.int p6), .val (.int m0), .val (.int m1), .val (.int m2), .val (.int m3), .val (.int sl), .val (.int (p6 &&& (1 : Int32))), .unset, .unset, .unset, .unset, .unset, .unset, .unset, .unset, .unset, .unset, .unset, .unset]) rfl kS) ?_
  show own_Run p e below _ (T1.setTop (mkF m 41 #[.val (.int p1), .val (.int p2), .val (.int p3), .val (.int p4), .val (.int p5), .val (.int p6), .val (.int m0), .val (.int m1), .val (.int m2), .val (.int m3), .val (.int sl), .val (.int (p6 &&& (1 : Int32))), .unset, .unset, .unset, .unset, .unset, .unset, .unset, .unset, .unset, .unset, .unset, .unset] []))
  generalize e_fr : (p6 &&& (1 : Int32)) = fr
  have r_fr := e_fr ▸ c_and p6 1 (by decide)
  obtain ⟨nf, hnf⟩ : ∃ q : Nat, fr.toInt = q := ⟨fr.toInt.toNat, by omega⟩
  refine own_go (fun _ kS => XS.iload X1.here hx rfl (hb hby at_41) rfl kS) ?_
  show own_Run p e below _ (T1.setTop (mkF m 43 #[.val (.int p1), .val (.int p2), .val (.int p3), .val (.int p4), .val (.int p5), .val (.int p6), .val (.int m0), .val (.int m1), .val (.int m2), .val (.int m3), .val (.int sl), .val (.int fr), .unset, .unset, .unset, .unset, .unset, .unset, .unset, .unset, .unset, .unset, .unset, .unset] [(.int p6)]))
  refine own_go (fun _ kS => XS.iconst X1.here hx rfl (hb hby at_43) kS) ?_
  show own_Run p e below _ (T1.setTop (mkF m 44 #[.val (.int p1), .val (.int p2), .val (.int p3), .val (.int p4), .val (.int p5), .val (.int p6), .val (.int m0), .val (.int m1), .val (.int m2), .val (.int m3), .val (.int sl), .val (.int fr), .unset, .unset, .unset, .unset, .unset, .unset, .unset, .unset, .unset, .unset, .unset, .unset] [(.int (1 : Int32)), (.int p6)]))
  refine own_go (fun _ kS => XS.iushr X1.here hx rfl (hb hby at_44) rfl kS) ?_
  show own_Run p e below _ (T1.setTop (mkF m 45 #[.val (.int p1), .val (.int p2), .val (.int p3), .val (.int p4), .val (.int p5), .val (.int p6), .val (.int m0), .val (.int m1), .val (.int m2), .val (.int m3), .val (.int sl), .val (.int fr), .unset, .unset, .unset, .unset, .unset, .unset, .unset, .unset, .unset, .unset, .unset, .unset] [(.int ((p6.toUInt32 >>> ((1 : Int32) &&& 31).toUInt32).toInt32))]))
  refine own_go (fun _ kS => XS.iconst X1.here hx rfl (hb hby at_45) kS) ?_
  show own_Run p e below _ (T1.setTop (mkF m 46 #[.val (.int p1), .val (.int p2), .val (.int p3), .val (.int p4), .val (.int p5), .val (.int p6), .val (.int m0), .val (.int m1), .val (.int m2), .val (.int m3), .val (.int sl), .val (.int fr), .unset, .unset, .unset, .unset, .unset, .unset, .unset, .unset, .unset, .unset, .unset, .unset] [(.int (3 : Int32)), (.int ((p6.toUInt32 >>> ((1 : Int32) &&& 31).toUInt32).toInt32))]))
  refine own_go (fun _ kS => XS.iand X1.here hx rfl (hb hby at_46) rfl kS) ?_
  show own_Run p e below _ (T1.setTop (mkF m 47 #[.val (.int p1), .val (.int p2), .val (.int p3), .val (.int p4), .val (.int p5), .val (.int p6), .val (.int m0), .val (.int m1), .val (.int m2), .val (.int m3), .val (.int sl), .val (.int fr), .unset, .unset, .unset, .unset, .unset, .unset, .unset, .unset, .unset, .unset, .unset, .unset] [(.int (((p6.toUInt32 >>> ((1 : Int32) &&& 31).toUInt32).toInt32) &&& (3 : Int32)))]))
  refine own_go (fun _ kS => XS.istore X1.here hx rfl (hb hby at_47) rfl (l' := #[.val (.int p1), .val (.int p2), .val (.int p3), .val (.int p4), .val (.int p5), .val (.int p6), .val (.int m0), .val (.int m1), .val (.int m2), .val (.int m3), .val (.int sl), .val (.int fr), .val (.int (((p6.toUInt32 >>> ((1 : Int32) &&& 31).toUInt32).toInt32) &&& (3 : Int32))), .unset, .unset, .unset, .unset, .unset, .unset, .unset, .unset, .unset, .unset, .unset]) rfl kS) ?_
  show own_Run p e below _ (T1.setTop (mkF m 49 #[.val (.int p1), .val (.int p2), .val (.int p3), .val (.int p4), .val (.int p5), .val (.int p6), .val (.int m0), .val (.int m1), .val (.int m2), .val (.int m3), .val (.int sl), .val (.int fr), .val (.int (((p6.toUInt32 >>> ((1 : Int32) &&& 31).toUInt32).toInt32) &&& (3 : Int32))), .unset, .unset, .unset, .unset, .unset, .unset, .unset, .unset, .unset, .unset, .unset] []))
  generalize e_ct : (((p6.toUInt32 >>> ((1 : Int32) &&& 31).toUInt32).toInt32) &&& (3 : Int32)) = ct
  have r_ct := e_ct ▸ c_and _ 3 (by decide)
  obtain ⟨nc, hnc⟩ : ∃ q : Nat, ct.toInt = q := ⟨ct.toInt.toNat, by omega⟩
  refine own_go (fun _ kS => XS.iload X1.here hx rfl (hb hby at_49) rfl kS) ?_
  show own_Run p e below _ (T1.setTop (mkF m 51 #[.val (.int p1), .val (.int p2), .val (.int p3), .val (.int p4), .val (.int p5), .val (.int p6), .val (.int m0), .val (.int m1), .val (.int m2), .val (.int m3), .val (.int sl), .val (.int fr), .val (.int ct), .unset, .unset, .unset, .unset, .unset, .unset, .unset, .unset, .unset, .unset, .unset] [(.int p6)]))
  refine own_go (fun _ kS => XS.iconst X1.here hx rfl (hb hby at_51) kS) ?_
  show own_Run p e below _ (T1.setTop (mkF m 52 #[.val (.int p1), .val (.int p2), .val (.int p3), .val (.int p4), .val (.int p5), .val (.int p6), .val (.int m0), .val (.int m1), .val (.int m2), .val (.int m3), .val (.int sl), .val (.int fr), .val (.int ct), .unset, .unset, .unset, .unset, .unset, .unset, .unset, .unset, .unset, .unset, .unset] [(.int (3 : Int32)), (.int p6)]))
  refine own_go (fun _ kS => XS.iushr X1.here hx rfl (hb hby at_52) rfl kS) ?_
  show own_Run p e below _ (T1.setTop (mkF m 53 #[.val (.int p1), .val (.int p2), .val (.int p3), .val (.int p4), .val (.int p5), .val (.int p6), .val (.int m0), .val (.int m1), .val (.int m2), .val (.int m3), .val (.int sl), .val (.int fr), .val (.int ct), .unset, .unset, .unset, .unset, .unset, .unset, .unset, .unset, .unset, .unset, .unset] [(.int ((p6.toUInt32 >>> ((3 : Int32) &&& 31).toUInt32).toInt32))]))
  refine own_go (fun _ kS => XS.iconst X1.here hx rfl (hb hby at_53) kS) ?_
  show own_Run p e below _ (T1.setTop (mkF m 54 #[.val (.int p1), .val (.int p2), .val (.int p3), .val (.int p4), .val (.int p5), .val (.int p6), .val (.int m0), .val (.int m1), .val (.int m2), .val (.int m3), .val (.int sl), .val (.int fr), .val (.int ct), .unset, .unset, .unset, .unset, .unset, .unset, .unset, .unset, .unset, .unset, .unset] [(.int (3 : Int32)), (.int ((p6.toUInt32 >>> ((3 : Int32) &&& 31).toUInt32).toInt32))]))
  refine own_go (fun _ kS => XS.iand X1.here hx rfl (hb hby at_54) rfl kS) ?_
  show own_Run p e below _ (T1.setTop (mkF m 55 #[.val (.int p1), .val (.int p2), .val (.int p3), .val (.int p4), .val (.int p5), .val (.int p6), .val (.int m0), .val (.int m1), .val (.int m2), .val (.int m3), .val (.int sl), .val (.int fr), .val (.int ct), .unset, .unset, .unset, .unset, .unset, .unset, .unset, .unset, .unset, .unset, .unset] [(.int (((p6.toUInt32 >>> ((3 : Int32) &&& 31).toUInt32).toInt32) &&& (3 : Int32)))]))
  refine own_go (fun _ kS => XS.istore X1.here hx rfl (hb hby at_55) rfl (l' := #[.val (.int p1), .val (.int p2), .val (.int p3), .val (.int p4), .val (.int p5), .val (.int p6), .val (.int m0), .val (.int m1), .val (.int m2), .val (.int m3), .val (.int sl), .val (.int fr), .val (.int ct), .val (.int (((p6.toUInt32 >>> ((3 : Int32) &&& 31).toUInt32).toInt32) &&& (3 : Int32))), .unset, .unset, .unset, .unset, .unset, .unset, .unset, .unset, .unset, .unset]) rfl kS) ?_
  show own_Run p e below _ (T1.setTop (mkF m 57 #[.val (.int p1), .val (.int p2), .val (.int p3), .val (.int p4), .val (.int p5), .val (.int p6), .val (.int m0), .val (.int m1), .val (.int m2), .val (.int m3), .val (.int sl), .val (.int fr), .val (.int ct), .val (.int (((p6.toUInt32 >>> ((3 : Int32) &&& 31).toUInt32).toInt32) &&& (3 : Int32))), .unset, .unset, .unset, .unset, .unset, .unset, .unset, .unset, .unset, .unset] []))
  generalize e_rr : (((p6.toUInt32 >>> ((3 : Int32) &&& 31).toUInt32).toInt32) &&& (3 : Int32)) = rr
  have r_rr := e_rr ▸ c_and _ 3 (by decide)
  obtain ⟨nr, hnr⟩ : ∃ q : Nat, rr.toInt = q := ⟨rr.toInt.toNat, by omega⟩
  have z0 : (0 : Int32).toInt = 0 := rfl
  have z1 : (1 : Int32).toInt = 1 := rfl
  have z2 : (2 : Int32).toInt = 2 := rfl
  have z3 : (3 : Int32).toInt = 3 := rfl
  have z4 : (4 : Int32).toInt = 4 := rfl
  have cfr : fr.toNatClampNeg = nf := by simp only [Int32.toNatClampNeg]; omega
  have hf1 : (fr + (1 : Int32)).toInt = ((nf + 1 : Nat) : Int) := by have w := c_iadd fr (1 : Int32); have w2 := rng32 (fr + (1 : Int32)); omega
  have hf2 : (fr + (2 : Int32)).toInt = ((nf + 2 : Nat) : Int) := by have w := c_iadd fr (2 : Int32); have w2 := rng32 (fr + (2 : Int32)); omega
  have cfr1 : (fr + (1 : Int32)).toNatClampNeg = nf + 1 := by simp only [Int32.toNatClampNeg]; omega
  have cfr2 : (fr + (2 : Int32)).toNatClampNeg = nf + 2 := by simp only [Int32.toNatClampNeg]; omega
  refine own_go (fun _ kS => XS.iconst X1.here hx rfl (hb hby at_57) kS) ?_
  show own_Run p e below _ (T1.setTop (mkF m 58 #[.val (.int p1), .val (.int p2), .val (.int p3), .val (.int p4), .val (.int p5), .val (.int p6), .val (.int m0), .val (.int m1), .val (.int m2), .val (.int m3), .val (.int sl), .val (.int fr), .val (.int ct), .val (.int rr), .unset, .unset, .unset, .unset, .unset, .unset, .unset, .unset, .unset, .unset] [(.int (4 : Int32))]))
  refine own_newP X1 hx hZ e1 (hw _ (List.mem_of_getElem? (i := 5) rfl)) rfl (hb hby at_58) rfl 4 4 rfl (by decide) (by decide) (by decide) (by decide) "[I" rfl (fun b2 T2 h2 gb2 X2 e2 E2 A2 G2 => ?_)
  have g_b2 : n0 ≤ b2 := Nat.le_trans hz (Nat.le_of_eq gb2.symm)
  replace hz := Nat.le_trans hz E2.1
  replace A2 : own_Arr Z h2 b2 .int 4 (fun _ => (.int (0 : Int32))) := A2
  show own_Run p e below _ (T2.setTop (mkF m 60 #[.val (.int p1), .val (.int p2), .val (.int p3), .val (.int p4), .val (.int p5), .val (.int p6), .val (.int m0), .val (.int m1), .val (.int m2), .val (.int m3), .val (.int sl), .val (.int fr), .val (.int ct), .val (.int rr), .unset, .unset, .unset, .unset, .unset, .unset, .unset, .unset, .unset, .unset] [(.ref b2)]))
  refine own_go (fun _ kS => XS.astore X2.here hx rfl (hb hby at_60) rfl rfl (l' := #[.val (.int p1), .val (.int p2), .val (.int p3), .val (.int p4), .val (.int p5), .val (.int p6), .val (.int m0), .val (.int m1), .val (.int m2), .val (.int m3), .val (.int sl), .val (.int fr), .val (.int ct), .val (.int rr), .val (.ref b2), .unset, .unset, .unset, .unset, .unset, .unset, .unset, .unset, .unset]) rfl kS) ?_
  show own_Run p e below _ (T2.setTop (mkF m 62 #[.val (.int p1), .val (.int p2), .val (.int p3), .val (.int p4), .val (.int p5), .val (.int p6), .val (.int m0), .val (.int m1), .val (.int m2), .val (.int m3), .val (.int sl), .val (.int fr), .val (.int ct), .val (.int rr), .val (.ref b2), .unset, .unset, .unset, .unset, .unset, .unset, .unset, .unset, .unset] []))
  refine own_go (fun _ kS => XS.aload X2.here hx rfl (hb hby at_62) rfl rfl kS) ?_
  show own_Run p e below _ (T2.setTop (mkF m 64 #[.val (.int p1), .val (.int p2), .val (.int p3), .val (.int p4), .val (.int p5), .val (.int p6), .val (.int m0), .val (.int m1), .val (.int m2), .val (.int m3), .val (.int sl), .val (.int fr), .val (.int ct), .val (.int rr), .val (.ref b2), .unset, .unset, .unset, .unset, .unset, .unset, .unset, .unset, .unset] [(.ref b2)]))
  refine own_go (fun _ kS => XS.iconst X2.here hx rfl (hb hby at_64) kS) ?_
  show own_Run p e below _ (T2.setTop (mkF m 65 #[.val (.int p1), .val (.int p2), .val (.int p3), .val (.int p4), .val (.int p5), .val (.int p6), .val (.int m0), .val (.int m1), .val (.int m2), .val (.int m3), .val (.int sl), .val (.int fr), .val (.int ct), .val (.int rr), .val (.ref b2), .unset, .unset, .unset, .unset, .unset, .unset, .unset, .unset, .unset] [(.int (0 : Int32)), (.ref b2)]))
  refine own_go (fun _ kS => XS.iload X2.here hx rfl (hb hby at_65) rfl kS) ?_
  show own_Run p e below _ (T2.setTop (mkF m 67 #[.val (.int p1), .val (.int p2), .val (.int p3), .val (.int p4), .val (.int p5), .val (.int p6), .val (.int m0), .val (.int m1), .val (.int m2), .val (.int m3), .val (.int sl), .val (.int fr), .val (.int ct), .val (.int rr), .val (.ref b2), .unset, .unset, .unset, .unset, .unset, .unset, .unset, .unset, .unset] [(.int rr), (.int (0 : Int32)), (.ref b2)]))
  refine own_iastore X2 hx hZ e2 A2 (j := (0 : Int32)) ⟨by decide, by decide⟩ rfl rfl (hb hby at_67) (fun T3 h3 X3 e3 W3 A3 => ?_)
  replace hz := Nat.le_trans hz (Nat.le_of_eq W3.size.symm)
  replace N := Fr.snoc X3 N g_b2
  replace A3 : own_Arr Z h3 b2 .int 4 (own_up (fun _ => (.int (0 : Int32))) 0 (.int rr)) := A3.congr (fun i _ => rfl)
  show own_Run p e below _ (T3.setTop (mkF m 68 #[.val (.int p1), .val (.int p2), .val (.int p3), .val (.int p4), .val (.int p5), .val (.int p6), .val (.int m0), .val (.int m1), .val (.int m2), .val (.int m3), .val (.int sl), .val (.int fr), .val (.int ct), .val (.int rr), .val (.ref b2), .unset, .unset, .unset, .unset, .unset, .unset, .unset, .unset, .unset] []))
  refine own_go (fun _ kS => XS.aload X3.here hx rfl (hb hby at_68) rfl rfl kS) ?_
  show own_Run p e below _ (T3.setTop (mkF m 70 #[.val (.int p1), .val (.int p2), .val (.int p3), .val (.int p4), .val (.int p5), .val (.int p6), .val (.int m0), .val (.int m1), .val (.int m2), .val (.int m3), .val (.int sl), .val (.int fr), .val (.int ct), .val (.int rr), .val (.ref b2), .unset, .unset, .unset, .unset, .unset, .unset, .unset, .unset, .unset] [(.ref b2)]))
  refine own_go (fun _ kS => XS.iconst X3.here hx rfl (hb hby at_70) kS) ?_
  show own_Run p e below _ (T3.setTop (mkF m 71 #[.val (.int p1), .val (.int p2), .val (.int p3), .val (.int p4), .val (.int p5), .val (.int p6), .val (.int m0), .val (.int m1), .val (.int m2), .val (.int m3), .val (.int sl), .val (.int fr), .val (.int ct), .val (.int rr), .val (.ref b2), .unset, .unset, .unset, .unset, .unset, .unset, .unset, .unset, .unset] [(.int (1 : Int32)), (.ref b2)]))
  refine own_go (fun _ kS => XS.iconst X3.here hx rfl (hb hby at_71) kS) ?_
  show own_Run p e below _ (T3.setTop (mkF m 72 #[.val (.int p1), .val (.int p2), .val (.int p3), .val (.int p4), .val (.int p5), .val (.int p6), .val (.int m0), .val (.int m1), .val (.int m2), .val (.int m3), .val (.int sl), .val (.int fr), .val (.int ct), .val (.int rr), .val (.ref b2), .unset, .unset, .unset, .unset, .unset, .unset, .unset, .unset, .unset] [(.int (1 : Int32)), (.int (1 : Int32)), (.ref b2)]))
  refine own_go (fun _ kS => XS.iload X3.here hx rfl (hb hby at_72) rfl kS) ?_
  show own_Run p e below _ (T3.setTop (mkF m 74 #[.val (.int p1), .val (.int p2), .val (.int p3), .val (.int p4), .val (.int p5), .val (.int p6), .val (.int m0), .val (.int m1), .val (.int m2), .val (.int m3), .val (.int sl), .val (.int fr), .val (.int ct), .val (.int rr), .val (.ref b2), .unset, .unset, .unset, .unset, .unset, .unset, .unset, .unset, .unset] [(.int rr), (.int (1 : Int32)), (.int (1 : Int32)), (.ref b2)]))
  refine own_go (fun _ kS => XS.iadd X3.here hx rfl (hb hby at_74) rfl kS) ?_
  show own_Run p e below _ (T3.setTop (mkF m 75 #[.val (.int p1), .val (.int p2), .val (.int p3), .val (.int p4), .val (.int p5), .val (.int p6), .val (.int m0), .val (.int m1), .val (.int m2), .val (.int m3), .val (.int sl), .val (.int fr), .val (.int ct), .val (.int rr), .val (.ref b2), .unset, .unset, .unset, .unset, .unset, .unset, .unset, .unset, .unset] [(.int ((1 : Int32) + rr)), (.int (1 : Int32)), (.ref b2)]))
  refine own_go (fun _ kS => XS.iconst X3.here hx rfl (hb hby at_75) kS) ?_
  show own_Run p e below _ (T3.setTop (mkF m 76 #[.val (.int p1), .val (.int p2), .val (.int p3), .val (.int p4), .val (.int p5), .val (.int p6), .val (.int m0), .val (.int m1), .val (.int m2), .val (.int m3), .val (.int sl), .val (.int fr), .val (.int ct), .val (.int rr), .val (.ref b2), .unset, .unset, .unset, .unset, .unset, .unset, .unset, .unset, .unset] [(.int (3 : Int32)), (.int ((1 : Int32) + rr)), (.int (1 : Int32)), (.ref b2)]))
  refine own_go (fun _ kS => XS.iand X3.here hx rfl (hb hby at_76) rfl kS) ?_
  show own_Run p e below _ (T3.setTop (mkF m 77 #[.val (.int p1), .val (.int p2), .val (.int p3), .val (.int p4), .val (.int p5), .val (.int p6), .val (.int m0), .val (.int m1), .val (.int m2), .val (.int m3), .val (.int sl), .val (.int fr), .val (.int ct), .val (.int rr), .val (.ref b2), .unset, .unset, .unset, .unset, .unset, .unset, .unset, .unset, .unset] [(.int (((1 : Int32) + rr) &&& (3 : Int32))), (.int (1 : Int32)), (.ref b2)]))
  refine own_iastore X3 hx hZ e3 A3 (j := (1 : Int32)) ⟨by decide, by decide⟩ rfl rfl (hb hby at_77) (fun T4 h4 X4 e4 W4 A4 => ?_)
  replace hz := Nat.le_trans hz (Nat.le_of_eq W4.size.symm)
  replace N := Fr.snoc X4 N g_b2
  replace A4 : own_Arr Z h4 b2 .int 4 (own_up (own_up (fun _ => (.int (0 : Int32))) 0 (.int rr)) 1 (.int (((1 : Int32) + rr) &&& (3 : Int32)))) := A4.congr (fun i _ => rfl)
  show own_Run p e below _ (T4.setTop (mkF m 78 #[.val (.int p1), .val (.int p2), .val (.int p3), .val (.int p4), .val (.int p5), .val (.int p6), .val (.int m0), .val (.int m1), .val (.int m2), .val (.int m3), .val (.int sl), .val (.int fr), .val (.int ct), .val (.int rr), .val (.ref b2), .unset, .unset, .unset, .unset, .unset, .unset, .unset, .unset, .unset] []))
  refine own_go (fun _ kS => XS.aload X4.here hx rfl (hb hby at_78) rfl rfl kS) ?_
  show own_Run p e below _ (T4.setTop (mkF m 80 #[.val (.int p1), .val (.int p2), .val (.int p3), .val (.int p4), .val (.int p5), .val (.int p6), .val (.int m0), .val (.int m1), .val (.int m2), .val (.int m3), .val (.int sl), .val (.int fr), .val (.int ct), .val (.int rr), .val (.ref b2), .unset, .unset, .unset, .unset, .unset, .unset, .unset, .unset, .unset] [(.ref b2)]))
  refine own_go (fun _ kS => XS.iconst X4.here hx rfl (hb hby at_80) kS) ?_
  show own_Run p e below _ (T4.setTop (mkF m 81 #[.val (.int p1), .val (.int p2), .val (.int p3), .val (.int p4), .val (.int p5), .val (.int p6), .val (.int m0), .val (.int m1), .val (.int m2), .val (.int m3), .val (.int sl), .val (.int fr), .val (.int ct), .val (.int rr), .val (.ref b2), .unset, .unset, .unset, .unset, .unset, .unset, .unset, .unset, .unset] [(.int (2 : Int32)), (.ref b2)]))
  refine own_go (fun _ kS => XS.iconst X4.here hx rfl (hb hby at_81) kS) ?_
  show own_Run p e below _ (T4.setTop (mkF m 82 #[.val (.int p1), .val (.int p2), .val (.int p3), .val (.int p4), .val (.int p5), .val (.int p6), .val (.int m0), .val (.int m1), .val (.int m2), .val (.int m3), .val (.int sl), .val (.int fr), .val (.int ct), .val (.int rr), .val (.ref b2), .unset, .unset, .unset, .unset, .unset, .unset, .unset, .unset, .unset] [(.int (2 : Int32)), (.int (2 : Int32)), (.ref b2)]))
  refine own_go (fun _ kS => XS.iload X4.here hx rfl (hb hby at_82) rfl kS) ?_
  show own_Run p e below _ (T4.setTop (mkF m 84 #[.val (.int p1), .val (.int p2), .val (.int p3), .val (.int p4), .val (.int p5), .val (.int p6), .val (.int m0), .val (.int m1), .val (.int m2), .val (.int m3), .val (.int sl), .val (.int fr), .val (.int ct), .val (.int rr), .val (.ref b2), .unset, .unset, .unset, .unset, .unset, .unset, .unset, .unset, .unset] [(.int rr), (.int (2 : Int32)), (.int (2 : Int32)), (.ref b2)]))
  refine own_go (fun _ kS => XS.iadd X4.here hx rfl (hb hby at_84) rfl kS) ?_
  show own_Run p e below _ (T4.setTop (mkF m 85 #[.val (.int p1), .val (.int p2), .val (.int p3), .val (.int p4), .val (.int p5), .val (.int p6), .val (.int m0), .val (.int m1), .val (.int m2), .val (.int m3), .val (.int sl), .val (.int fr), .val (.int ct), .val (.int rr), .val (.ref b2), .unset, .unset, .unset, .unset, .unset, .unset, .unset, .unset, .unset] [(.int ((2 : Int32) + rr)), (.int (2 : Int32)), (.ref b2)]))
  refine own_go (fun _ kS => XS.iconst X4.here hx rfl (hb hby at_85) kS) ?_
  show own_Run p e below _ (T4.setTop (mkF m 86 #[.val (.int p1), .val (.int p2), .val (.int p3), .val (.int p4), .val (.int p5), .val (.int p6), .val (.int m0), .val (.int m1), .val (.int m2), .val (.int m3), .val (.int sl), .val (.int fr), .val (.int ct), .val (.int rr), .val (.ref b2), .unset, .unset, .unset, .unset, .unset, .unset, .unset, .unset, .unset] [(.int (3 : Int32)), (.int ((2 : Int32) + rr)), (.int (2 : Int32)), (.ref b2)]))
  refine own_go (fun _ kS => XS.iand X4.here hx rfl (hb hby at_86) rfl kS) ?_
  show own_Run p e below _ (T4.setTop (mkF m 87 #[.val (.int p1), .val (.int p2), .val (.int p3), .val (.int p4), .val (.int p5), .val (.int p6), .val (.int m0), .val (.int m1), .val (.int m2), .val (.int m3), .val (.int sl), .val (.int fr), .val (.int ct), .val (.int rr), .val (.ref b2), .unset, .unset, .unset, .unset, .unset, .unset, .unset, .unset, .unset] [(.int (((2 : Int32) + rr) &&& (3 : Int32))), (.int (2 : Int32)), (.ref b2)]))
  refine own_iastore X4 hx hZ e4 A4 (j := (2 : Int32)) ⟨by decide, by decide⟩ rfl rfl (hb hby at_87) (fun T5 h5 X5 e5 W5 A5 => ?_)
  replace hz := Nat.le_trans hz (Nat.le_of_eq W5.size.symm)
  replace N := Fr.snoc X5 N g_b2
  replace A5 : own_Arr Z h5 b2 .int 4 (own_up (own_up (own_up (fun _ => (.int (0 : Int32))) 0 (.int rr)) 1 (.int (((1 : Int32) + rr) &&& (3 : Int32)))) 2 (.int (((2 : Int32) + rr) &&& (3 : Int32)))) := A5.congr (fun i _ => rfl)
  show own_Run p e below _ (T5.setTop (mkF m 88 #[.val (.int p1), .val (.int p2), .val (.int p3), .val (.int p4), .val (.int p5), .val (.int p6), .val (.int m0), .val (.int m1), .val (.int m2), .val (.int m3), .val (.int sl), .val (.int fr), .val (.int ct), .val (.int rr), .val (.ref b2), .unset, .unset, .unset, .unset, .unset, .unset, .unset, .unset, .unset] []))
  refine own_go (fun _ kS => XS.aload X5.here hx rfl (hb hby at_88) rfl rfl kS) ?_
  show own_Run p e below _ (T5.setTop (mkF m 90 #[.val (.int p1), .val (.int p2), .val (.int p3), .val (.int p4), .val (.int p5), .val (.int p6), .val (.int m0), .val (.int m1), .val (.int m2), .val (.int m3), .val (.int sl), .val (.int fr), .val (.int ct), .val (.int rr), .val (.ref b2), .unset, .unset, .unset, .unset, .unset, .unset, .unset, .unset, .unset] [(.ref b2)]))
  refine own_go (fun _ kS => XS.iconst X5.here hx rfl (hb hby at_90) kS) ?_
  show own_Run p e below _ (T5.setTop (mkF m 91 #[.val (.int p1), .val (.int p2), .val (.int p3), .val (.int p4), .val (.int p5), .val (.int p6), .val (.int m0), .val (.int m1), .val (.int m2), .val (.int m3), .val (.int sl), .val (.int fr), .val (.int ct), .val (.int rr), .val (.ref b2), .unset, .unset, .unset, .unset, .unset, .unset, .unset, .unset, .unset] [(.int (3 : Int32)), (.ref b2)]))
  refine own_go (fun _ kS => XS.iconst X5.here hx rfl (hb hby at_91) kS) ?_
  show own_Run p e below _ (T5.setTop (mkF m 92 #[.val (.int p1), .val (.int p2), .val (.int p3), .val (.int p4), .val (.int p5), .val (.int p6), .val (.int m0), .val (.int m1), .val (.int m2), .val (.int m3), .val (.int sl), .val (.int fr), .val (.int ct), .val (.int rr), .val (.ref b2), .unset, .unset, .unset, .unset, .unset, .unset, .unset, .unset, .unset] [(.int (3 : Int32)), (.int (3 : Int32)), (.ref b2)]))
  refine own_go (fun _ kS => XS.iload X5.here hx rfl (hb hby at_92) rfl kS) ?_
  show own_Run p e below _ (T5.setTop (mkF m 94 #[.val (.int p1), .val (.int p2), .val (.int p3), .val (.int p4), .val (.int p5), .val (.int p6), .val (.int m0), .val (.int m1), .val (.int m2), .val (.int m3), .val (.int sl), .val (.int fr), .val (.int ct), .val (.int rr), .val (.ref b2), .unset, .unset, .unset, .unset, .unset, .unset, .unset, .unset, .unset] [(.int rr), (.int (3 : Int32)), (.int (3 : Int32)), (.ref b2)]))
  refine own_go (fun _ kS => XS.iadd X5.here hx rfl (hb hby at_94) rfl kS) ?_
  show own_Run p e below _ (T5.setTop (mkF m 95 #[.val (.int p1), .val (.int p2), .val (.int p3), .val (.int p4), .val (.int p5), .val (.int p6), .val (.int m0), .val (.int m1), .val (.int m2), .val (.int m3), .val (.int sl), .val (.int fr), .val (.int ct), .val (.int rr), .val (.ref b2), .unset, .unset, .unset, .unset, .unset, .unset, .unset, .unset, .unset] [(.int ((3 : Int32) + rr)), (.int (3 : Int32)), (.ref b2)]))
  refine own_go (fun _ kS => XS.iconst X5.here hx rfl (hb hby at_95) kS) ?_
  show own_Run p e below _ (T5.setTop (mkF m 96 #[.val (.int p1), .val (.int p2), .val (.int p3), .val (.int p4), .val (.int p5), .val (.int p6), .val (.int m0), .val (.int m1), .val (.int m2), .val (.int m3), .val (.int sl), .val (.int fr), .val (.int ct), .val (.int rr), .val (.ref b2), .unset, .unset, .unset, .unset, .unset, .unset, .unset, .unset, .unset] [(.int (3 : Int32)), (.int ((3 : Int32) + rr)), (.int (3 : Int32)), (.ref b2)]))
  refine own_go (fun _ kS => XS.iand X5.here hx rfl (hb hby at_96) rfl kS) ?_
  show own_Run p e below _ (T5.setTop (mkF m 97 #[.val (.int p1), .val (.int p2), .val (.int p3), .val (.int p4), .val (.int p5), .val (.int p6), .val (.int m0), .val (.int m1), .val (.int m2), .val (.int m3), .val (.int sl), .val (.int fr), .val (.int ct), .val (.int rr), .val (.ref b2), .unset, .unset, .unset, .unset, .unset, .unset, .unset, .unset, .unset] [(.int (((3 : Int32) + rr) &&& (3 : Int32))), (.int (3 : Int32)), (.ref b2)]))
  refine own_iastore X5 hx hZ e5 A5 (j := (3 : Int32)) ⟨by decide, by decide⟩ rfl rfl (hb hby at_97) (fun T6 h6 X6 e6 W6 A6 => ?_)
  replace hz := Nat.le_trans hz (Nat.le_of_eq W6.size.symm)
  replace N := Fr.snoc X6 N g_b2
  replace A6 : own_Arr Z h6 b2 .int 4 (own_up (own_up (own_up (own_up (fun _ => (.int (0 : Int32))) 0 (.int rr)) 1 (.int (((1 : Int32) + rr) &&& (3 : Int32)))) 2 (.int (((2 : Int32) + rr) &&& (3 : Int32)))) 3 (.int (((3 : Int32) + rr) &&& (3 : Int32)))) := A6.congr (fun i _ => rfl)
  show own_Run p e below _ (T6.setTop (mkF m 98 #[.val (.int p1), .val (.int p2), .val (.int p3), .val (.int p4), .val (.int p5), .val (.int p6), .val (.int m0), .val (.int m1), .val (.int m2), .val (.int m3), .val (.int sl), .val (.int fr), .val (.int ct), .val (.int rr), .val (.ref b2), .unset, .unset, .unset, .unset, .unset, .unset, .unset, .unset, .unset] []))
  replace A6 : own_Arr Z h6 b2 .int 4 (fun k => .int (Int32.ofInt (own_P nr k))) := A6.congr (fun k hk => own_pres rr nr hnr (by omega) k hk)
  refine own_go (fun _ kS => XS.iconst X6.here hx rfl (hb hby at_98) kS) ?_
  show own_Run p e below _ (T6.setTop (mkF m 99 #[.val (.int p1), .val (.int p2), .val (.int p3), .val (.int p4), .val (.int p5), .val (.int p6), .val (.int m0), .val (.int m1), .val (.int m2), .val (.int m3), .val (.int sl), .val (.int fr), .val (.int ct), .val (.int rr), .val (.ref b2), .unset, .unset, .unset, .unset, .unset, .unset, .unset, .unset, .unset] [(.int (4 : Int32))]))
  refine own_newP X6 hx hZ e6 (hw _ (List.mem_of_getElem? (i := 5) rfl)) rfl (hb hby at_99) rfl 4 4 rfl (by decide) (by decide) (by decide) (by decide) "[I" rfl (fun b7 T7 h7 gb7 X7 e7 E7 A7 G7 => ?_)
  have ne_b2_b7 : b2 ≠ b7 := Nat.ne_of_lt (Nat.lt_of_lt_of_le A6.lt (Nat.le_of_eq gb7.symm))
  have g_b7 : n0 ≤ b7 := Nat.le_trans hz (Nat.le_of_eq gb7.symm)
  replace A6 := A6.ext E7
  replace hz := Nat.le_trans hz E7.1
  replace A7 : own_Arr Z h7 b7 .int 4 (fun _ => (.int (0 : Int32))) := A7
  show own_Run p e below _ (T7.setTop (mkF m 101 #[.val (.int p1), .val (.int p2), .val (.int p3), .val (.int p4), .val (.int p5), .val (.int p6), .val (.int m0), .val (.int m1), .val (.int m2), .val (.int m3), .val (.int sl), .val (.int fr), .val (.int ct), .val (.int rr), .val (.ref b2), .unset, .unset, .unset, .unset, .unset, .unset, .unset, .unset, .unset] [(.ref b7)]))
  refine own_go (fun _ kS => XS.astore X7.here hx rfl (hb hby at_101) rfl rfl (l' := #[.val (.int p1), .val (.int p2), .val (.int p3), .val (.int p4), .val (.int p5), .val (.int p6), .val (.int m0), .val (.int m1), .val (.int m2), .val (.int m3), .val (.int sl), .val (.int fr), .val (.int ct), .val (.int rr), .val (.ref b2), .val (.ref b7), .unset, .unset, .unset, .unset, .unset, .unset, .unset, .unset]) rfl kS) ?_
  show own_Run p e below _ (T7.setTop (mkF m 103 #[.val (.int p1), .val (.int p2), .val (.int p3), .val (.int p4), .val (.int p5), .val (.int p6), .val (.int m0), .val (.int m1), .val (.int m2), .val (.int m3), .val (.int sl), .val (.int fr), .val (.int ct), .val (.int rr), .val (.ref b2), .val (.ref b7), .unset, .unset, .unset, .unset, .unset, .unset, .unset, .unset] []))
  replace A7 : own_Arr Z h7 b7 .int 4 (fun k => .int ((fun _ => (0 : Int32)) k)) := A7.congr (fun k hk => rfl)
  refine own_go (fun _ kS => XS.aload X7.here hx rfl (hb hby at_103) rfl rfl kS) ?_
  show own_Run p e below _ (T7.setTop (mkF m 105 #[.val (.int p1), .val (.int p2), .val (.int p3), .val (.int p4), .val (.int p5), .val (.int p6), .val (.int m0), .val (.int m1), .val (.int m2), .val (.int m3), .val (.int sl), .val (.int fr), .val (.int ct), .val (.int rr), .val (.ref b2), .val (.ref b7), .unset, .unset, .unset, .unset, .unset, .unset, .unset, .unset] [(.ref b7)]))
  refine own_go (fun _ kS => XS.aload X7.here hx rfl (hb hby at_105) rfl rfl kS) ?_
  show own_Run p e below _ (T7.setTop (mkF m 107 #[.val (.int p1), .val (.int p2), .val (.int p3), .val (.int p4), .val (.int p5), .val (.int p6), .val (.int m0), .val (.int m1), .val (.int m2), .val (.int m3), .val (.int sl), .val (.int fr), .val (.int ct), .val (.int rr), .val (.ref b2), .val (.ref b7), .unset, .unset, .unset, .unset, .unset, .unset, .unset, .unset] [(.ref b2), (.ref b7)]))
  refine own_go (fun _ kS => XS.iload X7.here hx rfl (hb hby at_107) rfl kS) ?_
  show own_Run p e below _ (T7.setTop (mkF m 109 #[.val (.int p1), .val (.int p2), .val (.int p3), .val (.int p4), .val (.int p5), .val (.int p6), .val (.int m0), .val (.int m1), .val (.int m2), .val (.int m3), .val (.int sl), .val (.int fr), .val (.int ct), .val (.int rr), .val (.ref b2), .val (.ref b7), .unset, .unset, .unset, .unset, .unset, .unset, .unset, .unset] [(.int fr), (.ref b2), (.ref b7)]))
  refine own_iaload X7 hx hZ e7 A6 (j := fr) (Int32.ofInt ((own_P nr nf : Nat) : Int)) ⟨by first | omega | (rw [own_oi _ (by have w := own_Plt nr; exact Nat.lt_trans (w _) (by decide))]; omega), by first | omega | (rw [own_oi _ (by have w := own_Plt nr; exact Nat.lt_trans (w _) (by decide))]; exact Int.ofNat_lt.mpr (own_Plt nr _))⟩ (by show Value.int (Int32.ofInt ((own_P nr fr.toNatClampNeg : Nat) : Int)) = _; rw [cfr]) rfl rfl (hb hby at_109) ?_
  show own_Run p e below _ (T7.setTop (mkF m 110 #[.val (.int p1), .val (.int p2), .val (.int p3), .val (.int p4), .val (.int p5), .val (.int p6), .val (.int m0), .val (.int m1), .val (.int m2), .val (.int m3), .val (.int sl), .val (.int fr), .val (.int ct), .val (.int rr), .val (.ref b2), .val (.ref b7), .unset, .unset, .unset, .unset, .unset, .unset, .unset, .unset] [(.int (Int32.ofInt ((own_P nr nf : Nat) : Int))), (.ref b7)]))
  refine own_go (fun _ kS => XS.iload X7.here hx rfl (hb hby at_110) rfl kS) ?_
  show own_Run p e below _ (T7.setTop (mkF m 112 #[.val (.int p1), .val (.int p2), .val (.int p3), .val (.int p4), .val (.int p5), .val (.int p6), .val (.int m0), .val (.int m1), .val (.int m2), .val (.int m3), .val (.int sl), .val (.int fr), .val (.int ct), .val (.int rr), .val (.ref b2), .val (.ref b7), .unset, .unset, .unset, .unset, .unset, .unset, .unset, .unset] [(.int m0), (.int (Int32.ofInt ((own_P nr nf : Nat) : Int))), (.ref b7)]))
  refine own_iastore X7 hx hZ e7 A7 (j := (Int32.ofInt ((own_P nr nf : Nat) : Int))) ⟨by first | omega | (rw [own_oi _ (by have w := own_Plt nr; exact Nat.lt_trans (w _) (by decide))]; omega), by first | omega | (rw [own_oi _ (by have w := own_Plt nr; exact Nat.lt_trans (w _) (by decide))]; exact Int.ofNat_lt.mpr (own_Plt nr _))⟩ rfl rfl (hb hby at_112) (fun T8 h8 X8 e8 W8 A8 => ?_)
  replace A6 := A6.other W8 ne_b2_b7
  replace hz := Nat.le_trans hz (Nat.le_of_eq W8.size.symm)
  replace N := Fr.snoc X8 N g_b7
  replace A8 : own_Arr Z h8 b7 .int 4 (fun k => .int ((own_ups (fun _ => (0 : Int32)) (own_P nr nf) m0) k)) := A8.congr (fun i _ => own_upsc (own_ofn (own_P nr nf) (own_Plt nr nf)) (fun _ => (0 : Int32)) _ i)
  show own_Run p e below _ (T8.setTop (mkF m 113 #[.val (.int p1), .val (.int p2), .val (.int p3), .val (.int p4), .val (.int p5), .val (.int p6), .val (.int m0), .val (.int m1), .val (.int m2), .val (.int m3), .val (.int sl), .val (.int fr), .val (.int ct), .val (.int rr), .val (.ref b2), .val (.ref b7), .unset, .unset, .unset, .unset, .unset, .unset, .unset, .unset] []))
  refine own_go (fun _ kS => XS.aload X8.here hx rfl (hb hby at_113) rfl rfl kS) ?_
  show own_Run p e below _ (T8.setTop (mkF m 115 #[.val (.int p1), .val (.int p2), .val (.int p3), .val (.int p4), .val (.int p5), .val (.int p6), .val (.int m0), .val (.int m1), .val (.int m2), .val (.int m3), .val (.int sl), .val (.int fr), .val (.int ct), .val (.int rr), .val (.ref b2), .val (.ref b7), .unset, .unset, .unset, .unset, .unset, .unset, .unset, .unset] [(.ref b7)]))
  refine own_go (fun _ kS => XS.aload X8.here hx rfl (hb hby at_115) rfl rfl kS) ?_
  show own_Run p e below _ (T8.setTop (mkF m 117 #[.val (.int p1), .val (.int p2), .val (.int p3), .val (.int p4), .val (.int p5), .val (.int p6), .val (.int m0), .val (.int m1), .val (.int m2), .val (.int m3), .val (.int sl), .val (.int fr), .val (.int ct), .val (.int rr), .val (.ref b2), .val (.ref b7), .unset, .unset, .unset, .unset, .unset, .unset, .unset, .unset] [(.ref b2), (.ref b7)]))
  refine own_go (fun _ kS => XS.iload X8.here hx rfl (hb hby at_117) rfl kS) ?_
  show own_Run p e below _ (T8.setTop (mkF m 119 #[.val (.int p1), .val (.int p2), .val (.int p3), .val (.int p4), .val (.int p5), .val (.int p6), .val (.int m0), .val (.int m1), .val (.int m2), .val (.int m3), .val (.int sl), .val (.int fr), .val (.int ct), .val (.int rr), .val (.ref b2), .val (.ref b7), .unset, .unset, .unset, .unset, .unset, .unset, .unset, .unset] [(.int fr), (.ref b2), (.ref b7)]))
  refine own_go (fun _ kS => XS.iconst X8.here hx rfl (hb hby at_119) kS) ?_
  show own_Run p e below _ (T8.setTop (mkF m 120 #[.val (.int p1), .val (.int p2), .val (.int p3), .val (.int p4), .val (.int p5), .val (.int p6), .val (.int m0), .val (.int m1), .val (.int m2), .val (.int m3), .val (.int sl), .val (.int fr), .val (.int ct), .val (.int rr), .val (.ref b2), .val (.ref b7), .unset, .unset, .unset, .unset, .unset, .unset, .unset, .unset] [(.int (1 : Int32)), (.int fr), (.ref b2), (.ref b7)]))
  refine own_go (fun _ kS => XS.iadd X8.here hx rfl (hb hby at_120) rfl kS) ?_
  show own_Run p e below _ (T8.setTop (mkF m 121 #[.val (.int p1), .val (.int p2), .val (.int p3), .val (.int p4), .val (.int p5), .val (.int p6), .val (.int m0), .val (.int m1), .val (.int m2), .val (.int m3), .val (.int sl), .val (.int fr), .val (.int ct), .val (.int rr), .val (.ref b2), .val (.ref b7), .unset, .unset, .unset, .unset, .unset, .unset, .unset, .unset] [(.int (fr + (1 : Int32))), (.ref b2), (.ref b7)]))
  refine own_iaload X8 hx hZ e8 A6 (j := (fr + (1 : Int32))) (Int32.ofInt ((own_P nr (nf + 1) : Nat) : Int)) ⟨by first | omega | (rw [own_oi _ (by have w := own_Plt nr; exact Nat.lt_trans (w _) (by decide))]; omega), by first | omega | (rw [own_oi _ (by have w := own_Plt nr; exact Nat.lt_trans (w _) (by decide))]; exact Int.ofNat_lt.mpr (own_Plt nr _))⟩ (by show Value.int (Int32.ofInt ((own_P nr (fr + (1 : Int32)).toNatClampNeg : Nat) : Int)) = _; rw [cfr1]) rfl rfl (hb hby at_121) ?_
  show own_Run p e below _ (T8.setTop (mkF m 122 #[.val (.int p1), .val (.int p2), .val (.int p3), .val (.int p4), .val (.int p5), .val (.int p6), .val (.int m0), .val (.int m1), .val (.int m2), .val (.int m3), .val (.int sl), .val (.int fr), .val (.int ct), .val (.int rr), .val (.ref b2), .val (.ref b7), .unset, .unset, .unset, .unset, .unset, .unset, .unset, .unset] [(.int (Int32.ofInt ((own_P nr (nf + 1) : Nat) : Int))), (.ref b7)]))
  refine own_go (fun _ kS => XS.iload X8.here hx rfl (hb hby at_122) rfl kS) ?_
  show own_Run p e below _ (T8.setTop (mkF m 124 #[.val (.int p1), .val (.int p2), .val (.int p3), .val (.int p4), .val (.int p5), .val (.int p6), .val (.int m0), .val (.int m1), .val (.int m2), .val (.int m3), .val (.int sl), .val (.int fr), .val (.int ct), .val (.int rr), .val (.ref b2), .val (.ref b7), .unset, .unset, .unset, .unset, .unset, .unset, .unset, .unset] [(.int m1), (.int (Int32.ofInt ((own_P nr (nf + 1) : Nat) : Int))), (.ref b7)]))
  refine own_iastore X8 hx hZ e8 A8 (j := (Int32.ofInt ((own_P nr (nf + 1) : Nat) : Int))) ⟨by first | omega | (rw [own_oi _ (by have w := own_Plt nr; exact Nat.lt_trans (w _) (by decide))]; omega), by first | omega | (rw [own_oi _ (by have w := own_Plt nr; exact Nat.lt_trans (w _) (by decide))]; exact Int.ofNat_lt.mpr (own_Plt nr _))⟩ rfl rfl (hb hby at_124) (fun T9 h9 X9 e9 W9 A9 => ?_)
  replace A6 := A6.other W9 ne_b2_b7
  replace hz := Nat.le_trans hz (Nat.le_of_eq W9.size.symm)
  replace N := Fr.snoc X9 N g_b7
  replace A9 : own_Arr Z h9 b7 .int 4 (fun k => .int ((own_ups (own_ups (fun _ => (0 : Int32)) (own_P nr nf) m0) (own_P nr (nf + 1)) m1) k)) := A9.congr (fun i _ => own_upsc (own_ofn (own_P nr (nf + 1)) (own_Plt nr (nf + 1))) (own_ups (fun _ => (0 : Int32)) (own_P nr nf) m0) _ i)
  show own_Run p e below _ (T9.setTop (mkF m 125 #[.val (.int p1), .val (.int p2), .val (.int p3), .val (.int p4), .val (.int p5), .val (.int p6), .val (.int m0), .val (.int m1), .val (.int m2), .val (.int m3), .val (.int sl), .val (.int fr), .val (.int ct), .val (.int rr), .val (.ref b2), .val (.ref b7), .unset, .unset, .unset, .unset, .unset, .unset, .unset, .unset] []))
  refine own_go (fun _ kS => XS.aload X9.here hx rfl (hb hby at_125) rfl rfl kS) ?_
  show own_Run p e below _ (T9.setTop (mkF m 127 #[.val (.int p1), .val (.int p2), .val (.int p3), .val (.int p4), .val (.int p5), .val (.int p6), .val (.int m0), .val (.int m1), .val (.int m2), .val (.int m3), .val (.int sl), .val (.int fr), .val (.int ct), .val (.int rr), .val (.ref b2), .val (.ref b7), .unset, .unset, .unset, .unset, .unset, .unset, .unset, .unset] [(.ref b7)]))
  refine own_go (fun _ kS => XS.aload X9.here hx rfl (hb hby at_127) rfl rfl kS) ?_
  show own_Run p e below _ (T9.setTop (mkF m 129 #[.val (.int p1), .val (.int p2), .val (.int p3), .val (.int p4), .val (.int p5), .val (.int p6), .val (.int m0), .val (.int m1), .val (.int m2), .val (.int m3), .val (.int sl), .val (.int fr), .val (.int ct), .val (.int rr), .val (.ref b2), .val (.ref b7), .unset, .unset, .unset, .unset, .unset, .unset, .unset, .unset] [(.ref b2), (.ref b7)]))
  refine own_go (fun _ kS => XS.iload X9.here hx rfl (hb hby at_129) rfl kS) ?_
  show own_Run p e below _ (T9.setTop (mkF m 131 #[.val (.int p1), .val (.int p2), .val (.int p3), .val (.int p4), .val (.int p5), .val (.int p6), .val (.int m0), .val (.int m1), .val (.int m2), .val (.int m3), .val (.int sl), .val (.int fr), .val (.int ct), .val (.int rr), .val (.ref b2), .val (.ref b7), .unset, .unset, .unset, .unset, .unset, .unset, .unset, .unset] [(.int fr), (.ref b2), (.ref b7)]))
  refine own_go (fun _ kS => XS.iconst X9.here hx rfl (hb hby at_131) kS) ?_
  show own_Run p e below _ (T9.setTop (mkF m 132 #[.val (.int p1), .val (.int p2), .val (.int p3), .val (.int p4), .val (.int p5), .val (.int p6), .val (.int m0), .val (.int m1), .val (.int m2), .val (.int m3), .val (.int sl), .val (.int fr), .val (.int ct), .val (.int rr), .val (.ref b2), .val (.ref b7), .unset, .unset, .unset, .unset, .unset, .unset, .unset, .unset] [(.int (2 : Int32)), (.int fr), (.ref b2), (.ref b7)]))
  refine own_go (fun _ kS => XS.iadd X9.here hx rfl (hb hby at_132) rfl kS) ?_
  show own_Run p e below _ (T9.setTop (mkF m 133 #[.val (.int p1), .val (.int p2), .val (.int p3), .val (.int p4), .val (.int p5), .val (.int p6), .val (.int m0), .val (.int m1), .val (.int m2), .val (.int m3), .val (.int sl), .val (.int fr), .val (.int ct), .val (.int rr), .val (.ref b2), .val (.ref b7), .unset, .unset, .unset, .unset, .unset, .unset, .unset, .unset] [(.int (fr + (2 : Int32))), (.ref b2), (.ref b7)]))
  refine own_iaload X9 hx hZ e9 A6 (j := (fr + (2 : Int32))) (Int32.ofInt ((own_P nr (nf + 2) : Nat) : Int)) ⟨by first | omega | (rw [own_oi _ (by have w := own_Plt nr; exact Nat.lt_trans (w _) (by decide))]; omega), by first | omega | (rw [own_oi _ (by have w := own_Plt nr; exact Nat.lt_trans (w _) (by decide))]; exact Int.ofNat_lt.mpr (own_Plt nr _))⟩ (by show Value.int (Int32.ofInt ((own_P nr (fr + (2 : Int32)).toNatClampNeg : Nat) : Int)) = _; rw [cfr2]) rfl rfl (hb hby at_133) ?_
  show own_Run p e below _ (T9.setTop (mkF m 134 #[.val (.int p1), .val (.int p2), .val (.int p3), .val (.int p4), .val (.int p5), .val (.int p6), .val (.int m0), .val (.int m1), .val (.int m2), .val (.int m3), .val (.int sl), .val (.int fr), .val (.int ct), .val (.int rr), .val (.ref b2), .val (.ref b7), .unset, .unset, .unset, .unset, .unset, .unset, .unset, .unset] [(.int (Int32.ofInt ((own_P nr (nf + 2) : Nat) : Int))), (.ref b7)]))
  refine own_go (fun _ kS => XS.iload X9.here hx rfl (hb hby at_134) rfl kS) ?_
  show own_Run p e below _ (T9.setTop (mkF m 136 #[.val (.int p1), .val (.int p2), .val (.int p3), .val (.int p4), .val (.int p5), .val (.int p6), .val (.int m0), .val (.int m1), .val (.int m2), .val (.int m3), .val (.int sl), .val (.int fr), .val (.int ct), .val (.int rr), .val (.ref b2), .val (.ref b7), .unset, .unset, .unset, .unset, .unset, .unset, .unset, .unset] [(.int m2), (.int (Int32.ofInt ((own_P nr (nf + 2) : Nat) : Int))), (.ref b7)]))
  refine own_iastore X9 hx hZ e9 A9 (j := (Int32.ofInt ((own_P nr (nf + 2) : Nat) : Int))) ⟨by first | omega | (rw [own_oi _ (by have w := own_Plt nr; exact Nat.lt_trans (w _) (by decide))]; omega), by first | omega | (rw [own_oi _ (by have w := own_Plt nr; exact Nat.lt_trans (w _) (by decide))]; exact Int.ofNat_lt.mpr (own_Plt nr _))⟩ rfl rfl (hb hby at_136) (fun T10 h10 X10 e10 W10 A10 => ?_)
  replace A6 := A6.other W10 ne_b2_b7
  replace hz := Nat.le_trans hz (Nat.le_of_eq W10.size.symm)
  replace N := Fr.snoc X10 N g_b7
  replace A10 : own_Arr Z h10 b7 .int 4 (fun k => .int ((own_ups (own_ups (own_ups (fun _ => (0 : Int32)) (own_P nr nf) m0) (own_P nr (nf + 1)) m1) (own_P nr (nf + 2)) m2) k)) := A10.congr (fun i _ => own_upsc (own_ofn (own_P nr (nf + 2)) (own_Plt nr (nf + 2))) (own_ups (own_ups (fun _ => (0 : Int32)) (own_P nr nf) m0) (own_P nr (nf + 1)) m1) _ i)
  show own_Run p e below _ (T10.setTop (mkF m 137 #[.val (.int p1), .val (.int p2), .val (.int p3), .val (.int p4), .val (.int p5), .val (.int p6), .val (.int m0), .val (.int m1), .val (.int m2), .val (.int m3), .val (.int sl), .val (.int fr), .val (.int ct), .val (.int rr), .val (.ref b2), .val (.ref b7), .unset, .unset, .unset, .unset, .unset, .unset, .unset, .unset] []))
  refine own_go (fun _ kS => XS.aload X10.here hx rfl (hb hby at_137) rfl rfl kS) ?_
  show own_Run p e below _ (T10.setTop (mkF m 139 #[.val (.int p1), .val (.int p2), .val (.int p3), .val (.int p4), .val (.int p5), .val (.int p6), .val (.int m0), .val (.int m1), .val (.int m2), .val (.int m3), .val (.int sl), .val (.int fr), .val (.int ct), .val (.int rr), .val (.ref b2), .val (.ref b7), .unset, .unset, .unset, .unset, .unset, .unset, .unset, .unset] [(.ref b7)]))
  refine own_go (fun _ kS => XS.aload X10.here hx rfl (hb hby at_139) rfl rfl kS) ?_
  show own_Run p e below _ (T10.setTop (mkF m 141 #[.val (.int p1), .val (.int p2), .val (.int p3), .val (.int p4), .val (.int p5), .val (.int p6), .val (.int m0), .val (.int m1), .val (.int m2), .val (.int m3), .val (.int sl), .val (.int fr), .val (.int ct), .val (.int rr), .val (.ref b2), .val (.ref b7), .unset, .unset, .unset, .unset, .unset, .unset, .unset, .unset] [(.ref b2), (.ref b7)]))
  refine own_go (fun _ kS => XS.iload X10.here hx rfl (hb hby at_141) rfl kS) ?_
  show own_Run p e below _ (T10.setTop (mkF m 143 #[.val (.int p1), .val (.int p2), .val (.int p3), .val (.int p4), .val (.int p5), .val (.int p6), .val (.int m0), .val (.int m1), .val (.int m2), .val (.int m3), .val (.int sl), .val (.int fr), .val (.int ct), .val (.int rr), .val (.ref b2), .val (.ref b7), .unset, .unset, .unset, .unset, .unset, .unset, .unset, .unset] [(.int fr), (.ref b2), (.ref b7)]))
  have J151 : ∀ oo : Int32, (oo.toInt = 3 ∧ nf = 0 ∨ oo.toInt = 0 ∧ nf = 1) → own_Run p e below (own_End s room_1 (Q_law Z p1 p2 p3 p4 p5 p6 n0 h0)) (T10.setTop (mkF m 151 #[.val (.int p1), .val (.int p2), .val (.int p3), .val (.int p4), .val (.int p5), .val (.int p6), .val (.int m0), .val (.int m1), .val (.int m2), .val (.int m3), .val (.int sl), .val (.int fr), .val (.int ct), .val (.int rr), .val (.ref b2), .val (.ref b7), .unset, .unset, .unset, .unset, .unset, .unset, .unset, .unset] [(.int oo), (.ref b2), (.ref b7)])) := by
    intro oo hoo
    obtain ⟨no, hno⟩ : ∃ q : Nat, oo.toInt = q := ⟨oo.toInt.toNat, by omega⟩
    have coo : oo.toNatClampNeg = no := by simp only [Int32.toNatClampNeg]; omega
    show own_Run p e below _ (T10.setTop (mkF m 151 #[.val (.int p1), .val (.int p2), .val (.int p3), .val (.int p4), .val (.int p5), .val (.int p6), .val (.int m0), .val (.int m1), .val (.int m2), .val (.int m3), .val (.int sl), .val (.int fr), .val (.int ct), .val (.int rr), .val (.ref b2), .val (.ref b7), .unset, .unset, .unset, .unset, .unset, .unset, .unset, .unset] [(.int oo), (.ref b2), (.ref b7)]))
    refine own_iaload X10 hx hZ e10 A6 (j := oo) (Int32.ofInt ((own_P nr no : Nat) : Int)) ⟨by first | omega | (rw [own_oi _ (by have w := own_Plt nr; exact Nat.lt_trans (w _) (by decide))]; omega), by first | omega | (rw [own_oi _ (by have w := own_Plt nr; exact Nat.lt_trans (w _) (by decide))]; exact Int.ofNat_lt.mpr (own_Plt nr _))⟩ (by show Value.int (Int32.ofInt ((own_P nr oo.toNatClampNeg : Nat) : Int)) = _; rw [coo]) rfl rfl (hb hby at_151) ?_
    show own_Run p e below _ (T10.setTop (mkF m 152 #[.val (.int p1), .val (.int p2), .val (.int p3), .val (.int p4), .val (.int p5), .val (.int p6), .val (.int m0), .val (.int m1), .val (.int m2), .val (.int m3), .val (.int sl), .val (.int fr), .val (.int ct), .val (.int rr), .val (.ref b2), .val (.ref b7), .unset, .unset, .unset, .unset, .unset, .unset, .unset, .unset] [(.int (Int32.ofInt ((own_P nr no : Nat) : Int))), (.ref b7)]))
    refine own_go (fun _ kS => XS.iload X10.here hx rfl (hb hby at_152) rfl kS) ?_
    show own_Run p e below _ (T10.setTop (mkF m 154 #[.val (.int p1), .val (.int p2), .val (.int p3), .val (.int p4), .val (.int p5), .val (.int p6), .val (.int m0), .val (.int m1), .val (.int m2), .val (.int m3), .val (.int sl), .val (.int fr), .val (.int ct), .val (.int rr), .val (.ref b2), .val (.ref b7), .unset, .unset, .unset, .unset, .unset, .unset, .unset, .unset] [(.int m3), (.int (Int32.ofInt ((own_P nr no : Nat) : Int))), (.ref b7)]))
    refine own_iastore X10 hx hZ e10 A10 (j := (Int32.ofInt ((own_P nr no : Nat) : Int))) ⟨by first | omega | (rw [own_oi _ (by have w := own_Plt nr; exact Nat.lt_trans (w _) (by decide))]; omega), by first | omega | (rw [own_oi _ (by have w := own_Plt nr; exact Nat.lt_trans (w _) (by decide))]; exact Int.ofNat_lt.mpr (own_Plt nr _))⟩ rfl rfl (hb hby at_154) (fun T11 h11 X11 e11 W11 A11 => ?_)
    replace A6 := A6.other W11 ne_b2_b7
    replace hz := Nat.le_trans hz (Nat.le_of_eq W11.size.symm)
    replace N := Fr.snoc X11 N g_b7
    replace A11 : own_Arr Z h11 b7 .int 4 (fun k => .int ((own_ups (own_ups (own_ups (own_ups (fun _ => (0 : Int32)) (own_P nr nf) m0) (own_P nr (nf + 1)) m1) (own_P nr (nf + 2)) m2) (own_P nr no) m3) k)) := A11.congr (fun i _ => own_upsc (own_ofn (own_P nr no) (own_Plt nr no)) (own_ups (own_ups (own_ups (fun _ => (0 : Int32)) (own_P nr nf) m0) (own_P nr (nf + 1)) m1) (own_P nr (nf + 2)) m2) _ i)
    show own_Run p e below _ (T11.setTop (mkF m 155 #[.val (.int p1), .val (.int p2), .val (.int p3), .val (.int p4), .val (.int p5), .val (.int p6), .val (.int m0), .val (.int m1), .val (.int m2), .val (.int m3), .val (.int sl), .val (.int fr), .val (.int ct), .val (.int rr), .val (.ref b2), .val (.ref b7), .unset, .unset, .unset, .unset, .unset, .unset, .unset, .unset] []))
    replace A11 : own_Arr Z h11 b7 .int 4 (fun k => .int ((own_M nr nf no m0 m1 m2 m3) k)) := A11.congr (fun k hk => rfl)
    refine own_go (fun _ kS => XS.iload X11.here hx rfl (hb hby at_155) rfl kS) ?_
    show own_Run p e below _ (T11.setTop (mkF m 157 #[.val (.int p1), .val (.int p2), .val (.int p3), .val (.int p4), .val (.int p5), .val (.int p6), .val (.int m0), .val (.int m1), .val (.int m2), .val (.int m3), .val (.int sl), .val (.int fr), .val (.int ct), .val (.int rr), .val (.ref b2), .val (.ref b7), .unset, .unset, .unset, .unset, .unset, .unset, .unset, .unset] [(.int ct)]))
    have J167 : ∀ s0 : Int64, s0 = own_sj 0 nc m0 → own_Run p e below (own_End s room_1 (Q_law Z p1 p2 p3 p4 p5 p6 n0 h0)) (T11.setTop (mkF m 167 #[.val (.int p1), .val (.int p2), .val (.int p3), .val (.int p4), .val (.int p5), .val (.int p6), .val (.int m0), .val (.int m1), .val (.int m2), .val (.int m3), .val (.int sl), .val (.int fr), .val (.int ct), .val (.int rr), .val (.ref b2), .val (.ref b7), .unset, .unset, .unset, .unset, .unset, .unset, .unset, .unset] [(.long s0)])) := by
      intro s0 hs0
      show own_Run p e below _ (T11.setTop (mkF m 167 #[.val (.int p1), .val (.int p2), .val (.int p3), .val (.int p4), .val (.int p5), .val (.int p6), .val (.int m0), .val (.int m1), .val (.int m2), .val (.int m3), .val (.int sl), .val (.int fr), .val (.int ct), .val (.int rr), .val (.ref b2), .val (.ref b7), .unset, .unset, .unset, .unset, .unset, .unset, .unset, .unset] [(.long s0)]))
      refine own_go (fun _ kS => XS.iload X11.here hx rfl (hb hby at_167) rfl kS) ?_
      show own_Run p e below _ (T11.setTop (mkF m 169 #[.val (.int p1), .val (.int p2), .val (.int p3), .val (.int p4), .val (.int p5), .val (.int p6), .val (.int m0), .val (.int m1), .val (.int m2), .val (.int m3), .val (.int sl), .val (.int fr), .val (.int ct), .val (.int rr), .val (.ref b2), .val (.ref b7), .unset, .unset, .unset, .unset, .unset, .unset, .unset, .unset] [(.int ct), (.long s0)]))
      refine own_go (fun _ kS => XS.iconst X11.here hx rfl (hb hby at_169) kS) ?_
      show own_Run p e below _ (T11.setTop (mkF m 170 #[.val (.int p1), .val (.int p2), .val (.int p3), .val (.int p4), .val (.int p5), .val (.int p6), .val (.int m0), .val (.int m1), .val (.int m2), .val (.int m3), .val (.int sl), .val (.int fr), .val (.int ct), .val (.int rr), .val (.ref b2), .val (.ref b7), .unset, .unset, .unset, .unset, .unset, .unset, .unset, .unset] [(.int (1 : Int32)), (.int ct), (.long s0)]))
      have J180 : ∀ s1 : Int64, s1 = own_sj 1 nc m1 → own_Run p e below (own_End s room_1 (Q_law Z p1 p2 p3 p4 p5 p6 n0 h0)) (T11.setTop (mkF m 180 #[.val (.int p1), .val (.int p2), .val (.int p3), .val (.int p4), .val (.int p5), .val (.int p6), .val (.int m0), .val (.int m1), .val (.int m2), .val (.int m3), .val (.int sl), .val (.int fr), .val (.int ct), .val (.int rr), .val (.ref b2), .val (.ref b7), .unset, .unset, .unset, .unset, .unset, .unset, .unset, .unset] [(.long s1), (.long s0)])) := by
        intro s1 hs1
        show own_Run p e below _ (T11.setTop (mkF m 180 #[.val (.int p1), .val (.int p2), .val (.int p3), .val (.int p4), .val (.int p5), .val (.int p6), .val (.int m0), .val (.int m1), .val (.int m2), .val (.int m3), .val (.int sl), .val (.int fr), .val (.int ct), .val (.int rr), .val (.ref b2), .val (.ref b7), .unset, .unset, .unset, .unset, .unset, .unset, .unset, .unset] [(.long s1), (.long s0)]))
        refine own_go (fun _ kS => XS.ladd X11.here hx rfl (hb hby at_180) rfl kS) ?_
        show own_Run p e below _ (T11.setTop (mkF m 181 #[.val (.int p1), .val (.int p2), .val (.int p3), .val (.int p4), .val (.int p5), .val (.int p6), .val (.int m0), .val (.int m1), .val (.int m2), .val (.int m3), .val (.int sl), .val (.int fr), .val (.int ct), .val (.int rr), .val (.ref b2), .val (.ref b7), .unset, .unset, .unset, .unset, .unset, .unset, .unset, .unset] [(.long (s0 + s1))]))
        refine own_go (fun _ kS => XS.iload X11.here hx rfl (hb hby at_181) rfl kS) ?_
        show own_Run p e below _ (T11.setTop (mkF m 183 #[.val (.int p1), .val (.int p2), .val (.int p3), .val (.int p4), .val (.int p5), .val (.int p6), .val (.int m0), .val (.int m1), .val (.int m2), .val (.int m3), .val (.int sl), .val (.int fr), .val (.int ct), .val (.int rr), .val (.ref b2), .val (.ref b7), .unset, .unset, .unset, .unset, .unset, .unset, .unset, .unset] [(.int ct), (.long (s0 + s1))]))
        refine own_go (fun _ kS => XS.iconst X11.here hx rfl (hb hby at_183) kS) ?_
        show own_Run p e below _ (T11.setTop (mkF m 184 #[.val (.int p1), .val (.int p2), .val (.int p3), .val (.int p4), .val (.int p5), .val (.int p6), .val (.int m0), .val (.int m1), .val (.int m2), .val (.int m3), .val (.int sl), .val (.int fr), .val (.int ct), .val (.int rr), .val (.ref b2), .val (.ref b7), .unset, .unset, .unset, .unset, .unset, .unset, .unset, .unset] [(.int (2 : Int32)), (.int ct), (.long (s0 + s1))]))
        have J194 : ∀ s2 : Int64, s2 = own_sj 2 nc m2 → own_Run p e below (own_End s room_1 (Q_law Z p1 p2 p3 p4 p5 p6 n0 h0)) (T11.setTop (mkF m 194 #[.val (.int p1), .val (.int p2), .val (.int p3), .val (.int p4), .val (.int p5), .val (.int p6), .val (.int m0), .val (.int m1), .val (.int m2), .val (.int m3), .val (.int sl), .val (.int fr), .val (.int ct), .val (.int rr), .val (.ref b2), .val (.ref b7), .unset, .unset, .unset, .unset, .unset, .unset, .unset, .unset] [(.long s2), (.long (s0 + s1))])) := by
          intro s2 hs2
          show own_Run p e below _ (T11.setTop (mkF m 194 #[.val (.int p1), .val (.int p2), .val (.int p3), .val (.int p4), .val (.int p5), .val (.int p6), .val (.int m0), .val (.int m1), .val (.int m2), .val (.int m3), .val (.int sl), .val (.int fr), .val (.int ct), .val (.int rr), .val (.ref b2), .val (.ref b7), .unset, .unset, .unset, .unset, .unset, .unset, .unset, .unset] [(.long s2), (.long (s0 + s1))]))
          refine own_go (fun _ kS => XS.ladd X11.here hx rfl (hb hby at_194) rfl kS) ?_
          show own_Run p e below _ (T11.setTop (mkF m 195 #[.val (.int p1), .val (.int p2), .val (.int p3), .val (.int p4), .val (.int p5), .val (.int p6), .val (.int m0), .val (.int m1), .val (.int m2), .val (.int m3), .val (.int sl), .val (.int fr), .val (.int ct), .val (.int rr), .val (.ref b2), .val (.ref b7), .unset, .unset, .unset, .unset, .unset, .unset, .unset, .unset] [(.long ((s0 + s1) + s2))]))
          refine own_go (fun _ kS => XS.lstore X11.here hx rfl (hb hby at_195) rfl (l' := #[.val (.int p1), .val (.int p2), .val (.int p3), .val (.int p4), .val (.int p5), .val (.int p6), .val (.int m0), .val (.int m1), .val (.int m2), .val (.int m3), .val (.int sl), .val (.int fr), .val (.int ct), .val (.int rr), .val (.ref b2), .val (.ref b7), .val (.long ((s0 + s1) + s2)), .second, .unset, .unset, .unset, .unset, .unset, .unset]) rfl kS) ?_
          show own_Run p e below _ (T11.setTop (mkF m 197 #[.val (.int p1), .val (.int p2), .val (.int p3), .val (.int p4), .val (.int p5), .val (.int p6), .val (.int m0), .val (.int m1), .val (.int m2), .val (.int m3), .val (.int sl), .val (.int fr), .val (.int ct), .val (.int rr), .val (.ref b2), .val (.ref b7), .val (.long ((s0 + s1) + s2)), .second, .unset, .unset, .unset, .unset, .unset, .unset] []))
          generalize e_sum : ((s0 + s1) + s2) = sum
          refine own_go (fun _ kS => XS.iconst X11.here hx rfl (hb hby at_197) kS) ?_
          show own_Run p e below _ (T11.setTop (mkF m 198 #[.val (.int p1), .val (.int p2), .val (.int p3), .val (.int p4), .val (.int p5), .val (.int p6), .val (.int m0), .val (.int m1), .val (.int m2), .val (.int m3), .val (.int sl), .val (.int fr), .val (.int ct), .val (.int rr), .val (.ref b2), .val (.ref b7), .val (.long sum), .second, .unset, .unset, .unset, .unset, .unset, .unset] [(.int (4 : Int32))]))
          refine own_newP X11 hx hZ e11 (hw _ (List.mem_of_getElem? (i := 5) rfl)) rfl (hb hby at_198) rfl 4 4 rfl (by decide) (by decide) (by decide) (by decide) "[I" rfl (fun b12 T12 h12 gb12 X12 e12 E12 A12 G12 => ?_)
          have ne_b2_b12 : b2 ≠ b12 := Nat.ne_of_lt (Nat.lt_of_lt_of_le A6.lt (Nat.le_of_eq gb12.symm))
          have ne_b7_b12 : b7 ≠ b12 := Nat.ne_of_lt (Nat.lt_of_lt_of_le A11.lt (Nat.le_of_eq gb12.symm))
          have g_b12 : n0 ≤ b12 := Nat.le_trans hz (Nat.le_of_eq gb12.symm)
          replace A6 := A6.ext E12
          replace A11 := A11.ext E12
          replace hz := Nat.le_trans hz E12.1
          replace A12 : own_Arr Z h12 b12 .int 4 (fun _ => (.int (0 : Int32))) := A12
          show own_Run p e below _ (T12.setTop (mkF m 200 #[.val (.int p1), .val (.int p2), .val (.int p3), .val (.int p4), .val (.int p5), .val (.int p6), .val (.int m0), .val (.int m1), .val (.int m2), .val (.int m3), .val (.int sl), .val (.int fr), .val (.int ct), .val (.int rr), .val (.ref b2), .val (.ref b7), .val (.long sum), .second, .unset, .unset, .unset, .unset, .unset, .unset] [(.ref b12)]))
          refine own_go (fun _ kS => XS.astore X12.here hx rfl (hb hby at_200) rfl rfl (l' := #[.val (.int p1), .val (.int p2), .val (.int p3), .val (.int p4), .val (.int p5), .val (.int p6), .val (.int m0), .val (.int m1), .val (.int m2), .val (.int m3), .val (.int sl), .val (.int fr), .val (.int ct), .val (.int rr), .val (.ref b2), .val (.ref b7), .val (.long sum), .second, .val (.ref b12), .unset, .unset, .unset, .unset, .unset]) rfl kS) ?_
          show own_Run p e below _ (T12.setTop (mkF m 202 #[.val (.int p1), .val (.int p2), .val (.int p3), .val (.int p4), .val (.int p5), .val (.int p6), .val (.int m0), .val (.int m1), .val (.int m2), .val (.int m3), .val (.int sl), .val (.int fr), .val (.int ct), .val (.int rr), .val (.ref b2), .val (.ref b7), .val (.long sum), .second, .val (.ref b12), .unset, .unset, .unset, .unset, .unset] []))
          refine own_go (fun _ kS => XS.aload X12.here hx rfl (hb hby at_202) rfl rfl kS) ?_
          show own_Run p e below _ (T12.setTop (mkF m 204 #[.val (.int p1), .val (.int p2), .val (.int p3), .val (.int p4), .val (.int p5), .val (.int p6), .val (.int m0), .val (.int m1), .val (.int m2), .val (.int m3), .val (.int sl), .val (.int fr), .val (.int ct), .val (.int rr), .val (.ref b2), .val (.ref b7), .val (.long sum), .second, .val (.ref b12), .unset, .unset, .unset, .unset, .unset] [(.ref b12)]))
          refine own_go (fun _ kS => XS.iconst X12.here hx rfl (hb hby at_204) kS) ?_
          show own_Run p e below _ (T12.setTop (mkF m 205 #[.val (.int p1), .val (.int p2), .val (.int p3), .val (.int p4), .val (.int p5), .val (.int p6), .val (.int m0), .val (.int m1), .val (.int m2), .val (.int m3), .val (.int sl), .val (.int fr), .val (.int ct), .val (.int rr), .val (.ref b2), .val (.ref b7), .val (.long sum), .second, .val (.ref b12), .unset, .unset, .unset, .unset, .unset] [(.int (0 : Int32)), (.ref b12)]))
          refine own_go (fun _ kS => XS.iconst X12.here hx rfl (hb hby at_205) kS) ?_
          show own_Run p e below _ (T12.setTop (mkF m 206 #[.val (.int p1), .val (.int p2), .val (.int p3), .val (.int p4), .val (.int p5), .val (.int p6), .val (.int m0), .val (.int m1), .val (.int m2), .val (.int m3), .val (.int sl), .val (.int fr), .val (.int ct), .val (.int rr), .val (.ref b2), .val (.ref b7), .val (.long sum), .second, .val (.ref b12), .unset, .unset, .unset, .unset, .unset] [(.int (-1 : Int32)), (.int (0 : Int32)), (.ref b12)]))
          refine own_iastore X12 hx hZ e12 A12 (j := (0 : Int32)) ⟨by decide, by decide⟩ rfl rfl (hb hby at_206) (fun T13 h13 X13 e13 W13 A13 => ?_)
          replace A6 := A6.other W13 ne_b2_b12
          replace A11 := A11.other W13 ne_b7_b12
          replace hz := Nat.le_trans hz (Nat.le_of_eq W13.size.symm)
          replace N := Fr.snoc X13 N g_b12
          replace A13 : own_Arr Z h13 b12 .int 4 (own_up (fun _ => (.int (0 : Int32))) 0 (.int (-1 : Int32))) := A13.congr (fun i _ => rfl)
          show own_Run p e below _ (T13.setTop (mkF m 207 #[.val (.int p1), .val (.int p2), .val (.int p3), .val (.int p4), .val (.int p5), .val (.int p6), .val (.int m0), .val (.int m1), .val (.int m2), .val (.int m3), .val (.int sl), .val (.int fr), .val (.int ct), .val (.int rr), .val (.ref b2), .val (.ref b7), .val (.long sum), .second, .val (.ref b12), .unset, .unset, .unset, .unset, .unset] []))
          refine own_go (fun _ kS => XS.aload X13.here hx rfl (hb hby at_207) rfl rfl kS) ?_
          show own_Run p e below _ (T13.setTop (mkF m 209 #[.val (.int p1), .val (.int p2), .val (.int p3), .val (.int p4), .val (.int p5), .val (.int p6), .val (.int m0), .val (.int m1), .val (.int m2), .val (.int m3), .val (.int sl), .val (.int fr), .val (.int ct), .val (.int rr), .val (.ref b2), .val (.ref b7), .val (.long sum), .second, .val (.ref b12), .unset, .unset, .unset, .unset, .unset] [(.ref b12)]))
          refine own_go (fun _ kS => XS.iconst X13.here hx rfl (hb hby at_209) kS) ?_
          show own_Run p e below _ (T13.setTop (mkF m 210 #[.val (.int p1), .val (.int p2), .val (.int p3), .val (.int p4), .val (.int p5), .val (.int p6), .val (.int m0), .val (.int m1), .val (.int m2), .val (.int m3), .val (.int sl), .val (.int fr), .val (.int ct), .val (.int rr), .val (.ref b2), .val (.ref b7), .val (.long sum), .second, .val (.ref b12), .unset, .unset, .unset, .unset, .unset] [(.int (1 : Int32)), (.ref b12)]))
          refine own_go (fun _ kS => XS.iconst X13.here hx rfl (hb hby at_210) kS) ?_
          show own_Run p e below _ (T13.setTop (mkF m 211 #[.val (.int p1), .val (.int p2), .val (.int p3), .val (.int p4), .val (.int p5), .val (.int p6), .val (.int m0), .val (.int m1), .val (.int m2), .val (.int m3), .val (.int sl), .val (.int fr), .val (.int ct), .val (.int rr), .val (.ref b2), .val (.ref b7), .val (.long sum), .second, .val (.ref b12), .unset, .unset, .unset, .unset, .unset] [(.int (-1 : Int32)), (.int (1 : Int32)), (.ref b12)]))
          refine own_iastore X13 hx hZ e13 A13 (j := (1 : Int32)) ⟨by decide, by decide⟩ rfl rfl (hb hby at_211) (fun T14 h14 X14 e14 W14 A14 => ?_)
          replace A6 := A6.other W14 ne_b2_b12
          replace A11 := A11.other W14 ne_b7_b12
          replace hz := Nat.le_trans hz (Nat.le_of_eq W14.size.symm)
          replace N := Fr.snoc X14 N g_b12
          replace A14 : own_Arr Z h14 b12 .int 4 (own_up (own_up (fun _ => (.int (0 : Int32))) 0 (.int (-1 : Int32))) 1 (.int (-1 : Int32))) := A14.congr (fun i _ => rfl)
          show own_Run p e below _ (T14.setTop (mkF m 212 #[.val (.int p1), .val (.int p2), .val (.int p3), .val (.int p4), .val (.int p5), .val (.int p6), .val (.int m0), .val (.int m1), .val (.int m2), .val (.int m3), .val (.int sl), .val (.int fr), .val (.int ct), .val (.int rr), .val (.ref b2), .val (.ref b7), .val (.long sum), .second, .val (.ref b12), .unset, .unset, .unset, .unset, .unset] []))
          refine own_go (fun _ kS => XS.aload X14.here hx rfl (hb hby at_212) rfl rfl kS) ?_
          show own_Run p e below _ (T14.setTop (mkF m 214 #[.val (.int p1), .val (.int p2), .val (.int p3), .val (.int p4), .val (.int p5), .val (.int p6), .val (.int m0), .val (.int m1), .val (.int m2), .val (.int m3), .val (.int sl), .val (.int fr), .val (.int ct), .val (.int rr), .val (.ref b2), .val (.ref b7), .val (.long sum), .second, .val (.ref b12), .unset, .unset, .unset, .unset, .unset] [(.ref b12)]))
          refine own_go (fun _ kS => XS.iconst X14.here hx rfl (hb hby at_214) kS) ?_
          show own_Run p e below _ (T14.setTop (mkF m 215 #[.val (.int p1), .val (.int p2), .val (.int p3), .val (.int p4), .val (.int p5), .val (.int p6), .val (.int m0), .val (.int m1), .val (.int m2), .val (.int m3), .val (.int sl), .val (.int fr), .val (.int ct), .val (.int rr), .val (.ref b2), .val (.ref b7), .val (.long sum), .second, .val (.ref b12), .unset, .unset, .unset, .unset, .unset] [(.int (2 : Int32)), (.ref b12)]))
          refine own_go (fun _ kS => XS.iconst X14.here hx rfl (hb hby at_215) kS) ?_
          show own_Run p e below _ (T14.setTop (mkF m 216 #[.val (.int p1), .val (.int p2), .val (.int p3), .val (.int p4), .val (.int p5), .val (.int p6), .val (.int m0), .val (.int m1), .val (.int m2), .val (.int m3), .val (.int sl), .val (.int fr), .val (.int ct), .val (.int rr), .val (.ref b2), .val (.ref b7), .val (.long sum), .second, .val (.ref b12), .unset, .unset, .unset, .unset, .unset] [(.int (-1 : Int32)), (.int (2 : Int32)), (.ref b12)]))
          refine own_iastore X14 hx hZ e14 A14 (j := (2 : Int32)) ⟨by decide, by decide⟩ rfl rfl (hb hby at_216) (fun T15 h15 X15 e15 W15 A15 => ?_)
          replace A6 := A6.other W15 ne_b2_b12
          replace A11 := A11.other W15 ne_b7_b12
          replace hz := Nat.le_trans hz (Nat.le_of_eq W15.size.symm)
          replace N := Fr.snoc X15 N g_b12
          replace A15 : own_Arr Z h15 b12 .int 4 (own_up (own_up (own_up (fun _ => (.int (0 : Int32))) 0 (.int (-1 : Int32))) 1 (.int (-1 : Int32))) 2 (.int (-1 : Int32))) := A15.congr (fun i _ => rfl)
          show own_Run p e below _ (T15.setTop (mkF m 217 #[.val (.int p1), .val (.int p2), .val (.int p3), .val (.int p4), .val (.int p5), .val (.int p6), .val (.int m0), .val (.int m1), .val (.int m2), .val (.int m3), .val (.int sl), .val (.int fr), .val (.int ct), .val (.int rr), .val (.ref b2), .val (.ref b7), .val (.long sum), .second, .val (.ref b12), .unset, .unset, .unset, .unset, .unset] []))
          refine own_go (fun _ kS => XS.aload X15.here hx rfl (hb hby at_217) rfl rfl kS) ?_
          show own_Run p e below _ (T15.setTop (mkF m 219 #[.val (.int p1), .val (.int p2), .val (.int p3), .val (.int p4), .val (.int p5), .val (.int p6), .val (.int m0), .val (.int m1), .val (.int m2), .val (.int m3), .val (.int sl), .val (.int fr), .val (.int ct), .val (.int rr), .val (.ref b2), .val (.ref b7), .val (.long sum), .second, .val (.ref b12), .unset, .unset, .unset, .unset, .unset] [(.ref b12)]))
          refine own_go (fun _ kS => XS.iconst X15.here hx rfl (hb hby at_219) kS) ?_
          show own_Run p e below _ (T15.setTop (mkF m 220 #[.val (.int p1), .val (.int p2), .val (.int p3), .val (.int p4), .val (.int p5), .val (.int p6), .val (.int m0), .val (.int m1), .val (.int m2), .val (.int m3), .val (.int sl), .val (.int fr), .val (.int ct), .val (.int rr), .val (.ref b2), .val (.ref b7), .val (.long sum), .second, .val (.ref b12), .unset, .unset, .unset, .unset, .unset] [(.int (3 : Int32)), (.ref b12)]))
          refine own_go (fun _ kS => XS.iconst X15.here hx rfl (hb hby at_220) kS) ?_
          show own_Run p e below _ (T15.setTop (mkF m 221 #[.val (.int p1), .val (.int p2), .val (.int p3), .val (.int p4), .val (.int p5), .val (.int p6), .val (.int m0), .val (.int m1), .val (.int m2), .val (.int m3), .val (.int sl), .val (.int fr), .val (.int ct), .val (.int rr), .val (.ref b2), .val (.ref b7), .val (.long sum), .second, .val (.ref b12), .unset, .unset, .unset, .unset, .unset] [(.int (-1 : Int32)), (.int (3 : Int32)), (.ref b12)]))
          refine own_iastore X15 hx hZ e15 A15 (j := (3 : Int32)) ⟨by decide, by decide⟩ rfl rfl (hb hby at_221) (fun T16 h16 X16 e16 W16 A16 => ?_)
          replace A6 := A6.other W16 ne_b2_b12
          replace A11 := A11.other W16 ne_b7_b12
          replace hz := Nat.le_trans hz (Nat.le_of_eq W16.size.symm)
          replace N := Fr.snoc X16 N g_b12
          replace A16 : own_Arr Z h16 b12 .int 4 (own_up (own_up (own_up (own_up (fun _ => (.int (0 : Int32))) 0 (.int (-1 : Int32))) 1 (.int (-1 : Int32))) 2 (.int (-1 : Int32))) 3 (.int (-1 : Int32))) := A16.congr (fun i _ => rfl)
          show own_Run p e below _ (T16.setTop (mkF m 222 #[.val (.int p1), .val (.int p2), .val (.int p3), .val (.int p4), .val (.int p5), .val (.int p6), .val (.int m0), .val (.int m1), .val (.int m2), .val (.int m3), .val (.int sl), .val (.int fr), .val (.int ct), .val (.int rr), .val (.ref b2), .val (.ref b7), .val (.long sum), .second, .val (.ref b12), .unset, .unset, .unset, .unset, .unset] []))
          replace A16 : own_Arr Z h16 b12 .int 4 (fun k => .int ((fun _ => (-1 : Int32)) k)) := A16.congr (fun k hk => own_all4 _ _ k hk)
          refine own_go (fun _ kS => XS.aload X16.here hx rfl (hb hby at_222) rfl rfl kS) ?_
          show own_Run p e below _ (T16.setTop (mkF m 224 #[.val (.int p1), .val (.int p2), .val (.int p3), .val (.int p4), .val (.int p5), .val (.int p6), .val (.int m0), .val (.int m1), .val (.int m2), .val (.int m3), .val (.int sl), .val (.int fr), .val (.int ct), .val (.int rr), .val (.ref b2), .val (.ref b7), .val (.long sum), .second, .val (.ref b12), .unset, .unset, .unset, .unset, .unset] [(.ref b2)]))
          refine own_go (fun _ kS => XS.iload X16.here hx rfl (hb hby at_224) rfl kS) ?_
          show own_Run p e below _ (T16.setTop (mkF m 226 #[.val (.int p1), .val (.int p2), .val (.int p3), .val (.int p4), .val (.int p5), .val (.int p6), .val (.int m0), .val (.int m1), .val (.int m2), .val (.int m3), .val (.int sl), .val (.int fr), .val (.int ct), .val (.int rr), .val (.ref b2), .val (.ref b7), .val (.long sum), .second, .val (.ref b12), .unset, .unset, .unset, .unset, .unset] [(.int fr), (.ref b2)]))
          refine own_go (fun _ kS => XS.iload X16.here hx rfl (hb hby at_226) rfl kS) ?_
          show own_Run p e below _ (T16.setTop (mkF m 228 #[.val (.int p1), .val (.int p2), .val (.int p3), .val (.int p4), .val (.int p5), .val (.int p6), .val (.int m0), .val (.int m1), .val (.int m2), .val (.int m3), .val (.int sl), .val (.int fr), .val (.int ct), .val (.int rr), .val (.ref b2), .val (.ref b7), .val (.long sum), .second, .val (.ref b12), .unset, .unset, .unset, .unset, .unset] [(.int ct), (.int fr), (.ref b2)]))
          refine own_go (fun _ kS => XS.aload X16.here hx rfl (hb hby at_228) rfl rfl kS) ?_
          show own_Run p e below _ (T16.setTop (mkF m 230 #[.val (.int p1), .val (.int p2), .val (.int p3), .val (.int p4), .val (.int p5), .val (.int p6), .val (.int m0), .val (.int m1), .val (.int m2), .val (.int m3), .val (.int sl), .val (.int fr), .val (.int ct), .val (.int rr), .val (.ref b2), .val (.ref b7), .val (.long sum), .second, .val (.ref b12), .unset, .unset, .unset, .unset, .unset] [(.ref b7), (.int ct), (.int fr), (.ref b2)]))
          refine own_go (fun _ kS => XS.lload X16.here hx rfl (hb hby at_230) rfl kS) ?_
          show own_Run p e below _ (T16.setTop (mkF m 232 #[.val (.int p1), .val (.int p2), .val (.int p3), .val (.int p4), .val (.int p5), .val (.int p6), .val (.int m0), .val (.int m1), .val (.int m2), .val (.int m3), .val (.int sl), .val (.int fr), .val (.int ct), .val (.int rr), .val (.ref b2), .val (.ref b7), .val (.long sum), .second, .val (.ref b12), .unset, .unset, .unset, .unset, .unset] [(.long sum), (.ref b7), (.int ct), (.int fr), (.ref b2)]))
          refine own_go (fun _ kS => XS.iload X16.here hx rfl (hb hby at_232) rfl kS) ?_
          show own_Run p e below _ (T16.setTop (mkF m 234 #[.val (.int p1), .val (.int p2), .val (.int p3), .val (.int p4), .val (.int p5), .val (.int p6), .val (.int m0), .val (.int m1), .val (.int m2), .val (.int m3), .val (.int sl), .val (.int fr), .val (.int ct), .val (.int rr), .val (.ref b2), .val (.ref b7), .val (.long sum), .second, .val (.ref b12), .unset, .unset, .unset, .unset, .unset] [(.int sl), (.long sum), (.ref b7), (.int ct), (.int fr), (.ref b2)]))
          refine own_go (fun _ kS => XS.aload X16.here hx rfl (hb hby at_234) rfl rfl kS) ?_
          show own_Run p e below _ (T16.setTop (mkF m 236 #[.val (.int p1), .val (.int p2), .val (.int p3), .val (.int p4), .val (.int p5), .val (.int p6), .val (.int m0), .val (.int m1), .val (.int m2), .val (.int m3), .val (.int sl), .val (.int fr), .val (.int ct), .val (.int rr), .val (.ref b2), .val (.ref b7), .val (.long sum), .second, .val (.ref b12), .unset, .unset, .unset, .unset, .unset] [(.ref b12), (.int sl), (.long sum), (.ref b7), (.int ct), (.int fr), (.ref b2)]))
          refine own_callS X16 hx hZ e16 hown (⟨"com/example/slotwise/slotwise/flex/Packer", "giveMinima", "([III[IJI[I)I"⟩ : MethodName) (hw _ (List.mem_of_getElem? (i := 6) rfl)) (hw _ (List.mem_of_getElem? (i := 7) rfl)) (hw _ (List.mem_of_getElem? (i := 8) rfl)) (hw _ (List.mem_of_getElem? (i := 9) rfl)) (by decide) [(.ref b2), (.int fr), (.int ct), (.ref b7), (.long sum), (.int sl), (.ref b12)] [] (rm_gm l Z a0 hw b2 fr ct b7 sum sl b12 (own_P nr) (own_M nr nf no m0 m1 m2 m3) (fun _ => (-1 : Int32)) nf nc n0 h16 hz A6 A11 A16 g_b12 ne_b2_b12 ne_b7_b12 hnf hnc (by omega) (fun i _ => own_Plt nr i) r_sl) (by decide) 0 (by decide) (by decide) (by decide) rfl (by rw [hml]; rfl) (lenOf own_pd1 rfl) rfl (by show 2 * 0 + _ ≤ _; exact Nat.le_of_eq rfl) (hb hby at_236) (fun v17 h17 L17 T17 Q17 X17 e17 => ?_)
          obtain ⟨rfl, Nq17, Kq17, A17⟩ := Q17
          replace A6 := A6.keep Kq17 (ninS ne_b2_b12 nin0)
          replace A11 := A11.keep Kq17 (ninS ne_b7_b12 nin0)
          replace hz := Nat.le_trans hz Kq17.1
          replace N := N.app Nq17
          show own_Run p e below _ (T17.setTop (mkF m 239 #[.val (.int p1), .val (.int p2), .val (.int p3), .val (.int p4), .val (.int p5), .val (.int p6), .val (.int m0), .val (.int m1), .val (.int m2), .val (.int m3), .val (.int sl), .val (.int fr), .val (.int ct), .val (.int rr), .val (.ref b2), .val (.ref b7), .val (.long sum), .second, .val (.ref b12), .unset, .unset, .unset, .unset, .unset] [(.int (own_fre (own_P nr) (own_M nr nf no m0 m1 m2 m3) sl sum (own_cut sum sl) nf nc))]))
          refine own_go (fun _ kS => XS.istore X17.here hx rfl (hb hby at_239) rfl (l' := #[.val (.int p1), .val (.int p2), .val (.int p3), .val (.int p4), .val (.int p5), .val (.int p6), .val (.int m0), .val (.int m1), .val (.int m2), .val (.int m3), .val (.int sl), .val (.int fr), .val (.int ct), .val (.int rr), .val (.ref b2), .val (.ref b7), .val (.long sum), .second, .val (.ref b12), .val (.int (own_fre (own_P nr) (own_M nr nf no m0 m1 m2 m3) sl sum (own_cut sum sl) nf nc)), .unset, .unset, .unset, .unset]) rfl kS) ?_
          show own_Run p e below _ (T17.setTop (mkF m 241 #[.val (.int p1), .val (.int p2), .val (.int p3), .val (.int p4), .val (.int p5), .val (.int p6), .val (.int m0), .val (.int m1), .val (.int m2), .val (.int m3), .val (.int sl), .val (.int fr), .val (.int ct), .val (.int rr), .val (.ref b2), .val (.ref b7), .val (.long sum), .second, .val (.ref b12), .val (.int (own_fre (own_P nr) (own_M nr nf no m0 m1 m2 m3) sl sum (own_cut sum sl) nf nc)), .unset, .unset, .unset, .unset] []))
          refine own_go (fun _ kS => XS.lload X17.here hx rfl (hb hby at_241) rfl kS) ?_
          show own_Run p e below _ (T17.setTop (mkF m 243 #[.val (.int p1), .val (.int p2), .val (.int p3), .val (.int p4), .val (.int p5), .val (.int p6), .val (.int m0), .val (.int m1), .val (.int m2), .val (.int m3), .val (.int sl), .val (.int fr), .val (.int ct), .val (.int rr), .val (.ref b2), .val (.ref b7), .val (.long sum), .second, .val (.ref b12), .val (.int (own_fre (own_P nr) (own_M nr nf no m0 m1 m2 m3) sl sum (own_cut sum sl) nf nc)), .unset, .unset, .unset, .unset] [(.long sum)]))
          refine own_go (fun _ kS => XS.iload X17.here hx rfl (hb hby at_243) rfl kS) ?_
          show own_Run p e below _ (T17.setTop (mkF m 245 #[.val (.int p1), .val (.int p2), .val (.int p3), .val (.int p4), .val (.int p5), .val (.int p6), .val (.int m0), .val (.int m1), .val (.int m2), .val (.int m3), .val (.int sl), .val (.int fr), .val (.int ct), .val (.int rr), .val (.ref b2), .val (.ref b7), .val (.long sum), .second, .val (.ref b12), .val (.int (own_fre (own_P nr) (own_M nr nf no m0 m1 m2 m3) sl sum (own_cut sum sl) nf nc)), .unset, .unset, .unset, .unset] [(.int sl), (.long sum)]))
          refine own_go (fun _ kS => XS.i2l X17.here hx rfl (hb hby at_245) rfl kS) ?_
          show own_Run p e below _ (T17.setTop (mkF m 246 #[.val (.int p1), .val (.int p2), .val (.int p3), .val (.int p4), .val (.int p5), .val (.int p6), .val (.int m0), .val (.int m1), .val (.int m2), .val (.int m3), .val (.int sl), .val (.int fr), .val (.int ct), .val (.int rr), .val (.ref b2), .val (.ref b7), .val (.long sum), .second, .val (.ref b12), .val (.int (own_fre (own_P nr) (own_M nr nf no m0 m1 m2 m3) sl sum (own_cut sum sl) nf nc)), .unset, .unset, .unset, .unset] [(.long sl.toInt64), (.long sum)]))
          refine own_go (fun _ kS => XS.lcmp X17.here hx rfl (hb hby at_246) rfl kS) ?_
          show own_Run p e below _ (T17.setTop (mkF m 247 #[.val (.int p1), .val (.int p2), .val (.int p3), .val (.int p4), .val (.int p5), .val (.int p6), .val (.int m0), .val (.int m1), .val (.int m2), .val (.int m3), .val (.int sl), .val (.int fr), .val (.int ct), .val (.int rr), .val (.ref b2), .val (.ref b7), .val (.long sum), .second, .val (.ref b12), .val (.int (own_fre (own_P nr) (own_M nr nf no m0 m1 m2 m3) sl sum (own_cut sum sl) nf nc)), .unset, .unset, .unset, .unset] [(.int (lcmpW sum sl.toInt64))]))
          have J257 : ∀ cu : Int32, cu = own_cut sum sl → own_Run p e below (own_End s room_1 (Q_law Z p1 p2 p3 p4 p5 p6 n0 h0)) (T17.setTop (mkF m 257 #[.val (.int p1), .val (.int p2), .val (.int p3), .val (.int p4), .val (.int p5), .val (.int p6), .val (.int m0), .val (.int m1), .val (.int m2), .val (.int m3), .val (.int sl), .val (.int fr), .val (.int ct), .val (.int rr), .val (.ref b2), .val (.ref b7), .val (.long sum), .second, .val (.ref b12), .val (.int (own_fre (own_P nr) (own_M nr nf no m0 m1 m2 m3) sl sum (own_cut sum sl) nf nc)), .val (.int cu), .unset, .unset, .unset] [])) := by
            intro cu hcu
            subst hcu
            show own_Run p e below _ (T17.setTop (mkF m 257 #[.val (.int p1), .val (.int p2), .val (.int p3), .val (.int p4), .val (.int p5), .val (.int p6), .val (.int m0), .val (.int m1), .val (.int m2), .val (.int m3), .val (.int sl), .val (.int fr), .val (.int ct), .val (.int rr), .val (.ref b2), .val (.ref b7), .val (.long sum), .second, .val (.ref b12), .val (.int (own_fre (own_P nr) (own_M nr nf no m0 m1 m2 m3) sl sum (own_cut sum sl) nf nc)), .val (.int (own_cut sum sl)), .unset, .unset, .unset] []))
            refine own_go (fun _ kS => XS.iconst X17.here hx rfl (hb hby at_257) kS) ?_
            show own_Run p e below _ (T17.setTop (mkF m 258 #[.val (.int p1), .val (.int p2), .val (.int p3), .val (.int p4), .val (.int p5), .val (.int p6), .val (.int m0), .val (.int m1), .val (.int m2), .val (.int m3), .val (.int sl), .val (.int fr), .val (.int ct), .val (.int rr), .val (.ref b2), .val (.ref b7), .val (.long sum), .second, .val (.ref b12), .val (.int (own_fre (own_P nr) (own_M nr nf no m0 m1 m2 m3) sl sum (own_cut sum sl) nf nc)), .val (.int (own_cut sum sl)), .unset, .unset, .unset] [(.int (4 : Int32))]))
            refine own_newP X17 hx hZ e17 (hw _ (List.mem_of_getElem? (i := 5) rfl)) rfl (hb hby at_258) rfl 4 4 rfl (by decide) (by decide) (by decide) (by decide) "[I" rfl (fun b18 T18 h18 gb18 X18 e18 E18 A18 G18 => ?_)
            have ne_b2_b18 : b2 ≠ b18 := Nat.ne_of_lt (Nat.lt_of_lt_of_le A6.lt (Nat.le_of_eq gb18.symm))
            have ne_b7_b18 : b7 ≠ b18 := Nat.ne_of_lt (Nat.lt_of_lt_of_le A11.lt (Nat.le_of_eq gb18.symm))
            have ne_b12_b18 : b12 ≠ b18 := Nat.ne_of_lt (Nat.lt_of_lt_of_le A17.lt (Nat.le_of_eq gb18.symm))
            have g_b18 : n0 ≤ b18 := Nat.le_trans hz (Nat.le_of_eq gb18.symm)
            replace A6 := A6.ext E18
            replace A11 := A11.ext E18
            replace A17 := A17.ext E18
            replace hz := Nat.le_trans hz E18.1
            replace A18 : own_Arr Z h18 b18 .int 4 (fun _ => (.int (0 : Int32))) := A18
            show own_Run p e below _ (T18.setTop (mkF m 260 #[.val (.int p1), .val (.int p2), .val (.int p3), .val (.int p4), .val (.int p5), .val (.int p6), .val (.int m0), .val (.int m1), .val (.int m2), .val (.int m3), .val (.int sl), .val (.int fr), .val (.int ct), .val (.int rr), .val (.ref b2), .val (.ref b7), .val (.long sum), .second, .val (.ref b12), .val (.int (own_fre (own_P nr) (own_M nr nf no m0 m1 m2 m3) sl sum (own_cut sum sl) nf nc)), .val (.int (own_cut sum sl)), .unset, .unset, .unset] [(.ref b18)]))
            refine own_go (fun _ kS => XS.astore X18.here hx rfl (hb hby at_260) rfl rfl (l' := #[.val (.int p1), .val (.int p2), .val (.int p3), .val (.int p4), .val (.int p5), .val (.int p6), .val (.int m0), .val (.int m1), .val (.int m2), .val (.int m3), .val (.int sl), .val (.int fr), .val (.int ct), .val (.int rr), .val (.ref b2), .val (.ref b7), .val (.long sum), .second, .val (.ref b12), .val (.int (own_fre (own_P nr) (own_M nr nf no m0 m1 m2 m3) sl sum (own_cut sum sl) nf nc)), .val (.int (own_cut sum sl)), .val (.ref b18), .unset, .unset]) rfl kS) ?_
            show own_Run p e below _ (T18.setTop (mkF m 262 #[.val (.int p1), .val (.int p2), .val (.int p3), .val (.int p4), .val (.int p5), .val (.int p6), .val (.int m0), .val (.int m1), .val (.int m2), .val (.int m3), .val (.int sl), .val (.int fr), .val (.int ct), .val (.int rr), .val (.ref b2), .val (.ref b7), .val (.long sum), .second, .val (.ref b12), .val (.int (own_fre (own_P nr) (own_M nr nf no m0 m1 m2 m3) sl sum (own_cut sum sl) nf nc)), .val (.int (own_cut sum sl)), .val (.ref b18), .unset, .unset] []))
            refine own_go (fun _ kS => XS.aload X18.here hx rfl (hb hby at_262) rfl rfl kS) ?_
            show own_Run p e below _ (T18.setTop (mkF m 264 #[.val (.int p1), .val (.int p2), .val (.int p3), .val (.int p4), .val (.int p5), .val (.int p6), .val (.int m0), .val (.int m1), .val (.int m2), .val (.int m3), .val (.int sl), .val (.int fr), .val (.int ct), .val (.int rr), .val (.ref b2), .val (.ref b7), .val (.long sum), .second, .val (.ref b12), .val (.int (own_fre (own_P nr) (own_M nr nf no m0 m1 m2 m3) sl sum (own_cut sum sl) nf nc)), .val (.int (own_cut sum sl)), .val (.ref b18), .unset, .unset] [(.ref b18)]))
            refine own_go (fun _ kS => XS.iconst X18.here hx rfl (hb hby at_264) kS) ?_
            show own_Run p e below _ (T18.setTop (mkF m 265 #[.val (.int p1), .val (.int p2), .val (.int p3), .val (.int p4), .val (.int p5), .val (.int p6), .val (.int m0), .val (.int m1), .val (.int m2), .val (.int m3), .val (.int sl), .val (.int fr), .val (.int ct), .val (.int rr), .val (.ref b2), .val (.ref b7), .val (.long sum), .second, .val (.ref b12), .val (.int (own_fre (own_P nr) (own_M nr nf no m0 m1 m2 m3) sl sum (own_cut sum sl) nf nc)), .val (.int (own_cut sum sl)), .val (.ref b18), .unset, .unset] [(.int (0 : Int32)), (.ref b18)]))
            refine own_go (fun _ kS => XS.iconst X18.here hx rfl (hb hby at_265) kS) ?_
            show own_Run p e below _ (T18.setTop (mkF m 266 #[.val (.int p1), .val (.int p2), .val (.int p3), .val (.int p4), .val (.int p5), .val (.int p6), .val (.int m0), .val (.int m1), .val (.int m2), .val (.int m3), .val (.int sl), .val (.int fr), .val (.int ct), .val (.int rr), .val (.ref b2), .val (.ref b7), .val (.long sum), .second, .val (.ref b12), .val (.int (own_fre (own_P nr) (own_M nr nf no m0 m1 m2 m3) sl sum (own_cut sum sl) nf nc)), .val (.int (own_cut sum sl)), .val (.ref b18), .unset, .unset] [(.int (-1 : Int32)), (.int (0 : Int32)), (.ref b18)]))
            refine own_iastore X18 hx hZ e18 A18 (j := (0 : Int32)) ⟨by decide, by decide⟩ rfl rfl (hb hby at_266) (fun T19 h19 X19 e19 W19 A19 => ?_)
            replace A6 := A6.other W19 ne_b2_b18
            replace A11 := A11.other W19 ne_b7_b18
            replace A17 := A17.other W19 ne_b12_b18
            replace hz := Nat.le_trans hz (Nat.le_of_eq W19.size.symm)
            replace N := Fr.snoc X19 N g_b18
            replace A19 : own_Arr Z h19 b18 .int 4 (own_up (fun _ => (.int (0 : Int32))) 0 (.int (-1 : Int32))) := A19.congr (fun i _ => rfl)
            show own_Run p e below _ (T19.setTop (mkF m 267 #[.val (.int p1), .val (.int p2), .val (.int p3), .val (.int p4), .val (.int p5), .val (.int p6), .val (.int m0), .val (.int m1), .val (.int m2), .val (.int m3), .val (.int sl), .val (.int fr), .val (.int ct), .val (.int rr), .val (.ref b2), .val (.ref b7), .val (.long sum), .second, .val (.ref b12), .val (.int (own_fre (own_P nr) (own_M nr nf no m0 m1 m2 m3) sl sum (own_cut sum sl) nf nc)), .val (.int (own_cut sum sl)), .val (.ref b18), .unset, .unset] []))
            refine own_go (fun _ kS => XS.aload X19.here hx rfl (hb hby at_267) rfl rfl kS) ?_
            show own_Run p e below _ (T19.setTop (mkF m 269 #[.val (.int p1), .val (.int p2), .val (.int p3), .val (.int p4), .val (.int p5), .val (.int p6), .val (.int m0), .val (.int m1), .val (.int m2), .val (.int m3), .val (.int sl), .val (.int fr), .val (.int ct), .val (.int rr), .val (.ref b2), .val (.ref b7), .val (.long sum), .second, .val (.ref b12), .val (.int (own_fre (own_P nr) (own_M nr nf no m0 m1 m2 m3) sl sum (own_cut sum sl) nf nc)), .val (.int (own_cut sum sl)), .val (.ref b18), .unset, .unset] [(.ref b18)]))
            refine own_go (fun _ kS => XS.iconst X19.here hx rfl (hb hby at_269) kS) ?_
            show own_Run p e below _ (T19.setTop (mkF m 270 #[.val (.int p1), .val (.int p2), .val (.int p3), .val (.int p4), .val (.int p5), .val (.int p6), .val (.int m0), .val (.int m1), .val (.int m2), .val (.int m3), .val (.int sl), .val (.int fr), .val (.int ct), .val (.int rr), .val (.ref b2), .val (.ref b7), .val (.long sum), .second, .val (.ref b12), .val (.int (own_fre (own_P nr) (own_M nr nf no m0 m1 m2 m3) sl sum (own_cut sum sl) nf nc)), .val (.int (own_cut sum sl)), .val (.ref b18), .unset, .unset] [(.int (1 : Int32)), (.ref b18)]))
            refine own_go (fun _ kS => XS.iconst X19.here hx rfl (hb hby at_270) kS) ?_
            show own_Run p e below _ (T19.setTop (mkF m 271 #[.val (.int p1), .val (.int p2), .val (.int p3), .val (.int p4), .val (.int p5), .val (.int p6), .val (.int m0), .val (.int m1), .val (.int m2), .val (.int m3), .val (.int sl), .val (.int fr), .val (.int ct), .val (.int rr), .val (.ref b2), .val (.ref b7), .val (.long sum), .second, .val (.ref b12), .val (.int (own_fre (own_P nr) (own_M nr nf no m0 m1 m2 m3) sl sum (own_cut sum sl) nf nc)), .val (.int (own_cut sum sl)), .val (.ref b18), .unset, .unset] [(.int (-1 : Int32)), (.int (1 : Int32)), (.ref b18)]))
            refine own_iastore X19 hx hZ e19 A19 (j := (1 : Int32)) ⟨by decide, by decide⟩ rfl rfl (hb hby at_271) (fun T20 h20 X20 e20 W20 A20 => ?_)
            replace A6 := A6.other W20 ne_b2_b18
            replace A11 := A11.other W20 ne_b7_b18
            replace A17 := A17.other W20 ne_b12_b18
            replace hz := Nat.le_trans hz (Nat.le_of_eq W20.size.symm)
            replace N := Fr.snoc X20 N g_b18
            replace A20 : own_Arr Z h20 b18 .int 4 (own_up (own_up (fun _ => (.int (0 : Int32))) 0 (.int (-1 : Int32))) 1 (.int (-1 : Int32))) := A20.congr (fun i _ => rfl)
            show own_Run p e below _ (T20.setTop (mkF m 272 #[.val (.int p1), .val (.int p2), .val (.int p3), .val (.int p4), .val (.int p5), .val (.int p6), .val (.int m0), .val (.int m1), .val (.int m2), .val (.int m3), .val (.int sl), .val (.int fr), .val (.int ct), .val (.int rr), .val (.ref b2), .val (.ref b7), .val (.long sum), .second, .val (.ref b12), .val (.int (own_fre (own_P nr) (own_M nr nf no m0 m1 m2 m3) sl sum (own_cut sum sl) nf nc)), .val (.int (own_cut sum sl)), .val (.ref b18), .unset, .unset] []))
            refine own_go (fun _ kS => XS.aload X20.here hx rfl (hb hby at_272) rfl rfl kS) ?_
            show own_Run p e below _ (T20.setTop (mkF m 274 #[.val (.int p1), .val (.int p2), .val (.int p3), .val (.int p4), .val (.int p5), .val (.int p6), .val (.int m0), .val (.int m1), .val (.int m2), .val (.int m3), .val (.int sl), .val (.int fr), .val (.int ct), .val (.int rr), .val (.ref b2), .val (.ref b7), .val (.long sum), .second, .val (.ref b12), .val (.int (own_fre (own_P nr) (own_M nr nf no m0 m1 m2 m3) sl sum (own_cut sum sl) nf nc)), .val (.int (own_cut sum sl)), .val (.ref b18), .unset, .unset] [(.ref b18)]))
            refine own_go (fun _ kS => XS.iconst X20.here hx rfl (hb hby at_274) kS) ?_
            show own_Run p e below _ (T20.setTop (mkF m 275 #[.val (.int p1), .val (.int p2), .val (.int p3), .val (.int p4), .val (.int p5), .val (.int p6), .val (.int m0), .val (.int m1), .val (.int m2), .val (.int m3), .val (.int sl), .val (.int fr), .val (.int ct), .val (.int rr), .val (.ref b2), .val (.ref b7), .val (.long sum), .second, .val (.ref b12), .val (.int (own_fre (own_P nr) (own_M nr nf no m0 m1 m2 m3) sl sum (own_cut sum sl) nf nc)), .val (.int (own_cut sum sl)), .val (.ref b18), .unset, .unset] [(.int (2 : Int32)), (.ref b18)]))
            refine own_go (fun _ kS => XS.iconst X20.here hx rfl (hb hby at_275) kS) ?_
            show own_Run p e below _ (T20.setTop (mkF m 276 #[.val (.int p1), .val (.int p2), .val (.int p3), .val (.int p4), .val (.int p5), .val (.int p6), .val (.int m0), .val (.int m1), .val (.int m2), .val (.int m3), .val (.int sl), .val (.int fr), .val (.int ct), .val (.int rr), .val (.ref b2), .val (.ref b7), .val (.long sum), .second, .val (.ref b12), .val (.int (own_fre (own_P nr) (own_M nr nf no m0 m1 m2 m3) sl sum (own_cut sum sl) nf nc)), .val (.int (own_cut sum sl)), .val (.ref b18), .unset, .unset] [(.int (-1 : Int32)), (.int (2 : Int32)), (.ref b18)]))
            refine own_iastore X20 hx hZ e20 A20 (j := (2 : Int32)) ⟨by decide, by decide⟩ rfl rfl (hb hby at_276) (fun T21 h21 X21 e21 W21 A21 => ?_)
            replace A6 := A6.other W21 ne_b2_b18
            replace A11 := A11.other W21 ne_b7_b18
            replace A17 := A17.other W21 ne_b12_b18
            replace hz := Nat.le_trans hz (Nat.le_of_eq W21.size.symm)
            replace N := Fr.snoc X21 N g_b18
            replace A21 : own_Arr Z h21 b18 .int 4 (own_up (own_up (own_up (fun _ => (.int (0 : Int32))) 0 (.int (-1 : Int32))) 1 (.int (-1 : Int32))) 2 (.int (-1 : Int32))) := A21.congr (fun i _ => rfl)
            show own_Run p e below _ (T21.setTop (mkF m 277 #[.val (.int p1), .val (.int p2), .val (.int p3), .val (.int p4), .val (.int p5), .val (.int p6), .val (.int m0), .val (.int m1), .val (.int m2), .val (.int m3), .val (.int sl), .val (.int fr), .val (.int ct), .val (.int rr), .val (.ref b2), .val (.ref b7), .val (.long sum), .second, .val (.ref b12), .val (.int (own_fre (own_P nr) (own_M nr nf no m0 m1 m2 m3) sl sum (own_cut sum sl) nf nc)), .val (.int (own_cut sum sl)), .val (.ref b18), .unset, .unset] []))
            refine own_go (fun _ kS => XS.aload X21.here hx rfl (hb hby at_277) rfl rfl kS) ?_
            show own_Run p e below _ (T21.setTop (mkF m 279 #[.val (.int p1), .val (.int p2), .val (.int p3), .val (.int p4), .val (.int p5), .val (.int p6), .val (.int m0), .val (.int m1), .val (.int m2), .val (.int m3), .val (.int sl), .val (.int fr), .val (.int ct), .val (.int rr), .val (.ref b2), .val (.ref b7), .val (.long sum), .second, .val (.ref b12), .val (.int (own_fre (own_P nr) (own_M nr nf no m0 m1 m2 m3) sl sum (own_cut sum sl) nf nc)), .val (.int (own_cut sum sl)), .val (.ref b18), .unset, .unset] [(.ref b18)]))
            refine own_go (fun _ kS => XS.iconst X21.here hx rfl (hb hby at_279) kS) ?_
            show own_Run p e below _ (T21.setTop (mkF m 280 #[.val (.int p1), .val (.int p2), .val (.int p3), .val (.int p4), .val (.int p5), .val (.int p6), .val (.int m0), .val (.int m1), .val (.int m2), .val (.int m3), .val (.int sl), .val (.int fr), .val (.int ct), .val (.int rr), .val (.ref b2), .val (.ref b7), .val (.long sum), .second, .val (.ref b12), .val (.int (own_fre (own_P nr) (own_M nr nf no m0 m1 m2 m3) sl sum (own_cut sum sl) nf nc)), .val (.int (own_cut sum sl)), .val (.ref b18), .unset, .unset] [(.int (3 : Int32)), (.ref b18)]))
            refine own_go (fun _ kS => XS.iconst X21.here hx rfl (hb hby at_280) kS) ?_
            show own_Run p e below _ (T21.setTop (mkF m 281 #[.val (.int p1), .val (.int p2), .val (.int p3), .val (.int p4), .val (.int p5), .val (.int p6), .val (.int m0), .val (.int m1), .val (.int m2), .val (.int m3), .val (.int sl), .val (.int fr), .val (.int ct), .val (.int rr), .val (.ref b2), .val (.ref b7), .val (.long sum), .second, .val (.ref b12), .val (.int (own_fre (own_P nr) (own_M nr nf no m0 m1 m2 m3) sl sum (own_cut sum sl) nf nc)), .val (.int (own_cut sum sl)), .val (.ref b18), .unset, .unset] [(.int (-1 : Int32)), (.int (3 : Int32)), (.ref b18)]))
            refine own_iastore X21 hx hZ e21 A21 (j := (3 : Int32)) ⟨by decide, by decide⟩ rfl rfl (hb hby at_281) (fun T22 h22 X22 e22 W22 A22 => ?_)
            replace A6 := A6.other W22 ne_b2_b18
            replace A11 := A11.other W22 ne_b7_b18
            replace A17 := A17.other W22 ne_b12_b18
            replace hz := Nat.le_trans hz (Nat.le_of_eq W22.size.symm)
            replace N := Fr.snoc X22 N g_b18
            replace A22 : own_Arr Z h22 b18 .int 4 (own_up (own_up (own_up (own_up (fun _ => (.int (0 : Int32))) 0 (.int (-1 : Int32))) 1 (.int (-1 : Int32))) 2 (.int (-1 : Int32))) 3 (.int (-1 : Int32))) := A22.congr (fun i _ => rfl)
            show own_Run p e below _ (T22.setTop (mkF m 282 #[.val (.int p1), .val (.int p2), .val (.int p3), .val (.int p4), .val (.int p5), .val (.int p6), .val (.int m0), .val (.int m1), .val (.int m2), .val (.int m3), .val (.int sl), .val (.int fr), .val (.int ct), .val (.int rr), .val (.ref b2), .val (.ref b7), .val (.long sum), .second, .val (.ref b12), .val (.int (own_fre (own_P nr) (own_M nr nf no m0 m1 m2 m3) sl sum (own_cut sum sl) nf nc)), .val (.int (own_cut sum sl)), .val (.ref b18), .unset, .unset] []))
            refine own_go (fun _ kS => XS.iload X22.here hx rfl (hb hby at_282) rfl kS) ?_
            show own_Run p e below _ (T22.setTop (mkF m 284 #[.val (.int p1), .val (.int p2), .val (.int p3), .val (.int p4), .val (.int p5), .val (.int p6), .val (.int m0), .val (.int m1), .val (.int m2), .val (.int m3), .val (.int sl), .val (.int fr), .val (.int ct), .val (.int rr), .val (.ref b2), .val (.ref b7), .val (.long sum), .second, .val (.ref b12), .val (.int (own_fre (own_P nr) (own_M nr nf no m0 m1 m2 m3) sl sum (own_cut sum sl) nf nc)), .val (.int (own_cut sum sl)), .val (.ref b18), .unset, .unset] [(.int sl)]))
            refine own_go (fun _ kS => XS.istore X22.here hx rfl (hb hby at_284) rfl (l' := #[.val (.int p1), .val (.int p2), .val (.int p3), .val (.int p4), .val (.int p5), .val (.int p6), .val (.int m0), .val (.int m1), .val (.int m2), .val (.int m3), .val (.int sl), .val (.int fr), .val (.int ct), .val (.int rr), .val (.ref b2), .val (.ref b7), .val (.long sum), .second, .val (.ref b12), .val (.int (own_fre (own_P nr) (own_M nr nf no m0 m1 m2 m3) sl sum (own_cut sum sl) nf nc)), .val (.int (own_cut sum sl)), .val (.ref b18), .val (.int sl), .unset]) rfl kS) ?_
            show own_Run p e below _ (T22.setTop (mkF m 286 #[.val (.int p1), .val (.int p2), .val (.int p3), .val (.int p4), .val (.int p5), .val (.int p6), .val (.int m0), .val (.int m1), .val (.int m2), .val (.int m3), .val (.int sl), .val (.int fr), .val (.int ct), .val (.int rr), .val (.ref b2), .val (.ref b7), .val (.long sum), .second, .val (.ref b12), .val (.int (own_fre (own_P nr) (own_M nr nf no m0 m1 m2 m3) sl sum (own_cut sum sl) nf nc)), .val (.int (own_cut sum sl)), .val (.ref b18), .val (.int sl), .unset] []))
            replace A22 : own_Arr Z h22 b18 .int 4 (fun k => .int ((own_giv (own_P nr) (own_M nr nf no m0 m1 m2 m3) sl sum (own_cut sum sl) nf (fun _ => (-1 : Int32)) (min 0 nc)) k)) := A22.congr (fun k hk => (own_all4 _ _ k hk).trans (congrArg Value.int (own_giv0 (own_P nr) (own_M nr nf no m0 m1 m2 m3) sl sum (own_cut sum sl) nf (fun _ => (-1 : Int32)) nc k).symm))
            have hw0 : sl = (own_fre (own_P nr) (own_M nr nf no m0 m1 m2 m3) sl sum (own_cut sum sl) nf (min 0 nc)) := own_fre0 (own_P nr) (own_M nr nf no m0 m1 m2 m3) sl sum (own_cut sum sl) nf nc
            have hM0 := own_M0 nr nf no m0 m1 m2 m3 (by omega) (by omega)
            have hM1 := own_M1 nr nf no m0 m1 m2 m3 (by omega) (by omega)
            have hM2 := own_M2 nr nf no m0 m1 m2 m3 (by omega) (by omega)
            refine own_go (fun _ kS => XS.iload X22.here hx rfl (hb hby at_286) rfl kS) ?_
            show own_Run p e below _ (T22.setTop (mkF m 288 #[.val (.int p1), .val (.int p2), .val (.int p3), .val (.int p4), .val (.int p5), .val (.int p6), .val (.int m0), .val (.int m1), .val (.int m2), .val (.int m3), .val (.int sl), .val (.int fr), .val (.int ct), .val (.int rr), .val (.ref b2), .val (.ref b7), .val (.long sum), .second, .val (.ref b12), .val (.int (own_fre (own_P nr) (own_M nr nf no m0 m1 m2 m3) sl sum (own_cut sum sl) nf nc)), .val (.int (own_cut sum sl)), .val (.ref b18), .val (.int sl), .unset] [(.int ct)]))
            have J321 : ∀ (w1 : Int32) (s23_0 : Slot) (hw1 : w1 = (own_fre (own_P nr) (own_M nr nf no m0 m1 m2 m3) sl sum (own_cut sum sl) nf (min 1 nc))) (hs23_0 : One s23_0) (T_321 : State) (h_321 : Heap) (locs_321 : List Loc), Stand p l e room_1 s m #[(.int p1), (.int p2), (.int p3), (.int p4), (.int p5), (.int p6)] below meth c T_321 locs_321 4 16 → T_321.heap = h_321 → Fr n0 locs_321 → n0 ≤ h_321.size → own_Arr Z h_321 b2 .int 4 (fun k => .int (Int32.ofInt (own_P nr k))) → own_Arr Z h_321 b7 .int 4 (fun k => .int ((own_M nr nf no m0 m1 m2 m3) k)) → own_Arr Z h_321 b12 .int 4 (fun k => .int ((own_giv (own_P nr) (own_M nr nf no m0 m1 m2 m3) sl sum (own_cut sum sl) nf (fun _ => (-1 : Int32)) nc) k)) → own_Arr Z h_321 b18 .int 4 (fun k => .int ((own_giv (own_P nr) (own_M nr nf no m0 m1 m2 m3) sl sum (own_cut sum sl) nf (fun _ => (-1 : Int32)) (min 1 nc)) k)) → own_Run p e below (own_End s room_1 (Q_law Z p1 p2 p3 p4 p5 p6 n0 h0)) (T_321.setTop (mkF m 321 #[.val (.int p1), .val (.int p2), .val (.int p3), .val (.int p4), .val (.int p5), .val (.int p6), .val (.int m0), .val (.int m1), .val (.int m2), .val (.int m3), .val (.int sl), .val (.int fr), .val (.int ct), .val (.int rr), .val (.ref b2), .val (.ref b7), .val (.long sum), .second, .val (.ref b12), .val (.int (own_fre (own_P nr) (own_M nr nf no m0 m1 m2 m3) sl sum (own_cut sum sl) nf nc)), .val (.int (own_cut sum sl)), .val (.ref b18), .val (.int w1), s23_0] [])) := by
              intro w1 s23_0 hw1 hs23_0 T_321 h_321 locs_321 X_321 e_321 N hz A6 A11 A17 A22
              show own_Run p e below _ (T_321.setTop (mkF m 321 #[.val (.int p1), .val (.int p2), .val (.int p3), .val (.int p4), .val (.int p5), .val (.int p6), .val (.int m0), .val (.int m1), .val (.int m2), .val (.int m3), .val (.int sl), .val (.int fr), .val (.int ct), .val (.int rr), .val (.ref b2), .val (.ref b7), .val (.long sum), .second, .val (.ref b12), .val (.int (own_fre (own_P nr) (own_M nr nf no m0 m1 m2 m3) sl sum (own_cut sum sl) nf nc)), .val (.int (own_cut sum sl)), .val (.ref b18), .val (.int w1), s23_0] []))
              refine own_go (fun _ kS => XS.iload X_321.here hx rfl (hb hby at_321) rfl kS) ?_
              show own_Run p e below _ (T_321.setTop (mkF m 323 #[.val (.int p1), .val (.int p2), .val (.int p3), .val (.int p4), .val (.int p5), .val (.int p6), .val (.int m0), .val (.int m1), .val (.int m2), .val (.int m3), .val (.int sl), .val (.int fr), .val (.int ct), .val (.int rr), .val (.ref b2), .val (.ref b7), .val (.long sum), .second, .val (.ref b12), .val (.int (own_fre (own_P nr) (own_M nr nf no m0 m1 m2 m3) sl sum (own_cut sum sl) nf nc)), .val (.int (own_cut sum sl)), .val (.ref b18), .val (.int w1), s23_0] [(.int ct)]))
              refine own_go (fun _ kS => XS.iconst X_321.here hx rfl (hb hby at_323) kS) ?_
              show own_Run p e below _ (T_321.setTop (mkF m 324 #[.val (.int p1), .val (.int p2), .val (.int p3), .val (.int p4), .val (.int p5), .val (.int p6), .val (.int m0), .val (.int m1), .val (.int m2), .val (.int m3), .val (.int sl), .val (.int fr), .val (.int ct), .val (.int rr), .val (.ref b2), .val (.ref b7), .val (.long sum), .second, .val (.ref b12), .val (.int (own_fre (own_P nr) (own_M nr nf no m0 m1 m2 m3) sl sum (own_cut sum sl) nf nc)), .val (.int (own_cut sum sl)), .val (.ref b18), .val (.int w1), s23_0] [(.int (1 : Int32)), (.int ct)]))
              have J359 : ∀ (w2 : Int32) (s23_1 : Slot) (hw2 : w2 = (own_fre (own_P nr) (own_M nr nf no m0 m1 m2 m3) sl sum (own_cut sum sl) nf (min 2 nc))) (hs23_1 : One s23_1) (T_359 : State) (h_359 : Heap) (locs_359 : List Loc), Stand p l e room_1 s m #[(.int p1), (.int p2), (.int p3), (.int p4), (.int p5), (.int p6)] below meth c T_359 locs_359 4 16 → T_359.heap = h_359 → Fr n0 locs_359 → n0 ≤ h_359.size → own_Arr Z h_359 b2 .int 4 (fun k => .int (Int32.ofInt (own_P nr k))) → own_Arr Z h_359 b7 .int 4 (fun k => .int ((own_M nr nf no m0 m1 m2 m3) k)) → own_Arr Z h_359 b12 .int 4 (fun k => .int ((own_giv (own_P nr) (own_M nr nf no m0 m1 m2 m3) sl sum (own_cut sum sl) nf (fun _ => (-1 : Int32)) nc) k)) → own_Arr Z h_359 b18 .int 4 (fun k => .int ((own_giv (own_P nr) (own_M nr nf no m0 m1 m2 m3) sl sum (own_cut sum sl) nf (fun _ => (-1 : Int32)) (min 2 nc)) k)) → own_Run p e below (own_End s room_1 (Q_law Z p1 p2 p3 p4 p5 p6 n0 h0)) (T_359.setTop (mkF m 359 #[.val (.int p1), .val (.int p2), .val (.int p3), .val (.int p4), .val (.int p5), .val (.int p6), .val (.int m0), .val (.int m1), .val (.int m2), .val (.int m3), .val (.int sl), .val (.int fr), .val (.int ct), .val (.int rr), .val (.ref b2), .val (.ref b7), .val (.long sum), .second, .val (.ref b12), .val (.int (own_fre (own_P nr) (own_M nr nf no m0 m1 m2 m3) sl sum (own_cut sum sl) nf nc)), .val (.int (own_cut sum sl)), .val (.ref b18), .val (.int w2), s23_1] [])) := by
                intro w2 s23_1 hw2 hs23_1 T_359 h_359 locs_359 X_359 e_359 N hz A6 A11 A17 A22
                show own_Run p e below _ (T_359.setTop (mkF m 359 #[.val (.int p1), .val (.int p2), .val (.int p3), .val (.int p4), .val (.int p5), .val (.int p6), .val (.int m0), .val (.int m1), .val (.int m2), .val (.int m3), .val (.int sl), .val (.int fr), .val (.int ct), .val (.int rr), .val (.ref b2), .val (.ref b7), .val (.long sum), .second, .val (.ref b12), .val (.int (own_fre (own_P nr) (own_M nr nf no m0 m1 m2 m3) sl sum (own_cut sum sl) nf nc)), .val (.int (own_cut sum sl)), .val (.ref b18), .val (.int w2), s23_1] []))
                refine own_go (fun _ kS => XS.iload X_359.here hx rfl (hb hby at_359) rfl kS) ?_
                show own_Run p e below _ (T_359.setTop (mkF m 361 #[.val (.int p1), .val (.int p2), .val (.int p3), .val (.int p4), .val (.int p5), .val (.int p6), .val (.int m0), .val (.int m1), .val (.int m2), .val (.int m3), .val (.int sl), .val (.int fr), .val (.int ct), .val (.int rr), .val (.ref b2), .val (.ref b7), .val (.long sum), .second, .val (.ref b12), .val (.int (own_fre (own_P nr) (own_M nr nf no m0 m1 m2 m3) sl sum (own_cut sum sl) nf nc)), .val (.int (own_cut sum sl)), .val (.ref b18), .val (.int w2), s23_1] [(.int ct)]))
                refine own_go (fun _ kS => XS.iconst X_359.here hx rfl (hb hby at_361) kS) ?_
                show own_Run p e below _ (T_359.setTop (mkF m 362 #[.val (.int p1), .val (.int p2), .val (.int p3), .val (.int p4), .val (.int p5), .val (.int p6), .val (.int m0), .val (.int m1), .val (.int m2), .val (.int m3), .val (.int sl), .val (.int fr), .val (.int ct), .val (.int rr), .val (.ref b2), .val (.ref b7), .val (.long sum), .second, .val (.ref b12), .val (.int (own_fre (own_P nr) (own_M nr nf no m0 m1 m2 m3) sl sum (own_cut sum sl) nf nc)), .val (.int (own_cut sum sl)), .val (.ref b18), .val (.int w2), s23_1] [(.int (2 : Int32)), (.int ct)]))
                have J397 : ∀ (w3 : Int32) (s23_2 : Slot) (hw3 : w3 = (own_fre (own_P nr) (own_M nr nf no m0 m1 m2 m3) sl sum (own_cut sum sl) nf (min 3 nc))) (hs23_2 : One s23_2) (T_397 : State) (h_397 : Heap) (locs_397 : List Loc), Stand p l e room_1 s m #[(.int p1), (.int p2), (.int p3), (.int p4), (.int p5), (.int p6)] below meth c T_397 locs_397 4 16 → T_397.heap = h_397 → Fr n0 locs_397 → n0 ≤ h_397.size → own_Arr Z h_397 b2 .int 4 (fun k => .int (Int32.ofInt (own_P nr k))) → own_Arr Z h_397 b7 .int 4 (fun k => .int ((own_M nr nf no m0 m1 m2 m3) k)) → own_Arr Z h_397 b12 .int 4 (fun k => .int ((own_giv (own_P nr) (own_M nr nf no m0 m1 m2 m3) sl sum (own_cut sum sl) nf (fun _ => (-1 : Int32)) nc) k)) → own_Arr Z h_397 b18 .int 4 (fun k => .int ((own_giv (own_P nr) (own_M nr nf no m0 m1 m2 m3) sl sum (own_cut sum sl) nf (fun _ => (-1 : Int32)) (min 3 nc)) k)) → own_Run p e below (own_End s room_1 (Q_law Z p1 p2 p3 p4 p5 p6 n0 h0)) (T_397.setTop (mkF m 397 #[.val (.int p1), .val (.int p2), .val (.int p3), .val (.int p4), .val (.int p5), .val (.int p6), .val (.int m0), .val (.int m1), .val (.int m2), .val (.int m3), .val (.int sl), .val (.int fr), .val (.int ct), .val (.int rr), .val (.ref b2), .val (.ref b7), .val (.long sum), .second, .val (.ref b12), .val (.int (own_fre (own_P nr) (own_M nr nf no m0 m1 m2 m3) sl sum (own_cut sum sl) nf nc)), .val (.int (own_cut sum sl)), .val (.ref b18), .val (.int w3), s23_2] [])) := by
                  intro w3 s23_2 hw3 hs23_2 T_397 h_397 locs_397 X_397 e_397 N hz A6 A11 A17 A22
                  show own_Run p e below _ (T_397.setTop (mkF m 397 #[.val (.int p1), .val (.int p2), .val (.int p3), .val (.int p4), .val (.int p5), .val (.int p6), .val (.int m0), .val (.int m1), .val (.int m2), .val (.int m3), .val (.int sl), .val (.int fr), .val (.int ct), .val (.int rr), .val (.ref b2), .val (.ref b7), .val (.long sum), .second, .val (.ref b12), .val (.int (own_fre (own_P nr) (own_M nr nf no m0 m1 m2 m3) sl sum (own_cut sum sl) nf nc)), .val (.int (own_cut sum sl)), .val (.ref b18), .val (.int w3), s23_2] []))
                  refine own_go (fun _ kS => XS.iload X_397.here hx rfl (hb hby at_397) rfl kS) ?_
                  show own_Run p e below _ (T_397.setTop (mkF m 399 #[.val (.int p1), .val (.int p2), .val (.int p3), .val (.int p4), .val (.int p5), .val (.int p6), .val (.int m0), .val (.int m1), .val (.int m2), .val (.int m3), .val (.int sl), .val (.int fr), .val (.int ct), .val (.int rr), .val (.ref b2), .val (.ref b7), .val (.long sum), .second, .val (.ref b12), .val (.int (own_fre (own_P nr) (own_M nr nf no m0 m1 m2 m3) sl sum (own_cut sum sl) nf nc)), .val (.int (own_cut sum sl)), .val (.ref b18), .val (.int w3), s23_2] [(.int (own_fre (own_P nr) (own_M nr nf no m0 m1 m2 m3) sl sum (own_cut sum sl) nf nc))]))
                  refine own_go (fun _ kS => XS.iload X_397.here hx rfl (hb hby at_399) rfl kS) ?_
                  show own_Run p e below _ (T_397.setTop (mkF m 401 #[.val (.int p1), .val (.int p2), .val (.int p3), .val (.int p4), .val (.int p5), .val (.int p6), .val (.int m0), .val (.int m1), .val (.int m2), .val (.int m3), .val (.int sl), .val (.int fr), .val (.int ct), .val (.int rr), .val (.ref b2), .val (.ref b7), .val (.long sum), .second, .val (.ref b12), .val (.int (own_fre (own_P nr) (own_M nr nf no m0 m1 m2 m3) sl sum (own_cut sum sl) nf nc)), .val (.int (own_cut sum sl)), .val (.ref b18), .val (.int w3), s23_2] [(.int w3), (.int (own_fre (own_P nr) (own_M nr nf no m0 m1 m2 m3) sl sum (own_cut sum sl) nf nc))]))
                  refine own_go (fun _ kS => XS.icmpNo X_397.here hx rfl (hb hby at_401) rfl (teq (show (own_fre (own_P nr) (own_M nr nf no m0 m1 m2 m3) sl sum (own_cut sum sl) nf nc) = w3 from (by rw [hw3, (Nat.min_eq_right (by omega : nc ≤ 3))]))).2 kS) ?_
                  show own_Run p e below _ (T_397.setTop (mkF m 404 #[.val (.int p1), .val (.int p2), .val (.int p3), .val (.int p4), .val (.int p5), .val (.int p6), .val (.int m0), .val (.int m1), .val (.int m2), .val (.int m3), .val (.int sl), .val (.int fr), .val (.int ct), .val (.int rr), .val (.ref b2), .val (.ref b7), .val (.long sum), .second, .val (.ref b12), .val (.int (own_fre (own_P nr) (own_M nr nf no m0 m1 m2 m3) sl sum (own_cut sum sl) nf nc)), .val (.int (own_cut sum sl)), .val (.ref b18), .val (.int w3), s23_2] []))
                  refine own_go (fun _ kS => XS.iload X_397.here hx rfl (hb hby at_404) rfl kS) ?_
                  show own_Run p e below _ (T_397.setTop (mkF m 406 #[.val (.int p1), .val (.int p2), .val (.int p3), .val (.int p4), .val (.int p5), .val (.int p6), .val (.int m0), .val (.int m1), .val (.int m2), .val (.int m3), .val (.int sl), .val (.int fr), .val (.int ct), .val (.int rr), .val (.ref b2), .val (.ref b7), .val (.long sum), .second, .val (.ref b12), .val (.int (own_fre (own_P nr) (own_M nr nf no m0 m1 m2 m3) sl sum (own_cut sum sl) nf nc)), .val (.int (own_cut sum sl)), .val (.ref b18), .val (.int w3), s23_2] [(.int (own_fre (own_P nr) (own_M nr nf no m0 m1 m2 m3) sl sum (own_cut sum sl) nf nc))]))
                  refine own_go (fun _ kS => XS.ifNo X_397.here hx rfl (hb hby at_406) rfl ((if0 _ _).trans (flt (show ¬ ((own_fre (own_P nr) (own_M nr nf no m0 m1 m2 m3) sl sum (own_cut sum sl) nf nc) < (0 : Int32)) from (own_free0 (by omega) hM0 hM1 hM2 (by omega) (by omega) (by omega) (by omega) hs0 hs1 hs2 e_sum))).1) kS) ?_
                  show own_Run p e below _ (T_397.setTop (mkF m 409 #[.val (.int p1), .val (.int p2), .val (.int p3), .val (.int p4), .val (.int p5), .val (.int p6), .val (.int m0), .val (.int m1), .val (.int m2), .val (.int m3), .val (.int sl), .val (.int fr), .val (.int ct), .val (.int rr), .val (.ref b2), .val (.ref b7), .val (.long sum), .second, .val (.ref b12), .val (.int (own_fre (own_P nr) (own_M nr nf no m0 m1 m2 m3) sl sum (own_cut sum sl) nf nc)), .val (.int (own_cut sum sl)), .val (.ref b18), .val (.int w3), s23_2] []))
                  refine own_go (fun _ kS => XS.aload X_397.here hx rfl (hb hby at_409) rfl rfl kS) ?_
                  show own_Run p e below _ (T_397.setTop (mkF m 411 #[.val (.int p1), .val (.int p2), .val (.int p3), .val (.int p4), .val (.int p5), .val (.int p6), .val (.int m0), .val (.int m1), .val (.int m2), .val (.int m3), .val (.int sl), .val (.int fr), .val (.int ct), .val (.int rr), .val (.ref b2), .val (.ref b7), .val (.long sum), .second, .val (.ref b12), .val (.int (own_fre (own_P nr) (own_M nr nf no m0 m1 m2 m3) sl sum (own_cut sum sl) nf nc)), .val (.int (own_cut sum sl)), .val (.ref b18), .val (.int w3), s23_2] [(.ref b12)]))
                  refine own_go (fun _ kS => XS.iconst X_397.here hx rfl (hb hby at_411) kS) ?_
                  show own_Run p e below _ (T_397.setTop (mkF m 412 #[.val (.int p1), .val (.int p2), .val (.int p3), .val (.int p4), .val (.int p5), .val (.int p6), .val (.int m0), .val (.int m1), .val (.int m2), .val (.int m3), .val (.int sl), .val (.int fr), .val (.int ct), .val (.int rr), .val (.ref b2), .val (.ref b7), .val (.long sum), .second, .val (.ref b12), .val (.int (own_fre (own_P nr) (own_M nr nf no m0 m1 m2 m3) sl sum (own_cut sum sl) nf nc)), .val (.int (own_cut sum sl)), .val (.ref b18), .val (.int w3), s23_2] [(.int (0 : Int32)), (.ref b12)]))
                  refine own_iaload X_397 hx hZ e_397 A17 (j := (0 : Int32)) ((own_giv (own_P nr) (own_M nr nf no m0 m1 m2 m3) sl sum (own_cut sum sl) nf (fun _ => (-1 : Int32)) nc) 0) ⟨by decide, by decide⟩ rfl rfl rfl (hb hby at_412) ?_
                  show own_Run p e below _ (T_397.setTop (mkF m 413 #[.val (.int p1), .val (.int p2), .val (.int p3), .val (.int p4), .val (.int p5), .val (.int p6), .val (.int m0), .val (.int m1), .val (.int m2), .val (.int m3), .val (.int sl), .val (.int fr), .val (.int ct), .val (.int rr), .val (.ref b2), .val (.ref b7), .val (.long sum), .second, .val (.ref b12), .val (.int (own_fre (own_P nr) (own_M nr nf no m0 m1 m2 m3) sl sum (own_cut sum sl) nf nc)), .val (.int (own_cut sum sl)), .val (.ref b18), .val (.int w3), s23_2] [(.int ((own_giv (own_P nr) (own_M nr nf no m0 m1 m2 m3) sl sum (own_cut sum sl) nf (fun _ => (-1 : Int32)) nc) 0))]))
                  refine own_go (fun _ kS => XS.aload X_397.here hx rfl (hb hby at_413) rfl rfl kS) ?_
                  show own_Run p e below _ (T_397.setTop (mkF m 415 #[.val (.int p1), .val (.int p2), .val (.int p3), .val (.int p4), .val (.int p5), .val (.int p6), .val (.int m0), .val (.int m1), .val (.int m2), .val (.int m3), .val (.int sl), .val (.int fr), .val (.int ct), .val (.int rr), .val (.ref b2), .val (.ref b7), .val (.long sum), .second, .val (.ref b12), .val (.int (own_fre (own_P nr) (own_M nr nf no m0 m1 m2 m3) sl sum (own_cut sum sl) nf nc)), .val (.int (own_cut sum sl)), .val (.ref b18), .val (.int w3), s23_2] [(.ref b18), (.int ((own_giv (own_P nr) (own_M nr nf no m0 m1 m2 m3) sl sum (own_cut sum sl) nf (fun _ => (-1 : Int32)) nc) 0))]))
                  refine own_go (fun _ kS => XS.iconst X_397.here hx rfl (hb hby at_415) kS) ?_
                  show own_Run p e below _ (T_397.setTop (mkF m 416 #[.val (.int p1), .val (.int p2), .val (.int p3), .val (.int p4), .val (.int p5), .val (.int p6), .val (.int m0), .val (.int m1), .val (.int m2), .val (.int m3), .val (.int sl), .val (.int fr), .val (.int ct), .val (.int rr), .val (.ref b2), .val (.ref b7), .val (.long sum), .second, .val (.ref b12), .val (.int (own_fre (own_P nr) (own_M nr nf no m0 m1 m2 m3) sl sum (own_cut sum sl) nf nc)), .val (.int (own_cut sum sl)), .val (.ref b18), .val (.int w3), s23_2] [(.int (0 : Int32)), (.ref b18), (.int ((own_giv (own_P nr) (own_M nr nf no m0 m1 m2 m3) sl sum (own_cut sum sl) nf (fun _ => (-1 : Int32)) nc) 0))]))
                  refine own_iaload X_397 hx hZ e_397 A22 (j := (0 : Int32)) ((own_giv (own_P nr) (own_M nr nf no m0 m1 m2 m3) sl sum (own_cut sum sl) nf (fun _ => (-1 : Int32)) (min 3 nc)) 0) ⟨by decide, by decide⟩ rfl rfl rfl (hb hby at_416) ?_
                  show own_Run p e below _ (T_397.setTop (mkF m 417 #[.val (.int p1), .val (.int p2), .val (.int p3), .val (.int p4), .val (.int p5), .val (.int p6), .val (.int m0), .val (.int m1), .val (.int m2), .val (.int m3), .val (.int sl), .val (.int fr), .val (.int ct), .val (.int rr), .val (.ref b2), .val (.ref b7), .val (.long sum), .second, .val (.ref b12), .val (.int (own_fre (own_P nr) (own_M nr nf no m0 m1 m2 m3) sl sum (own_cut sum sl) nf nc)), .val (.int (own_cut sum sl)), .val (.ref b18), .val (.int w3), s23_2] [(.int ((own_giv (own_P nr) (own_M nr nf no m0 m1 m2 m3) sl sum (own_cut sum sl) nf (fun _ => (-1 : Int32)) (min 3 nc)) 0)), (.int ((own_giv (own_P nr) (own_M nr nf no m0 m1 m2 m3) sl sum (own_cut sum sl) nf (fun _ => (-1 : Int32)) nc) 0))]))
                  refine own_go (fun _ kS => XS.icmpNo X_397.here hx rfl (hb hby at_417) rfl (teq (show ((own_giv (own_P nr) (own_M nr nf no m0 m1 m2 m3) sl sum (own_cut sum sl) nf (fun _ => (-1 : Int32)) nc) 0) = ((own_giv (own_P nr) (own_M nr nf no m0 m1 m2 m3) sl sum (own_cut sum sl) nf (fun _ => (-1 : Int32)) (min 3 nc)) 0) from (by rw [(Nat.min_eq_right (by omega : nc ≤ 3))]))).2 kS) ?_
                  show own_Run p e below _ (T_397.setTop (mkF m 420 #[.val (.int p1), .val (.int p2), .val (.int p3), .val (.int p4), .val (.int p5), .val (.int p6), .val (.int m0), .val (.int m1), .val (.int m2), .val (.int m3), .val (.int sl), .val (.int fr), .val (.int ct), .val (.int rr), .val (.ref b2), .val (.ref b7), .val (.long sum), .second, .val (.ref b12), .val (.int (own_fre (own_P nr) (own_M nr nf no m0 m1 m2 m3) sl sum (own_cut sum sl) nf nc)), .val (.int (own_cut sum sl)), .val (.ref b18), .val (.int w3), s23_2] []))
                  refine own_go (fun _ kS => XS.aload X_397.here hx rfl (hb hby at_420) rfl rfl kS) ?_
                  show own_Run p e below _ (T_397.setTop (mkF m 422 #[.val (.int p1), .val (.int p2), .val (.int p3), .val (.int p4), .val (.int p5), .val (.int p6), .val (.int m0), .val (.int m1), .val (.int m2), .val (.int m3), .val (.int sl), .val (.int fr), .val (.int ct), .val (.int rr), .val (.ref b2), .val (.ref b7), .val (.long sum), .second, .val (.ref b12), .val (.int (own_fre (own_P nr) (own_M nr nf no m0 m1 m2 m3) sl sum (own_cut sum sl) nf nc)), .val (.int (own_cut sum sl)), .val (.ref b18), .val (.int w3), s23_2] [(.ref b12)]))
                  refine own_go (fun _ kS => XS.iconst X_397.here hx rfl (hb hby at_422) kS) ?_
                  show own_Run p e below _ (T_397.setTop (mkF m 423 #[.val (.int p1), .val (.int p2), .val (.int p3), .val (.int p4), .val (.int p5), .val (.int p6), .val (.int m0), .val (.int m1), .val (.int m2), .val (.int m3), .val (.int sl), .val (.int fr), .val (.int ct), .val (.int rr), .val (.ref b2), .val (.ref b7), .val (.long sum), .second, .val (.ref b12), .val (.int (own_fre (own_P nr) (own_M nr nf no m0 m1 m2 m3) sl sum (own_cut sum sl) nf nc)), .val (.int (own_cut sum sl)), .val (.ref b18), .val (.int w3), s23_2] [(.int (1 : Int32)), (.ref b12)]))
                  refine own_iaload X_397 hx hZ e_397 A17 (j := (1 : Int32)) ((own_giv (own_P nr) (own_M nr nf no m0 m1 m2 m3) sl sum (own_cut sum sl) nf (fun _ => (-1 : Int32)) nc) 1) ⟨by decide, by decide⟩ rfl rfl rfl (hb hby at_423) ?_
                  show own_Run p e below _ (T_397.setTop (mkF m 424 #[.val (.int p1), .val (.int p2), .val (.int p3), .val (.int p4), .val (.int p5), .val (.int p6), .val (.int m0), .val (.int m1), .val (.int m2), .val (.int m3), .val (.int sl), .val (.int fr), .val (.int ct), .val (.int rr), .val (.ref b2), .val (.ref b7), .val (.long sum), .second, .val (.ref b12), .val (.int (own_fre (own_P nr) (own_M nr nf no m0 m1 m2 m3) sl sum (own_cut sum sl) nf nc)), .val (.int (own_cut sum sl)), .val (.ref b18), .val (.int w3), s23_2] [(.int ((own_giv (own_P nr) (own_M nr nf no m0 m1 m2 m3) sl sum (own_cut sum sl) nf (fun _ => (-1 : Int32)) nc) 1))]))
                  refine own_go (fun _ kS => XS.aload X_397.here hx rfl (hb hby at_424) rfl rfl kS) ?_
                  show own_Run p e below _ (T_397.setTop (mkF m 426 #[.val (.int p1), .val (.int p2), .val (.int p3), .val (.int p4), .val (.int p5), .val (.int p6), .val (.int m0), .val (.int m1), .val (.int m2), .val (.int m3), .val (.int sl), .val (.int fr), .val (.int ct), .val (.int rr), .val (.ref b2), .val (.ref b7), .val (.long sum), .second, .val (.ref b12), .val (.int (own_fre (own_P nr) (own_M nr nf no m0 m1 m2 m3) sl sum (own_cut sum sl) nf nc)), .val (.int (own_cut sum sl)), .val (.ref b18), .val (.int w3), s23_2] [(.ref b18), (.int ((own_giv (own_P nr) (own_M nr nf no m0 m1 m2 m3) sl sum (own_cut sum sl) nf (fun _ => (-1 : Int32)) nc) 1))]))
                  refine own_go (fun _ kS => XS.iconst X_397.here hx rfl (hb hby at_426) kS) ?_
                  show own_Run p e below _ (T_397.setTop (mkF m 427 #[.val (.int p1), .val (.int p2), .val (.int p3), .val (.int p4), .val (.int p5), .val (.int p6), .val (.int m0), .val (.int m1), .val (.int m2), .val (.int m3), .val (.int sl), .val (.int fr), .val (.int ct), .val (.int rr), .val (.ref b2), .val (.ref b7), .val (.long sum), .second, .val (.ref b12), .val (.int (own_fre (own_P nr) (own_M nr nf no m0 m1 m2 m3) sl sum (own_cut sum sl) nf nc)), .val (.int (own_cut sum sl)), .val (.ref b18), .val (.int w3), s23_2] [(.int (1 : Int32)), (.ref b18), (.int ((own_giv (own_P nr) (own_M nr nf no m0 m1 m2 m3) sl sum (own_cut sum sl) nf (fun _ => (-1 : Int32)) nc) 1))]))
                  refine own_iaload X_397 hx hZ e_397 A22 (j := (1 : Int32)) ((own_giv (own_P nr) (own_M nr nf no m0 m1 m2 m3) sl sum (own_cut sum sl) nf (fun _ => (-1 : Int32)) (min 3 nc)) 1) ⟨by decide, by decide⟩ rfl rfl rfl (hb hby at_427) ?_
                  show own_Run p e below _ (T_397.setTop (mkF m 428 #[.val (.int p1), .val (.int p2), .val (.int p3), .val (.int p4), .val (.int p5), .val (.int p6), .val (.int m0), .val (.int m1), .val (.int m2), .val (.int m3), .val (.int sl), .val (.int fr), .val (.int ct), .val (.int rr), .val (.ref b2), .val (.ref b7), .val (.long sum), .second, .val (.ref b12), .val (.int (own_fre (own_P nr) (own_M nr nf no m0 m1 m2 m3) sl sum (own_cut sum sl) nf nc)), .val (.int (own_cut sum sl)), .val (.ref b18), .val (.int w3), s23_2] [(.int ((own_giv (own_P nr) (own_M nr nf no m0 m1 m2 m3) sl sum (own_cut sum sl) nf (fun _ => (-1 : Int32)) (min 3 nc)) 1)), (.int ((own_giv (own_P nr) (own_M nr nf no m0 m1 m2 m3) sl sum (own_cut sum sl) nf (fun _ => (-1 : Int32)) nc) 1))]))
                  refine own_go (fun _ kS => XS.icmpNo X_397.here hx rfl (hb hby at_428) rfl (teq (show ((own_giv (own_P nr) (own_M nr nf no m0 m1 m2 m3) sl sum (own_cut sum sl) nf (fun _ => (-1 : Int32)) nc) 1) = ((own_giv (own_P nr) (own_M nr nf no m0 m1 m2 m3) sl sum (own_cut sum sl) nf (fun _ => (-1 : Int32)) (min 3 nc)) 1) from (by rw [(Nat.min_eq_right (by omega : nc ≤ 3))]))).2 kS) ?_
                  show own_Run p e below _ (T_397.setTop (mkF m 431 #[.val (.int p1), .val (.int p2), .val (.int p3), .val (.int p4), .val (.int p5), .val (.int p6), .val (.int m0), .val (.int m1), .val (.int m2), .val (.int m3), .val (.int sl), .val (.int fr), .val (.int ct), .val (.int rr), .val (.ref b2), .val (.ref b7), .val (.long sum), .second, .val (.ref b12), .val (.int (own_fre (own_P nr) (own_M nr nf no m0 m1 m2 m3) sl sum (own_cut sum sl) nf nc)), .val (.int (own_cut sum sl)), .val (.ref b18), .val (.int w3), s23_2] []))
                  refine own_go (fun _ kS => XS.aload X_397.here hx rfl (hb hby at_431) rfl rfl kS) ?_
                  show own_Run p e below _ (T_397.setTop (mkF m 433 #[.val (.int p1), .val (.int p2), .val (.int p3), .val (.int p4), .val (.int p5), .val (.int p6), .val (.int m0), .val (.int m1), .val (.int m2), .val (.int m3), .val (.int sl), .val (.int fr), .val (.int ct), .val (.int rr), .val (.ref b2), .val (.ref b7), .val (.long sum), .second, .val (.ref b12), .val (.int (own_fre (own_P nr) (own_M nr nf no m0 m1 m2 m3) sl sum (own_cut sum sl) nf nc)), .val (.int (own_cut sum sl)), .val (.ref b18), .val (.int w3), s23_2] [(.ref b12)]))
                  refine own_go (fun _ kS => XS.iconst X_397.here hx rfl (hb hby at_433) kS) ?_
                  show own_Run p e below _ (T_397.setTop (mkF m 434 #[.val (.int p1), .val (.int p2), .val (.int p3), .val (.int p4), .val (.int p5), .val (.int p6), .val (.int m0), .val (.int m1), .val (.int m2), .val (.int m3), .val (.int sl), .val (.int fr), .val (.int ct), .val (.int rr), .val (.ref b2), .val (.ref b7), .val (.long sum), .second, .val (.ref b12), .val (.int (own_fre (own_P nr) (own_M nr nf no m0 m1 m2 m3) sl sum (own_cut sum sl) nf nc)), .val (.int (own_cut sum sl)), .val (.ref b18), .val (.int w3), s23_2] [(.int (2 : Int32)), (.ref b12)]))
                  refine own_iaload X_397 hx hZ e_397 A17 (j := (2 : Int32)) ((own_giv (own_P nr) (own_M nr nf no m0 m1 m2 m3) sl sum (own_cut sum sl) nf (fun _ => (-1 : Int32)) nc) 2) ⟨by decide, by decide⟩ rfl rfl rfl (hb hby at_434) ?_
                  show own_Run p e below _ (T_397.setTop (mkF m 435 #[.val (.int p1), .val (.int p2), .val (.int p3), .val (.int p4), .val (.int p5), .val (.int p6), .val (.int m0), .val (.int m1), .val (.int m2), .val (.int m3), .val (.int sl), .val (.int fr), .val (.int ct), .val (.int rr), .val (.ref b2), .val (.ref b7), .val (.long sum), .second, .val (.ref b12), .val (.int (own_fre (own_P nr) (own_M nr nf no m0 m1 m2 m3) sl sum (own_cut sum sl) nf nc)), .val (.int (own_cut sum sl)), .val (.ref b18), .val (.int w3), s23_2] [(.int ((own_giv (own_P nr) (own_M nr nf no m0 m1 m2 m3) sl sum (own_cut sum sl) nf (fun _ => (-1 : Int32)) nc) 2))]))
                  refine own_go (fun _ kS => XS.aload X_397.here hx rfl (hb hby at_435) rfl rfl kS) ?_
                  show own_Run p e below _ (T_397.setTop (mkF m 437 #[.val (.int p1), .val (.int p2), .val (.int p3), .val (.int p4), .val (.int p5), .val (.int p6), .val (.int m0), .val (.int m1), .val (.int m2), .val (.int m3), .val (.int sl), .val (.int fr), .val (.int ct), .val (.int rr), .val (.ref b2), .val (.ref b7), .val (.long sum), .second, .val (.ref b12), .val (.int (own_fre (own_P nr) (own_M nr nf no m0 m1 m2 m3) sl sum (own_cut sum sl) nf nc)), .val (.int (own_cut sum sl)), .val (.ref b18), .val (.int w3), s23_2] [(.ref b18), (.int ((own_giv (own_P nr) (own_M nr nf no m0 m1 m2 m3) sl sum (own_cut sum sl) nf (fun _ => (-1 : Int32)) nc) 2))]))
                  refine own_go (fun _ kS => XS.iconst X_397.here hx rfl (hb hby at_437) kS) ?_
                  show own_Run p e below _ (T_397.setTop (mkF m 438 #[.val (.int p1), .val (.int p2), .val (.int p3), .val (.int p4), .val (.int p5), .val (.int p6), .val (.int m0), .val (.int m1), .val (.int m2), .val (.int m3), .val (.int sl), .val (.int fr), .val (.int ct), .val (.int rr), .val (.ref b2), .val (.ref b7), .val (.long sum), .second, .val (.ref b12), .val (.int (own_fre (own_P nr) (own_M nr nf no m0 m1 m2 m3) sl sum (own_cut sum sl) nf nc)), .val (.int (own_cut sum sl)), .val (.ref b18), .val (.int w3), s23_2] [(.int (2 : Int32)), (.ref b18), (.int ((own_giv (own_P nr) (own_M nr nf no m0 m1 m2 m3) sl sum (own_cut sum sl) nf (fun _ => (-1 : Int32)) nc) 2))]))
                  refine own_iaload X_397 hx hZ e_397 A22 (j := (2 : Int32)) ((own_giv (own_P nr) (own_M nr nf no m0 m1 m2 m3) sl sum (own_cut sum sl) nf (fun _ => (-1 : Int32)) (min 3 nc)) 2) ⟨by decide, by decide⟩ rfl rfl rfl (hb hby at_438) ?_
                  show own_Run p e below _ (T_397.setTop (mkF m 439 #[.val (.int p1), .val (.int p2), .val (.int p3), .val (.int p4), .val (.int p5), .val (.int p6), .val (.int m0), .val (.int m1), .val (.int m2), .val (.int m3), .val (.int sl), .val (.int fr), .val (.int ct), .val (.int rr), .val (.ref b2), .val (.ref b7), .val (.long sum), .second, .val (.ref b12), .val (.int (own_fre (own_P nr) (own_M nr nf no m0 m1 m2 m3) sl sum (own_cut sum sl) nf nc)), .val (.int (own_cut sum sl)), .val (.ref b18), .val (.int w3), s23_2] [(.int ((own_giv (own_P nr) (own_M nr nf no m0 m1 m2 m3) sl sum (own_cut sum sl) nf (fun _ => (-1 : Int32)) (min 3 nc)) 2)), (.int ((own_giv (own_P nr) (own_M nr nf no m0 m1 m2 m3) sl sum (own_cut sum sl) nf (fun _ => (-1 : Int32)) nc) 2))]))
                  refine own_go (fun _ kS => XS.icmpNo X_397.here hx rfl (hb hby at_439) rfl (teq (show ((own_giv (own_P nr) (own_M nr nf no m0 m1 m2 m3) sl sum (own_cut sum sl) nf (fun _ => (-1 : Int32)) nc) 2) = ((own_giv (own_P nr) (own_M nr nf no m0 m1 m2 m3) sl sum (own_cut sum sl) nf (fun _ => (-1 : Int32)) (min 3 nc)) 2) from (by rw [(Nat.min_eq_right (by omega : nc ≤ 3))]))).2 kS) ?_
                  show own_Run p e below _ (T_397.setTop (mkF m 442 #[.val (.int p1), .val (.int p2), .val (.int p3), .val (.int p4), .val (.int p5), .val (.int p6), .val (.int m0), .val (.int m1), .val (.int m2), .val (.int m3), .val (.int sl), .val (.int fr), .val (.int ct), .val (.int rr), .val (.ref b2), .val (.ref b7), .val (.long sum), .second, .val (.ref b12), .val (.int (own_fre (own_P nr) (own_M nr nf no m0 m1 m2 m3) sl sum (own_cut sum sl) nf nc)), .val (.int (own_cut sum sl)), .val (.ref b18), .val (.int w3), s23_2] []))
                  refine own_go (fun _ kS => XS.aload X_397.here hx rfl (hb hby at_442) rfl rfl kS) ?_
                  show own_Run p e below _ (T_397.setTop (mkF m 444 #[.val (.int p1), .val (.int p2), .val (.int p3), .val (.int p4), .val (.int p5), .val (.int p6), .val (.int m0), .val (.int m1), .val (.int m2), .val (.int m3), .val (.int sl), .val (.int fr), .val (.int ct), .val (.int rr), .val (.ref b2), .val (.ref b7), .val (.long sum), .second, .val (.ref b12), .val (.int (own_fre (own_P nr) (own_M nr nf no m0 m1 m2 m3) sl sum (own_cut sum sl) nf nc)), .val (.int (own_cut sum sl)), .val (.ref b18), .val (.int w3), s23_2] [(.ref b12)]))
                  refine own_go (fun _ kS => XS.iconst X_397.here hx rfl (hb hby at_444) kS) ?_
                  show own_Run p e below _ (T_397.setTop (mkF m 445 #[.val (.int p1), .val (.int p2), .val (.int p3), .val (.int p4), .val (.int p5), .val (.int p6), .val (.int m0), .val (.int m1), .val (.int m2), .val (.int m3), .val (.int sl), .val (.int fr), .val (.int ct), .val (.int rr), .val (.ref b2), .val (.ref b7), .val (.long sum), .second, .val (.ref b12), .val (.int (own_fre (own_P nr) (own_M nr nf no m0 m1 m2 m3) sl sum (own_cut sum sl) nf nc)), .val (.int (own_cut sum sl)), .val (.ref b18), .val (.int w3), s23_2] [(.int (3 : Int32)), (.ref b12)]))
                  refine own_iaload X_397 hx hZ e_397 A17 (j := (3 : Int32)) ((own_giv (own_P nr) (own_M nr nf no m0 m1 m2 m3) sl sum (own_cut sum sl) nf (fun _ => (-1 : Int32)) nc) 3) ⟨by decide, by decide⟩ rfl rfl rfl (hb hby at_445) ?_
                  show own_Run p e below _ (T_397.setTop (mkF m 446 #[.val (.int p1), .val (.int p2), .val (.int p3), .val (.int p4), .val (.int p5), .val (.int p6), .val (.int m0), .val (.int m1), .val (.int m2), .val (.int m3), .val (.int sl), .val (.int fr), .val (.int ct), .val (.int rr), .val (.ref b2), .val (.ref b7), .val (.long sum), .second, .val (.ref b12), .val (.int (own_fre (own_P nr) (own_M nr nf no m0 m1 m2 m3) sl sum (own_cut sum sl) nf nc)), .val (.int (own_cut sum sl)), .val (.ref b18), .val (.int w3), s23_2] [(.int ((own_giv (own_P nr) (own_M nr nf no m0 m1 m2 m3) sl sum (own_cut sum sl) nf (fun _ => (-1 : Int32)) nc) 3))]))
                  refine own_go (fun _ kS => XS.aload X_397.here hx rfl (hb hby at_446) rfl rfl kS) ?_
                  show own_Run p e below _ (T_397.setTop (mkF m 448 #[.val (.int p1), .val (.int p2), .val (.int p3), .val (.int p4), .val (.int p5), .val (.int p6), .val (.int m0), .val (.int m1), .val (.int m2), .val (.int m3), .val (.int sl), .val (.int fr), .val (.int ct), .val (.int rr), .val (.ref b2), .val (.ref b7), .val (.long sum), .second, .val (.ref b12), .val (.int (own_fre (own_P nr) (own_M nr nf no m0 m1 m2 m3) sl sum (own_cut sum sl) nf nc)), .val (.int (own_cut sum sl)), .val (.ref b18), .val (.int w3), s23_2] [(.ref b18), (.int ((own_giv (own_P nr) (own_M nr nf no m0 m1 m2 m3) sl sum (own_cut sum sl) nf (fun _ => (-1 : Int32)) nc) 3))]))
                  refine own_go (fun _ kS => XS.iconst X_397.here hx rfl (hb hby at_448) kS) ?_
                  show own_Run p e below _ (T_397.setTop (mkF m 449 #[.val (.int p1), .val (.int p2), .val (.int p3), .val (.int p4), .val (.int p5), .val (.int p6), .val (.int m0), .val (.int m1), .val (.int m2), .val (.int m3), .val (.int sl), .val (.int fr), .val (.int ct), .val (.int rr), .val (.ref b2), .val (.ref b7), .val (.long sum), .second, .val (.ref b12), .val (.int (own_fre (own_P nr) (own_M nr nf no m0 m1 m2 m3) sl sum (own_cut sum sl) nf nc)), .val (.int (own_cut sum sl)), .val (.ref b18), .val (.int w3), s23_2] [(.int (3 : Int32)), (.ref b18), (.int ((own_giv (own_P nr) (own_M nr nf no m0 m1 m2 m3) sl sum (own_cut sum sl) nf (fun _ => (-1 : Int32)) nc) 3))]))
                  refine own_iaload X_397 hx hZ e_397 A22 (j := (3 : Int32)) ((own_giv (own_P nr) (own_M nr nf no m0 m1 m2 m3) sl sum (own_cut sum sl) nf (fun _ => (-1 : Int32)) (min 3 nc)) 3) ⟨by decide, by decide⟩ rfl rfl rfl (hb hby at_449) ?_
                  show own_Run p e below _ (T_397.setTop (mkF m 450 #[.val (.int p1), .val (.int p2), .val (.int p3), .val (.int p4), .val (.int p5), .val (.int p6), .val (.int m0), .val (.int m1), .val (.int m2), .val (.int m3), .val (.int sl), .val (.int fr), .val (.int ct), .val (.int rr), .val (.ref b2), .val (.ref b7), .val (.long sum), .second, .val (.ref b12), .val (.int (own_fre (own_P nr) (own_M nr nf no m0 m1 m2 m3) sl sum (own_cut sum sl) nf nc)), .val (.int (own_cut sum sl)), .val (.ref b18), .val (.int w3), s23_2] [(.int ((own_giv (own_P nr) (own_M nr nf no m0 m1 m2 m3) sl sum (own_cut sum sl) nf (fun _ => (-1 : Int32)) (min 3 nc)) 3)), (.int ((own_giv (own_P nr) (own_M nr nf no m0 m1 m2 m3) sl sum (own_cut sum sl) nf (fun _ => (-1 : Int32)) nc) 3))]))
                  refine own_go (fun _ kS => XS.icmpNo X_397.here hx rfl (hb hby at_450) rfl (teq (show ((own_giv (own_P nr) (own_M nr nf no m0 m1 m2 m3) sl sum (own_cut sum sl) nf (fun _ => (-1 : Int32)) nc) 3) = ((own_giv (own_P nr) (own_M nr nf no m0 m1 m2 m3) sl sum (own_cut sum sl) nf (fun _ => (-1 : Int32)) (min 3 nc)) 3) from (by rw [(Nat.min_eq_right (by omega : nc ≤ 3))]))).2 kS) ?_
                  show own_Run p e below _ (T_397.setTop (mkF m 453 #[.val (.int p1), .val (.int p2), .val (.int p3), .val (.int p4), .val (.int p5), .val (.int p6), .val (.int m0), .val (.int m1), .val (.int m2), .val (.int m3), .val (.int sl), .val (.int fr), .val (.int ct), .val (.int rr), .val (.ref b2), .val (.ref b7), .val (.long sum), .second, .val (.ref b12), .val (.int (own_fre (own_P nr) (own_M nr nf no m0 m1 m2 m3) sl sum (own_cut sum sl) nf nc)), .val (.int (own_cut sum sl)), .val (.ref b18), .val (.int w3), s23_2] []))
                  refine own_go (fun _ kS => XS.iconst X_397.here hx rfl (hb hby at_453) kS) ?_
                  show own_Run p e below _ (T_397.setTop (mkF m 454 #[.val (.int p1), .val (.int p2), .val (.int p3), .val (.int p4), .val (.int p5), .val (.int p6), .val (.int m0), .val (.int m1), .val (.int m2), .val (.int m3), .val (.int sl), .val (.int fr), .val (.int ct), .val (.int rr), .val (.ref b2), .val (.ref b7), .val (.long sum), .second, .val (.ref b12), .val (.int (own_fre (own_P nr) (own_M nr nf no m0 m1 m2 m3) sl sum (own_cut sum sl) nf nc)), .val (.int (own_cut sum sl)), .val (.ref b18), .val (.int w3), s23_2] [(.int (1 : Int32))]))
                  refine own_go (fun _ kS => XS.goto X_397.here hx rfl (pc0 := 454) (pc' := 458) rfl (hb hby at_454) (by decide) (by decide) kS) ?_
                  show own_Run p e below _ (T_397.setTop (mkF m 458 #[.val (.int p1), .val (.int p2), .val (.int p3), .val (.int p4), .val (.int p5), .val (.int p6), .val (.int m0), .val (.int m1), .val (.int m2), .val (.int m3), .val (.int sl), .val (.int fr), .val (.int ct), .val (.int rr), .val (.ref b2), .val (.ref b7), .val (.long sum), .second, .val (.ref b12), .val (.int (own_fre (own_P nr) (own_M nr nf no m0 m1 m2 m3) sl sum (own_cut sum sl) nf nc)), .val (.int (own_cut sum sl)), .val (.ref b18), .val (.int w3), s23_2] [(.int (1 : Int32))]))
                  refine own_retN X_397 hx (t := .boolean) hret hlk (by simp) (hb hby at_458) (by decide) (by decide) ?_
                  exact ⟨rfl, N⟩
                by_cases hc362 : (2 : Int32) < ct
                · refine own_go (fun _ kS => XS.icmpNo X_359.here hx rfl (hb hby at_362) rfl (tlt hc362).2.2.2 kS) ?_
                  show own_Run p e below _ (T_359.setTop (mkF m 365 #[.val (.int p1), .val (.int p2), .val (.int p3), .val (.int p4), .val (.int p5), .val (.int p6), .val (.int m0), .val (.int m1), .val (.int m2), .val (.int m3), .val (.int sl), .val (.int fr), .val (.int ct), .val (.int rr), .val (.ref b2), .val (.ref b7), .val (.long sum), .second, .val (.ref b12), .val (.int (own_fre (own_P nr) (own_M nr nf no m0 m1 m2 m3) sl sum (own_cut sum sl) nf nc)), .val (.int (own_cut sum sl)), .val (.ref b18), .val (.int w2), s23_1] []))
                  refine own_go (fun _ kS => XS.iload X_359.here hx rfl (hb hby at_365) rfl kS) ?_
                  show own_Run p e below _ (T_359.setTop (mkF m 367 #[.val (.int p1), .val (.int p2), .val (.int p3), .val (.int p4), .val (.int p5), .val (.int p6), .val (.int m0), .val (.int m1), .val (.int m2), .val (.int m3), .val (.int sl), .val (.int fr), .val (.int ct), .val (.int rr), .val (.ref b2), .val (.ref b7), .val (.long sum), .second, .val (.ref b12), .val (.int (own_fre (own_P nr) (own_M nr nf no m0 m1 m2 m3) sl sum (own_cut sum sl) nf nc)), .val (.int (own_cut sum sl)), .val (.ref b18), .val (.int w2), s23_1] [(.int m2)]))
                  refine own_go (fun _ kS => XS.iload X_359.here hx rfl (hb hby at_367) rfl kS) ?_
                  show own_Run p e below _ (T_359.setTop (mkF m 369 #[.val (.int p1), .val (.int p2), .val (.int p3), .val (.int p4), .val (.int p5), .val (.int p6), .val (.int m0), .val (.int m1), .val (.int m2), .val (.int m3), .val (.int sl), .val (.int fr), .val (.int ct), .val (.int rr), .val (.ref b2), .val (.ref b7), .val (.long sum), .second, .val (.ref b12), .val (.int (own_fre (own_P nr) (own_M nr nf no m0 m1 m2 m3) sl sum (own_cut sum sl) nf nc)), .val (.int (own_cut sum sl)), .val (.ref b18), .val (.int w2), s23_1] [(.int sl), (.int m2)]))
                  refine own_go (fun _ kS => XS.lload X_359.here hx rfl (hb hby at_369) rfl kS) ?_
                  show own_Run p e below _ (T_359.setTop (mkF m 371 #[.val (.int p1), .val (.int p2), .val (.int p3), .val (.int p4), .val (.int p5), .val (.int p6), .val (.int m0), .val (.int m1), .val (.int m2), .val (.int m3), .val (.int sl), .val (.int fr), .val (.int ct), .val (.int rr), .val (.ref b2), .val (.ref b7), .val (.long sum), .second, .val (.ref b12), .val (.int (own_fre (own_P nr) (own_M nr nf no m0 m1 m2 m3) sl sum (own_cut sum sl) nf nc)), .val (.int (own_cut sum sl)), .val (.ref b18), .val (.int w2), s23_1] [(.long sum), (.int sl), (.int m2)]))
                  refine own_go (fun _ kS => XS.iload X_359.here hx rfl (hb hby at_371) rfl kS) ?_
                  show own_Run p e below _ (T_359.setTop (mkF m 373 #[.val (.int p1), .val (.int p2), .val (.int p3), .val (.int p4), .val (.int p5), .val (.int p6), .val (.int m0), .val (.int m1), .val (.int m2), .val (.int m3), .val (.int sl), .val (.int fr), .val (.int ct), .val (.int rr), .val (.ref b2), .val (.ref b7), .val (.long sum), .second, .val (.ref b12), .val (.int (own_fre (own_P nr) (own_M nr nf no m0 m1 m2 m3) sl sum (own_cut sum sl) nf nc)), .val (.int (own_cut sum sl)), .val (.ref b18), .val (.int w2), s23_1] [(.int (own_cut sum sl)), (.long sum), (.int sl), (.int m2)]))
                  refine own_callS X_359 hx hZ e_359 hown (⟨"com/example/slotwise/slotwise/flex/PackerGiveMinimaPinLaw", "expect", "(IIJZ)I"⟩ : MethodName) (hw _ (List.mem_of_getElem? (i := 10) rfl)) (hw _ (List.mem_of_getElem? (i := 11) rfl)) (hw _ (List.mem_of_getElem? (i := 12) rfl)) (hw _ (List.mem_of_getElem? (i := 13) rfl)) (by decide) [(.int m2), (.int sl), (.long sum), (.int (own_cut sum sl))] [] (rm_ex l Z a0 hw m2 sl sum (own_cut sum sl) h_359 (own_cutnz r_sl)) (by decide) 0 (by decide) (by decide) (by decide) rfl (by rw [hml]; rfl) (lenOf own_pd2 rfl) rfl (by show 2 * 0 + _ ≤ _; exact Nat.le_of_eq rfl) (hb hby at_373) (fun v23 h23 L23 T23 Q23 X23 e23 => ?_)
                  obtain ⟨rfl, rfl, rfl⟩ := Q23
                  replace N := N.app (Fr.nil n0)
                  show own_Run p e below _ (T23.setTop (mkF m 376 #[.val (.int p1), .val (.int p2), .val (.int p3), .val (.int p4), .val (.int p5), .val (.int p6), .val (.int m0), .val (.int m1), .val (.int m2), .val (.int m3), .val (.int sl), .val (.int fr), .val (.int ct), .val (.int rr), .val (.ref b2), .val (.ref b7), .val (.long sum), .second, .val (.ref b12), .val (.int (own_fre (own_P nr) (own_M nr nf no m0 m1 m2 m3) sl sum (own_cut sum sl) nf nc)), .val (.int (own_cut sum sl)), .val (.ref b18), .val (.int w2), s23_1] [(.int (own_ex m2 sl sum (own_cut sum sl)))]))
                  refine own_go (fun _ kS => XS.istore X23.here hx rfl (hb hby at_376) rfl (l' := #[.val (.int p1), .val (.int p2), .val (.int p3), .val (.int p4), .val (.int p5), .val (.int p6), .val (.int m0), .val (.int m1), .val (.int m2), .val (.int m3), .val (.int sl), .val (.int fr), .val (.int ct), .val (.int rr), .val (.ref b2), .val (.ref b7), .val (.long sum), .second, .val (.ref b12), .val (.int (own_fre (own_P nr) (own_M nr nf no m0 m1 m2 m3) sl sum (own_cut sum sl) nf nc)), .val (.int (own_cut sum sl)), .val (.ref b18), .val (.int w2), .val (.int (own_ex m2 sl sum (own_cut sum sl)))]) (own_st23 hs23_1) kS) ?_
                  show own_Run p e below _ (T23.setTop (mkF m 378 #[.val (.int p1), .val (.int p2), .val (.int p3), .val (.int p4), .val (.int p5), .val (.int p6), .val (.int m0), .val (.int m1), .val (.int m2), .val (.int m3), .val (.int sl), .val (.int fr), .val (.int ct), .val (.int rr), .val (.ref b2), .val (.ref b7), .val (.long sum), .second, .val (.ref b12), .val (.int (own_fre (own_P nr) (own_M nr nf no m0 m1 m2 m3) sl sum (own_cut sum sl) nf nc)), .val (.int (own_cut sum sl)), .val (.ref b18), .val (.int w2), .val (.int (own_ex m2 sl sum (own_cut sum sl)))] []))
                  refine own_go (fun _ kS => XS.aload X23.here hx rfl (hb hby at_378) rfl rfl kS) ?_
                  show own_Run p e below _ (T23.setTop (mkF m 380 #[.val (.int p1), .val (.int p2), .val (.int p3), .val (.int p4), .val (.int p5), .val (.int p6), .val (.int m0), .val (.int m1), .val (.int m2), .val (.int m3), .val (.int sl), .val (.int fr), .val (.int ct), .val (.int rr), .val (.ref b2), .val (.ref b7), .val (.long sum), .second, .val (.ref b12), .val (.int (own_fre (own_P nr) (own_M nr nf no m0 m1 m2 m3) sl sum (own_cut sum sl) nf nc)), .val (.int (own_cut sum sl)), .val (.ref b18), .val (.int w2), .val (.int (own_ex m2 sl sum (own_cut sum sl)))] [(.ref b18)]))
                  refine own_go (fun _ kS => XS.aload X23.here hx rfl (hb hby at_380) rfl rfl kS) ?_
                  show own_Run p e below _ (T23.setTop (mkF m 382 #[.val (.int p1), .val (.int p2), .val (.int p3), .val (.int p4), .val (.int p5), .val (.int p6), .val (.int m0), .val (.int m1), .val (.int m2), .val (.int m3), .val (.int sl), .val (.int fr), .val (.int ct), .val (.int rr), .val (.ref b2), .val (.ref b7), .val (.long sum), .second, .val (.ref b12), .val (.int (own_fre (own_P nr) (own_M nr nf no m0 m1 m2 m3) sl sum (own_cut sum sl) nf nc)), .val (.int (own_cut sum sl)), .val (.ref b18), .val (.int w2), .val (.int (own_ex m2 sl sum (own_cut sum sl)))] [(.ref b2), (.ref b18)]))
                  refine own_go (fun _ kS => XS.iload X23.here hx rfl (hb hby at_382) rfl kS) ?_
                  show own_Run p e below _ (T23.setTop (mkF m 384 #[.val (.int p1), .val (.int p2), .val (.int p3), .val (.int p4), .val (.int p5), .val (.int p6), .val (.int m0), .val (.int m1), .val (.int m2), .val (.int m3), .val (.int sl), .val (.int fr), .val (.int ct), .val (.int rr), .val (.ref b2), .val (.ref b7), .val (.long sum), .second, .val (.ref b12), .val (.int (own_fre (own_P nr) (own_M nr nf no m0 m1 m2 m3) sl sum (own_cut sum sl) nf nc)), .val (.int (own_cut sum sl)), .val (.ref b18), .val (.int w2), .val (.int (own_ex m2 sl sum (own_cut sum sl)))] [(.int fr), (.ref b2), (.ref b18)]))
                  refine own_go (fun _ kS => XS.iconst X23.here hx rfl (hb hby at_384) kS) ?_
                  show own_Run p e below _ (T23.setTop (mkF m 385 #[.val (.int p1), .val (.int p2), .val (.int p3), .val (.int p4), .val (.int p5), .val (.int p6), .val (.int m0), .val (.int m1), .val (.int m2), .val (.int m3), .val (.int sl), .val (.int fr), .val (.int ct), .val (.int rr), .val (.ref b2), .val (.ref b7), .val (.long sum), .second, .val (.ref b12), .val (.int (own_fre (own_P nr) (own_M nr nf no m0 m1 m2 m3) sl sum (own_cut sum sl) nf nc)), .val (.int (own_cut sum sl)), .val (.ref b18), .val (.int w2), .val (.int (own_ex m2 sl sum (own_cut sum sl)))] [(.int (2 : Int32)), (.int fr), (.ref b2), (.ref b18)]))
                  refine own_go (fun _ kS => XS.iadd X23.here hx rfl (hb hby at_385) rfl kS) ?_
                  show own_Run p e below _ (T23.setTop (mkF m 386 #[.val (.int p1), .val (.int p2), .val (.int p3), .val (.int p4), .val (.int p5), .val (.int p6), .val (.int m0), .val (.int m1), .val (.int m2), .val (.int m3), .val (.int sl), .val (.int fr), .val (.int ct), .val (.int rr), .val (.ref b2), .val (.ref b7), .val (.long sum), .second, .val (.ref b12), .val (.int (own_fre (own_P nr) (own_M nr nf no m0 m1 m2 m3) sl sum (own_cut sum sl) nf nc)), .val (.int (own_cut sum sl)), .val (.ref b18), .val (.int w2), .val (.int (own_ex m2 sl sum (own_cut sum sl)))] [(.int (fr + (2 : Int32))), (.ref b2), (.ref b18)]))
                  refine own_iaload X23 hx hZ e23 A6 (j := (fr + (2 : Int32))) (Int32.ofInt ((own_P nr (nf + 2) : Nat) : Int)) ⟨by first | omega | (rw [own_oi _ (by have w := own_Plt nr; exact Nat.lt_trans (w _) (by decide))]; omega), by first | omega | (rw [own_oi _ (by have w := own_Plt nr; exact Nat.lt_trans (w _) (by decide))]; exact Int.ofNat_lt.mpr (own_Plt nr _))⟩ (by show Value.int (Int32.ofInt ((own_P nr (fr + (2 : Int32)).toNatClampNeg : Nat) : Int)) = _; rw [cfr2]) rfl rfl (hb hby at_386) ?_
                  show own_Run p e below _ (T23.setTop (mkF m 387 #[.val (.int p1), .val (.int p2), .val (.int p3), .val (.int p4), .val (.int p5), .val (.int p6), .val (.int m0), .val (.int m1), .val (.int m2), .val (.int m3), .val (.int sl), .val (.int fr), .val (.int ct), .val (.int rr), .val (.ref b2), .val (.ref b7), .val (.long sum), .second, .val (.ref b12), .val (.int (own_fre (own_P nr) (own_M nr nf no m0 m1 m2 m3) sl sum (own_cut sum sl) nf nc)), .val (.int (own_cut sum sl)), .val (.ref b18), .val (.int w2), .val (.int (own_ex m2 sl sum (own_cut sum sl)))] [(.int (Int32.ofInt ((own_P nr (nf + 2) : Nat) : Int))), (.ref b18)]))
                  refine own_go (fun _ kS => XS.iload X23.here hx rfl (hb hby at_387) rfl kS) ?_
                  show own_Run p e below _ (T23.setTop (mkF m 389 #[.val (.int p1), .val (.int p2), .val (.int p3), .val (.int p4), .val (.int p5), .val (.int p6), .val (.int m0), .val (.int m1), .val (.int m2), .val (.int m3), .val (.int sl), .val (.int fr), .val (.int ct), .val (.int rr), .val (.ref b2), .val (.ref b7), .val (.long sum), .second, .val (.ref b12), .val (.int (own_fre (own_P nr) (own_M nr nf no m0 m1 m2 m3) sl sum (own_cut sum sl) nf nc)), .val (.int (own_cut sum sl)), .val (.ref b18), .val (.int w2), .val (.int (own_ex m2 sl sum (own_cut sum sl)))] [(.int (own_ex m2 sl sum (own_cut sum sl))), (.int (Int32.ofInt ((own_P nr (nf + 2) : Nat) : Int))), (.ref b18)]))
                  refine own_iastore X23 hx hZ e23 A22 (j := (Int32.ofInt ((own_P nr (nf + 2) : Nat) : Int))) ⟨by first | omega | (rw [own_oi _ (by have w := own_Plt nr; exact Nat.lt_trans (w _) (by decide))]; omega), by first | omega | (rw [own_oi _ (by have w := own_Plt nr; exact Nat.lt_trans (w _) (by decide))]; exact Int.ofNat_lt.mpr (own_Plt nr _))⟩ rfl rfl (hb hby at_389) (fun T24 h24 X24 e24 W24 A24 => ?_)
                  replace A6 := A6.other W24 ne_b2_b18
                  replace A11 := A11.other W24 ne_b7_b18
                  replace A17 := A17.other W24 ne_b12_b18
                  replace hz := Nat.le_trans hz (Nat.le_of_eq W24.size.symm)
                  replace N := Fr.snoc X24 N g_b18
                  replace A24 : own_Arr Z h24 b18 .int 4 (fun k => .int ((own_ups (own_giv (own_P nr) (own_M nr nf no m0 m1 m2 m3) sl sum (own_cut sum sl) nf (fun _ => (-1 : Int32)) (min 2 nc)) (own_P nr (nf + 2)) (own_ex m2 sl sum (own_cut sum sl))) k)) := A24.congr (fun i _ => own_upsc (own_ofn (own_P nr (nf + 2)) (own_Plt nr (nf + 2))) (own_giv (own_P nr) (own_M nr nf no m0 m1 m2 m3) sl sum (own_cut sum sl) nf (fun _ => (-1 : Int32)) (min 2 nc)) _ i)
                  show own_Run p e below _ (T24.setTop (mkF m 390 #[.val (.int p1), .val (.int p2), .val (.int p3), .val (.int p4), .val (.int p5), .val (.int p6), .val (.int m0), .val (.int m1), .val (.int m2), .val (.int m3), .val (.int sl), .val (.int fr), .val (.int ct), .val (.int rr), .val (.ref b2), .val (.ref b7), .val (.long sum), .second, .val (.ref b12), .val (.int (own_fre (own_P nr) (own_M nr nf no m0 m1 m2 m3) sl sum (own_cut sum sl) nf nc)), .val (.int (own_cut sum sl)), .val (.ref b18), .val (.int w2), .val (.int (own_ex m2 sl sum (own_cut sum sl)))] []))
                  refine own_go (fun _ kS => XS.iload X24.here hx rfl (hb hby at_390) rfl kS) ?_
                  show own_Run p e below _ (T24.setTop (mkF m 392 #[.val (.int p1), .val (.int p2), .val (.int p3), .val (.int p4), .val (.int p5), .val (.int p6), .val (.int m0), .val (.int m1), .val (.int m2), .val (.int m3), .val (.int sl), .val (.int fr), .val (.int ct), .val (.int rr), .val (.ref b2), .val (.ref b7), .val (.long sum), .second, .val (.ref b12), .val (.int (own_fre (own_P nr) (own_M nr nf no m0 m1 m2 m3) sl sum (own_cut sum sl) nf nc)), .val (.int (own_cut sum sl)), .val (.ref b18), .val (.int w2), .val (.int (own_ex m2 sl sum (own_cut sum sl)))] [(.int w2)]))
                  refine own_go (fun _ kS => XS.iload X24.here hx rfl (hb hby at_392) rfl kS) ?_
                  show own_Run p e below _ (T24.setTop (mkF m 394 #[.val (.int p1), .val (.int p2), .val (.int p3), .val (.int p4), .val (.int p5), .val (.int p6), .val (.int m0), .val (.int m1), .val (.int m2), .val (.int m3), .val (.int sl), .val (.int fr), .val (.int ct), .val (.int rr), .val (.ref b2), .val (.ref b7), .val (.long sum), .second, .val (.ref b12), .val (.int (own_fre (own_P nr) (own_M nr nf no m0 m1 m2 m3) sl sum (own_cut sum sl) nf nc)), .val (.int (own_cut sum sl)), .val (.ref b18), .val (.int w2), .val (.int (own_ex m2 sl sum (own_cut sum sl)))] [(.int (own_ex m2 sl sum (own_cut sum sl))), (.int w2)]))
                  refine own_go (fun _ kS => XS.isub X24.here hx rfl (hb hby at_394) rfl kS) ?_
                  show own_Run p e below _ (T24.setTop (mkF m 395 #[.val (.int p1), .val (.int p2), .val (.int p3), .val (.int p4), .val (.int p5), .val (.int p6), .val (.int m0), .val (.int m1), .val (.int m2), .val (.int m3), .val (.int sl), .val (.int fr), .val (.int ct), .val (.int rr), .val (.ref b2), .val (.ref b7), .val (.long sum), .second, .val (.ref b12), .val (.int (own_fre (own_P nr) (own_M nr nf no m0 m1 m2 m3) sl sum (own_cut sum sl) nf nc)), .val (.int (own_cut sum sl)), .val (.ref b18), .val (.int w2), .val (.int (own_ex m2 sl sum (own_cut sum sl)))] [(.int (w2 - (own_ex m2 sl sum (own_cut sum sl))))]))
                  refine own_go (fun _ kS => XS.istore X24.here hx rfl (hb hby at_395) rfl (l' := #[.val (.int p1), .val (.int p2), .val (.int p3), .val (.int p4), .val (.int p5), .val (.int p6), .val (.int m0), .val (.int m1), .val (.int m2), .val (.int m3), .val (.int sl), .val (.int fr), .val (.int ct), .val (.int rr), .val (.ref b2), .val (.ref b7), .val (.long sum), .second, .val (.ref b12), .val (.int (own_fre (own_P nr) (own_M nr nf no m0 m1 m2 m3) sl sum (own_cut sum sl) nf nc)), .val (.int (own_cut sum sl)), .val (.ref b18), .val (.int (w2 - (own_ex m2 sl sum (own_cut sum sl)))), .val (.int (own_ex m2 sl sum (own_cut sum sl)))]) rfl kS) ?_
                  show own_Run p e below _ (T24.setTop (mkF m 397 #[.val (.int p1), .val (.int p2), .val (.int p3), .val (.int p4), .val (.int p5), .val (.int p6), .val (.int m0), .val (.int m1), .val (.int m2), .val (.int m3), .val (.int sl), .val (.int fr), .val (.int ct), .val (.int rr), .val (.ref b2), .val (.ref b7), .val (.long sum), .second, .val (.ref b12), .val (.int (own_fre (own_P nr) (own_M nr nf no m0 m1 m2 m3) sl sum (own_cut sum sl) nf nc)), .val (.int (own_cut sum sl)), .val (.ref b18), .val (.int (w2 - (own_ex m2 sl sum (own_cut sum sl)))), .val (.int (own_ex m2 sl sum (own_cut sum sl)))] []))
                  exact J397 _ _ (own_frT (own_P nr) (own_M nr nf no m0 m1 m2 m3) sl sum (own_cut sum sl) nf 2 nc (by have w := hc362; rw [Int32.lt_iff_toInt_lt] at w; omega) hM2 hw2) (One.val rfl) _ _ _ X24 e24 N hz A6 A11 A17 (A24.congr (fun k _ => congrArg Value.int (own_stepT (own_P nr) (own_M nr nf no m0 m1 m2 m3) sl sum (own_cut sum sl) nf (fun _ => (-1 : Int32)) 2 nc (by have w := hc362; rw [Int32.lt_iff_toInt_lt] at w; omega) hM2 k)))
                · refine own_go (fun _ kS => XS.icmpYes X_359.here hx rfl (pc0 := 362) (pc' := 397) rfl (hb hby at_362) rfl (flt hc362).2.2.2 (by decide) (by decide) kS) ?_
                  show own_Run p e below _ (T_359.setTop (mkF m 397 #[.val (.int p1), .val (.int p2), .val (.int p3), .val (.int p4), .val (.int p5), .val (.int p6), .val (.int m0), .val (.int m1), .val (.int m2), .val (.int m3), .val (.int sl), .val (.int fr), .val (.int ct), .val (.int rr), .val (.ref b2), .val (.ref b7), .val (.long sum), .second, .val (.ref b12), .val (.int (own_fre (own_P nr) (own_M nr nf no m0 m1 m2 m3) sl sum (own_cut sum sl) nf nc)), .val (.int (own_cut sum sl)), .val (.ref b18), .val (.int w2), s23_1] []))
                  exact J397 _ _ (own_frF (own_P nr) (own_M nr nf no m0 m1 m2 m3) sl sum (own_cut sum sl) nf 2 nc (by have w := hc362; rw [Int32.lt_iff_toInt_lt] at w; omega) hw2) hs23_1 _ _ _ X_359 e_359 N hz A6 A11 A17 (A22.congr (fun k _ => congrArg Value.int (own_stepF (own_P nr) (own_M nr nf no m0 m1 m2 m3) sl sum (own_cut sum sl) nf (fun _ => (-1 : Int32)) 2 nc (by have w := hc362; rw [Int32.lt_iff_toInt_lt] at w; omega) k)))
              by_cases hc324 : (1 : Int32) < ct
              · refine own_go (fun _ kS => XS.icmpNo X_321.here hx rfl (hb hby at_324) rfl (tlt hc324).2.2.2 kS) ?_
                show own_Run p e below _ (T_321.setTop (mkF m 327 #[.val (.int p1), .val (.int p2), .val (.int p3), .val (.int p4), .val (.int p5), .val (.int p6), .val (.int m0), .val (.int m1), .val (.int m2), .val (.int m3), .val (.int sl), .val (.int fr), .val (.int ct), .val (.int rr), .val (.ref b2), .val (.ref b7), .val (.long sum), .second, .val (.ref b12), .val (.int (own_fre (own_P nr) (own_M nr nf no m0 m1 m2 m3) sl sum (own_cut sum sl) nf nc)), .val (.int (own_cut sum sl)), .val (.ref b18), .val (.int w1), s23_0] []))
                refine own_go (fun _ kS => XS.iload X_321.here hx rfl (hb hby at_327) rfl kS) ?_
                show own_Run p e below _ (T_321.setTop (mkF m 329 #[.val (.int p1), .val (.int p2), .val (.int p3), .val (.int p4), .val (.int p5), .val (.int p6), .val (.int m0), .val (.int m1), .val (.int m2), .val (.int m3), .val (.int sl), .val (.int fr), .val (.int ct), .val (.int rr), .val (.ref b2), .val (.ref b7), .val (.long sum), .second, .val (.ref b12), .val (.int (own_fre (own_P nr) (own_M nr nf no m0 m1 m2 m3) sl sum (own_cut sum sl) nf nc)), .val (.int (own_cut sum sl)), .val (.ref b18), .val (.int w1), s23_0] [(.int m1)]))
                refine own_go (fun _ kS => XS.iload X_321.here hx rfl (hb hby at_329) rfl kS) ?_
                show own_Run p e below _ (T_321.setTop (mkF m 331 #[.val (.int p1), .val (.int p2), .val (.int p3), .val (.int p4), .val (.int p5), .val (.int p6), .val (.int m0), .val (.int m1), .val (.int m2), .val (.int m3), .val (.int sl), .val (.int fr), .val (.int ct), .val (.int rr), .val (.ref b2), .val (.ref b7), .val (.long sum), .second, .val (.ref b12), .val (.int (own_fre (own_P nr) (own_M nr nf no m0 m1 m2 m3) sl sum (own_cut sum sl) nf nc)), .val (.int (own_cut sum sl)), .val (.ref b18), .val (.int w1), s23_0] [(.int sl), (.int m1)]))
                refine own_go (fun _ kS => XS.lload X_321.here hx rfl (hb hby at_331) rfl kS) ?_
                show own_Run p e below _ (T_321.setTop (mkF m 333 #[.val (.int p1), .val (.int p2), .val (.int p3), .val (.int p4), .val (.int p5), .val (.int p6), .val (.int m0), .val (.int m1), .val (.int m2), .val (.int m3), .val (.int sl), .val (.int fr), .val (.int ct), .val (.int rr), .val (.ref b2), .val (.ref b7), .val (.long sum), .second, .val (.ref b12), .val (.int (own_fre (own_P nr) (own_M nr nf no m0 m1 m2 m3) sl sum (own_cut sum sl) nf nc)), .val (.int (own_cut sum sl)), .val (.ref b18), .val (.int w1), s23_0] [(.long sum), (.int sl), (.int m1)]))
                refine own_go (fun _ kS => XS.iload X_321.here hx rfl (hb hby at_333) rfl kS) ?_
                show own_Run p e below _ (T_321.setTop (mkF m 335 #[.val (.int p1), .val (.int p2), .val (.int p3), .val (.int p4), .val (.int p5), .val (.int p6), .val (.int m0), .val (.int m1), .val (.int m2), .val (.int m3), .val (.int sl), .val (.int fr), .val (.int ct), .val (.int rr), .val (.ref b2), .val (.ref b7), .val (.long sum), .second, .val (.ref b12), .val (.int (own_fre (own_P nr) (own_M nr nf no m0 m1 m2 m3) sl sum (own_cut sum sl) nf nc)), .val (.int (own_cut sum sl)), .val (.ref b18), .val (.int w1), s23_0] [(.int (own_cut sum sl)), (.long sum), (.int sl), (.int m1)]))
                refine own_callS X_321 hx hZ e_321 hown (⟨"com/example/slotwise/slotwise/flex/PackerGiveMinimaPinLaw", "expect", "(IIJZ)I"⟩ : MethodName) (hw _ (List.mem_of_getElem? (i := 10) rfl)) (hw _ (List.mem_of_getElem? (i := 11) rfl)) (hw _ (List.mem_of_getElem? (i := 12) rfl)) (hw _ (List.mem_of_getElem? (i := 13) rfl)) (by decide) [(.int m1), (.int sl), (.long sum), (.int (own_cut sum sl))] [] (rm_ex l Z a0 hw m1 sl sum (own_cut sum sl) h_321 (own_cutnz r_sl)) (by decide) 0 (by decide) (by decide) (by decide) rfl (by rw [hml]; rfl) (lenOf own_pd2 rfl) rfl (by show 2 * 0 + _ ≤ _; exact Nat.le_of_eq rfl) (hb hby at_335) (fun v25 h25 L25 T25 Q25 X25 e25 => ?_)
                obtain ⟨rfl, rfl, rfl⟩ := Q25
                replace N := N.app (Fr.nil n0)
                show own_Run p e below _ (T25.setTop (mkF m 338 #[.val (.int p1), .val (.int p2), .val (.int p3), .val (.int p4), .val (.int p5), .val (.int p6), .val (.int m0), .val (.int m1), .val (.int m2), .val (.int m3), .val (.int sl), .val (.int fr), .val (.int ct), .val (.int rr), .val (.ref b2), .val (.ref b7), .val (.long sum), .second, .val (.ref b12), .val (.int (own_fre (own_P nr) (own_M nr nf no m0 m1 m2 m3) sl sum (own_cut sum sl) nf nc)), .val (.int (own_cut sum sl)), .val (.ref b18), .val (.int w1), s23_0] [(.int (own_ex m1 sl sum (own_cut sum sl)))]))
                refine own_go (fun _ kS => XS.istore X25.here hx rfl (hb hby at_338) rfl (l' := #[.val (.int p1), .val (.int p2), .val (.int p3), .val (.int p4), .val (.int p5), .val (.int p6), .val (.int m0), .val (.int m1), .val (.int m2), .val (.int m3), .val (.int sl), .val (.int fr), .val (.int ct), .val (.int rr), .val (.ref b2), .val (.ref b7), .val (.long sum), .second, .val (.ref b12), .val (.int (own_fre (own_P nr) (own_M nr nf no m0 m1 m2 m3) sl sum (own_cut sum sl) nf nc)), .val (.int (own_cut sum sl)), .val (.ref b18), .val (.int w1), .val (.int (own_ex m1 sl sum (own_cut sum sl)))]) (own_st23 hs23_0) kS) ?_
                show own_Run p e below _ (T25.setTop (mkF m 340 #[.val (.int p1), .val (.int p2), .val (.int p3), .val (.int p4), .val (.int p5), .val (.int p6), .val (.int m0), .val (.int m1), .val (.int m2), .val (.int m3), .val (.int sl), .val (.int fr), .val (.int ct), .val (.int rr), .val (.ref b2), .val (.ref b7), .val (.long sum), .second, .val (.ref b12), .val (.int (own_fre (own_P nr) (own_M nr nf no m0 m1 m2 m3) sl sum (own_cut sum sl) nf nc)), .val (.int (own_cut sum sl)), .val (.ref b18), .val (.int w1), .val (.int (own_ex m1 sl sum (own_cut sum sl)))] []))
                refine own_go (fun _ kS => XS.aload X25.here hx rfl (hb hby at_340) rfl rfl kS) ?_
                show own_Run p e below _ (T25.setTop (mkF m 342 #[.val (.int p1), .val (.int p2), .val (.int p3), .val (.int p4), .val (.int p5), .val (.int p6), .val (.int m0), .val (.int m1), .val (.int m2), .val (.int m3), .val (.int sl), .val (.int fr), .val (.int ct), .val (.int rr), .val (.ref b2), .val (.ref b7), .val (.long sum), .second, .val (.ref b12), .val (.int (own_fre (own_P nr) (own_M nr nf no m0 m1 m2 m3) sl sum (own_cut sum sl) nf nc)), .val (.int (own_cut sum sl)), .val (.ref b18), .val (.int w1), .val (.int (own_ex m1 sl sum (own_cut sum sl)))] [(.ref b18)]))
                refine own_go (fun _ kS => XS.aload X25.here hx rfl (hb hby at_342) rfl rfl kS) ?_
                show own_Run p e below _ (T25.setTop (mkF m 344 #[.val (.int p1), .val (.int p2), .val (.int p3), .val (.int p4), .val (.int p5), .val (.int p6), .val (.int m0), .val (.int m1), .val (.int m2), .val (.int m3), .val (.int sl), .val (.int fr), .val (.int ct), .val (.int rr), .val (.ref b2), .val (.ref b7), .val (.long sum), .second, .val (.ref b12), .val (.int (own_fre (own_P nr) (own_M nr nf no m0 m1 m2 m3) sl sum (own_cut sum sl) nf nc)), .val (.int (own_cut sum sl)), .val (.ref b18), .val (.int w1), .val (.int (own_ex m1 sl sum (own_cut sum sl)))] [(.ref b2), (.ref b18)]))
                refine own_go (fun _ kS => XS.iload X25.here hx rfl (hb hby at_344) rfl kS) ?_
                show own_Run p e below _ (T25.setTop (mkF m 346 #[.val (.int p1), .val (.int p2), .val (.int p3), .val (.int p4), .val (.int p5), .val (.int p6), .val (.int m0), .val (.int m1), .val (.int m2), .val (.int m3), .val (.int sl), .val (.int fr), .val (.int ct), .val (.int rr), .val (.ref b2), .val (.ref b7), .val (.long sum), .second, .val (.ref b12), .val (.int (own_fre (own_P nr) (own_M nr nf no m0 m1 m2 m3) sl sum (own_cut sum sl) nf nc)), .val (.int (own_cut sum sl)), .val (.ref b18), .val (.int w1), .val (.int (own_ex m1 sl sum (own_cut sum sl)))] [(.int fr), (.ref b2), (.ref b18)]))
                refine own_go (fun _ kS => XS.iconst X25.here hx rfl (hb hby at_346) kS) ?_
                show own_Run p e below _ (T25.setTop (mkF m 347 #[.val (.int p1), .val (.int p2), .val (.int p3), .val (.int p4), .val (.int p5), .val (.int p6), .val (.int m0), .val (.int m1), .val (.int m2), .val (.int m3), .val (.int sl), .val (.int fr), .val (.int ct), .val (.int rr), .val (.ref b2), .val (.ref b7), .val (.long sum), .second, .val (.ref b12), .val (.int (own_fre (own_P nr) (own_M nr nf no m0 m1 m2 m3) sl sum (own_cut sum sl) nf nc)), .val (.int (own_cut sum sl)), .val (.ref b18), .val (.int w1), .val (.int (own_ex m1 sl sum (own_cut sum sl)))] [(.int (1 : Int32)), (.int fr), (.ref b2), (.ref b18)]))
                refine own_go (fun _ kS => XS.iadd X25.here hx rfl (hb hby at_347) rfl kS) ?_
                show own_Run p e below _ (T25.setTop (mkF m 348 #[.val (.int p1), .val (.int p2), .val (.int p3), .val (.int p4), .val (.int p5), .val (.int p6), .val (.int m0), .val (.int m1), .val (.int m2), .val (.int m3), .val (.int sl), .val (.int fr), .val (.int ct), .val (.int rr), .val (.ref b2), .val (.ref b7), .val (.long sum), .second, .val (.ref b12), .val (.int (own_fre (own_P nr) (own_M nr nf no m0 m1 m2 m3) sl sum (own_cut sum sl) nf nc)), .val (.int (own_cut sum sl)), .val (.ref b18), .val (.int w1), .val (.int (own_ex m1 sl sum (own_cut sum sl)))] [(.int (fr + (1 : Int32))), (.ref b2), (.ref b18)]))
                refine own_iaload X25 hx hZ e25 A6 (j := (fr + (1 : Int32))) (Int32.ofInt ((own_P nr (nf + 1) : Nat) : Int)) ⟨by first | omega | (rw [own_oi _ (by have w := own_Plt nr; exact Nat.lt_trans (w _) (by decide))]; omega), by first | omega | (rw [own_oi _ (by have w := own_Plt nr; exact Nat.lt_trans (w _) (by decide))]; exact Int.ofNat_lt.mpr (own_Plt nr _))⟩ (by show Value.int (Int32.ofInt ((own_P nr (fr + (1 : Int32)).toNatClampNeg : Nat) : Int)) = _; rw [cfr1]) rfl rfl (hb hby at_348) ?_
                show own_Run p e below _ (T25.setTop (mkF m 349 #[.val (.int p1), .val (.int p2), .val (.int p3), .val (.int p4), .val (.int p5), .val (.int p6), .val (.int m0), .val (.int m1), .val (.int m2), .val (.int m3), .val (.int sl), .val (.int fr), .val (.int ct), .val (.int rr), .val (.ref b2), .val (.ref b7), .val (.long sum), .second, .val (.ref b12), .val (.int (own_fre (own_P nr) (own_M nr nf no m0 m1 m2 m3) sl sum (own_cut sum sl) nf nc)), .val (.int (own_cut sum sl)), .val (.ref b18), .val (.int w1), .val (.int (own_ex m1 sl sum (own_cut sum sl)))] [(.int (Int32.ofInt ((own_P nr (nf + 1) : Nat) : Int))), (.ref b18)]))
                refine own_go (fun _ kS => XS.iload X25.here hx rfl (hb hby at_349) rfl kS) ?_
                show own_Run p e below _ (T25.setTop (mkF m 351 #[.val (.int p1), .val (.int p2), .val (.int p3), .val (.int p4), .val (.int p5), .val (.int p6), .val (.int m0), .val (.int m1), .val (.int m2), .val (.int m3), .val (.int sl), .val (.int fr), .val (.int ct), .val (.int rr), .val (.ref b2), .val (.ref b7), .val (.long sum), .second, .val (.ref b12), .val (.int (own_fre (own_P nr) (own_M nr nf no m0 m1 m2 m3) sl sum (own_cut sum sl) nf nc)), .val (.int (own_cut sum sl)), .val (.ref b18), .val (.int w1), .val (.int (own_ex m1 sl sum (own_cut sum sl)))] [(.int (own_ex m1 sl sum (own_cut sum sl))), (.int (Int32.ofInt ((own_P nr (nf + 1) : Nat) : Int))), (.ref b18)]))
                refine own_iastore X25 hx hZ e25 A22 (j := (Int32.ofInt ((own_P nr (nf + 1) : Nat) : Int))) ⟨by first | omega | (rw [own_oi _ (by have w := own_Plt nr; exact Nat.lt_trans (w _) (by decide))]; omega), by first | omega | (rw [own_oi _ (by have w := own_Plt nr; exact Nat.lt_trans (w _) (by decide))]; exact Int.ofNat_lt.mpr (own_Plt nr _))⟩ rfl rfl (hb hby at_351) (fun T26 h26 X26 e26 W26 A26 => ?_)
                replace A6 := A6.other W26 ne_b2_b18
                replace A11 := A11.other W26 ne_b7_b18
                replace A17 := A17.other W26 ne_b12_b18
                replace hz := Nat.le_trans hz (Nat.le_of_eq W26.size.symm)
                replace N := Fr.snoc X26 N g_b18
                replace A26 : own_Arr Z h26 b18 .int 4 (fun k => .int ((own_ups (own_giv (own_P nr) (own_M nr nf no m0 m1 m2 m3) sl sum (own_cut sum sl) nf (fun _ => (-1 : Int32)) (min 1 nc)) (own_P nr (nf + 1)) (own_ex m1 sl sum (own_cut sum sl))) k)) := A26.congr (fun i _ => own_upsc (own_ofn (own_P nr (nf + 1)) (own_Plt nr (nf + 1))) (own_giv (own_P nr) (own_M nr nf no m0 m1 m2 m3) sl sum (own_cut sum sl) nf (fun _ => (-1 : Int32)) (min 1 nc)) _ i)
                show own_Run p e below _ (T26.setTop (mkF m 352 #[.val (.int p1), .val (.int p2), .val (.int p3), .val (.int p4), .val (.int p5), .val (.int p6), .val (.int m0), .val (.int m1), .val (.int m2), .val (.int m3), .val (.int sl), .val (.int fr), .val (.int ct), .val (.int rr), .val (.ref b2), .val (.ref b7), .val (.long sum), .second, .val (.ref b12), .val (.int (own_fre (own_P nr) (own_M nr nf no m0 m1 m2 m3) sl sum (own_cut sum sl) nf nc)), .val (.int (own_cut sum sl)), .val (.ref b18), .val (.int w1), .val (.int (own_ex m1 sl sum (own_cut sum sl)))] []))
                refine own_go (fun _ kS => XS.iload X26.here hx rfl (hb hby at_352) rfl kS) ?_
                show own_Run p e below _ (T26.setTop (mkF m 354 #[.val (.int p1), .val (.int p2), .val (.int p3), .val (.int p4), .val (.int p5), .val (.int p6), .val (.int m0), .val (.int m1), .val (.int m2), .val (.int m3), .val (.int sl), .val (.int fr), .val (.int ct), .val (.int rr), .val (.ref b2), .val (.ref b7), .val (.long sum), .second, .val (.ref b12), .val (.int (own_fre (own_P nr) (own_M nr nf no m0 m1 m2 m3) sl sum (own_cut sum sl) nf nc)), .val (.int (own_cut sum sl)), .val (.ref b18), .val (.int w1), .val (.int (own_ex m1 sl sum (own_cut sum sl)))] [(.int w1)]))
                refine own_go (fun _ kS => XS.iload X26.here hx rfl (hb hby at_354) rfl kS) ?_
                show own_Run p e below _ (T26.setTop (mkF m 356 #[.val (.int p1), .val (.int p2), .val (.int p3), .val (.int p4), .val (.int p5), .val (.int p6), .val (.int m0), .val (.int m1), .val (.int m2), .val (.int m3), .val (.int sl), .val (.int fr), .val (.int ct), .val (.int rr), .val (.ref b2), .val (.ref b7), .val (.long sum), .second, .val (.ref b12), .val (.int (own_fre (own_P nr) (own_M nr nf no m0 m1 m2 m3) sl sum (own_cut sum sl) nf nc)), .val (.int (own_cut sum sl)), .val (.ref b18), .val (.int w1), .val (.int (own_ex m1 sl sum (own_cut sum sl)))] [(.int (own_ex m1 sl sum (own_cut sum sl))), (.int w1)]))
                refine own_go (fun _ kS => XS.isub X26.here hx rfl (hb hby at_356) rfl kS) ?_
                show own_Run p e below _ (T26.setTop (mkF m 357 #[.val (.int p1), .val (.int p2), .val (.int p3), .val (.int p4), .val (.int p5), .val (.int p6), .val (.int m0), .val (.int m1), .val (.int m2), .val (.int m3), .val (.int sl), .val (.int fr), .val (.int ct), .val (.int rr), .val (.ref b2), .val (.ref b7), .val (.long sum), .second, .val (.ref b12), .val (.int (own_fre (own_P nr) (own_M nr nf no m0 m1 m2 m3) sl sum (own_cut sum sl) nf nc)), .val (.int (own_cut sum sl)), .val (.ref b18), .val (.int w1), .val (.int (own_ex m1 sl sum (own_cut sum sl)))] [(.int (w1 - (own_ex m1 sl sum (own_cut sum sl))))]))
                refine own_go (fun _ kS => XS.istore X26.here hx rfl (hb hby at_357) rfl (l' := #[.val (.int p1), .val (.int p2), .val (.int p3), .val (.int p4), .val (.int p5), .val (.int p6), .val (.int m0), .val (.int m1), .val (.int m2), .val (.int m3), .val (.int sl), .val (.int fr), .val (.int ct), .val (.int rr), .val (.ref b2), .val (.ref b7), .val (.long sum), .second, .val (.ref b12), .val (.int (own_fre (own_P nr) (own_M nr nf no m0 m1 m2 m3) sl sum (own_cut sum sl) nf nc)), .val (.int (own_cut sum sl)), .val (.ref b18), .val (.int (w1 - (own_ex m1 sl sum (own_cut sum sl)))), .val (.int (own_ex m1 sl sum (own_cut sum sl)))]) rfl kS) ?_
                show own_Run p e below _ (T26.setTop (mkF m 359 #[.val (.int p1), .val (.int p2), .val (.int p3), .val (.int p4), .val (.int p5), .val (.int p6), .val (.int m0), .val (.int m1), .val (.int m2), .val (.int m3), .val (.int sl), .val (.int fr), .val (.int ct), .val (.int rr), .val (.ref b2), .val (.ref b7), .val (.long sum), .second, .val (.ref b12), .val (.int (own_fre (own_P nr) (own_M nr nf no m0 m1 m2 m3) sl sum (own_cut sum sl) nf nc)), .val (.int (own_cut sum sl)), .val (.ref b18), .val (.int (w1 - (own_ex m1 sl sum (own_cut sum sl)))), .val (.int (own_ex m1 sl sum (own_cut sum sl)))] []))
                exact J359 _ _ (own_frT (own_P nr) (own_M nr nf no m0 m1 m2 m3) sl sum (own_cut sum sl) nf 1 nc (by have w := hc324; rw [Int32.lt_iff_toInt_lt] at w; omega) hM1 hw1) (One.val rfl) _ _ _ X26 e26 N hz A6 A11 A17 (A26.congr (fun k _ => congrArg Value.int (own_stepT (own_P nr) (own_M nr nf no m0 m1 m2 m3) sl sum (own_cut sum sl) nf (fun _ => (-1 : Int32)) 1 nc (by have w := hc324; rw [Int32.lt_iff_toInt_lt] at w; omega) hM1 k)))
              · refine own_go (fun _ kS => XS.icmpYes X_321.here hx rfl (pc0 := 324) (pc' := 359) rfl (hb hby at_324) rfl (flt hc324).2.2.2 (by decide) (by decide) kS) ?_
                show own_Run p e below _ (T_321.setTop (mkF m 359 #[.val (.int p1), .val (.int p2), .val (.int p3), .val (.int p4), .val (.int p5), .val (.int p6), .val (.int m0), .val (.int m1), .val (.int m2), .val (.int m3), .val (.int sl), .val (.int fr), .val (.int ct), .val (.int rr), .val (.ref b2), .val (.ref b7), .val (.long sum), .second, .val (.ref b12), .val (.int (own_fre (own_P nr) (own_M nr nf no m0 m1 m2 m3) sl sum (own_cut sum sl) nf nc)), .val (.int (own_cut sum sl)), .val (.ref b18), .val (.int w1), s23_0] []))
                exact J359 _ _ (own_frF (own_P nr) (own_M nr nf no m0 m1 m2 m3) sl sum (own_cut sum sl) nf 1 nc (by have w := hc324; rw [Int32.lt_iff_toInt_lt] at w; omega) hw1) hs23_0 _ _ _ X_321 e_321 N hz A6 A11 A17 (A22.congr (fun k _ => congrArg Value.int (own_stepF (own_P nr) (own_M nr nf no m0 m1 m2 m3) sl sum (own_cut sum sl) nf (fun _ => (-1 : Int32)) 1 nc (by have w := hc324; rw [Int32.lt_iff_toInt_lt] at w; omega) k)))
            by_cases hc288 : (0 : Int32) < ct
            · refine own_go (fun _ kS => XS.ifNo X22.here hx rfl (hb hby at_288) rfl ((if0 _ _).trans (tlt hc288).2.2.2) kS) ?_
              show own_Run p e below _ (T22.setTop (mkF m 291 #[.val (.int p1), .val (.int p2), .val (.int p3), .val (.int p4), .val (.int p5), .val (.int p6), .val (.int m0), .val (.int m1), .val (.int m2), .val (.int m3), .val (.int sl), .val (.int fr), .val (.int ct), .val (.int rr), .val (.ref b2), .val (.ref b7), .val (.long sum), .second, .val (.ref b12), .val (.int (own_fre (own_P nr) (own_M nr nf no m0 m1 m2 m3) sl sum (own_cut sum sl) nf nc)), .val (.int (own_cut sum sl)), .val (.ref b18), .val (.int sl), .unset] []))
              refine own_go (fun _ kS => XS.iload X22.here hx rfl (hb hby at_291) rfl kS) ?_
              show own_Run p e below _ (T22.setTop (mkF m 293 #[.val (.int p1), .val (.int p2), .val (.int p3), .val (.int p4), .val (.int p5), .val (.int p6), .val (.int m0), .val (.int m1), .val (.int m2), .val (.int m3), .val (.int sl), .val (.int fr), .val (.int ct), .val (.int rr), .val (.ref b2), .val (.ref b7), .val (.long sum), .second, .val (.ref b12), .val (.int (own_fre (own_P nr) (own_M nr nf no m0 m1 m2 m3) sl sum (own_cut sum sl) nf nc)), .val (.int (own_cut sum sl)), .val (.ref b18), .val (.int sl), .unset] [(.int m0)]))
              refine own_go (fun _ kS => XS.iload X22.here hx rfl (hb hby at_293) rfl kS) ?_
              show own_Run p e below _ (T22.setTop (mkF m 295 #[.val (.int p1), .val (.int p2), .val (.int p3), .val (.int p4), .val (.int p5), .val (.int p6), .val (.int m0), .val (.int m1), .val (.int m2), .val (.int m3), .val (.int sl), .val (.int fr), .val (.int ct), .val (.int rr), .val (.ref b2), .val (.ref b7), .val (.long sum), .second, .val (.ref b12), .val (.int (own_fre (own_P nr) (own_M nr nf no m0 m1 m2 m3) sl sum (own_cut sum sl) nf nc)), .val (.int (own_cut sum sl)), .val (.ref b18), .val (.int sl), .unset] [(.int sl), (.int m0)]))
              refine own_go (fun _ kS => XS.lload X22.here hx rfl (hb hby at_295) rfl kS) ?_
              show own_Run p e below _ (T22.setTop (mkF m 297 #[.val (.int p1), .val (.int p2), .val (.int p3), .val (.int p4), .val (.int p5), .val (.int p6), .val (.int m0), .val (.int m1), .val (.int m2), .val (.int m3), .val (.int sl), .val (.int fr), .val (.int ct), .val (.int rr), .val (.ref b2), .val (.ref b7), .val (.long sum), .second, .val (.ref b12), .val (.int (own_fre (own_P nr) (own_M nr nf no m0 m1 m2 m3) sl sum (own_cut sum sl) nf nc)), .val (.int (own_cut sum sl)), .val (.ref b18), .val (.int sl), .unset] [(.long sum), (.int sl), (.int m0)]))
              refine own_go (fun _ kS => XS.iload X22.here hx rfl (hb hby at_297) rfl kS) ?_
              show own_Run p e below _ (T22.setTop (mkF m 299 #[.val (.int p1), .val (.int p2), .val (.int p3), .val (.int p4), .val (.int p5), .val (.int p6), .val (.int m0), .val (.int m1), .val (.int m2), .val (.int m3), .val (.int sl), .val (.int fr), .val (.int ct), .val (.int rr), .val (.ref b2), .val (.ref b7), .val (.long sum), .second, .val (.ref b12), .val (.int (own_fre (own_P nr) (own_M nr nf no m0 m1 m2 m3) sl sum (own_cut sum sl) nf nc)), .val (.int (own_cut sum sl)), .val (.ref b18), .val (.int sl), .unset] [(.int (own_cut sum sl)), (.long sum), (.int sl), (.int m0)]))
              refine own_callS X22 hx hZ e22 hown (⟨"com/example/slotwise/slotwise/flex/PackerGiveMinimaPinLaw", "expect", "(IIJZ)I"⟩ : MethodName) (hw _ (List.mem_of_getElem? (i := 10) rfl)) (hw _ (List.mem_of_getElem? (i := 11) rfl)) (hw _ (List.mem_of_getElem? (i := 12) rfl)) (hw _ (List.mem_of_getElem? (i := 13) rfl)) (by decide) [(.int m0), (.int sl), (.long sum), (.int (own_cut sum sl))] [] (rm_ex l Z a0 hw m0 sl sum (own_cut sum sl) h22 (own_cutnz r_sl)) (by decide) 0 (by decide) (by decide) (by decide) rfl (by rw [hml]; rfl) (lenOf own_pd2 rfl) rfl (by show 2 * 0 + _ ≤ _; exact Nat.le_of_eq rfl) (hb hby at_299) (fun v27 h27 L27 T27 Q27 X27 e27 => ?_)
              obtain ⟨rfl, rfl, rfl⟩ := Q27
              replace N := N.app (Fr.nil n0)
              show own_Run p e below _ (T27.setTop (mkF m 302 #[.val (.int p1), .val (.int p2), .val (.int p3), .val (.int p4), .val (.int p5), .val (.int p6), .val (.int m0), .val (.int m1), .val (.int m2), .val (.int m3), .val (.int sl), .val (.int fr), .val (.int ct), .val (.int rr), .val (.ref b2), .val (.ref b7), .val (.long sum), .second, .val (.ref b12), .val (.int (own_fre (own_P nr) (own_M nr nf no m0 m1 m2 m3) sl sum (own_cut sum sl) nf nc)), .val (.int (own_cut sum sl)), .val (.ref b18), .val (.int sl), .unset] [(.int (own_ex m0 sl sum (own_cut sum sl)))]))
              refine own_go (fun _ kS => XS.istore X27.here hx rfl (hb hby at_302) rfl (l' := #[.val (.int p1), .val (.int p2), .val (.int p3), .val (.int p4), .val (.int p5), .val (.int p6), .val (.int m0), .val (.int m1), .val (.int m2), .val (.int m3), .val (.int sl), .val (.int fr), .val (.int ct), .val (.int rr), .val (.ref b2), .val (.ref b7), .val (.long sum), .second, .val (.ref b12), .val (.int (own_fre (own_P nr) (own_M nr nf no m0 m1 m2 m3) sl sum (own_cut sum sl) nf nc)), .val (.int (own_cut sum sl)), .val (.ref b18), .val (.int sl), .val (.int (own_ex m0 sl sum (own_cut sum sl)))]) rfl kS) ?_
              show own_Run p e below _ (T27.setTop (mkF m 304 #[.val (.int p1), .val (.int p2), .val (.int p3), .val (.int p4), .val (.int p5), .val (.int p6), .val (.int m0), .val (.int m1), .val (.int m2), .val (.int m3), .val (.int sl), .val (.int fr), .val (.int ct), .val (.int rr), .val (.ref b2), .val (.ref b7), .val (.long sum), .second, .val (.ref b12), .val (.int (own_fre (own_P nr) (own_M nr nf no m0 m1 m2 m3) sl sum (own_cut sum sl) nf nc)), .val (.int (own_cut sum sl)), .val (.ref b18), .val (.int sl), .val (.int (own_ex m0 sl sum (own_cut sum sl)))] []))
              refine own_go (fun _ kS => XS.aload X27.here hx rfl (hb hby at_304) rfl rfl kS) ?_
              show own_Run p e below _ (T27.setTop (mkF m 306 #[.val (.int p1), .val (.int p2), .val (.int p3), .val (.int p4), .val (.int p5), .val (.int p6), .val (.int m0), .val (.int m1), .val (.int m2), .val (.int m3), .val (.int sl), .val (.int fr), .val (.int ct), .val (.int rr), .val (.ref b2), .val (.ref b7), .val (.long sum), .second, .val (.ref b12), .val (.int (own_fre (own_P nr) (own_M nr nf no m0 m1 m2 m3) sl sum (own_cut sum sl) nf nc)), .val (.int (own_cut sum sl)), .val (.ref b18), .val (.int sl), .val (.int (own_ex m0 sl sum (own_cut sum sl)))] [(.ref b18)]))
              refine own_go (fun _ kS => XS.aload X27.here hx rfl (hb hby at_306) rfl rfl kS) ?_
              show own_Run p e below _ (T27.setTop (mkF m 308 #[.val (.int p1), .val (.int p2), .val (.int p3), .val (.int p4), .val (.int p5), .val (.int p6), .val (.int m0), .val (.int m1), .val (.int m2), .val (.int m3), .val (.int sl), .val (.int fr), .val (.int ct), .val (.int rr), .val (.ref b2), .val (.ref b7), .val (.long sum), .second, .val (.ref b12), .val (.int (own_fre (own_P nr) (own_M nr nf no m0 m1 m2 m3) sl sum (own_cut sum sl) nf nc)), .val (.int (own_cut sum sl)), .val (.ref b18), .val (.int sl), .val (.int (own_ex m0 sl sum (own_cut sum sl)))] [(.ref b2), (.ref b18)]))
              refine own_go (fun _ kS => XS.iload X27.here hx rfl (hb hby at_308) rfl kS) ?_
              show own_Run p e below _ (T27.setTop (mkF m 310 #[.val (.int p1), .val (.int p2), .val (.int p3), .val (.int p4), .val (.int p5), .val (.int p6), .val (.int m0), .val (.int m1), .val (.int m2), .val (.int m3), .val (.int sl), .val (.int fr), .val (.int ct), .val (.int rr), .val (.ref b2), .val (.ref b7), .val (.long sum), .second, .val (.ref b12), .val (.int (own_fre (own_P nr) (own_M nr nf no m0 m1 m2 m3) sl sum (own_cut sum sl) nf nc)), .val (.int (own_cut sum sl)), .val (.ref b18), .val (.int sl), .val (.int (own_ex m0 sl sum (own_cut sum sl)))] [(.int fr), (.ref b2), (.ref b18)]))
              refine own_iaload X27 hx hZ e27 A6 (j := fr) (Int32.ofInt ((own_P nr nf : Nat) : Int)) ⟨by first | omega | (rw [own_oi _ (by have w := own_Plt nr; exact Nat.lt_trans (w _) (by decide))]; omega), by first | omega | (rw [own_oi _ (by have w := own_Plt nr; exact Nat.lt_trans (w _) (by decide))]; exact Int.ofNat_lt.mpr (own_Plt nr _))⟩ (by show Value.int (Int32.ofInt ((own_P nr fr.toNatClampNeg : Nat) : Int)) = _; rw [cfr]) rfl rfl (hb hby at_310) ?_
              show own_Run p e below _ (T27.setTop (mkF m 311 #[.val (.int p1), .val (.int p2), .val (.int p3), .val (.int p4), .val (.int p5), .val (.int p6), .val (.int m0), .val (.int m1), .val (.int m2), .val (.int m3), .val (.int sl), .val (.int fr), .val (.int ct), .val (.int rr), .val (.ref b2), .val (.ref b7), .val (.long sum), .second, .val (.ref b12), .val (.int (own_fre (own_P nr) (own_M nr nf no m0 m1 m2 m3) sl sum (own_cut sum sl) nf nc)), .val (.int (own_cut sum sl)), .val (.ref b18), .val (.int sl), .val (.int (own_ex m0 sl sum (own_cut sum sl)))] [(.int (Int32.ofInt ((own_P nr nf : Nat) : Int))), (.ref b18)]))
              refine own_go (fun _ kS => XS.iload X27.here hx rfl (hb hby at_311) rfl kS) ?_
              show own_Run p e below _ (T27.setTop (mkF m 313 #[.val (.int p1), .val (.int p2), .val (.int p3), .val (.int p4), .val (.int p5), .val (.int p6), .val (.int m0), .val (.int m1), .val (.int m2), .val (.int m3), .val (.int sl), .val (.int fr), .val (.int ct), .val (.int rr), .val (.ref b2), .val (.ref b7), .val (.long sum), .second, .val (.ref b12), .val (.int (own_fre (own_P nr) (own_M nr nf no m0 m1 m2 m3) sl sum (own_cut sum sl) nf nc)), .val (.int (own_cut sum sl)), .val (.ref b18), .val (.int sl), .val (.int (own_ex m0 sl sum (own_cut sum sl)))] [(.int (own_ex m0 sl sum (own_cut sum sl))), (.int (Int32.ofInt ((own_P nr nf : Nat) : Int))), (.ref b18)]))
              refine own_iastore X27 hx hZ e27 A22 (j := (Int32.ofInt ((own_P nr nf : Nat) : Int))) ⟨by first | omega | (rw [own_oi _ (by have w := own_Plt nr; exact Nat.lt_trans (w _) (by decide))]; omega), by first | omega | (rw [own_oi _ (by have w := own_Plt nr; exact Nat.lt_trans (w _) (by decide))]; exact Int.ofNat_lt.mpr (own_Plt nr _))⟩ rfl rfl (hb hby at_313) (fun T28 h28 X28 e28 W28 A28 => ?_)
              replace A6 := A6.other W28 ne_b2_b18
              replace A11 := A11.other W28 ne_b7_b18
              replace A17 := A17.other W28 ne_b12_b18
              replace hz := Nat.le_trans hz (Nat.le_of_eq W28.size.symm)
              replace N := Fr.snoc X28 N g_b18
              replace A28 : own_Arr Z h28 b18 .int 4 (fun k => .int ((own_ups (own_giv (own_P nr) (own_M nr nf no m0 m1 m2 m3) sl sum (own_cut sum sl) nf (fun _ => (-1 : Int32)) (min 0 nc)) (own_P nr nf) (own_ex m0 sl sum (own_cut sum sl))) k)) := A28.congr (fun i _ => own_upsc (own_ofn (own_P nr nf) (own_Plt nr nf)) (own_giv (own_P nr) (own_M nr nf no m0 m1 m2 m3) sl sum (own_cut sum sl) nf (fun _ => (-1 : Int32)) (min 0 nc)) _ i)
              show own_Run p e below _ (T28.setTop (mkF m 314 #[.val (.int p1), .val (.int p2), .val (.int p3), .val (.int p4), .val (.int p5), .val (.int p6), .val (.int m0), .val (.int m1), .val (.int m2), .val (.int m3), .val (.int sl), .val (.int fr), .val (.int ct), .val (.int rr), .val (.ref b2), .val (.ref b7), .val (.long sum), .second, .val (.ref b12), .val (.int (own_fre (own_P nr) (own_M nr nf no m0 m1 m2 m3) sl sum (own_cut sum sl) nf nc)), .val (.int (own_cut sum sl)), .val (.ref b18), .val (.int sl), .val (.int (own_ex m0 sl sum (own_cut sum sl)))] []))
              refine own_go (fun _ kS => XS.iload X28.here hx rfl (hb hby at_314) rfl kS) ?_
              show own_Run p e below _ (T28.setTop (mkF m 316 #[.val (.int p1), .val (.int p2), .val (.int p3), .val (.int p4), .val (.int p5), .val (.int p6), .val (.int m0), .val (.int m1), .val (.int m2), .val (.int m3), .val (.int sl), .val (.int fr), .val (.int ct), .val (.int rr), .val (.ref b2), .val (.ref b7), .val (.long sum), .second, .val (.ref b12), .val (.int (own_fre (own_P nr) (own_M nr nf no m0 m1 m2 m3) sl sum (own_cut sum sl) nf nc)), .val (.int (own_cut sum sl)), .val (.ref b18), .val (.int sl), .val (.int (own_ex m0 sl sum (own_cut sum sl)))] [(.int sl)]))
              refine own_go (fun _ kS => XS.iload X28.here hx rfl (hb hby at_316) rfl kS) ?_
              show own_Run p e below _ (T28.setTop (mkF m 318 #[.val (.int p1), .val (.int p2), .val (.int p3), .val (.int p4), .val (.int p5), .val (.int p6), .val (.int m0), .val (.int m1), .val (.int m2), .val (.int m3), .val (.int sl), .val (.int fr), .val (.int ct), .val (.int rr), .val (.ref b2), .val (.ref b7), .val (.long sum), .second, .val (.ref b12), .val (.int (own_fre (own_P nr) (own_M nr nf no m0 m1 m2 m3) sl sum (own_cut sum sl) nf nc)), .val (.int (own_cut sum sl)), .val (.ref b18), .val (.int sl), .val (.int (own_ex m0 sl sum (own_cut sum sl)))] [(.int (own_ex m0 sl sum (own_cut sum sl))), (.int sl)]))
              refine own_go (fun _ kS => XS.isub X28.here hx rfl (hb hby at_318) rfl kS) ?_
              show own_Run p e below _ (T28.setTop (mkF m 319 #[.val (.int p1), .val (.int p2), .val (.int p3), .val (.int p4), .val (.int p5), .val (.int p6), .val (.int m0), .val (.int m1), .val (.int m2), .val (.int m3), .val (.int sl), .val (.int fr), .val (.int ct), .val (.int rr), .val (.ref b2), .val (.ref b7), .val (.long sum), .second, .val (.ref b12), .val (.int (own_fre (own_P nr) (own_M nr nf no m0 m1 m2 m3) sl sum (own_cut sum sl) nf nc)), .val (.int (own_cut sum sl)), .val (.ref b18), .val (.int sl), .val (.int (own_ex m0 sl sum (own_cut sum sl)))] [(.int (sl - (own_ex m0 sl sum (own_cut sum sl))))]))
              refine own_go (fun _ kS => XS.istore X28.here hx rfl (hb hby at_319) rfl (l' := #[.val (.int p1), .val (.int p2), .val (.int p3), .val (.int p4), .val (.int p5), .val (.int p6), .val (.int m0), .val (.int m1), .val (.int m2), .val (.int m3), .val (.int sl), .val (.int fr), .val (.int ct), .val (.int rr), .val (.ref b2), .val (.ref b7), .val (.long sum), .second, .val (.ref b12), .val (.int (own_fre (own_P nr) (own_M nr nf no m0 m1 m2 m3) sl sum (own_cut sum sl) nf nc)), .val (.int (own_cut sum sl)), .val (.ref b18), .val (.int (sl - (own_ex m0 sl sum (own_cut sum sl)))), .val (.int (own_ex m0 sl sum (own_cut sum sl)))]) rfl kS) ?_
              show own_Run p e below _ (T28.setTop (mkF m 321 #[.val (.int p1), .val (.int p2), .val (.int p3), .val (.int p4), .val (.int p5), .val (.int p6), .val (.int m0), .val (.int m1), .val (.int m2), .val (.int m3), .val (.int sl), .val (.int fr), .val (.int ct), .val (.int rr), .val (.ref b2), .val (.ref b7), .val (.long sum), .second, .val (.ref b12), .val (.int (own_fre (own_P nr) (own_M nr nf no m0 m1 m2 m3) sl sum (own_cut sum sl) nf nc)), .val (.int (own_cut sum sl)), .val (.ref b18), .val (.int (sl - (own_ex m0 sl sum (own_cut sum sl)))), .val (.int (own_ex m0 sl sum (own_cut sum sl)))] []))
              exact J321 _ _ (own_frT (own_P nr) (own_M nr nf no m0 m1 m2 m3) sl sum (own_cut sum sl) nf 0 nc (by have w := hc288; rw [Int32.lt_iff_toInt_lt] at w; omega) hM0 hw0) (One.val rfl) _ _ _ X28 e28 N hz A6 A11 A17 (A28.congr (fun k _ => congrArg Value.int (own_stepT (own_P nr) (own_M nr nf no m0 m1 m2 m3) sl sum (own_cut sum sl) nf (fun _ => (-1 : Int32)) 0 nc (by have w := hc288; rw [Int32.lt_iff_toInt_lt] at w; omega) hM0 k)))
            · refine own_go (fun _ kS => XS.ifYes X22.here hx rfl (pc0 := 288) (pc' := 321) rfl (hb hby at_288) rfl ((if0 _ _).trans (flt hc288).2.2.2) (by decide) (by decide) kS) ?_
              show own_Run p e below _ (T22.setTop (mkF m 321 #[.val (.int p1), .val (.int p2), .val (.int p3), .val (.int p4), .val (.int p5), .val (.int p6), .val (.int m0), .val (.int m1), .val (.int m2), .val (.int m3), .val (.int sl), .val (.int fr), .val (.int ct), .val (.int rr), .val (.ref b2), .val (.ref b7), .val (.long sum), .second, .val (.ref b12), .val (.int (own_fre (own_P nr) (own_M nr nf no m0 m1 m2 m3) sl sum (own_cut sum sl) nf nc)), .val (.int (own_cut sum sl)), .val (.ref b18), .val (.int sl), .unset] []))
              exact J321 _ _ (own_frF (own_P nr) (own_M nr nf no m0 m1 m2 m3) sl sum (own_cut sum sl) nf 0 nc (by have w := hc288; rw [Int32.lt_iff_toInt_lt] at w; omega) hw0) One.u _ _ _ X22 e22 N hz A6 A11 A17 (A22.congr (fun k _ => congrArg Value.int (own_stepF (own_P nr) (own_M nr nf no m0 m1 m2 m3) sl sum (own_cut sum sl) nf (fun _ => (-1 : Int32)) 0 nc (by have w := hc288; rw [Int32.lt_iff_toInt_lt] at w; omega) k)))
          by_cases hc247 : sl.toInt64 < sum
          · refine own_go (fun _ kS => XS.ifNo X17.here hx rfl (hb hby at_247) rfl ((if0 _ _).trans (tlt ((lw_gt sum sl.toInt64).mpr hc247)).2.2.2) kS) ?_
            show own_Run p e below _ (T17.setTop (mkF m 250 #[.val (.int p1), .val (.int p2), .val (.int p3), .val (.int p4), .val (.int p5), .val (.int p6), .val (.int m0), .val (.int m1), .val (.int m2), .val (.int m3), .val (.int sl), .val (.int fr), .val (.int ct), .val (.int rr), .val (.ref b2), .val (.ref b7), .val (.long sum), .second, .val (.ref b12), .val (.int (own_fre (own_P nr) (own_M nr nf no m0 m1 m2 m3) sl sum (own_cut sum sl) nf nc)), .unset, .unset, .unset, .unset] []))
            refine own_go (fun _ kS => XS.iconst X17.here hx rfl (hb hby at_250) kS) ?_
            show own_Run p e below _ (T17.setTop (mkF m 251 #[.val (.int p1), .val (.int p2), .val (.int p3), .val (.int p4), .val (.int p5), .val (.int p6), .val (.int m0), .val (.int m1), .val (.int m2), .val (.int m3), .val (.int sl), .val (.int fr), .val (.int ct), .val (.int rr), .val (.ref b2), .val (.ref b7), .val (.long sum), .second, .val (.ref b12), .val (.int (own_fre (own_P nr) (own_M nr nf no m0 m1 m2 m3) sl sum (own_cut sum sl) nf nc)), .unset, .unset, .unset, .unset] [(.int (1 : Int32))]))
            refine own_go (fun _ kS => XS.goto X17.here hx rfl (pc0 := 251) (pc' := 255) rfl (hb hby at_251) (by decide) (by decide) kS) ?_
            show own_Run p e below _ (T17.setTop (mkF m 255 #[.val (.int p1), .val (.int p2), .val (.int p3), .val (.int p4), .val (.int p5), .val (.int p6), .val (.int m0), .val (.int m1), .val (.int m2), .val (.int m3), .val (.int sl), .val (.int fr), .val (.int ct), .val (.int rr), .val (.ref b2), .val (.ref b7), .val (.long sum), .second, .val (.ref b12), .val (.int (own_fre (own_P nr) (own_M nr nf no m0 m1 m2 m3) sl sum (own_cut sum sl) nf nc)), .unset, .unset, .unset, .unset] [(.int (1 : Int32))]))
            refine own_go (fun _ kS => XS.istore X17.here hx rfl (hb hby at_255) rfl (l' := #[.val (.int p1), .val (.int p2), .val (.int p3), .val (.int p4), .val (.int p5), .val (.int p6), .val (.int m0), .val (.int m1), .val (.int m2), .val (.int m3), .val (.int sl), .val (.int fr), .val (.int ct), .val (.int rr), .val (.ref b2), .val (.ref b7), .val (.long sum), .second, .val (.ref b12), .val (.int (own_fre (own_P nr) (own_M nr nf no m0 m1 m2 m3) sl sum (own_cut sum sl) nf nc)), .val (.int (1 : Int32)), .unset, .unset, .unset]) rfl kS) ?_
            show own_Run p e below _ (T17.setTop (mkF m 257 #[.val (.int p1), .val (.int p2), .val (.int p3), .val (.int p4), .val (.int p5), .val (.int p6), .val (.int m0), .val (.int m1), .val (.int m2), .val (.int m3), .val (.int sl), .val (.int fr), .val (.int ct), .val (.int rr), .val (.ref b2), .val (.ref b7), .val (.long sum), .second, .val (.ref b12), .val (.int (own_fre (own_P nr) (own_M nr nf no m0 m1 m2 m3) sl sum (own_cut sum sl) nf nc)), .val (.int (1 : Int32)), .unset, .unset, .unset] []))
            exact J257 _ (by unfold own_cut; first | rw [if_pos hc247] | rw [if_neg hc247])
          · refine own_go (fun _ kS => XS.ifYes X17.here hx rfl (pc0 := 247) (pc' := 254) rfl (hb hby at_247) rfl ((if0 _ _).trans (flt (mt (lw_gt sum sl.toInt64).mp hc247)).2.2.2) (by decide) (by decide) kS) ?_
            show own_Run p e below _ (T17.setTop (mkF m 254 #[.val (.int p1), .val (.int p2), .val (.int p3), .val (.int p4), .val (.int p5), .val (.int p6), .val (.int m0), .val (.int m1), .val (.int m2), .val (.int m3), .val (.int sl), .val (.int fr), .val (.int ct), .val (.int rr), .val (.ref b2), .val (.ref b7), .val (.long sum), .second, .val (.ref b12), .val (.int (own_fre (own_P nr) (own_M nr nf no m0 m1 m2 m3) sl sum (own_cut sum sl) nf nc)), .unset, .unset, .unset, .unset] []))
            refine own_go (fun _ kS => XS.iconst X17.here hx rfl (hb hby at_254) kS) ?_
            show own_Run p e below _ (T17.setTop (mkF m 255 #[.val (.int p1), .val (.int p2), .val (.int p3), .val (.int p4), .val (.int p5), .val (.int p6), .val (.int m0), .val (.int m1), .val (.int m2), .val (.int m3), .val (.int sl), .val (.int fr), .val (.int ct), .val (.int rr), .val (.ref b2), .val (.ref b7), .val (.long sum), .second, .val (.ref b12), .val (.int (own_fre (own_P nr) (own_M nr nf no m0 m1 m2 m3) sl sum (own_cut sum sl) nf nc)), .unset, .unset, .unset, .unset] [(.int (0 : Int32))]))
            refine own_go (fun _ kS => XS.istore X17.here hx rfl (hb hby at_255) rfl (l' := #[.val (.int p1), .val (.int p2), .val (.int p3), .val (.int p4), .val (.int p5), .val (.int p6), .val (.int m0), .val (.int m1), .val (.int m2), .val (.int m3), .val (.int sl), .val (.int fr), .val (.int ct), .val (.int rr), .val (.ref b2), .val (.ref b7), .val (.long sum), .second, .val (.ref b12), .val (.int (own_fre (own_P nr) (own_M nr nf no m0 m1 m2 m3) sl sum (own_cut sum sl) nf nc)), .val (.int (0 : Int32)), .unset, .unset, .unset]) rfl kS) ?_
            show own_Run p e below _ (T17.setTop (mkF m 257 #[.val (.int p1), .val (.int p2), .val (.int p3), .val (.int p4), .val (.int p5), .val (.int p6), .val (.int m0), .val (.int m1), .val (.int m2), .val (.int m3), .val (.int sl), .val (.int fr), .val (.int ct), .val (.int rr), .val (.ref b2), .val (.ref b7), .val (.long sum), .second, .val (.ref b12), .val (.int (own_fre (own_P nr) (own_M nr nf no m0 m1 m2 m3) sl sum (own_cut sum sl) nf nc)), .val (.int (0 : Int32)), .unset, .unset, .unset] []))
            exact J257 _ (by unfold own_cut; first | rw [if_pos hc247] | rw [if_neg hc247])
        by_cases hc184 : (2 : Int32) < ct
        · refine own_go (fun _ kS => XS.icmpNo X11.here hx rfl (hb hby at_184) rfl (tlt hc184).2.2.2 kS) ?_
          show own_Run p e below _ (T11.setTop (mkF m 187 #[.val (.int p1), .val (.int p2), .val (.int p3), .val (.int p4), .val (.int p5), .val (.int p6), .val (.int m0), .val (.int m1), .val (.int m2), .val (.int m3), .val (.int sl), .val (.int fr), .val (.int ct), .val (.int rr), .val (.ref b2), .val (.ref b7), .unset, .unset, .unset, .unset, .unset, .unset, .unset, .unset] [(.long (s0 + s1))]))
          refine own_go (fun _ kS => XS.iload X11.here hx rfl (hb hby at_187) rfl kS) ?_
          show own_Run p e below _ (T11.setTop (mkF m 189 #[.val (.int p1), .val (.int p2), .val (.int p3), .val (.int p4), .val (.int p5), .val (.int p6), .val (.int m0), .val (.int m1), .val (.int m2), .val (.int m3), .val (.int sl), .val (.int fr), .val (.int ct), .val (.int rr), .val (.ref b2), .val (.ref b7), .unset, .unset, .unset, .unset, .unset, .unset, .unset, .unset] [(.int m2), (.long (s0 + s1))]))
          refine own_go (fun _ kS => XS.i2l X11.here hx rfl (hb hby at_189) rfl kS) ?_
          show own_Run p e below _ (T11.setTop (mkF m 190 #[.val (.int p1), .val (.int p2), .val (.int p3), .val (.int p4), .val (.int p5), .val (.int p6), .val (.int m0), .val (.int m1), .val (.int m2), .val (.int m3), .val (.int sl), .val (.int fr), .val (.int ct), .val (.int rr), .val (.ref b2), .val (.ref b7), .unset, .unset, .unset, .unset, .unset, .unset, .unset, .unset] [(.long m2.toInt64), (.long (s0 + s1))]))
          refine own_go (fun _ kS => XS.goto X11.here hx rfl (pc0 := 190) (pc' := 194) rfl (hb hby at_190) (by decide) (by decide) kS) ?_
          show own_Run p e below _ (T11.setTop (mkF m 194 #[.val (.int p1), .val (.int p2), .val (.int p3), .val (.int p4), .val (.int p5), .val (.int p6), .val (.int m0), .val (.int m1), .val (.int m2), .val (.int m3), .val (.int sl), .val (.int fr), .val (.int ct), .val (.int rr), .val (.ref b2), .val (.ref b7), .unset, .unset, .unset, .unset, .unset, .unset, .unset, .unset] [(.long m2.toInt64), (.long (s0 + s1))]))
          exact J194 _ (by unfold own_sj; first | rw [if_pos (by have w := hc184; rw [Int32.lt_iff_toInt_lt] at w; omega)] | rw [if_neg (by have w := hc184; rw [Int32.lt_iff_toInt_lt] at w; omega)])
        · refine own_go (fun _ kS => XS.icmpYes X11.here hx rfl (pc0 := 184) (pc' := 193) rfl (hb hby at_184) rfl (flt hc184).2.2.2 (by decide) (by decide) kS) ?_
          show own_Run p e below _ (T11.setTop (mkF m 193 #[.val (.int p1), .val (.int p2), .val (.int p3), .val (.int p4), .val (.int p5), .val (.int p6), .val (.int m0), .val (.int m1), .val (.int m2), .val (.int m3), .val (.int sl), .val (.int fr), .val (.int ct), .val (.int rr), .val (.ref b2), .val (.ref b7), .unset, .unset, .unset, .unset, .unset, .unset, .unset, .unset] [(.long (s0 + s1))]))
          refine own_go (fun _ kS => XS.lconst X11.here hx rfl (hb hby at_193) kS) ?_
          show own_Run p e below _ (T11.setTop (mkF m 194 #[.val (.int p1), .val (.int p2), .val (.int p3), .val (.int p4), .val (.int p5), .val (.int p6), .val (.int m0), .val (.int m1), .val (.int m2), .val (.int m3), .val (.int sl), .val (.int fr), .val (.int ct), .val (.int rr), .val (.ref b2), .val (.ref b7), .unset, .unset, .unset, .unset, .unset, .unset, .unset, .unset] [(.long (0 : Int64)), (.long (s0 + s1))]))
          exact J194 _ (by unfold own_sj; first | rw [if_pos (by have w := hc184; rw [Int32.lt_iff_toInt_lt] at w; omega)] | rw [if_neg (by have w := hc184; rw [Int32.lt_iff_toInt_lt] at w; omega)])
      by_cases hc170 : (1 : Int32) < ct
      · refine own_go (fun _ kS => XS.icmpNo X11.here hx rfl (hb hby at_170) rfl (tlt hc170).2.2.2 kS) ?_
        show own_Run p e below _ (T11.setTop (mkF m 173 #[.val (.int p1), .val (.int p2), .val (.int p3), .val (.int p4), .val (.int p5), .val (.int p6), .val (.int m0), .val (.int m1), .val (.int m2), .val (.int m3), .val (.int sl), .val (.int fr), .val (.int ct), .val (.int rr), .val (.ref b2), .val (.ref b7), .unset, .unset, .unset, .unset, .unset, .unset, .unset, .unset] [(.long s0)]))
        refine own_go (fun _ kS => XS.iload X11.here hx rfl (hb hby at_173) rfl kS) ?_
        show own_Run p e below _ (T11.setTop (mkF m 175 #[.val (.int p1), .val (.int p2), .val (.int p3), .val (.int p4), .val (.int p5), .val (.int p6), .val (.int m0), .val (.int m1), .val (.int m2), .val (.int m3), .val (.int sl), .val (.int fr), .val (.int ct), .val (.int rr), .val (.ref b2), .val (.ref b7), .unset, .unset, .unset, .unset, .unset, .unset, .unset, .unset] [(.int m1), (.long s0)]))
        refine own_go (fun _ kS => XS.i2l X11.here hx rfl (hb hby at_175) rfl kS) ?_
        show own_Run p e below _ (T11.setTop (mkF m 176 #[.val (.int p1), .val (.int p2), .val (.int p3), .val (.int p4), .val (.int p5), .val (.int p6), .val (.int m0), .val (.int m1), .val (.int m2), .val (.int m3), .val (.int sl), .val (.int fr), .val (.int ct), .val (.int rr), .val (.ref b2), .val (.ref b7), .unset, .unset, .unset, .unset, .unset, .unset, .unset, .unset] [(.long m1.toInt64), (.long s0)]))
        refine own_go (fun _ kS => XS.goto X11.here hx rfl (pc0 := 176) (pc' := 180) rfl (hb hby at_176) (by decide) (by decide) kS) ?_
        show own_Run p e below _ (T11.setTop (mkF m 180 #[.val (.int p1), .val (.int p2), .val (.int p3), .val (.int p4), .val (.int p5), .val (.int p6), .val (.int m0), .val (.int m1), .val (.int m2), .val (.int m3), .val (.int sl), .val (.int fr), .val (.int ct), .val (.int rr), .val (.ref b2), .val (.ref b7), .unset, .unset, .unset, .unset, .unset, .unset, .unset, .unset] [(.long m1.toInt64), (.long s0)]))
        exact J180 _ (by unfold own_sj; first | rw [if_pos (by have w := hc170; rw [Int32.lt_iff_toInt_lt] at w; omega)] | rw [if_neg (by have w := hc170; rw [Int32.lt_iff_toInt_lt] at w; omega)])
      · refine own_go (fun _ kS => XS.icmpYes X11.here hx rfl (pc0 := 170) (pc' := 179) rfl (hb hby at_170) rfl (flt hc170).2.2.2 (by decide) (by decide) kS) ?_
        show own_Run p e below _ (T11.setTop (mkF m 179 #[.val (.int p1), .val (.int p2), .val (.int p3), .val (.int p4), .val (.int p5), .val (.int p6), .val (.int m0), .val (.int m1), .val (.int m2), .val (.int m3), .val (.int sl), .val (.int fr), .val (.int ct), .val (.int rr), .val (.ref b2), .val (.ref b7), .unset, .unset, .unset, .unset, .unset, .unset, .unset, .unset] [(.long s0)]))
        refine own_go (fun _ kS => XS.lconst X11.here hx rfl (hb hby at_179) kS) ?_
        show own_Run p e below _ (T11.setTop (mkF m 180 #[.val (.int p1), .val (.int p2), .val (.int p3), .val (.int p4), .val (.int p5), .val (.int p6), .val (.int m0), .val (.int m1), .val (.int m2), .val (.int m3), .val (.int sl), .val (.int fr), .val (.int ct), .val (.int rr), .val (.ref b2), .val (.ref b7), .unset, .unset, .unset, .unset, .unset, .unset, .unset, .unset] [(.long (0 : Int64)), (.long s0)]))
        exact J180 _ (by unfold own_sj; first | rw [if_pos (by have w := hc170; rw [Int32.lt_iff_toInt_lt] at w; omega)] | rw [if_neg (by have w := hc170; rw [Int32.lt_iff_toInt_lt] at w; omega)])
    by_cases hc157 : (0 : Int32) < ct
    · refine own_go (fun _ kS => XS.ifNo X11.here hx rfl (hb hby at_157) rfl ((if0 _ _).trans (tlt hc157).2.2.2) kS) ?_
      show own_Run p e below _ (T11.setTop (mkF m 160 #[.val (.int p1), .val (.int p2), .val (.int p3), .val (.int p4), .val (.int p5), .val (.int p6), .val (.int m0), .val (.int m1), .val (.int m2), .val (.int m3), .val (.int sl), .val (.int fr), .val (.int ct), .val (.int rr), .val (.ref b2), .val (.ref b7), .unset, .unset, .unset, .unset, .unset, .unset, .unset, .unset] []))
      refine own_go (fun _ kS => XS.iload X11.here hx rfl (hb hby at_160) rfl kS) ?_
      show own_Run p e below _ (T11.setTop (mkF m 162 #[.val (.int p1), .val (.int p2), .val (.int p3), .val (.int p4), .val (.int p5), .val (.int p6), .val (.int m0), .val (.int m1), .val (.int m2), .val (.int m3), .val (.int sl), .val (.int fr), .val (.int ct), .val (.int rr), .val (.ref b2), .val (.ref b7), .unset, .unset, .unset, .unset, .unset, .unset, .unset, .unset] [(.int m0)]))
      refine own_go (fun _ kS => XS.i2l X11.here hx rfl (hb hby at_162) rfl kS) ?_
      show own_Run p e below _ (T11.setTop (mkF m 163 #[.val (.int p1), .val (.int p2), .val (.int p3), .val (.int p4), .val (.int p5), .val (.int p6), .val (.int m0), .val (.int m1), .val (.int m2), .val (.int m3), .val (.int sl), .val (.int fr), .val (.int ct), .val (.int rr), .val (.ref b2), .val (.ref b7), .unset, .unset, .unset, .unset, .unset, .unset, .unset, .unset] [(.long m0.toInt64)]))
      refine own_go (fun _ kS => XS.goto X11.here hx rfl (pc0 := 163) (pc' := 167) rfl (hb hby at_163) (by decide) (by decide) kS) ?_
      show own_Run p e below _ (T11.setTop (mkF m 167 #[.val (.int p1), .val (.int p2), .val (.int p3), .val (.int p4), .val (.int p5), .val (.int p6), .val (.int m0), .val (.int m1), .val (.int m2), .val (.int m3), .val (.int sl), .val (.int fr), .val (.int ct), .val (.int rr), .val (.ref b2), .val (.ref b7), .unset, .unset, .unset, .unset, .unset, .unset, .unset, .unset] [(.long m0.toInt64)]))
      exact J167 _ (by unfold own_sj; first | rw [if_pos (by have w := hc157; rw [Int32.lt_iff_toInt_lt] at w; omega)] | rw [if_neg (by have w := hc157; rw [Int32.lt_iff_toInt_lt] at w; omega)])
    · refine own_go (fun _ kS => XS.ifYes X11.here hx rfl (pc0 := 157) (pc' := 166) rfl (hb hby at_157) rfl ((if0 _ _).trans (flt hc157).2.2.2) (by decide) (by decide) kS) ?_
      show own_Run p e below _ (T11.setTop (mkF m 166 #[.val (.int p1), .val (.int p2), .val (.int p3), .val (.int p4), .val (.int p5), .val (.int p6), .val (.int m0), .val (.int m1), .val (.int m2), .val (.int m3), .val (.int sl), .val (.int fr), .val (.int ct), .val (.int rr), .val (.ref b2), .val (.ref b7), .unset, .unset, .unset, .unset, .unset, .unset, .unset, .unset] []))
      refine own_go (fun _ kS => XS.lconst X11.here hx rfl (hb hby at_166) kS) ?_
      show own_Run p e below _ (T11.setTop (mkF m 167 #[.val (.int p1), .val (.int p2), .val (.int p3), .val (.int p4), .val (.int p5), .val (.int p6), .val (.int m0), .val (.int m1), .val (.int m2), .val (.int m3), .val (.int sl), .val (.int fr), .val (.int ct), .val (.int rr), .val (.ref b2), .val (.ref b7), .unset, .unset, .unset, .unset, .unset, .unset, .unset, .unset] [(.long (0 : Int64))]))
      exact J167 _ (by unfold own_sj; first | rw [if_pos (by have w := hc157; rw [Int32.lt_iff_toInt_lt] at w; omega)] | rw [if_neg (by have w := hc157; rw [Int32.lt_iff_toInt_lt] at w; omega)])
  by_cases hc143 : fr = (0 : Int32)
  · refine own_go (fun _ kS => XS.ifNo X10.here hx rfl (hb hby at_143) rfl ((if0 _ _).trans (teq hc143).2) kS) ?_
    show own_Run p e below _ (T10.setTop (mkF m 146 #[.val (.int p1), .val (.int p2), .val (.int p3), .val (.int p4), .val (.int p5), .val (.int p6), .val (.int m0), .val (.int m1), .val (.int m2), .val (.int m3), .val (.int sl), .val (.int fr), .val (.int ct), .val (.int rr), .val (.ref b2), .val (.ref b7), .unset, .unset, .unset, .unset, .unset, .unset, .unset, .unset] [(.ref b2), (.ref b7)]))
    refine own_go (fun _ kS => XS.iconst X10.here hx rfl (hb hby at_146) kS) ?_
    show own_Run p e below _ (T10.setTop (mkF m 147 #[.val (.int p1), .val (.int p2), .val (.int p3), .val (.int p4), .val (.int p5), .val (.int p6), .val (.int m0), .val (.int m1), .val (.int m2), .val (.int m3), .val (.int sl), .val (.int fr), .val (.int ct), .val (.int rr), .val (.ref b2), .val (.ref b7), .unset, .unset, .unset, .unset, .unset, .unset, .unset, .unset] [(.int (3 : Int32)), (.ref b2), (.ref b7)]))
    refine own_go (fun _ kS => XS.goto X10.here hx rfl (pc0 := 147) (pc' := 151) rfl (hb hby at_147) (by decide) (by decide) kS) ?_
    show own_Run p e below _ (T10.setTop (mkF m 151 #[.val (.int p1), .val (.int p2), .val (.int p3), .val (.int p4), .val (.int p5), .val (.int p6), .val (.int m0), .val (.int m1), .val (.int m2), .val (.int m3), .val (.int sl), .val (.int fr), .val (.int ct), .val (.int rr), .val (.ref b2), .val (.ref b7), .unset, .unset, .unset, .unset, .unset, .unset, .unset, .unset] [(.int (3 : Int32)), (.ref b2), (.ref b7)]))
    exact J151 _ (by first | exact Or.inl ⟨rfl, by have w := congrArg Int32.toInt hc143; omega⟩ | exact Or.inr ⟨rfl, by have w : ¬ fr.toInt = (0 : Int32).toInt := fun w => hc143 (own_inj w); omega⟩)
  · refine own_go (fun _ kS => XS.ifYes X10.here hx rfl (pc0 := 143) (pc' := 150) rfl (hb hby at_143) rfl ((if0 _ _).trans (feq hc143).2) (by decide) (by decide) kS) ?_
    show own_Run p e below _ (T10.setTop (mkF m 150 #[.val (.int p1), .val (.int p2), .val (.int p3), .val (.int p4), .val (.int p5), .val (.int p6), .val (.int m0), .val (.int m1), .val (.int m2), .val (.int m3), .val (.int sl), .val (.int fr), .val (.int ct), .val (.int rr), .val (.ref b2), .val (.ref b7), .unset, .unset, .unset, .unset, .unset, .unset, .unset, .unset] [(.ref b2), (.ref b7)]))
    refine own_go (fun _ kS => XS.iconst X10.here hx rfl (hb hby at_150) kS) ?_
    show own_Run p e below _ (T10.setTop (mkF m 151 #[.val (.int p1), .val (.int p2), .val (.int p3), .val (.int p4), .val (.int p5), .val (.int p6), .val (.int m0), .val (.int m1), .val (.int m2), .val (.int m3), .val (.int sl), .val (.int fr), .val (.int ct), .val (.int rr), .val (.ref b2), .val (.ref b7), .unset, .unset, .unset, .unset, .unset, .unset, .unset, .unset] [(.int (0 : Int32)), (.ref b2), (.ref b7)]))
    exact J151 _ (by first | exact Or.inl ⟨rfl, by have w := congrArg Int32.toInt hc143; omega⟩ | exact Or.inr ⟨rfl, by have w : ¬ fr.toInt = (0 : Int32).toInt := fun w => hc143 (own_inj w); omega⟩)
set_option maxRecDepth 65536 in
set_option maxHeartbeats 40000000 in
theorem own_comes_1 {Post : Tables → Env → Array Value → State → Outcome → State → Prop} (hpost : ∀ tb e args s v u, (limb_1_1.after args s (.returned v) u = true ∧ limb_1_2.after args s (.returned v) u = true) → FrameEnd s (.returned v) u (Jvm.fieldLocs frame_1_writes args s ++ Jvm.arrayLocs frame_1_arrays args s ++ Jvm.staticLocs frame_1_statics s) 16 128 → Post tb e args s (.returned v) u) :
    ArmFor flags0 classFile x code maxLocals ret World_1 tables_1 room_1 Calls_1 rest_1 Pre_1 Post := by
  intro l hfl _ _ p e ha hc hk s m args below hf hA hF happ hP
  obtain ⟨hcalls, hrest, hpre⟩ := hP
  obtain ⟨-, -, -, hnamed, -, -, -, hat⟩ := (Spec.applies_iff hf).mp happ
  obtain ⟨hg, hn⟩ := and_e (Cond.before_iff.mp (show (Jvm.Cond.and given_1 narrow_1).before args s = true from hpre))
  obtain ⟨g0, hg⟩ := and_e hg
  obtain ⟨k0, hg⟩ := and_e hg
  obtain ⟨k1, hg⟩ := and_e hg
  obtain ⟨k2, hg⟩ := and_e hg
  obtain ⟨k3, hg⟩ := and_e hg
  obtain ⟨k4, hg⟩ := and_e hg
  have k5 := hg
  obtain ⟨w0, w1, w2, w3, w4, w5, rfl⟩ : ∃ w0 w1 w2 w3 w4 w5 : Value, args = #[w0, w1, w2, w3, w4, w5] := by
    have hs : args.size = 6 := by simpa [Cond.value, given_1] using g0
    obtain ⟨L⟩ := args
    match L, hs with
    | [w0, w1, w2, w3, w4, w5], _ => exact ⟨w0, w1, w2, w3, w4, w5, rfl⟩
  have hw := fun d (hd : d ∈ tables_1) => atoms_spec (ws := Jvm.Cond.code x code maxLocals ret :: tables_1) hat d (List.mem_cons_of_mem _ hd)
  obtain ⟨i0, ei0⟩ := is_v k0
  obtain rfl : w0 = (.int i0) := Option.some.inj ei0
  obtain ⟨i1, ei1⟩ := is_v k1
  obtain rfl : w1 = (.int i1) := Option.some.inj ei1
  obtain ⟨i2, ei2⟩ := is_v k2
  obtain rfl : w2 = (.int i2) := Option.some.inj ei2
  obtain ⟨i3, ei3⟩ := is_v k3
  obtain rfl : w3 = (.int i3) := Option.some.inj ei3
  obtain ⟨i4, ei4⟩ := is_v k4
  obtain rfl : w4 = (.int i4) := Option.some.inj ei4
  obtain ⟨i5, ei5⟩ := is_v k5
  obtain rfl : w5 = (.int i5) := Option.some.inj ei5
  obtain ⟨n, o, h1, h2, h3, _, L, rfl, ⟨rfl, N⟩, hq⟩ := rm_law l s _ hw i0 i1 i2 i3 i4 i5 s.heap.size s.heap (Nat.le_refl _) tables_1 p e ha hc hk s m _ below hf ((Spec.applies_iff_loose hf).mp happ).1 ⟨rfl, State.Warmed39.refl s, rfl⟩ trivial
  refine ⟨n, _, h1, h2, h3, hpost _ _ _ _ _ _ ⟨Cond.after_iff.mpr rfl, Cond.after_iff.mpr (eq_i res_at (Term.int_eval (1)) rfl)⟩ ⟨hq.1, hq.2.1, (hq.2.2.sift fun y hy => Or.inr (N y hy)).mono (by decide) (by decide)⟩⟩
theorem main_1_1 : Claimed_1_1 := own_comes_1 fun _ _ _ _ _ _ h hF => ⟨h.1, hF⟩
theorem main_1_2 : Claimed_1_2 := own_comes_1 fun _ _ _ _ _ _ h hF => ⟨h.2, hF⟩
end Jvm.Pilot.@@N@@
namespace Jvm.Pilot.@@N@@
open Jvm Jvm.ClassFile Sem Op Lib Jvm.Free Jvm.Stand Jvm.Pilot.@@N@@.Jvm.D
/-! MADE BY PROGRAM (witnessworld.py) out of the Statement's table words and the real class files: 10 classes; the members and pool entries that the words name. The judged class is class 1, her method 1. -/
namespace start1
open Jvm.ClassFile
def u (s : String) : CpInfo := .utf8 (stringToUtf16 s)
/-- a pool by its gaps: so many unusable entries, then the entry; so many at the end -/
def gap : Nat → List CpInfo → List CpInfo
  | 0, r => r
  | n + 1, r => .unusable :: gap n r
def poolList (es : List (Nat × CpInfo)) (last : Nat) : List CpInfo := es.foldr (fun e r => gap e.1 (e.2 :: r)) (gap last [])
def pool (es : List (Nat × CpInfo)) (last : Nat) : Array CpInfo := ⟨poolList es last⟩
def fileOf (pool : Array CpInfo) (this : Nat) (attrs : Array Attribute := #[]) (ms : Array MethodInfo := #[]) (fl : Nat := 33) (sup : Nat := 0) (ifs : Array Nat := #[]) (fds : Array FieldInfo := #[]) : ClassFile where
  minorVersion := 0
  majorVersion := 65
  constantPool := pool
  accessFlags := fl
  thisClass := this
  superClass := sup
  interfaces := ifs
  fields := fds
  methods := ms
  attributes := attrs
def plain (name : String) (sup : Option ClassId) : Class where
  name := name
  kind := .ordinary
  loader := none
  accessFlags := 33
  super := sup
  interfaces := #[]
  cf := none
  fields := #[]
  methods := #[]
  instanceTypes := #[]
  staticTypes := #[]
  resolved := #[]
  callSites := []
  init := .initialized
  statics := none
  mirror := none

def pool0 : Array CpInfo := pool [(5, u "<init>"), (0, u "()V"), (1, .class_ 10), (1, u "java/lang/Object")] 113

def k0m0 : Method := { name := "<init>", desc := "()V", sig := { parameters := [], returnType := none }, accessFlags := 1, code := none }
/-- java/lang/Object -/
def k0 : Class := { plain "java/lang/Object" none with
  accessFlags := 33
  interfaces := #[]
  cf := some (fileOf pool0 8 #[] #[{ accessFlags := 1, nameIndex := 5, descriptorIndex := 6, attributes := #[] }] 33 0 #[] #[])
  fields := #[]
  methods := #[k0m0]
  instanceTypes := #[]
  staticTypes := #[]
  resolved := Array.replicate 124 none
  statics := none }

def pool1 : Array CpInfo := pool [(2, .class_ 4), (1, u "java/lang/Object"), (0, u "<init>"), (0, u "()V"), (0, .integer 2147483647), (0, .methodref 9 10), (0, .class_ 11), (0, .nameAndType 12 13), (0, u "java/lang/Math"), (0, u "max"), (0, u "(II)I"), (0, .methodref 15 16), (0, .class_ 17), (0, .nameAndType 18 19), (0, u "com/example/slotwise/slotwise/flex/Packer"), (0, u "giveMinima"), (0, u "([III[IJI[I)I"), (0, .methodref 21 22), (0, .class_ 23), (0, .nameAndType 24 25), (0, u "com/example/slotwise/slotwise/flex/PackerGiveMinimaPinLaw"), (0, u "expect"), (0, u "(IIJZ)I"), (2, u "law"), (0, u "(IIIIII)Z")] 5

def k1m0 : Method := { name := "<init>", desc := "()V", sig := { parameters := [], returnType := none }, accessFlags := 1, code := none }
def k1c1 : Code := { maxStack := 8, maxLocals := 24, code := code, exceptionTable := #[], attributes := #[] }
def k1m1 : Method := { name := "law", desc := "(IIIIII)Z", sig := { parameters := [.int, .int, .int, .int, .int, .int], returnType := some .boolean }, accessFlags := 9, code := some k1c1 }
def k1c2 : Code := { maxStack := 4, maxLocals := 7, code := method_3_code, exceptionTable := #[], attributes := #[] }
def k1m2 : Method := { name := "expect", desc := "(IIJZ)I", sig := { parameters := [.int, .int, .long, .boolean], returnType := some .int }, accessFlags := 10, code := some k1c2 }
/-- com/example/slotwise/slotwise/flex/PackerGiveMinimaPinLaw -/
def k1 : Class := { plain "com/example/slotwise/slotwise/flex/PackerGiveMinimaPinLaw" (some 0) with
  accessFlags := 49
  interfaces := #[]
  cf := some (fileOf pool1 21 #[] #[{ accessFlags := 1, nameIndex := 5, descriptorIndex := 6, attributes := #[] }, { accessFlags := 9, nameIndex := 28, descriptorIndex := 29, attributes := #[] }, { accessFlags := 10, nameIndex := 24, descriptorIndex := 25, attributes := #[] }] 49 2 #[] #[])
  fields := #[]
  methods := #[k1m0, k1m1, k1m2]
  instanceTypes := #[]
  staticTypes := #[]
  resolved := Array.replicate 35 none
  statics := none }

def pool2 : Array CpInfo := pool [(1, .class_ 2), (0, u "java/lang/Math"), (1, .class_ 6), (1, u "java/lang/Object"), (0, u "<init>"), (0, u "()V"), (89, .class_ 100), (1, u "java/lang/Math$RandomNumberGeneratorHolder"), (71, u "negativeZeroFloatBits"), (0, u "J"), (2, u "negativeZeroDoubleBits"), (21, u "max"), (46, u "$assertionsDisabled"), (0, u "Z"), (88, u "(II)I"), (2, u "twoToTheDoubleScaleDown"), (0, u "D"), (4, u "twoToTheDoubleScaleUp"), (9, u "E"), (3, u "PI"), (2, u "TAU"), (2, u "DEGREES_TO_RADIANS"), (0, u "RADIANS_TO_DEGREES")] 94

def k2m0 : Method := { name := "<init>", desc := "()V", sig := { parameters := [], returnType := none }, accessFlags := 2, code := none }
def k2c1 : Code := { maxStack := 2, maxLocals := 2, code := jdk_29_method_65_code, exceptionTable := #[], attributes := #[] }
def k2m1 : Method := { name := "max", desc := "(II)I", sig := { parameters := [.int, .int], returnType := some .int }, accessFlags := 9, code := some k2c1 }
/-- java/lang/Math -/
def k2 : Class := { plain "java/lang/Math" (some 0) with
  accessFlags := 49
  interfaces := #[]
  cf := some (fileOf pool2 1 #[.nestMembers #[98]] #[{ accessFlags := 2, nameIndex := 7, descriptorIndex := 8, attributes := #[] }, { accessFlags := 9, nameIndex := 198, descriptorIndex := 335, attributes := #[] }] 49 4 #[] #[{ accessFlags := 25, nameIndex := 354, descriptorIndex := 339, attributes := #[] }, { accessFlags := 25, nameIndex := 358, descriptorIndex := 339, attributes := #[] }, { accessFlags := 25, nameIndex := 361, descriptorIndex := 339, attributes := #[] }, { accessFlags := 26, nameIndex := 364, descriptorIndex := 339, attributes := #[] }, { accessFlags := 26, nameIndex := 365, descriptorIndex := 339, attributes := #[] }, { accessFlags := 26, nameIndex := 172, descriptorIndex := 173, attributes := #[] }, { accessFlags := 26, nameIndex := 176, descriptorIndex := 173, attributes := #[] }, { accessFlags := 8, nameIndex := 344, descriptorIndex := 339, attributes := #[] }, { accessFlags := 8, nameIndex := 338, descriptorIndex := 339, attributes := #[] }, { accessFlags := 4120, nameIndex := 245, descriptorIndex := 246, attributes := #[] }])
  fields := #[{ name := "E", type := .double, accessFlags := 25, slot := 0, constantValue := 0 }, { name := "PI", type := .double, accessFlags := 25, slot := 1, constantValue := 0 }, { name := "TAU", type := .double, accessFlags := 25, slot := 2, constantValue := 0 }, { name := "DEGREES_TO_RADIANS", type := .double, accessFlags := 26, slot := 3, constantValue := 0 }, { name := "RADIANS_TO_DEGREES", type := .double, accessFlags := 26, slot := 4, constantValue := 0 }, { name := "negativeZeroFloatBits", type := .long, accessFlags := 26, slot := 5, constantValue := 0 }, { name := "negativeZeroDoubleBits", type := .long, accessFlags := 26, slot := 6, constantValue := 0 }, { name := "twoToTheDoubleScaleUp", type := .double, accessFlags := 8, slot := 7, constantValue := 0 }, { name := "twoToTheDoubleScaleDown", type := .double, accessFlags := 8, slot := 8, constantValue := 0 }, { name := "$assertionsDisabled", type := .boolean, accessFlags := 4120, slot := 9, constantValue := 0 }]
  methods := #[k2m0, k2m1]
  instanceTypes := #[]
  staticTypes := #[.double, .double, .double, .double, .double, .long, .long, .double, .double, .boolean]
  resolved := Array.replicate 460 none
  statics := none }

def pool3 : Array CpInfo := pool [(2, .class_ 4), (1, u "java/lang/Object"), (24, .class_ 31), (1, u "com/example/slotwise/slotwise/flex/Packer"), (0, u "slots"), (0, u "I"), (2, u "work"), (0, u "[D"), (8, u "weight"), (2, u "min"), (0, u "[I"), (2, u "max"), (22, u "minima"), (0, u "J"), (2, u "mostMin"), (2, u "left"), (2, u "held"), (2, u "finish"), (2, u "present"), (2, u "place"), (17, .class_ 115), (1, u "com/example/slotwise/slotwise/flex/Packer$Sharing"), (37, u "startInterval"), (2, u "startTime"), (0, u "D"), (2, u "startMinimaLeft"), (2, u "startFirstOnly"), (0, u "Z"), (1, .class_ 168), (1, u "com/example/slotwise/slotwise/flex/Packer$Trace"), (30, u "giveMinima"), (0, u "([III[IJI[I)I"), (18, u "runnerUp"), (62, .class_ 283), (0, u "com/example/slotwise/slotwise/flex/Packer$Sharing$2"), (0, .class_ 285), (0, u "com/example/slotwise/slotwise/flex/Packer$Sharing$1")] 18

def k3c0 : Code := { maxStack := 6, maxLocals := 12, code := prog_81_method_9_code, exceptionTable := #[], attributes := #[] }
def k3m0 : Method := { name := "giveMinima", desc := "([III[IJI[I)I", sig := { parameters := [(.array .int), .int, .int, (.array .int), .long, .int, (.array .int)], returnType := some .int }, accessFlags := 8, code := some k3c0 }
/-- com/example/slotwise/slotwise/flex/Packer -/
def k3 : Class := { plain "com/example/slotwise/slotwise/flex/Packer" (some 0) with
  accessFlags := 48
  interfaces := #[]
  cf := some (fileOf pool3 29 #[.nestMembers #[113, 282, 284, 166]] #[{ accessFlags := 8, nameIndex := 199, descriptorIndex := 200, attributes := #[] }] 48 2 #[] #[{ accessFlags := 18, nameIndex := 32, descriptorIndex := 33, attributes := #[] }, { accessFlags := 18, nameIndex := 36, descriptorIndex := 37, attributes := #[] }, { accessFlags := 18, nameIndex := 46, descriptorIndex := 37, attributes := #[] }, { accessFlags := 18, nameIndex := 49, descriptorIndex := 50, attributes := #[] }, { accessFlags := 18, nameIndex := 53, descriptorIndex := 50, attributes := #[] }, { accessFlags := 18, nameIndex := 76, descriptorIndex := 77, attributes := #[] }, { accessFlags := 18, nameIndex := 80, descriptorIndex := 33, attributes := #[] }, { accessFlags := 18, nameIndex := 83, descriptorIndex := 37, attributes := #[] }, { accessFlags := 18, nameIndex := 86, descriptorIndex := 50, attributes := #[] }, { accessFlags := 18, nameIndex := 89, descriptorIndex := 37, attributes := #[] }, { accessFlags := 18, nameIndex := 92, descriptorIndex := 50, attributes := #[] }, { accessFlags := 18, nameIndex := 95, descriptorIndex := 50, attributes := #[] }, { accessFlags := 2, nameIndex := 153, descriptorIndex := 33, attributes := #[] }, { accessFlags := 2, nameIndex := 156, descriptorIndex := 157, attributes := #[] }, { accessFlags := 2, nameIndex := 160, descriptorIndex := 77, attributes := #[] }, { accessFlags := 2, nameIndex := 163, descriptorIndex := 164, attributes := #[] }, { accessFlags := 2, nameIndex := 219, descriptorIndex := 157, attributes := #[] }])
  fields := #[{ name := "slots", type := .int, accessFlags := 18, slot := 0, constantValue := 0 }, { name := "work", type := (.array .double), accessFlags := 18, slot := 1, constantValue := 0 }, { name := "weight", type := (.array .double), accessFlags := 18, slot := 2, constantValue := 0 }, { name := "min", type := (.array .int), accessFlags := 18, slot := 3, constantValue := 0 }, { name := "max", type := (.array .int), accessFlags := 18, slot := 4, constantValue := 0 }, { name := "minima", type := .long, accessFlags := 18, slot := 5, constantValue := 0 }, { name := "mostMin", type := .int, accessFlags := 18, slot := 6, constantValue := 0 }, { name := "left", type := (.array .double), accessFlags := 18, slot := 7, constantValue := 0 }, { name := "held", type := (.array .int), accessFlags := 18, slot := 8, constantValue := 0 }, { name := "finish", type := (.array .double), accessFlags := 18, slot := 9, constantValue := 0 }, { name := "present", type := (.array .int), accessFlags := 18, slot := 10, constantValue := 0 }, { name := "place", type := (.array .int), accessFlags := 18, slot := 11, constantValue := 0 }, { name := "startInterval", type := .int, accessFlags := 2, slot := 12, constantValue := 0 }, { name := "startTime", type := .double, accessFlags := 2, slot := 13, constantValue := 0 }, { name := "startMinimaLeft", type := .long, accessFlags := 2, slot := 14, constantValue := 0 }, { name := "startFirstOnly", type := .boolean, accessFlags := 2, slot := 15, constantValue := 0 }, { name := "runnerUp", type := .double, accessFlags := 2, slot := 16, constantValue := 0 }]
  methods := #[k3m0]
  instanceTypes := #[.int, (.array .double), (.array .double), (.array .int), (.array .int), .long, .int, (.array .double), (.array .int), (.array .double), (.array .int), (.array .int), .int, .double, .long, .boolean, .double]
  staticTypes := #[]
  resolved := Array.replicate 304 none
  statics := none }

def pool4 : Array CpInfo := pool [(1, u "java/lang/Cloneable"), (0, .class_ 1), (0, u "java/lang/Object"), (0, .class_ 3)] 3

/-- java/lang/Cloneable -/
def k4 : Class := { plain "java/lang/Cloneable" (some 0) with
  accessFlags := 1537
  interfaces := #[]
  cf := some (fileOf pool4 2 #[] #[] 1537 4 #[] #[])
  fields := #[]
  methods := #[]
  instanceTypes := #[]
  staticTypes := #[]
  resolved := Array.replicate 8 none
  statics := none }

def pool5 : Array CpInfo := pool [(1, u "java/io/Serializable"), (0, .class_ 1), (0, u "java/lang/Object"), (0, .class_ 3)] 3

/-- java/io/Serializable -/
def k5 : Class := { plain "java/io/Serializable" (some 0) with
  accessFlags := 1537
  interfaces := #[]
  cf := some (fileOf pool5 2 #[] #[] 1537 4 #[] #[])
  fields := #[]
  methods := #[]
  instanceTypes := #[]
  staticTypes := #[]
  resolved := Array.replicate 8 none
  statics := none }

/-- the primitive byte -/
def k6 : Class := { plain "byte" none with kind := .primitive 'B', accessFlags := 0x411 }
/-- [B -/
def k7 : Class := { plain "[B" (some 0) with kind := .array 6 .byte, interfaces := #[4, 5], accessFlags := 1041 }

/-- the primitive int -/
def k8 : Class := { plain "int" none with kind := .primitive 'I', accessFlags := 0x411 }
/-- [I -/
def k9 : Class := { plain "[I" (some 0) with kind := .array 8 .int, interfaces := #[4, 5], accessFlags := 1041 }

def heap : Heap := #[]
def classes : Array Class := #[k0, k1, k2, k3, k4, k5, k6, k7, k8, k9]
def interned : List (Array UInt16 × Addr) := []
def slotsUsed : Nat := 0
def theMethod : MethodId := ⟨1, 1⟩
def args0 : Array Value := #[.int 5, .int 7, .int 3, .int 2, .int 9, .int 6]
def aboutOver (below : List Frame) : State where
  vm := { classes := classes, interned := interned.toArray }
  heap := heap
  slotsUsed := slotsUsed
  threads := #[{ frames := .invoking theMethod args0 :: below }]
def below0 : List Frame := [.native { method := ⟨0, 0⟩, args := #[] }]
def about1 : State := aboutOver below0
def p0 : Program := .bare "" "" ""
def e0 : Env := launch0.env 0 0 0
theorem w_frames : about1.frames = Frame.invoking theMethod args0 :: below0 := rfl
set_option maxRecDepth 65536 in
theorem w_args : argsFit about1.vm theMethod args0 = true := by decide +kernel
set_option maxRecDepth 65536 in
theorem w_heap : heapFits about1 = true := by decide +kernel
set_option maxRecDepth 65536 in
theorem w_runnable : about1.curStatus? = some .runnable := by decide +kernel
set_option maxRecDepth 65536 in
theorem w_alone : about1.alone = true := by decide +kernel
set_option maxRecDepth 65536 in
theorem w_named : about1.methodNamed? x = some theMethod := by decide +kernel
set_option maxRecDepth 65536 in
theorem w_hears : about1.hears theMethod below0 = true := by decide +kernel
set_option maxRecDepth 65536 in
theorem w_ripe : about1.ripe theMethod args0 below0 = true := by decide +kernel
theorem w_running : about1.status = .running := rfl
set_option maxRecDepth 65536 in
theorem w_room : about1.hasRoom e0.platform room_1 = true :=
  launch0.hasRoom_least _ room_1 (by decide +kernel) (by decide +kernel) (by decide +kernel) (by decide +kernel) (by decide +kernel) (by decide +kernel)
theorem allAtoms_all (ts : List Jvm.Cond) (a : Array Jvm.Value) (st : Jvm.State) : (allAtoms ts).before a st = ts.all (fun c => c.before a st) := by
  induction ts with
  | nil => rfl
  | cons c t ih =>
    show (Jvm.Cond.and c (allAtoms t)).before a st = _
    rw [Jvm.Cond.before_and, ih, List.all_cons]
def words1 : List Jvm.Cond := Jvm.Cond.code x code maxLocals ret :: tables_1
/-- a 'code' word, met by the world's own term for the bytes: nothing is compared byte by byte -/
theorem code_word {y : MethodName} {bytes : ByteArray} {mx : Nat} {rt : Option FieldType} {a : Array Value} {s : State} {m : MethodId} {meth : Method} {c : Code} (h1 : s.methodNamed? y = some m) (h2 : s.vm.method? m = some meth) (h3 : meth.code = some c) (h4 : c.code = bytes)
    (h5 : (c.maxLocals == mx && c.exceptionTable.isEmpty && decide (c.maxStack ≤ mostOperands) && decide (meth.sig.returnType = rt) && !meth.locks && decide (parseMethodDescriptor y.desc = some meth.sig)) = true) : (Jvm.Cond.code y bytes mx rt).before a s = true := by
  simp only [Bool.and_eq_true, beq_iff_eq, Bool.not_eq_true', decide_eq_true_eq] at h5
  obtain ⟨⟨⟨⟨⟨g1, g2⟩, g3⟩, g4⟩, g5⟩, g6⟩ := h5
  simp [Cond.before, Cond.holds, Cond.value, h1, h2, h3, h4, g1, g2, g3, g4, g5, g6]
def isCode : Jvm.Cond → Bool
  | .code _ _ _ _ => true
  | _ => false
theorem all_split {L : List Jvm.Cond} {P : Jvm.Cond → Bool} (h1 : L.all (fun c => isCode c || P c) = true) (h2 : ∀ c ∈ L.filter isCode, P c = true) : L.all P = true := by
  refine List.all_eq_true.mpr fun c hc => ?_
  have h := List.all_eq_true.mp h1 c hc
  rcases Bool.eq_false_or_eq_true (isCode c) with hi | hi
  · exact h2 c (List.mem_filter.mpr ⟨hc, hi⟩)
  · simpa [hi] using h
set_option maxRecDepth 65536 in
theorem w_c0 : (Jvm.Cond.code x code maxLocals ret).before args0 about1 = true := code_word (m := ⟨1, 1⟩) (meth := k1m1) (c := k1c1) (by decide +kernel) rfl rfl rfl (by decide +kernel)
set_option maxRecDepth 65536 in
theorem w_c1 : (Jvm.Cond.code ({ cls := "java/lang/Math", name := "max", desc := "(II)I" } : Jvm.MethodName) jdk_29_method_65_code (2 : Nat) (Option.some Jvm.ClassFile.FieldType.int)).before args0 about1 = true := code_word (m := ⟨2, 1⟩) (meth := k2m1) (c := k2c1) (by decide +kernel) rfl rfl rfl (by decide +kernel)
set_option maxRecDepth 65536 in
theorem w_c2 : (Jvm.Cond.code ({ cls := "com/example/slotwise/slotwise/flex/Packer", name := "giveMinima", desc := "([III[IJI[I)I" } : Jvm.MethodName) prog_81_method_9_code (12 : Nat) (Option.some Jvm.ClassFile.FieldType.int)).before args0 about1 = true := code_word (m := ⟨3, 0⟩) (meth := k3m0) (c := k3c0) (by decide +kernel) rfl rfl rfl (by decide +kernel)
set_option maxRecDepth 65536 in
theorem w_c3 : (Jvm.Cond.code ({ cls := "com/example/slotwise/slotwise/flex/PackerGiveMinimaPinLaw", name := "expect", desc := "(IIJZ)I" } : Jvm.MethodName) method_3_code (7 : Nat) (Option.some Jvm.ClassFile.FieldType.int)).before args0 about1 = true := code_word (m := ⟨1, 2⟩) (meth := k1m2) (c := k1c2) (by decide +kernel) rfl rfl rfl (by decide +kernel)
def codes1 : List Jvm.Cond := [Jvm.Cond.code x code maxLocals ret, Jvm.Cond.code ({ cls := "java/lang/Math", name := "max", desc := "(II)I" } : Jvm.MethodName) jdk_29_method_65_code (2 : Nat) (Option.some Jvm.ClassFile.FieldType.int), Jvm.Cond.code ({ cls := "com/example/slotwise/slotwise/flex/Packer", name := "giveMinima", desc := "([III[IJI[I)I" } : Jvm.MethodName) prog_81_method_9_code (12 : Nat) (Option.some Jvm.ClassFile.FieldType.int), Jvm.Cond.code ({ cls := "com/example/slotwise/slotwise/flex/PackerGiveMinimaPinLaw", name := "expect", desc := "(IIJZ)I" } : Jvm.MethodName) method_3_code (7 : Nat) (Option.some Jvm.ClassFile.FieldType.int)]
set_option maxRecDepth 65536 in
theorem codes_eq : words1.filter isCode = codes1 := rfl
theorem w_codes : ∀ c ∈ words1.filter isCode, c.before args0 about1 = true := by
  rw [codes_eq]
  intro c hc
  simp only [codes1, List.mem_cons, List.not_mem_nil, or_false] at hc
  rcases hc with rfl | rfl | rfl | rfl
  · exact w_c0
  · exact w_c1
  · exact w_c2
  · exact w_c3
set_option maxRecDepth 65536 in
theorem w_t1 : words1.all (fun c => isCode c || c.before args0 about1) = true := by decide +kernel
theorem w_tables : (allAtoms (Jvm.Cond.code x code maxLocals ret :: tables_1)).before args0 about1 = true := by
  rw [allAtoms_all]
  show words1.all (fun c => c.before args0 about1) = true
  refine all_split ?_ w_codes
  rw [w_t1]
set_option maxRecDepth 65536 in
theorem w_case : (Jvm.Cond.and given_1 narrow_1).before args0 about1 = true := by decide +kernel
theorem w_applies : (headSpec (Jvm.Cond.code x code maxLocals ret :: tables_1) room_1).applies x e0.platform about1 = true :=
  (Spec.applies_iff w_frames).mpr ⟨w_running, w_runnable, w_alone, w_named, w_hears, w_ripe, w_room, w_tables⟩
theorem atStart : AtStart classFile x code maxLocals ret World_1 tables_1 room_1 Calls_1 rest_1 Pre_1 launch0 p0 e0 about1 theMethod args0 below0 :=
  ⟨lists_1, trivial, launch0.admits_env _ _ _, launch0.least_env, fairChoices_fair.cas, fairChoices_fair.clock, w_frames, w_args, w_heap, w_applies, trivial, trivial, w_case⟩
end start1
theorem witness_1 : WitnessClaimed_1 := ⟨start1.p0, start1.e0, start1.about1, start1.theMethod, start1.args0, start1.below0, start1.atStart⟩
end Jvm.Pilot.@@N@@
