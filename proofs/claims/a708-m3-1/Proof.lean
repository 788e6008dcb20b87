import JvmDerived
import JvmDerived.Pilot.@@N@@Statement
import JvmDerived.Pilot.@@N@@Code
set_option linter.unusedVariables false
set_option linter.unusedSimpArgs false
namespace Jvm.Pilot.@@N@@
open Jvm Jvm.ClassFile Sem Op Lib Jvm.Free Jvm.Stand Jvm.LawKit Jvm.RoadKit Bundle Jvm.Pilot.@@N@@.Jvm.D
section OwnKit
variable {p : Program} {l : Launch} {e : Env} {R : Room} {s : State} {m : MethodId} {args : Array Value} {below : List Frame} {meth : Method} {c : Code} {T : State} {locs : List Loc} {cells slots : Nat} {Z : State} {a0 : Array Value} {h h' : Heap}
/-- the run from t on comes to the method's end, and there Fin holds -/
def own_Run (p : Program) (e : Env) (below : List Frame) (Fin : Outcome → State → Prop) (t : State) : Prop :=
  ∃ s₂ o, Steps p.tables e below t s₂ ∧ s₂.status = .running ∧ Ended s₂ below o ∧ Fin o s₂
variable {Fin : Outcome → State → Prop}
theorem own_go {t t' : State} (st : ∀ target, Steps p.tables e below t' target → Steps p.tables e below t target) (k : own_Run p e below Fin t') : own_Run p e below Fin t := by
  obtain ⟨s₂, o, h1, h2⟩ := k
  exact ⟨s₂, o, st _ h1, h2⟩
def own_End (s : State) (R : Room) (Q : Option Value → Heap → List Loc → Prop) (o : Outcome) (U : State) : Prop :=
  ∃ v L, o = .returned v ∧ Q v U.heap L ∧ FrameEnd s o U L R.cells R.slots
/-- a body's contract: called with these arguments over the heap h0 it returns, and Q says what is left -/
def own_Met (l : Launch) (Z : State) (y : MethodName) (bytes : ByteArray) (maxL : Nat) (ret : Option FieldType) (rm : Room) (as : Array Value) (h0 : Heap) (Q : Option Value → Heap → List Loc → Prop) : Prop :=
  ∀ ws : List Jvm.Cond, MetFree l y (head1 (Jvm.Cond.code y bytes maxL ret :: ws) rm) (fun a U => a = as ∧ Z.Warmed39 U.vm ∧ U.heap = h0) (fun _ _ _ _ _ => True) (fun _ U o U' => own_End U rm Q o U')
theorem own_enter {y : MethodName} {bytes : ByteArray} {maxL : Nat} {ret : Option FieldType} {rm : Room} {as : Array Value} {h0 : Heap} {Q : Option Value → Heap → List Loc → Prop} {g0 : MethodId → JFrame} (hpl : plainFor y = true) (hg0 : ∀ m, entryFrame m as maxL = g0 m)
    (body : ∀ (p : Program) (e : Env) (s : State) (m : MethodId) (below : List Frame) (meth : Method) (c : Code) (T : State), p.tables.exec = Jvm.exec → c.code = bytes → c.maxLocals = maxL → s.vm.findClass y.cls = some m.cls → meth.name = y.name → Z.Warmed39 s.vm → meth.sig.returnType = ret → meth.locks = false →
      Stand p l e rm s m as below meth c T [] 0 0 → T.heap = h0 → own_Run p e below (own_End s rm Q) (T.setTop (g0 m))) : own_Met l Z y bytes maxL ret rm as h0 Q := by
  intro ws
  refine MetFree.of_bodySF hpl hisR ?_
  intro p e s m args below meth c s₁ Bd hml0 hP hK
  obtain ⟨rfl, hZ, hh⟩ := hP
  rw [hg0]
  exact body p e s m below meth c s₁ Bd.exec Bd.bytes hml0 (findClass_of_methodNamed Bd.named) (name_of_methodNamed Bd.named Bd.method).1 hZ Bd.returns Bd.notSynchronized (Stand.of_body Bd) (by rw [← hh, Bd.state]; rfl)
theorem own_ret (X : Stand p l e R s m args below meth c T locs cells slots) {g : JFrame} {v : Option Value} {Q : Option Value → Heap → List Loc → Prop} (hv : meth.sig.returnType = none → v = none) (hlk : meth.locks = false) (hc : cells ≤ R.cells) (hs : slots ≤ R.slots)
    (st : ∀ fs, (∀ (f : JFrame) (acts : List Action), f.method = m → f.locked = none → f.entered = [] → (doReturn e (T.setTop f) acts v).1 = T.setFrames fs) → Steps p.tables e below (T.setTop g) (T.setFrames fs)) (hq : Q v T.heap locs) : own_Run p e below (own_End s R Q) (T.setTop g) := by
  obtain ⟨fs, hr, hrun, hended, hW, hsame⟩ := X.leave (v := v) hv hlk
  exact ⟨_, _, st fs hr, hrun, hended, _, _, rfl, hq, ⟨_, rfl⟩, hW, hsame.mono hc hs⟩
theorem own_retN (X : Stand p l e R s m args below meth c T locs cells slots) (hx : p.tables.exec = Jvm.exec) {t : FieldType} (hret : meth.sig.returnType = some t) (hlk : meth.locks = false) (ht : t = .boolean ∨ t = .byte ∨ t = .char ∨ t = .short) {pc : Nat} {Ls : Array Slot} {z : Int32} {rest : List Value} (hd : decode c.code pc = .ok (.ireturn, 1)) {Q : Option Value → Heap → List Loc → Prop} (hc : cells ≤ R.cells) (hs : slots ≤ R.slots)
    (hq : Q (some (.int (nar t z))) T.heap locs) : own_Run p e below (own_End s R Q) (T.setTop (mkF m pc Ls (.int z :: rest))) :=
  own_ret X (fun q => by rw [hret] at q; cases q) hlk hc hs (fun fs hr => retN X hx hret ht hd hr) hq
theorem own_retI (X : Stand p l e R s m args below meth c T locs cells slots) (hx : p.tables.exec = Jvm.exec) (hret : meth.sig.returnType = some .int) (hlk : meth.locks = false) {pc : Nat} {Ls : Array Slot} {z : Int32} {rest : List Value} (hd : decode c.code pc = .ok (.ireturn, 1)) {Q : Option Value → Heap → List Loc → Prop} (hc : cells ≤ R.cells) (hs : slots ≤ R.slots)
    (hq : Q (some (.int z)) T.heap locs) : own_Run p e below (own_End s R Q) (T.setTop (mkF m pc Ls (.int z :: rest))) :=
  own_ret X (fun q => by rw [hret] at q; cases q) hlk hc hs (fun fs hr => retOut X hx hret rfl (Or.inl ⟨rfl, Or.inl rfl, z, rfl⟩) hd hr) hq
theorem own_retJ (X : Stand p l e R s m args below meth c T locs cells slots) (hx : p.tables.exec = Jvm.exec) (hret : meth.sig.returnType = some .long) (hlk : meth.locks = false) {pc : Nat} {Ls : Array Slot} {z : Int64} {rest : List Value} (hd : decode c.code pc = .ok (.lreturn, 1)) {Q : Option Value → Heap → List Loc → Prop} (hc : cells ≤ R.cells) (hs : slots ≤ R.slots)
    (hq : Q (some (.long z)) T.heap locs) : own_Run p e below (own_End s R Q) (T.setTop (mkF m pc Ls (.long z :: rest))) :=
  own_ret X (fun q => by rw [hret] at q; cases q) hlk hc hs (fun fs hr => retOut X hx hret rfl (Or.inr (Or.inl ⟨rfl, rfl, z, rfl⟩)) hd hr) hq
theorem own_retA (X : Stand p l e R s m args below meth c T locs cells slots) (hx : p.tables.exec = Jvm.exec) {t : FieldType} (hret : meth.sig.returnType = some t) (hlk : meth.locks = false) (ht : t.isReference = true) {pc : Nat} {Ls : Array Slot} {w : Value} (hw : w.isRef = true) {rest : List Value} (hn : narrow t w = w) (hd : decode c.code pc = .ok (.areturn, 1)) {Q : Option Value → Heap → List Loc → Prop} (hc : cells ≤ R.cells) (hs : slots ≤ R.slots)
    (hq : Q (some w) T.heap locs) : own_Run p e below (own_End s R Q) (T.setTop (mkF m pc Ls (w :: rest))) :=
  own_ret X (fun q => by rw [hret] at q; cases q) hlk hc hs (fun fs hr => retOut X hx hret hn (Or.inr (Or.inr (Or.inr (Or.inr ⟨rfl, ht, hw⟩)))) hd hr) hq
theorem own_retV (X : Stand p l e R s m args below meth c T locs cells slots) (hx : p.tables.exec = Jvm.exec) (hret : meth.sig.returnType = none) (hlk : meth.locks = false) {pc : Nat} {Ls : Array Slot} (hd : decode c.code pc = .ok (.return_, 1)) {Q : Option Value → Heap → List Loc → Prop} (hc : cells ≤ R.cells) (hs : slots ≤ R.slots)
    (hq : Q none T.heap locs) : own_Run p e below (own_End s R Q) (T.setTop (mkF m pc Ls [])) :=
  own_ret X (fun _ => rfl) hlk hc hs (fun fs hr => X.returnOut hx hret hd hr) hq
/-! calls -/
theorem own_callS (X : Stand p l e R s m args below meth c T locs cells slots) (hx : p.tables.exec = Jvm.exec) (hZ : Z.Warmed39 s.vm) (eT : T.heap = h) {own : String} (hown : s.vm.findClass own = some m.cls) {index : Nat} (y : MethodName) {bytes : ByteArray} {maxL : Nat} {ret : Option FieldType} {rm : Room} {Q : Option Value → Heap → List Loc → Prop}
    (w1 : (Jvm.Cond.methodLink own index y).before a0 Z = true) (w2 : (Jvm.Cond.static y).before a0 Z = true) (w3 : (Jvm.Cond.initialized y.cls).before a0 Z = true) (w4 : (Jvm.Cond.code y bytes maxL ret).before a0 Z = true) (hy : y.cls ≠ "java/lang/invoke/MethodHandle" ∧ y.cls ≠ "java/lang/invoke/VarHandle")
    (argsL rest : List Value) (hM : own_Met l Z y bytes maxL ret rm argsL.toArray h Q) (hf : rm.frames + 1 ≤ R.frames) (W : Nat) (hl : W + (maxL + 11) + rm.locals ≤ R.locals) (hc : cells + rm.cells ≤ R.cells) (hs : slots + rm.slots ≤ R.slots)
    {g : JFrame} (hg : g.method = m) (hsize : g.locals.size = c.maxLocals) (hlen : ∀ sig, parseMethodDescriptor y.desc = some sig → argsL.length = sig.parameters.length) (hstack : g.stack = argsL.reverse ++ rest) (hW : 2 * g.monitorRoom + (rest.map fun v => v.category).sum ≤ W) (hd : decode c.code g.pc = .ok (.invokestatic index, 3))
    (k : ∀ (v : Option Value) (h' : Heap) (L : List Loc) (T' : State), Q v h' L → Stand p l e R s m args below meth c T' (locs ++ L) (cells + rm.cells) (slots + rm.slots) → T'.heap = h' → own_Run p e below Fin (T'.setTop { g with pc := g.pc + 3, stack := v.toList ++ rest })) : own_Run p e below Fin (T.setTop g) := by
  obtain ⟨v, _, ⟨T', L', k', n'⟩, -, X', ⟨Lc, hQ, l1, y1, z1⟩, st⟩ := Jvm.LawKit.callS X hx (y := y) hown (mvT hZ w1) (mvT hZ w2) (mvT hZ w3) (mvT hZ w4) hy (backOf (W := W) (hM []) hZ w4 w3 hf hl) hg hsize (argsL := argsL) (rest := rest) hlen hstack hW hd (fun _ _ => ⟨rfl, eT, hc, hs⟩)
  dsimp only [Pt.U, Pt.locs, Pt.cells, Pt.slots] at X' l1 y1 z1 st hQ
  subst l1 y1 z1
  exact own_go st (k v T'.heap Lc T' hQ X' rfl)
theorem own_callN (X : Stand p l e R s m args below meth c T locs cells slots) (hx : p.tables.exec = Jvm.exec) (hZ : Z.Warmed39 s.vm) (eT : T.heap = h) {own : String} (hown : s.vm.findClass own = some m.cls) {index : Nat} (y : MethodName) (hy1 : y.name = "<init>") {bytes : ByteArray} {maxL : Nat} {rm : Room} {Q : Option Value → Heap → List Loc → Prop}
    (w1 : (Jvm.Cond.methodLink own index y).before a0 Z = true) (w2 : (Jvm.Cond.instanceMethod y).before a0 Z = true) (w3 : (Jvm.Cond.initialized y.cls).before a0 Z = true) (w4 : (Jvm.Cond.code y bytes maxL none).before a0 Z = true) (hy : y.cls ≠ "java/lang/invoke/MethodHandle" ∧ y.cls ≠ "java/lang/invoke/VarHandle")
    (a : Addr) (argsL rest : List Value) (hM : own_Met l Z y bytes maxL none rm (.ref a :: argsL).toArray h Q) (hf : rm.frames + 1 ≤ R.frames) (W : Nat) (hl : W + (maxL + 11) + rm.locals ≤ R.locals) (hc : cells + rm.cells ≤ R.cells) (hs : slots + rm.slots ≤ R.slots)
    {g : JFrame} (hg : g.method = m) (hsize : g.locals.size = c.maxLocals) (hlen : ∀ sig, parseMethodDescriptor y.desc = some sig → argsL.length = sig.parameters.length) (hstack : g.stack = argsL.reverse ++ .ref a :: rest) (hW : 2 * g.monitorRoom + (rest.map fun v => v.category).sum ≤ W) (hd : decode c.code g.pc = .ok (.invokespecial index, 3))
    (k : ∀ (v : Option Value) (h' : Heap) (L : List Loc) (T' : State), Q v h' L → Stand p l e R s m args below meth c T' (locs ++ L) (cells + rm.cells) (slots + rm.slots) → T'.heap = h' → own_Run p e below Fin (T'.setTop { g with pc := g.pc + 3, stack := v.toList ++ rest })) : own_Run p e below Fin (T.setTop g) := by
  obtain ⟨v, _, ⟨T', L', k', n'⟩, -, X', ⟨Lc, hQ, l1, y1, z1⟩, st⟩ := X.specialBack hx (y := y) hy1 hown (mvT hZ w1) (mvT hZ w2) (mvT hZ w4) hy (backOf (W := W) (hM []) hZ w4 w3 hf hl) hg hsize (Steps.refl _) (a := a) (argsL := argsL) (rest := rest) hlen hstack hW hd (fun _ _ => ⟨rfl, eT, hc, hs⟩)
  dsimp only [Pt.U, Pt.locs, Pt.cells, Pt.slots] at X' l1 y1 z1 st hQ
  subst l1 y1 z1
  exact own_go (fun _ q => st.trans q) (k v T'.heap Lc T' hQ X' rfl)
theorem own_callV (X : Stand p l e R s m args below meth c T locs cells slots) (hx : p.tables.exec = Jvm.exec) (hZ : Z.Warmed39 s.vm) (eT : T.heap = h) {own : String} (hown : s.vm.findClass own = some m.cls) {index : Nat} (y : MethodName) {C : String} {bytes : ByteArray} {maxL : Nat} {ret : Option FieldType} {rm : Room} {Q : Option Value → Heap → List Loc → Prop}
    (w1 : (Jvm.Cond.methodLink own index y).before a0 Z = true) (w5 : (Jvm.Cond.declares y).before a0 Z = true) (w6 : (Jvm.Cond.selects C y y).before a0 Z = true) (w2 : (Jvm.Cond.instanceMethod y).before a0 Z = true) (w3 : (Jvm.Cond.initialized y.cls).before a0 Z = true) (w4 : (Jvm.Cond.code y bytes maxL ret).before a0 Z = true) (hy : y.cls ≠ "java/lang/invoke/MethodHandle" ∧ y.cls ≠ "java/lang/invoke/VarHandle")
    (a : Addr) (E : Exa Z h a C) (argsL rest : List Value) (hM : own_Met l Z y bytes maxL ret rm (.ref a :: argsL).toArray h Q) (hf : rm.frames + 1 ≤ R.frames) (W : Nat) (hl : W + (maxL + 11) + rm.locals ≤ R.locals) (hc : cells + rm.cells ≤ R.cells) (hs : slots + rm.slots ≤ R.slots)
    {g : JFrame} (hg : g.method = m) (hsize : g.locals.size = c.maxLocals) (hlen : ∀ sig, parseMethodDescriptor y.desc = some sig → argsL.length = sig.parameters.length) (hstack : g.stack = argsL.reverse ++ .ref a :: rest) (hW : 2 * g.monitorRoom + (rest.map fun v => v.category).sum ≤ W) (hd : decode c.code g.pc = .ok (.invokevirtual index, 3))
    (k : ∀ (v : Option Value) (h' : Heap) (L : List Loc) (T' : State), Q v h' L → Stand p l e R s m args below meth c T' (locs ++ L) (cells + rm.cells) (slots + rm.slots) → T'.heap = h' → own_Run p e below Fin (T'.setTop { g with pc := g.pc + 3, stack := v.toList ++ rest })) : own_Run p e below Fin (T.setTop g) := by
  obtain ⟨cq, kq, qa, qb, qc⟩ := isOf hZ eT E
  obtain ⟨v, _, ⟨T', L', k', n'⟩, -, X', ⟨Lc, hQ, l1, y1, z1⟩, st⟩ := X.virtualBack hx (y := y) (z := y) hown (mvT hZ w1) (mvT hZ w5) (notFace_of_selects (args := #[]) (mvT hZ w6)) (mvT hZ w6) (mvT hZ w2) hy (backOf (W := W) (hM []) hZ w4 w3 hf hl) qa qc hg hsize (Steps.refl _) (argsL := argsL) (rest := rest) hlen hstack hW hd (fun _ _ => ⟨rfl, eT, hc, hs⟩)
  dsimp only [Pt.U, Pt.locs, Pt.cells, Pt.slots] at X' l1 y1 z1 st hQ
  subst l1 y1 z1
  exact own_go (fun _ q => st.trans q) (k v T'.heap Lc T' hQ X' rfl)
/-! fields -/
theorem own_getF (X : Stand p l e R s m args below meth c T locs cells slots) (hx : p.tables.exec = Jvm.exec) (hZ : Z.Warmed39 s.vm) (eT : T.heap = h) {own O n d : String} (hown : s.vm.findClass own = some m.cls) {index : Nat} (w : (Jvm.Cond.fieldLink own index O n d).before a0 Z = true)
    {a : Addr} {v : Value} (F : Fld Z h a O n d v) {g : JFrame} (hg : g.method = m) {rest : List Value} (hs : g.stack = .ref a :: rest) (hd : decode c.code g.pc = .ok (.getfield index, 3))
    (k : ∀ T' : State, Stand p l e R s m args below meth c T' locs cells slots → T'.heap = h → own_Run p e below Fin (T'.setTop { g with pc := g.pc + 3, stack := v :: rest })) : own_Run p e below Fin (T.setTop g) := by
  obtain ⟨T', X', e', st⟩ := getF X hx hZ hown (host := "") (Or.inl w) Via.refl eT F hg hs hd
  exact own_go st (k T' X' e')
theorem own_putF (X : Stand p l e R s m args below meth c T locs cells slots) (hx : p.tables.exec = Jvm.exec) (hZ : Z.Warmed39 s.vm) (eT : T.heap = h) {own O n d C : String} (hown : s.vm.findClass own = some m.cls) {index kk : Nat} (ty : FieldType) (w : (Jvm.Cond.fieldLink own index O n d).before a0 Z = true)
    {a : Addr} {v v' old : Value} (F : Fld Z h a O n d old) (E : Exa Z h a C) (L : (Jvm.Cond.lays C O n d).before a0 Z = true ∨ ((Jvm.Cond.laysFinal C O n d).before a0 Z = true ∧ own = O ∧ meth.name = "<init>")) (wi : (Jvm.Cond.instantiable C kk).before a0 Z = true)
    (hty : parseFieldDescriptor d = some ty) (hn : narrow ty v = v') (hf : fits ty v' = true) {g : JFrame} (hg : g.method = m) {rest : List Value} (hs : g.stack = v :: .ref a :: rest) (hd : decode c.code g.pc = .ok (.putfield index, 3))
    (k : ∀ (T' : State) (h' : Heap), Stand p l e R s m args below meth c T' (locs ++ [⟨a, Jvm.RoadKit.slotOf Z O n d⟩]) cells slots → T'.heap = h' → Wr h h' a (Jvm.RoadKit.slotOf Z O n d) v' → own_Run p e below Fin (T'.setTop { g with pc := g.pc + 3, stack := rest })) : own_Run p e below Fin (T.setTop g) := by
  obtain ⟨T', h', X', e', W, st⟩ := putFN X hx hZ hown w Via.refl eT F E L wi hty hn hf hg hs hd
  exact own_go st (k T' h' X' e' W)
/-! fresh objects -/
theorem own_newO (X : Stand p l e R s m args below meth c T locs cells slots) (hx : p.tables.exec = Jvm.exec) (hZ : Z.Warmed39 s.vm) (eT : T.heap = h) {own C : String} {index n : Nat} (hown : s.vm.findClass own = some m.cls) (w : (Jvm.Cond.classLink own index C).before a0 Z = true) (wi : (Jvm.Cond.instantiable C n).before a0 Z = true) (wz : (Jvm.Cond.initialized C).before a0 Z = true)
    {g : JFrame} (hg : g.method = m) (hd : decode c.code g.pc = .ok (.new index, 3)) (hc : cells + 1 ≤ R.cells) (hl : slots + n ≤ R.slots)
    (k : ∀ (b : Addr) (T' : State) (h' : Heap), b = h.size → Stand p l e R s m args below meth c T' locs (cells + 1) (slots + n) → T'.heap = h' → Ext h h' → Exa Z h' b C → (∀ {O nm d : String} {ty : FieldType}, Laid Z a0 C O nm d → parseFieldDescriptor d = some ty → Fld Z h' b O nm d (defaultValue ty)) →
      own_Run p e below Fin (T'.setTop { g with pc := g.pc + 3, stack := .ref b :: g.stack })) : own_Run p e below Fin (T.setTop g) := by
  obtain ⟨T', h', X', e', E, A, D, -, st⟩ := newO X hx hZ hown w wi wz eT hg hd hc hl
  exact own_go st (k h.size T' h' rfl X' e' E A D)
/-! arrays: n places, place k holds f k -/
def own_Arr (Z : State) (h : Heap) (a : Addr) (ty : FieldType) (n : Nat) (f : Nat → Value) : Prop := ∃ cl : Cell, Arr Z h a cl ty ∧ cl.slots.size = n ∧ ∀ k, k < n → cl.slots[k]? = some (f k)
theorem own_Arr.lt {a : Addr} {ty : FieldType} {n : Nat} {f : Nat → Value} (F : own_Arr Z h a ty n f) : a < h.size := by obtain ⟨c, A, -⟩ := F; exact A.lt
theorem own_Arr.ext {a : Addr} {ty : FieldType} {n : Nat} {f : Nat → Value} (F : own_Arr Z h a ty n f) (E : Ext h h') : own_Arr Z h' a ty n f := by obtain ⟨c, A, r⟩ := F; exact ⟨c, A.ext E, r⟩
theorem own_Arr.other {a b : Addr} {sl : Nat} {v : Value} {ty : FieldType} {n : Nat} {f : Nat → Value} (F : own_Arr Z h b ty n f) (W : Wr h h' a sl v) (q : b ≠ a) : own_Arr Z h' b ty n f := by obtain ⟨c, A, r⟩ := F; exact ⟨c, A.other W q, r⟩
theorem own_Arr.keep {a : Addr} {ws : List Addr} {ty : FieldType} {n : Nat} {f : Nat → Value} (F : own_Arr Z h a ty n f) (K : Keep h h' ws) (q : a ∉ ws) : own_Arr Z h' a ty n f := by obtain ⟨c, A, r⟩ := F; exact ⟨c, ⟨K.2.1 a c A.1 q, A.2⟩, r⟩
theorem own_Arr.set {a : Addr} {j : Nat} {v : Value} {ty : FieldType} {n : Nat} {f : Nat → Value} (F : own_Arr Z h a ty n f) (W : Wr h h' a j v) (hj : j < n) : own_Arr Z h' a ty n (fun k => if k = j then v else f k) := by
  obtain ⟨cl, A, r1, r2⟩ := F
  refine ⟨_, A.same W, by rw [sz_set]; exact r1, fun k hk => ?_⟩
  by_cases q : k = j
  · subst q; simp [Cell.setSlot, r1, hj]
  · show (cl.setSlot j v).slots[k]? = some (if k = j then v else f k)
    rw [if_neg q]; exact (Array.getElem?_setIfInBounds_ne (Ne.symm q)).trans (r2 k hk)
theorem own_Arr.congr {a : Addr} {ty : FieldType} {n : Nat} {f f' : Nat → Value} (F : own_Arr Z h a ty n f) (q : ∀ k, k < n → f k = f' k) : own_Arr Z h a ty n f' := by
  obtain ⟨cl, A, r1, r2⟩ := F
  exact ⟨cl, A, r1, fun k hk => by rw [← q k hk]; exact r2 k hk⟩
theorem own_in {cl : Cell} {n : Nat} {j : Int32} (r : cl.slots.size = n) (hj : 0 ≤ j.toInt ∧ j.toInt < n) : ¬ (j < 0 ∨ cl.slots.size ≤ j.toNatClampNeg) := by
  have e0 : (0 : Int32).toInt = 0 := rfl
  simp only [Int32.lt_iff_toInt_lt, Int32.toNatClampNeg, r, e0]; omega
theorem own_idx {n : Nat} {j : Int32} (hj : 0 ≤ j.toInt ∧ j.toInt < n) : j.toNatClampNeg < n := by
  simp only [Int32.toNatClampNeg]; omega
theorem own_newP (X : Stand p l e R s m args below meth c T locs cells slots) (hx : p.tables.exec = Jvm.exec) (hZ : Z.Warmed39 s.vm) (eT : T.heap = h) {aty : ArrayType} (w : (Jvm.Cond.arrayClass (newarray.typeOf aty)).before a0 Z = true) {g : JFrame} (hg : g.method = m) (hd : decode c.code g.pc = .ok (.newarray aty, 2)) {z : Int32} {rest : List Value} (hs : g.stack = .int z :: rest)
    (n cap : Nat) (hn : z.toInt = n) (hcap : n ≤ cap) (hb : cap * 8 ≤ 536870912) (hc : cells + 1 ≤ R.cells) (hl : slots + cap ≤ R.slots) (ad : String) (had : "[" ++ (newarray.typeOf aty).toString = ad)
    (k : ∀ (b : Addr) (T' : State) (h' : Heap), b = h.size → Stand p l e R s m args below meth c T' locs (cells + 1) (slots + cap) → T'.heap = h' → Ext h h' → own_Arr Z h' b (newarray.typeOf aty) n (fun _ => defaultValue (newarray.typeOf aty)) → Exa Z h' b ad →
      own_Run p e below Fin (T'.setTop { g with pc := g.pc + 2, stack := .ref b :: rest })) : own_Run p e below Fin (T.setTop g) := by
  have hz : z.toNatClampNeg = n := by simp only [Int32.toNatClampNeg]; omega
  have e0 : (0 : Int32).toInt = 0 := rfl
  have hz0 : ¬ z < 0 := by rw [Int32.lt_iff_toInt_lt, e0]; omega
  obtain ⟨T', h', cA, X', e', E, A, Ex, st⟩ := newPE X hx hZ w eT hg hd hs (n := z) hz0 (cap := cap) (by omega) hb hc hl had
  exact own_go st (k h.size T' h' rfl X' e' E ⟨_, A, by rw [sz_new]; exact hz, fun i hi => by simp [newA, hz, hi]⟩ Ex)
theorem own_iastore (X : Stand p l e R s m args below meth c T locs cells slots) (hx : p.tables.exec = Jvm.exec) (hZ : Z.Warmed39 s.vm) (eT : T.heap = h) {a : Addr} {n : Nat} {f : Nat → Value} (A : own_Arr Z h a .int n f) {j x : Int32} (hj : 0 ≤ j.toInt ∧ j.toInt < n) {g : JFrame} (hg : g.method = m) {rest : List Value} (hs : g.stack = .int x :: .int j :: .ref a :: rest) (hd : decode c.code g.pc = .ok (.iastore, 1))
    (k : ∀ (T' : State) (h' : Heap), Stand p l e R s m args below meth c T' (locs ++ [⟨a, j.toNatClampNeg⟩]) cells slots → T'.heap = h' → Wr h h' a j.toNatClampNeg (.int x) → own_Arr Z h' a .int n (fun i => if i = j.toNatClampNeg then .int x else f i) → own_Run p e below Fin (T'.setTop { g with pc := g.pc + 1, stack := rest })) : own_Run p e below Fin (T.setTop g) := by
  obtain ⟨cl, A1, r1, r2⟩ := A
  obtain ⟨T', h', X', e', W, st⟩ := stI X hx hZ eT A1 (own_in r1 hj) hg hs hd
  exact own_go st (k T' h' X' e' W (own_Arr.set ⟨cl, A1, r1, r2⟩ W (own_idx hj)))
theorem own_bastore (X : Stand p l e R s m args below meth c T locs cells slots) (hx : p.tables.exec = Jvm.exec) (hZ : Z.Warmed39 s.vm) (eT : T.heap = h) {a : Addr} {n : Nat} {f : Nat → Value} (A : own_Arr Z h a .byte n f) {j x : Int32} (hj : 0 ≤ j.toInt ∧ j.toInt < n) {g : JFrame} (hg : g.method = m) {rest : List Value} (hs : g.stack = .int x :: .int j :: .ref a :: rest) (hd : decode c.code g.pc = .ok (.bastore, 1))
    (k : ∀ (T' : State) (h' : Heap), Stand p l e R s m args below meth c T' (locs ++ [⟨a, j.toNatClampNeg⟩]) cells slots → T'.heap = h' → Wr h h' a j.toNatClampNeg (.int (nar .byte x)) → own_Arr Z h' a .byte n (fun i => if i = j.toNatClampNeg then .int (nar .byte x) else f i) → own_Run p e below Fin (T'.setTop { g with pc := g.pc + 1, stack := rest })) : own_Run p e below Fin (T.setTop g) := by
  obtain ⟨cl, A1, r1, r2⟩ := A
  obtain ⟨T', h', X', e', W, st⟩ := stB X hx hZ eT A1 (own_in r1 hj) hg hs hd
  exact own_go st (k T' h' X' e' W (own_Arr.set ⟨cl, A1, r1, r2⟩ W (own_idx hj)))
theorem own_iaload (X : Stand p l e R s m args below meth c T locs cells slots) (hx : p.tables.exec = Jvm.exec) (hZ : Z.Warmed39 s.vm) (eT : T.heap = h) {a : Addr} {n : Nat} {f : Nat → Value} (A : own_Arr Z h a .int n f) {j : Int32} (v : Int32) (hj : 0 ≤ j.toInt ∧ j.toInt < n) (hv : f j.toNatClampNeg = .int v) {g : JFrame} (hg : g.method = m) {rest : List Value} (hs : g.stack = .int j :: .ref a :: rest) (hd : decode c.code g.pc = .ok (.iaload, 1))
    (k : own_Run p e below Fin (T.setTop { g with pc := g.pc + 1, stack := .int v :: rest })) : own_Run p e below Fin (T.setTop g) := by
  obtain ⟨cl, A1, r1, r2⟩ := A
  exact own_go (X.iaload hx (by rw [eT]; exact A1.1) (State.isArrayOf_alike hZ.alike A1.2.1) A1.2.2 (own_in r1 hj) ((r2 _ (own_idx hj)).trans (by rw [hv])) hg hs hd) k
theorem own_baload (X : Stand p l e R s m args below meth c T locs cells slots) (hx : p.tables.exec = Jvm.exec) (hZ : Z.Warmed39 s.vm) (eT : T.heap = h) {a : Addr} {n : Nat} {f : Nat → Value} (A : own_Arr Z h a .byte n f) {j : Int32} (v : Int32) (hj : 0 ≤ j.toInt ∧ j.toInt < n) (hv : f j.toNatClampNeg = .int v) {g : JFrame} (hg : g.method = m) {rest : List Value} (hs : g.stack = .int j :: .ref a :: rest) (hd : decode c.code g.pc = .ok (.baload, 1))
    (k : own_Run p e below Fin (T.setTop { g with pc := g.pc + 1, stack := .int v :: rest })) : own_Run p e below Fin (T.setTop g) := by
  obtain ⟨cl, A1, r1, r2⟩ := A
  exact own_go (X.baloadBytes hx (by rw [eT]; exact A1.1) (State.isArrayOf_alike hZ.alike A1.2.1) A1.2.2 (own_in r1 hj) ((r2 _ (own_idx hj)).trans (by rw [hv])) hg hs hd) k
theorem own_alen (X : Stand p l e R s m args below meth c T locs cells slots) (hx : p.tables.exec = Jvm.exec) (hZ : Z.Warmed39 s.vm) (eT : T.heap = h) {a : Addr} {ty : FieldType} {n : Nat} {f : Nat → Value} (A : own_Arr Z h a ty n f) (z : Int32) (hz : z.toInt = n) {g : JFrame} (hg : g.method = m) {rest : List Value} (hs : g.stack = .ref a :: rest) (hd : decode c.code g.pc = .ok (.arraylength, 1))
    (k : own_Run p e below Fin (T.setTop { g with pc := g.pc + 1, stack := .int z :: rest })) : own_Run p e below Fin (T.setTop g) := by
  obtain ⟨cl, A1, r1, r2⟩ := A
  have e0 : (0 : Int32).toInt = 0 := rfl
  have hz0 : ¬ z < 0 := by rw [Int32.lt_iff_toInt_lt, e0]; omega
  have q : cl.slots.size.toInt32 = z := len_of (by rw [r1]; simp only [Int32.toNatClampNeg]; omega) hz0
  exact own_go (X.arraylength hx (by rw [eT]; exact A1.1) (State.isArrayOf_alike hZ.alike A1.2.1) hg hs hd) (by rw [q]; exact k)
theorem own_clone (X : Stand p l e R s m args below meth c T locs cells slots) (hx : p.tables.exec = Jvm.exec) (hZ : Z.Warmed39 s.vm) (eT : T.heap = h) {own ad : String} {index : Nat} (hown : s.vm.findClass own = some m.cls)
    (w1 : (Jvm.Cond.methodLink own index ⟨ad, "clone", "()Ljava/lang/Object;"⟩).before a0 Z = true) (w2 : (Jvm.Cond.sameMethod ad "java/lang/Object" "clone" "()Ljava/lang/Object;").before a0 Z = true) (w3 : (Jvm.Cond.native ⟨"java/lang/Object", "clone", "()Ljava/lang/Object;"⟩).before a0 Z = true)
    (w4 : (Jvm.Cond.instanceMethod ⟨"java/lang/Object", "clone", "()Ljava/lang/Object;"⟩).before a0 Z = true) (w5 : (Jvm.Cond.selects ad ⟨ad, "clone", "()Ljava/lang/Object;"⟩ ⟨"java/lang/Object", "clone", "()Ljava/lang/Object;"⟩).before a0 Z = true) (w6 : (Jvm.Cond.castable ad "java/lang/Cloneable").before a0 Z = true)
    {a : Addr} {ty : FieldType} {n : Nat} {f : Nat → Value} (A : own_Arr Z h a ty n f) (E : Exa Z h a ad) (hfit : ∀ i, i < n → fits ty (f i) = true) {g : JFrame} (hg : g.method = m) (hsize : g.locals.size = c.maxLocals) {rest : List Value} (hs : g.stack = .ref a :: rest) (hd : decode c.code g.pc = .ok (.invokevirtual index, 3))
    (hf : 1 ≤ R.frames) (W cap : Nat) (hW : 2 * g.monitorRoom + (rest.map fun v => v.category).sum ≤ W) (hl : W + 14 ≤ R.locals) (hcap : n ≤ cap) (hc : cells + 1 ≤ R.cells) (hsl : slots + cap ≤ R.slots)
    (k : ∀ (b : Addr) (T' : State) (h' : Heap), b = h.size → Stand p l e R s m args below meth c T' locs (cells + 1) (slots + cap) → T'.heap = h' → Ext h h' → own_Arr Z h' b ty n f → Exa Z h' b ad → own_Run p e below Fin (T'.setTop { g with pc := g.pc + 3, stack := .ref b :: rest })) : own_Run p e below Fin (T.setTop g) := by
  obtain ⟨cl, A1, r1, r2⟩ := A
  have FC : FitC Z cl := fitC_of A1 fun i hi v hv => by
    rw [r2 i (by omega)] at hv; cases hv; exact hfit i (by omega)
  obtain ⟨T', h', X', e', ex, A', E', st⟩ := cloneA X hx hZ hown w1 w2 w3 w4 w5 w6 eT A1 E FC hg hsize hs hd hf hW hl (by omega) hc hsl
  exact own_go st (k h.size T' h' rfl X' e' ex ⟨cloneOf cl, A', r1, r2⟩ E')
theorem own_cast (X : Stand p l e R s m args below meth c T locs cells slots) (hx : p.tables.exec = Jvm.exec) (hZ : Z.Warmed39 s.vm) (eT : T.heap = h) {own K C : String} {index : Nat} (hown : s.vm.findClass own = some m.cls) (w : (Jvm.Cond.classLink own index K).before a0 Z = true) {a : Addr} (E : Exa Z h a C) (w2 : (Jvm.Cond.castable C K).before a0 Z = true)
    {g : JFrame} (hg : g.method = m) {rest : List Value} (hs : g.stack = .ref a :: rest) (hd : decode c.code g.pc = .ok (.checkcast index, 3))
    (k : ∀ T' : State, Stand p l e R s m args below meth c T' locs cells slots → T'.heap = h → own_Run p e below Fin (T'.setTop { g with pc := g.pc + 3 })) : own_Run p e below Fin (T.setTop g) := by
  obtain ⟨T', X', e', st⟩ := castY X hx hZ hown w eT (Ins.of_exa E w2) hg hs hd
  exact own_go st (k T' X' e')
/-! constants -/
theorem own_ldc (X : Stand p l e R s m args below meth c T locs cells slots) (hx : p.tables.exec = Jvm.exec) (hZ : Z.Warmed39 s.vm) {own : String} {index : Nat} {v : Int32} (hown : s.vm.findClass own = some m.cls) (w : (Jvm.Cond.constant own index v).before a0 Z = true) {g : JFrame} (hg : g.method = m) (hd : decode c.code g.pc = .ok (.ldc index, 2))
    (k : own_Run p e below Fin (T.setTop { g with pc := g.pc + 2, stack := .int v :: g.stack })) : own_Run p e below Fin (T.setTop g) := own_go (X.ldcInt hx hown (mvT hZ w) hg hd) k
theorem own_ldc2 (X : Stand p l e R s m args below meth c T locs cells slots) (hx : p.tables.exec = Jvm.exec) (hZ : Z.Warmed39 s.vm) {own : String} {index : Nat} {v : Int64} (hown : s.vm.findClass own = some m.cls) (w : (Jvm.Cond.constantLong own index v).before a0 Z = true) {g : JFrame} (hg : g.method = m) (hd : decode c.code g.pc = .ok (.ldc2_w index, 3))
    (k : own_Run p e below Fin (T.setTop { g with pc := g.pc + 3, stack := .long v :: g.stack })) : own_Run p e below Fin (T.setTop g) := own_go (X.ldc2Long hx hown (mvT hZ w) hg hd) k
theorem own_inj {x y : Int32} (q : x.toInt = y.toInt) : x = y := Int32.toInt_inj.mp q
theorem own_injL {x y : Int64} (q : x.toInt = y.toInt) : x = y := Int64.toInt_inj.mp q
end OwnKit
def own_upto (k : Nat) : Nat → Value := fun j => if j < k then .int (Int32.ofInt j) else .int (0 : Int32)
theorem own_oi (k : Nat) (h : k < 2147483648) : (Int32.ofInt (k : Int)).toInt = k := by rw [Int32.toInt_ofInt]; exact Int.bmod_eq_of_le (by have hs : Int32.size = 4294967296 := rfl; omega) (by have hs : Int32.size = 4294967296 := rfl; omega)
theorem own_next (k : Nat) : Int32.ofInt (k : Int) + (1 : Int32) = Int32.ofInt ((k + 1 : Nat) : Int) := by
  rw [show (1 : Int32) = Int32.ofInt 1 from rfl, ← Int32.ofInt_add]; rfl
theorem own_clamp (i : Int32) (h : 0 ≤ i.toInt) : Int32.ofInt ((i.toNatClampNeg : Nat) : Int) = i := by
  have e : ((i.toNatClampNeg : Nat) : Int) = i.toInt := by simp only [Int32.toNatClampNeg]; omega
  rw [e]; exact Int32.ofInt_toInt i
theorem own_store (k j : Nat) (h : k < 2147483648) : (fun i => if i = (Int32.ofInt (k : Int)).toNatClampNeg then Value.int (Int32.ofInt (k : Int)) else own_upto k i) j = own_upto (k + 1) j := by
  have e : (Int32.ofInt (k : Int)).toNatClampNeg = k := by have := own_oi k h; simp only [Int32.toNatClampNeg]; omega
  show (if j = (Int32.ofInt (k : Int)).toNatClampNeg then Value.int (Int32.ofInt (k : Int)) else own_upto k j) = own_upto (k + 1) j
  rw [e]
  unfold own_upto
  by_cases q : j = k
  · subst q; rw [if_pos rfl, if_pos (by omega)]
  · rw [if_neg q]
    by_cases r : j < k
    · rw [if_pos r, if_pos (by omega)]
    · rw [if_neg r, if_neg (by omega)]
theorem own_full (n k j : Nat) (h : n = k) (hj : j < n) : own_upto k j = .int (Int32.ofInt j) := by unfold own_upto; rw [if_pos (by omega)]
theorem d0_0 : decode prog_71_method_16_code 0 = .ok (.iload_n 0, 1) := by decide +kernel
theorem d0_1 : decode prog_71_method_16_code 1 = .ok (.newarray .int, 2) := by decide +kernel
theorem d0_3 : decode prog_71_method_16_code 3 = .ok (.astore_n 1, 1) := by decide +kernel
theorem d0_4 : decode prog_71_method_16_code 4 = .ok (.iconst 0, 1) := by decide +kernel
theorem d0_5 : decode prog_71_method_16_code 5 = .ok (.istore_n 2, 1) := by decide +kernel
theorem d0_6 : decode prog_71_method_16_code 6 = .ok (.iload_n 2, 1) := by decide +kernel
theorem d0_7 : decode prog_71_method_16_code 7 = .ok (.iload_n 0, 1) := by decide +kernel
theorem d0_8 : decode prog_71_method_16_code 8 = .ok (.if_icmp .ge 13, 3) := by decide +kernel
theorem d0_11 : decode prog_71_method_16_code 11 = .ok (.aload_n 1, 1) := by decide +kernel
theorem d0_12 : decode prog_71_method_16_code 12 = .ok (.iload_n 2, 1) := by decide +kernel
theorem d0_13 : decode prog_71_method_16_code 13 = .ok (.iload_n 2, 1) := by decide +kernel
theorem d0_14 : decode prog_71_method_16_code 14 = .ok (.iastore, 1) := by decide +kernel
theorem d0_15 : decode prog_71_method_16_code 15 = .ok (.iinc 2 1, 3) := by decide +kernel
theorem d0_18 : decode prog_71_method_16_code 18 = .ok (.goto (-12), 3) := by decide +kernel
theorem d0_21 : decode prog_71_method_16_code 21 = .ok (.aload_n 1, 1) := by decide +kernel
theorem d0_22 : decode prog_71_method_16_code 22 = .ok (.areturn, 1) := by decide +kernel
abbrev Q_listed (Z : State) (u : Int32) (n : Nat) (n0 : Nat) (h0 : Heap) : Option Value → Heap → List Loc → Prop := fun v h L => ∃ b : Addr, v = some (.ref b) ∧ Fr n0 L ∧ n0 ≤ b ∧ Keep h0 h [] ∧ own_Arr Z h b .int n (fun j => .int (Int32.ofInt j))
set_option maxRecDepth 65536 in
set_option maxHeartbeats 40000000 in
theorem rm_listed (l : Launch) (Z : State) (a0 : Array Value) (hw : ∀ d ∈ tables_1, d.before a0 Z = true) (u : Int32) (n : Nat) (n0 : Nat) (h0 : Heap) (Z0 : n0 ≤ h0.size) (hn : u.toInt = n) (h63 : n ≤ 63) :
    own_Met l Z (⟨"com/example/slotwise/slotwise/flex/FlexPlanner", "listed", "(I)[I"⟩ : MethodName) prog_71_method_16_code 3 (some (.array .int)) ({ frames := 0, cells := 1, slots := 63, locals := 0 } : Room) #[(.int u)] h0 (Q_listed Z u n n0 h0) := by
  refine own_enter (g0 := fun m => (mkF m 0 #[.val (.int u), .unset, .unset] [])) (plainFor_of_name (by first | (simp [plainName, overriddenIn]; done) | decide +kernel)) (fun m => by first | (simp [entryFrame, mkF, argsToLocals, Value.category]; done) | rfl) ?_
  intro p e s m below meth c T hx hby hml hown hnm hZ hret hlk X e0
  replace hown : s.vm.findClass "com/example/slotwise/slotwise/flex/FlexPlanner" = some m.cls := hown
  have N := Fr.nil n0
  have hz := Z0
  have K := Keep.refl h0 []
  show own_Run p e below _ (T.setTop (mkF m 0 #[.val (.int u), .unset, .unset] []))
  refine own_go (fun _ kS => XS.iloadN X.here hx rfl (hb hby d0_0) rfl kS) ?_
  show own_Run p e below _ (T.setTop (mkF m 1 #[.val (.int u), .unset, .unset] [(.int u)]))
  refine own_newP X hx hZ e0 (hw _ (List.mem_of_getElem? (i := 4) rfl)) rfl (hb hby d0_1) rfl n 63 hn (by omega) (by decide) (by decide) (by decide) "[I" rfl (fun b1 T1 h1 gb1 X1 e1 E1 A1 G1 => ?_)
  have g_b1 : n0 ≤ b1 := Nat.le_trans hz (Nat.le_of_eq gb1.symm)
  have z_b1 : h0.size ≤ b1 := Nat.le_trans K.1 (Nat.le_of_eq gb1.symm)
  replace hz := Nat.le_trans hz E1.1
  replace K := K.ext E1
  replace A1 : own_Arr Z h1 b1 .int n (fun _ => (.int (0 : Int32))) := A1
  show own_Run p e below _ (T1.setTop (mkF m 3 #[.val (.int u), .unset, .unset] [(.ref b1)]))
  refine own_go (fun _ kS => XS.astoreN X1.here hx rfl (hb hby d0_3) rfl rfl (l' := #[.val (.int u), .val (.ref b1), .unset]) rfl kS) ?_
  show own_Run p e below _ (T1.setTop (mkF m 4 #[.val (.int u), .val (.ref b1), .unset] []))
  refine own_go (fun _ kS => XS.iconst X1.here hx rfl (hb hby d0_4) kS) ?_
  show own_Run p e below _ (T1.setTop (mkF m 5 #[.val (.int u), .val (.ref b1), .unset] [(.int (0 : Int32))]))
  refine own_go (fun _ kS => XS.istoreN X1.here hx rfl (hb hby d0_5) rfl (l' := #[.val (.int u), .val (.ref b1), .val (.int (0 : Int32))]) rfl kS) ?_
  show own_Run p e below _ (T1.setTop (mkF m 6 #[.val (.int u), .val (.ref b1), .val (.int (0 : Int32))] []))
  have loop : ∀ (d k : Nat) (T' : State) (h' : Heap) (locs : List Loc), k + d = n → Stand p l e ({ frames := 0, cells := 1, slots := 63, locals := 0 } : Room) s m #[(.int u)] below meth c T' locs (0 + 1) (0 + 63) → T'.heap = h' → Fr n0 locs → n0 ≤ h'.size → Keep h0 h' [] → own_Arr Z h' b1 .int n (own_upto k) → own_Run p e below (own_End s ({ frames := 0, cells := 1, slots := 63, locals := 0 } : Room) (Q_listed Z u n n0 h0)) (T'.setTop (mkF m 6 #[.val (.int u), .val (.ref b1), .val (.int (Int32.ofInt k))] [])) := by
    intro d
    induction d with
    | zero =>
      intro k T' h' locs hk X' e' N hz K A
      have hik := own_oi k (by omega)
      show own_Run p e below _ (T'.setTop (mkF m 6 #[.val (.int u), .val (.ref b1), .val (.int (Int32.ofInt k))] []))
      refine own_go (fun _ kS => XS.iloadN X'.here hx rfl (hb hby d0_6) rfl kS) ?_
      show own_Run p e below _ (T'.setTop (mkF m 7 #[.val (.int u), .val (.ref b1), .val (.int (Int32.ofInt k))] [(.int (Int32.ofInt k))]))
      refine own_go (fun _ kS => XS.iloadN X'.here hx rfl (hb hby d0_7) rfl kS) ?_
      show own_Run p e below _ (T'.setTop (mkF m 8 #[.val (.int u), .val (.ref b1), .val (.int (Int32.ofInt k))] [(.int u), (.int (Int32.ofInt k))]))
      refine own_go (fun _ kS => XS.icmpYes X'.here hx rfl (pc0 := 8) (pc' := 21) rfl (hb hby d0_8) rfl (flt (show ¬ ((Int32.ofInt k) < u) from (by rw [Int32.lt_iff_toInt_lt]; omega))).2.1 (by decide) (by decide) kS) ?_
      show own_Run p e below _ (T'.setTop (mkF m 21 #[.val (.int u), .val (.ref b1), .val (.int (Int32.ofInt k))] []))
      refine own_go (fun _ kS => XS.aloadN X'.here hx rfl (hb hby d0_21) rfl rfl kS) ?_
      show own_Run p e below _ (T'.setTop (mkF m 22 #[.val (.int u), .val (.ref b1), .val (.int (Int32.ofInt k))] [(.ref b1)]))
      refine own_retA X' hx hret hlk rfl rfl rfl (hb hby d0_22) (by decide) (by decide) ?_
      rw [e']
      exact ⟨_, rfl, N, g_b1, K, A.congr (fun j hj => own_full n k j (by omega) hj)⟩
    | succ d ih =>
      intro k T' h' locs hk X' e' N hz K A
      have hik := own_oi k (by omega)
      show own_Run p e below _ (T'.setTop (mkF m 6 #[.val (.int u), .val (.ref b1), .val (.int (Int32.ofInt k))] []))
      refine own_go (fun _ kS => XS.iloadN X'.here hx rfl (hb hby d0_6) rfl kS) ?_
      show own_Run p e below _ (T'.setTop (mkF m 7 #[.val (.int u), .val (.ref b1), .val (.int (Int32.ofInt k))] [(.int (Int32.ofInt k))]))
      refine own_go (fun _ kS => XS.iloadN X'.here hx rfl (hb hby d0_7) rfl kS) ?_
      show own_Run p e below _ (T'.setTop (mkF m 8 #[.val (.int u), .val (.ref b1), .val (.int (Int32.ofInt k))] [(.int u), (.int (Int32.ofInt k))]))
      refine own_go (fun _ kS => XS.icmpNo X'.here hx rfl (hb hby d0_8) rfl (tlt (show (Int32.ofInt k) < u from (by rw [Int32.lt_iff_toInt_lt]; omega))).2.1 kS) ?_
      show own_Run p e below _ (T'.setTop (mkF m 11 #[.val (.int u), .val (.ref b1), .val (.int (Int32.ofInt k))] []))
      refine own_go (fun _ kS => XS.aloadN X'.here hx rfl (hb hby d0_11) rfl rfl kS) ?_
      show own_Run p e below _ (T'.setTop (mkF m 12 #[.val (.int u), .val (.ref b1), .val (.int (Int32.ofInt k))] [(.ref b1)]))
      refine own_go (fun _ kS => XS.iloadN X'.here hx rfl (hb hby d0_12) rfl kS) ?_
      show own_Run p e below _ (T'.setTop (mkF m 13 #[.val (.int u), .val (.ref b1), .val (.int (Int32.ofInt k))] [(.int (Int32.ofInt k)), (.ref b1)]))
      refine own_go (fun _ kS => XS.iloadN X'.here hx rfl (hb hby d0_13) rfl kS) ?_
      show own_Run p e below _ (T'.setTop (mkF m 14 #[.val (.int u), .val (.ref b1), .val (.int (Int32.ofInt k))] [(.int (Int32.ofInt k)), (.int (Int32.ofInt k)), (.ref b1)]))
      refine own_iastore X' hx hZ e' A (j := (Int32.ofInt k)) ⟨by omega, by omega⟩ rfl rfl (hb hby d0_14) (fun T2 h2 X2 e2 W2 A2 => ?_)
      replace hz := Nat.le_trans hz (Nat.le_of_eq W2.size.symm)
      replace N := Fr.snoc X2 N g_b1
      replace K := K.wr W2 (Or.inr z_b1)
      replace A2 : own_Arr Z h2 b1 .int n (own_upto (k + 1)) := A2.congr (fun j _ => own_store k j (by omega))
      show own_Run p e below _ (T2.setTop (mkF m 15 #[.val (.int u), .val (.ref b1), .val (.int (Int32.ofInt k))] []))
      refine own_go (fun _ kS => XS.iinc X2.here hx rfl (hb hby d0_15) rfl (l' := #[.val (.int u), .val (.ref b1), .val (.int ((Int32.ofInt k) + (1 : Int32)))]) rfl kS) ?_
      show own_Run p e below _ (T2.setTop (mkF m 18 #[.val (.int u), .val (.ref b1), .val (.int ((Int32.ofInt k) + (1 : Int32)))] []))
      refine own_go (fun _ kS => XS.goto X2.here hx rfl (pc0 := 18) (pc' := 6) rfl (hb hby d0_18) (by decide) (by decide) kS) ?_
      show own_Run p e below _ (T2.setTop (mkF m 6 #[.val (.int u), .val (.ref b1), .val (.int ((Int32.ofInt k) + (1 : Int32)))] []))
      rw [own_next k]
      exact ih (k + 1) _ _ _ (by omega) X2 e2 N hz K A2
  exact loop n 0 _ _ _ (by omega) X1 e1 N hz K (A1.congr fun j _ => rfl)
theorem own_pd0 : parseMethodDescriptor "(I)[I" = some ⟨[.int], some (.array .int)⟩ := by decide +kernel
abbrev Q_law (Z : State) (p1 : Int32) (p2 : Int32) (n0 : Nat) (h0 : Heap) : Option Value → Heap → List Loc → Prop := fun v h L => v = some (.int 1) ∧ Fr n0 L
set_option maxRecDepth 65536 in
set_option maxHeartbeats 40000000 in
theorem rm_law (l : Launch) (Z : State) (a0 : Array Value) (hw : ∀ d ∈ tables_1, d.before a0 Z = true) (p1 : Int32) (p2 : Int32) (n0 : Nat) (h0 : Heap) (Z0 : n0 ≤ h0.size)  :
    own_Met l Z x code maxLocals ret room_1 #[(.int p1), (.int p2)] h0 (Q_law Z p1 p2 n0 h0) := by
  refine own_enter (g0 := fun m => (mkF m 0 #[.val (.int p1), .val (.int p2), .unset, .unset, .unset] [])) (plainFor_of_name (by first | (simp [plainName, overriddenIn]; done) | decide +kernel)) (fun m => by first | (simp [entryFrame, mkF, argsToLocals, Value.category, maxLocals]; done) | rfl) ?_
  intro p e s m below meth c T hx hby hml hown hnm hZ hret hlk X e0
  have hml : c.maxLocals = 5 := hml
  replace hown : s.vm.findClass "com/example/slotwise/slotwise/flex/FlexPlannerListedPinLaw" = some m.cls := hown
  have N := Fr.nil n0
  have hz := Z0
  show own_Run p e below _ (T.setTop (mkF m 0 #[.val (.int p1), .val (.int p2), .unset, .unset, .unset] []))
  refine own_go (fun _ kS => XS.iloadN X.here hx rfl (hb hby at_0) rfl kS) ?_
  show own_Run p e below _ (T.setTop (mkF m 1 #[.val (.int p1), .val (.int p2), .unset, .unset, .unset] [(.int p1)]))
  refine own_go (fun _ kS => XS.bipush X.here hx rfl (hb hby at_1) kS) ?_
  show own_Run p e below _ (T.setTop (mkF m 3 #[.val (.int p1), .val (.int p2), .unset, .unset, .unset] [(.int (63 : Int32)), (.int p1)]))
  refine own_go (fun _ kS => XS.iand X.here hx rfl (hb hby at_3) rfl kS) ?_
  show own_Run p e below _ (T.setTop (mkF m 4 #[.val (.int p1), .val (.int p2), .unset, .unset, .unset] [(.int (p1 &&& (63 : Int32)))]))
  refine own_go (fun _ kS => XS.istoreN X.here hx rfl (hb hby at_4) rfl (l' := #[.val (.int p1), .val (.int p2), .val (.int (p1 &&& (63 : Int32))), .unset, .unset]) rfl kS) ?_
  show own_Run p e below _ (T.setTop (mkF m 5 #[.val (.int p1), .val (.int p2), .val (.int (p1 &&& (63 : Int32))), .unset, .unset] []))
  generalize e_u : (p1 &&& (63 : Int32)) = u
  have hu0 := e_u ▸ c_and p1 63 (by decide)
  have z63 : (63 : Int32).toInt = 63 := rfl
  obtain ⟨n, hn⟩ : ∃ n : Nat, u.toInt = n := ⟨u.toInt.toNat, by omega⟩
  have h63 : n ≤ 63 := by omega
  refine own_go (fun _ kS => XS.iloadN X.here hx rfl (hb hby at_5) rfl kS) ?_
  show own_Run p e below _ (T.setTop (mkF m 6 #[.val (.int p1), .val (.int p2), .val (.int u), .unset, .unset] [(.int u)]))
  refine own_callS X hx hZ e0 hown (⟨"com/example/slotwise/slotwise/flex/FlexPlanner", "listed", "(I)[I"⟩ : MethodName) (hw _ (List.mem_of_getElem? (i := 0) rfl)) (hw _ (List.mem_of_getElem? (i := 1) rfl)) (hw _ (List.mem_of_getElem? (i := 2) rfl)) (hw _ (List.mem_of_getElem? (i := 3) rfl)) (by decide) [(.int u)] [] (rm_listed l Z a0 hw u n n0 h0 hz hn h63) (by decide) 0 (by decide) (by decide) (by decide) rfl (by rw [hml]; rfl) (lenOf own_pd0 rfl) rfl (by show 2 * 0 + _ ≤ _; exact Nat.le_of_eq rfl) (hb hby at_6) (fun v1 h1 L1 T1 Q1 X1 e1 => ?_)
  obtain ⟨b1, rfl, Nq1, g_b1, Kq1, A1⟩ := Q1
  replace hz := Nat.le_trans hz Kq1.1
  replace N := N.app Nq1
  show own_Run p e below _ (T1.setTop (mkF m 9 #[.val (.int p1), .val (.int p2), .val (.int u), .unset, .unset] [(.ref b1)]))
  refine own_go (fun _ kS => XS.astoreN X1.here hx rfl (hb hby at_9) rfl rfl (l' := #[.val (.int p1), .val (.int p2), .val (.int u), .val (.ref b1), .unset]) rfl kS) ?_
  show own_Run p e below _ (T1.setTop (mkF m 10 #[.val (.int p1), .val (.int p2), .val (.int u), .val (.ref b1), .unset] []))
  refine own_go (fun _ kS => XS.aloadN X1.here hx rfl (hb hby at_10) rfl rfl kS) ?_
  show own_Run p e below _ (T1.setTop (mkF m 11 #[.val (.int p1), .val (.int p2), .val (.int u), .val (.ref b1), .unset] [(.ref b1)]))
  refine own_alen X1 hx hZ e1 A1 u hn rfl rfl (hb hby at_11) ?_
  show own_Run p e below _ (T1.setTop (mkF m 12 #[.val (.int p1), .val (.int p2), .val (.int u), .val (.ref b1), .unset] [(.int u)]))
  refine own_go (fun _ kS => XS.iloadN X1.here hx rfl (hb hby at_12) rfl kS) ?_
  show own_Run p e below _ (T1.setTop (mkF m 13 #[.val (.int p1), .val (.int p2), .val (.int u), .val (.ref b1), .unset] [(.int u), (.int u)]))
  refine own_go (fun _ kS => XS.icmpYes X1.here hx rfl (pc0 := 13) (pc' := 18) rfl (hb hby at_13) rfl (teq (show u = u from (rfl))).1 (by decide) (by decide) kS) ?_
  show own_Run p e below _ (T1.setTop (mkF m 18 #[.val (.int p1), .val (.int p2), .val (.int u), .val (.ref b1), .unset] []))
  refine own_go (fun _ kS => XS.iloadN X1.here hx rfl (hb hby at_18) rfl kS) ?_
  show own_Run p e below _ (T1.setTop (mkF m 19 #[.val (.int p1), .val (.int p2), .val (.int u), .val (.ref b1), .unset] [(.int u)]))
  by_cases hc19 : u = (0 : Int32)
  · refine own_go (fun _ kS => XS.ifNo X1.here hx rfl (hb hby at_19) rfl ((if0 _ _).trans (teq hc19).2) kS) ?_
    show own_Run p e below _ (T1.setTop (mkF m 22 #[.val (.int p1), .val (.int p2), .val (.int u), .val (.ref b1), .unset] []))
    refine own_go (fun _ kS => XS.iconst X1.here hx rfl (hb hby at_22) kS) ?_
    show own_Run p e below _ (T1.setTop (mkF m 23 #[.val (.int p1), .val (.int p2), .val (.int u), .val (.ref b1), .unset] [(.int (1 : Int32))]))
    refine own_retN X1 hx (t := .boolean) hret hlk (by simp) (hb hby at_23) (by decide) (by decide) ?_
    exact ⟨rfl, N⟩
  · refine own_go (fun _ kS => XS.ifYes X1.here hx rfl (pc0 := 19) (pc' := 24) rfl (hb hby at_19) rfl ((if0 _ _).trans (feq hc19).2) (by decide) (by decide) kS) ?_
    show own_Run p e below _ (T1.setTop (mkF m 24 #[.val (.int p1), .val (.int p2), .val (.int u), .val (.ref b1), .unset] []))
    refine own_go (fun _ kS => XS.iloadN X1.here hx rfl (hb hby at_24) rfl kS) ?_
    show own_Run p e below _ (T1.setTop (mkF m 25 #[.val (.int p1), .val (.int p2), .val (.int u), .val (.ref b1), .unset] [(.int p2)]))
    refine own_ldc X1 hx hZ hown (hw _ (List.mem_of_getElem? (i := 5) rfl)) rfl (hb hby at_25) ?_
    show own_Run p e below _ (T1.setTop (mkF m 27 #[.val (.int p1), .val (.int p2), .val (.int u), .val (.ref b1), .unset] [(.int (2147483647 : Int32)), (.int p2)]))
    refine own_go (fun _ kS => XS.iand X1.here hx rfl (hb hby at_27) rfl kS) ?_
    show own_Run p e below _ (T1.setTop (mkF m 28 #[.val (.int p1), .val (.int p2), .val (.int u), .val (.ref b1), .unset] [(.int (p2 &&& (2147483647 : Int32)))]))
    refine own_go (fun _ kS => XS.iloadN X1.here hx rfl (hb hby at_28) rfl kS) ?_
    show own_Run p e below _ (T1.setTop (mkF m 29 #[.val (.int p1), .val (.int p2), .val (.int u), .val (.ref b1), .unset] [(.int u), (.int (p2 &&& (2147483647 : Int32)))]))
    refine own_go (fun _ kS => iremM X1 hx rfl (hb hby at_29) rfl hc19 kS) ?_
    show own_Run p e below _ (T1.setTop (mkF m 30 #[.val (.int p1), .val (.int p2), .val (.int u), .val (.ref b1), .unset] [(.int ((p2 &&& (2147483647 : Int32)) % u))]))
    refine own_go (fun _ kS => XS.istore X1.here hx rfl (hb hby at_30) rfl (l' := #[.val (.int p1), .val (.int p2), .val (.int u), .val (.ref b1), .val (.int ((p2 &&& (2147483647 : Int32)) % u))]) rfl kS) ?_
    show own_Run p e below _ (T1.setTop (mkF m 32 #[.val (.int p1), .val (.int p2), .val (.int u), .val (.ref b1), .val (.int ((p2 &&& (2147483647 : Int32)) % u))] []))
    have hun : 0 < u.toInt := by
        have w : u.toInt ≠ 0 := fun w => hc19 (own_inj w)
        omega
    have hi := (c_iremV (p2 &&& (2147483647 : Int32)) u).1 (c_and p2 2147483647 (by decide)).1 hun
    generalize e_i : ((p2 &&& (2147483647 : Int32)) % u) = i at hi ⊢
    have hsub := c_isub u (1 : Int32)
    have rsub := rng32 (u - (1 : Int32))
    have z1 : (1 : Int32).toInt = 1 := rfl
    refine own_go (fun _ kS => XS.aloadN X1.here hx rfl (hb hby at_32) rfl rfl kS) ?_
    show own_Run p e below _ (T1.setTop (mkF m 33 #[.val (.int p1), .val (.int p2), .val (.int u), .val (.ref b1), .val (.int i)] [(.ref b1)]))
    refine own_go (fun _ kS => XS.iload X1.here hx rfl (hb hby at_33) rfl kS) ?_
    show own_Run p e below _ (T1.setTop (mkF m 35 #[.val (.int p1), .val (.int p2), .val (.int u), .val (.ref b1), .val (.int i)] [(.int i), (.ref b1)]))
    refine own_iaload X1 hx hZ e1 A1 (j := i) i ⟨by first | decide | omega, by first | omega | (simp only [Int32.reduceToInt]; omega)⟩ (congrArg Value.int (own_clamp i (by first | decide | omega))) rfl rfl (hb hby at_35) ?_
    show own_Run p e below _ (T1.setTop (mkF m 36 #[.val (.int p1), .val (.int p2), .val (.int u), .val (.ref b1), .val (.int i)] [(.int i)]))
    refine own_go (fun _ kS => XS.iload X1.here hx rfl (hb hby at_36) rfl kS) ?_
    show own_Run p e below _ (T1.setTop (mkF m 38 #[.val (.int p1), .val (.int p2), .val (.int u), .val (.ref b1), .val (.int i)] [(.int i), (.int i)]))
    refine own_go (fun _ kS => XS.icmpNo X1.here hx rfl (hb hby at_38) rfl (teq (show i = i from (rfl))).2 kS) ?_
    show own_Run p e below _ (T1.setTop (mkF m 41 #[.val (.int p1), .val (.int p2), .val (.int u), .val (.ref b1), .val (.int i)] []))
    refine own_go (fun _ kS => XS.aloadN X1.here hx rfl (hb hby at_41) rfl rfl kS) ?_
    show own_Run p e below _ (T1.setTop (mkF m 42 #[.val (.int p1), .val (.int p2), .val (.int u), .val (.ref b1), .val (.int i)] [(.ref b1)]))
    refine own_go (fun _ kS => XS.iconst X1.here hx rfl (hb hby at_42) kS) ?_
    show own_Run p e below _ (T1.setTop (mkF m 43 #[.val (.int p1), .val (.int p2), .val (.int u), .val (.ref b1), .val (.int i)] [(.int (0 : Int32)), (.ref b1)]))
    refine own_iaload X1 hx hZ e1 A1 (j := (0 : Int32)) (0 : Int32) ⟨by first | decide | omega, by first | omega | (simp only [Int32.reduceToInt]; omega)⟩ (congrArg Value.int (own_clamp (0 : Int32) (by first | decide | omega))) rfl rfl (hb hby at_43) ?_
    show own_Run p e below _ (T1.setTop (mkF m 44 #[.val (.int p1), .val (.int p2), .val (.int u), .val (.ref b1), .val (.int i)] [(.int (0 : Int32))]))
    refine own_go (fun _ kS => XS.ifNo X1.here hx rfl (hb hby at_44) rfl ((if0 _ _).trans (teq (show (0 : Int32) = (0 : Int32) from (rfl))).2) kS) ?_
    show own_Run p e below _ (T1.setTop (mkF m 47 #[.val (.int p1), .val (.int p2), .val (.int u), .val (.ref b1), .val (.int i)] []))
    refine own_go (fun _ kS => XS.aloadN X1.here hx rfl (hb hby at_47) rfl rfl kS) ?_
    show own_Run p e below _ (T1.setTop (mkF m 48 #[.val (.int p1), .val (.int p2), .val (.int u), .val (.ref b1), .val (.int i)] [(.ref b1)]))
    refine own_go (fun _ kS => XS.iloadN X1.here hx rfl (hb hby at_48) rfl kS) ?_
    show own_Run p e below _ (T1.setTop (mkF m 49 #[.val (.int p1), .val (.int p2), .val (.int u), .val (.ref b1), .val (.int i)] [(.int u), (.ref b1)]))
    refine own_go (fun _ kS => XS.iconst X1.here hx rfl (hb hby at_49) kS) ?_
    show own_Run p e below _ (T1.setTop (mkF m 50 #[.val (.int p1), .val (.int p2), .val (.int u), .val (.ref b1), .val (.int i)] [(.int (1 : Int32)), (.int u), (.ref b1)]))
    refine own_go (fun _ kS => XS.isub X1.here hx rfl (hb hby at_50) rfl kS) ?_
    show own_Run p e below _ (T1.setTop (mkF m 51 #[.val (.int p1), .val (.int p2), .val (.int u), .val (.ref b1), .val (.int i)] [(.int (u - (1 : Int32))), (.ref b1)]))
    refine own_iaload X1 hx hZ e1 A1 (j := (u - (1 : Int32))) (u - (1 : Int32)) ⟨by first | decide | omega, by first | omega | (simp only [Int32.reduceToInt]; omega)⟩ (congrArg Value.int (own_clamp (u - (1 : Int32)) (by first | decide | omega))) rfl rfl (hb hby at_51) ?_
    show own_Run p e below _ (T1.setTop (mkF m 52 #[.val (.int p1), .val (.int p2), .val (.int u), .val (.ref b1), .val (.int i)] [(.int (u - (1 : Int32)))]))
    refine own_go (fun _ kS => XS.iloadN X1.here hx rfl (hb hby at_52) rfl kS) ?_
    show own_Run p e below _ (T1.setTop (mkF m 53 #[.val (.int p1), .val (.int p2), .val (.int u), .val (.ref b1), .val (.int i)] [(.int u), (.int (u - (1 : Int32)))]))
    refine own_go (fun _ kS => XS.iconst X1.here hx rfl (hb hby at_53) kS) ?_
    show own_Run p e below _ (T1.setTop (mkF m 54 #[.val (.int p1), .val (.int p2), .val (.int u), .val (.ref b1), .val (.int i)] [(.int (1 : Int32)), (.int u), (.int (u - (1 : Int32)))]))
    refine own_go (fun _ kS => XS.isub X1.here hx rfl (hb hby at_54) rfl kS) ?_
    show own_Run p e below _ (T1.setTop (mkF m 55 #[.val (.int p1), .val (.int p2), .val (.int u), .val (.ref b1), .val (.int i)] [(.int (u - (1 : Int32))), (.int (u - (1 : Int32)))]))
    refine own_go (fun _ kS => XS.icmpNo X1.here hx rfl (hb hby at_55) rfl (teq (show (u - (1 : Int32)) = (u - (1 : Int32)) from (rfl))).2 kS) ?_
    show own_Run p e below _ (T1.setTop (mkF m 58 #[.val (.int p1), .val (.int p2), .val (.int u), .val (.ref b1), .val (.int i)] []))
    refine own_go (fun _ kS => XS.iconst X1.here hx rfl (hb hby at_58) kS) ?_
    show own_Run p e below _ (T1.setTop (mkF m 59 #[.val (.int p1), .val (.int p2), .val (.int u), .val (.ref b1), .val (.int i)] [(.int (1 : Int32))]))
    refine own_go (fun _ kS => XS.goto X1.here hx rfl (pc0 := 59) (pc' := 63) rfl (hb hby at_59) (by decide) (by decide) kS) ?_
    show own_Run p e below _ (T1.setTop (mkF m 63 #[.val (.int p1), .val (.int p2), .val (.int u), .val (.ref b1), .val (.int i)] [(.int (1 : Int32))]))
    refine own_retN X1 hx (t := .boolean) hret hlk (by simp) (hb hby at_63) (by decide) (by decide) ?_
    exact ⟨rfl, N⟩
set_option maxRecDepth 65536 in
set_option maxHeartbeats 40000000 in
theorem own_comes_1 {Post : Tables → Env → Array Value → State → Outcome → State → Prop} (hpost : ∀ tb e args s v u, (limb_1_1.after args s (.returned v) u = true ∧ limb_1_2.after args s (.returned v) u = true) → FrameEnd s (.returned v) u (Jvm.fieldLocs frame_1_writes args s ++ Jvm.arrayLocs frame_1_arrays args s ++ Jvm.staticLocs frame_1_statics s) 16 192 → Post tb e args s (.returned v) u) :
    ArmFor flags0 classFile x code maxLocals ret World_1 tables_1 room_1 Calls_1 rest_1 Pre_1 Post := by
  intro l hfl _ _ p e ha hc hk s m args below hf hA hF happ hP
  obtain ⟨hcalls, hrest, hpre⟩ := hP
  obtain ⟨-, -, -, hnamed, -, -, -, hat⟩ := (Spec.applies_iff hf).mp happ
  obtain ⟨hg, hn⟩ := and_e (Cond.before_iff.mp (show (Jvm.Cond.and given_1 narrow_1).before args s = true from hpre))
  obtain ⟨g0, hg⟩ := and_e hg
  obtain ⟨k0, hg⟩ := and_e hg
  have k1 := hg
  obtain ⟨w0, w1, rfl⟩ : ∃ w0 w1 : Value, args = #[w0, w1] := by
    have hs : args.size = 2 := by simpa [Cond.value, given_1] using g0
    obtain ⟨L⟩ := args
    match L, hs with
    | [w0, w1], _ => exact ⟨w0, w1, rfl⟩
  have hw := fun d (hd : d ∈ tables_1) => atoms_spec (ws := Jvm.Cond.code x code maxLocals ret :: tables_1) hat d (List.mem_cons_of_mem _ hd)
  obtain ⟨i0, ei0⟩ := is_v k0
  obtain rfl : w0 = (.int i0) := Option.some.inj ei0
  obtain ⟨i1, ei1⟩ := is_v k1
  obtain rfl : w1 = (.int i1) := Option.some.inj ei1
  obtain ⟨n, o, h1, h2, h3, _, L, rfl, ⟨rfl, N⟩, hq⟩ := rm_law l s _ hw i0 i1 s.heap.size s.heap (Nat.le_refl _) tables_1 p e ha hc hk s m _ below hf ((Spec.applies_iff_loose hf).mp happ).1 ⟨rfl, State.Warmed39.refl s, rfl⟩ trivial
  refine ⟨n, _, h1, h2, h3, hpost _ _ _ _ _ _ ⟨Cond.after_iff.mpr rfl, Cond.after_iff.mpr (eq_i res_at (Term.int_eval (1)) rfl)⟩ ⟨hq.1, hq.2.1, (hq.2.2.sift fun y hy => Or.inr (N y hy)).mono (by decide) (by decide)⟩⟩
theorem main_1_1 : Claimed_1_1 := own_comes_1 fun _ _ _ _ _ _ h hF => ⟨h.1, hF⟩
theorem main_1_2 : Claimed_1_2 := own_comes_1 fun _ _ _ _ _ _ h hF => ⟨h.2, hF⟩
end Jvm.Pilot.@@N@@
namespace Jvm.Pilot.@@N@@
open Jvm Jvm.ClassFile Sem Op Lib Jvm.Free Jvm.Stand Jvm.Pilot.@@N@@.Jvm.D
/-! MADE BY PROGRAM (witnessworld.py) out of the Statement's table words and the real class files: 9 classes; the members and pool entries that the words name. The judged class is class 1, her method 1. -/
namespace start1
open Jvm.ClassFile
def u (s : String) : CpInfo := .utf8 (stringToUtf16 s)
/-- a pool by its gaps: so many unusable entries, then the entry; so many at the end -/
def gap : Nat → List CpInfo → List CpInfo
  | 0, r => r
  | n + 1, r => .unusable :: gap n r
def poolList (es : List (Nat × CpInfo)) (last : Nat) : List CpInfo := es.foldr (fun e r => gap e.1 (e.2 :: r)) (gap last [])
def pool (es : List (Nat × CpInfo)) (last : Nat) : Array CpInfo := ⟨poolList es last⟩
def fileOf (pool : Array CpInfo) (this : Nat) (attrs : Array Attribute := #[]) (ms : Array MethodInfo := #[]) (fl : Nat := 33) (sup : Nat := 0) (ifs : Array Nat := #[]) (fds : Array FieldInfo := #[]) : ClassFile where
  minorVersion := 0
  majorVersion := 65
  constantPool := pool
  accessFlags := fl
  thisClass := this
  superClass := sup
  interfaces := ifs
  fields := fds
  methods := ms
  attributes := attrs
def plain (name : String) (sup : Option ClassId) : Class where
  name := name
  kind := .ordinary
  loader := none
  accessFlags := 33
  super := sup
  interfaces := #[]
  cf := none
  fields := #[]
  methods := #[]
  instanceTypes := #[]
  staticTypes := #[]
  resolved := #[]
  callSites := []
  init := .initialized
  statics := none
  mirror := none

def pool0 : Array CpInfo := pool [(5, u "<init>"), (0, u "()V"), (1, .class_ 10), (1, u "java/lang/Object")] 113

def k0m0 : Method := { name := "<init>", desc := "()V", sig := { parameters := [], returnType := none }, accessFlags := 1, code := none }
/-- java/lang/Object -/
def k0 : Class := { plain "java/lang/Object" none with
  accessFlags := 33
  interfaces := #[]
  cf := some (fileOf pool0 8 #[] #[{ accessFlags := 1, nameIndex := 5, descriptorIndex := 6, attributes := #[] }] 33 0 #[] #[])
  fields := #[]
  methods := #[k0m0]
  instanceTypes := #[]
  staticTypes := #[]
  resolved := Array.replicate 124 none
  statics := none }

def pool1 : Array CpInfo := pool [(2, .class_ 4), (1, u "java/lang/Object"), (0, u "<init>"), (0, u "()V"), (0, .methodref 8 9), (0, .class_ 10), (0, .nameAndType 11 12), (0, u "com/example/slotwise/slotwise/flex/FlexPlanner"), (0, u "listed"), (0, u "(I)[I"), (0, .integer 2147483647), (0, .class_ 15), (0, u "com/example/slotwise/slotwise/flex/FlexPlannerListedPinLaw"), (2, u "law"), (0, u "(II)Z")] 5

def k1m0 : Method := { name := "<init>", desc := "()V", sig := { parameters := [], returnType := none }, accessFlags := 2, code := none }
def k1c1 : Code := { maxStack := 3, maxLocals := 5, code := code, exceptionTable := #[], attributes := #[] }
def k1m1 : Method := { name := "law", desc := "(II)Z", sig := { parameters := [.int, .int], returnType := some .boolean }, accessFlags := 9, code := some k1c1 }
/-- com/example/slotwise/slotwise/flex/FlexPlannerListedPinLaw -/
def k1 : Class := { plain "com/example/slotwise/slotwise/flex/FlexPlannerListedPinLaw" (some 0) with
  accessFlags := 49
  interfaces := #[]
  cf := some (fileOf pool1 14 #[] #[{ accessFlags := 2, nameIndex := 5, descriptorIndex := 6, attributes := #[] }, { accessFlags := 9, nameIndex := 18, descriptorIndex := 19, attributes := #[] }] 49 2 #[] #[])
  fields := #[]
  methods := #[k1m0, k1m1]
  instanceTypes := #[]
  staticTypes := #[]
  resolved := Array.replicate 25 none
  statics := none }

def pool2 : Array CpInfo := pool [(2, .class_ 4), (1, u "java/lang/Object"), (0, u "<init>"), (0, u "()V"), (7, .class_ 16), (1, u "com/example/slotwise/slotwise/flex/FlexPlanner"), (13, u "listed"), (0, u "(I)[I"), (10, .class_ 43), (0, u "com/example/slotwise/slotwise/flex/FlexPlanner$Search"), (78, .class_ 124), (1, u "com/example/slotwise/slotwise/flex/FlexPlanner$HeadPlan"), (187, u "SEARCH_JOB_INTERVALS"), (0, u "J"), (1, u "KEPT_STARTS"), (0, u "I")] 86

def k2m0 : Method := { name := "<init>", desc := "()V", sig := { parameters := [], returnType := none }, accessFlags := 2, code := none }
def k2c1 : Code := { maxStack := 3, maxLocals := 3, code := prog_71_method_16_code, exceptionTable := #[], attributes := #[] }
def k2m1 : Method := { name := "listed", desc := "(I)[I", sig := { parameters := [.int], returnType := some (.array .int) }, accessFlags := 8, code := some k2c1 }
/-- com/example/slotwise/slotwise/flex/FlexPlanner -/
def k2 : Class := { plain "com/example/slotwise/slotwise/flex/FlexPlanner" (some 0) with
  accessFlags := 49
  interfaces := #[]
  cf := some (fileOf pool2 14 #[.nestMembers #[42, 122]] #[{ accessFlags := 2, nameIndex := 5, descriptorIndex := 6, attributes := #[] }, { accessFlags := 8, nameIndex := 30, descriptorIndex := 31, attributes := #[] }] 49 2 #[] #[{ accessFlags := 26, nameIndex := 312, descriptorIndex := 313, attributes := #[] }, { accessFlags := 26, nameIndex := 315, descriptorIndex := 316, attributes := #[] }])
  fields := #[{ name := "SEARCH_JOB_INTERVALS", type := .long, accessFlags := 26, slot := 0, constantValue := 0 }, { name := "KEPT_STARTS", type := .int, accessFlags := 26, slot := 1, constantValue := 0 }]
  methods := #[k2m0, k2m1]
  instanceTypes := #[]
  staticTypes := #[.long, .int]
  resolved := Array.replicate 403 none
  statics := none }

def pool3 : Array CpInfo := pool [(1, u "java/lang/Cloneable"), (0, .class_ 1), (0, u "java/lang/Object"), (0, .class_ 3)] 3

/-- java/lang/Cloneable -/
def k3 : Class := { plain "java/lang/Cloneable" (some 0) with
  accessFlags := 1537
  interfaces := #[]
  cf := some (fileOf pool3 2 #[] #[] 1537 4 #[] #[])
  fields := #[]
  methods := #[]
  instanceTypes := #[]
  staticTypes := #[]
  resolved := Array.replicate 8 none
  statics := none }

def pool4 : Array CpInfo := pool [(1, u "java/io/Serializable"), (0, .class_ 1), (0, u "java/lang/Object"), (0, .class_ 3)] 3

/-- java/io/Serializable -/
def k4 : Class := { plain "java/io/Serializable" (some 0) with
  accessFlags := 1537
  interfaces := #[]
  cf := some (fileOf pool4 2 #[] #[] 1537 4 #[] #[])
  fields := #[]
  methods := #[]
  instanceTypes := #[]
  staticTypes := #[]
  resolved := Array.replicate 8 none
  statics := none }

/-- the primitive byte -/
def k5 : Class := { plain "byte" none with kind := .primitive 'B', accessFlags := 0x411 }
/-- [B -/
def k6 : Class := { plain "[B" (some 0) with kind := .array 5 .byte, interfaces := #[3, 4], accessFlags := 1041 }

/-- the primitive int -/
def k7 : Class := { plain "int" none with kind := .primitive 'I', accessFlags := 0x411 }
/-- [I -/
def k8 : Class := { plain "[I" (some 0) with kind := .array 7 .int, interfaces := #[3, 4], accessFlags := 1041 }

def heap : Heap := #[]
def classes : Array Class := #[k0, k1, k2, k3, k4, k5, k6, k7, k8]
def interned : List (Array UInt16 × Addr) := []
def slotsUsed : Nat := 0
def theMethod : MethodId := ⟨1, 1⟩
def args0 : Array Value := #[.int 5, .int 7]
def aboutOver (below : List Frame) : State where
  vm := { classes := classes, interned := interned.toArray }
  heap := heap
  slotsUsed := slotsUsed
  threads := #[{ frames := .invoking theMethod args0 :: below }]
def below0 : List Frame := [.native { method := ⟨0, 0⟩, args := #[] }]
def about1 : State := aboutOver below0
def p0 : Program := .bare "" "" ""
def e0 : Env := launch0.env 0 0 0
theorem w_frames : about1.frames = Frame.invoking theMethod args0 :: below0 := rfl
set_option maxRecDepth 65536 in
theorem w_args : argsFit about1.vm theMethod args0 = true := by decide +kernel
set_option maxRecDepth 65536 in
theorem w_heap : heapFits about1 = true := by decide +kernel
set_option maxRecDepth 65536 in
theorem w_runnable : about1.curStatus? = some .runnable := by decide +kernel
set_option maxRecDepth 65536 in
theorem w_alone : about1.alone = true := by decide +kernel
set_option maxRecDepth 65536 in
theorem w_named : about1.methodNamed? x = some theMethod := by decide +kernel
set_option maxRecDepth 65536 in
theorem w_hears : about1.hears theMethod below0 = true := by decide +kernel
set_option maxRecDepth 65536 in
theorem w_ripe : about1.ripe theMethod args0 below0 = true := by decide +kernel
theorem w_running : about1.status = .running := rfl
set_option maxRecDepth 65536 in
theorem w_room : about1.hasRoom e0.platform room_1 = true :=
  launch0.hasRoom_least _ room_1 (by decide +kernel) (by decide +kernel) (by decide +kernel) (by decide +kernel) (by decide +kernel) (by decide +kernel)
theorem allAtoms_all (ts : List Jvm.Cond) (a : Array Jvm.Value) (st : Jvm.State) : (allAtoms ts).before a st = ts.all (fun c => c.before a st) := by
  induction ts with
  | nil => rfl
  | cons c t ih =>
    show (Jvm.Cond.and c (allAtoms t)).before a st = _
    rw [Jvm.Cond.before_and, ih, List.all_cons]
def words1 : List Jvm.Cond := Jvm.Cond.code x code maxLocals ret :: tables_1
/-- a 'code' word, met by the world's own term for the bytes: nothing is compared byte by byte -/
theorem code_word {y : MethodName} {bytes : ByteArray} {mx : Nat} {rt : Option FieldType} {a : Array Value} {s : State} {m : MethodId} {meth : Method} {c : Code} (h1 : s.methodNamed? y = some m) (h2 : s.vm.method? m = some meth) (h3 : meth.code = some c) (h4 : c.code = bytes)
    (h5 : (c.maxLocals == mx && c.exceptionTable.isEmpty && decide (c.maxStack ≤ mostOperands) && decide (meth.sig.returnType = rt) && !meth.locks && decide (parseMethodDescriptor y.desc = some meth.sig)) = true) : (Jvm.Cond.code y bytes mx rt).before a s = true := by
  simp only [Bool.and_eq_true, beq_iff_eq, Bool.not_eq_true', decide_eq_true_eq] at h5
  obtain ⟨⟨⟨⟨⟨g1, g2⟩, g3⟩, g4⟩, g5⟩, g6⟩ := h5
  simp [Cond.before, Cond.holds, Cond.value, h1, h2, h3, h4, g1, g2, g3, g4, g5, g6]
def isCode : Jvm.Cond → Bool
  | .code _ _ _ _ => true
  | _ => false
theorem all_split {L : List Jvm.Cond} {P : Jvm.Cond → Bool} (h1 : L.all (fun c => isCode c || P c) = true) (h2 : ∀ c ∈ L.filter isCode, P c = true) : L.all P = true := by
  refine List.all_eq_true.mpr fun c hc => ?_
  have h := List.all_eq_true.mp h1 c hc
  rcases Bool.eq_false_or_eq_true (isCode c) with hi | hi
  · exact h2 c (List.mem_filter.mpr ⟨hc, hi⟩)
  · simpa [hi] using h
set_option maxRecDepth 65536 in
theorem w_c0 : (Jvm.Cond.code x code maxLocals ret).before args0 about1 = true := code_word (m := ⟨1, 1⟩) (meth := k1m1) (c := k1c1) (by decide +kernel) rfl rfl rfl (by decide +kernel)
set_option maxRecDepth 65536 in
theorem w_c1 : (Jvm.Cond.code ({ cls := "com/example/slotwise/slotwise/flex/FlexPlanner", name := "listed", desc := "(I)[I" } : Jvm.MethodName) prog_71_method_16_code (3 : Nat) (Option.some (Jvm.ClassFile.FieldType.array Jvm.ClassFile.FieldType.int))).before args0 about1 = true := code_word (m := ⟨2, 1⟩) (meth := k2m1) (c := k2c1) (by decide +kernel) rfl rfl rfl (by decide +kernel)
def codes1 : List Jvm.Cond := [Jvm.Cond.code x code maxLocals ret, Jvm.Cond.code ({ cls := "com/example/slotwise/slotwise/flex/FlexPlanner", name := "listed", desc := "(I)[I" } : Jvm.MethodName) prog_71_method_16_code (3 : Nat) (Option.some (Jvm.ClassFile.FieldType.array Jvm.ClassFile.FieldType.int))]
set_option maxRecDepth 65536 in
theorem codes_eq : words1.filter isCode = codes1 := rfl
theorem w_codes : ∀ c ∈ words1.filter isCode, c.before args0 about1 = true := by
  rw [codes_eq]
  intro c hc
  simp only [codes1, List.mem_cons, List.not_mem_nil, or_false] at hc
  rcases hc with rfl | rfl
  · exact w_c0
  · exact w_c1
set_option maxRecDepth 65536 in
theorem w_t1 : words1.all (fun c => isCode c || c.before args0 about1) = true := by decide +kernel
theorem w_tables : (allAtoms (Jvm.Cond.code x code maxLocals ret :: tables_1)).before args0 about1 = true := by
  rw [allAtoms_all]
  show words1.all (fun c => c.before args0 about1) = true
  refine all_split ?_ w_codes
  rw [w_t1]
set_option maxRecDepth 65536 in
theorem w_case : (Jvm.Cond.and given_1 narrow_1).before args0 about1 = true := by decide +kernel
theorem w_applies : (headSpec (Jvm.Cond.code x code maxLocals ret :: tables_1) room_1).applies x e0.platform about1 = true :=
  (Spec.applies_iff w_frames).mpr ⟨w_running, w_runnable, w_alone, w_named, w_hears, w_ripe, w_room, w_tables⟩
theorem atStart : AtStart classFile x code maxLocals ret World_1 tables_1 room_1 Calls_1 rest_1 Pre_1 launch0 p0 e0 about1 theMethod args0 below0 :=
  ⟨lists_1, trivial, launch0.admits_env _ _ _, launch0.least_env, fairChoices_fair.cas, fairChoices_fair.clock, w_frames, w_args, w_heap, w_applies, trivial, trivial, w_case⟩
end start1
theorem witness_1 : WitnessClaimed_1 := ⟨start1.p0, start1.e0, start1.about1, start1.theMethod, start1.args0, start1.below0, start1.atStart⟩
end Jvm.Pilot.@@N@@
