import JvmDerived
import JvmDerived.Pilot.@@N@@Statement
import JvmDerived.Pilot.@@N@@Code
set_option linter.unusedVariables false
set_option linter.unusedSimpArgs false
namespace Jvm.Pilot.@@N@@
open Jvm Jvm.ClassFile Sem Op Lib Jvm.Free Jvm.Stand Jvm.LawKit Jvm.RoadKit Bundle Jvm.Pilot.@@N@@.Jvm.D
section OwnKit
variable {p : Program} {l : Launch} {e : Env} {R : Room} {s : State} {m : MethodId} {args : Array Value} {below : List Frame} {meth : Method} {c : Code} {T : State} {locs : List Loc} {cells slots : Nat} {Z : State} {a0 : Array Value} {h h' : Heap}
/-- the run from t on comes to the method's end, and there Fin holds -/
def own_Run (p : Program) (e : Env) (below : List Frame) (Fin : Outcome → State → Prop) (t : State) : Prop :=
  ∃ s₂ o, Steps p.tables e below t s₂ ∧ s₂.status = .running ∧ Ended s₂ below o ∧ Fin o s₂
variable {Fin : Outcome → State → Prop}
theorem own_go {t t' : State} (st : ∀ target, Steps p.tables e below t' target → Steps p.tables e below t target) (k : own_Run p e below Fin t') : own_Run p e below Fin t := by
  obtain ⟨s₂, o, h1, h2⟩ := k
  exact ⟨s₂, o, st _ h1, h2⟩
def own_End (s : State) (R : Room) (Q : Option Value → Heap → List Loc → Prop) (o : Outcome) (U : State) : Prop :=
  ∃ v L, o = .returned v ∧ Q v U.heap L ∧ FrameEnd s o U L R.cells R.slots
/-- a body's contract: called with these arguments over the heap h0 it returns, and Q says what is left -/
def own_Met (l : Launch) (Z : State) (y : MethodName) (bytes : ByteArray) (maxL : Nat) (ret : Option FieldType) (rm : Room) (as : Array Value) (h0 : Heap) (Q : Option Value → Heap → List Loc → Prop) : Prop :=
  ∀ ws : List Jvm.Cond, MetFree l y (head1 (Jvm.Cond.code y bytes maxL ret :: ws) rm) (fun a U => a = as ∧ Z.Warmed39 U.vm ∧ U.heap = h0) (fun _ _ _ _ _ => True) (fun _ U o U' => own_End U rm Q o U')
theorem own_enter {y : MethodName} {bytes : ByteArray} {maxL : Nat} {ret : Option FieldType} {rm : Room} {as : Array Value} {h0 : Heap} {Q : Option Value → Heap → List Loc → Prop} {g0 : MethodId → JFrame} (hpl : plainFor y = true) (hg0 : ∀ m, entryFrame m as maxL = g0 m)
    (body : ∀ (p : Program) (e : Env) (s : State) (m : MethodId) (below : List Frame) (meth : Method) (c : Code) (T : State), p.tables.exec = Jvm.exec → c.code = bytes → c.maxLocals = maxL → s.vm.findClass y.cls = some m.cls → meth.name = y.name → Z.Warmed39 s.vm → meth.sig.returnType = ret → meth.locks = false →
      Stand p l e rm s m as below meth c T [] 0 0 → T.heap = h0 → own_Run p e below (own_End s rm Q) (T.setTop (g0 m))) : own_Met l Z y bytes maxL ret rm as h0 Q := by
  intro ws
  refine MetFree.of_bodySF hpl hisR ?_
  intro p e s m args below meth c s₁ Bd hml0 hP hK
  obtain ⟨rfl, hZ, hh⟩ := hP
  rw [hg0]
  exact body p e s m below meth c s₁ Bd.exec Bd.bytes hml0 (findClass_of_methodNamed Bd.named) (name_of_methodNamed Bd.named Bd.method).1 hZ Bd.returns Bd.notSynchronized (Stand.of_body Bd) (by rw [← hh, Bd.state]; rfl)
theorem own_ret (X : Stand p l e R s m args below meth c T locs cells slots) {g : JFrame} {v : Option Value} {Q : Option Value → Heap → List Loc → Prop} (hv : meth.sig.returnType = none → v = none) (hlk : meth.locks = false) (hc : cells ≤ R.cells) (hs : slots ≤ R.slots)
    (st : ∀ fs, (∀ (f : JFrame) (acts : List Action), f.method = m → f.locked = none → f.entered = [] → (doReturn e (T.setTop f) acts v).1 = T.setFrames fs) → Steps p.tables e below (T.setTop g) (T.setFrames fs)) (hq : Q v T.heap locs) : own_Run p e below (own_End s R Q) (T.setTop g) := by
  obtain ⟨fs, hr, hrun, hended, hW, hsame⟩ := X.leave (v := v) hv hlk
  exact ⟨_, _, st fs hr, hrun, hended, _, _, rfl, hq, ⟨_, rfl⟩, hW, hsame.mono hc hs⟩
theorem own_retN (X : Stand p l e R s m args below meth c T locs cells slots) (hx : p.tables.exec = Jvm.exec) {t : FieldType} (hret : meth.sig.returnType = some t) (hlk : meth.locks = false) (ht : t = .boolean ∨ t = .byte ∨ t = .char ∨ t = .short) {pc : Nat} {Ls : Array Slot} {z : Int32} {rest : List Value} (hd : decode c.code pc = .ok (.ireturn, 1)) {Q : Option Value → Heap → List Loc → Prop} (hc : cells ≤ R.cells) (hs : slots ≤ R.slots)
    (hq : Q (some (.int (nar t z))) T.heap locs) : own_Run p e below (own_End s R Q) (T.setTop (mkF m pc Ls (.int z :: rest))) :=
  own_ret X (fun q => by rw [hret] at q; cases q) hlk hc hs (fun fs hr => retN X hx hret ht hd hr) hq
theorem own_retI (X : Stand p l e R s m args below meth c T locs cells slots) (hx : p.tables.exec = Jvm.exec) (hret : meth.sig.returnType = some .int) (hlk : meth.locks = false) {pc : Nat} {Ls : Array Slot} {z : Int32} {rest : List Value} (hd : decode c.code pc = .ok (.ireturn, 1)) {Q : Option Value → Heap → List Loc → Prop} (hc : cells ≤ R.cells) (hs : slots ≤ R.slots)
    (hq : Q (some (.int z)) T.heap locs) : own_Run p e below (own_End s R Q) (T.setTop (mkF m pc Ls (.int z :: rest))) :=
  own_ret X (fun q => by rw [hret] at q; cases q) hlk hc hs (fun fs hr => retOut X hx hret rfl (Or.inl ⟨rfl, Or.inl rfl, z, rfl⟩) hd hr) hq
theorem own_retJ (X : Stand p l e R s m args below meth c T locs cells slots) (hx : p.tables.exec = Jvm.exec) (hret : meth.sig.returnType = some .long) (hlk : meth.locks = false) {pc : Nat} {Ls : Array Slot} {z : Int64} {rest : List Value} (hd : decode c.code pc = .ok (.lreturn, 1)) {Q : Option Value → Heap → List Loc → Prop} (hc : cells ≤ R.cells) (hs : slots ≤ R.slots)
    (hq : Q (some (.long z)) T.heap locs) : own_Run p e below (own_End s R Q) (T.setTop (mkF m pc Ls (.long z :: rest))) :=
  own_ret X (fun q => by rw [hret] at q; cases q) hlk hc hs (fun fs hr => retOut X hx hret rfl (Or.inr (Or.inl ⟨rfl, rfl, z, rfl⟩)) hd hr) hq
theorem own_retA (X : Stand p l e R s m args below meth c T locs cells slots) (hx : p.tables.exec = Jvm.exec) {t : FieldType} (hret : meth.sig.returnType = some t) (hlk : meth.locks = false) (ht : t.isReference = true) {pc : Nat} {Ls : Array Slot} {w : Value} (hw : w.isRef = true) {rest : List Value} (hn : narrow t w = w) (hd : decode c.code pc = .ok (.areturn, 1)) {Q : Option Value → Heap → List Loc → Prop} (hc : cells ≤ R.cells) (hs : slots ≤ R.slots)
    (hq : Q (some w) T.heap locs) : own_Run p e below (own_End s R Q) (T.setTop (mkF m pc Ls (w :: rest))) :=
  own_ret X (fun q => by rw [hret] at q; cases q) hlk hc hs (fun fs hr => retOut X hx hret hn (Or.inr (Or.inr (Or.inr (Or.inr ⟨rfl, ht, hw⟩)))) hd hr) hq
theorem own_retV (X : Stand p l e R s m args below meth c T locs cells slots) (hx : p.tables.exec = Jvm.exec) (hret : meth.sig.returnType = none) (hlk : meth.locks = false) {pc : Nat} {Ls : Array Slot} (hd : decode c.code pc = .ok (.return_, 1)) {Q : Option Value → Heap → List Loc → Prop} (hc : cells ≤ R.cells) (hs : slots ≤ R.slots)
    (hq : Q none T.heap locs) : own_Run p e below (own_End s R Q) (T.setTop (mkF m pc Ls [])) :=
  own_ret X (fun _ => rfl) hlk hc hs (fun fs hr => X.returnOut hx hret hd hr) hq
/-! calls -/
theorem own_callS (X : Stand p l e R s m args below meth c T locs cells slots) (hx : p.tables.exec = Jvm.exec) (hZ : Z.Warmed39 s.vm) (eT : T.heap = h) {own : String} (hown : s.vm.findClass own = some m.cls) {index : Nat} (y : MethodName) {bytes : ByteArray} {maxL : Nat} {ret : Option FieldType} {rm : Room} {Q : Option Value → Heap → List Loc → Prop}
    (w1 : (Jvm.Cond.methodLink own index y).before a0 Z = true) (w2 : (Jvm.Cond.static y).before a0 Z = true) (w3 : (Jvm.Cond.initialized y.cls).before a0 Z = true) (w4 : (Jvm.Cond.code y bytes maxL ret).before a0 Z = true) (hy : y.cls ≠ "java/lang/invoke/MethodHandle" ∧ y.cls ≠ "java/lang/invoke/VarHandle")
    (argsL rest : List Value) (hM : own_Met l Z y bytes maxL ret rm argsL.toArray h Q) (hf : rm.frames + 1 ≤ R.frames) (W : Nat) (hl : W + (maxL + 11) + rm.locals ≤ R.locals) (hc : cells + rm.cells ≤ R.cells) (hs : slots + rm.slots ≤ R.slots)
    {g : JFrame} (hg : g.method = m) (hsize : g.locals.size = c.maxLocals) (hlen : ∀ sig, parseMethodDescriptor y.desc = some sig → argsL.length = sig.parameters.length) (hstack : g.stack = argsL.reverse ++ rest) (hW : 2 * g.monitorRoom + (rest.map fun v => v.category).sum ≤ W) (hd : decode c.code g.pc = .ok (.invokestatic index, 3))
    (k : ∀ (v : Option Value) (h' : Heap) (L : List Loc) (T' : State), Q v h' L → Stand p l e R s m args below meth c T' (locs ++ L) (cells + rm.cells) (slots + rm.slots) → T'.heap = h' → own_Run p e below Fin (T'.setTop { g with pc := g.pc + 3, stack := v.toList ++ rest })) : own_Run p e below Fin (T.setTop g) := by
  obtain ⟨v, _, ⟨T', L', k', n'⟩, -, X', ⟨Lc, hQ, l1, y1, z1⟩, st⟩ := Jvm.LawKit.callS X hx (y := y) hown (mvT hZ w1) (mvT hZ w2) (mvT hZ w3) (mvT hZ w4) hy (backOf (W := W) (hM []) hZ w4 w3 hf hl) hg hsize (argsL := argsL) (rest := rest) hlen hstack hW hd (fun _ _ => ⟨rfl, eT, hc, hs⟩)
  dsimp only [Pt.U, Pt.locs, Pt.cells, Pt.slots] at X' l1 y1 z1 st hQ
  subst l1 y1 z1
  exact own_go st (k v T'.heap Lc T' hQ X' rfl)
theorem own_callN (X : Stand p l e R s m args below meth c T locs cells slots) (hx : p.tables.exec = Jvm.exec) (hZ : Z.Warmed39 s.vm) (eT : T.heap = h) {own : String} (hown : s.vm.findClass own = some m.cls) {index : Nat} (y : MethodName) (hy1 : y.name = "<init>") {bytes : ByteArray} {maxL : Nat} {rm : Room} {Q : Option Value → Heap → List Loc → Prop}
    (w1 : (Jvm.Cond.methodLink own index y).before a0 Z = true) (w2 : (Jvm.Cond.instanceMethod y).before a0 Z = true) (w3 : (Jvm.Cond.initialized y.cls).before a0 Z = true) (w4 : (Jvm.Cond.code y bytes maxL none).before a0 Z = true) (hy : y.cls ≠ "java/lang/invoke/MethodHandle" ∧ y.cls ≠ "java/lang/invoke/VarHandle")
    (a : Addr) (argsL rest : List Value) (hM : own_Met l Z y bytes maxL none rm (.ref a :: argsL).toArray h Q) (hf : rm.frames + 1 ≤ R.frames) (W : Nat) (hl : W + (maxL + 11) + rm.locals ≤ R.locals) (hc : cells + rm.cells ≤ R.cells) (hs : slots + rm.slots ≤ R.slots)
    {g : JFrame} (hg : g.method = m) (hsize : g.locals.size = c.maxLocals) (hlen : ∀ sig, parseMethodDescriptor y.desc = some sig → argsL.length = sig.parameters.length) (hstack : g.stack = argsL.reverse ++ .ref a :: rest) (hW : 2 * g.monitorRoom + (rest.map fun v => v.category).sum ≤ W) (hd : decode c.code g.pc = .ok (.invokespecial index, 3))
    (k : ∀ (v : Option Value) (h' : Heap) (L : List Loc) (T' : State), Q v h' L → Stand p l e R s m args below meth c T' (locs ++ L) (cells + rm.cells) (slots + rm.slots) → T'.heap = h' → own_Run p e below Fin (T'.setTop { g with pc := g.pc + 3, stack := v.toList ++ rest })) : own_Run p e below Fin (T.setTop g) := by
  obtain ⟨v, _, ⟨T', L', k', n'⟩, -, X', ⟨Lc, hQ, l1, y1, z1⟩, st⟩ := X.specialBack hx (y := y) hy1 hown (mvT hZ w1) (mvT hZ w2) (mvT hZ w4) hy (backOf (W := W) (hM []) hZ w4 w3 hf hl) hg hsize (Steps.refl _) (a := a) (argsL := argsL) (rest := rest) hlen hstack hW hd (fun _ _ => ⟨rfl, eT, hc, hs⟩)
  dsimp only [Pt.U, Pt.locs, Pt.cells, Pt.slots] at X' l1 y1 z1 st hQ
  subst l1 y1 z1
  exact own_go (fun _ q => st.trans q) (k v T'.heap Lc T' hQ X' rfl)
theorem own_callV (X : Stand p l e R s m args below meth c T locs cells slots) (hx : p.tables.exec = Jvm.exec) (hZ : Z.Warmed39 s.vm) (eT : T.heap = h) {own : String} (hown : s.vm.findClass own = some m.cls) {index : Nat} (y : MethodName) {C : String} {bytes : ByteArray} {maxL : Nat} {ret : Option FieldType} {rm : Room} {Q : Option Value → Heap → List Loc → Prop}
    (w1 : (Jvm.Cond.methodLink own index y).before a0 Z = true) (w5 : (Jvm.Cond.declares y).before a0 Z = true) (w6 : (Jvm.Cond.selects C y y).before a0 Z = true) (w2 : (Jvm.Cond.instanceMethod y).before a0 Z = true) (w3 : (Jvm.Cond.initialized y.cls).before a0 Z = true) (w4 : (Jvm.Cond.code y bytes maxL ret).before a0 Z = true) (hy : y.cls ≠ "java/lang/invoke/MethodHandle" ∧ y.cls ≠ "java/lang/invoke/VarHandle")
    (a : Addr) (E : Exa Z h a C) (argsL rest : List Value) (hM : own_Met l Z y bytes maxL ret rm (.ref a :: argsL).toArray h Q) (hf : rm.frames + 1 ≤ R.frames) (W : Nat) (hl : W + (maxL + 11) + rm.locals ≤ R.locals) (hc : cells + rm.cells ≤ R.cells) (hs : slots + rm.slots ≤ R.slots)
    {g : JFrame} (hg : g.method = m) (hsize : g.locals.size = c.maxLocals) (hlen : ∀ sig, parseMethodDescriptor y.desc = some sig → argsL.length = sig.parameters.length) (hstack : g.stack = argsL.reverse ++ .ref a :: rest) (hW : 2 * g.monitorRoom + (rest.map fun v => v.category).sum ≤ W) (hd : decode c.code g.pc = .ok (.invokevirtual index, 3))
    (k : ∀ (v : Option Value) (h' : Heap) (L : List Loc) (T' : State), Q v h' L → Stand p l e R s m args below meth c T' (locs ++ L) (cells + rm.cells) (slots + rm.slots) → T'.heap = h' → own_Run p e below Fin (T'.setTop { g with pc := g.pc + 3, stack := v.toList ++ rest })) : own_Run p e below Fin (T.setTop g) := by
  obtain ⟨cq, kq, qa, qb, qc⟩ := isOf hZ eT E
  obtain ⟨v, _, ⟨T', L', k', n'⟩, -, X', ⟨Lc, hQ, l1, y1, z1⟩, st⟩ := X.virtualBack hx (y := y) (z := y) hown (mvT hZ w1) (mvT hZ w5) (notFace_of_selects (args := #[]) (mvT hZ w6)) (mvT hZ w6) (mvT hZ w2) hy (backOf (W := W) (hM []) hZ w4 w3 hf hl) qa qc hg hsize (Steps.refl _) (argsL := argsL) (rest := rest) hlen hstack hW hd (fun _ _ => ⟨rfl, eT, hc, hs⟩)
  dsimp only [Pt.U, Pt.locs, Pt.cells, Pt.slots] at X' l1 y1 z1 st hQ
  subst l1 y1 z1
  exact own_go (fun _ q => st.trans q) (k v T'.heap Lc T' hQ X' rfl)
/-! fields -/
theorem own_getF (X : Stand p l e R s m args below meth c T locs cells slots) (hx : p.tables.exec = Jvm.exec) (hZ : Z.Warmed39 s.vm) (eT : T.heap = h) {own O n d : String} (hown : s.vm.findClass own = some m.cls) {index : Nat} (w : (Jvm.Cond.fieldLink own index O n d).before a0 Z = true)
    {a : Addr} {v : Value} (F : Fld Z h a O n d v) {g : JFrame} (hg : g.method = m) {rest : List Value} (hs : g.stack = .ref a :: rest) (hd : decode c.code g.pc = .ok (.getfield index, 3))
    (k : ∀ T' : State, Stand p l e R s m args below meth c T' locs cells slots → T'.heap = h → own_Run p e below Fin (T'.setTop { g with pc := g.pc + 3, stack := v :: rest })) : own_Run p e below Fin (T.setTop g) := by
  obtain ⟨T', X', e', st⟩ := getF X hx hZ hown (host := "") (Or.inl w) Via.refl eT F hg hs hd
  exact own_go st (k T' X' e')
theorem own_putF (X : Stand p l e R s m args below meth c T locs cells slots) (hx : p.tables.exec = Jvm.exec) (hZ : Z.Warmed39 s.vm) (eT : T.heap = h) {own O n d C : String} (hown : s.vm.findClass own = some m.cls) {index kk : Nat} (ty : FieldType) (w : (Jvm.Cond.fieldLink own index O n d).before a0 Z = true)
    {a : Addr} {v v' old : Value} (F : Fld Z h a O n d old) (E : Exa Z h a C) (L : (Jvm.Cond.lays C O n d).before a0 Z = true ∨ ((Jvm.Cond.laysFinal C O n d).before a0 Z = true ∧ own = O ∧ meth.name = "<init>")) (wi : (Jvm.Cond.instantiable C kk).before a0 Z = true)
    (hty : parseFieldDescriptor d = some ty) (hn : narrow ty v = v') (hf : fits ty v' = true) {g : JFrame} (hg : g.method = m) {rest : List Value} (hs : g.stack = v :: .ref a :: rest) (hd : decode c.code g.pc = .ok (.putfield index, 3))
    (k : ∀ (T' : State) (h' : Heap), Stand p l e R s m args below meth c T' (locs ++ [⟨a, Jvm.RoadKit.slotOf Z O n d⟩]) cells slots → T'.heap = h' → Wr h h' a (Jvm.RoadKit.slotOf Z O n d) v' → own_Run p e below Fin (T'.setTop { g with pc := g.pc + 3, stack := rest })) : own_Run p e below Fin (T.setTop g) := by
  obtain ⟨T', h', X', e', W, st⟩ := putFN X hx hZ hown w Via.refl eT F E L wi hty hn hf hg hs hd
  exact own_go st (k T' h' X' e' W)
/-! fresh objects -/
theorem own_newO (X : Stand p l e R s m args below meth c T locs cells slots) (hx : p.tables.exec = Jvm.exec) (hZ : Z.Warmed39 s.vm) (eT : T.heap = h) {own C : String} {index n : Nat} (hown : s.vm.findClass own = some m.cls) (w : (Jvm.Cond.classLink own index C).before a0 Z = true) (wi : (Jvm.Cond.instantiable C n).before a0 Z = true) (wz : (Jvm.Cond.initialized C).before a0 Z = true)
    {g : JFrame} (hg : g.method = m) (hd : decode c.code g.pc = .ok (.new index, 3)) (hc : cells + 1 ≤ R.cells) (hl : slots + n ≤ R.slots)
    (k : ∀ (b : Addr) (T' : State) (h' : Heap), b = h.size → Stand p l e R s m args below meth c T' locs (cells + 1) (slots + n) → T'.heap = h' → Ext h h' → Exa Z h' b C → (∀ {O nm d : String} {ty : FieldType}, Laid Z a0 C O nm d → parseFieldDescriptor d = some ty → Fld Z h' b O nm d (defaultValue ty)) →
      own_Run p e below Fin (T'.setTop { g with pc := g.pc + 3, stack := .ref b :: g.stack })) : own_Run p e below Fin (T.setTop g) := by
  obtain ⟨T', h', X', e', E, A, D, -, st⟩ := newO X hx hZ hown w wi wz eT hg hd hc hl
  exact own_go st (k h.size T' h' rfl X' e' E A D)
/-! arrays: n places, place k holds f k -/
def own_Arr (Z : State) (h : Heap) (a : Addr) (ty : FieldType) (n : Nat) (f : Nat → Value) : Prop := ∃ cl : Cell, Arr Z h a cl ty ∧ cl.slots.size = n ∧ ∀ k, k < n → cl.slots[k]? = some (f k)
theorem own_Arr.lt {a : Addr} {ty : FieldType} {n : Nat} {f : Nat → Value} (F : own_Arr Z h a ty n f) : a < h.size := by obtain ⟨c, A, -⟩ := F; exact A.lt
theorem own_Arr.ext {a : Addr} {ty : FieldType} {n : Nat} {f : Nat → Value} (F : own_Arr Z h a ty n f) (E : Ext h h') : own_Arr Z h' a ty n f := by obtain ⟨c, A, r⟩ := F; exact ⟨c, A.ext E, r⟩
theorem own_Arr.other {a b : Addr} {sl : Nat} {v : Value} {ty : FieldType} {n : Nat} {f : Nat → Value} (F : own_Arr Z h b ty n f) (W : Wr h h' a sl v) (q : b ≠ a) : own_Arr Z h' b ty n f := by obtain ⟨c, A, r⟩ := F; exact ⟨c, A.other W q, r⟩
theorem own_Arr.keep {a : Addr} {ws : List Addr} {ty : FieldType} {n : Nat} {f : Nat → Value} (F : own_Arr Z h a ty n f) (K : Keep h h' ws) (q : a ∉ ws) : own_Arr Z h' a ty n f := by obtain ⟨c, A, r⟩ := F; exact ⟨c, ⟨K.2.1 a c A.1 q, A.2⟩, r⟩
theorem own_Arr.set {a : Addr} {j : Nat} {v : Value} {ty : FieldType} {n : Nat} {f : Nat → Value} (F : own_Arr Z h a ty n f) (W : Wr h h' a j v) (hj : j < n) : own_Arr Z h' a ty n (fun k => if k = j then v else f k) := by
  obtain ⟨cl, A, r1, r2⟩ := F
  refine ⟨_, A.same W, by rw [sz_set]; exact r1, fun k hk => ?_⟩
  by_cases q : k = j
  · subst q; simp [Cell.setSlot, r1, hj]
  · show (cl.setSlot j v).slots[k]? = some (if k = j then v else f k)
    rw [if_neg q]; exact (Array.getElem?_setIfInBounds_ne (Ne.symm q)).trans (r2 k hk)
theorem own_Arr.congr {a : Addr} {ty : FieldType} {n : Nat} {f f' : Nat → Value} (F : own_Arr Z h a ty n f) (q : ∀ k, k < n → f k = f' k) : own_Arr Z h a ty n f' := by
  obtain ⟨cl, A, r1, r2⟩ := F
  exact ⟨cl, A, r1, fun k hk => by rw [← q k hk]; exact r2 k hk⟩
theorem own_in {cl : Cell} {n : Nat} {j : Int32} (r : cl.slots.size = n) (hj : 0 ≤ j.toInt ∧ j.toInt < n) : ¬ (j < 0 ∨ cl.slots.size ≤ j.toNatClampNeg) := by
  have e0 : (0 : Int32).toInt = 0 := rfl
  simp only [Int32.lt_iff_toInt_lt, Int32.toNatClampNeg, r, e0]; omega
theorem own_idx {n : Nat} {j : Int32} (hj : 0 ≤ j.toInt ∧ j.toInt < n) : j.toNatClampNeg < n := by
  simp only [Int32.toNatClampNeg]; omega
theorem own_newP (X : Stand p l e R s m args below meth c T locs cells slots) (hx : p.tables.exec = Jvm.exec) (hZ : Z.Warmed39 s.vm) (eT : T.heap = h) {aty : ArrayType} (w : (Jvm.Cond.arrayClass (newarray.typeOf aty)).before a0 Z = true) {g : JFrame} (hg : g.method = m) (hd : decode c.code g.pc = .ok (.newarray aty, 2)) {z : Int32} {rest : List Value} (hs : g.stack = .int z :: rest)
    (n cap : Nat) (hn : z.toInt = n) (hcap : n ≤ cap) (hb : cap * 8 ≤ 536870912) (hc : cells + 1 ≤ R.cells) (hl : slots + cap ≤ R.slots) (ad : String) (had : "[" ++ (newarray.typeOf aty).toString = ad)
    (k : ∀ (b : Addr) (T' : State) (h' : Heap), b = h.size → Stand p l e R s m args below meth c T' locs (cells + 1) (slots + cap) → T'.heap = h' → Ext h h' → own_Arr Z h' b (newarray.typeOf aty) n (fun _ => defaultValue (newarray.typeOf aty)) → Exa Z h' b ad →
      own_Run p e below Fin (T'.setTop { g with pc := g.pc + 2, stack := .ref b :: rest })) : own_Run p e below Fin (T.setTop g) := by
  have hz : z.toNatClampNeg = n := by simp only [Int32.toNatClampNeg]; omega
  have e0 : (0 : Int32).toInt = 0 := rfl
  have hz0 : ¬ z < 0 := by rw [Int32.lt_iff_toInt_lt, e0]; omega
  obtain ⟨T', h', cA, X', e', E, A, Ex, st⟩ := newPE X hx hZ w eT hg hd hs (n := z) hz0 (cap := cap) (by omega) hb hc hl had
  exact own_go st (k h.size T' h' rfl X' e' E ⟨_, A, by rw [sz_new]; exact hz, fun i hi => by simp [newA, hz, hi]⟩ Ex)
theorem own_iastore (X : Stand p l e R s m args below meth c T locs cells slots) (hx : p.tables.exec = Jvm.exec) (hZ : Z.Warmed39 s.vm) (eT : T.heap = h) {a : Addr} {n : Nat} {f : Nat → Value} (A : own_Arr Z h a .int n f) {j x : Int32} (hj : 0 ≤ j.toInt ∧ j.toInt < n) {g : JFrame} (hg : g.method = m) {rest : List Value} (hs : g.stack = .int x :: .int j :: .ref a :: rest) (hd : decode c.code g.pc = .ok (.iastore, 1))
    (k : ∀ (T' : State) (h' : Heap), Stand p l e R s m args below meth c T' (locs ++ [⟨a, j.toNatClampNeg⟩]) cells slots → T'.heap = h' → Wr h h' a j.toNatClampNeg (.int x) → own_Arr Z h' a .int n (fun i => if i = j.toNatClampNeg then .int x else f i) → own_Run p e below Fin (T'.setTop { g with pc := g.pc + 1, stack := rest })) : own_Run p e below Fin (T.setTop g) := by
  obtain ⟨cl, A1, r1, r2⟩ := A
  obtain ⟨T', h', X', e', W, st⟩ := stI X hx hZ eT A1 (own_in r1 hj) hg hs hd
  exact own_go st (k T' h' X' e' W (own_Arr.set ⟨cl, A1, r1, r2⟩ W (own_idx hj)))
theorem own_bastore (X : Stand p l e R s m args below meth c T locs cells slots) (hx : p.tables.exec = Jvm.exec) (hZ : Z.Warmed39 s.vm) (eT : T.heap = h) {a : Addr} {n : Nat} {f : Nat → Value} (A : own_Arr Z h a .byte n f) {j x : Int32} (hj : 0 ≤ j.toInt ∧ j.toInt < n) {g : JFrame} (hg : g.method = m) {rest : List Value} (hs : g.stack = .int x :: .int j :: .ref a :: rest) (hd : decode c.code g.pc = .ok (.bastore, 1))
    (k : ∀ (T' : State) (h' : Heap), Stand p l e R s m args below meth c T' (locs ++ [⟨a, j.toNatClampNeg⟩]) cells slots → T'.heap = h' → Wr h h' a j.toNatClampNeg (.int (nar .byte x)) → own_Arr Z h' a .byte n (fun i => if i = j.toNatClampNeg then .int (nar .byte x) else f i) → own_Run p e below Fin (T'.setTop { g with pc := g.pc + 1, stack := rest })) : own_Run p e below Fin (T.setTop g) := by
  obtain ⟨cl, A1, r1, r2⟩ := A
  obtain ⟨T', h', X', e', W, st⟩ := stB X hx hZ eT A1 (own_in r1 hj) hg hs hd
  exact own_go st (k T' h' X' e' W (own_Arr.set ⟨cl, A1, r1, r2⟩ W (own_idx hj)))
theorem own_iaload (X : Stand p l e R s m args below meth c T locs cells slots) (hx : p.tables.exec = Jvm.exec) (hZ : Z.Warmed39 s.vm) (eT : T.heap = h) {a : Addr} {n : Nat} {f : Nat → Value} (A : own_Arr Z h a .int n f) {j : Int32} (v : Int32) (hj : 0 ≤ j.toInt ∧ j.toInt < n) (hv : f j.toNatClampNeg = .int v) {g : JFrame} (hg : g.method = m) {rest : List Value} (hs : g.stack = .int j :: .ref a :: rest) (hd : decode c.code g.pc = .ok (.iaload, 1))
    (k : own_Run p e below Fin (T.setTop { g with pc := g.pc + 1, stack := .int v :: rest })) : own_Run p e below Fin (T.setTop g) := by
  obtain ⟨cl, A1, r1, r2⟩ := A
  exact own_go (X.iaload hx (by rw [eT]; exact A1.1) (State.isArrayOf_alike hZ.alike A1.2.1) A1.2.2 (own_in r1 hj) ((r2 _ (own_idx hj)).trans (by rw [hv])) hg hs hd) k
theorem own_baload (X : Stand p l e R s m args below meth c T locs cells slots) (hx : p.tables.exec = Jvm.exec) (hZ : Z.Warmed39 s.vm) (eT : T.heap = h) {a : Addr} {n : Nat} {f : Nat → Value} (A : own_Arr Z h a .byte n f) {j : Int32} (v : Int32) (hj : 0 ≤ j.toInt ∧ j.toInt < n) (hv : f j.toNatClampNeg = .int v) {g : JFrame} (hg : g.method = m) {rest : List Value} (hs : g.stack = .int j :: .ref a :: rest) (hd : decode c.code g.pc = .ok (.baload, 1))
    (k : own_Run p e below Fin (T.setTop { g with pc := g.pc + 1, stack := .int v :: rest })) : own_Run p e below Fin (T.setTop g) := by
  obtain ⟨cl, A1, r1, r2⟩ := A
  exact own_go (X.baloadBytes hx (by rw [eT]; exact A1.1) (State.isArrayOf_alike hZ.alike A1.2.1) A1.2.2 (own_in r1 hj) ((r2 _ (own_idx hj)).trans (by rw [hv])) hg hs hd) k
theorem own_alen (X : Stand p l e R s m args below meth c T locs cells slots) (hx : p.tables.exec = Jvm.exec) (hZ : Z.Warmed39 s.vm) (eT : T.heap = h) {a : Addr} {ty : FieldType} {n : Nat} {f : Nat → Value} (A : own_Arr Z h a ty n f) (z : Int32) (hz : z.toInt = n) {g : JFrame} (hg : g.method = m) {rest : List Value} (hs : g.stack = .ref a :: rest) (hd : decode c.code g.pc = .ok (.arraylength, 1))
    (k : own_Run p e below Fin (T.setTop { g with pc := g.pc + 1, stack := .int z :: rest })) : own_Run p e below Fin (T.setTop g) := by
  obtain ⟨cl, A1, r1, r2⟩ := A
  have e0 : (0 : Int32).toInt = 0 := rfl
  have hz0 : ¬ z < 0 := by rw [Int32.lt_iff_toInt_lt, e0]; omega
  have q : cl.slots.size.toInt32 = z := len_of (by rw [r1]; simp only [Int32.toNatClampNeg]; omega) hz0
  exact own_go (X.arraylength hx (by rw [eT]; exact A1.1) (State.isArrayOf_alike hZ.alike A1.2.1) hg hs hd) (by rw [q]; exact k)
theorem own_clone (X : Stand p l e R s m args below meth c T locs cells slots) (hx : p.tables.exec = Jvm.exec) (hZ : Z.Warmed39 s.vm) (eT : T.heap = h) {own ad : String} {index : Nat} (hown : s.vm.findClass own = some m.cls)
    (w1 : (Jvm.Cond.methodLink own index ⟨ad, "clone", "()Ljava/lang/Object;"⟩).before a0 Z = true) (w2 : (Jvm.Cond.sameMethod ad "java/lang/Object" "clone" "()Ljava/lang/Object;").before a0 Z = true) (w3 : (Jvm.Cond.native ⟨"java/lang/Object", "clone", "()Ljava/lang/Object;"⟩).before a0 Z = true)
    (w4 : (Jvm.Cond.instanceMethod ⟨"java/lang/Object", "clone", "()Ljava/lang/Object;"⟩).before a0 Z = true) (w5 : (Jvm.Cond.selects ad ⟨ad, "clone", "()Ljava/lang/Object;"⟩ ⟨"java/lang/Object", "clone", "()Ljava/lang/Object;"⟩).before a0 Z = true) (w6 : (Jvm.Cond.castable ad "java/lang/Cloneable").before a0 Z = true)
    {a : Addr} {ty : FieldType} {n : Nat} {f : Nat → Value} (A : own_Arr Z h a ty n f) (E : Exa Z h a ad) (hfit : ∀ i, i < n → fits ty (f i) = true) {g : JFrame} (hg : g.method = m) (hsize : g.locals.size = c.maxLocals) {rest : List Value} (hs : g.stack = .ref a :: rest) (hd : decode c.code g.pc = .ok (.invokevirtual index, 3))
    (hf : 1 ≤ R.frames) (W cap : Nat) (hW : 2 * g.monitorRoom + (rest.map fun v => v.category).sum ≤ W) (hl : W + 14 ≤ R.locals) (hcap : n ≤ cap) (hc : cells + 1 ≤ R.cells) (hsl : slots + cap ≤ R.slots)
    (k : ∀ (b : Addr) (T' : State) (h' : Heap), b = h.size → Stand p l e R s m args below meth c T' locs (cells + 1) (slots + cap) → T'.heap = h' → Ext h h' → own_Arr Z h' b ty n f → Exa Z h' b ad → own_Run p e below Fin (T'.setTop { g with pc := g.pc + 3, stack := .ref b :: rest })) : own_Run p e below Fin (T.setTop g) := by
  obtain ⟨cl, A1, r1, r2⟩ := A
  have FC : FitC Z cl := fitC_of A1 fun i hi v hv => by
    rw [r2 i (by omega)] at hv; cases hv; exact hfit i (by omega)
  obtain ⟨T', h', X', e', ex, A', E', st⟩ := cloneA X hx hZ hown w1 w2 w3 w4 w5 w6 eT A1 E FC hg hsize hs hd hf hW hl (by omega) hc hsl
  exact own_go st (k h.size T' h' rfl X' e' ex ⟨cloneOf cl, A', r1, r2⟩ E')
theorem own_cast (X : Stand p l e R s m args below meth c T locs cells slots) (hx : p.tables.exec = Jvm.exec) (hZ : Z.Warmed39 s.vm) (eT : T.heap = h) {own K C : String} {index : Nat} (hown : s.vm.findClass own = some m.cls) (w : (Jvm.Cond.classLink own index K).before a0 Z = true) {a : Addr} (E : Exa Z h a C) (w2 : (Jvm.Cond.castable C K).before a0 Z = true)
    {g : JFrame} (hg : g.method = m) {rest : List Value} (hs : g.stack = .ref a :: rest) (hd : decode c.code g.pc = .ok (.checkcast index, 3))
    (k : ∀ T' : State, Stand p l e R s m args below meth c T' locs cells slots → T'.heap = h → own_Run p e below Fin (T'.setTop { g with pc := g.pc + 3 })) : own_Run p e below Fin (T.setTop g) := by
  obtain ⟨T', X', e', st⟩ := castY X hx hZ hown w eT (Ins.of_exa E w2) hg hs hd
  exact own_go st (k T' X' e')
/-! constants -/
theorem own_ldc (X : Stand p l e R s m args below meth c T locs cells slots) (hx : p.tables.exec = Jvm.exec) (hZ : Z.Warmed39 s.vm) {own : String} {index : Nat} {v : Int32} (hown : s.vm.findClass own = some m.cls) (w : (Jvm.Cond.constant own index v).before a0 Z = true) {g : JFrame} (hg : g.method = m) (hd : decode c.code g.pc = .ok (.ldc index, 2))
    (k : own_Run p e below Fin (T.setTop { g with pc := g.pc + 2, stack := .int v :: g.stack })) : own_Run p e below Fin (T.setTop g) := own_go (X.ldcInt hx hown (mvT hZ w) hg hd) k
theorem own_ldc2 (X : Stand p l e R s m args below meth c T locs cells slots) (hx : p.tables.exec = Jvm.exec) (hZ : Z.Warmed39 s.vm) {own : String} {index : Nat} {v : Int64} (hown : s.vm.findClass own = some m.cls) (w : (Jvm.Cond.constantLong own index v).before a0 Z = true) {g : JFrame} (hg : g.method = m) (hd : decode c.code g.pc = .ok (.ldc2_w index, 3))
    (k : own_Run p e below Fin (T.setTop { g with pc := g.pc + 3, stack := .long v :: g.stack })) : own_Run p e below Fin (T.setTop g) := own_go (X.ldc2Long hx hown (mvT hZ w) hg hd) k
theorem own_inj {x y : Int32} (q : x.toInt = y.toInt) : x = y := Int32.toInt_inj.mp q
theorem own_injL {x y : Int64} (q : x.toInt = y.toInt) : x = y := Int64.toInt_inj.mp q
end OwnKit
theorem own_oi (k : Nat) (h : k < 2147483648) : (Int32.ofInt (k : Int)).toInt = k := by rw [Int32.toInt_ofInt]; exact Int.bmod_eq_of_le (by have hs : Int32.size = 4294967296 := rfl; omega) (by have hs : Int32.size = 4294967296 := rfl; omega)
theorem own_ofn (j : Nat) (h : j < 2147483648) : (Int32.ofInt (j : Int)).toNatClampNeg = j := by have := own_oi j h; simp only [Int32.toNatClampNeg]; omega
theorem own_prev (j : Nat) (h : 1 ≤ j) : Int32.ofInt (j : Int) + (-1 : Int32) = Int32.ofInt ((j - 1 : Nat) : Int) := by
  rw [show (-1 : Int32) = Int32.ofInt (-1) from rfl, ← Int32.ofInt_add]; congr 1; omega
theorem own_all {P : Int32 → Prop} (n : Nat) (h : ∀ k : Fin n, P (Int32.ofInt ((k.1 : Nat) : Int))) (w : Int32) (h0 : 0 ≤ w.toInt) (h1 : w.toInt < n) : P w := by
  have e : w = Int32.ofInt ((w.toInt.toNat : Nat) : Int) := by rw [Int.toNat_of_nonneg h0]; exact (Int32.ofInt_toInt w).symm
  rw [e]; exact h ⟨w.toInt.toNat, by omega⟩
def own_isL (v : Value) : Prop := ∃ w : Int32, v = .int w ∧ ¬ (w &&& (192 : Int32)) = (128 : Int32)
def own_isC (v : Value) : Prop := ∃ w : Int32, v = .int w ∧ (w &&& (192 : Int32)) = (128 : Int32)
def own_up (f : Nat → Value) (t : Nat) (v : Value) : Nat → Value := fun i => if i = t then v else f i
theorem own_upc {j : Int32} {t : Nat} (h : j.toInt = (t : Int)) (f : Nat → Value) (v : Value) (i : Nat) : (fun i => if i = j.toNatClampNeg then v else f i) i = own_up f t v i := by
  have e : j.toNatClampNeg = t := by simp only [Int32.toNatClampNeg]; omega
  show (if i = j.toNatClampNeg then v else f i) = own_up f t v i
  rw [e]; rfl
theorem own_up_hit (f : Nat → Value) (t : Nat) (v : Value) {i : Nat} (h : i = t) : own_up f t v i = v := if_pos h
theorem own_up_miss (f : Nat → Value) (t : Nat) (v : Value) {i : Nat} (h : ¬ i = t) : own_up f t v i = f i := if_neg h
def own_put (f f' : Nat → Value) (t z : Nat) : Prop := own_isL (f' t) ∧ (∀ i, 1 ≤ i → i < z → own_isC (f' (t + i))) ∧ ∀ k, (k < t ∨ t + z ≤ k) → f' k = f k
def own_lead (sz xx : Int32) : Int32 := if sz = (1 : Int32) then (xx &&& (127 : Int32)) else if sz = (2 : Int32) then ((194 : Int32) + ((xx &&& (2147483647 : Int32)) % (30 : Int32))) else if sz = (3 : Int32) then ((224 : Int32) + ((xx &&& (2147483647 : Int32)) % (16 : Int32))) else ((240 : Int32) + ((xx &&& (2147483647 : Int32)) % (5 : Int32)))
theorem own_leadR (sz xx : Int32) : (0 ≤ (own_lead sz xx).toInt ∧ (own_lead sz xx).toInt < 128) ∨ (192 ≤ (own_lead sz xx).toInt ∧ (own_lead sz xx).toInt < 256) := by
  have hm := (c_and xx 2147483647 (by decide)).1
  have h127 := c_and xx 127 (by decide)
  have m1 := (c_irem (xx &&& (2147483647 : Int32)) 30 30 rfl).1 hm
  have m2 := (c_irem (xx &&& (2147483647 : Int32)) 16 16 rfl).1 hm
  have m3 := (c_irem (xx &&& (2147483647 : Int32)) 5 5 rfl).1 hm
  have a1 := c_iadd 194 ((xx &&& (2147483647 : Int32)) % (30 : Int32))
  have a2 := c_iadd 224 ((xx &&& (2147483647 : Int32)) % (16 : Int32))
  have a3 := c_iadd 240 ((xx &&& (2147483647 : Int32)) % (5 : Int32))
  have r1 := rng32 ((194 : Int32) + ((xx &&& (2147483647 : Int32)) % (30 : Int32)))
  have r2 := rng32 ((224 : Int32) + ((xx &&& (2147483647 : Int32)) % (16 : Int32)))
  have r3 := rng32 ((240 : Int32) + ((xx &&& (2147483647 : Int32)) % (5 : Int32)))
  have z1 : (127 : Int32).toInt = 127 := rfl
  have z2 : (194 : Int32).toInt = 194 := rfl
  have z3 : (224 : Int32).toInt = 224 := rfl
  have z4 : (240 : Int32).toInt = 240 := rfl
  unfold own_lead
  split
  · left; omega
  · split
    · right; omega
    · split
      · right; omega
      · right; omega
theorem own_leadL (sz xx : Int32) : own_isL (.int (nar .byte (own_lead sz xx).toInt8.toInt32)) := by
  refine ⟨_, rfl, ?_⟩
  rcases own_leadR sz xx with h | h
  · exact own_all (P := fun w => ¬ (nar .byte w.toInt8.toInt32 &&& (192 : Int32)) = (128 : Int32)) 128 (by decide +kernel) _ h.1 h.2
  · have q : ∀ w : Int32, 0 ≤ w.toInt → w.toInt < (256 : Nat) → 192 ≤ w.toInt → ¬ (nar .byte w.toInt8.toInt32 &&& (192 : Int32)) = (128 : Int32) := fun w h0 h1 => own_all (P := fun w => 192 ≤ w.toInt → ¬ (nar .byte w.toInt8.toInt32 &&& (192 : Int32)) = (128 : Int32)) 256 (by decide +kernel) w h0 h1
    exact q _ (by omega) h.2 h.1
theorem own_six (c : Int64) : 0 ≤ (c &&& (63 : Int64)).toInt32.toInt ∧ (c &&& (63 : Int64)).toInt32.toInt < (64 : Nat) := by
  have e : (c &&& 63).toInt = c.toInt % (2 ^ 6 : Nat) := c_maskL c 63 6 (by decide) (by decide)
  have q := c_l2i (c &&& (63 : Int64))
  have r := rng32 (c &&& (63 : Int64)).toInt32
  omega
abbrev own_okC (s : Int32) : Prop := (nar .byte s.toInt8.toInt32 &&& (192 : Int32)) = (128 : Int32)
theorem own_sec0 (w : Int32) (h0 : 0 ≤ w.toInt) (h1 : w.toInt < (64 : Nat)) : own_okC ((128 : Int32) ||| w) ∧ own_okC (((128 : Int32) ||| w) ||| (32 : Int32)) ∧ ((159 : Int32) < ((128 : Int32) ||| w) → own_okC (((128 : Int32) ||| w) &&& (159 : Int32))) ∧ own_okC (((128 : Int32) ||| w) ||| (16 : Int32)) ∧ ((143 : Int32) < ((128 : Int32) ||| w) → own_okC (((128 : Int32) ||| w) &&& (143 : Int32))) :=
  own_all (P := fun w => own_okC ((128 : Int32) ||| w) ∧ own_okC (((128 : Int32) ||| w) ||| (32 : Int32)) ∧ ((159 : Int32) < ((128 : Int32) ||| w) → own_okC (((128 : Int32) ||| w) &&& (159 : Int32))) ∧ own_okC (((128 : Int32) ||| w) ||| (16 : Int32)) ∧ ((143 : Int32) < ((128 : Int32) ||| w) → own_okC (((128 : Int32) ||| w) &&& (143 : Int32)))) 64 (by decide +kernel) w h0 h1
theorem own_sec (c : Int64) : own_isC (.int (nar .byte ((128 : Int32) ||| (c &&& (63 : Int64)).toInt32).toInt8.toInt32)) ∧ own_isC (.int (nar .byte (((128 : Int32) ||| (c &&& (63 : Int64)).toInt32) ||| (32 : Int32)).toInt8.toInt32)) ∧ ((159 : Int32) < ((128 : Int32) ||| (c &&& (63 : Int64)).toInt32) → own_isC (.int (nar .byte (((128 : Int32) ||| (c &&& (63 : Int64)).toInt32) &&& (159 : Int32)).toInt8.toInt32))) ∧ own_isC (.int (nar .byte (((128 : Int32) ||| (c &&& (63 : Int64)).toInt32) ||| (16 : Int32)).toInt8.toInt32)) ∧ ((143 : Int32) < ((128 : Int32) ||| (c &&& (63 : Int64)).toInt32) → own_isC (.int (nar .byte (((128 : Int32) ||| (c &&& (63 : Int64)).toInt32) &&& (143 : Int32)).toInt8.toInt32))) := by
  obtain ⟨h0, h1⟩ := own_six c
  obtain ⟨q1, q2, q3, q4, q5⟩ := own_sec0 _ h0 h1
  exact ⟨⟨_, rfl, q1⟩, ⟨_, rfl, q2⟩, fun w => ⟨_, rfl, q3 w⟩, ⟨_, rfl, q4⟩, fun w => ⟨_, rfl, q5 w⟩⟩
theorem own_con (c : Int64) : own_isC (.int (nar .byte ((128 : Int32) ||| (c &&& (63 : Int64)).toInt32).toInt8.toInt32)) := (own_sec c).1
theorem own_p1 {f : Nat → Value} {t z : Nat} {v0 : Value} (hz : z = 1) (h0 : own_isL v0) : own_put f (own_up f (t + 0) v0) t z := by
  subst hz
  exact ⟨by rw [own_up_hit _ _ _ (Nat.add_zero t).symm]; exact h0, fun i h1 h2 => absurd h1 (by omega), fun k hk => own_up_miss _ _ _ (by omega)⟩
theorem own_p2 {f : Nat → Value} {t z : Nat} {v0 v1 : Value} (hz : z = 2) (h0 : own_isL v0) (h1 : own_isC v1) : own_put f (own_up (own_up f (t + 0) v0) (t + 1) v1) t z := by
  subst hz
  refine ⟨by rw [own_up_miss _ _ _ (by omega), own_up_hit _ _ _ (Nat.add_zero t).symm]; exact h0, fun i g1 g2 => ?_, fun k hk => by rw [own_up_miss _ _ _ (by omega), own_up_miss _ _ _ (by omega)]⟩
  rw [own_up_hit _ _ _ (by omega)]; exact h1
theorem own_p3 {f : Nat → Value} {t z : Nat} {v0 v1 v2 : Value} (hz : z = 3) (h0 : own_isL v0) (h1 : own_isC v1) (h2 : own_isC v2) : own_put f (own_up (own_up (own_up f (t + 0) v0) (t + 1) v1) (t + 2) v2) t z := by
  subst hz
  refine ⟨by rw [own_up_miss _ _ _ (by omega), own_up_miss _ _ _ (by omega), own_up_hit _ _ _ (Nat.add_zero t).symm]; exact h0, fun i g1 g2 => ?_, fun k hk => by rw [own_up_miss _ _ _ (by omega), own_up_miss _ _ _ (by omega), own_up_miss _ _ _ (by omega)]⟩
  by_cases q : i = 2
  · rw [own_up_hit _ _ _ (by omega)]; exact h2
  · rw [own_up_miss _ _ _ (by omega), own_up_hit _ _ _ (by omega)]; exact h1
theorem own_p4 {f : Nat → Value} {t z : Nat} {v0 v1 v2 v3 : Value} (hz : z = 4) (h0 : own_isL v0) (h1 : own_isC v1) (h2 : own_isC v2) (h3 : own_isC v3) : own_put f (own_up (own_up (own_up (own_up f (t + 0) v0) (t + 1) v1) (t + 2) v2) (t + 3) v3) t z := by
  subst hz
  refine ⟨by rw [own_up_miss _ _ _ (by omega), own_up_miss _ _ _ (by omega), own_up_miss _ _ _ (by omega), own_up_hit _ _ _ (Nat.add_zero t).symm]; exact h0, fun i g1 g2 => ?_, fun k hk => by rw [own_up_miss _ _ _ (by omega), own_up_miss _ _ _ (by omega), own_up_miss _ _ _ (by omega), own_up_miss _ _ _ (by omega)]⟩
  by_cases q : i = 3
  · rw [own_up_hit _ _ _ (by omega)]; exact h3
  · rw [own_up_miss _ _ _ (by omega)]
    by_cases q : i = 2
    · rw [own_up_hit _ _ _ (by omega)]; exact h2
    · rw [own_up_miss _ _ _ (by omega), own_up_hit _ _ _ (by omega)]; exact h1
theorem own_fin {F f1 f2 : Nat → Value} {na nb : Nat} (hF : ∀ k, k < 8 → own_isL (F k)) (h1 : own_put F f1 0 na) (h2 : own_put f1 f2 na nb) : (own_isL (f2 0) ∧ ∀ j, 0 < j → j < na → own_isC (f2 j)) ∧ (own_isL (f2 na) ∧ ∀ j, na < j → j < na + nb → own_isC (f2 j)) ∧ ∀ j, na + nb ≤ j → j < 8 → own_isL (f2 j) := by
  obtain ⟨a1, a2, a3⟩ := h1
  obtain ⟨b1, b2, b3⟩ := h2
  refine ⟨⟨?_, fun j p q => ?_⟩, ⟨b1, fun j p q => ?_⟩, fun j p q => ?_⟩
  · by_cases z : 0 < na
    · rw [b3 0 (Or.inl z)]; exact a1
    · have e : na = 0 := by omega
      subst e; exact b1
  · rw [b3 j (Or.inl q)]
    have := a2 j (by omega) q
    rw [Nat.zero_add] at this; exact this
  · have := b2 (j - na) (by omega) (by omega)
    rw [show na + (j - na) = j by omega] at this; exact this
  · rw [b3 j (Or.inr p), a3 j (Or.inr (by omega))]; exact hF j q
theorem own_padL (y pad : Int32) (h : (y &&& (127 : Int32)).toInt8.toInt32 = pad) : own_isL (.int (nar .byte pad)) := by
  subst h
  have q := c_and y 127 (by decide)
  have z : (127 : Int32).toInt = 127 := rfl
  exact ⟨_, rfl, own_all (P := fun w => ¬ (nar .byte w.toInt8.toInt32 &&& (192 : Int32)) = (128 : Int32)) 128 (by decide +kernel) _ q.1 (by omega)⟩
theorem own_size (y : Int32) : 1 ≤ ((1 : Int32) + (y &&& (3 : Int32))).toInt ∧ ((1 : Int32) + (y &&& (3 : Int32))).toInt ≤ 4 := by
  have q := c_and y 3 (by decide)
  have z : (3 : Int32).toInt = 3 := rfl
  have z1 : (1 : Int32).toInt = 1 := rfl
  have a := c_iadd 1 (y &&& (3 : Int32))
  have r := rng32 ((1 : Int32) + (y &&& (3 : Int32)))
  omega
theorem own_rem8 (y : Int32) : 0 ≤ ((y &&& (2147483647 : Int32)) % (8 : Int32)).toInt ∧ ((y &&& (2147483647 : Int32)) % (8 : Int32)).toInt < 8 := by
  have q := (c_and y 2147483647 (by decide)).1
  have m := (c_irem (y &&& (2147483647 : Int32)) 8 8 rfl).1 q
  omega
theorem own_all8 (P : Value) (g : Nat → Value) (i : Nat) (h : i < 8) : own_up (own_up (own_up (own_up (own_up (own_up (own_up (own_up g 0 P) 1 P) 2 P) 3 P) 4 P) 5 P) 6 P) 7 P i = (fun _ => P) i := by
  unfold own_up
  repeat' split
  all_goals first | rfl | omega
theorem d0_0 : decode method_2_code 0 = .ok (.iload_n 1, 1) := by decide +kernel
theorem d0_1 : decode method_2_code 1 = .ok (.ldc 7, 2) := by decide +kernel
theorem d0_3 : decode method_2_code 3 = .ok (.iand, 1) := by decide +kernel
theorem d0_4 : decode method_2_code 4 = .ok (.istore_n 2, 1) := by decide +kernel
theorem d0_5 : decode method_2_code 5 = .ok (.iload_n 0, 1) := by decide +kernel
theorem d0_6 : decode method_2_code 6 = .ok (.iconst 1, 1) := by decide +kernel
theorem d0_7 : decode method_2_code 7 = .ok (.if_icmp .ne 11, 3) := by decide +kernel
theorem d0_10 : decode method_2_code 10 = .ok (.iload_n 1, 1) := by decide +kernel
theorem d0_11 : decode method_2_code 11 = .ok (.bipush 127, 2) := by decide +kernel
theorem d0_13 : decode method_2_code 13 = .ok (.iand, 1) := by decide +kernel
theorem d0_14 : decode method_2_code 14 = .ok (.istore_n 3, 1) := by decide +kernel
theorem d0_15 : decode method_2_code 15 = .ok (.goto 45, 3) := by decide +kernel
theorem d0_18 : decode method_2_code 18 = .ok (.iload_n 0, 1) := by decide +kernel
theorem d0_19 : decode method_2_code 19 = .ok (.iconst 2, 1) := by decide +kernel
theorem d0_20 : decode method_2_code 20 = .ok (.if_icmp .ne 15, 3) := by decide +kernel
theorem d0_23 : decode method_2_code 23 = .ok (.sipush 194, 3) := by decide +kernel
theorem d0_26 : decode method_2_code 26 = .ok (.iload_n 2, 1) := by decide +kernel
theorem d0_27 : decode method_2_code 27 = .ok (.bipush 30, 2) := by decide +kernel
theorem d0_29 : decode method_2_code 29 = .ok (.irem, 1) := by decide +kernel
theorem d0_30 : decode method_2_code 30 = .ok (.iadd, 1) := by decide +kernel
theorem d0_31 : decode method_2_code 31 = .ok (.istore_n 3, 1) := by decide +kernel
theorem d0_32 : decode method_2_code 32 = .ok (.goto 28, 3) := by decide +kernel
theorem d0_35 : decode method_2_code 35 = .ok (.iload_n 0, 1) := by decide +kernel
theorem d0_36 : decode method_2_code 36 = .ok (.iconst 3, 1) := by decide +kernel
theorem d0_37 : decode method_2_code 37 = .ok (.if_icmp .ne 15, 3) := by decide +kernel
theorem d0_40 : decode method_2_code 40 = .ok (.sipush 224, 3) := by decide +kernel
theorem d0_43 : decode method_2_code 43 = .ok (.iload_n 2, 1) := by decide +kernel
theorem d0_44 : decode method_2_code 44 = .ok (.bipush 16, 2) := by decide +kernel
theorem d0_46 : decode method_2_code 46 = .ok (.irem, 1) := by decide +kernel
theorem d0_47 : decode method_2_code 47 = .ok (.iadd, 1) := by decide +kernel
theorem d0_48 : decode method_2_code 48 = .ok (.istore_n 3, 1) := by decide +kernel
theorem d0_49 : decode method_2_code 49 = .ok (.goto 11, 3) := by decide +kernel
theorem d0_52 : decode method_2_code 52 = .ok (.sipush 240, 3) := by decide +kernel
theorem d0_55 : decode method_2_code 55 = .ok (.iload_n 2, 1) := by decide +kernel
theorem d0_56 : decode method_2_code 56 = .ok (.iconst 5, 1) := by decide +kernel
theorem d0_57 : decode method_2_code 57 = .ok (.irem, 1) := by decide +kernel
theorem d0_58 : decode method_2_code 58 = .ok (.iadd, 1) := by decide +kernel
theorem d0_59 : decode method_2_code 59 = .ok (.istore_n 3, 1) := by decide +kernel
theorem d0_60 : decode method_2_code 60 = .ok (.iload_n 3, 1) := by decide +kernel
theorem d0_61 : decode method_2_code 61 = .ok (.ireturn, 1) := by decide +kernel
abbrev Q_lead (Z : State) (sz : Int32) (xx : Int32) (h0 : Heap) : Option Value → Heap → List Loc → Prop := fun v h L => v = some (.int (own_lead sz xx)) ∧ h0 = h ∧ L = []
set_option maxRecDepth 65536 in
set_option maxHeartbeats 40000000 in
theorem rm_lead (l : Launch) (Z : State) (a0 : Array Value) (hw : ∀ d ∈ tables_1, d.before a0 Z = true) (sz : Int32) (xx : Int32) (h0 : Heap)  :
    own_Met l Z (⟨"com/example/quillwire/quillwire/binary/Utf8CharStartPinLaw", "leadByte", "(II)I"⟩ : MethodName) method_2_code 4 (some .int) ({ frames := 0, cells := 0, slots := 0, locals := 0 } : Room) #[(.int sz), (.int xx)] h0 (Q_lead Z sz xx h0) := by
  refine own_enter (g0 := fun m => (mkF m 0 #[.val (.int sz), .val (.int xx), .unset, .unset] [])) (plainFor_of_name (by first | (simp [plainName, overriddenIn]; done) | decide +kernel)) (fun m => by first | (simp [entryFrame, mkF, argsToLocals, Value.category]; done) | rfl) ?_
  intro p e s m below meth c T hx hby hml hown hnm hZ hret hlk X e0
  replace hown : s.vm.findClass "com/example/quillwire/quillwire/binary/Utf8CharStartPinLaw" = some m.cls := hown
  show own_Run p e below _ (T.setTop (mkF m 0 #[.val (.int sz), .val (.int xx), .unset, .unset] []))
  refine own_go (fun _ kS => XS.iloadN X.here hx rfl (hb hby d0_0) rfl kS) ?_
  show own_Run p e below _ (T.setTop (mkF m 1 #[.val (.int sz), .val (.int xx), .unset, .unset] [(.int xx)]))
  refine own_ldc X hx hZ hown (hw _ (List.mem_of_getElem? (i := 8) rfl)) rfl (hb hby d0_1) ?_
  show own_Run p e below _ (T.setTop (mkF m 3 #[.val (.int sz), .val (.int xx), .unset, .unset] [(.int (2147483647 : Int32)), (.int xx)]))
  refine own_go (fun _ kS => XS.iand X.here hx rfl (hb hby d0_3) rfl kS) ?_
  show own_Run p e below _ (T.setTop (mkF m 4 #[.val (.int sz), .val (.int xx), .unset, .unset] [(.int (xx &&& (2147483647 : Int32)))]))
  refine own_go (fun _ kS => XS.istoreN X.here hx rfl (hb hby d0_4) rfl (l' := #[.val (.int sz), .val (.int xx), .val (.int (xx &&& (2147483647 : Int32))), .unset]) rfl kS) ?_
  show own_Run p e below _ (T.setTop (mkF m 5 #[.val (.int sz), .val (.int xx), .val (.int (xx &&& (2147483647 : Int32))), .unset] []))
  refine own_go (fun _ kS => XS.iloadN X.here hx rfl (hb hby d0_5) rfl kS) ?_
  show own_Run p e below _ (T.setTop (mkF m 6 #[.val (.int sz), .val (.int xx), .val (.int (xx &&& (2147483647 : Int32))), .unset] [(.int sz)]))
  refine own_go (fun _ kS => XS.iconst X.here hx rfl (hb hby d0_6) kS) ?_
  show own_Run p e below _ (T.setTop (mkF m 7 #[.val (.int sz), .val (.int xx), .val (.int (xx &&& (2147483647 : Int32))), .unset] [(.int (1 : Int32)), (.int sz)]))
  by_cases hc7 : sz = (1 : Int32)
  · refine own_go (fun _ kS => XS.icmpNo X.here hx rfl (hb hby d0_7) rfl (teq hc7).2 kS) ?_
    show own_Run p e below _ (T.setTop (mkF m 10 #[.val (.int sz), .val (.int xx), .val (.int (xx &&& (2147483647 : Int32))), .unset] []))
    refine own_go (fun _ kS => XS.iloadN X.here hx rfl (hb hby d0_10) rfl kS) ?_
    show own_Run p e below _ (T.setTop (mkF m 11 #[.val (.int sz), .val (.int xx), .val (.int (xx &&& (2147483647 : Int32))), .unset] [(.int xx)]))
    refine own_go (fun _ kS => XS.bipush X.here hx rfl (hb hby d0_11) kS) ?_
    show own_Run p e below _ (T.setTop (mkF m 13 #[.val (.int sz), .val (.int xx), .val (.int (xx &&& (2147483647 : Int32))), .unset] [(.int (127 : Int32)), (.int xx)]))
    refine own_go (fun _ kS => XS.iand X.here hx rfl (hb hby d0_13) rfl kS) ?_
    show own_Run p e below _ (T.setTop (mkF m 14 #[.val (.int sz), .val (.int xx), .val (.int (xx &&& (2147483647 : Int32))), .unset] [(.int (xx &&& (127 : Int32)))]))
    refine own_go (fun _ kS => XS.istoreN X.here hx rfl (hb hby d0_14) rfl (l' := #[.val (.int sz), .val (.int xx), .val (.int (xx &&& (2147483647 : Int32))), .val (.int (xx &&& (127 : Int32)))]) rfl kS) ?_
    show own_Run p e below _ (T.setTop (mkF m 15 #[.val (.int sz), .val (.int xx), .val (.int (xx &&& (2147483647 : Int32))), .val (.int (xx &&& (127 : Int32)))] []))
    refine own_go (fun _ kS => XS.goto X.here hx rfl (pc0 := 15) (pc' := 60) rfl (hb hby d0_15) (by decide) (by decide) kS) ?_
    show own_Run p e below _ (T.setTop (mkF m 60 #[.val (.int sz), .val (.int xx), .val (.int (xx &&& (2147483647 : Int32))), .val (.int (xx &&& (127 : Int32)))] []))
    refine own_go (fun _ kS => XS.iloadN X.here hx rfl (hb hby d0_60) rfl kS) ?_
    show own_Run p e below _ (T.setTop (mkF m 61 #[.val (.int sz), .val (.int xx), .val (.int (xx &&& (2147483647 : Int32))), .val (.int (xx &&& (127 : Int32)))] [(.int (xx &&& (127 : Int32)))]))
    refine own_retI X hx hret hlk (hb hby d0_61) (by decide) (by decide) ?_
    exact ⟨by rw [(by unfold own_lead; rw [if_pos hc7] : own_lead sz xx = (xx &&& (127 : Int32)))], e0.symm, rfl⟩
  · refine own_go (fun _ kS => XS.icmpYes X.here hx rfl (pc0 := 7) (pc' := 18) rfl (hb hby d0_7) rfl (feq hc7).2 (by decide) (by decide) kS) ?_
    show own_Run p e below _ (T.setTop (mkF m 18 #[.val (.int sz), .val (.int xx), .val (.int (xx &&& (2147483647 : Int32))), .unset] []))
    refine own_go (fun _ kS => XS.iloadN X.here hx rfl (hb hby d0_18) rfl kS) ?_
    show own_Run p e below _ (T.setTop (mkF m 19 #[.val (.int sz), .val (.int xx), .val (.int (xx &&& (2147483647 : Int32))), .unset] [(.int sz)]))
    refine own_go (fun _ kS => XS.iconst X.here hx rfl (hb hby d0_19) kS) ?_
    show own_Run p e below _ (T.setTop (mkF m 20 #[.val (.int sz), .val (.int xx), .val (.int (xx &&& (2147483647 : Int32))), .unset] [(.int (2 : Int32)), (.int sz)]))
    by_cases hc20 : sz = (2 : Int32)
    · refine own_go (fun _ kS => XS.icmpNo X.here hx rfl (hb hby d0_20) rfl (teq hc20).2 kS) ?_
      show own_Run p e below _ (T.setTop (mkF m 23 #[.val (.int sz), .val (.int xx), .val (.int (xx &&& (2147483647 : Int32))), .unset] []))
      refine own_go (fun _ kS => XS.sipush X.here hx rfl (hb hby d0_23) kS) ?_
      show own_Run p e below _ (T.setTop (mkF m 26 #[.val (.int sz), .val (.int xx), .val (.int (xx &&& (2147483647 : Int32))), .unset] [(.int (194 : Int32))]))
      refine own_go (fun _ kS => XS.iloadN X.here hx rfl (hb hby d0_26) rfl kS) ?_
      show own_Run p e below _ (T.setTop (mkF m 27 #[.val (.int sz), .val (.int xx), .val (.int (xx &&& (2147483647 : Int32))), .unset] [(.int (xx &&& (2147483647 : Int32))), (.int (194 : Int32))]))
      refine own_go (fun _ kS => XS.bipush X.here hx rfl (hb hby d0_27) kS) ?_
      show own_Run p e below _ (T.setTop (mkF m 29 #[.val (.int sz), .val (.int xx), .val (.int (xx &&& (2147483647 : Int32))), .unset] [(.int (30 : Int32)), (.int (xx &&& (2147483647 : Int32))), (.int (194 : Int32))]))
      refine own_go (fun _ kS => iremM X hx rfl (hb hby d0_29) rfl (by decide) kS) ?_
      show own_Run p e below _ (T.setTop (mkF m 30 #[.val (.int sz), .val (.int xx), .val (.int (xx &&& (2147483647 : Int32))), .unset] [(.int ((xx &&& (2147483647 : Int32)) % (30 : Int32))), (.int (194 : Int32))]))
      refine own_go (fun _ kS => XS.iadd X.here hx rfl (hb hby d0_30) rfl kS) ?_
      show own_Run p e below _ (T.setTop (mkF m 31 #[.val (.int sz), .val (.int xx), .val (.int (xx &&& (2147483647 : Int32))), .unset] [(.int ((194 : Int32) + ((xx &&& (2147483647 : Int32)) % (30 : Int32))))]))
      refine own_go (fun _ kS => XS.istoreN X.here hx rfl (hb hby d0_31) rfl (l' := #[.val (.int sz), .val (.int xx), .val (.int (xx &&& (2147483647 : Int32))), .val (.int ((194 : Int32) + ((xx &&& (2147483647 : Int32)) % (30 : Int32))))]) rfl kS) ?_
      show own_Run p e below _ (T.setTop (mkF m 32 #[.val (.int sz), .val (.int xx), .val (.int (xx &&& (2147483647 : Int32))), .val (.int ((194 : Int32) + ((xx &&& (2147483647 : Int32)) % (30 : Int32))))] []))
      refine own_go (fun _ kS => XS.goto X.here hx rfl (pc0 := 32) (pc' := 60) rfl (hb hby d0_32) (by decide) (by decide) kS) ?_
      show own_Run p e below _ (T.setTop (mkF m 60 #[.val (.int sz), .val (.int xx), .val (.int (xx &&& (2147483647 : Int32))), .val (.int ((194 : Int32) + ((xx &&& (2147483647 : Int32)) % (30 : Int32))))] []))
      refine own_go (fun _ kS => XS.iloadN X.here hx rfl (hb hby d0_60) rfl kS) ?_
      show own_Run p e below _ (T.setTop (mkF m 61 #[.val (.int sz), .val (.int xx), .val (.int (xx &&& (2147483647 : Int32))), .val (.int ((194 : Int32) + ((xx &&& (2147483647 : Int32)) % (30 : Int32))))] [(.int ((194 : Int32) + ((xx &&& (2147483647 : Int32)) % (30 : Int32))))]))
      refine own_retI X hx hret hlk (hb hby d0_61) (by decide) (by decide) ?_
      exact ⟨by rw [(by unfold own_lead; rw [if_neg hc7, if_pos hc20] : own_lead sz xx = ((194 : Int32) + ((xx &&& (2147483647 : Int32)) % (30 : Int32))))], e0.symm, rfl⟩
    · refine own_go (fun _ kS => XS.icmpYes X.here hx rfl (pc0 := 20) (pc' := 35) rfl (hb hby d0_20) rfl (feq hc20).2 (by decide) (by decide) kS) ?_
      show own_Run p e below _ (T.setTop (mkF m 35 #[.val (.int sz), .val (.int xx), .val (.int (xx &&& (2147483647 : Int32))), .unset] []))
      refine own_go (fun _ kS => XS.iloadN X.here hx rfl (hb hby d0_35) rfl kS) ?_
      show own_Run p e below _ (T.setTop (mkF m 36 #[.val (.int sz), .val (.int xx), .val (.int (xx &&& (2147483647 : Int32))), .unset] [(.int sz)]))
      refine own_go (fun _ kS => XS.iconst X.here hx rfl (hb hby d0_36) kS) ?_
      show own_Run p e below _ (T.setTop (mkF m 37 #[.val (.int sz), .val (.int xx), .val (.int (xx &&& (2147483647 : Int32))), .unset] [(.int (3 : Int32)), (.int sz)]))
      by_cases hc37 : sz = (3 : Int32)
      · refine own_go (fun _ kS => XS.icmpNo X.here hx rfl (hb hby d0_37) rfl (teq hc37).2 kS) ?_
        show own_Run p e below _ (T.setTop (mkF m 40 #[.val (.int sz), .val (.int xx), .val (.int (xx &&& (2147483647 : Int32))), .unset] []))
        refine own_go (fun _ kS => XS.sipush X.here hx rfl (hb hby d0_40) kS) ?_
        show own_Run p e below _ (T.setTop (mkF m 43 #[.val (.int sz), .val (.int xx), .val (.int (xx &&& (2147483647 : Int32))), .unset] [(.int (224 : Int32))]))
        refine own_go (fun _ kS => XS.iloadN X.here hx rfl (hb hby d0_43) rfl kS) ?_
        show own_Run p e below _ (T.setTop (mkF m 44 #[.val (.int sz), .val (.int xx), .val (.int (xx &&& (2147483647 : Int32))), .unset] [(.int (xx &&& (2147483647 : Int32))), (.int (224 : Int32))]))
        refine own_go (fun _ kS => XS.bipush X.here hx rfl (hb hby d0_44) kS) ?_
        show own_Run p e below _ (T.setTop (mkF m 46 #[.val (.int sz), .val (.int xx), .val (.int (xx &&& (2147483647 : Int32))), .unset] [(.int (16 : Int32)), (.int (xx &&& (2147483647 : Int32))), (.int (224 : Int32))]))
        refine own_go (fun _ kS => iremM X hx rfl (hb hby d0_46) rfl (by decide) kS) ?_
        show own_Run p e below _ (T.setTop (mkF m 47 #[.val (.int sz), .val (.int xx), .val (.int (xx &&& (2147483647 : Int32))), .unset] [(.int ((xx &&& (2147483647 : Int32)) % (16 : Int32))), (.int (224 : Int32))]))
        refine own_go (fun _ kS => XS.iadd X.here hx rfl (hb hby d0_47) rfl kS) ?_
        show own_Run p e below _ (T.setTop (mkF m 48 #[.val (.int sz), .val (.int xx), .val (.int (xx &&& (2147483647 : Int32))), .unset] [(.int ((224 : Int32) + ((xx &&& (2147483647 : Int32)) % (16 : Int32))))]))
        refine own_go (fun _ kS => XS.istoreN X.here hx rfl (hb hby d0_48) rfl (l' := #[.val (.int sz), .val (.int xx), .val (.int (xx &&& (2147483647 : Int32))), .val (.int ((224 : Int32) + ((xx &&& (2147483647 : Int32)) % (16 : Int32))))]) rfl kS) ?_
        show own_Run p e below _ (T.setTop (mkF m 49 #[.val (.int sz), .val (.int xx), .val (.int (xx &&& (2147483647 : Int32))), .val (.int ((224 : Int32) + ((xx &&& (2147483647 : Int32)) % (16 : Int32))))] []))
        refine own_go (fun _ kS => XS.goto X.here hx rfl (pc0 := 49) (pc' := 60) rfl (hb hby d0_49) (by decide) (by decide) kS) ?_
        show own_Run p e below _ (T.setTop (mkF m 60 #[.val (.int sz), .val (.int xx), .val (.int (xx &&& (2147483647 : Int32))), .val (.int ((224 : Int32) + ((xx &&& (2147483647 : Int32)) % (16 : Int32))))] []))
        refine own_go (fun _ kS => XS.iloadN X.here hx rfl (hb hby d0_60) rfl kS) ?_
        show own_Run p e below _ (T.setTop (mkF m 61 #[.val (.int sz), .val (.int xx), .val (.int (xx &&& (2147483647 : Int32))), .val (.int ((224 : Int32) + ((xx &&& (2147483647 : Int32)) % (16 : Int32))))] [(.int ((224 : Int32) + ((xx &&& (2147483647 : Int32)) % (16 : Int32))))]))
        refine own_retI X hx hret hlk (hb hby d0_61) (by decide) (by decide) ?_
        exact ⟨by rw [(by unfold own_lead; rw [if_neg hc7, if_neg hc20, if_pos hc37] : own_lead sz xx = ((224 : Int32) + ((xx &&& (2147483647 : Int32)) % (16 : Int32))))], e0.symm, rfl⟩
      · refine own_go (fun _ kS => XS.icmpYes X.here hx rfl (pc0 := 37) (pc' := 52) rfl (hb hby d0_37) rfl (feq hc37).2 (by decide) (by decide) kS) ?_
        show own_Run p e below _ (T.setTop (mkF m 52 #[.val (.int sz), .val (.int xx), .val (.int (xx &&& (2147483647 : Int32))), .unset] []))
        refine own_go (fun _ kS => XS.sipush X.here hx rfl (hb hby d0_52) kS) ?_
        show own_Run p e below _ (T.setTop (mkF m 55 #[.val (.int sz), .val (.int xx), .val (.int (xx &&& (2147483647 : Int32))), .unset] [(.int (240 : Int32))]))
        refine own_go (fun _ kS => XS.iloadN X.here hx rfl (hb hby d0_55) rfl kS) ?_
        show own_Run p e below _ (T.setTop (mkF m 56 #[.val (.int sz), .val (.int xx), .val (.int (xx &&& (2147483647 : Int32))), .unset] [(.int (xx &&& (2147483647 : Int32))), (.int (240 : Int32))]))
        refine own_go (fun _ kS => XS.iconst X.here hx rfl (hb hby d0_56) kS) ?_
        show own_Run p e below _ (T.setTop (mkF m 57 #[.val (.int sz), .val (.int xx), .val (.int (xx &&& (2147483647 : Int32))), .unset] [(.int (5 : Int32)), (.int (xx &&& (2147483647 : Int32))), (.int (240 : Int32))]))
        refine own_go (fun _ kS => iremM X hx rfl (hb hby d0_57) rfl (by decide) kS) ?_
        show own_Run p e below _ (T.setTop (mkF m 58 #[.val (.int sz), .val (.int xx), .val (.int (xx &&& (2147483647 : Int32))), .unset] [(.int ((xx &&& (2147483647 : Int32)) % (5 : Int32))), (.int (240 : Int32))]))
        refine own_go (fun _ kS => XS.iadd X.here hx rfl (hb hby d0_58) rfl kS) ?_
        show own_Run p e below _ (T.setTop (mkF m 59 #[.val (.int sz), .val (.int xx), .val (.int (xx &&& (2147483647 : Int32))), .unset] [(.int ((240 : Int32) + ((xx &&& (2147483647 : Int32)) % (5 : Int32))))]))
        refine own_go (fun _ kS => XS.istoreN X.here hx rfl (hb hby d0_59) rfl (l' := #[.val (.int sz), .val (.int xx), .val (.int (xx &&& (2147483647 : Int32))), .val (.int ((240 : Int32) + ((xx &&& (2147483647 : Int32)) % (5 : Int32))))]) rfl kS) ?_
        show own_Run p e below _ (T.setTop (mkF m 60 #[.val (.int sz), .val (.int xx), .val (.int (xx &&& (2147483647 : Int32))), .val (.int ((240 : Int32) + ((xx &&& (2147483647 : Int32)) % (5 : Int32))))] []))
        refine own_go (fun _ kS => XS.iloadN X.here hx rfl (hb hby d0_60) rfl kS) ?_
        show own_Run p e below _ (T.setTop (mkF m 61 #[.val (.int sz), .val (.int xx), .val (.int (xx &&& (2147483647 : Int32))), .val (.int ((240 : Int32) + ((xx &&& (2147483647 : Int32)) % (5 : Int32))))] [(.int ((240 : Int32) + ((xx &&& (2147483647 : Int32)) % (5 : Int32))))]))
        refine own_retI X hx hret hlk (hb hby d0_61) (by decide) (by decide) ?_
        exact ⟨by rw [(by unfold own_lead; rw [if_neg hc7, if_neg hc20, if_neg hc37] : own_lead sz xx = ((240 : Int32) + ((xx &&& (2147483647 : Int32)) % (5 : Int32))))], e0.symm, rfl⟩
theorem own_pd0 : parseMethodDescriptor "(II)I" = some ⟨[.int, .int], some .int⟩ := by decide +kernel
theorem d1_0 : decode method_3_code 0 = .ok (.iload_n 2, 1) := by decide +kernel
theorem d1_1 : decode method_3_code 1 = .ok (.iload_n 3, 1) := by decide +kernel
theorem d1_2 : decode method_3_code 2 = .ok (.invokestatic 8, 3) := by decide +kernel
theorem d1_5 : decode method_3_code 5 = .ok (.istore 6, 2) := by decide +kernel
theorem d1_7 : decode method_3_code 7 = .ok (.aload_n 0, 1) := by decide +kernel
theorem d1_8 : decode method_3_code 8 = .ok (.iload_n 1, 1) := by decide +kernel
theorem d1_9 : decode method_3_code 9 = .ok (.iload 6, 2) := by decide +kernel
theorem d1_11 : decode method_3_code 11 = .ok (.i2b, 1) := by decide +kernel
theorem d1_12 : decode method_3_code 12 = .ok (.bastore, 1) := by decide +kernel
theorem d1_13 : decode method_3_code 13 = .ok (.iload_n 2, 1) := by decide +kernel
theorem d1_14 : decode method_3_code 14 = .ok (.iconst 2, 1) := by decide +kernel
theorem d1_15 : decode method_3_code 15 = .ok (.if_icmp .lt 127, 3) := by decide +kernel
theorem d1_18 : decode method_3_code 18 = .ok (.sipush 128, 3) := by decide +kernel
theorem d1_21 : decode method_3_code 21 = .ok (.lload 4, 2) := by decide +kernel
theorem d1_23 : decode method_3_code 23 = .ok (.ldc2_w 14, 3) := by decide +kernel
theorem d1_26 : decode method_3_code 26 = .ok (.land, 1) := by decide +kernel
theorem d1_27 : decode method_3_code 27 = .ok (.l2i, 1) := by decide +kernel
theorem d1_28 : decode method_3_code 28 = .ok (.ior, 1) := by decide +kernel
theorem d1_29 : decode method_3_code 29 = .ok (.istore 7, 2) := by decide +kernel
theorem d1_31 : decode method_3_code 31 = .ok (.iload 6, 2) := by decide +kernel
theorem d1_33 : decode method_3_code 33 = .ok (.sipush 224, 3) := by decide +kernel
theorem d1_36 : decode method_3_code 36 = .ok (.if_icmp .ne 21, 3) := by decide +kernel
theorem d1_39 : decode method_3_code 39 = .ok (.iload 7, 2) := by decide +kernel
theorem d1_41 : decode method_3_code 41 = .ok (.sipush 160, 3) := by decide +kernel
theorem d1_44 : decode method_3_code 44 = .ok (.if_icmp .ge 13, 3) := by decide +kernel
theorem d1_47 : decode method_3_code 47 = .ok (.iload 7, 2) := by decide +kernel
theorem d1_49 : decode method_3_code 49 = .ok (.bipush 32, 2) := by decide +kernel
theorem d1_51 : decode method_3_code 51 = .ok (.ior, 1) := by decide +kernel
theorem d1_52 : decode method_3_code 52 = .ok (.istore 7, 2) := by decide +kernel
theorem d1_54 : decode method_3_code 54 = .ok (.goto 80, 3) := by decide +kernel
theorem d1_57 : decode method_3_code 57 = .ok (.iload 6, 2) := by decide +kernel
theorem d1_59 : decode method_3_code 59 = .ok (.sipush 237, 3) := by decide +kernel
theorem d1_62 : decode method_3_code 62 = .ok (.if_icmp .ne 22, 3) := by decide +kernel
theorem d1_65 : decode method_3_code 65 = .ok (.iload 7, 2) := by decide +kernel
theorem d1_67 : decode method_3_code 67 = .ok (.sipush 159, 3) := by decide +kernel
theorem d1_70 : decode method_3_code 70 = .ok (.if_icmp .le 14, 3) := by decide +kernel
theorem d1_73 : decode method_3_code 73 = .ok (.iload 7, 2) := by decide +kernel
theorem d1_75 : decode method_3_code 75 = .ok (.sipush 159, 3) := by decide +kernel
theorem d1_78 : decode method_3_code 78 = .ok (.iand, 1) := by decide +kernel
theorem d1_79 : decode method_3_code 79 = .ok (.istore 7, 2) := by decide +kernel
theorem d1_81 : decode method_3_code 81 = .ok (.goto 53, 3) := by decide +kernel
theorem d1_84 : decode method_3_code 84 = .ok (.iload 6, 2) := by decide +kernel
theorem d1_86 : decode method_3_code 86 = .ok (.sipush 240, 3) := by decide +kernel
theorem d1_89 : decode method_3_code 89 = .ok (.if_icmp .ne 21, 3) := by decide +kernel
theorem d1_92 : decode method_3_code 92 = .ok (.iload 7, 2) := by decide +kernel
theorem d1_94 : decode method_3_code 94 = .ok (.sipush 144, 3) := by decide +kernel
theorem d1_97 : decode method_3_code 97 = .ok (.if_icmp .ge 13, 3) := by decide +kernel
theorem d1_100 : decode method_3_code 100 = .ok (.iload 7, 2) := by decide +kernel
theorem d1_102 : decode method_3_code 102 = .ok (.bipush 16, 2) := by decide +kernel
theorem d1_104 : decode method_3_code 104 = .ok (.ior, 1) := by decide +kernel
theorem d1_105 : decode method_3_code 105 = .ok (.istore 7, 2) := by decide +kernel
theorem d1_107 : decode method_3_code 107 = .ok (.goto 27, 3) := by decide +kernel
theorem d1_110 : decode method_3_code 110 = .ok (.iload 6, 2) := by decide +kernel
theorem d1_112 : decode method_3_code 112 = .ok (.sipush 244, 3) := by decide +kernel
theorem d1_115 : decode method_3_code 115 = .ok (.if_icmp .ne 19, 3) := by decide +kernel
theorem d1_118 : decode method_3_code 118 = .ok (.iload 7, 2) := by decide +kernel
theorem d1_120 : decode method_3_code 120 = .ok (.sipush 143, 3) := by decide +kernel
theorem d1_123 : decode method_3_code 123 = .ok (.if_icmp .le 11, 3) := by decide +kernel
theorem d1_126 : decode method_3_code 126 = .ok (.iload 7, 2) := by decide +kernel
theorem d1_128 : decode method_3_code 128 = .ok (.sipush 143, 3) := by decide +kernel
theorem d1_131 : decode method_3_code 131 = .ok (.iand, 1) := by decide +kernel
theorem d1_132 : decode method_3_code 132 = .ok (.istore 7, 2) := by decide +kernel
theorem d1_134 : decode method_3_code 134 = .ok (.aload_n 0, 1) := by decide +kernel
theorem d1_135 : decode method_3_code 135 = .ok (.iload_n 1, 1) := by decide +kernel
theorem d1_136 : decode method_3_code 136 = .ok (.iconst 1, 1) := by decide +kernel
theorem d1_137 : decode method_3_code 137 = .ok (.iadd, 1) := by decide +kernel
theorem d1_138 : decode method_3_code 138 = .ok (.iload 7, 2) := by decide +kernel
theorem d1_140 : decode method_3_code 140 = .ok (.i2b, 1) := by decide +kernel
theorem d1_141 : decode method_3_code 141 = .ok (.bastore, 1) := by decide +kernel
theorem d1_142 : decode method_3_code 142 = .ok (.iload_n 2, 1) := by decide +kernel
theorem d1_143 : decode method_3_code 143 = .ok (.iconst 3, 1) := by decide +kernel
theorem d1_144 : decode method_3_code 144 = .ok (.if_icmp .lt 23, 3) := by decide +kernel
theorem d1_147 : decode method_3_code 147 = .ok (.aload_n 0, 1) := by decide +kernel
theorem d1_148 : decode method_3_code 148 = .ok (.iload_n 1, 1) := by decide +kernel
theorem d1_149 : decode method_3_code 149 = .ok (.iconst 2, 1) := by decide +kernel
theorem d1_150 : decode method_3_code 150 = .ok (.iadd, 1) := by decide +kernel
theorem d1_151 : decode method_3_code 151 = .ok (.sipush 128, 3) := by decide +kernel
theorem d1_154 : decode method_3_code 154 = .ok (.lload 4, 2) := by decide +kernel
theorem d1_156 : decode method_3_code 156 = .ok (.bipush 6, 2) := by decide +kernel
theorem d1_158 : decode method_3_code 158 = .ok (.lushr, 1) := by decide +kernel
theorem d1_159 : decode method_3_code 159 = .ok (.ldc2_w 14, 3) := by decide +kernel
theorem d1_162 : decode method_3_code 162 = .ok (.land, 1) := by decide +kernel
theorem d1_163 : decode method_3_code 163 = .ok (.l2i, 1) := by decide +kernel
theorem d1_164 : decode method_3_code 164 = .ok (.ior, 1) := by decide +kernel
theorem d1_165 : decode method_3_code 165 = .ok (.i2b, 1) := by decide +kernel
theorem d1_166 : decode method_3_code 166 = .ok (.bastore, 1) := by decide +kernel
theorem d1_167 : decode method_3_code 167 = .ok (.iload_n 2, 1) := by decide +kernel
theorem d1_168 : decode method_3_code 168 = .ok (.iconst 4, 1) := by decide +kernel
theorem d1_169 : decode method_3_code 169 = .ok (.if_icmp .ne 23, 3) := by decide +kernel
theorem d1_172 : decode method_3_code 172 = .ok (.aload_n 0, 1) := by decide +kernel
theorem d1_173 : decode method_3_code 173 = .ok (.iload_n 1, 1) := by decide +kernel
theorem d1_174 : decode method_3_code 174 = .ok (.iconst 3, 1) := by decide +kernel
theorem d1_175 : decode method_3_code 175 = .ok (.iadd, 1) := by decide +kernel
theorem d1_176 : decode method_3_code 176 = .ok (.sipush 128, 3) := by decide +kernel
theorem d1_179 : decode method_3_code 179 = .ok (.lload 4, 2) := by decide +kernel
theorem d1_181 : decode method_3_code 181 = .ok (.bipush 12, 2) := by decide +kernel
theorem d1_183 : decode method_3_code 183 = .ok (.lushr, 1) := by decide +kernel
theorem d1_184 : decode method_3_code 184 = .ok (.ldc2_w 14, 3) := by decide +kernel
theorem d1_187 : decode method_3_code 187 = .ok (.land, 1) := by decide +kernel
theorem d1_188 : decode method_3_code 188 = .ok (.l2i, 1) := by decide +kernel
theorem d1_189 : decode method_3_code 189 = .ok (.ior, 1) := by decide +kernel
theorem d1_190 : decode method_3_code 190 = .ok (.i2b, 1) := by decide +kernel
theorem d1_191 : decode method_3_code 191 = .ok (.bastore, 1) := by decide +kernel
theorem d1_192 : decode method_3_code 192 = .ok (.return_, 1) := by decide +kernel
abbrev Q_put (Z : State) (a : Addr) (ta : Int32) (sz : Int32) (xx : Int32) (c0 : Int64) (f : Nat → Value) (t z : Nat) (n0 : Nat) (h0 : Heap) : Option Value → Heap → List Loc → Prop := fun v h L => v = none ∧ Fr n0 L ∧ Keep h0 h [a] ∧ ∃ f' : Nat → Value, own_Arr Z h a .byte 8 f' ∧ own_put f f' t z
set_option maxRecDepth 65536 in
set_option maxHeartbeats 40000000 in
theorem rm_put (l : Launch) (Z : State) (a0 : Array Value) (hw : ∀ d ∈ tables_1, d.before a0 Z = true) (a : Addr) (ta : Int32) (sz : Int32) (xx : Int32) (c0 : Int64) (f : Nat → Value) (t z : Nat) (n0 : Nat) (h0 : Heap) (Z0 : n0 ≤ h0.size) (A_a : own_Arr Z h0 a .byte 8 f) (g_a : n0 ≤ a) (ht : ta.toInt = t) (hzz : sz.toInt = z) (hz1 : 1 ≤ z) (hz4 : z ≤ 4) (ht8 : t + z ≤ 8) :
    own_Met l Z (⟨"com/example/quillwire/quillwire/binary/Utf8CharStartPinLaw", "put", "([BIIIJ)V"⟩ : MethodName) method_3_code 8 none ({ frames := 1, cells := 0, slots := 0, locals := 15 } : Room) #[(.ref a), (.int ta), (.int sz), (.int xx), (.long c0)] h0 (Q_put Z a ta sz xx c0 f t z n0 h0) := by
  refine own_enter (g0 := fun m => (mkF m 0 #[.val (.ref a), .val (.int ta), .val (.int sz), .val (.int xx), .val (.long c0), .second, .unset, .unset] [])) (plainFor_of_name (by first | (simp [plainName, overriddenIn]; done) | decide +kernel)) (fun m => by first | (simp [entryFrame, mkF, argsToLocals, Value.category]; done) | rfl) ?_
  intro p e s m below meth c T hx hby hml hown hnm hZ hret hlk X e0
  replace hown : s.vm.findClass "com/example/quillwire/quillwire/binary/Utf8CharStartPinLaw" = some m.cls := hown
  have N := Fr.nil n0
  have hz := Z0
  have K := Keep.refl h0 [a]
  have z1 : (1 : Int32).toInt = 1 := rfl
  have z2 : (2 : Int32).toInt = 2 := rfl
  have z3 : (3 : Int32).toInt = 3 := rfl
  have z4 : (4 : Int32).toInt = 4 := rfl
  have ha0 : ta.toInt = ((t + 0 : Nat) : Int) := ht
  have ha1 : (ta + (1 : Int32)).toInt = ((t + 1 : Nat) : Int) := by have w := c_iadd ta (1 : Int32); have w2 := rng32 (ta + (1 : Int32)); omega
  have ha2 : (ta + (2 : Int32)).toInt = ((t + 2 : Nat) : Int) := by have w := c_iadd ta (2 : Int32); have w2 := rng32 (ta + (2 : Int32)); omega
  have ha3 : (ta + (3 : Int32)).toInt = ((t + 3 : Nat) : Int) := by have w := c_iadd ta (3 : Int32); have w2 := rng32 (ta + (3 : Int32)); omega
  show own_Run p e below _ (T.setTop (mkF m 0 #[.val (.ref a), .val (.int ta), .val (.int sz), .val (.int xx), .val (.long c0), .second, .unset, .unset] []))
  refine own_go (fun _ kS => XS.iloadN X.here hx rfl (hb hby d1_0) rfl kS) ?_
  show own_Run p e below _ (T.setTop (mkF m 1 #[.val (.ref a), .val (.int ta), .val (.int sz), .val (.int xx), .val (.long c0), .second, .unset, .unset] [(.int sz)]))
  refine own_go (fun _ kS => XS.iloadN X.here hx rfl (hb hby d1_1) rfl kS) ?_
  show own_Run p e below _ (T.setTop (mkF m 2 #[.val (.ref a), .val (.int ta), .val (.int sz), .val (.int xx), .val (.long c0), .second, .unset, .unset] [(.int xx), (.int sz)]))
  refine own_callS X hx hZ e0 hown (⟨"com/example/quillwire/quillwire/binary/Utf8CharStartPinLaw", "leadByte", "(II)I"⟩ : MethodName) (hw _ (List.mem_of_getElem? (i := 5) rfl)) (hw _ (List.mem_of_getElem? (i := 6) rfl)) (hw _ (List.mem_of_getElem? (i := 3) rfl)) (hw _ (List.mem_of_getElem? (i := 7) rfl)) (by decide) [(.int sz), (.int xx)] [] (rm_lead l Z a0 hw sz xx h0) (by decide) 0 (by decide) (by decide) (by decide) rfl (by rw [hml]; rfl) (lenOf own_pd0 rfl) rfl (by show 2 * 0 + _ ≤ _; exact Nat.le_of_eq rfl) (hb hby d1_2) (fun v1 h1 L1 T1 Q1 X1 e1 => ?_)
  obtain ⟨rfl, rfl, rfl⟩ := Q1
  replace N := N.app (Fr.nil n0)
  show own_Run p e below _ (T1.setTop (mkF m 5 #[.val (.ref a), .val (.int ta), .val (.int sz), .val (.int xx), .val (.long c0), .second, .unset, .unset] [(.int (own_lead sz xx))]))
  refine own_go (fun _ kS => XS.istore X1.here hx rfl (hb hby d1_5) rfl (l' := #[.val (.ref a), .val (.int ta), .val (.int sz), .val (.int xx), .val (.long c0), .second, .val (.int (own_lead sz xx)), .unset]) rfl kS) ?_
  show own_Run p e below _ (T1.setTop (mkF m 7 #[.val (.ref a), .val (.int ta), .val (.int sz), .val (.int xx), .val (.long c0), .second, .val (.int (own_lead sz xx)), .unset] []))
  have hld := own_leadL sz xx
  generalize (own_lead sz xx) = ld at hld ⊢
  refine own_go (fun _ kS => XS.aloadN X1.here hx rfl (hb hby d1_7) rfl rfl kS) ?_
  show own_Run p e below _ (T1.setTop (mkF m 8 #[.val (.ref a), .val (.int ta), .val (.int sz), .val (.int xx), .val (.long c0), .second, .val (.int ld), .unset] [(.ref a)]))
  refine own_go (fun _ kS => XS.iloadN X1.here hx rfl (hb hby d1_8) rfl kS) ?_
  show own_Run p e below _ (T1.setTop (mkF m 9 #[.val (.ref a), .val (.int ta), .val (.int sz), .val (.int xx), .val (.long c0), .second, .val (.int ld), .unset] [(.int ta), (.ref a)]))
  refine own_go (fun _ kS => XS.iload X1.here hx rfl (hb hby d1_9) rfl kS) ?_
  show own_Run p e below _ (T1.setTop (mkF m 11 #[.val (.ref a), .val (.int ta), .val (.int sz), .val (.int xx), .val (.long c0), .second, .val (.int ld), .unset] [(.int ld), (.int ta), (.ref a)]))
  refine own_go (fun _ kS => XS.i2b X1.here hx rfl (hb hby d1_11) rfl kS) ?_
  show own_Run p e below _ (T1.setTop (mkF m 12 #[.val (.ref a), .val (.int ta), .val (.int sz), .val (.int xx), .val (.long c0), .second, .val (.int ld), .unset] [(.int ld.toInt8.toInt32), (.int ta), (.ref a)]))
  refine own_bastore X1 hx hZ e1 A_a (j := ta) ⟨by omega, by omega⟩ rfl rfl (hb hby d1_12) (fun T2 h2 X2 e2 W2 A2 => ?_)
  replace hz := Nat.le_trans hz (Nat.le_of_eq W2.size.symm)
  replace N := Fr.snoc X2 N g_a
  replace K := K.wr W2 (Or.inl (List.mem_of_getElem? (i := 0) rfl))
  replace A2 : own_Arr Z h2 a .byte 8 (own_up f (t + 0) (.int (nar .byte ld.toInt8.toInt32))) := A2.congr (fun i _ => own_upc ha0 _ _ i)
  show own_Run p e below _ (T2.setTop (mkF m 13 #[.val (.ref a), .val (.int ta), .val (.int sz), .val (.int xx), .val (.long c0), .second, .val (.int ld), .unset] []))
  refine own_go (fun _ kS => XS.iloadN X2.here hx rfl (hb hby d1_13) rfl kS) ?_
  show own_Run p e below _ (T2.setTop (mkF m 14 #[.val (.ref a), .val (.int ta), .val (.int sz), .val (.int xx), .val (.long c0), .second, .val (.int ld), .unset] [(.int sz)]))
  refine own_go (fun _ kS => XS.iconst X2.here hx rfl (hb hby d1_14) kS) ?_
  show own_Run p e below _ (T2.setTop (mkF m 15 #[.val (.ref a), .val (.int ta), .val (.int sz), .val (.int xx), .val (.long c0), .second, .val (.int ld), .unset] [(.int (2 : Int32)), (.int sz)]))
  by_cases hc15 : sz < (2 : Int32)
  · refine own_go (fun _ kS => XS.icmpYes X2.here hx rfl (pc0 := 15) (pc' := 142) rfl (hb hby d1_15) rfl (tlt hc15).1 (by decide) (by decide) kS) ?_
    show own_Run p e below _ (T2.setTop (mkF m 142 #[.val (.ref a), .val (.int ta), .val (.int sz), .val (.int xx), .val (.long c0), .second, .val (.int ld), .unset] []))
    have kz : z = 1 := by have w := hc15; rw [Int32.lt_iff_toInt_lt] at w; omega
    refine own_go (fun _ kS => XS.iloadN X2.here hx rfl (hb hby d1_142) rfl kS) ?_
    show own_Run p e below _ (T2.setTop (mkF m 143 #[.val (.ref a), .val (.int ta), .val (.int sz), .val (.int xx), .val (.long c0), .second, .val (.int ld), .unset] [(.int sz)]))
    refine own_go (fun _ kS => XS.iconst X2.here hx rfl (hb hby d1_143) kS) ?_
    show own_Run p e below _ (T2.setTop (mkF m 144 #[.val (.ref a), .val (.int ta), .val (.int sz), .val (.int xx), .val (.long c0), .second, .val (.int ld), .unset] [(.int (3 : Int32)), (.int sz)]))
    refine own_go (fun _ kS => XS.icmpYes X2.here hx rfl (pc0 := 144) (pc' := 167) rfl (hb hby d1_144) rfl (tlt (show sz < (3 : Int32) from (by rw [Int32.lt_iff_toInt_lt]; omega))).1 (by decide) (by decide) kS) ?_
    show own_Run p e below _ (T2.setTop (mkF m 167 #[.val (.ref a), .val (.int ta), .val (.int sz), .val (.int xx), .val (.long c0), .second, .val (.int ld), .unset] []))
    refine own_go (fun _ kS => XS.iloadN X2.here hx rfl (hb hby d1_167) rfl kS) ?_
    show own_Run p e below _ (T2.setTop (mkF m 168 #[.val (.ref a), .val (.int ta), .val (.int sz), .val (.int xx), .val (.long c0), .second, .val (.int ld), .unset] [(.int sz)]))
    refine own_go (fun _ kS => XS.iconst X2.here hx rfl (hb hby d1_168) kS) ?_
    show own_Run p e below _ (T2.setTop (mkF m 169 #[.val (.ref a), .val (.int ta), .val (.int sz), .val (.int xx), .val (.long c0), .second, .val (.int ld), .unset] [(.int (4 : Int32)), (.int sz)]))
    refine own_go (fun _ kS => XS.icmpYes X2.here hx rfl (pc0 := 169) (pc' := 192) rfl (hb hby d1_169) rfl (feq (show ¬ (sz = (4 : Int32)) from (fun w => by have w2 : sz.toInt = (4 : Int32).toInt := congrArg Int32.toInt w; omega))).2 (by decide) (by decide) kS) ?_
    show own_Run p e below _ (T2.setTop (mkF m 192 #[.val (.ref a), .val (.int ta), .val (.int sz), .val (.int xx), .val (.long c0), .second, .val (.int ld), .unset] []))
    refine own_retV X2 hx hret hlk (hb hby d1_192) (by decide) (by decide) ?_
    rw [e2]
    exact ⟨rfl, N, K, _, A2, own_p1 kz hld⟩
  · refine own_go (fun _ kS => XS.icmpNo X2.here hx rfl (hb hby d1_15) rfl (flt hc15).1 kS) ?_
    show own_Run p e below _ (T2.setTop (mkF m 18 #[.val (.ref a), .val (.int ta), .val (.int sz), .val (.int xx), .val (.long c0), .second, .val (.int ld), .unset] []))
    have k15 : 2 ≤ z := by have w := hc15; rw [Int32.lt_iff_toInt_lt] at w; omega
    refine own_go (fun _ kS => XS.sipush X2.here hx rfl (hb hby d1_18) kS) ?_
    show own_Run p e below _ (T2.setTop (mkF m 21 #[.val (.ref a), .val (.int ta), .val (.int sz), .val (.int xx), .val (.long c0), .second, .val (.int ld), .unset] [(.int (128 : Int32))]))
    refine own_go (fun _ kS => XS.lload X2.here hx rfl (hb hby d1_21) rfl kS) ?_
    show own_Run p e below _ (T2.setTop (mkF m 23 #[.val (.ref a), .val (.int ta), .val (.int sz), .val (.int xx), .val (.long c0), .second, .val (.int ld), .unset] [(.long c0), (.int (128 : Int32))]))
    refine own_ldc2 X2 hx hZ hown (hw _ (List.mem_of_getElem? (i := 9) rfl)) rfl (hb hby d1_23) ?_
    show own_Run p e below _ (T2.setTop (mkF m 26 #[.val (.ref a), .val (.int ta), .val (.int sz), .val (.int xx), .val (.long c0), .second, .val (.int ld), .unset] [(.long (63 : Int64)), (.long c0), (.int (128 : Int32))]))
    refine own_go (fun _ kS => XS.land X2.here hx rfl (hb hby d1_26) rfl kS) ?_
    show own_Run p e below _ (T2.setTop (mkF m 27 #[.val (.ref a), .val (.int ta), .val (.int sz), .val (.int xx), .val (.long c0), .second, .val (.int ld), .unset] [(.long (c0 &&& (63 : Int64))), (.int (128 : Int32))]))
    refine own_go (fun _ kS => XS.l2i X2.here hx rfl (hb hby d1_27) rfl kS) ?_
    show own_Run p e below _ (T2.setTop (mkF m 28 #[.val (.ref a), .val (.int ta), .val (.int sz), .val (.int xx), .val (.long c0), .second, .val (.int ld), .unset] [(.int (c0 &&& (63 : Int64)).toInt32), (.int (128 : Int32))]))
    refine own_go (fun _ kS => XS.ior X2.here hx rfl (hb hby d1_28) rfl kS) ?_
    show own_Run p e below _ (T2.setTop (mkF m 29 #[.val (.ref a), .val (.int ta), .val (.int sz), .val (.int xx), .val (.long c0), .second, .val (.int ld), .unset] [(.int ((128 : Int32) ||| (c0 &&& (63 : Int64)).toInt32))]))
    refine own_go (fun _ kS => XS.istore X2.here hx rfl (hb hby d1_29) rfl (l' := #[.val (.ref a), .val (.int ta), .val (.int sz), .val (.int xx), .val (.long c0), .second, .val (.int ld), .val (.int ((128 : Int32) ||| (c0 &&& (63 : Int64)).toInt32))]) rfl kS) ?_
    show own_Run p e below _ (T2.setTop (mkF m 31 #[.val (.ref a), .val (.int ta), .val (.int sz), .val (.int xx), .val (.long c0), .second, .val (.int ld), .val (.int ((128 : Int32) ||| (c0 &&& (63 : Int64)).toInt32))] []))
    refine own_go (fun _ kS => XS.iload X2.here hx rfl (hb hby d1_31) rfl kS) ?_
    show own_Run p e below _ (T2.setTop (mkF m 33 #[.val (.ref a), .val (.int ta), .val (.int sz), .val (.int xx), .val (.long c0), .second, .val (.int ld), .val (.int ((128 : Int32) ||| (c0 &&& (63 : Int64)).toInt32))] [(.int ld)]))
    refine own_go (fun _ kS => XS.sipush X2.here hx rfl (hb hby d1_33) kS) ?_
    show own_Run p e below _ (T2.setTop (mkF m 36 #[.val (.ref a), .val (.int ta), .val (.int sz), .val (.int xx), .val (.long c0), .second, .val (.int ld), .val (.int ((128 : Int32) ||| (c0 &&& (63 : Int64)).toInt32))] [(.int (224 : Int32)), (.int ld)]))
    have J134 : ∀ s7 : Int32, own_isC (.int (nar .byte s7.toInt8.toInt32)) → own_Run p e below (own_End s ({ frames := 1, cells := 0, slots := 0, locals := 15 } : Room) (Q_put Z a ta sz xx c0 f t z n0 h0)) (T2.setTop (mkF m 134 #[.val (.ref a), .val (.int ta), .val (.int sz), .val (.int xx), .val (.long c0), .second, .val (.int ld), .val (.int s7)] [])) := by
      intro s7 hs7
      show own_Run p e below _ (T2.setTop (mkF m 134 #[.val (.ref a), .val (.int ta), .val (.int sz), .val (.int xx), .val (.long c0), .second, .val (.int ld), .val (.int s7)] []))
      refine own_go (fun _ kS => XS.aloadN X2.here hx rfl (hb hby d1_134) rfl rfl kS) ?_
      show own_Run p e below _ (T2.setTop (mkF m 135 #[.val (.ref a), .val (.int ta), .val (.int sz), .val (.int xx), .val (.long c0), .second, .val (.int ld), .val (.int s7)] [(.ref a)]))
      refine own_go (fun _ kS => XS.iloadN X2.here hx rfl (hb hby d1_135) rfl kS) ?_
      show own_Run p e below _ (T2.setTop (mkF m 136 #[.val (.ref a), .val (.int ta), .val (.int sz), .val (.int xx), .val (.long c0), .second, .val (.int ld), .val (.int s7)] [(.int ta), (.ref a)]))
      refine own_go (fun _ kS => XS.iconst X2.here hx rfl (hb hby d1_136) kS) ?_
      show own_Run p e below _ (T2.setTop (mkF m 137 #[.val (.ref a), .val (.int ta), .val (.int sz), .val (.int xx), .val (.long c0), .second, .val (.int ld), .val (.int s7)] [(.int (1 : Int32)), (.int ta), (.ref a)]))
      refine own_go (fun _ kS => XS.iadd X2.here hx rfl (hb hby d1_137) rfl kS) ?_
      show own_Run p e below _ (T2.setTop (mkF m 138 #[.val (.ref a), .val (.int ta), .val (.int sz), .val (.int xx), .val (.long c0), .second, .val (.int ld), .val (.int s7)] [(.int (ta + (1 : Int32))), (.ref a)]))
      refine own_go (fun _ kS => XS.iload X2.here hx rfl (hb hby d1_138) rfl kS) ?_
      show own_Run p e below _ (T2.setTop (mkF m 140 #[.val (.ref a), .val (.int ta), .val (.int sz), .val (.int xx), .val (.long c0), .second, .val (.int ld), .val (.int s7)] [(.int s7), (.int (ta + (1 : Int32))), (.ref a)]))
      refine own_go (fun _ kS => XS.i2b X2.here hx rfl (hb hby d1_140) rfl kS) ?_
      show own_Run p e below _ (T2.setTop (mkF m 141 #[.val (.ref a), .val (.int ta), .val (.int sz), .val (.int xx), .val (.long c0), .second, .val (.int ld), .val (.int s7)] [(.int s7.toInt8.toInt32), (.int (ta + (1 : Int32))), (.ref a)]))
      refine own_bastore X2 hx hZ e2 A2 (j := (ta + (1 : Int32))) ⟨by omega, by omega⟩ rfl rfl (hb hby d1_141) (fun T3 h3 X3 e3 W3 A3 => ?_)
      replace hz := Nat.le_trans hz (Nat.le_of_eq W3.size.symm)
      replace N := Fr.snoc X3 N g_a
      replace K := K.wr W3 (Or.inl (List.mem_of_getElem? (i := 0) rfl))
      replace A3 : own_Arr Z h3 a .byte 8 (own_up (own_up f (t + 0) (.int (nar .byte ld.toInt8.toInt32))) (t + 1) (.int (nar .byte s7.toInt8.toInt32))) := A3.congr (fun i _ => own_upc ha1 _ _ i)
      show own_Run p e below _ (T3.setTop (mkF m 142 #[.val (.ref a), .val (.int ta), .val (.int sz), .val (.int xx), .val (.long c0), .second, .val (.int ld), .val (.int s7)] []))
      refine own_go (fun _ kS => XS.iloadN X3.here hx rfl (hb hby d1_142) rfl kS) ?_
      show own_Run p e below _ (T3.setTop (mkF m 143 #[.val (.ref a), .val (.int ta), .val (.int sz), .val (.int xx), .val (.long c0), .second, .val (.int ld), .val (.int s7)] [(.int sz)]))
      refine own_go (fun _ kS => XS.iconst X3.here hx rfl (hb hby d1_143) kS) ?_
      show own_Run p e below _ (T3.setTop (mkF m 144 #[.val (.ref a), .val (.int ta), .val (.int sz), .val (.int xx), .val (.long c0), .second, .val (.int ld), .val (.int s7)] [(.int (3 : Int32)), (.int sz)]))
      by_cases hc144 : sz < (3 : Int32)
      · refine own_go (fun _ kS => XS.icmpYes X3.here hx rfl (pc0 := 144) (pc' := 167) rfl (hb hby d1_144) rfl (tlt hc144).1 (by decide) (by decide) kS) ?_
        show own_Run p e below _ (T3.setTop (mkF m 167 #[.val (.ref a), .val (.int ta), .val (.int sz), .val (.int xx), .val (.long c0), .second, .val (.int ld), .val (.int s7)] []))
        have kz : z = 2 := by have w := hc144; rw [Int32.lt_iff_toInt_lt] at w; omega
        refine own_go (fun _ kS => XS.iloadN X3.here hx rfl (hb hby d1_167) rfl kS) ?_
        show own_Run p e below _ (T3.setTop (mkF m 168 #[.val (.ref a), .val (.int ta), .val (.int sz), .val (.int xx), .val (.long c0), .second, .val (.int ld), .val (.int s7)] [(.int sz)]))
        refine own_go (fun _ kS => XS.iconst X3.here hx rfl (hb hby d1_168) kS) ?_
        show own_Run p e below _ (T3.setTop (mkF m 169 #[.val (.ref a), .val (.int ta), .val (.int sz), .val (.int xx), .val (.long c0), .second, .val (.int ld), .val (.int s7)] [(.int (4 : Int32)), (.int sz)]))
        refine own_go (fun _ kS => XS.icmpYes X3.here hx rfl (pc0 := 169) (pc' := 192) rfl (hb hby d1_169) rfl (feq (show ¬ (sz = (4 : Int32)) from (fun w => by have w2 : sz.toInt = (4 : Int32).toInt := congrArg Int32.toInt w; omega))).2 (by decide) (by decide) kS) ?_
        show own_Run p e below _ (T3.setTop (mkF m 192 #[.val (.ref a), .val (.int ta), .val (.int sz), .val (.int xx), .val (.long c0), .second, .val (.int ld), .val (.int s7)] []))
        refine own_retV X3 hx hret hlk (hb hby d1_192) (by decide) (by decide) ?_
        rw [e3]
        exact ⟨rfl, N, K, _, A3, own_p2 kz hld hs7⟩
      · refine own_go (fun _ kS => XS.icmpNo X3.here hx rfl (hb hby d1_144) rfl (flt hc144).1 kS) ?_
        show own_Run p e below _ (T3.setTop (mkF m 147 #[.val (.ref a), .val (.int ta), .val (.int sz), .val (.int xx), .val (.long c0), .second, .val (.int ld), .val (.int s7)] []))
        have k144 : 3 ≤ z := by have w := hc144; rw [Int32.lt_iff_toInt_lt] at w; omega
        refine own_go (fun _ kS => XS.aloadN X3.here hx rfl (hb hby d1_147) rfl rfl kS) ?_
        show own_Run p e below _ (T3.setTop (mkF m 148 #[.val (.ref a), .val (.int ta), .val (.int sz), .val (.int xx), .val (.long c0), .second, .val (.int ld), .val (.int s7)] [(.ref a)]))
        refine own_go (fun _ kS => XS.iloadN X3.here hx rfl (hb hby d1_148) rfl kS) ?_
        show own_Run p e below _ (T3.setTop (mkF m 149 #[.val (.ref a), .val (.int ta), .val (.int sz), .val (.int xx), .val (.long c0), .second, .val (.int ld), .val (.int s7)] [(.int ta), (.ref a)]))
        refine own_go (fun _ kS => XS.iconst X3.here hx rfl (hb hby d1_149) kS) ?_
        show own_Run p e below _ (T3.setTop (mkF m 150 #[.val (.ref a), .val (.int ta), .val (.int sz), .val (.int xx), .val (.long c0), .second, .val (.int ld), .val (.int s7)] [(.int (2 : Int32)), (.int ta), (.ref a)]))
        refine own_go (fun _ kS => XS.iadd X3.here hx rfl (hb hby d1_150) rfl kS) ?_
        show own_Run p e below _ (T3.setTop (mkF m 151 #[.val (.ref a), .val (.int ta), .val (.int sz), .val (.int xx), .val (.long c0), .second, .val (.int ld), .val (.int s7)] [(.int (ta + (2 : Int32))), (.ref a)]))
        refine own_go (fun _ kS => XS.sipush X3.here hx rfl (hb hby d1_151) kS) ?_
        show own_Run p e below _ (T3.setTop (mkF m 154 #[.val (.ref a), .val (.int ta), .val (.int sz), .val (.int xx), .val (.long c0), .second, .val (.int ld), .val (.int s7)] [(.int (128 : Int32)), (.int (ta + (2 : Int32))), (.ref a)]))
        refine own_go (fun _ kS => XS.lload X3.here hx rfl (hb hby d1_154) rfl kS) ?_
        show own_Run p e below _ (T3.setTop (mkF m 156 #[.val (.ref a), .val (.int ta), .val (.int sz), .val (.int xx), .val (.long c0), .second, .val (.int ld), .val (.int s7)] [(.long c0), (.int (128 : Int32)), (.int (ta + (2 : Int32))), (.ref a)]))
        refine own_go (fun _ kS => XS.bipush X3.here hx rfl (hb hby d1_156) kS) ?_
        show own_Run p e below _ (T3.setTop (mkF m 158 #[.val (.ref a), .val (.int ta), .val (.int sz), .val (.int xx), .val (.long c0), .second, .val (.int ld), .val (.int s7)] [(.int (6 : Int32)), (.long c0), (.int (128 : Int32)), (.int (ta + (2 : Int32))), (.ref a)]))
        refine own_go (fun _ kS => XS.lushr X3.here hx rfl (hb hby d1_158) rfl kS) ?_
        show own_Run p e below _ (T3.setTop (mkF m 159 #[.val (.ref a), .val (.int ta), .val (.int sz), .val (.int xx), .val (.long c0), .second, .val (.int ld), .val (.int s7)] [(.long ((c0.toUInt64 >>> ((6 : Int32) &&& 0x3f).toInt64.toUInt64).toInt64)), (.int (128 : Int32)), (.int (ta + (2 : Int32))), (.ref a)]))
        refine own_ldc2 X3 hx hZ hown (hw _ (List.mem_of_getElem? (i := 9) rfl)) rfl (hb hby d1_159) ?_
        show own_Run p e below _ (T3.setTop (mkF m 162 #[.val (.ref a), .val (.int ta), .val (.int sz), .val (.int xx), .val (.long c0), .second, .val (.int ld), .val (.int s7)] [(.long (63 : Int64)), (.long ((c0.toUInt64 >>> ((6 : Int32) &&& 0x3f).toInt64.toUInt64).toInt64)), (.int (128 : Int32)), (.int (ta + (2 : Int32))), (.ref a)]))
        refine own_go (fun _ kS => XS.land X3.here hx rfl (hb hby d1_162) rfl kS) ?_
        show own_Run p e below _ (T3.setTop (mkF m 163 #[.val (.ref a), .val (.int ta), .val (.int sz), .val (.int xx), .val (.long c0), .second, .val (.int ld), .val (.int s7)] [(.long (((c0.toUInt64 >>> ((6 : Int32) &&& 0x3f).toInt64.toUInt64).toInt64) &&& (63 : Int64))), (.int (128 : Int32)), (.int (ta + (2 : Int32))), (.ref a)]))
        refine own_go (fun _ kS => XS.l2i X3.here hx rfl (hb hby d1_163) rfl kS) ?_
        show own_Run p e below _ (T3.setTop (mkF m 164 #[.val (.ref a), .val (.int ta), .val (.int sz), .val (.int xx), .val (.long c0), .second, .val (.int ld), .val (.int s7)] [(.int (((c0.toUInt64 >>> ((6 : Int32) &&& 0x3f).toInt64.toUInt64).toInt64) &&& (63 : Int64)).toInt32), (.int (128 : Int32)), (.int (ta + (2 : Int32))), (.ref a)]))
        refine own_go (fun _ kS => XS.ior X3.here hx rfl (hb hby d1_164) rfl kS) ?_
        show own_Run p e below _ (T3.setTop (mkF m 165 #[.val (.ref a), .val (.int ta), .val (.int sz), .val (.int xx), .val (.long c0), .second, .val (.int ld), .val (.int s7)] [(.int ((128 : Int32) ||| (((c0.toUInt64 >>> ((6 : Int32) &&& 0x3f).toInt64.toUInt64).toInt64) &&& (63 : Int64)).toInt32)), (.int (ta + (2 : Int32))), (.ref a)]))
        refine own_go (fun _ kS => XS.i2b X3.here hx rfl (hb hby d1_165) rfl kS) ?_
        show own_Run p e below _ (T3.setTop (mkF m 166 #[.val (.ref a), .val (.int ta), .val (.int sz), .val (.int xx), .val (.long c0), .second, .val (.int ld), .val (.int s7)] [(.int ((128 : Int32) ||| (((c0.toUInt64 >>> ((6 : Int32) &&& 0x3f).toInt64.toUInt64).toInt64) &&& (63 : Int64)).toInt32).toInt8.toInt32), (.int (ta + (2 : Int32))), (.ref a)]))
        refine own_bastore X3 hx hZ e3 A3 (j := (ta + (2 : Int32))) ⟨by omega, by omega⟩ rfl rfl (hb hby d1_166) (fun T4 h4 X4 e4 W4 A4 => ?_)
        replace hz := Nat.le_trans hz (Nat.le_of_eq W4.size.symm)
        replace N := Fr.snoc X4 N g_a
        replace K := K.wr W4 (Or.inl (List.mem_of_getElem? (i := 0) rfl))
        replace A4 : own_Arr Z h4 a .byte 8 (own_up (own_up (own_up f (t + 0) (.int (nar .byte ld.toInt8.toInt32))) (t + 1) (.int (nar .byte s7.toInt8.toInt32))) (t + 2) (.int (nar .byte ((128 : Int32) ||| (((c0.toUInt64 >>> ((6 : Int32) &&& 0x3f).toInt64.toUInt64).toInt64) &&& (63 : Int64)).toInt32).toInt8.toInt32))) := A4.congr (fun i _ => own_upc ha2 _ _ i)
        show own_Run p e below _ (T4.setTop (mkF m 167 #[.val (.ref a), .val (.int ta), .val (.int sz), .val (.int xx), .val (.long c0), .second, .val (.int ld), .val (.int s7)] []))
        refine own_go (fun _ kS => XS.iloadN X4.here hx rfl (hb hby d1_167) rfl kS) ?_
        show own_Run p e below _ (T4.setTop (mkF m 168 #[.val (.ref a), .val (.int ta), .val (.int sz), .val (.int xx), .val (.long c0), .second, .val (.int ld), .val (.int s7)] [(.int sz)]))
        refine own_go (fun _ kS => XS.iconst X4.here hx rfl (hb hby d1_168) kS) ?_
        show own_Run p e below _ (T4.setTop (mkF m 169 #[.val (.ref a), .val (.int ta), .val (.int sz), .val (.int xx), .val (.long c0), .second, .val (.int ld), .val (.int s7)] [(.int (4 : Int32)), (.int sz)]))
        by_cases hc169 : sz = (4 : Int32)
        · refine own_go (fun _ kS => XS.icmpNo X4.here hx rfl (hb hby d1_169) rfl (teq hc169).2 kS) ?_
          show own_Run p e below _ (T4.setTop (mkF m 172 #[.val (.ref a), .val (.int ta), .val (.int sz), .val (.int xx), .val (.long c0), .second, .val (.int ld), .val (.int s7)] []))
          have kz : z = 4 := by have w : sz.toInt = (4 : Int32).toInt := congrArg Int32.toInt hc169; omega
          refine own_go (fun _ kS => XS.aloadN X4.here hx rfl (hb hby d1_172) rfl rfl kS) ?_
          show own_Run p e below _ (T4.setTop (mkF m 173 #[.val (.ref a), .val (.int ta), .val (.int sz), .val (.int xx), .val (.long c0), .second, .val (.int ld), .val (.int s7)] [(.ref a)]))
          refine own_go (fun _ kS => XS.iloadN X4.here hx rfl (hb hby d1_173) rfl kS) ?_
          show own_Run p e below _ (T4.setTop (mkF m 174 #[.val (.ref a), .val (.int ta), .val (.int sz), .val (.int xx), .val (.long c0), .second, .val (.int ld), .val (.int s7)] [(.int ta), (.ref a)]))
          refine own_go (fun _ kS => XS.iconst X4.here hx rfl (hb hby d1_174) kS) ?_
          show own_Run p e below _ (T4.setTop (mkF m 175 #[.val (.ref a), .val (.int ta), .val (.int sz), .val (.int xx), .val (.long c0), .second, .val (.int ld), .val (.int s7)] [(.int (3 : Int32)), (.int ta), (.ref a)]))
          refine own_go (fun _ kS => XS.iadd X4.here hx rfl (hb hby d1_175) rfl kS) ?_
          show own_Run p e below _ (T4.setTop (mkF m 176 #[.val (.ref a), .val (.int ta), .val (.int sz), .val (.int xx), .val (.long c0), .second, .val (.int ld), .val (.int s7)] [(.int (ta + (3 : Int32))), (.ref a)]))
          refine own_go (fun _ kS => XS.sipush X4.here hx rfl (hb hby d1_176) kS) ?_
          show own_Run p e below _ (T4.setTop (mkF m 179 #[.val (.ref a), .val (.int ta), .val (.int sz), .val (.int xx), .val (.long c0), .second, .val (.int ld), .val (.int s7)] [(.int (128 : Int32)), (.int (ta + (3 : Int32))), (.ref a)]))
          refine own_go (fun _ kS => XS.lload X4.here hx rfl (hb hby d1_179) rfl kS) ?_
          show own_Run p e below _ (T4.setTop (mkF m 181 #[.val (.ref a), .val (.int ta), .val (.int sz), .val (.int xx), .val (.long c0), .second, .val (.int ld), .val (.int s7)] [(.long c0), (.int (128 : Int32)), (.int (ta + (3 : Int32))), (.ref a)]))
          refine own_go (fun _ kS => XS.bipush X4.here hx rfl (hb hby d1_181) kS) ?_
          show own_Run p e below _ (T4.setTop (mkF m 183 #[.val (.ref a), .val (.int ta), .val (.int sz), .val (.int xx), .val (.long c0), .second, .val (.int ld), .val (.int s7)] [(.int (12 : Int32)), (.long c0), (.int (128 : Int32)), (.int (ta + (3 : Int32))), (.ref a)]))
          refine own_go (fun _ kS => XS.lushr X4.here hx rfl (hb hby d1_183) rfl kS) ?_
          show own_Run p e below _ (T4.setTop (mkF m 184 #[.val (.ref a), .val (.int ta), .val (.int sz), .val (.int xx), .val (.long c0), .second, .val (.int ld), .val (.int s7)] [(.long ((c0.toUInt64 >>> ((12 : Int32) &&& 0x3f).toInt64.toUInt64).toInt64)), (.int (128 : Int32)), (.int (ta + (3 : Int32))), (.ref a)]))
          refine own_ldc2 X4 hx hZ hown (hw _ (List.mem_of_getElem? (i := 9) rfl)) rfl (hb hby d1_184) ?_
          show own_Run p e below _ (T4.setTop (mkF m 187 #[.val (.ref a), .val (.int ta), .val (.int sz), .val (.int xx), .val (.long c0), .second, .val (.int ld), .val (.int s7)] [(.long (63 : Int64)), (.long ((c0.toUInt64 >>> ((12 : Int32) &&& 0x3f).toInt64.toUInt64).toInt64)), (.int (128 : Int32)), (.int (ta + (3 : Int32))), (.ref a)]))
          refine own_go (fun _ kS => XS.land X4.here hx rfl (hb hby d1_187) rfl kS) ?_
          show own_Run p e below _ (T4.setTop (mkF m 188 #[.val (.ref a), .val (.int ta), .val (.int sz), .val (.int xx), .val (.long c0), .second, .val (.int ld), .val (.int s7)] [(.long (((c0.toUInt64 >>> ((12 : Int32) &&& 0x3f).toInt64.toUInt64).toInt64) &&& (63 : Int64))), (.int (128 : Int32)), (.int (ta + (3 : Int32))), (.ref a)]))
          refine own_go (fun _ kS => XS.l2i X4.here hx rfl (hb hby d1_188) rfl kS) ?_
          show own_Run p e below _ (T4.setTop (mkF m 189 #[.val (.ref a), .val (.int ta), .val (.int sz), .val (.int xx), .val (.long c0), .second, .val (.int ld), .val (.int s7)] [(.int (((c0.toUInt64 >>> ((12 : Int32) &&& 0x3f).toInt64.toUInt64).toInt64) &&& (63 : Int64)).toInt32), (.int (128 : Int32)), (.int (ta + (3 : Int32))), (.ref a)]))
          refine own_go (fun _ kS => XS.ior X4.here hx rfl (hb hby d1_189) rfl kS) ?_
          show own_Run p e below _ (T4.setTop (mkF m 190 #[.val (.ref a), .val (.int ta), .val (.int sz), .val (.int xx), .val (.long c0), .second, .val (.int ld), .val (.int s7)] [(.int ((128 : Int32) ||| (((c0.toUInt64 >>> ((12 : Int32) &&& 0x3f).toInt64.toUInt64).toInt64) &&& (63 : Int64)).toInt32)), (.int (ta + (3 : Int32))), (.ref a)]))
          refine own_go (fun _ kS => XS.i2b X4.here hx rfl (hb hby d1_190) rfl kS) ?_
          show own_Run p e below _ (T4.setTop (mkF m 191 #[.val (.ref a), .val (.int ta), .val (.int sz), .val (.int xx), .val (.long c0), .second, .val (.int ld), .val (.int s7)] [(.int ((128 : Int32) ||| (((c0.toUInt64 >>> ((12 : Int32) &&& 0x3f).toInt64.toUInt64).toInt64) &&& (63 : Int64)).toInt32).toInt8.toInt32), (.int (ta + (3 : Int32))), (.ref a)]))
          refine own_bastore X4 hx hZ e4 A4 (j := (ta + (3 : Int32))) ⟨by omega, by omega⟩ rfl rfl (hb hby d1_191) (fun T5 h5 X5 e5 W5 A5 => ?_)
          replace hz := Nat.le_trans hz (Nat.le_of_eq W5.size.symm)
          replace N := Fr.snoc X5 N g_a
          replace K := K.wr W5 (Or.inl (List.mem_of_getElem? (i := 0) rfl))
          replace A5 : own_Arr Z h5 a .byte 8 (own_up (own_up (own_up (own_up f (t + 0) (.int (nar .byte ld.toInt8.toInt32))) (t + 1) (.int (nar .byte s7.toInt8.toInt32))) (t + 2) (.int (nar .byte ((128 : Int32) ||| (((c0.toUInt64 >>> ((6 : Int32) &&& 0x3f).toInt64.toUInt64).toInt64) &&& (63 : Int64)).toInt32).toInt8.toInt32))) (t + 3) (.int (nar .byte ((128 : Int32) ||| (((c0.toUInt64 >>> ((12 : Int32) &&& 0x3f).toInt64.toUInt64).toInt64) &&& (63 : Int64)).toInt32).toInt8.toInt32))) := A5.congr (fun i _ => own_upc ha3 _ _ i)
          show own_Run p e below _ (T5.setTop (mkF m 192 #[.val (.ref a), .val (.int ta), .val (.int sz), .val (.int xx), .val (.long c0), .second, .val (.int ld), .val (.int s7)] []))
          refine own_retV X5 hx hret hlk (hb hby d1_192) (by decide) (by decide) ?_
          rw [e5]
          exact ⟨rfl, N, K, _, A5, own_p4 kz hld hs7 (own_con _) (own_con _)⟩
        · refine own_go (fun _ kS => XS.icmpYes X4.here hx rfl (pc0 := 169) (pc' := 192) rfl (hb hby d1_169) rfl (feq hc169).2 (by decide) (by decide) kS) ?_
          show own_Run p e below _ (T4.setTop (mkF m 192 #[.val (.ref a), .val (.int ta), .val (.int sz), .val (.int xx), .val (.long c0), .second, .val (.int ld), .val (.int s7)] []))
          refine own_retV X4 hx hret hlk (hb hby d1_192) (by decide) (by decide) ?_
          rw [e4]
          exact ⟨rfl, N, K, _, A4, own_p3 (by have w : ¬ sz.toInt = (4 : Int32).toInt := fun w => hc169 (own_inj w); omega) hld hs7 (own_con _)⟩
    have J110 : own_Run p e below (own_End s ({ frames := 1, cells := 0, slots := 0, locals := 15 } : Room) (Q_put Z a ta sz xx c0 f t z n0 h0)) (T2.setTop (mkF m 110 #[.val (.ref a), .val (.int ta), .val (.int sz), .val (.int xx), .val (.long c0), .second, .val (.int ld), .val (.int ((128 : Int32) ||| (c0 &&& (63 : Int64)).toInt32))] [])) := by
      show own_Run p e below _ (T2.setTop (mkF m 110 #[.val (.ref a), .val (.int ta), .val (.int sz), .val (.int xx), .val (.long c0), .second, .val (.int ld), .val (.int ((128 : Int32) ||| (c0 &&& (63 : Int64)).toInt32))] []))
      refine own_go (fun _ kS => XS.iload X2.here hx rfl (hb hby d1_110) rfl kS) ?_
      show own_Run p e below _ (T2.setTop (mkF m 112 #[.val (.ref a), .val (.int ta), .val (.int sz), .val (.int xx), .val (.long c0), .second, .val (.int ld), .val (.int ((128 : Int32) ||| (c0 &&& (63 : Int64)).toInt32))] [(.int ld)]))
      refine own_go (fun _ kS => XS.sipush X2.here hx rfl (hb hby d1_112) kS) ?_
      show own_Run p e below _ (T2.setTop (mkF m 115 #[.val (.ref a), .val (.int ta), .val (.int sz), .val (.int xx), .val (.long c0), .second, .val (.int ld), .val (.int ((128 : Int32) ||| (c0 &&& (63 : Int64)).toInt32))] [(.int (244 : Int32)), (.int ld)]))
      by_cases hc115 : ld = (244 : Int32)
      · refine own_go (fun _ kS => XS.icmpNo X2.here hx rfl (hb hby d1_115) rfl (teq hc115).2 kS) ?_
        show own_Run p e below _ (T2.setTop (mkF m 118 #[.val (.ref a), .val (.int ta), .val (.int sz), .val (.int xx), .val (.long c0), .second, .val (.int ld), .val (.int ((128 : Int32) ||| (c0 &&& (63 : Int64)).toInt32))] []))
        refine own_go (fun _ kS => XS.iload X2.here hx rfl (hb hby d1_118) rfl kS) ?_
        show own_Run p e below _ (T2.setTop (mkF m 120 #[.val (.ref a), .val (.int ta), .val (.int sz), .val (.int xx), .val (.long c0), .second, .val (.int ld), .val (.int ((128 : Int32) ||| (c0 &&& (63 : Int64)).toInt32))] [(.int ((128 : Int32) ||| (c0 &&& (63 : Int64)).toInt32))]))
        refine own_go (fun _ kS => XS.sipush X2.here hx rfl (hb hby d1_120) kS) ?_
        show own_Run p e below _ (T2.setTop (mkF m 123 #[.val (.ref a), .val (.int ta), .val (.int sz), .val (.int xx), .val (.long c0), .second, .val (.int ld), .val (.int ((128 : Int32) ||| (c0 &&& (63 : Int64)).toInt32))] [(.int (143 : Int32)), (.int ((128 : Int32) ||| (c0 &&& (63 : Int64)).toInt32))]))
        by_cases hc123 : (143 : Int32) < ((128 : Int32) ||| (c0 &&& (63 : Int64)).toInt32)
        · refine own_go (fun _ kS => XS.icmpNo X2.here hx rfl (hb hby d1_123) rfl (tlt hc123).2.2.2 kS) ?_
          show own_Run p e below _ (T2.setTop (mkF m 126 #[.val (.ref a), .val (.int ta), .val (.int sz), .val (.int xx), .val (.long c0), .second, .val (.int ld), .val (.int ((128 : Int32) ||| (c0 &&& (63 : Int64)).toInt32))] []))
          refine own_go (fun _ kS => XS.iload X2.here hx rfl (hb hby d1_126) rfl kS) ?_
          show own_Run p e below _ (T2.setTop (mkF m 128 #[.val (.ref a), .val (.int ta), .val (.int sz), .val (.int xx), .val (.long c0), .second, .val (.int ld), .val (.int ((128 : Int32) ||| (c0 &&& (63 : Int64)).toInt32))] [(.int ((128 : Int32) ||| (c0 &&& (63 : Int64)).toInt32))]))
          refine own_go (fun _ kS => XS.sipush X2.here hx rfl (hb hby d1_128) kS) ?_
          show own_Run p e below _ (T2.setTop (mkF m 131 #[.val (.ref a), .val (.int ta), .val (.int sz), .val (.int xx), .val (.long c0), .second, .val (.int ld), .val (.int ((128 : Int32) ||| (c0 &&& (63 : Int64)).toInt32))] [(.int (143 : Int32)), (.int ((128 : Int32) ||| (c0 &&& (63 : Int64)).toInt32))]))
          refine own_go (fun _ kS => XS.iand X2.here hx rfl (hb hby d1_131) rfl kS) ?_
          show own_Run p e below _ (T2.setTop (mkF m 132 #[.val (.ref a), .val (.int ta), .val (.int sz), .val (.int xx), .val (.long c0), .second, .val (.int ld), .val (.int ((128 : Int32) ||| (c0 &&& (63 : Int64)).toInt32))] [(.int (((128 : Int32) ||| (c0 &&& (63 : Int64)).toInt32) &&& (143 : Int32)))]))
          refine own_go (fun _ kS => XS.istore X2.here hx rfl (hb hby d1_132) rfl (l' := #[.val (.ref a), .val (.int ta), .val (.int sz), .val (.int xx), .val (.long c0), .second, .val (.int ld), .val (.int (((128 : Int32) ||| (c0 &&& (63 : Int64)).toInt32) &&& (143 : Int32)))]) rfl kS) ?_
          show own_Run p e below _ (T2.setTop (mkF m 134 #[.val (.ref a), .val (.int ta), .val (.int sz), .val (.int xx), .val (.long c0), .second, .val (.int ld), .val (.int (((128 : Int32) ||| (c0 &&& (63 : Int64)).toInt32) &&& (143 : Int32)))] []))
          exact J134 _ ((own_sec _).2.2.2.2 hc123)
        · refine own_go (fun _ kS => XS.icmpYes X2.here hx rfl (pc0 := 123) (pc' := 134) rfl (hb hby d1_123) rfl (flt hc123).2.2.2 (by decide) (by decide) kS) ?_
          show own_Run p e below _ (T2.setTop (mkF m 134 #[.val (.ref a), .val (.int ta), .val (.int sz), .val (.int xx), .val (.long c0), .second, .val (.int ld), .val (.int ((128 : Int32) ||| (c0 &&& (63 : Int64)).toInt32))] []))
          exact J134 _ (own_sec _).1
      · refine own_go (fun _ kS => XS.icmpYes X2.here hx rfl (pc0 := 115) (pc' := 134) rfl (hb hby d1_115) rfl (feq hc115).2 (by decide) (by decide) kS) ?_
        show own_Run p e below _ (T2.setTop (mkF m 134 #[.val (.ref a), .val (.int ta), .val (.int sz), .val (.int xx), .val (.long c0), .second, .val (.int ld), .val (.int ((128 : Int32) ||| (c0 &&& (63 : Int64)).toInt32))] []))
        exact J134 _ (own_sec _).1
    have J84 : own_Run p e below (own_End s ({ frames := 1, cells := 0, slots := 0, locals := 15 } : Room) (Q_put Z a ta sz xx c0 f t z n0 h0)) (T2.setTop (mkF m 84 #[.val (.ref a), .val (.int ta), .val (.int sz), .val (.int xx), .val (.long c0), .second, .val (.int ld), .val (.int ((128 : Int32) ||| (c0 &&& (63 : Int64)).toInt32))] [])) := by
      show own_Run p e below _ (T2.setTop (mkF m 84 #[.val (.ref a), .val (.int ta), .val (.int sz), .val (.int xx), .val (.long c0), .second, .val (.int ld), .val (.int ((128 : Int32) ||| (c0 &&& (63 : Int64)).toInt32))] []))
      refine own_go (fun _ kS => XS.iload X2.here hx rfl (hb hby d1_84) rfl kS) ?_
      show own_Run p e below _ (T2.setTop (mkF m 86 #[.val (.ref a), .val (.int ta), .val (.int sz), .val (.int xx), .val (.long c0), .second, .val (.int ld), .val (.int ((128 : Int32) ||| (c0 &&& (63 : Int64)).toInt32))] [(.int ld)]))
      refine own_go (fun _ kS => XS.sipush X2.here hx rfl (hb hby d1_86) kS) ?_
      show own_Run p e below _ (T2.setTop (mkF m 89 #[.val (.ref a), .val (.int ta), .val (.int sz), .val (.int xx), .val (.long c0), .second, .val (.int ld), .val (.int ((128 : Int32) ||| (c0 &&& (63 : Int64)).toInt32))] [(.int (240 : Int32)), (.int ld)]))
      by_cases hc89 : ld = (240 : Int32)
      · refine own_go (fun _ kS => XS.icmpNo X2.here hx rfl (hb hby d1_89) rfl (teq hc89).2 kS) ?_
        show own_Run p e below _ (T2.setTop (mkF m 92 #[.val (.ref a), .val (.int ta), .val (.int sz), .val (.int xx), .val (.long c0), .second, .val (.int ld), .val (.int ((128 : Int32) ||| (c0 &&& (63 : Int64)).toInt32))] []))
        refine own_go (fun _ kS => XS.iload X2.here hx rfl (hb hby d1_92) rfl kS) ?_
        show own_Run p e below _ (T2.setTop (mkF m 94 #[.val (.ref a), .val (.int ta), .val (.int sz), .val (.int xx), .val (.long c0), .second, .val (.int ld), .val (.int ((128 : Int32) ||| (c0 &&& (63 : Int64)).toInt32))] [(.int ((128 : Int32) ||| (c0 &&& (63 : Int64)).toInt32))]))
        refine own_go (fun _ kS => XS.sipush X2.here hx rfl (hb hby d1_94) kS) ?_
        show own_Run p e below _ (T2.setTop (mkF m 97 #[.val (.ref a), .val (.int ta), .val (.int sz), .val (.int xx), .val (.long c0), .second, .val (.int ld), .val (.int ((128 : Int32) ||| (c0 &&& (63 : Int64)).toInt32))] [(.int (144 : Int32)), (.int ((128 : Int32) ||| (c0 &&& (63 : Int64)).toInt32))]))
        by_cases hc97 : ((128 : Int32) ||| (c0 &&& (63 : Int64)).toInt32) < (144 : Int32)
        · refine own_go (fun _ kS => XS.icmpNo X2.here hx rfl (hb hby d1_97) rfl (tlt hc97).2.1 kS) ?_
          show own_Run p e below _ (T2.setTop (mkF m 100 #[.val (.ref a), .val (.int ta), .val (.int sz), .val (.int xx), .val (.long c0), .second, .val (.int ld), .val (.int ((128 : Int32) ||| (c0 &&& (63 : Int64)).toInt32))] []))
          refine own_go (fun _ kS => XS.iload X2.here hx rfl (hb hby d1_100) rfl kS) ?_
          show own_Run p e below _ (T2.setTop (mkF m 102 #[.val (.ref a), .val (.int ta), .val (.int sz), .val (.int xx), .val (.long c0), .second, .val (.int ld), .val (.int ((128 : Int32) ||| (c0 &&& (63 : Int64)).toInt32))] [(.int ((128 : Int32) ||| (c0 &&& (63 : Int64)).toInt32))]))
          refine own_go (fun _ kS => XS.bipush X2.here hx rfl (hb hby d1_102) kS) ?_
          show own_Run p e below _ (T2.setTop (mkF m 104 #[.val (.ref a), .val (.int ta), .val (.int sz), .val (.int xx), .val (.long c0), .second, .val (.int ld), .val (.int ((128 : Int32) ||| (c0 &&& (63 : Int64)).toInt32))] [(.int (16 : Int32)), (.int ((128 : Int32) ||| (c0 &&& (63 : Int64)).toInt32))]))
          refine own_go (fun _ kS => XS.ior X2.here hx rfl (hb hby d1_104) rfl kS) ?_
          show own_Run p e below _ (T2.setTop (mkF m 105 #[.val (.ref a), .val (.int ta), .val (.int sz), .val (.int xx), .val (.long c0), .second, .val (.int ld), .val (.int ((128 : Int32) ||| (c0 &&& (63 : Int64)).toInt32))] [(.int (((128 : Int32) ||| (c0 &&& (63 : Int64)).toInt32) ||| (16 : Int32)))]))
          refine own_go (fun _ kS => XS.istore X2.here hx rfl (hb hby d1_105) rfl (l' := #[.val (.ref a), .val (.int ta), .val (.int sz), .val (.int xx), .val (.long c0), .second, .val (.int ld), .val (.int (((128 : Int32) ||| (c0 &&& (63 : Int64)).toInt32) ||| (16 : Int32)))]) rfl kS) ?_
          show own_Run p e below _ (T2.setTop (mkF m 107 #[.val (.ref a), .val (.int ta), .val (.int sz), .val (.int xx), .val (.long c0), .second, .val (.int ld), .val (.int (((128 : Int32) ||| (c0 &&& (63 : Int64)).toInt32) ||| (16 : Int32)))] []))
          refine own_go (fun _ kS => XS.goto X2.here hx rfl (pc0 := 107) (pc' := 134) rfl (hb hby d1_107) (by decide) (by decide) kS) ?_
          show own_Run p e below _ (T2.setTop (mkF m 134 #[.val (.ref a), .val (.int ta), .val (.int sz), .val (.int xx), .val (.long c0), .second, .val (.int ld), .val (.int (((128 : Int32) ||| (c0 &&& (63 : Int64)).toInt32) ||| (16 : Int32)))] []))
          exact J134 _ (own_sec _).2.2.2.1
        · refine own_go (fun _ kS => XS.icmpYes X2.here hx rfl (pc0 := 97) (pc' := 110) rfl (hb hby d1_97) rfl (flt hc97).2.1 (by decide) (by decide) kS) ?_
          show own_Run p e below _ (T2.setTop (mkF m 110 #[.val (.ref a), .val (.int ta), .val (.int sz), .val (.int xx), .val (.long c0), .second, .val (.int ld), .val (.int ((128 : Int32) ||| (c0 &&& (63 : Int64)).toInt32))] []))
          exact J110
      · refine own_go (fun _ kS => XS.icmpYes X2.here hx rfl (pc0 := 89) (pc' := 110) rfl (hb hby d1_89) rfl (feq hc89).2 (by decide) (by decide) kS) ?_
        show own_Run p e below _ (T2.setTop (mkF m 110 #[.val (.ref a), .val (.int ta), .val (.int sz), .val (.int xx), .val (.long c0), .second, .val (.int ld), .val (.int ((128 : Int32) ||| (c0 &&& (63 : Int64)).toInt32))] []))
        exact J110
    have J57 : own_Run p e below (own_End s ({ frames := 1, cells := 0, slots := 0, locals := 15 } : Room) (Q_put Z a ta sz xx c0 f t z n0 h0)) (T2.setTop (mkF m 57 #[.val (.ref a), .val (.int ta), .val (.int sz), .val (.int xx), .val (.long c0), .second, .val (.int ld), .val (.int ((128 : Int32) ||| (c0 &&& (63 : Int64)).toInt32))] [])) := by
      show own_Run p e below _ (T2.setTop (mkF m 57 #[.val (.ref a), .val (.int ta), .val (.int sz), .val (.int xx), .val (.long c0), .second, .val (.int ld), .val (.int ((128 : Int32) ||| (c0 &&& (63 : Int64)).toInt32))] []))
      refine own_go (fun _ kS => XS.iload X2.here hx rfl (hb hby d1_57) rfl kS) ?_
      show own_Run p e below _ (T2.setTop (mkF m 59 #[.val (.ref a), .val (.int ta), .val (.int sz), .val (.int xx), .val (.long c0), .second, .val (.int ld), .val (.int ((128 : Int32) ||| (c0 &&& (63 : Int64)).toInt32))] [(.int ld)]))
      refine own_go (fun _ kS => XS.sipush X2.here hx rfl (hb hby d1_59) kS) ?_
      show own_Run p e below _ (T2.setTop (mkF m 62 #[.val (.ref a), .val (.int ta), .val (.int sz), .val (.int xx), .val (.long c0), .second, .val (.int ld), .val (.int ((128 : Int32) ||| (c0 &&& (63 : Int64)).toInt32))] [(.int (237 : Int32)), (.int ld)]))
      by_cases hc62 : ld = (237 : Int32)
      · refine own_go (fun _ kS => XS.icmpNo X2.here hx rfl (hb hby d1_62) rfl (teq hc62).2 kS) ?_
        show own_Run p e below _ (T2.setTop (mkF m 65 #[.val (.ref a), .val (.int ta), .val (.int sz), .val (.int xx), .val (.long c0), .second, .val (.int ld), .val (.int ((128 : Int32) ||| (c0 &&& (63 : Int64)).toInt32))] []))
        refine own_go (fun _ kS => XS.iload X2.here hx rfl (hb hby d1_65) rfl kS) ?_
        show own_Run p e below _ (T2.setTop (mkF m 67 #[.val (.ref a), .val (.int ta), .val (.int sz), .val (.int xx), .val (.long c0), .second, .val (.int ld), .val (.int ((128 : Int32) ||| (c0 &&& (63 : Int64)).toInt32))] [(.int ((128 : Int32) ||| (c0 &&& (63 : Int64)).toInt32))]))
        refine own_go (fun _ kS => XS.sipush X2.here hx rfl (hb hby d1_67) kS) ?_
        show own_Run p e below _ (T2.setTop (mkF m 70 #[.val (.ref a), .val (.int ta), .val (.int sz), .val (.int xx), .val (.long c0), .second, .val (.int ld), .val (.int ((128 : Int32) ||| (c0 &&& (63 : Int64)).toInt32))] [(.int (159 : Int32)), (.int ((128 : Int32) ||| (c0 &&& (63 : Int64)).toInt32))]))
        by_cases hc70 : (159 : Int32) < ((128 : Int32) ||| (c0 &&& (63 : Int64)).toInt32)
        · refine own_go (fun _ kS => XS.icmpNo X2.here hx rfl (hb hby d1_70) rfl (tlt hc70).2.2.2 kS) ?_
          show own_Run p e below _ (T2.setTop (mkF m 73 #[.val (.ref a), .val (.int ta), .val (.int sz), .val (.int xx), .val (.long c0), .second, .val (.int ld), .val (.int ((128 : Int32) ||| (c0 &&& (63 : Int64)).toInt32))] []))
          refine own_go (fun _ kS => XS.iload X2.here hx rfl (hb hby d1_73) rfl kS) ?_
          show own_Run p e below _ (T2.setTop (mkF m 75 #[.val (.ref a), .val (.int ta), .val (.int sz), .val (.int xx), .val (.long c0), .second, .val (.int ld), .val (.int ((128 : Int32) ||| (c0 &&& (63 : Int64)).toInt32))] [(.int ((128 : Int32) ||| (c0 &&& (63 : Int64)).toInt32))]))
          refine own_go (fun _ kS => XS.sipush X2.here hx rfl (hb hby d1_75) kS) ?_
          show own_Run p e below _ (T2.setTop (mkF m 78 #[.val (.ref a), .val (.int ta), .val (.int sz), .val (.int xx), .val (.long c0), .second, .val (.int ld), .val (.int ((128 : Int32) ||| (c0 &&& (63 : Int64)).toInt32))] [(.int (159 : Int32)), (.int ((128 : Int32) ||| (c0 &&& (63 : Int64)).toInt32))]))
          refine own_go (fun _ kS => XS.iand X2.here hx rfl (hb hby d1_78) rfl kS) ?_
          show own_Run p e below _ (T2.setTop (mkF m 79 #[.val (.ref a), .val (.int ta), .val (.int sz), .val (.int xx), .val (.long c0), .second, .val (.int ld), .val (.int ((128 : Int32) ||| (c0 &&& (63 : Int64)).toInt32))] [(.int (((128 : Int32) ||| (c0 &&& (63 : Int64)).toInt32) &&& (159 : Int32)))]))
          refine own_go (fun _ kS => XS.istore X2.here hx rfl (hb hby d1_79) rfl (l' := #[.val (.ref a), .val (.int ta), .val (.int sz), .val (.int xx), .val (.long c0), .second, .val (.int ld), .val (.int (((128 : Int32) ||| (c0 &&& (63 : Int64)).toInt32) &&& (159 : Int32)))]) rfl kS) ?_
          show own_Run p e below _ (T2.setTop (mkF m 81 #[.val (.ref a), .val (.int ta), .val (.int sz), .val (.int xx), .val (.long c0), .second, .val (.int ld), .val (.int (((128 : Int32) ||| (c0 &&& (63 : Int64)).toInt32) &&& (159 : Int32)))] []))
          refine own_go (fun _ kS => XS.goto X2.here hx rfl (pc0 := 81) (pc' := 134) rfl (hb hby d1_81) (by decide) (by decide) kS) ?_
          show own_Run p e below _ (T2.setTop (mkF m 134 #[.val (.ref a), .val (.int ta), .val (.int sz), .val (.int xx), .val (.long c0), .second, .val (.int ld), .val (.int (((128 : Int32) ||| (c0 &&& (63 : Int64)).toInt32) &&& (159 : Int32)))] []))
          exact J134 _ ((own_sec _).2.2.1 hc70)
        · refine own_go (fun _ kS => XS.icmpYes X2.here hx rfl (pc0 := 70) (pc' := 84) rfl (hb hby d1_70) rfl (flt hc70).2.2.2 (by decide) (by decide) kS) ?_
          show own_Run p e below _ (T2.setTop (mkF m 84 #[.val (.ref a), .val (.int ta), .val (.int sz), .val (.int xx), .val (.long c0), .second, .val (.int ld), .val (.int ((128 : Int32) ||| (c0 &&& (63 : Int64)).toInt32))] []))
          exact J84
      · refine own_go (fun _ kS => XS.icmpYes X2.here hx rfl (pc0 := 62) (pc' := 84) rfl (hb hby d1_62) rfl (feq hc62).2 (by decide) (by decide) kS) ?_
        show own_Run p e below _ (T2.setTop (mkF m 84 #[.val (.ref a), .val (.int ta), .val (.int sz), .val (.int xx), .val (.long c0), .second, .val (.int ld), .val (.int ((128 : Int32) ||| (c0 &&& (63 : Int64)).toInt32))] []))
        exact J84
    by_cases hc36 : ld = (224 : Int32)
    · refine own_go (fun _ kS => XS.icmpNo X2.here hx rfl (hb hby d1_36) rfl (teq hc36).2 kS) ?_
      show own_Run p e below _ (T2.setTop (mkF m 39 #[.val (.ref a), .val (.int ta), .val (.int sz), .val (.int xx), .val (.long c0), .second, .val (.int ld), .val (.int ((128 : Int32) ||| (c0 &&& (63 : Int64)).toInt32))] []))
      refine own_go (fun _ kS => XS.iload X2.here hx rfl (hb hby d1_39) rfl kS) ?_
      show own_Run p e below _ (T2.setTop (mkF m 41 #[.val (.ref a), .val (.int ta), .val (.int sz), .val (.int xx), .val (.long c0), .second, .val (.int ld), .val (.int ((128 : Int32) ||| (c0 &&& (63 : Int64)).toInt32))] [(.int ((128 : Int32) ||| (c0 &&& (63 : Int64)).toInt32))]))
      refine own_go (fun _ kS => XS.sipush X2.here hx rfl (hb hby d1_41) kS) ?_
      show own_Run p e below _ (T2.setTop (mkF m 44 #[.val (.ref a), .val (.int ta), .val (.int sz), .val (.int xx), .val (.long c0), .second, .val (.int ld), .val (.int ((128 : Int32) ||| (c0 &&& (63 : Int64)).toInt32))] [(.int (160 : Int32)), (.int ((128 : Int32) ||| (c0 &&& (63 : Int64)).toInt32))]))
      by_cases hc44 : ((128 : Int32) ||| (c0 &&& (63 : Int64)).toInt32) < (160 : Int32)
      · refine own_go (fun _ kS => XS.icmpNo X2.here hx rfl (hb hby d1_44) rfl (tlt hc44).2.1 kS) ?_
        show own_Run p e below _ (T2.setTop (mkF m 47 #[.val (.ref a), .val (.int ta), .val (.int sz), .val (.int xx), .val (.long c0), .second, .val (.int ld), .val (.int ((128 : Int32) ||| (c0 &&& (63 : Int64)).toInt32))] []))
        refine own_go (fun _ kS => XS.iload X2.here hx rfl (hb hby d1_47) rfl kS) ?_
        show own_Run p e below _ (T2.setTop (mkF m 49 #[.val (.ref a), .val (.int ta), .val (.int sz), .val (.int xx), .val (.long c0), .second, .val (.int ld), .val (.int ((128 : Int32) ||| (c0 &&& (63 : Int64)).toInt32))] [(.int ((128 : Int32) ||| (c0 &&& (63 : Int64)).toInt32))]))
        refine own_go (fun _ kS => XS.bipush X2.here hx rfl (hb hby d1_49) kS) ?_
        show own_Run p e below _ (T2.setTop (mkF m 51 #[.val (.ref a), .val (.int ta), .val (.int sz), .val (.int xx), .val (.long c0), .second, .val (.int ld), .val (.int ((128 : Int32) ||| (c0 &&& (63 : Int64)).toInt32))] [(.int (32 : Int32)), (.int ((128 : Int32) ||| (c0 &&& (63 : Int64)).toInt32))]))
        refine own_go (fun _ kS => XS.ior X2.here hx rfl (hb hby d1_51) rfl kS) ?_
        show own_Run p e below _ (T2.setTop (mkF m 52 #[.val (.ref a), .val (.int ta), .val (.int sz), .val (.int xx), .val (.long c0), .second, .val (.int ld), .val (.int ((128 : Int32) ||| (c0 &&& (63 : Int64)).toInt32))] [(.int (((128 : Int32) ||| (c0 &&& (63 : Int64)).toInt32) ||| (32 : Int32)))]))
        refine own_go (fun _ kS => XS.istore X2.here hx rfl (hb hby d1_52) rfl (l' := #[.val (.ref a), .val (.int ta), .val (.int sz), .val (.int xx), .val (.long c0), .second, .val (.int ld), .val (.int (((128 : Int32) ||| (c0 &&& (63 : Int64)).toInt32) ||| (32 : Int32)))]) rfl kS) ?_
        show own_Run p e below _ (T2.setTop (mkF m 54 #[.val (.ref a), .val (.int ta), .val (.int sz), .val (.int xx), .val (.long c0), .second, .val (.int ld), .val (.int (((128 : Int32) ||| (c0 &&& (63 : Int64)).toInt32) ||| (32 : Int32)))] []))
        refine own_go (fun _ kS => XS.goto X2.here hx rfl (pc0 := 54) (pc' := 134) rfl (hb hby d1_54) (by decide) (by decide) kS) ?_
        show own_Run p e below _ (T2.setTop (mkF m 134 #[.val (.ref a), .val (.int ta), .val (.int sz), .val (.int xx), .val (.long c0), .second, .val (.int ld), .val (.int (((128 : Int32) ||| (c0 &&& (63 : Int64)).toInt32) ||| (32 : Int32)))] []))
        exact J134 _ (own_sec _).2.1
      · refine own_go (fun _ kS => XS.icmpYes X2.here hx rfl (pc0 := 44) (pc' := 57) rfl (hb hby d1_44) rfl (flt hc44).2.1 (by decide) (by decide) kS) ?_
        show own_Run p e below _ (T2.setTop (mkF m 57 #[.val (.ref a), .val (.int ta), .val (.int sz), .val (.int xx), .val (.long c0), .second, .val (.int ld), .val (.int ((128 : Int32) ||| (c0 &&& (63 : Int64)).toInt32))] []))
        exact J57
    · refine own_go (fun _ kS => XS.icmpYes X2.here hx rfl (pc0 := 36) (pc' := 57) rfl (hb hby d1_36) rfl (feq hc36).2 (by decide) (by decide) kS) ?_
      show own_Run p e below _ (T2.setTop (mkF m 57 #[.val (.ref a), .val (.int ta), .val (.int sz), .val (.int xx), .val (.long c0), .second, .val (.int ld), .val (.int ((128 : Int32) ||| (c0 &&& (63 : Int64)).toInt32))] []))
      exact J57
theorem d2_0 : decode prog_30_method_9_code 0 = .ok (.iload_n 1, 1) := by decide +kernel
theorem d2_1 : decode prog_30_method_9_code 1 = .ok (.istore_n 2, 1) := by decide +kernel
theorem d2_2 : decode prog_30_method_9_code 2 = .ok (.aload_n 0, 1) := by decide +kernel
theorem d2_3 : decode prog_30_method_9_code 3 = .ok (.iload_n 2, 1) := by decide +kernel
theorem d2_4 : decode prog_30_method_9_code 4 = .ok (.baload, 1) := by decide +kernel
theorem d2_5 : decode prog_30_method_9_code 5 = .ok (.sipush 192, 3) := by decide +kernel
theorem d2_8 : decode prog_30_method_9_code 8 = .ok (.iand, 1) := by decide +kernel
theorem d2_9 : decode prog_30_method_9_code 9 = .ok (.sipush 128, 3) := by decide +kernel
theorem d2_12 : decode prog_30_method_9_code 12 = .ok (.if_icmp .ne 9, 3) := by decide +kernel
theorem d2_15 : decode prog_30_method_9_code 15 = .ok (.iinc 2 (-1), 3) := by decide +kernel
theorem d2_18 : decode prog_30_method_9_code 18 = .ok (.goto (-16), 3) := by decide +kernel
theorem d2_21 : decode prog_30_method_9_code 21 = .ok (.iload_n 2, 1) := by decide +kernel
theorem d2_22 : decode prog_30_method_9_code 22 = .ok (.ireturn, 1) := by decide +kernel
abbrev Q_cs (Z : State) (a : Addr) (iv : Int32) (f : Nat → Value) (sx kx : Nat) (h0 : Heap) : Option Value → Heap → List Loc → Prop := fun v h L => v = some (.int (Int32.ofInt sx)) ∧ h0 = h ∧ L = []
set_option maxRecDepth 65536 in
set_option maxHeartbeats 40000000 in
theorem rm_cs (l : Launch) (Z : State) (a0 : Array Value) (hw : ∀ d ∈ tables_1, d.before a0 Z = true) (a : Addr) (iv : Int32) (f : Nat → Value) (sx kx : Nat) (h0 : Heap) (A_a : own_Arr Z h0 a .byte 8 f) (hk : iv.toInt = kx) (hst : sx ≤ kx) (hk8 : kx < 8) (hL : own_isL (f sx)) (hC : ∀ j, sx < j → j ≤ kx → own_isC (f j)) :
    own_Met l Z (⟨"com/example/quillwire/quillwire/binary/Utf8", "charStart", "([BI)I"⟩ : MethodName) prog_30_method_9_code 3 (some .int) ({ frames := 0, cells := 0, slots := 0, locals := 0 } : Room) #[(.ref a), (.int iv)] h0 (Q_cs Z a iv f sx kx h0) := by
  refine own_enter (g0 := fun m => (mkF m 0 #[.val (.ref a), .val (.int iv), .unset] [])) (plainFor_of_name (by first | (simp [plainName, overriddenIn]; done) | decide +kernel)) (fun m => by first | (simp [entryFrame, mkF, argsToLocals, Value.category]; done) | rfl) ?_
  intro p e s m below meth c T hx hby hml hown hnm hZ hret hlk X e0
  replace hown : s.vm.findClass "com/example/quillwire/quillwire/binary/Utf8" = some m.cls := hown
  show own_Run p e below _ (T.setTop (mkF m 0 #[.val (.ref a), .val (.int iv), .unset] []))
  refine own_go (fun _ kS => XS.iloadN X.here hx rfl (hb hby d2_0) rfl kS) ?_
  show own_Run p e below _ (T.setTop (mkF m 1 #[.val (.ref a), .val (.int iv), .unset] [(.int iv)]))
  refine own_go (fun _ kS => XS.istoreN X.here hx rfl (hb hby d2_1) rfl (l' := #[.val (.ref a), .val (.int iv), .val (.int iv)]) rfl kS) ?_
  show own_Run p e below _ (T.setTop (mkF m 2 #[.val (.ref a), .val (.int iv), .val (.int iv)] []))
  have loop : ∀ d j : Nat, j = sx + d → j ≤ kx → own_Run p e below (own_End s ({ frames := 0, cells := 0, slots := 0, locals := 0 } : Room) (Q_cs Z a iv f sx kx h0)) (T.setTop (mkF m 2 #[.val (.ref a), .val (.int iv), .val (.int (Int32.ofInt j))] [])) := by
    intro d
    induction d with
    | zero =>
      intro j hj hk2
      obtain ⟨w, hw_, hcw⟩ := hL
      have hij := own_oi j (by omega)
      have hjs : j = sx := by omega
      subst hjs
      show own_Run p e below _ (T.setTop (mkF m 2 #[.val (.ref a), .val (.int iv), .val (.int (Int32.ofInt j))] []))
      refine own_go (fun _ kS => XS.aloadN X.here hx rfl (hb hby d2_2) rfl rfl kS) ?_
      show own_Run p e below _ (T.setTop (mkF m 3 #[.val (.ref a), .val (.int iv), .val (.int (Int32.ofInt j))] [(.ref a)]))
      refine own_go (fun _ kS => XS.iloadN X.here hx rfl (hb hby d2_3) rfl kS) ?_
      show own_Run p e below _ (T.setTop (mkF m 4 #[.val (.ref a), .val (.int iv), .val (.int (Int32.ofInt j))] [(.int (Int32.ofInt j)), (.ref a)]))
      refine own_baload X hx hZ e0 A_a (j := (Int32.ofInt j)) w ⟨by omega, by omega⟩ (by rw [own_ofn j (by omega)]; exact hw_) rfl rfl (hb hby d2_4) ?_
      show own_Run p e below _ (T.setTop (mkF m 5 #[.val (.ref a), .val (.int iv), .val (.int (Int32.ofInt j))] [(.int w)]))
      refine own_go (fun _ kS => XS.sipush X.here hx rfl (hb hby d2_5) kS) ?_
      show own_Run p e below _ (T.setTop (mkF m 8 #[.val (.ref a), .val (.int iv), .val (.int (Int32.ofInt j))] [(.int (192 : Int32)), (.int w)]))
      refine own_go (fun _ kS => XS.iand X.here hx rfl (hb hby d2_8) rfl kS) ?_
      show own_Run p e below _ (T.setTop (mkF m 9 #[.val (.ref a), .val (.int iv), .val (.int (Int32.ofInt j))] [(.int (w &&& (192 : Int32)))]))
      refine own_go (fun _ kS => XS.sipush X.here hx rfl (hb hby d2_9) kS) ?_
      show own_Run p e below _ (T.setTop (mkF m 12 #[.val (.ref a), .val (.int iv), .val (.int (Int32.ofInt j))] [(.int (128 : Int32)), (.int (w &&& (192 : Int32)))]))
      refine own_go (fun _ kS => XS.icmpYes X.here hx rfl (pc0 := 12) (pc' := 21) rfl (hb hby d2_12) rfl (feq (show ¬ ((w &&& (192 : Int32)) = (128 : Int32)) from (hcw))).2 (by decide) (by decide) kS) ?_
      show own_Run p e below _ (T.setTop (mkF m 21 #[.val (.ref a), .val (.int iv), .val (.int (Int32.ofInt j))] []))
      refine own_go (fun _ kS => XS.iloadN X.here hx rfl (hb hby d2_21) rfl kS) ?_
      show own_Run p e below _ (T.setTop (mkF m 22 #[.val (.ref a), .val (.int iv), .val (.int (Int32.ofInt j))] [(.int (Int32.ofInt j))]))
      refine own_retI X hx hret hlk (hb hby d2_22) (by decide) (by decide) ?_
      exact ⟨rfl, e0.symm, rfl⟩
    | succ d ih =>
      intro j hj hk2
      obtain ⟨w, hw_, hcw⟩ := hC j (by omega) hk2
      have hij := own_oi j (by omega)
      show own_Run p e below _ (T.setTop (mkF m 2 #[.val (.ref a), .val (.int iv), .val (.int (Int32.ofInt j))] []))
      refine own_go (fun _ kS => XS.aloadN X.here hx rfl (hb hby d2_2) rfl rfl kS) ?_
      show own_Run p e below _ (T.setTop (mkF m 3 #[.val (.ref a), .val (.int iv), .val (.int (Int32.ofInt j))] [(.ref a)]))
      refine own_go (fun _ kS => XS.iloadN X.here hx rfl (hb hby d2_3) rfl kS) ?_
      show own_Run p e below _ (T.setTop (mkF m 4 #[.val (.ref a), .val (.int iv), .val (.int (Int32.ofInt j))] [(.int (Int32.ofInt j)), (.ref a)]))
      refine own_baload X hx hZ e0 A_a (j := (Int32.ofInt j)) w ⟨by omega, by omega⟩ (by rw [own_ofn j (by omega)]; exact hw_) rfl rfl (hb hby d2_4) ?_
      show own_Run p e below _ (T.setTop (mkF m 5 #[.val (.ref a), .val (.int iv), .val (.int (Int32.ofInt j))] [(.int w)]))
      refine own_go (fun _ kS => XS.sipush X.here hx rfl (hb hby d2_5) kS) ?_
      show own_Run p e below _ (T.setTop (mkF m 8 #[.val (.ref a), .val (.int iv), .val (.int (Int32.ofInt j))] [(.int (192 : Int32)), (.int w)]))
      refine own_go (fun _ kS => XS.iand X.here hx rfl (hb hby d2_8) rfl kS) ?_
      show own_Run p e below _ (T.setTop (mkF m 9 #[.val (.ref a), .val (.int iv), .val (.int (Int32.ofInt j))] [(.int (w &&& (192 : Int32)))]))
      refine own_go (fun _ kS => XS.sipush X.here hx rfl (hb hby d2_9) kS) ?_
      show own_Run p e below _ (T.setTop (mkF m 12 #[.val (.ref a), .val (.int iv), .val (.int (Int32.ofInt j))] [(.int (128 : Int32)), (.int (w &&& (192 : Int32)))]))
      refine own_go (fun _ kS => XS.icmpNo X.here hx rfl (hb hby d2_12) rfl (teq (show (w &&& (192 : Int32)) = (128 : Int32) from (hcw))).2 kS) ?_
      show own_Run p e below _ (T.setTop (mkF m 15 #[.val (.ref a), .val (.int iv), .val (.int (Int32.ofInt j))] []))
      refine own_go (fun _ kS => XS.iinc X.here hx rfl (hb hby d2_15) rfl (l' := #[.val (.ref a), .val (.int iv), .val (.int ((Int32.ofInt j) + (-1 : Int32)))]) rfl kS) ?_
      show own_Run p e below _ (T.setTop (mkF m 18 #[.val (.ref a), .val (.int iv), .val (.int ((Int32.ofInt j) + (-1 : Int32)))] []))
      refine own_go (fun _ kS => XS.goto X.here hx rfl (pc0 := 18) (pc' := 2) rfl (hb hby d2_18) (by decide) (by decide) kS) ?_
      show own_Run p e below _ (T.setTop (mkF m 2 #[.val (.ref a), .val (.int iv), .val (.int ((Int32.ofInt j) + (-1 : Int32)))] []))
      rw [own_prev j (by omega)]
      exact ih (j - 1) (by omega) (by omega)
  have hiv : iv = Int32.ofInt kx := own_inj (by rw [own_oi kx (by omega)]; exact hk)
  have q := loop (kx - sx) kx (by omega) (Nat.le_refl _)
  rw [← hiv] at q
  exact q
theorem own_pd1 : parseMethodDescriptor "([BIIIJ)V" = some ⟨[(.array .byte), .int, .int, .int, .long], none⟩ := by decide +kernel
theorem own_pd2 : parseMethodDescriptor "([BI)I" = some ⟨[(.array .byte), .int], some .int⟩ := by decide +kernel
abbrev Q_law (Z : State) (p1 : Int32) (p2 : Int32) (q3 : Int64) (p4 : Int32) (p5 : Int32) (n0 : Nat) (h0 : Heap) : Option Value → Heap → List Loc → Prop := fun v h L => v = some (.int 1) ∧ Fr n0 L
set_option maxRecDepth 65536 in
set_option maxHeartbeats 40000000 in
theorem rm_law (l : Launch) (Z : State) (a0 : Array Value) (hw : ∀ d ∈ tables_1, d.before a0 Z = true) (p1 : Int32) (p2 : Int32) (q3 : Int64) (p4 : Int32) (p5 : Int32) (n0 : Nat) (h0 : Heap) (Z0 : n0 ≤ h0.size)  :
    own_Met l Z x code maxLocals ret room_1 #[(.int p1), (.int p2), (.long q3), (.int p4), (.int p5)] h0 (Q_law Z p1 p2 q3 p4 p5 n0 h0) := by
  refine own_enter (g0 := fun m => (mkF m 0 #[.val (.int p1), .val (.int p2), .val (.long q3), .second, .val (.int p4), .val (.int p5), .unset, .unset, .unset, .unset, .unset, .unset] [])) (plainFor_of_name (by first | (simp [plainName, overriddenIn]; done) | decide +kernel)) (fun m => by first | (simp [entryFrame, mkF, argsToLocals, Value.category, maxLocals]; done) | rfl) ?_
  intro p e s m below meth c T hx hby hml hown hnm hZ hret hlk X e0
  have hml : c.maxLocals = 12 := hml
  replace hown : s.vm.findClass "com/example/quillwire/quillwire/binary/Utf8CharStartPinLaw" = some m.cls := hown
  have N := Fr.nil n0
  have hz := Z0
  show own_Run p e below _ (T.setTop (mkF m 0 #[.val (.int p1), .val (.int p2), .val (.long q3), .second, .val (.int p4), .val (.int p5), .unset, .unset, .unset, .unset, .unset, .unset] []))
  refine own_go (fun _ kS => XS.iconst X.here hx rfl (hb hby at_0) kS) ?_
  show own_Run p e below _ (T.setTop (mkF m 1 #[.val (.int p1), .val (.int p2), .val (.long q3), .second, .val (.int p4), .val (.int p5), .unset, .unset, .unset, .unset, .unset, .unset] [(.int (1 : Int32))]))
  refine own_go (fun _ kS => XS.iload X.here hx rfl (hb hby at_1) rfl kS) ?_
  show own_Run p e below _ (T.setTop (mkF m 3 #[.val (.int p1), .val (.int p2), .val (.long q3), .second, .val (.int p4), .val (.int p5), .unset, .unset, .unset, .unset, .unset, .unset] [(.int p5), (.int (1 : Int32))]))
  refine own_go (fun _ kS => XS.iconst X.here hx rfl (hb hby at_3) kS) ?_
  show own_Run p e below _ (T.setTop (mkF m 4 #[.val (.int p1), .val (.int p2), .val (.long q3), .second, .val (.int p4), .val (.int p5), .unset, .unset, .unset, .unset, .unset, .unset] [(.int (3 : Int32)), (.int p5), (.int (1 : Int32))]))
  refine own_go (fun _ kS => XS.iand X.here hx rfl (hb hby at_4) rfl kS) ?_
  show own_Run p e below _ (T.setTop (mkF m 5 #[.val (.int p1), .val (.int p2), .val (.long q3), .second, .val (.int p4), .val (.int p5), .unset, .unset, .unset, .unset, .unset, .unset] [(.int (p5 &&& (3 : Int32))), (.int (1 : Int32))]))
  refine own_go (fun _ kS => XS.iadd X.here hx rfl (hb hby at_5) rfl kS) ?_
  show own_Run p e below _ (T.setTop (mkF m 6 #[.val (.int p1), .val (.int p2), .val (.long q3), .second, .val (.int p4), .val (.int p5), .unset, .unset, .unset, .unset, .unset, .unset] [(.int ((1 : Int32) + (p5 &&& (3 : Int32))))]))
  refine own_go (fun _ kS => XS.istore X.here hx rfl (hb hby at_6) rfl (l' := #[.val (.int p1), .val (.int p2), .val (.long q3), .second, .val (.int p4), .val (.int p5), .val (.int ((1 : Int32) + (p5 &&& (3 : Int32)))), .unset, .unset, .unset, .unset, .unset]) rfl kS) ?_
  show own_Run p e below _ (T.setTop (mkF m 8 #[.val (.int p1), .val (.int p2), .val (.long q3), .second, .val (.int p4), .val (.int p5), .val (.int ((1 : Int32) + (p5 &&& (3 : Int32)))), .unset, .unset, .unset, .unset, .unset] []))
  generalize e_sa : ((1 : Int32) + (p5 &&& (3 : Int32))) = sa
  have r_sa := e_sa ▸ own_size p5
  obtain ⟨na, hna⟩ : ∃ q : Nat, sa.toInt = q := ⟨sa.toInt.toNat, by omega⟩
  refine own_go (fun _ kS => XS.iconst X.here hx rfl (hb hby at_8) kS) ?_
  show own_Run p e below _ (T.setTop (mkF m 9 #[.val (.int p1), .val (.int p2), .val (.long q3), .second, .val (.int p4), .val (.int p5), .val (.int sa), .unset, .unset, .unset, .unset, .unset] [(.int (1 : Int32))]))
  refine own_go (fun _ kS => XS.iload X.here hx rfl (hb hby at_9) rfl kS) ?_
  show own_Run p e below _ (T.setTop (mkF m 11 #[.val (.int p1), .val (.int p2), .val (.long q3), .second, .val (.int p4), .val (.int p5), .val (.int sa), .unset, .unset, .unset, .unset, .unset] [(.int p5), (.int (1 : Int32))]))
  refine own_go (fun _ kS => XS.iconst X.here hx rfl (hb hby at_11) kS) ?_
  show own_Run p e below _ (T.setTop (mkF m 12 #[.val (.int p1), .val (.int p2), .val (.long q3), .second, .val (.int p4), .val (.int p5), .val (.int sa), .unset, .unset, .unset, .unset, .unset] [(.int (2 : Int32)), (.int p5), (.int (1 : Int32))]))
  refine own_go (fun _ kS => XS.iushr X.here hx rfl (hb hby at_12) rfl kS) ?_
  show own_Run p e below _ (T.setTop (mkF m 13 #[.val (.int p1), .val (.int p2), .val (.long q3), .second, .val (.int p4), .val (.int p5), .val (.int sa), .unset, .unset, .unset, .unset, .unset] [(.int ((p5.toUInt32 >>> ((2 : Int32) &&& 31).toUInt32).toInt32)), (.int (1 : Int32))]))
  refine own_go (fun _ kS => XS.iconst X.here hx rfl (hb hby at_13) kS) ?_
  show own_Run p e below _ (T.setTop (mkF m 14 #[.val (.int p1), .val (.int p2), .val (.long q3), .second, .val (.int p4), .val (.int p5), .val (.int sa), .unset, .unset, .unset, .unset, .unset] [(.int (3 : Int32)), (.int ((p5.toUInt32 >>> ((2 : Int32) &&& 31).toUInt32).toInt32)), (.int (1 : Int32))]))
  refine own_go (fun _ kS => XS.iand X.here hx rfl (hb hby at_14) rfl kS) ?_
  show own_Run p e below _ (T.setTop (mkF m 15 #[.val (.int p1), .val (.int p2), .val (.long q3), .second, .val (.int p4), .val (.int p5), .val (.int sa), .unset, .unset, .unset, .unset, .unset] [(.int (((p5.toUInt32 >>> ((2 : Int32) &&& 31).toUInt32).toInt32) &&& (3 : Int32))), (.int (1 : Int32))]))
  refine own_go (fun _ kS => XS.iadd X.here hx rfl (hb hby at_15) rfl kS) ?_
  show own_Run p e below _ (T.setTop (mkF m 16 #[.val (.int p1), .val (.int p2), .val (.long q3), .second, .val (.int p4), .val (.int p5), .val (.int sa), .unset, .unset, .unset, .unset, .unset] [(.int ((1 : Int32) + (((p5.toUInt32 >>> ((2 : Int32) &&& 31).toUInt32).toInt32) &&& (3 : Int32))))]))
  refine own_go (fun _ kS => XS.istore X.here hx rfl (hb hby at_16) rfl (l' := #[.val (.int p1), .val (.int p2), .val (.long q3), .second, .val (.int p4), .val (.int p5), .val (.int sa), .val (.int ((1 : Int32) + (((p5.toUInt32 >>> ((2 : Int32) &&& 31).toUInt32).toInt32) &&& (3 : Int32)))), .unset, .unset, .unset, .unset]) rfl kS) ?_
  show own_Run p e below _ (T.setTop (mkF m 18 #[.val (.int p1), .val (.int p2), .val (.long q3), .second, .val (.int p4), .val (.int p5), .val (.int sa), .val (.int ((1 : Int32) + (((p5.toUInt32 >>> ((2 : Int32) &&& 31).toUInt32).toInt32) &&& (3 : Int32)))), .unset, .unset, .unset, .unset] []))
  generalize e_sb : ((1 : Int32) + (((p5.toUInt32 >>> ((2 : Int32) &&& 31).toUInt32).toInt32) &&& (3 : Int32))) = sb
  have r_sb := e_sb ▸ own_size _
  obtain ⟨nb, hnb⟩ : ∃ q : Nat, sb.toInt = q := ⟨sb.toInt.toNat, by omega⟩
  refine own_go (fun _ kS => XS.iload X.here hx rfl (hb hby at_18) rfl kS) ?_
  show own_Run p e below _ (T.setTop (mkF m 20 #[.val (.int p1), .val (.int p2), .val (.long q3), .second, .val (.int p4), .val (.int p5), .val (.int sa), .val (.int sb), .unset, .unset, .unset, .unset] [(.int p5)]))
  refine own_go (fun _ kS => XS.iconst X.here hx rfl (hb hby at_20) kS) ?_
  show own_Run p e below _ (T.setTop (mkF m 21 #[.val (.int p1), .val (.int p2), .val (.long q3), .second, .val (.int p4), .val (.int p5), .val (.int sa), .val (.int sb), .unset, .unset, .unset, .unset] [(.int (4 : Int32)), (.int p5)]))
  refine own_go (fun _ kS => XS.iushr X.here hx rfl (hb hby at_21) rfl kS) ?_
  show own_Run p e below _ (T.setTop (mkF m 22 #[.val (.int p1), .val (.int p2), .val (.long q3), .second, .val (.int p4), .val (.int p5), .val (.int sa), .val (.int sb), .unset, .unset, .unset, .unset] [(.int ((p5.toUInt32 >>> ((4 : Int32) &&& 31).toUInt32).toInt32))]))
  refine own_go (fun _ kS => XS.bipush X.here hx rfl (hb hby at_22) kS) ?_
  show own_Run p e below _ (T.setTop (mkF m 24 #[.val (.int p1), .val (.int p2), .val (.long q3), .second, .val (.int p4), .val (.int p5), .val (.int sa), .val (.int sb), .unset, .unset, .unset, .unset] [(.int (127 : Int32)), (.int ((p5.toUInt32 >>> ((4 : Int32) &&& 31).toUInt32).toInt32))]))
  refine own_go (fun _ kS => XS.iand X.here hx rfl (hb hby at_24) rfl kS) ?_
  show own_Run p e below _ (T.setTop (mkF m 25 #[.val (.int p1), .val (.int p2), .val (.long q3), .second, .val (.int p4), .val (.int p5), .val (.int sa), .val (.int sb), .unset, .unset, .unset, .unset] [(.int (((p5.toUInt32 >>> ((4 : Int32) &&& 31).toUInt32).toInt32) &&& (127 : Int32)))]))
  refine own_go (fun _ kS => XS.i2b X.here hx rfl (hb hby at_25) rfl kS) ?_
  show own_Run p e below _ (T.setTop (mkF m 26 #[.val (.int p1), .val (.int p2), .val (.long q3), .second, .val (.int p4), .val (.int p5), .val (.int sa), .val (.int sb), .unset, .unset, .unset, .unset] [(.int (((p5.toUInt32 >>> ((4 : Int32) &&& 31).toUInt32).toInt32) &&& (127 : Int32)).toInt8.toInt32)]))
  refine own_go (fun _ kS => XS.istore X.here hx rfl (hb hby at_26) rfl (l' := #[.val (.int p1), .val (.int p2), .val (.long q3), .second, .val (.int p4), .val (.int p5), .val (.int sa), .val (.int sb), .val (.int (((p5.toUInt32 >>> ((4 : Int32) &&& 31).toUInt32).toInt32) &&& (127 : Int32)).toInt8.toInt32), .unset, .unset, .unset]) rfl kS) ?_
  show own_Run p e below _ (T.setTop (mkF m 28 #[.val (.int p1), .val (.int p2), .val (.long q3), .second, .val (.int p4), .val (.int p5), .val (.int sa), .val (.int sb), .val (.int (((p5.toUInt32 >>> ((4 : Int32) &&& 31).toUInt32).toInt32) &&& (127 : Int32)).toInt8.toInt32), .unset, .unset, .unset] []))
  generalize e_pad : (((p5.toUInt32 >>> ((4 : Int32) &&& 31).toUInt32).toInt32) &&& (127 : Int32)).toInt8.toInt32 = pad
  refine own_go (fun _ kS => XS.bipush X.here hx rfl (hb hby at_28) kS) ?_
  show own_Run p e below _ (T.setTop (mkF m 30 #[.val (.int p1), .val (.int p2), .val (.long q3), .second, .val (.int p4), .val (.int p5), .val (.int sa), .val (.int sb), .val (.int pad), .unset, .unset, .unset] [(.int (8 : Int32))]))
  refine own_newP X hx hZ e0 (hw _ (List.mem_of_getElem? (i := 0) rfl)) rfl (hb hby at_30) rfl 8 8 rfl (by decide) (by decide) (by decide) (by decide) "[B" rfl (fun b1 T1 h1 gb1 X1 e1 E1 A1 G1 => ?_)
  have g_b1 : n0 ≤ b1 := Nat.le_trans hz (Nat.le_of_eq gb1.symm)
  replace hz := Nat.le_trans hz E1.1
  replace A1 : own_Arr Z h1 b1 .byte 8 (fun _ => (.int (0 : Int32))) := A1
  show own_Run p e below _ (T1.setTop (mkF m 32 #[.val (.int p1), .val (.int p2), .val (.long q3), .second, .val (.int p4), .val (.int p5), .val (.int sa), .val (.int sb), .val (.int pad), .unset, .unset, .unset] [(.ref b1)]))
  refine own_go (fun _ kS => XS.astore X1.here hx rfl (hb hby at_32) rfl rfl (l' := #[.val (.int p1), .val (.int p2), .val (.long q3), .second, .val (.int p4), .val (.int p5), .val (.int sa), .val (.int sb), .val (.int pad), .val (.ref b1), .unset, .unset]) rfl kS) ?_
  show own_Run p e below _ (T1.setTop (mkF m 34 #[.val (.int p1), .val (.int p2), .val (.long q3), .second, .val (.int p4), .val (.int p5), .val (.int sa), .val (.int sb), .val (.int pad), .val (.ref b1), .unset, .unset] []))
  refine own_go (fun _ kS => XS.aload X1.here hx rfl (hb hby at_34) rfl rfl kS) ?_
  show own_Run p e below _ (T1.setTop (mkF m 36 #[.val (.int p1), .val (.int p2), .val (.long q3), .second, .val (.int p4), .val (.int p5), .val (.int sa), .val (.int sb), .val (.int pad), .val (.ref b1), .unset, .unset] [(.ref b1)]))
  refine own_go (fun _ kS => XS.iconst X1.here hx rfl (hb hby at_36) kS) ?_
  show own_Run p e below _ (T1.setTop (mkF m 37 #[.val (.int p1), .val (.int p2), .val (.long q3), .second, .val (.int p4), .val (.int p5), .val (.int sa), .val (.int sb), .val (.int pad), .val (.ref b1), .unset, .unset] [(.int (0 : Int32)), (.ref b1)]))
  refine own_go (fun _ kS => XS.iload X1.here hx rfl (hb hby at_37) rfl kS) ?_
  show own_Run p e below _ (T1.setTop (mkF m 39 #[.val (.int p1), .val (.int p2), .val (.long q3), .second, .val (.int p4), .val (.int p5), .val (.int sa), .val (.int sb), .val (.int pad), .val (.ref b1), .unset, .unset] [(.int pad), (.int (0 : Int32)), (.ref b1)]))
  refine own_bastore X1 hx hZ e1 A1 (j := (0 : Int32)) ⟨by decide, by decide⟩ rfl rfl (hb hby at_39) (fun T2 h2 X2 e2 W2 A2 => ?_)
  replace hz := Nat.le_trans hz (Nat.le_of_eq W2.size.symm)
  replace N := Fr.snoc X2 N g_b1
  replace A2 : own_Arr Z h2 b1 .byte 8 (own_up (fun _ => (.int (0 : Int32))) 0 (.int (nar .byte pad))) := A2.congr (fun i _ => rfl)
  show own_Run p e below _ (T2.setTop (mkF m 40 #[.val (.int p1), .val (.int p2), .val (.long q3), .second, .val (.int p4), .val (.int p5), .val (.int sa), .val (.int sb), .val (.int pad), .val (.ref b1), .unset, .unset] []))
  refine own_go (fun _ kS => XS.aload X2.here hx rfl (hb hby at_40) rfl rfl kS) ?_
  show own_Run p e below _ (T2.setTop (mkF m 42 #[.val (.int p1), .val (.int p2), .val (.long q3), .second, .val (.int p4), .val (.int p5), .val (.int sa), .val (.int sb), .val (.int pad), .val (.ref b1), .unset, .unset] [(.ref b1)]))
  refine own_go (fun _ kS => XS.iconst X2.here hx rfl (hb hby at_42) kS) ?_
  show own_Run p e below _ (T2.setTop (mkF m 43 #[.val (.int p1), .val (.int p2), .val (.long q3), .second, .val (.int p4), .val (.int p5), .val (.int sa), .val (.int sb), .val (.int pad), .val (.ref b1), .unset, .unset] [(.int (1 : Int32)), (.ref b1)]))
  refine own_go (fun _ kS => XS.iload X2.here hx rfl (hb hby at_43) rfl kS) ?_
  show own_Run p e below _ (T2.setTop (mkF m 45 #[.val (.int p1), .val (.int p2), .val (.long q3), .second, .val (.int p4), .val (.int p5), .val (.int sa), .val (.int sb), .val (.int pad), .val (.ref b1), .unset, .unset] [(.int pad), (.int (1 : Int32)), (.ref b1)]))
  refine own_bastore X2 hx hZ e2 A2 (j := (1 : Int32)) ⟨by decide, by decide⟩ rfl rfl (hb hby at_45) (fun T3 h3 X3 e3 W3 A3 => ?_)
  replace hz := Nat.le_trans hz (Nat.le_of_eq W3.size.symm)
  replace N := Fr.snoc X3 N g_b1
  replace A3 : own_Arr Z h3 b1 .byte 8 (own_up (own_up (fun _ => (.int (0 : Int32))) 0 (.int (nar .byte pad))) 1 (.int (nar .byte pad))) := A3.congr (fun i _ => rfl)
  show own_Run p e below _ (T3.setTop (mkF m 46 #[.val (.int p1), .val (.int p2), .val (.long q3), .second, .val (.int p4), .val (.int p5), .val (.int sa), .val (.int sb), .val (.int pad), .val (.ref b1), .unset, .unset] []))
  refine own_go (fun _ kS => XS.aload X3.here hx rfl (hb hby at_46) rfl rfl kS) ?_
  show own_Run p e below _ (T3.setTop (mkF m 48 #[.val (.int p1), .val (.int p2), .val (.long q3), .second, .val (.int p4), .val (.int p5), .val (.int sa), .val (.int sb), .val (.int pad), .val (.ref b1), .unset, .unset] [(.ref b1)]))
  refine own_go (fun _ kS => XS.iconst X3.here hx rfl (hb hby at_48) kS) ?_
  show own_Run p e below _ (T3.setTop (mkF m 49 #[.val (.int p1), .val (.int p2), .val (.long q3), .second, .val (.int p4), .val (.int p5), .val (.int sa), .val (.int sb), .val (.int pad), .val (.ref b1), .unset, .unset] [(.int (2 : Int32)), (.ref b1)]))
  refine own_go (fun _ kS => XS.iload X3.here hx rfl (hb hby at_49) rfl kS) ?_
  show own_Run p e below _ (T3.setTop (mkF m 51 #[.val (.int p1), .val (.int p2), .val (.long q3), .second, .val (.int p4), .val (.int p5), .val (.int sa), .val (.int sb), .val (.int pad), .val (.ref b1), .unset, .unset] [(.int pad), (.int (2 : Int32)), (.ref b1)]))
  refine own_bastore X3 hx hZ e3 A3 (j := (2 : Int32)) ⟨by decide, by decide⟩ rfl rfl (hb hby at_51) (fun T4 h4 X4 e4 W4 A4 => ?_)
  replace hz := Nat.le_trans hz (Nat.le_of_eq W4.size.symm)
  replace N := Fr.snoc X4 N g_b1
  replace A4 : own_Arr Z h4 b1 .byte 8 (own_up (own_up (own_up (fun _ => (.int (0 : Int32))) 0 (.int (nar .byte pad))) 1 (.int (nar .byte pad))) 2 (.int (nar .byte pad))) := A4.congr (fun i _ => rfl)
  show own_Run p e below _ (T4.setTop (mkF m 52 #[.val (.int p1), .val (.int p2), .val (.long q3), .second, .val (.int p4), .val (.int p5), .val (.int sa), .val (.int sb), .val (.int pad), .val (.ref b1), .unset, .unset] []))
  refine own_go (fun _ kS => XS.aload X4.here hx rfl (hb hby at_52) rfl rfl kS) ?_
  show own_Run p e below _ (T4.setTop (mkF m 54 #[.val (.int p1), .val (.int p2), .val (.long q3), .second, .val (.int p4), .val (.int p5), .val (.int sa), .val (.int sb), .val (.int pad), .val (.ref b1), .unset, .unset] [(.ref b1)]))
  refine own_go (fun _ kS => XS.iconst X4.here hx rfl (hb hby at_54) kS) ?_
  show own_Run p e below _ (T4.setTop (mkF m 55 #[.val (.int p1), .val (.int p2), .val (.long q3), .second, .val (.int p4), .val (.int p5), .val (.int sa), .val (.int sb), .val (.int pad), .val (.ref b1), .unset, .unset] [(.int (3 : Int32)), (.ref b1)]))
  refine own_go (fun _ kS => XS.iload X4.here hx rfl (hb hby at_55) rfl kS) ?_
  show own_Run p e below _ (T4.setTop (mkF m 57 #[.val (.int p1), .val (.int p2), .val (.long q3), .second, .val (.int p4), .val (.int p5), .val (.int sa), .val (.int sb), .val (.int pad), .val (.ref b1), .unset, .unset] [(.int pad), (.int (3 : Int32)), (.ref b1)]))
  refine own_bastore X4 hx hZ e4 A4 (j := (3 : Int32)) ⟨by decide, by decide⟩ rfl rfl (hb hby at_57) (fun T5 h5 X5 e5 W5 A5 => ?_)
  replace hz := Nat.le_trans hz (Nat.le_of_eq W5.size.symm)
  replace N := Fr.snoc X5 N g_b1
  replace A5 : own_Arr Z h5 b1 .byte 8 (own_up (own_up (own_up (own_up (fun _ => (.int (0 : Int32))) 0 (.int (nar .byte pad))) 1 (.int (nar .byte pad))) 2 (.int (nar .byte pad))) 3 (.int (nar .byte pad))) := A5.congr (fun i _ => rfl)
  show own_Run p e below _ (T5.setTop (mkF m 58 #[.val (.int p1), .val (.int p2), .val (.long q3), .second, .val (.int p4), .val (.int p5), .val (.int sa), .val (.int sb), .val (.int pad), .val (.ref b1), .unset, .unset] []))
  refine own_go (fun _ kS => XS.aload X5.here hx rfl (hb hby at_58) rfl rfl kS) ?_
  show own_Run p e below _ (T5.setTop (mkF m 60 #[.val (.int p1), .val (.int p2), .val (.long q3), .second, .val (.int p4), .val (.int p5), .val (.int sa), .val (.int sb), .val (.int pad), .val (.ref b1), .unset, .unset] [(.ref b1)]))
  refine own_go (fun _ kS => XS.iconst X5.here hx rfl (hb hby at_60) kS) ?_
  show own_Run p e below _ (T5.setTop (mkF m 61 #[.val (.int p1), .val (.int p2), .val (.long q3), .second, .val (.int p4), .val (.int p5), .val (.int sa), .val (.int sb), .val (.int pad), .val (.ref b1), .unset, .unset] [(.int (4 : Int32)), (.ref b1)]))
  refine own_go (fun _ kS => XS.iload X5.here hx rfl (hb hby at_61) rfl kS) ?_
  show own_Run p e below _ (T5.setTop (mkF m 63 #[.val (.int p1), .val (.int p2), .val (.long q3), .second, .val (.int p4), .val (.int p5), .val (.int sa), .val (.int sb), .val (.int pad), .val (.ref b1), .unset, .unset] [(.int pad), (.int (4 : Int32)), (.ref b1)]))
  refine own_bastore X5 hx hZ e5 A5 (j := (4 : Int32)) ⟨by decide, by decide⟩ rfl rfl (hb hby at_63) (fun T6 h6 X6 e6 W6 A6 => ?_)
  replace hz := Nat.le_trans hz (Nat.le_of_eq W6.size.symm)
  replace N := Fr.snoc X6 N g_b1
  replace A6 : own_Arr Z h6 b1 .byte 8 (own_up (own_up (own_up (own_up (own_up (fun _ => (.int (0 : Int32))) 0 (.int (nar .byte pad))) 1 (.int (nar .byte pad))) 2 (.int (nar .byte pad))) 3 (.int (nar .byte pad))) 4 (.int (nar .byte pad))) := A6.congr (fun i _ => rfl)
  show own_Run p e below _ (T6.setTop (mkF m 64 #[.val (.int p1), .val (.int p2), .val (.long q3), .second, .val (.int p4), .val (.int p5), .val (.int sa), .val (.int sb), .val (.int pad), .val (.ref b1), .unset, .unset] []))
  refine own_go (fun _ kS => XS.aload X6.here hx rfl (hb hby at_64) rfl rfl kS) ?_
  show own_Run p e below _ (T6.setTop (mkF m 66 #[.val (.int p1), .val (.int p2), .val (.long q3), .second, .val (.int p4), .val (.int p5), .val (.int sa), .val (.int sb), .val (.int pad), .val (.ref b1), .unset, .unset] [(.ref b1)]))
  refine own_go (fun _ kS => XS.iconst X6.here hx rfl (hb hby at_66) kS) ?_
  show own_Run p e below _ (T6.setTop (mkF m 67 #[.val (.int p1), .val (.int p2), .val (.long q3), .second, .val (.int p4), .val (.int p5), .val (.int sa), .val (.int sb), .val (.int pad), .val (.ref b1), .unset, .unset] [(.int (5 : Int32)), (.ref b1)]))
  refine own_go (fun _ kS => XS.iload X6.here hx rfl (hb hby at_67) rfl kS) ?_
  show own_Run p e below _ (T6.setTop (mkF m 69 #[.val (.int p1), .val (.int p2), .val (.long q3), .second, .val (.int p4), .val (.int p5), .val (.int sa), .val (.int sb), .val (.int pad), .val (.ref b1), .unset, .unset] [(.int pad), (.int (5 : Int32)), (.ref b1)]))
  refine own_bastore X6 hx hZ e6 A6 (j := (5 : Int32)) ⟨by decide, by decide⟩ rfl rfl (hb hby at_69) (fun T7 h7 X7 e7 W7 A7 => ?_)
  replace hz := Nat.le_trans hz (Nat.le_of_eq W7.size.symm)
  replace N := Fr.snoc X7 N g_b1
  replace A7 : own_Arr Z h7 b1 .byte 8 (own_up (own_up (own_up (own_up (own_up (own_up (fun _ => (.int (0 : Int32))) 0 (.int (nar .byte pad))) 1 (.int (nar .byte pad))) 2 (.int (nar .byte pad))) 3 (.int (nar .byte pad))) 4 (.int (nar .byte pad))) 5 (.int (nar .byte pad))) := A7.congr (fun i _ => rfl)
  show own_Run p e below _ (T7.setTop (mkF m 70 #[.val (.int p1), .val (.int p2), .val (.long q3), .second, .val (.int p4), .val (.int p5), .val (.int sa), .val (.int sb), .val (.int pad), .val (.ref b1), .unset, .unset] []))
  refine own_go (fun _ kS => XS.aload X7.here hx rfl (hb hby at_70) rfl rfl kS) ?_
  show own_Run p e below _ (T7.setTop (mkF m 72 #[.val (.int p1), .val (.int p2), .val (.long q3), .second, .val (.int p4), .val (.int p5), .val (.int sa), .val (.int sb), .val (.int pad), .val (.ref b1), .unset, .unset] [(.ref b1)]))
  refine own_go (fun _ kS => XS.bipush X7.here hx rfl (hb hby at_72) kS) ?_
  show own_Run p e below _ (T7.setTop (mkF m 74 #[.val (.int p1), .val (.int p2), .val (.long q3), .second, .val (.int p4), .val (.int p5), .val (.int sa), .val (.int sb), .val (.int pad), .val (.ref b1), .unset, .unset] [(.int (6 : Int32)), (.ref b1)]))
  refine own_go (fun _ kS => XS.iload X7.here hx rfl (hb hby at_74) rfl kS) ?_
  show own_Run p e below _ (T7.setTop (mkF m 76 #[.val (.int p1), .val (.int p2), .val (.long q3), .second, .val (.int p4), .val (.int p5), .val (.int sa), .val (.int sb), .val (.int pad), .val (.ref b1), .unset, .unset] [(.int pad), (.int (6 : Int32)), (.ref b1)]))
  refine own_bastore X7 hx hZ e7 A7 (j := (6 : Int32)) ⟨by decide, by decide⟩ rfl rfl (hb hby at_76) (fun T8 h8 X8 e8 W8 A8 => ?_)
  replace hz := Nat.le_trans hz (Nat.le_of_eq W8.size.symm)
  replace N := Fr.snoc X8 N g_b1
  replace A8 : own_Arr Z h8 b1 .byte 8 (own_up (own_up (own_up (own_up (own_up (own_up (own_up (fun _ => (.int (0 : Int32))) 0 (.int (nar .byte pad))) 1 (.int (nar .byte pad))) 2 (.int (nar .byte pad))) 3 (.int (nar .byte pad))) 4 (.int (nar .byte pad))) 5 (.int (nar .byte pad))) 6 (.int (nar .byte pad))) := A8.congr (fun i _ => rfl)
  show own_Run p e below _ (T8.setTop (mkF m 77 #[.val (.int p1), .val (.int p2), .val (.long q3), .second, .val (.int p4), .val (.int p5), .val (.int sa), .val (.int sb), .val (.int pad), .val (.ref b1), .unset, .unset] []))
  refine own_go (fun _ kS => XS.aload X8.here hx rfl (hb hby at_77) rfl rfl kS) ?_
  show own_Run p e below _ (T8.setTop (mkF m 79 #[.val (.int p1), .val (.int p2), .val (.long q3), .second, .val (.int p4), .val (.int p5), .val (.int sa), .val (.int sb), .val (.int pad), .val (.ref b1), .unset, .unset] [(.ref b1)]))
  refine own_go (fun _ kS => XS.bipush X8.here hx rfl (hb hby at_79) kS) ?_
  show own_Run p e below _ (T8.setTop (mkF m 81 #[.val (.int p1), .val (.int p2), .val (.long q3), .second, .val (.int p4), .val (.int p5), .val (.int sa), .val (.int sb), .val (.int pad), .val (.ref b1), .unset, .unset] [(.int (7 : Int32)), (.ref b1)]))
  refine own_go (fun _ kS => XS.iload X8.here hx rfl (hb hby at_81) rfl kS) ?_
  show own_Run p e below _ (T8.setTop (mkF m 83 #[.val (.int p1), .val (.int p2), .val (.long q3), .second, .val (.int p4), .val (.int p5), .val (.int sa), .val (.int sb), .val (.int pad), .val (.ref b1), .unset, .unset] [(.int pad), (.int (7 : Int32)), (.ref b1)]))
  refine own_bastore X8 hx hZ e8 A8 (j := (7 : Int32)) ⟨by decide, by decide⟩ rfl rfl (hb hby at_83) (fun T9 h9 X9 e9 W9 A9 => ?_)
  replace hz := Nat.le_trans hz (Nat.le_of_eq W9.size.symm)
  replace N := Fr.snoc X9 N g_b1
  replace A9 : own_Arr Z h9 b1 .byte 8 (own_up (own_up (own_up (own_up (own_up (own_up (own_up (own_up (fun _ => (.int (0 : Int32))) 0 (.int (nar .byte pad))) 1 (.int (nar .byte pad))) 2 (.int (nar .byte pad))) 3 (.int (nar .byte pad))) 4 (.int (nar .byte pad))) 5 (.int (nar .byte pad))) 6 (.int (nar .byte pad))) 7 (.int (nar .byte pad))) := A9.congr (fun i _ => rfl)
  show own_Run p e below _ (T9.setTop (mkF m 84 #[.val (.int p1), .val (.int p2), .val (.long q3), .second, .val (.int p4), .val (.int p5), .val (.int sa), .val (.int sb), .val (.int pad), .val (.ref b1), .unset, .unset] []))
  replace A9 : own_Arr Z h9 b1 .byte 8 (fun _ => .int (nar .byte pad)) := A9.congr (fun i hi => own_all8 _ _ i hi)
  refine own_go (fun _ kS => XS.aload X9.here hx rfl (hb hby at_84) rfl rfl kS) ?_
  show own_Run p e below _ (T9.setTop (mkF m 86 #[.val (.int p1), .val (.int p2), .val (.long q3), .second, .val (.int p4), .val (.int p5), .val (.int sa), .val (.int sb), .val (.int pad), .val (.ref b1), .unset, .unset] [(.ref b1)]))
  refine own_go (fun _ kS => XS.iconst X9.here hx rfl (hb hby at_86) kS) ?_
  show own_Run p e below _ (T9.setTop (mkF m 87 #[.val (.int p1), .val (.int p2), .val (.long q3), .second, .val (.int p4), .val (.int p5), .val (.int sa), .val (.int sb), .val (.int pad), .val (.ref b1), .unset, .unset] [(.int (0 : Int32)), (.ref b1)]))
  refine own_go (fun _ kS => XS.iload X9.here hx rfl (hb hby at_87) rfl kS) ?_
  show own_Run p e below _ (T9.setTop (mkF m 89 #[.val (.int p1), .val (.int p2), .val (.long q3), .second, .val (.int p4), .val (.int p5), .val (.int sa), .val (.int sb), .val (.int pad), .val (.ref b1), .unset, .unset] [(.int sa), (.int (0 : Int32)), (.ref b1)]))
  refine own_go (fun _ kS => XS.iloadN X9.here hx rfl (hb hby at_89) rfl kS) ?_
  show own_Run p e below _ (T9.setTop (mkF m 90 #[.val (.int p1), .val (.int p2), .val (.long q3), .second, .val (.int p4), .val (.int p5), .val (.int sa), .val (.int sb), .val (.int pad), .val (.ref b1), .unset, .unset] [(.int p1), (.int sa), (.int (0 : Int32)), (.ref b1)]))
  refine own_go (fun _ kS => XS.lloadN X9.here hx rfl (hb hby at_90) rfl kS) ?_
  show own_Run p e below _ (T9.setTop (mkF m 91 #[.val (.int p1), .val (.int p2), .val (.long q3), .second, .val (.int p4), .val (.int p5), .val (.int sa), .val (.int sb), .val (.int pad), .val (.ref b1), .unset, .unset] [(.long q3), (.int p1), (.int sa), (.int (0 : Int32)), (.ref b1)]))
  refine own_callS X9 hx hZ e9 hown (⟨"com/example/quillwire/quillwire/binary/Utf8CharStartPinLaw", "put", "([BIIIJ)V"⟩ : MethodName) (hw _ (List.mem_of_getElem? (i := 1) rfl)) (hw _ (List.mem_of_getElem? (i := 2) rfl)) (hw _ (List.mem_of_getElem? (i := 3) rfl)) (hw _ (List.mem_of_getElem? (i := 4) rfl)) (by decide) [(.ref b1), (.int (0 : Int32)), (.int sa), (.int p1), (.long q3)] [] (rm_put l Z a0 hw b1 (0 : Int32) sa p1 q3 (fun _ => .int (nar .byte pad)) 0 na n0 h9 hz A9 g_b1 rfl hna (by omega) (by omega) (by omega)) (by decide) 0 (by decide) (by decide) (by decide) rfl (by rw [hml]; rfl) (lenOf own_pd1 rfl) rfl (by show 2 * 0 + _ ≤ _; exact Nat.le_of_eq rfl) (hb hby at_91) (fun v10 h10 L10 T10 Q10 X10 e10 => ?_)
  obtain ⟨rfl, Nq10, Kq10, f10, A10, hp10⟩ := Q10
  replace hz := Nat.le_trans hz Kq10.1
  replace N := N.app Nq10
  show own_Run p e below _ (T10.setTop (mkF m 94 #[.val (.int p1), .val (.int p2), .val (.long q3), .second, .val (.int p4), .val (.int p5), .val (.int sa), .val (.int sb), .val (.int pad), .val (.ref b1), .unset, .unset] []))
  refine own_go (fun _ kS => XS.aload X10.here hx rfl (hb hby at_94) rfl rfl kS) ?_
  show own_Run p e below _ (T10.setTop (mkF m 96 #[.val (.int p1), .val (.int p2), .val (.long q3), .second, .val (.int p4), .val (.int p5), .val (.int sa), .val (.int sb), .val (.int pad), .val (.ref b1), .unset, .unset] [(.ref b1)]))
  refine own_go (fun _ kS => XS.iload X10.here hx rfl (hb hby at_96) rfl kS) ?_
  show own_Run p e below _ (T10.setTop (mkF m 98 #[.val (.int p1), .val (.int p2), .val (.long q3), .second, .val (.int p4), .val (.int p5), .val (.int sa), .val (.int sb), .val (.int pad), .val (.ref b1), .unset, .unset] [(.int sa), (.ref b1)]))
  refine own_go (fun _ kS => XS.iload X10.here hx rfl (hb hby at_98) rfl kS) ?_
  show own_Run p e below _ (T10.setTop (mkF m 100 #[.val (.int p1), .val (.int p2), .val (.long q3), .second, .val (.int p4), .val (.int p5), .val (.int sa), .val (.int sb), .val (.int pad), .val (.ref b1), .unset, .unset] [(.int sb), (.int sa), (.ref b1)]))
  refine own_go (fun _ kS => XS.iloadN X10.here hx rfl (hb hby at_100) rfl kS) ?_
  show own_Run p e below _ (T10.setTop (mkF m 101 #[.val (.int p1), .val (.int p2), .val (.long q3), .second, .val (.int p4), .val (.int p5), .val (.int sa), .val (.int sb), .val (.int pad), .val (.ref b1), .unset, .unset] [(.int p2), (.int sb), (.int sa), (.ref b1)]))
  refine own_go (fun _ kS => XS.lloadN X10.here hx rfl (hb hby at_101) rfl kS) ?_
  show own_Run p e below _ (T10.setTop (mkF m 102 #[.val (.int p1), .val (.int p2), .val (.long q3), .second, .val (.int p4), .val (.int p5), .val (.int sa), .val (.int sb), .val (.int pad), .val (.ref b1), .unset, .unset] [(.long q3), (.int p2), (.int sb), (.int sa), (.ref b1)]))
  refine own_go (fun _ kS => XS.bipush X10.here hx rfl (hb hby at_102) kS) ?_
  show own_Run p e below _ (T10.setTop (mkF m 104 #[.val (.int p1), .val (.int p2), .val (.long q3), .second, .val (.int p4), .val (.int p5), .val (.int sa), .val (.int sb), .val (.int pad), .val (.ref b1), .unset, .unset] [(.int (18 : Int32)), (.long q3), (.int p2), (.int sb), (.int sa), (.ref b1)]))
  refine own_go (fun _ kS => XS.lushr X10.here hx rfl (hb hby at_104) rfl kS) ?_
  show own_Run p e below _ (T10.setTop (mkF m 105 #[.val (.int p1), .val (.int p2), .val (.long q3), .second, .val (.int p4), .val (.int p5), .val (.int sa), .val (.int sb), .val (.int pad), .val (.ref b1), .unset, .unset] [(.long ((q3.toUInt64 >>> ((18 : Int32) &&& 0x3f).toInt64.toUInt64).toInt64)), (.int p2), (.int sb), (.int sa), (.ref b1)]))
  refine own_callS X10 hx hZ e10 hown (⟨"com/example/quillwire/quillwire/binary/Utf8CharStartPinLaw", "put", "([BIIIJ)V"⟩ : MethodName) (hw _ (List.mem_of_getElem? (i := 1) rfl)) (hw _ (List.mem_of_getElem? (i := 2) rfl)) (hw _ (List.mem_of_getElem? (i := 3) rfl)) (hw _ (List.mem_of_getElem? (i := 4) rfl)) (by decide) [(.ref b1), (.int sa), (.int sb), (.int p2), (.long ((q3.toUInt64 >>> ((18 : Int32) &&& 0x3f).toInt64.toUInt64).toInt64))] [] (rm_put l Z a0 hw b1 sa sb p2 ((q3.toUInt64 >>> ((18 : Int32) &&& 0x3f).toInt64.toUInt64).toInt64) f10 na nb n0 h10 hz A10 g_b1 hna hnb (by omega) (by omega) (by omega)) (by decide) 0 (by decide) (by decide) (by decide) rfl (by rw [hml]; rfl) (lenOf own_pd1 rfl) rfl (by show 2 * 0 + _ ≤ _; exact Nat.le_of_eq rfl) (hb hby at_105) (fun v11 h11 L11 T11 Q11 X11 e11 => ?_)
  obtain ⟨rfl, Nq11, Kq11, f11, A11, hp11⟩ := Q11
  replace hz := Nat.le_trans hz Kq11.1
  replace N := N.app Nq11
  show own_Run p e below _ (T11.setTop (mkF m 108 #[.val (.int p1), .val (.int p2), .val (.long q3), .second, .val (.int p4), .val (.int p5), .val (.int sa), .val (.int sb), .val (.int pad), .val (.ref b1), .unset, .unset] []))
  refine own_go (fun _ kS => XS.iload X11.here hx rfl (hb hby at_108) rfl kS) ?_
  show own_Run p e below _ (T11.setTop (mkF m 110 #[.val (.int p1), .val (.int p2), .val (.long q3), .second, .val (.int p4), .val (.int p5), .val (.int sa), .val (.int sb), .val (.int pad), .val (.ref b1), .unset, .unset] [(.int p4)]))
  refine own_ldc X11 hx hZ hown (hw _ (List.mem_of_getElem? (i := 8) rfl)) rfl (hb hby at_110) ?_
  show own_Run p e below _ (T11.setTop (mkF m 112 #[.val (.int p1), .val (.int p2), .val (.long q3), .second, .val (.int p4), .val (.int p5), .val (.int sa), .val (.int sb), .val (.int pad), .val (.ref b1), .unset, .unset] [(.int (2147483647 : Int32)), (.int p4)]))
  refine own_go (fun _ kS => XS.iand X11.here hx rfl (hb hby at_112) rfl kS) ?_
  show own_Run p e below _ (T11.setTop (mkF m 113 #[.val (.int p1), .val (.int p2), .val (.long q3), .second, .val (.int p4), .val (.int p5), .val (.int sa), .val (.int sb), .val (.int pad), .val (.ref b1), .unset, .unset] [(.int (p4 &&& (2147483647 : Int32)))]))
  refine own_go (fun _ kS => XS.bipush X11.here hx rfl (hb hby at_113) kS) ?_
  show own_Run p e below _ (T11.setTop (mkF m 115 #[.val (.int p1), .val (.int p2), .val (.long q3), .second, .val (.int p4), .val (.int p5), .val (.int sa), .val (.int sb), .val (.int pad), .val (.ref b1), .unset, .unset] [(.int (8 : Int32)), (.int (p4 &&& (2147483647 : Int32)))]))
  refine own_go (fun _ kS => iremM X11 hx rfl (hb hby at_115) rfl (by decide) kS) ?_
  show own_Run p e below _ (T11.setTop (mkF m 116 #[.val (.int p1), .val (.int p2), .val (.long q3), .second, .val (.int p4), .val (.int p5), .val (.int sa), .val (.int sb), .val (.int pad), .val (.ref b1), .unset, .unset] [(.int ((p4 &&& (2147483647 : Int32)) % (8 : Int32)))]))
  refine own_go (fun _ kS => XS.istore X11.here hx rfl (hb hby at_116) rfl (l' := #[.val (.int p1), .val (.int p2), .val (.long q3), .second, .val (.int p4), .val (.int p5), .val (.int sa), .val (.int sb), .val (.int pad), .val (.ref b1), .val (.int ((p4 &&& (2147483647 : Int32)) % (8 : Int32))), .unset]) rfl kS) ?_
  show own_Run p e below _ (T11.setTop (mkF m 118 #[.val (.int p1), .val (.int p2), .val (.long q3), .second, .val (.int p4), .val (.int p5), .val (.int sa), .val (.int sb), .val (.int pad), .val (.ref b1), .val (.int ((p4 &&& (2147483647 : Int32)) % (8 : Int32))), .unset] []))
  generalize e_i : ((p4 &&& (2147483647 : Int32)) % (8 : Int32)) = i
  have r_i := e_i ▸ own_rem8 p4
  obtain ⟨ni, hni⟩ : ∃ q : Nat, i.toInt = q := ⟨i.toInt.toNat, by omega⟩
  have hni8 : ni < 8 := by omega
  refine own_go (fun _ kS => XS.iload X11.here hx rfl (hb hby at_118) rfl kS) ?_
  show own_Run p e below _ (T11.setTop (mkF m 120 #[.val (.int p1), .val (.int p2), .val (.long q3), .second, .val (.int p4), .val (.int p5), .val (.int sa), .val (.int sb), .val (.int pad), .val (.ref b1), .val (.int i), .unset] [(.int i)]))
  refine own_go (fun _ kS => XS.iload X11.here hx rfl (hb hby at_120) rfl kS) ?_
  show own_Run p e below _ (T11.setTop (mkF m 122 #[.val (.int p1), .val (.int p2), .val (.long q3), .second, .val (.int p4), .val (.int p5), .val (.int sa), .val (.int sb), .val (.int pad), .val (.ref b1), .val (.int i), .unset] [(.int sa), (.int i)]))
  by_cases hc122 : i < sa
  · refine own_go (fun _ kS => XS.icmpNo X11.here hx rfl (hb hby at_122) rfl (tlt hc122).2.1 kS) ?_
    show own_Run p e below _ (T11.setTop (mkF m 125 #[.val (.int p1), .val (.int p2), .val (.long q3), .second, .val (.int p4), .val (.int p5), .val (.int sa), .val (.int sb), .val (.int pad), .val (.ref b1), .val (.int i), .unset] []))
    have hx1 : ni < na := by have w := hc122; rw [Int32.lt_iff_toInt_lt] at w; omega
    refine own_go (fun _ kS => XS.iconst X11.here hx rfl (hb hby at_125) kS) ?_
    show own_Run p e below _ (T11.setTop (mkF m 126 #[.val (.int p1), .val (.int p2), .val (.long q3), .second, .val (.int p4), .val (.int p5), .val (.int sa), .val (.int sb), .val (.int pad), .val (.ref b1), .val (.int i), .unset] [(.int (0 : Int32))]))
    refine own_go (fun _ kS => XS.istore X11.here hx rfl (hb hby at_126) rfl (l' := #[.val (.int p1), .val (.int p2), .val (.long q3), .second, .val (.int p4), .val (.int p5), .val (.int sa), .val (.int sb), .val (.int pad), .val (.ref b1), .val (.int i), .val (.int (0 : Int32))]) rfl kS) ?_
    show own_Run p e below _ (T11.setTop (mkF m 128 #[.val (.int p1), .val (.int p2), .val (.long q3), .second, .val (.int p4), .val (.int p5), .val (.int sa), .val (.int sb), .val (.int pad), .val (.ref b1), .val (.int i), .val (.int (0 : Int32))] []))
    refine own_go (fun _ kS => XS.goto X11.here hx rfl (pc0 := 128) (pc' := 152) rfl (hb hby at_128) (by decide) (by decide) kS) ?_
    show own_Run p e below _ (T11.setTop (mkF m 152 #[.val (.int p1), .val (.int p2), .val (.long q3), .second, .val (.int p4), .val (.int p5), .val (.int sa), .val (.int sb), .val (.int pad), .val (.ref b1), .val (.int i), .val (.int (0 : Int32))] []))
    refine own_go (fun _ kS => XS.aload X11.here hx rfl (hb hby at_152) rfl rfl kS) ?_
    show own_Run p e below _ (T11.setTop (mkF m 154 #[.val (.int p1), .val (.int p2), .val (.long q3), .second, .val (.int p4), .val (.int p5), .val (.int sa), .val (.int sb), .val (.int pad), .val (.ref b1), .val (.int i), .val (.int (0 : Int32))] [(.ref b1)]))
    refine own_go (fun _ kS => XS.iload X11.here hx rfl (hb hby at_154) rfl kS) ?_
    show own_Run p e below _ (T11.setTop (mkF m 156 #[.val (.int p1), .val (.int p2), .val (.long q3), .second, .val (.int p4), .val (.int p5), .val (.int sa), .val (.int sb), .val (.int pad), .val (.ref b1), .val (.int i), .val (.int (0 : Int32))] [(.int i), (.ref b1)]))
    refine own_callS X11 hx hZ e11 hown (⟨"com/example/quillwire/quillwire/binary/Utf8", "charStart", "([BI)I"⟩ : MethodName) (hw _ (List.mem_of_getElem? (i := 10) rfl)) (hw _ (List.mem_of_getElem? (i := 11) rfl)) (hw _ (List.mem_of_getElem? (i := 12) rfl)) (hw _ (List.mem_of_getElem? (i := 13) rfl)) (by decide) [(.ref b1), (.int i)] [] (rm_cs l Z a0 hw b1 i f11 0 ni h11 A11 hni (Nat.zero_le _) hni8 (own_fin (F := fun _ => .int (nar .byte pad)) (fun _ _ => own_padL _ _ e_pad) hp10 hp11).1.1 (fun j q1 q2 => (own_fin (F := fun _ => .int (nar .byte pad)) (fun _ _ => own_padL _ _ e_pad) hp10 hp11).1.2 j q1 (Nat.lt_of_le_of_lt q2 hx1))) (by decide) 0 (by decide) (by decide) (by decide) rfl (by rw [hml]; rfl) (lenOf own_pd2 rfl) rfl (by show 2 * 0 + _ ≤ _; exact Nat.le_of_eq rfl) (hb hby at_156) (fun v12 h12 L12 T12 Q12 X12 e12 => ?_)
    obtain ⟨rfl, rfl, rfl⟩ := Q12
    replace N := N.app (Fr.nil n0)
    show own_Run p e below _ (T12.setTop (mkF m 159 #[.val (.int p1), .val (.int p2), .val (.long q3), .second, .val (.int p4), .val (.int p5), .val (.int sa), .val (.int sb), .val (.int pad), .val (.ref b1), .val (.int i), .val (.int (0 : Int32))] [(.int (Int32.ofInt (0 : Nat)))]))
    refine own_go (fun _ kS => XS.iload X12.here hx rfl (hb hby at_159) rfl kS) ?_
    show own_Run p e below _ (T12.setTop (mkF m 161 #[.val (.int p1), .val (.int p2), .val (.long q3), .second, .val (.int p4), .val (.int p5), .val (.int sa), .val (.int sb), .val (.int pad), .val (.ref b1), .val (.int i), .val (.int (0 : Int32))] [(.int (0 : Int32)), (.int (Int32.ofInt (0 : Nat)))]))
    refine own_go (fun _ kS => XS.icmpNo X12.here hx rfl (hb hby at_161) rfl (teq (show (Int32.ofInt (0 : Nat)) = (0 : Int32) from (rfl))).2 kS) ?_
    show own_Run p e below _ (T12.setTop (mkF m 164 #[.val (.int p1), .val (.int p2), .val (.long q3), .second, .val (.int p4), .val (.int p5), .val (.int sa), .val (.int sb), .val (.int pad), .val (.ref b1), .val (.int i), .val (.int (0 : Int32))] []))
    refine own_go (fun _ kS => XS.iconst X12.here hx rfl (hb hby at_164) kS) ?_
    show own_Run p e below _ (T12.setTop (mkF m 165 #[.val (.int p1), .val (.int p2), .val (.long q3), .second, .val (.int p4), .val (.int p5), .val (.int sa), .val (.int sb), .val (.int pad), .val (.ref b1), .val (.int i), .val (.int (0 : Int32))] [(.int (1 : Int32))]))
    refine own_go (fun _ kS => XS.goto X12.here hx rfl (pc0 := 165) (pc' := 169) rfl (hb hby at_165) (by decide) (by decide) kS) ?_
    show own_Run p e below _ (T12.setTop (mkF m 169 #[.val (.int p1), .val (.int p2), .val (.long q3), .second, .val (.int p4), .val (.int p5), .val (.int sa), .val (.int sb), .val (.int pad), .val (.ref b1), .val (.int i), .val (.int (0 : Int32))] [(.int (1 : Int32))]))
    refine own_retN X12 hx (t := .boolean) hret hlk (by simp) (hb hby at_169) (by decide) (by decide) ?_
    exact ⟨rfl, N⟩
  · refine own_go (fun _ kS => XS.icmpYes X11.here hx rfl (pc0 := 122) (pc' := 131) rfl (hb hby at_122) rfl (flt hc122).2.1 (by decide) (by decide) kS) ?_
    show own_Run p e below _ (T11.setTop (mkF m 131 #[.val (.int p1), .val (.int p2), .val (.long q3), .second, .val (.int p4), .val (.int p5), .val (.int sa), .val (.int sb), .val (.int pad), .val (.ref b1), .val (.int i), .unset] []))
    have hx1 : na ≤ ni := by have w := hc122; rw [Int32.lt_iff_toInt_lt] at w; omega
    refine own_go (fun _ kS => XS.iload X11.here hx rfl (hb hby at_131) rfl kS) ?_
    show own_Run p e below _ (T11.setTop (mkF m 133 #[.val (.int p1), .val (.int p2), .val (.long q3), .second, .val (.int p4), .val (.int p5), .val (.int sa), .val (.int sb), .val (.int pad), .val (.ref b1), .val (.int i), .unset] [(.int i)]))
    refine own_go (fun _ kS => XS.iload X11.here hx rfl (hb hby at_133) rfl kS) ?_
    show own_Run p e below _ (T11.setTop (mkF m 135 #[.val (.int p1), .val (.int p2), .val (.long q3), .second, .val (.int p4), .val (.int p5), .val (.int sa), .val (.int sb), .val (.int pad), .val (.ref b1), .val (.int i), .unset] [(.int sa), (.int i)]))
    refine own_go (fun _ kS => XS.iload X11.here hx rfl (hb hby at_135) rfl kS) ?_
    show own_Run p e below _ (T11.setTop (mkF m 137 #[.val (.int p1), .val (.int p2), .val (.long q3), .second, .val (.int p4), .val (.int p5), .val (.int sa), .val (.int sb), .val (.int pad), .val (.ref b1), .val (.int i), .unset] [(.int sb), (.int sa), (.int i)]))
    refine own_go (fun _ kS => XS.iadd X11.here hx rfl (hb hby at_137) rfl kS) ?_
    show own_Run p e below _ (T11.setTop (mkF m 138 #[.val (.int p1), .val (.int p2), .val (.long q3), .second, .val (.int p4), .val (.int p5), .val (.int sa), .val (.int sb), .val (.int pad), .val (.ref b1), .val (.int i), .unset] [(.int (sa + sb)), (.int i)]))
    by_cases hc138 : i < (sa + sb)
    · refine own_go (fun _ kS => XS.icmpNo X11.here hx rfl (hb hby at_138) rfl (tlt hc138).2.1 kS) ?_
      show own_Run p e below _ (T11.setTop (mkF m 141 #[.val (.int p1), .val (.int p2), .val (.long q3), .second, .val (.int p4), .val (.int p5), .val (.int sa), .val (.int sb), .val (.int pad), .val (.ref b1), .val (.int i), .unset] []))
      have hab : (sa + sb).toInt = ((na + nb : Nat) : Int) := by have w := c_iadd sa sb; have w2 := rng32 (sa + sb); omega
      have hx2 : ni < na + nb := by have w := hc138; rw [Int32.lt_iff_toInt_lt] at w; omega
      refine own_go (fun _ kS => XS.iload X11.here hx rfl (hb hby at_141) rfl kS) ?_
      show own_Run p e below _ (T11.setTop (mkF m 143 #[.val (.int p1), .val (.int p2), .val (.long q3), .second, .val (.int p4), .val (.int p5), .val (.int sa), .val (.int sb), .val (.int pad), .val (.ref b1), .val (.int i), .unset] [(.int sa)]))
      refine own_go (fun _ kS => XS.istore X11.here hx rfl (hb hby at_143) rfl (l' := #[.val (.int p1), .val (.int p2), .val (.long q3), .second, .val (.int p4), .val (.int p5), .val (.int sa), .val (.int sb), .val (.int pad), .val (.ref b1), .val (.int i), .val (.int sa)]) rfl kS) ?_
      show own_Run p e below _ (T11.setTop (mkF m 145 #[.val (.int p1), .val (.int p2), .val (.long q3), .second, .val (.int p4), .val (.int p5), .val (.int sa), .val (.int sb), .val (.int pad), .val (.ref b1), .val (.int i), .val (.int sa)] []))
      refine own_go (fun _ kS => XS.goto X11.here hx rfl (pc0 := 145) (pc' := 152) rfl (hb hby at_145) (by decide) (by decide) kS) ?_
      show own_Run p e below _ (T11.setTop (mkF m 152 #[.val (.int p1), .val (.int p2), .val (.long q3), .second, .val (.int p4), .val (.int p5), .val (.int sa), .val (.int sb), .val (.int pad), .val (.ref b1), .val (.int i), .val (.int sa)] []))
      refine own_go (fun _ kS => XS.aload X11.here hx rfl (hb hby at_152) rfl rfl kS) ?_
      show own_Run p e below _ (T11.setTop (mkF m 154 #[.val (.int p1), .val (.int p2), .val (.long q3), .second, .val (.int p4), .val (.int p5), .val (.int sa), .val (.int sb), .val (.int pad), .val (.ref b1), .val (.int i), .val (.int sa)] [(.ref b1)]))
      refine own_go (fun _ kS => XS.iload X11.here hx rfl (hb hby at_154) rfl kS) ?_
      show own_Run p e below _ (T11.setTop (mkF m 156 #[.val (.int p1), .val (.int p2), .val (.long q3), .second, .val (.int p4), .val (.int p5), .val (.int sa), .val (.int sb), .val (.int pad), .val (.ref b1), .val (.int i), .val (.int sa)] [(.int i), (.ref b1)]))
      refine own_callS X11 hx hZ e11 hown (⟨"com/example/quillwire/quillwire/binary/Utf8", "charStart", "([BI)I"⟩ : MethodName) (hw _ (List.mem_of_getElem? (i := 10) rfl)) (hw _ (List.mem_of_getElem? (i := 11) rfl)) (hw _ (List.mem_of_getElem? (i := 12) rfl)) (hw _ (List.mem_of_getElem? (i := 13) rfl)) (by decide) [(.ref b1), (.int i)] [] (rm_cs l Z a0 hw b1 i f11 na ni h11 A11 hni hx1 hni8 (own_fin (F := fun _ => .int (nar .byte pad)) (fun _ _ => own_padL _ _ e_pad) hp10 hp11).2.1.1 (fun j q1 q2 => (own_fin (F := fun _ => .int (nar .byte pad)) (fun _ _ => own_padL _ _ e_pad) hp10 hp11).2.1.2 j q1 (Nat.lt_of_le_of_lt q2 hx2))) (by decide) 0 (by decide) (by decide) (by decide) rfl (by rw [hml]; rfl) (lenOf own_pd2 rfl) rfl (by show 2 * 0 + _ ≤ _; exact Nat.le_of_eq rfl) (hb hby at_156) (fun v13 h13 L13 T13 Q13 X13 e13 => ?_)
      obtain ⟨rfl, rfl, rfl⟩ := Q13
      replace N := N.app (Fr.nil n0)
      show own_Run p e below _ (T13.setTop (mkF m 159 #[.val (.int p1), .val (.int p2), .val (.long q3), .second, .val (.int p4), .val (.int p5), .val (.int sa), .val (.int sb), .val (.int pad), .val (.ref b1), .val (.int i), .val (.int sa)] [(.int (Int32.ofInt (na : Nat)))]))
      refine own_go (fun _ kS => XS.iload X13.here hx rfl (hb hby at_159) rfl kS) ?_
      show own_Run p e below _ (T13.setTop (mkF m 161 #[.val (.int p1), .val (.int p2), .val (.long q3), .second, .val (.int p4), .val (.int p5), .val (.int sa), .val (.int sb), .val (.int pad), .val (.ref b1), .val (.int i), .val (.int sa)] [(.int sa), (.int (Int32.ofInt (na : Nat)))]))
      refine own_go (fun _ kS => XS.icmpNo X13.here hx rfl (hb hby at_161) rfl (teq (show (Int32.ofInt (na : Nat)) = sa from (own_inj (by rw [own_oi na (by omega)]; exact hna.symm)))).2 kS) ?_
      show own_Run p e below _ (T13.setTop (mkF m 164 #[.val (.int p1), .val (.int p2), .val (.long q3), .second, .val (.int p4), .val (.int p5), .val (.int sa), .val (.int sb), .val (.int pad), .val (.ref b1), .val (.int i), .val (.int sa)] []))
      refine own_go (fun _ kS => XS.iconst X13.here hx rfl (hb hby at_164) kS) ?_
      show own_Run p e below _ (T13.setTop (mkF m 165 #[.val (.int p1), .val (.int p2), .val (.long q3), .second, .val (.int p4), .val (.int p5), .val (.int sa), .val (.int sb), .val (.int pad), .val (.ref b1), .val (.int i), .val (.int sa)] [(.int (1 : Int32))]))
      refine own_go (fun _ kS => XS.goto X13.here hx rfl (pc0 := 165) (pc' := 169) rfl (hb hby at_165) (by decide) (by decide) kS) ?_
      show own_Run p e below _ (T13.setTop (mkF m 169 #[.val (.int p1), .val (.int p2), .val (.long q3), .second, .val (.int p4), .val (.int p5), .val (.int sa), .val (.int sb), .val (.int pad), .val (.ref b1), .val (.int i), .val (.int sa)] [(.int (1 : Int32))]))
      refine own_retN X13 hx (t := .boolean) hret hlk (by simp) (hb hby at_169) (by decide) (by decide) ?_
      exact ⟨rfl, N⟩
    · refine own_go (fun _ kS => XS.icmpYes X11.here hx rfl (pc0 := 138) (pc' := 148) rfl (hb hby at_138) rfl (flt hc138).2.1 (by decide) (by decide) kS) ?_
      show own_Run p e below _ (T11.setTop (mkF m 148 #[.val (.int p1), .val (.int p2), .val (.long q3), .second, .val (.int p4), .val (.int p5), .val (.int sa), .val (.int sb), .val (.int pad), .val (.ref b1), .val (.int i), .unset] []))
      have hab : (sa + sb).toInt = ((na + nb : Nat) : Int) := by have w := c_iadd sa sb; have w2 := rng32 (sa + sb); omega
      have hx2 : na + nb ≤ ni := by have w := hc138; rw [Int32.lt_iff_toInt_lt] at w; omega
      refine own_go (fun _ kS => XS.iload X11.here hx rfl (hb hby at_148) rfl kS) ?_
      show own_Run p e below _ (T11.setTop (mkF m 150 #[.val (.int p1), .val (.int p2), .val (.long q3), .second, .val (.int p4), .val (.int p5), .val (.int sa), .val (.int sb), .val (.int pad), .val (.ref b1), .val (.int i), .unset] [(.int i)]))
      refine own_go (fun _ kS => XS.istore X11.here hx rfl (hb hby at_150) rfl (l' := #[.val (.int p1), .val (.int p2), .val (.long q3), .second, .val (.int p4), .val (.int p5), .val (.int sa), .val (.int sb), .val (.int pad), .val (.ref b1), .val (.int i), .val (.int i)]) rfl kS) ?_
      show own_Run p e below _ (T11.setTop (mkF m 152 #[.val (.int p1), .val (.int p2), .val (.long q3), .second, .val (.int p4), .val (.int p5), .val (.int sa), .val (.int sb), .val (.int pad), .val (.ref b1), .val (.int i), .val (.int i)] []))
      refine own_go (fun _ kS => XS.aload X11.here hx rfl (hb hby at_152) rfl rfl kS) ?_
      show own_Run p e below _ (T11.setTop (mkF m 154 #[.val (.int p1), .val (.int p2), .val (.long q3), .second, .val (.int p4), .val (.int p5), .val (.int sa), .val (.int sb), .val (.int pad), .val (.ref b1), .val (.int i), .val (.int i)] [(.ref b1)]))
      refine own_go (fun _ kS => XS.iload X11.here hx rfl (hb hby at_154) rfl kS) ?_
      show own_Run p e below _ (T11.setTop (mkF m 156 #[.val (.int p1), .val (.int p2), .val (.long q3), .second, .val (.int p4), .val (.int p5), .val (.int sa), .val (.int sb), .val (.int pad), .val (.ref b1), .val (.int i), .val (.int i)] [(.int i), (.ref b1)]))
      refine own_callS X11 hx hZ e11 hown (⟨"com/example/quillwire/quillwire/binary/Utf8", "charStart", "([BI)I"⟩ : MethodName) (hw _ (List.mem_of_getElem? (i := 10) rfl)) (hw _ (List.mem_of_getElem? (i := 11) rfl)) (hw _ (List.mem_of_getElem? (i := 12) rfl)) (hw _ (List.mem_of_getElem? (i := 13) rfl)) (by decide) [(.ref b1), (.int i)] [] (rm_cs l Z a0 hw b1 i f11 ni ni h11 A11 hni (Nat.le_refl _) hni8 ((own_fin (F := fun _ => .int (nar .byte pad)) (fun _ _ => own_padL _ _ e_pad) hp10 hp11).2.2 ni hx2 hni8) (fun j q1 q2 => absurd q1 (Nat.not_lt.mpr q2))) (by decide) 0 (by decide) (by decide) (by decide) rfl (by rw [hml]; rfl) (lenOf own_pd2 rfl) rfl (by show 2 * 0 + _ ≤ _; exact Nat.le_of_eq rfl) (hb hby at_156) (fun v14 h14 L14 T14 Q14 X14 e14 => ?_)
      obtain ⟨rfl, rfl, rfl⟩ := Q14
      replace N := N.app (Fr.nil n0)
      show own_Run p e below _ (T14.setTop (mkF m 159 #[.val (.int p1), .val (.int p2), .val (.long q3), .second, .val (.int p4), .val (.int p5), .val (.int sa), .val (.int sb), .val (.int pad), .val (.ref b1), .val (.int i), .val (.int i)] [(.int (Int32.ofInt (ni : Nat)))]))
      refine own_go (fun _ kS => XS.iload X14.here hx rfl (hb hby at_159) rfl kS) ?_
      show own_Run p e below _ (T14.setTop (mkF m 161 #[.val (.int p1), .val (.int p2), .val (.long q3), .second, .val (.int p4), .val (.int p5), .val (.int sa), .val (.int sb), .val (.int pad), .val (.ref b1), .val (.int i), .val (.int i)] [(.int i), (.int (Int32.ofInt (ni : Nat)))]))
      refine own_go (fun _ kS => XS.icmpNo X14.here hx rfl (hb hby at_161) rfl (teq (show (Int32.ofInt (ni : Nat)) = i from (own_inj (by rw [own_oi ni (by omega)]; exact hni.symm)))).2 kS) ?_
      show own_Run p e below _ (T14.setTop (mkF m 164 #[.val (.int p1), .val (.int p2), .val (.long q3), .second, .val (.int p4), .val (.int p5), .val (.int sa), .val (.int sb), .val (.int pad), .val (.ref b1), .val (.int i), .val (.int i)] []))
      refine own_go (fun _ kS => XS.iconst X14.here hx rfl (hb hby at_164) kS) ?_
      show own_Run p e below _ (T14.setTop (mkF m 165 #[.val (.int p1), .val (.int p2), .val (.long q3), .second, .val (.int p4), .val (.int p5), .val (.int sa), .val (.int sb), .val (.int pad), .val (.ref b1), .val (.int i), .val (.int i)] [(.int (1 : Int32))]))
      refine own_go (fun _ kS => XS.goto X14.here hx rfl (pc0 := 165) (pc' := 169) rfl (hb hby at_165) (by decide) (by decide) kS) ?_
      show own_Run p e below _ (T14.setTop (mkF m 169 #[.val (.int p1), .val (.int p2), .val (.long q3), .second, .val (.int p4), .val (.int p5), .val (.int sa), .val (.int sb), .val (.int pad), .val (.ref b1), .val (.int i), .val (.int i)] [(.int (1 : Int32))]))
      refine own_retN X14 hx (t := .boolean) hret hlk (by simp) (hb hby at_169) (by decide) (by decide) ?_
      exact ⟨rfl, N⟩
set_option maxRecDepth 65536 in
set_option maxHeartbeats 40000000 in
theorem own_comes_1 {Post : Tables → Env → Array Value → State → Outcome → State → Prop} (hpost : ∀ tb e args s v u, (limb_1_1.after args s (.returned v) u = true ∧ limb_1_2.after args s (.returned v) u = true) → FrameEnd s (.returned v) u (Jvm.fieldLocs frame_1_writes args s ++ Jvm.arrayLocs frame_1_arrays args s ++ Jvm.staticLocs frame_1_statics s) 16 128 → Post tb e args s (.returned v) u) :
    ArmFor flags0 classFile x code maxLocals ret World_1 tables_1 room_1 Calls_1 rest_1 Pre_1 Post := by
  intro l hfl _ _ p e ha hc hk s m args below hf hA hF happ hP
  obtain ⟨hcalls, hrest, hpre⟩ := hP
  obtain ⟨-, -, -, hnamed, -, -, -, hat⟩ := (Spec.applies_iff hf).mp happ
  obtain ⟨hg, hn⟩ := and_e (Cond.before_iff.mp (show (Jvm.Cond.and given_1 narrow_1).before args s = true from hpre))
  obtain ⟨g0, hg⟩ := and_e hg
  obtain ⟨k0, hg⟩ := and_e hg
  obtain ⟨k1, hg⟩ := and_e hg
  obtain ⟨k2, hg⟩ := and_e hg
  obtain ⟨k3, hg⟩ := and_e hg
  have k4 := hg
  obtain ⟨w0, w1, w2, w3, w4, rfl⟩ : ∃ w0 w1 w2 w3 w4 : Value, args = #[w0, w1, w2, w3, w4] := by
    have hs : args.size = 5 := by simpa [Cond.value, given_1] using g0
    obtain ⟨L⟩ := args
    match L, hs with
    | [w0, w1, w2, w3, w4], _ => exact ⟨w0, w1, w2, w3, w4, rfl⟩
  have hw := fun d (hd : d ∈ tables_1) => atoms_spec (ws := Jvm.Cond.code x code maxLocals ret :: tables_1) hat d (List.mem_cons_of_mem _ hd)
  obtain ⟨i0, ei0⟩ := is_v k0
  obtain rfl : w0 = (.int i0) := Option.some.inj ei0
  obtain ⟨i1, ei1⟩ := is_v k1
  obtain rfl : w1 = (.int i1) := Option.some.inj ei1
  obtain ⟨i2, ei2⟩ := isL_v k2
  obtain rfl : w2 = (.long i2) := Option.some.inj ei2
  obtain ⟨i3, ei3⟩ := is_v k3
  obtain rfl : w3 = (.int i3) := Option.some.inj ei3
  obtain ⟨i4, ei4⟩ := is_v k4
  obtain rfl : w4 = (.int i4) := Option.some.inj ei4
  obtain ⟨n, o, h1, h2, h3, _, L, rfl, ⟨rfl, N⟩, hq⟩ := rm_law l s _ hw i0 i1 i2 i3 i4 s.heap.size s.heap (Nat.le_refl _) tables_1 p e ha hc hk s m _ below hf ((Spec.applies_iff_loose hf).mp happ).1 ⟨rfl, State.Warmed39.refl s, rfl⟩ trivial
  refine ⟨n, _, h1, h2, h3, hpost _ _ _ _ _ _ ⟨Cond.after_iff.mpr rfl, Cond.after_iff.mpr (eq_i res_at (Term.int_eval (1)) rfl)⟩ ⟨hq.1, hq.2.1, (hq.2.2.sift fun y hy => Or.inr (N y hy)).mono (by decide) (by decide)⟩⟩
theorem main_1_1 : Claimed_1_1 := own_comes_1 fun _ _ _ _ _ _ h hF => ⟨h.1, hF⟩
theorem main_1_2 : Claimed_1_2 := own_comes_1 fun _ _ _ _ _ _ h hF => ⟨h.2, hF⟩
end Jvm.Pilot.@@N@@
namespace Jvm.Pilot.@@N@@
open Jvm Jvm.ClassFile Sem Op Lib Jvm.Free Jvm.Stand Jvm.Pilot.@@N@@.Jvm.D
/-! MADE BY PROGRAM (witnessworld.py) out of the Statement's table words and the real class files: 9 classes; the members and pool entries that the words name. The judged class is class 1, her method 3. -/
namespace start1
open Jvm.ClassFile
def u (s : String) : CpInfo := .utf8 (stringToUtf16 s)
/-- a pool by its gaps: so many unusable entries, then the entry; so many at the end -/
def gap : Nat → List CpInfo → List CpInfo
  | 0, r => r
  | n + 1, r => .unusable :: gap n r
def poolList (es : List (Nat × CpInfo)) (last : Nat) : List CpInfo := es.foldr (fun e r => gap e.1 (e.2 :: r)) (gap last [])
def pool (es : List (Nat × CpInfo)) (last : Nat) : Array CpInfo := ⟨poolList es last⟩
def fileOf (pool : Array CpInfo) (this : Nat) (attrs : Array Attribute := #[]) (ms : Array MethodInfo := #[]) (fl : Nat := 33) (sup : Nat := 0) (ifs : Array Nat := #[]) (fds : Array FieldInfo := #[]) : ClassFile where
  minorVersion := 0
  majorVersion := 65
  constantPool := pool
  accessFlags := fl
  thisClass := this
  superClass := sup
  interfaces := ifs
  fields := fds
  methods := ms
  attributes := attrs
def plain (name : String) (sup : Option ClassId) : Class where
  name := name
  kind := .ordinary
  loader := none
  accessFlags := 33
  super := sup
  interfaces := #[]
  cf := none
  fields := #[]
  methods := #[]
  instanceTypes := #[]
  staticTypes := #[]
  resolved := #[]
  callSites := []
  init := .initialized
  statics := none
  mirror := none

def pool0 : Array CpInfo := pool [(5, u "<init>"), (0, u "()V"), (1, .class_ 10), (1, u "java/lang/Object")] 113

def k0m0 : Method := { name := "<init>", desc := "()V", sig := { parameters := [], returnType := none }, accessFlags := 1, code := none }
/-- java/lang/Object -/
def k0 : Class := { plain "java/lang/Object" none with
  accessFlags := 33
  interfaces := #[]
  cf := some (fileOf pool0 8 #[] #[{ accessFlags := 1, nameIndex := 5, descriptorIndex := 6, attributes := #[] }] 33 0 #[] #[])
  fields := #[]
  methods := #[k0m0]
  instanceTypes := #[]
  staticTypes := #[]
  resolved := Array.replicate 124 none
  statics := none }

def pool1 : Array CpInfo := pool [(2, .class_ 4), (1, u "java/lang/Object"), (0, u "<init>"), (0, u "()V"), (0, .integer 2147483647), (0, .methodref 9 10), (0, .class_ 11), (0, .nameAndType 12 13), (0, u "com/example/quillwire/quillwire/binary/Utf8CharStartPinLaw"), (0, u "leadByte"), (0, u "(II)I"), (0, .long 63), (1, .methodref 9 17), (0, .nameAndType 18 19), (0, u "put"), (0, u "([BIIIJ)V"), (0, .methodref 21 22), (0, .class_ 23), (0, .nameAndType 24 25), (0, u "com/example/quillwire/quillwire/binary/Utf8"), (0, u "charStart"), (0, u "([BI)I"), (3, u "law"), (0, u "(IIJII)Z")] 4

def k1m0 : Method := { name := "<init>", desc := "()V", sig := { parameters := [], returnType := none }, accessFlags := 1, code := none }
def k1c1 : Code := { maxStack := 3, maxLocals := 4, code := method_2_code, exceptionTable := #[], attributes := #[] }
def k1m1 : Method := { name := "leadByte", desc := "(II)I", sig := { parameters := [.int, .int], returnType := some .int }, accessFlags := 10, code := some k1c1 }
def k1c2 : Code := { maxStack := 7, maxLocals := 8, code := method_3_code, exceptionTable := #[], attributes := #[] }
def k1m2 : Method := { name := "put", desc := "([BIIIJ)V", sig := { parameters := [(.array .byte), .int, .int, .int, .long], returnType := none }, accessFlags := 10, code := some k1c2 }
def k1c3 : Code := { maxStack := 7, maxLocals := 12, code := code, exceptionTable := #[], attributes := #[] }
def k1m3 : Method := { name := "law", desc := "(IIJII)Z", sig := { parameters := [.int, .int, .long, .int, .int], returnType := some .boolean }, accessFlags := 9, code := some k1c3 }
/-- com/example/quillwire/quillwire/binary/Utf8CharStartPinLaw -/
def k1 : Class := { plain "com/example/quillwire/quillwire/binary/Utf8CharStartPinLaw" (some 0) with
  accessFlags := 49
  interfaces := #[]
  cf := some (fileOf pool1 9 #[] #[{ accessFlags := 1, nameIndex := 5, descriptorIndex := 6, attributes := #[] }, { accessFlags := 10, nameIndex := 12, descriptorIndex := 13, attributes := #[] }, { accessFlags := 10, nameIndex := 18, descriptorIndex := 19, attributes := #[] }, { accessFlags := 9, nameIndex := 29, descriptorIndex := 30, attributes := #[] }] 49 2 #[] #[])
  fields := #[]
  methods := #[k1m0, k1m1, k1m2, k1m3]
  instanceTypes := #[]
  staticTypes := #[]
  resolved := Array.replicate 35 none
  statics := none }

def pool2 : Array CpInfo := pool [(2, .class_ 4), (1, u "java/lang/Object"), (3, .class_ 10), (1, u "com/example/quillwire/quillwire/binary/Utf8"), (0, u "bytes"), (0, u "[B"), (2, u "offset"), (0, u "I"), (2, u "length"), (2, u "chars"), (2, u "ascii"), (0, u "Z"), (2, u "latin1"), (2, u "ANY_ROOM"), (0, u "Lcom/example/quillwire/quillwire/binary/Utf8$Room;"), (36, .class_ 72), (1, u "com/example/quillwire/quillwire/binary/Utf8$Room"), (44, u "LONGS"), (0, u "Ljava/lang/invoke/VarHandle;"), (53, u "SHORT_STRING_LENGTH"), (1, u "HIGH_BITS"), (0, u "J"), (15, u "charStart"), (0, u "([BI)I")] 26

def k2c0 : Code := { maxStack := 2, maxLocals := 3, code := prog_30_method_9_code, exceptionTable := #[], attributes := #[] }
def k2m0 : Method := { name := "charStart", desc := "([BI)I", sig := { parameters := [(.array .byte), .int], returnType := some .int }, accessFlags := 9, code := some k2c0 }
/-- com/example/quillwire/quillwire/binary/Utf8 -/
def k2 : Class := { plain "com/example/quillwire/quillwire/binary/Utf8" (some 0) with
  accessFlags := 49
  interfaces := #[]
  cf := some (fileOf pool2 8 #[.nestMembers #[70]] #[{ accessFlags := 9, nameIndex := 191, descriptorIndex := 192, attributes := #[] }] 49 2 #[] #[{ accessFlags := 24, nameIndex := 172, descriptorIndex := 16, attributes := #[] }, { accessFlags := 26, nameIndex := 117, descriptorIndex := 118, attributes := #[] }, { accessFlags := 26, nameIndex := 174, descriptorIndex := 175, attributes := #[] }, { accessFlags := 26, nameIndex := 32, descriptorIndex := 33, attributes := #[] }, { accessFlags := 18, nameIndex := 11, descriptorIndex := 12, attributes := #[] }, { accessFlags := 18, nameIndex := 15, descriptorIndex := 16, attributes := #[] }, { accessFlags := 18, nameIndex := 19, descriptorIndex := 16, attributes := #[] }, { accessFlags := 18, nameIndex := 22, descriptorIndex := 16, attributes := #[] }, { accessFlags := 18, nameIndex := 25, descriptorIndex := 26, attributes := #[] }, { accessFlags := 18, nameIndex := 29, descriptorIndex := 26, attributes := #[] }])
  fields := #[{ name := "SHORT_STRING_LENGTH", type := .int, accessFlags := 24, slot := 0, constantValue := 0 }, { name := "LONGS", type := (.object "java/lang/invoke/VarHandle"), accessFlags := 26, slot := 1, constantValue := 0 }, { name := "HIGH_BITS", type := .long, accessFlags := 26, slot := 2, constantValue := 0 }, { name := "ANY_ROOM", type := (.object "com/example/quillwire/quillwire/binary/Utf8$Room"), accessFlags := 26, slot := 3, constantValue := 0 }, { name := "bytes", type := (.array .byte), accessFlags := 18, slot := 0, constantValue := 0 }, { name := "offset", type := .int, accessFlags := 18, slot := 1, constantValue := 0 }, { name := "length", type := .int, accessFlags := 18, slot := 2, constantValue := 0 }, { name := "chars", type := .int, accessFlags := 18, slot := 3, constantValue := 0 }, { name := "ascii", type := .boolean, accessFlags := 18, slot := 4, constantValue := 0 }, { name := "latin1", type := .boolean, accessFlags := 18, slot := 5, constantValue := 0 }]
  methods := #[k2m0]
  instanceTypes := #[(.array .byte), .int, .int, .int, .boolean, .boolean]
  staticTypes := #[.int, (.object "java/lang/invoke/VarHandle"), .long, (.object "com/example/quillwire/quillwire/binary/Utf8$Room")]
  resolved := Array.replicate 219 none
  statics := none }

def pool3 : Array CpInfo := pool [(1, u "java/lang/Cloneable"), (0, .class_ 1), (0, u "java/lang/Object"), (0, .class_ 3)] 3

/-- java/lang/Cloneable -/
def k3 : Class := { plain "java/lang/Cloneable" (some 0) with
  accessFlags := 1537
  interfaces := #[]
  cf := some (fileOf pool3 2 #[] #[] 1537 4 #[] #[])
  fields := #[]
  methods := #[]
  instanceTypes := #[]
  staticTypes := #[]
  resolved := Array.replicate 8 none
  statics := none }

def pool4 : Array CpInfo := pool [(1, u "java/io/Serializable"), (0, .class_ 1), (0, u "java/lang/Object"), (0, .class_ 3)] 3

/-- java/io/Serializable -/
def k4 : Class := { plain "java/io/Serializable" (some 0) with
  accessFlags := 1537
  interfaces := #[]
  cf := some (fileOf pool4 2 #[] #[] 1537 4 #[] #[])
  fields := #[]
  methods := #[]
  instanceTypes := #[]
  staticTypes := #[]
  resolved := Array.replicate 8 none
  statics := none }

/-- the primitive byte -/
def k5 : Class := { plain "byte" none with kind := .primitive 'B', accessFlags := 0x411 }
/-- [B -/
def k6 : Class := { plain "[B" (some 0) with kind := .array 5 .byte, interfaces := #[3, 4], accessFlags := 1041 }

/-- the primitive int -/
def k7 : Class := { plain "int" none with kind := .primitive 'I', accessFlags := 0x411 }
/-- [I -/
def k8 : Class := { plain "[I" (some 0) with kind := .array 7 .int, interfaces := #[3, 4], accessFlags := 1041 }

def heap : Heap := #[]
def classes : Array Class := #[k0, k1, k2, k3, k4, k5, k6, k7, k8]
def interned : List (Array UInt16 × Addr) := []
def slotsUsed : Nat := 0
def theMethod : MethodId := ⟨1, 3⟩
def args0 : Array Value := #[.int 5, .int 7, .long 3, .int 2, .int 9]
def aboutOver (below : List Frame) : State where
  vm := { classes := classes, interned := interned.toArray }
  heap := heap
  slotsUsed := slotsUsed
  threads := #[{ frames := .invoking theMethod args0 :: below }]
def below0 : List Frame := [.native { method := ⟨0, 0⟩, args := #[] }]
def about1 : State := aboutOver below0
def p0 : Program := .bare "" "" ""
def e0 : Env := launch0.env 0 0 0
theorem w_frames : about1.frames = Frame.invoking theMethod args0 :: below0 := rfl
set_option maxRecDepth 65536 in
theorem w_args : argsFit about1.vm theMethod args0 = true := by decide +kernel
set_option maxRecDepth 65536 in
theorem w_heap : heapFits about1 = true := by decide +kernel
set_option maxRecDepth 65536 in
theorem w_runnable : about1.curStatus? = some .runnable := by decide +kernel
set_option maxRecDepth 65536 in
theorem w_alone : about1.alone = true := by decide +kernel
set_option maxRecDepth 65536 in
theorem w_named : about1.methodNamed? x = some theMethod := by decide +kernel
set_option maxRecDepth 65536 in
theorem w_hears : about1.hears theMethod below0 = true := by decide +kernel
set_option maxRecDepth 65536 in
theorem w_ripe : about1.ripe theMethod args0 below0 = true := by decide +kernel
theorem w_running : about1.status = .running := rfl
set_option maxRecDepth 65536 in
theorem w_room : about1.hasRoom e0.platform room_1 = true :=
  launch0.hasRoom_least _ room_1 (by decide +kernel) (by decide +kernel) (by decide +kernel) (by decide +kernel) (by decide +kernel) (by decide +kernel)
theorem allAtoms_all (ts : List Jvm.Cond) (a : Array Jvm.Value) (st : Jvm.State) : (allAtoms ts).before a st = ts.all (fun c => c.before a st) := by
  induction ts with
  | nil => rfl
  | cons c t ih =>
    show (Jvm.Cond.and c (allAtoms t)).before a st = _
    rw [Jvm.Cond.before_and, ih, List.all_cons]
def words1 : List Jvm.Cond := Jvm.Cond.code x code maxLocals ret :: tables_1
/-- a 'code' word, met by the world's own term for the bytes: nothing is compared byte by byte -/
theorem code_word {y : MethodName} {bytes : ByteArray} {mx : Nat} {rt : Option FieldType} {a : Array Value} {s : State} {m : MethodId} {meth : Method} {c : Code} (h1 : s.methodNamed? y = some m) (h2 : s.vm.method? m = some meth) (h3 : meth.code = some c) (h4 : c.code = bytes)
    (h5 : (c.maxLocals == mx && c.exceptionTable.isEmpty && decide (c.maxStack ≤ mostOperands) && decide (meth.sig.returnType = rt) && !meth.locks && decide (parseMethodDescriptor y.desc = some meth.sig)) = true) : (Jvm.Cond.code y bytes mx rt).before a s = true := by
  simp only [Bool.and_eq_true, beq_iff_eq, Bool.not_eq_true', decide_eq_true_eq] at h5
  obtain ⟨⟨⟨⟨⟨g1, g2⟩, g3⟩, g4⟩, g5⟩, g6⟩ := h5
  simp [Cond.before, Cond.holds, Cond.value, h1, h2, h3, h4, g1, g2, g3, g4, g5, g6]
def isCode : Jvm.Cond → Bool
  | .code _ _ _ _ => true
  | _ => false
theorem all_split {L : List Jvm.Cond} {P : Jvm.Cond → Bool} (h1 : L.all (fun c => isCode c || P c) = true) (h2 : ∀ c ∈ L.filter isCode, P c = true) : L.all P = true := by
  refine List.all_eq_true.mpr fun c hc => ?_
  have h := List.all_eq_true.mp h1 c hc
  rcases Bool.eq_false_or_eq_true (isCode c) with hi | hi
  · exact h2 c (List.mem_filter.mpr ⟨hc, hi⟩)
  · simpa [hi] using h
set_option maxRecDepth 65536 in
theorem w_c0 : (Jvm.Cond.code x code maxLocals ret).before args0 about1 = true := code_word (m := ⟨1, 3⟩) (meth := k1m3) (c := k1c3) (by decide +kernel) rfl rfl rfl (by decide +kernel)
set_option maxRecDepth 65536 in
theorem w_c1 : (Jvm.Cond.code ({ cls := "com/example/quillwire/quillwire/binary/Utf8CharStartPinLaw", name := "put", desc := "([BIIIJ)V" } : Jvm.MethodName) method_3_code (8 : Nat) (Option.none : Option Jvm.ClassFile.FieldType)).before args0 about1 = true := code_word (m := ⟨1, 2⟩) (meth := k1m2) (c := k1c2) (by decide +kernel) rfl rfl rfl (by decide +kernel)
set_option maxRecDepth 65536 in
theorem w_c2 : (Jvm.Cond.code ({ cls := "com/example/quillwire/quillwire/binary/Utf8CharStartPinLaw", name := "leadByte", desc := "(II)I" } : Jvm.MethodName) method_2_code (4 : Nat) (Option.some Jvm.ClassFile.FieldType.int)).before args0 about1 = true := code_word (m := ⟨1, 1⟩) (meth := k1m1) (c := k1c1) (by decide +kernel) rfl rfl rfl (by decide +kernel)
set_option maxRecDepth 65536 in
theorem w_c3 : (Jvm.Cond.code ({ cls := "com/example/quillwire/quillwire/binary/Utf8", name := "charStart", desc := "([BI)I" } : Jvm.MethodName) prog_30_method_9_code (3 : Nat) (Option.some Jvm.ClassFile.FieldType.int)).before args0 about1 = true := code_word (m := ⟨2, 0⟩) (meth := k2m0) (c := k2c0) (by decide +kernel) rfl rfl rfl (by decide +kernel)
def codes1 : List Jvm.Cond := [Jvm.Cond.code x code maxLocals ret, Jvm.Cond.code ({ cls := "com/example/quillwire/quillwire/binary/Utf8CharStartPinLaw", name := "put", desc := "([BIIIJ)V" } : Jvm.MethodName) method_3_code (8 : Nat) (Option.none : Option Jvm.ClassFile.FieldType), Jvm.Cond.code ({ cls := "com/example/quillwire/quillwire/binary/Utf8CharStartPinLaw", name := "leadByte", desc := "(II)I" } : Jvm.MethodName) method_2_code (4 : Nat) (Option.some Jvm.ClassFile.FieldType.int), Jvm.Cond.code ({ cls := "com/example/quillwire/quillwire/binary/Utf8", name := "charStart", desc := "([BI)I" } : Jvm.MethodName) prog_30_method_9_code (3 : Nat) (Option.some Jvm.ClassFile.FieldType.int)]
set_option maxRecDepth 65536 in
theorem codes_eq : words1.filter isCode = codes1 := rfl
theorem w_codes : ∀ c ∈ words1.filter isCode, c.before args0 about1 = true := by
  rw [codes_eq]
  intro c hc
  simp only [codes1, List.mem_cons, List.not_mem_nil, or_false] at hc
  rcases hc with rfl | rfl | rfl | rfl
  · exact w_c0
  · exact w_c1
  · exact w_c2
  · exact w_c3
set_option maxRecDepth 65536 in
theorem w_t1 : words1.all (fun c => isCode c || c.before args0 about1) = true := by decide +kernel
theorem w_tables : (allAtoms (Jvm.Cond.code x code maxLocals ret :: tables_1)).before args0 about1 = true := by
  rw [allAtoms_all]
  show words1.all (fun c => c.before args0 about1) = true
  refine all_split ?_ w_codes
  rw [w_t1]
set_option maxRecDepth 65536 in
theorem w_case : (Jvm.Cond.and given_1 narrow_1).before args0 about1 = true := by decide +kernel
theorem w_applies : (headSpec (Jvm.Cond.code x code maxLocals ret :: tables_1) room_1).applies x e0.platform about1 = true :=
  (Spec.applies_iff w_frames).mpr ⟨w_running, w_runnable, w_alone, w_named, w_hears, w_ripe, w_room, w_tables⟩
theorem atStart : AtStart classFile x code maxLocals ret World_1 tables_1 room_1 Calls_1 rest_1 Pre_1 launch0 p0 e0 about1 theMethod args0 below0 :=
  ⟨lists_1, trivial, launch0.admits_env _ _ _, launch0.least_env, fairChoices_fair.cas, fairChoices_fair.clock, w_frames, w_args, w_heap, w_applies, trivial, trivial, w_case⟩
end start1
theorem witness_1 : WitnessClaimed_1 := ⟨start1.p0, start1.e0, start1.about1, start1.theMethod, start1.args0, start1.below0, start1.atStart⟩
end Jvm.Pilot.@@N@@
