import JvmDerived
import JvmDerived.Pilot.@@N@@Statement
import JvmDerived.Pilot.@@N@@Code
set_option linter.unusedVariables false
set_option linter.unusedSimpArgs false
namespace Jvm.Pilot.@@N@@
open Jvm Jvm.ClassFile Sem Op Lib Jvm.Free Jvm.Stand Jvm.LawKit Jvm.RoadKit Bundle Jvm.Pilot.@@N@@.Jvm.D
section OwnKit
variable {p : Program} {l : Launch} {e : Env} {R : Room} {s : State} {m : MethodId} {args : Array Value} {below : List Frame} {meth : Method} {c : Code} {T : State} {locs : List Loc} {cells slots : Nat} {Z : State} {a0 : Array Value} {h : Heap} {n0 : Nat} {G : State → Outcome → Prop} {kc ks : Nat} {Q : Option Value → Heap → Prop}
/-- what is left of a walk: from U the body comes to an end of which G holds -/
def own_Go (tb : Tables) (e : Env) (below : List Frame) (G : State → Outcome → Prop) (U : State) : Prop := ∃ s₂ o, Steps tb e below U s₂ ∧ s₂.status = .running ∧ Ended s₂ below o ∧ G s₂ o
theorem own_go {tb : Tables} {U U' : State} (f : ∀ t, Steps tb e below U' t → Steps tb e below U t) (k : own_Go tb e below G U') : own_Go tb e below G U := by
  obtain ⟨a, b, c, d⟩ := k
  exact ⟨a, b, f _ c, d⟩
/-- where the run stands: its heap is h, nothing below n0 has been written -/
def own_At (p : Program) (l : Launch) (e : Env) (R : Room) (s : State) (m : MethodId) (args : Array Value) (below : List Frame) (meth : Method) (c : Code) (n0 : Nat) (T : State) (h : Heap) (cells slots : Nat) : Prop :=
  ∃ locs, Stand p l e R s m args below meth c T locs cells slots ∧ T.heap = h ∧ Fr n0 locs
theorem own_At.here (A : own_At p l e R s m args below meth c n0 T h cells slots) : At T m c below := by obtain ⟨_, X, -, -⟩ := A; exact X.here
theorem own_At.heap (A : own_At p l e R s m args below meth c n0 T h cells slots) : T.heap = h := by obtain ⟨_, -, q, -⟩ := A; exact q
/-- the end of a body: it returns v, Q holds of v and the heap -/
def own_End (n0 : Nat) (s : State) (kc ks : Nat) (Q : Option Value → Heap → Prop) : State → Outcome → Prop := fun s₂ o => ∃ v L, o = .returned v ∧ (Q v s₂.heap ∧ Fr n0 L) ∧ FrameEnd s o s₂ L kc ks
theorem own_leave (A : own_At p l e R s m args below meth c n0 T h cells slots) {v : Option Value} (hv : meth.sig.returnType = none → v = none) (hlk : meth.locks = false) (hc : cells ≤ kc) (hs : slots ≤ ks) (q : Q v h) {U : State}
    (st : ∀ locs, Stand p l e R s m args below meth c T locs cells slots → ∀ fs, (∀ (f : JFrame) (acts : List Action), f.method = m → f.locked = none → f.entered = [] → (doReturn e (T.setTop f) acts v).1 = T.setFrames fs) → Steps p.tables e below U (T.setFrames fs)) : own_Go p.tables e below (own_End n0 s kc ks Q) U := by
  obtain ⟨locs, X, rfl, N⟩ := A
  obtain ⟨fs, hr, hrun, hended, hW, hsame⟩ := X.leave hv hlk
  exact ⟨_, _, st locs X fs hr, hrun, hended, _, _, rfl, ⟨q, N⟩, ⟨_, rfl⟩, hW, hsame.mono hc hs⟩
theorem own_retI (A : own_At p l e R s m args below meth c n0 T h cells slots) (hx : p.tables.exec = Jvm.exec) (hret : meth.sig.returnType = some .int) (hlk : meth.locks = false) (hc : cells ≤ kc) (hs : slots ≤ ks) {pc : Nat} {Ls : Array Slot} {z : Int32} {rest : List Value} (hd : decode c.code pc = .ok (.ireturn, 1)) (q : Q (some (.int z)) h) :
    own_Go p.tables e below (own_End n0 s kc ks Q) (T.setTop (mkF m pc Ls (.int z :: rest))) :=
  own_leave A (fun q => by rw [hret] at q; cases q) hlk hc hs q fun _ X _ hr => retOut X hx hret rfl (Or.inl ⟨rfl, Or.inl rfl, _, rfl⟩) hd hr
theorem own_retN (A : own_At p l e R s m args below meth c n0 T h cells slots) (hx : p.tables.exec = Jvm.exec) {t : FieldType} (hret : meth.sig.returnType = some t) (ht : t = .boolean ∨ t = .byte ∨ t = .char ∨ t = .short) (hlk : meth.locks = false) (hc : cells ≤ kc) (hs : slots ≤ ks) {pc : Nat} {Ls : Array Slot} {z : Int32} {rest : List Value} (hd : decode c.code pc = .ok (.ireturn, 1)) (q : Q (some (.int (nar t z))) h) :
    own_Go p.tables e below (own_End n0 s kc ks Q) (T.setTop (mkF m pc Ls (.int z :: rest))) :=
  own_leave A (fun q => by rw [hret] at q; cases q) hlk hc hs q fun _ X _ hr => retN X hx hret ht hd hr
theorem own_retJ (A : own_At p l e R s m args below meth c n0 T h cells slots) (hx : p.tables.exec = Jvm.exec) (hret : meth.sig.returnType = some .long) (hlk : meth.locks = false) (hc : cells ≤ kc) (hs : slots ≤ ks) {pc : Nat} {Ls : Array Slot} {z : Int64} {rest : List Value} (hd : decode c.code pc = .ok (.lreturn, 1)) (q : Q (some (.long z)) h) :
    own_Go p.tables e below (own_End n0 s kc ks Q) (T.setTop (mkF m pc Ls (.long z :: rest))) :=
  own_leave A (fun q => by rw [hret] at q; cases q) hlk hc hs q fun _ X _ hr => retOut X hx hret rfl (Or.inr (Or.inl ⟨rfl, rfl, _, rfl⟩)) hd hr
theorem own_retD (A : own_At p l e R s m args below meth c n0 T h cells slots) (hx : p.tables.exec = Jvm.exec) (hret : meth.sig.returnType = some .double) (hlk : meth.locks = false) (hc : cells ≤ kc) (hs : slots ≤ ks) {pc : Nat} {Ls : Array Slot} {z : UInt64} {rest : List Value} (hd : decode c.code pc = .ok (.dreturn, 1)) (q : Q (some (.double z)) h) :
    own_Go p.tables e below (own_End n0 s kc ks Q) (T.setTop (mkF m pc Ls (.double z :: rest))) :=
  own_leave A (fun q => by rw [hret] at q; cases q) hlk hc hs q fun _ X _ hr => retOut X hx hret rfl (Or.inr (Or.inr (Or.inl ⟨rfl, rfl, _, rfl⟩))) hd hr
theorem own_retA (A : own_At p l e R s m args below meth c n0 T h cells slots) (hx : p.tables.exec = Jvm.exec) {t : FieldType} (hret : meth.sig.returnType = some t) (ht : t.isReference = true) (hlk : meth.locks = false) (hc : cells ≤ kc) (hs : slots ≤ ks) {pc : Nat} {Ls : Array Slot} {w : Value} (hw : w.isRef = true) {rest : List Value} (hd : decode c.code pc = .ok (.areturn, 1)) (q : Q (some w) h) :
    own_Go p.tables e below (own_End n0 s kc ks Q) (T.setTop (mkF m pc Ls (w :: rest))) :=
  own_leave A (fun q => by rw [hret] at q; cases q) hlk hc hs q fun _ X _ hr => retOut X hx hret (by cases t <;> first | rfl | cases ht) (Or.inr (Or.inr (Or.inr (Or.inr ⟨rfl, ht, hw⟩)))) hd hr
theorem own_retV (A : own_At p l e R s m args below meth c n0 T h cells slots) (hx : p.tables.exec = Jvm.exec) (hret : meth.sig.returnType = none) (hlk : meth.locks = false) (hc : cells ≤ kc) (hs : slots ≤ ks) {pc : Nat} {Ls : Array Slot} (hd : decode c.code pc = .ok (.return_, 1)) (q : Q none h) :
    own_Go p.tables e below (own_End n0 s kc ks Q) (T.setTop (mkF m pc Ls [])) :=
  own_leave A (fun _ => rfl) hlk hc hs q fun _ X _ hr => X.returnOut hx hret hd hr
/-- a body's contract: called with as' at the heap h0 it returns, and Q holds of what it returns and of the heap -/
def own_Met (l : Launch) (Z : State) (n0 : Nat) (y : MethodName) (bytes : ByteArray) (maxL : Nat) (ret : Option FieldType) (rm : Room) (as' : Array Value) (h0 : Heap) (Q : Option Value → Heap → Prop) : Prop :=
  ∀ ws, MetFree l y (head1 (Cond.code y bytes maxL ret :: ws) rm) (fun a U => a = as' ∧ Z.Warmed39 U.vm ∧ U.heap = h0) (fun _ _ _ _ _ => True) (fun _ U o U' => ∃ v L, o = .returned v ∧ (Q v U'.heap ∧ Fr n0 L) ∧ FrameEnd U o U' L rm.cells rm.slots)
theorem own_met {y : MethodName} {bytes : ByteArray} {maxL : Nat} {ret : Option FieldType} {rm : Room} {as' : Array Value} {h0 : Heap} (hp : plainFor y = true)
    (body : ∀ (p : Program) (e : Env) (s : State) (m : MethodId) (below : List Frame) (meth : Method) (c : Code) (T : State), p.tables.exec = Jvm.exec → c.code = bytes → c.maxLocals = maxL → s.vm.findClass y.cls = some m.cls → meth.name = y.name → meth.sig.returnType = ret → meth.locks = false → Z.Warmed39 s.vm →
      own_At p l e rm s m as' below meth c n0 T h0 0 0 → own_Go p.tables e below (own_End n0 s rm.cells rm.slots Q) (T.setTop (entryFrame m as' maxL))) : own_Met l Z n0 y bytes maxL ret rm as' h0 Q := by
  intro ws
  refine MetFree.of_bodySF hp hisR ?_
  intro p e s m args below meth c s₁ Bd hml0 hP hK
  obtain ⟨rfl, hZ, hh⟩ := hP
  exact body p e s m below meth c s₁ Bd.exec Bd.bytes hml0 (findClass_of_methodNamed Bd.named) (name_of_methodNamed Bd.named Bd.method).1 Bd.returns Bd.notSynchronized hZ ⟨[], Stand.of_body Bd, by rw [← hh, Bd.state]; rfl, Fr.nil n0⟩
theorem own_callS (A : own_At p l e R s m args below meth c n0 T h cells slots) (hx : p.tables.exec = Jvm.exec) (hZ : Z.Warmed39 s.vm) {own : String} {index : Nat} {y : MethodName} {bytes : ByteArray} {maxL : Nat} {ret : Option FieldType} (hown : s.vm.findClass own = some m.cls)
    (w1 : (Cond.methodLink own index y).before a0 Z = true) (w2 : (Cond.static y).before a0 Z = true) (w3 : (Cond.initialized y.cls).before a0 Z = true) (w4 : (Cond.code y bytes maxL ret).before a0 Z = true) (hy : y.cls ≠ "java/lang/invoke/MethodHandle" ∧ y.cls ≠ "java/lang/invoke/VarHandle")
    {rm : Room} {argsL rest : List Value} (hM : own_Met l Z n0 y bytes maxL ret rm argsL.toArray h Q) (W : Nat) (hfr : rm.frames + 1 ≤ R.frames) (hlo : W + (maxL + 11) + rm.locals ≤ R.locals) {g : JFrame} (hg : g.method = m) (hsize : g.locals.size = c.maxLocals)
    (hlen : ∀ sig, parseMethodDescriptor y.desc = some sig → argsL.length = sig.parameters.length) (hs : g.stack = argsL.reverse ++ rest) (hW : 2 * g.monitorRoom + (rest.map fun v => v.category).sum ≤ W) (hd : decode c.code g.pc = .ok (.invokestatic index, 3))
    (hc : cells + rm.cells ≤ R.cells) (hl : slots + rm.slots ≤ R.slots)
    (k : ∀ v T' h', own_At p l e R s m args below meth c n0 T' h' (cells + rm.cells) (slots + rm.slots) → Q v h' → own_Go p.tables e below G (T'.setTop { g with pc := g.pc + 3, stack := v.toList ++ rest })) : own_Go p.tables e below G (T.setTop g) := by
  obtain ⟨locs, X, eT, N⟩ := A
  obtain ⟨v, _, ⟨T1, L1, k1, s1⟩, -, X1, ⟨Lc, ⟨hQ, N1⟩, l1, y1, z1⟩, st⟩ := Jvm.LawKit.callS X hx (y := y) hown (mvT hZ w1) (mvT hZ w2) (mvT hZ w3) (mvT hZ w4) hy (backOf (Q := fun v h L => Q v h ∧ Fr n0 L) (W := W) (hM []) hZ w4 w3 hfr hlo) hg hsize (argsL := argsL) (rest := rest) hlen hs hW hd (fun _ _ => ⟨rfl, eT, hc, hl⟩)
  dsimp only [Pt.U, Pt.locs, Pt.cells, Pt.slots] at X1 l1 y1 z1 st hQ
  subst l1 y1 z1
  exact own_go (fun t k => st t k) (k v T1 T1.heap ⟨_, X1, rfl, N.app N1⟩ hQ)
theorem own_callV (A : own_At p l e R s m args below meth c n0 T h cells slots) (hx : p.tables.exec = Jvm.exec) (hZ : Z.Warmed39 s.vm) {own C : String} {index : Nat} {y z : MethodName} {bytes : ByteArray} {maxL : Nat} {ret : Option FieldType} (hown : s.vm.findClass own = some m.cls)
    (w1 : (Cond.methodLink own index y).before a0 Z = true) (w2 : (Cond.declares y).before a0 Z = true) (w3 : (Cond.selects C y z).before a0 Z = true) (w4 : (Cond.instanceMethod z).before a0 Z = true) (w5 : (Cond.initialized z.cls).before a0 Z = true) (w6 : (Cond.code z bytes maxL ret).before a0 Z = true) (nf : NotFace s y)
    (hy : y.cls ≠ "java/lang/invoke/MethodHandle" ∧ y.cls ≠ "java/lang/invoke/VarHandle")
    {rm : Room} {b : Addr} {argsL rest : List Value} (E : Exa Z h b C) (hM : own_Met l Z n0 z bytes maxL ret rm (.ref b :: argsL).toArray h Q) (W : Nat) (hfr : rm.frames + 1 ≤ R.frames) (hlo : W + (maxL + 11) + rm.locals ≤ R.locals) {g : JFrame} (hg : g.method = m) (hsize : g.locals.size = c.maxLocals)
    (hlen : ∀ sig, parseMethodDescriptor y.desc = some sig → argsL.length = sig.parameters.length) (hs : g.stack = argsL.reverse ++ .ref b :: rest) (hW : 2 * g.monitorRoom + (rest.map fun v => v.category).sum ≤ W) (hd : decode c.code g.pc = .ok (.invokevirtual index, 3))
    (hc : cells + rm.cells ≤ R.cells) (hl : slots + rm.slots ≤ R.slots)
    (k : ∀ v T' h', own_At p l e R s m args below meth c n0 T' h' (cells + rm.cells) (slots + rm.slots) → Q v h' → own_Go p.tables e below G (T'.setTop { g with pc := g.pc + 3, stack := v.toList ++ rest })) : own_Go p.tables e below G (T.setTop g) := by
  obtain ⟨locs, X, eT, N⟩ := A
  obtain ⟨cq, kq, qa, qb, qc⟩ := isOf hZ eT E
  obtain ⟨v, _, ⟨T1, L1, k1, s1⟩, -, X1, ⟨Lc, ⟨hQ, N1⟩, l1, y1, z1⟩, st⟩ := X.virtualBack hx (y := y) (z := z) hown (mvT hZ w1) (mvT hZ w2) nf (mvT hZ w3) (mvT hZ w4) hy (backOf (Q := fun v h L => Q v h ∧ Fr n0 L) (W := W) (hM []) hZ w6 w5 hfr hlo) qa qc hg hsize (Steps.refl _) (argsL := argsL) (rest := rest) hlen hs hW hd (fun _ _ => ⟨rfl, eT, hc, hl⟩)
  dsimp only [Pt.U, Pt.locs, Pt.cells, Pt.slots] at X1 l1 y1 z1 st hQ
  subst l1 y1 z1
  exact own_go (fun t k => st.trans k) (k v T1 T1.heap ⟨_, X1, rfl, N.app N1⟩ hQ)
theorem own_callI (A : own_At p l e R s m args below meth c n0 T h cells slots) (hx : p.tables.exec = Jvm.exec) (hZ : Z.Warmed39 s.vm) {own : String} {index : Nat} {y : MethodName} (hy1 : y.name = "<init>") {bytes : ByteArray} {maxL : Nat} (hown : s.vm.findClass own = some m.cls)
    (w1 : (Cond.methodLink own index y).before a0 Z = true) (w4 : (Cond.instanceMethod y).before a0 Z = true) (w5 : (Cond.initialized y.cls).before a0 Z = true) (w6 : (Cond.code y bytes maxL none).before a0 Z = true)
    (hy : y.cls ≠ "java/lang/invoke/MethodHandle" ∧ y.cls ≠ "java/lang/invoke/VarHandle")
    {rm : Room} {b : Addr} {argsL rest : List Value} (hM : own_Met l Z n0 y bytes maxL none rm (.ref b :: argsL).toArray h Q) (W : Nat) (hfr : rm.frames + 1 ≤ R.frames) (hlo : W + (maxL + 11) + rm.locals ≤ R.locals) {g : JFrame} (hg : g.method = m) (hsize : g.locals.size = c.maxLocals)
    (hlen : ∀ sig, parseMethodDescriptor y.desc = some sig → argsL.length = sig.parameters.length) (hs : g.stack = argsL.reverse ++ .ref b :: rest) (hW : 2 * g.monitorRoom + (rest.map fun v => v.category).sum ≤ W) (hd : decode c.code g.pc = .ok (.invokespecial index, 3))
    (hc : cells + rm.cells ≤ R.cells) (hl : slots + rm.slots ≤ R.slots)
    (k : ∀ v T' h', own_At p l e R s m args below meth c n0 T' h' (cells + rm.cells) (slots + rm.slots) → Q v h' → own_Go p.tables e below G (T'.setTop { g with pc := g.pc + 3, stack := v.toList ++ rest })) : own_Go p.tables e below G (T.setTop g) := by
  obtain ⟨locs, X, eT, N⟩ := A
  obtain ⟨v, _, ⟨T1, L1, k1, s1⟩, -, X1, ⟨Lc, ⟨hQ, N1⟩, l1, y1, z1⟩, st⟩ := X.specialBack hx (y := y) hy1 hown (mvT hZ w1) (mvT hZ w4) (mvT hZ w6) hy (backOf (Q := fun v h L => Q v h ∧ Fr n0 L) (W := W) (hM []) hZ w6 w5 hfr hlo) hg hsize (Steps.refl _) (a := b) (argsL := argsL) (rest := rest) hlen hs hW hd (fun _ _ => ⟨rfl, eT, hc, hl⟩)
  dsimp only [Pt.U, Pt.locs, Pt.cells, Pt.slots] at X1 l1 y1 z1 st hQ
  subst l1 y1 z1
  exact own_go (fun t k => st.trans k) (k v T1 T1.heap ⟨_, X1, rfl, N.app N1⟩ hQ)
theorem own_initO (A : own_At p l e R s m args below meth c n0 T h cells slots) (hx : p.tables.exec = Jvm.exec) (hZ : Z.Warmed39 s.vm) {own : String} {idx : Nat} (hown : s.vm.findClass own = some m.cls) (w1 : (Cond.methodLink own idx Lib.objectInit).before a0 Z = true) (w2 : (Cond.instanceMethod Lib.objectInit).before a0 Z = true)
    (w3 : (Cond.code Lib.objectInit ⟨#[0xb1]⟩ 1 none).before a0 Z = true) {g : JFrame} (hg : g.method = m) (hsize : g.locals.size = c.maxLocals) {a : Addr} {rest : List Value} (hs : g.stack = .ref a :: rest) (hd : decode c.code g.pc = .ok (.invokespecial idx, 3))
    (hf : 1 ≤ R.frames) (W : Nat) (hW : 2 * g.monitorRoom + (rest.map fun v => v.category).sum ≤ W) (hl : W + 12 ≤ R.locals)
    (k : ∀ T', own_At p l e R s m args below meth c n0 T' h cells slots → own_Go p.tables e below G (T'.setTop { g with pc := g.pc + 3, stack := rest })) : own_Go p.tables e below G (T.setTop g) := by
  obtain ⟨locs, X, eT, N⟩ := A
  obtain ⟨T1, X1, e1, st⟩ := initO X hx hZ hown w1 w2 w3 eT hg hsize hs hd hf hW hl
  exact own_go st (k T1 ⟨_, X1, e1, N⟩)
theorem own_getF (A : own_At p l e R s m args below meth c n0 T h cells slots) (hx : p.tables.exec = Jvm.exec) (hZ : Z.Warmed39 s.vm) {own R0 O n d host : String} {index : Nat} (hown : s.vm.findClass own = some m.cls) (w : (Cond.fieldLink own index R0 n d).before a0 Z = true ∨ (Cond.fieldLinkNest own index R0 n d host).before a0 Z = true) (via : Via Z R0 O n d)
    {a : Addr} {v : Value} (F : Fld Z h a O n d v) {g : JFrame} (hg : g.method = m) {rest : List Value} (hs : g.stack = .ref a :: rest) (hd : decode c.code g.pc = .ok (.getfield index, 3))
    (k : ∀ T', own_At p l e R s m args below meth c n0 T' h cells slots → own_Go p.tables e below G (T'.setTop { g with pc := g.pc + 3, stack := v :: rest })) : own_Go p.tables e below G (T.setTop g) := by
  obtain ⟨locs, X, eT, N⟩ := A
  obtain ⟨T1, X1, e1, st⟩ := getF X hx hZ hown w via eT F hg hs hd
  exact own_go st (k T1 ⟨_, X1, e1, N⟩)
theorem own_getS (A : own_At p l e R s m args below meth c n0 T h cells slots) (hx : p.tables.exec = Jvm.exec) (hZ : Z.Warmed39 s.vm) {own R0 O n d host : String} {index : Nat} (hown : s.vm.findClass own = some m.cls) (w : (Cond.fieldLink own index R0 n d).before a0 Z = true ∨ (Cond.fieldLinkNest own index R0 n d host).before a0 Z = true) (via : Via Z R0 O n d)
    {v : Value} (F : Sta Z h O n d v) {g : JFrame} (hg : g.method = m) (hd : decode c.code g.pc = .ok (.getstatic index, 3))
    (k : ∀ T', own_At p l e R s m args below meth c n0 T' h cells slots → own_Go p.tables e below G (T'.setTop { g with pc := g.pc + 3, stack := v :: g.stack })) : own_Go p.tables e below G (T.setTop g) := by
  obtain ⟨locs, X, eT, N⟩ := A
  obtain ⟨T1, X1, e1, st⟩ := getS2 X hx hZ hown w via eT F hg hd
  exact own_go st (k T1 ⟨_, X1, e1, N⟩)
theorem own_ldcI (A : own_At p l e R s m args below meth c n0 T h cells slots) (hx : p.tables.exec = Jvm.exec) (hZ : Z.Warmed39 s.vm) {own : String} {index : Nat} {v : Int32} (hown : s.vm.findClass own = some m.cls) (w : (Cond.constant own index v).before a0 Z = true) {g : JFrame} (hg : g.method = m) (hd : decode c.code g.pc = .ok (.ldc index, 2))
    (k : own_Go p.tables e below G (T.setTop { g with pc := g.pc + 2, stack := .int v :: g.stack })) : own_Go p.tables e below G (T.setTop g) := by
  obtain ⟨locs, X, eT, N⟩ := A
  exact own_go (X.ldcInt hx hown (mvT hZ w) hg hd) k
theorem own_ldcwI (A : own_At p l e R s m args below meth c n0 T h cells slots) (hx : p.tables.exec = Jvm.exec) (hZ : Z.Warmed39 s.vm) {own : String} {index : Nat} {v : Int32} (hown : s.vm.findClass own = some m.cls) (w : (Cond.constant own index v).before a0 Z = true) {g : JFrame} (hg : g.method = m) (hd : decode c.code g.pc = .ok (.ldc_w index, 3))
    (k : own_Go p.tables e below G (T.setTop { g with pc := g.pc + 3, stack := .int v :: g.stack })) : own_Go p.tables e below G (T.setTop g) := by
  obtain ⟨locs, X, eT, N⟩ := A
  exact own_go (X.ldcwInt hx hown (mvT hZ w) hg hd) k
theorem own_ldcJ (A : own_At p l e R s m args below meth c n0 T h cells slots) (hx : p.tables.exec = Jvm.exec) (hZ : Z.Warmed39 s.vm) {own : String} {index : Nat} {v : Int64} (hown : s.vm.findClass own = some m.cls) (w : (Cond.constantLong own index v).before a0 Z = true) {g : JFrame} (hg : g.method = m) (hd : decode c.code g.pc = .ok (.ldc2_w index, 3))
    (k : own_Go p.tables e below G (T.setTop { g with pc := g.pc + 3, stack := .long v :: g.stack })) : own_Go p.tables e below G (T.setTop g) := by
  obtain ⟨locs, X, eT, N⟩ := A
  exact own_go (X.ldc2Long hx hown (mvT hZ w) hg hd) k
/-- irem, with Java's sign -/
theorem own_irem {tb : Tables} [Ours tb] {target : State} {g : JFrame} (hh : At T m c below) (hx : tb.exec = Jvm.exec) (hg : g.method = m) {x y : Int32} {rest : List Value} (hd : decode c.code g.pc = .ok (.irem, 1)) (hs : g.stack = .int y :: .int x :: rest) (hy : y ≠ 0)
    (hr : Steps tb e below (T.setTop { g with pc := g.pc + 1, stack := .int (x % y) :: rest }) target) : Steps tb e below (T.setTop g) target :=
  XS.irem hh hx hg hd hs hy (by rw [irem_eq_mod]; exact hr)
theorem own_lrem {tb : Tables} [Ours tb] {target : State} {g : JFrame} (hh : At T m c below) (hx : tb.exec = Jvm.exec) (hg : g.method = m) {x y : Int64} {rest : List Value} (hd : decode c.code g.pc = .ok (.lrem, 1)) (hs : g.stack = .long y :: .long x :: rest) (hy : y ≠ 0)
    (hr : Steps tb e below (T.setTop { g with pc := g.pc + 1, stack := .long (x % y) :: rest }) target) : Steps tb e below (T.setTop g) target :=
  XS.lrem hh hx hg hd hs hy (by rw [lrem_mod]; exact hr)
theorem own_aeq {a b : Addr} (h : a = b) : if_acmp.holds .eq (some a) (some b) = true ∧ if_acmp.holds .ne (some a) (some b) = false := by simp [if_acmp.holds, h]
theorem own_ane {a b : Addr} (h : ¬ a = b) : if_acmp.holds .eq (some a) (some b) = false ∧ if_acmp.holds .ne (some a) (some b) = true := by simp [if_acmp.holds, h]
end OwnKit
theorem ef_2 (m : MethodId) (p0 : Int32) : entryFrame m #[(.int p0)] 1 = mkF m 0 #[.val (.int p0)] [] := by first | (simp [entryFrame, mkF, argsToLocals, Value.category]; done) | rfl
theorem pn_2 : plainName "com/example/vestledger/vestledger/DigitsCountPinLaw" = true := by first | (simp [plainName, overriddenIn]; done) | decide +kernel
theorem d2_0 : decode method_3_code 0 = .ok (.iload_n 0, 1) := by decide +kernel
theorem d2_1 : decode method_3_code 1 = .ok (.bipush 10, 2) := by decide +kernel
theorem d2_3 : decode method_3_code 3 = .ok (.if_icmp .ge 5, 3) := by decide +kernel
theorem d2_6 : decode method_3_code 6 = .ok (.iconst 1, 1) := by decide +kernel
theorem d2_7 : decode method_3_code 7 = .ok (.ireturn, 1) := by decide +kernel
theorem d2_8 : decode method_3_code 8 = .ok (.iload_n 0, 1) := by decide +kernel
theorem d2_9 : decode method_3_code 9 = .ok (.bipush 100, 2) := by decide +kernel
theorem d2_11 : decode method_3_code 11 = .ok (.if_icmp .ge 5, 3) := by decide +kernel
theorem d2_14 : decode method_3_code 14 = .ok (.iconst 2, 1) := by decide +kernel
theorem d2_15 : decode method_3_code 15 = .ok (.ireturn, 1) := by decide +kernel
theorem d2_16 : decode method_3_code 16 = .ok (.iload_n 0, 1) := by decide +kernel
theorem d2_17 : decode method_3_code 17 = .ok (.sipush 1000, 3) := by decide +kernel
theorem d2_20 : decode method_3_code 20 = .ok (.if_icmp .ge 5, 3) := by decide +kernel
theorem d2_23 : decode method_3_code 23 = .ok (.iconst 3, 1) := by decide +kernel
theorem d2_24 : decode method_3_code 24 = .ok (.ireturn, 1) := by decide +kernel
theorem d2_25 : decode method_3_code 25 = .ok (.iload_n 0, 1) := by decide +kernel
theorem d2_26 : decode method_3_code 26 = .ok (.sipush 10000, 3) := by decide +kernel
theorem d2_29 : decode method_3_code 29 = .ok (.if_icmp .ge 5, 3) := by decide +kernel
theorem d2_32 : decode method_3_code 32 = .ok (.iconst 4, 1) := by decide +kernel
theorem d2_33 : decode method_3_code 33 = .ok (.ireturn, 1) := by decide +kernel
theorem d2_34 : decode method_3_code 34 = .ok (.iload_n 0, 1) := by decide +kernel
theorem d2_35 : decode method_3_code 35 = .ok (.ldc 19, 2) := by decide +kernel
theorem d2_37 : decode method_3_code 37 = .ok (.if_icmp .ge 5, 3) := by decide +kernel
theorem d2_40 : decode method_3_code 40 = .ok (.iconst 5, 1) := by decide +kernel
theorem d2_41 : decode method_3_code 41 = .ok (.ireturn, 1) := by decide +kernel
theorem d2_42 : decode method_3_code 42 = .ok (.iload_n 0, 1) := by decide +kernel
theorem d2_43 : decode method_3_code 43 = .ok (.ldc 20, 2) := by decide +kernel
theorem d2_45 : decode method_3_code 45 = .ok (.if_icmp .ge 6, 3) := by decide +kernel
theorem d2_48 : decode method_3_code 48 = .ok (.bipush 6, 2) := by decide +kernel
theorem d2_50 : decode method_3_code 50 = .ok (.ireturn, 1) := by decide +kernel
theorem d2_51 : decode method_3_code 51 = .ok (.iload_n 0, 1) := by decide +kernel
theorem d2_52 : decode method_3_code 52 = .ok (.ldc 21, 2) := by decide +kernel
theorem d2_54 : decode method_3_code 54 = .ok (.if_icmp .ge 6, 3) := by decide +kernel
theorem d2_57 : decode method_3_code 57 = .ok (.bipush 7, 2) := by decide +kernel
theorem d2_59 : decode method_3_code 59 = .ok (.ireturn, 1) := by decide +kernel
theorem d2_60 : decode method_3_code 60 = .ok (.iload_n 0, 1) := by decide +kernel
theorem d2_61 : decode method_3_code 61 = .ok (.ldc 22, 2) := by decide +kernel
theorem d2_63 : decode method_3_code 63 = .ok (.if_icmp .ge 6, 3) := by decide +kernel
theorem d2_66 : decode method_3_code 66 = .ok (.bipush 8, 2) := by decide +kernel
theorem d2_68 : decode method_3_code 68 = .ok (.ireturn, 1) := by decide +kernel
theorem d2_69 : decode method_3_code 69 = .ok (.iload_n 0, 1) := by decide +kernel
theorem d2_70 : decode method_3_code 70 = .ok (.ldc 23, 2) := by decide +kernel
theorem d2_72 : decode method_3_code 72 = .ok (.if_icmp .ge 6, 3) := by decide +kernel
theorem d2_75 : decode method_3_code 75 = .ok (.bipush 9, 2) := by decide +kernel
theorem d2_77 : decode method_3_code 77 = .ok (.ireturn, 1) := by decide +kernel
theorem d2_78 : decode method_3_code 78 = .ok (.bipush 10, 2) := by decide +kernel
theorem d2_80 : decode method_3_code 80 = .ok (.ireturn, 1) := by decide +kernel
def f2 (p0 : Int32) : Int32 := (if p0 < (10 : Int32) then (1 : Int32) else (if p0 < (100 : Int32) then (2 : Int32) else (if p0 < (1000 : Int32) then (3 : Int32) else (if p0 < (10000 : Int32) then (4 : Int32) else (if p0 < (100000 : Int32) then (5 : Int32) else (if p0 < (1000000 : Int32) then (6 : Int32) else (if p0 < (10000000 : Int32) then (7 : Int32) else (if p0 < (100000000 : Int32) then (8 : Int32) else (if p0 < (1000000000 : Int32) then (9 : Int32) else (10 : Int32))))))))))
set_option maxRecDepth 65536 in
set_option maxHeartbeats 40000000 in
theorem rm2 (l : Launch) (Z : State) (a0 : Array Value) (hw : ∀ d ∈ tables_1, d.before a0 Z = true) (p0 : Int32) (h0 : Heap) (n0 : Nat) :
    own_Met l Z n0 (⟨"com/example/vestledger/vestledger/DigitsCountPinLaw", "expected", "(I)I"⟩ : MethodName) method_3_code 1 (some .int) ({ frames := 0, cells := 0, slots := 0, locals := 0 } : Room) #[(.int p0)] h0 (fun v h => v = some (.int (f2 p0)) ∧ h0 = h) := by
  refine own_met (plainFor_of_name pn_2) ?_
  intro p e s m below meth c T0 hx hby hml hown hnm hret hlk hZ A0
  rw [ef_2]
  show own_Go _ _ _ _ (T0.setTop (mkF m 0 #[.val (.int p0)] []))
  refine own_go (fun t k => XS.iloadN A0.here hx rfl (hb hby d2_0) rfl k) ?_
  show own_Go _ _ _ _ (T0.setTop (mkF m 1 #[.val (.int p0)] [(.int p0)]))
  refine own_go (fun t k => XS.bipush A0.here hx rfl (hb hby d2_1) k) ?_
  show own_Go _ _ _ _ (T0.setTop (mkF m 3 #[.val (.int p0)] [(.int (10 : Int32)), (.int p0)]))
  by_cases hc1 : p0 < (10 : Int32)
  ·
    refine own_go (fun t k => XS.icmpNo A0.here hx rfl (hb hby d2_3) rfl (tlt hc1).2.1 k) ?_
    show own_Go _ _ _ _ (T0.setTop (mkF m 6 #[.val (.int p0)] []))
    refine own_go (fun t k => XS.iconst A0.here hx rfl (hb hby d2_6) k) ?_
    show own_Go _ _ _ _ (T0.setTop (mkF m 7 #[.val (.int p0)] [(.int (1 : Int32))]))
    refine own_retI A0 hx hret hlk (by decide) (by decide) (hb hby d2_7) ?_
    exact ⟨congrArg (fun z => some (Value.int z)) (by simp only [f2, if_pos hc1]), rfl⟩
  ·
    refine own_go (fun t k => XS.icmpYes A0.here hx rfl (pc0 := 3) (pc' := 8) rfl (hb hby d2_3) rfl (flt hc1).2.1 (by decide) (by decide) k) ?_
    show own_Go _ _ _ _ (T0.setTop (mkF m 8 #[.val (.int p0)] []))
    refine own_go (fun t k => XS.iloadN A0.here hx rfl (hb hby d2_8) rfl k) ?_
    show own_Go _ _ _ _ (T0.setTop (mkF m 9 #[.val (.int p0)] [(.int p0)]))
    refine own_go (fun t k => XS.bipush A0.here hx rfl (hb hby d2_9) k) ?_
    show own_Go _ _ _ _ (T0.setTop (mkF m 11 #[.val (.int p0)] [(.int (100 : Int32)), (.int p0)]))
    by_cases hc2 : p0 < (100 : Int32)
    ·
      refine own_go (fun t k => XS.icmpNo A0.here hx rfl (hb hby d2_11) rfl (tlt hc2).2.1 k) ?_
      show own_Go _ _ _ _ (T0.setTop (mkF m 14 #[.val (.int p0)] []))
      refine own_go (fun t k => XS.iconst A0.here hx rfl (hb hby d2_14) k) ?_
      show own_Go _ _ _ _ (T0.setTop (mkF m 15 #[.val (.int p0)] [(.int (2 : Int32))]))
      refine own_retI A0 hx hret hlk (by decide) (by decide) (hb hby d2_15) ?_
      exact ⟨congrArg (fun z => some (Value.int z)) (by simp only [f2, if_neg hc1, if_pos hc2]), rfl⟩
    ·
      refine own_go (fun t k => XS.icmpYes A0.here hx rfl (pc0 := 11) (pc' := 16) rfl (hb hby d2_11) rfl (flt hc2).2.1 (by decide) (by decide) k) ?_
      show own_Go _ _ _ _ (T0.setTop (mkF m 16 #[.val (.int p0)] []))
      refine own_go (fun t k => XS.iloadN A0.here hx rfl (hb hby d2_16) rfl k) ?_
      show own_Go _ _ _ _ (T0.setTop (mkF m 17 #[.val (.int p0)] [(.int p0)]))
      refine own_go (fun t k => XS.sipush A0.here hx rfl (hb hby d2_17) k) ?_
      show own_Go _ _ _ _ (T0.setTop (mkF m 20 #[.val (.int p0)] [(.int (1000 : Int32)), (.int p0)]))
      by_cases hc3 : p0 < (1000 : Int32)
      ·
        refine own_go (fun t k => XS.icmpNo A0.here hx rfl (hb hby d2_20) rfl (tlt hc3).2.1 k) ?_
        show own_Go _ _ _ _ (T0.setTop (mkF m 23 #[.val (.int p0)] []))
        refine own_go (fun t k => XS.iconst A0.here hx rfl (hb hby d2_23) k) ?_
        show own_Go _ _ _ _ (T0.setTop (mkF m 24 #[.val (.int p0)] [(.int (3 : Int32))]))
        refine own_retI A0 hx hret hlk (by decide) (by decide) (hb hby d2_24) ?_
        exact ⟨congrArg (fun z => some (Value.int z)) (by simp only [f2, if_neg hc1, if_neg hc2, if_pos hc3]), rfl⟩
      ·
        refine own_go (fun t k => XS.icmpYes A0.here hx rfl (pc0 := 20) (pc' := 25) rfl (hb hby d2_20) rfl (flt hc3).2.1 (by decide) (by decide) k) ?_
        show own_Go _ _ _ _ (T0.setTop (mkF m 25 #[.val (.int p0)] []))
        refine own_go (fun t k => XS.iloadN A0.here hx rfl (hb hby d2_25) rfl k) ?_
        show own_Go _ _ _ _ (T0.setTop (mkF m 26 #[.val (.int p0)] [(.int p0)]))
        refine own_go (fun t k => XS.sipush A0.here hx rfl (hb hby d2_26) k) ?_
        show own_Go _ _ _ _ (T0.setTop (mkF m 29 #[.val (.int p0)] [(.int (10000 : Int32)), (.int p0)]))
        by_cases hc4 : p0 < (10000 : Int32)
        ·
          refine own_go (fun t k => XS.icmpNo A0.here hx rfl (hb hby d2_29) rfl (tlt hc4).2.1 k) ?_
          show own_Go _ _ _ _ (T0.setTop (mkF m 32 #[.val (.int p0)] []))
          refine own_go (fun t k => XS.iconst A0.here hx rfl (hb hby d2_32) k) ?_
          show own_Go _ _ _ _ (T0.setTop (mkF m 33 #[.val (.int p0)] [(.int (4 : Int32))]))
          refine own_retI A0 hx hret hlk (by decide) (by decide) (hb hby d2_33) ?_
          exact ⟨congrArg (fun z => some (Value.int z)) (by simp only [f2, if_neg hc1, if_neg hc2, if_neg hc3, if_pos hc4]), rfl⟩
        ·
          refine own_go (fun t k => XS.icmpYes A0.here hx rfl (pc0 := 29) (pc' := 34) rfl (hb hby d2_29) rfl (flt hc4).2.1 (by decide) (by decide) k) ?_
          show own_Go _ _ _ _ (T0.setTop (mkF m 34 #[.val (.int p0)] []))
          refine own_go (fun t k => XS.iloadN A0.here hx rfl (hb hby d2_34) rfl k) ?_
          show own_Go _ _ _ _ (T0.setTop (mkF m 35 #[.val (.int p0)] [(.int p0)]))
          refine own_ldcI A0 hx hZ hown (hw _ (List.mem_of_getElem? (i := 9) rfl)) rfl (hb hby d2_35) ?_
          show own_Go _ _ _ _ (T0.setTop (mkF m 37 #[.val (.int p0)] [(.int (100000 : Int32)), (.int p0)]))
          by_cases hc5 : p0 < (100000 : Int32)
          ·
            refine own_go (fun t k => XS.icmpNo A0.here hx rfl (hb hby d2_37) rfl (tlt hc5).2.1 k) ?_
            show own_Go _ _ _ _ (T0.setTop (mkF m 40 #[.val (.int p0)] []))
            refine own_go (fun t k => XS.iconst A0.here hx rfl (hb hby d2_40) k) ?_
            show own_Go _ _ _ _ (T0.setTop (mkF m 41 #[.val (.int p0)] [(.int (5 : Int32))]))
            refine own_retI A0 hx hret hlk (by decide) (by decide) (hb hby d2_41) ?_
            exact ⟨congrArg (fun z => some (Value.int z)) (by simp only [f2, if_neg hc1, if_neg hc2, if_neg hc3, if_neg hc4, if_pos hc5]), rfl⟩
          ·
            refine own_go (fun t k => XS.icmpYes A0.here hx rfl (pc0 := 37) (pc' := 42) rfl (hb hby d2_37) rfl (flt hc5).2.1 (by decide) (by decide) k) ?_
            show own_Go _ _ _ _ (T0.setTop (mkF m 42 #[.val (.int p0)] []))
            refine own_go (fun t k => XS.iloadN A0.here hx rfl (hb hby d2_42) rfl k) ?_
            show own_Go _ _ _ _ (T0.setTop (mkF m 43 #[.val (.int p0)] [(.int p0)]))
            refine own_ldcI A0 hx hZ hown (hw _ (List.mem_of_getElem? (i := 10) rfl)) rfl (hb hby d2_43) ?_
            show own_Go _ _ _ _ (T0.setTop (mkF m 45 #[.val (.int p0)] [(.int (1000000 : Int32)), (.int p0)]))
            by_cases hc6 : p0 < (1000000 : Int32)
            ·
              refine own_go (fun t k => XS.icmpNo A0.here hx rfl (hb hby d2_45) rfl (tlt hc6).2.1 k) ?_
              show own_Go _ _ _ _ (T0.setTop (mkF m 48 #[.val (.int p0)] []))
              refine own_go (fun t k => XS.bipush A0.here hx rfl (hb hby d2_48) k) ?_
              show own_Go _ _ _ _ (T0.setTop (mkF m 50 #[.val (.int p0)] [(.int (6 : Int32))]))
              refine own_retI A0 hx hret hlk (by decide) (by decide) (hb hby d2_50) ?_
              exact ⟨congrArg (fun z => some (Value.int z)) (by simp only [f2, if_neg hc1, if_neg hc2, if_neg hc3, if_neg hc4, if_neg hc5, if_pos hc6]), rfl⟩
            ·
              refine own_go (fun t k => XS.icmpYes A0.here hx rfl (pc0 := 45) (pc' := 51) rfl (hb hby d2_45) rfl (flt hc6).2.1 (by decide) (by decide) k) ?_
              show own_Go _ _ _ _ (T0.setTop (mkF m 51 #[.val (.int p0)] []))
              refine own_go (fun t k => XS.iloadN A0.here hx rfl (hb hby d2_51) rfl k) ?_
              show own_Go _ _ _ _ (T0.setTop (mkF m 52 #[.val (.int p0)] [(.int p0)]))
              refine own_ldcI A0 hx hZ hown (hw _ (List.mem_of_getElem? (i := 11) rfl)) rfl (hb hby d2_52) ?_
              show own_Go _ _ _ _ (T0.setTop (mkF m 54 #[.val (.int p0)] [(.int (10000000 : Int32)), (.int p0)]))
              by_cases hc7 : p0 < (10000000 : Int32)
              ·
                refine own_go (fun t k => XS.icmpNo A0.here hx rfl (hb hby d2_54) rfl (tlt hc7).2.1 k) ?_
                show own_Go _ _ _ _ (T0.setTop (mkF m 57 #[.val (.int p0)] []))
                refine own_go (fun t k => XS.bipush A0.here hx rfl (hb hby d2_57) k) ?_
                show own_Go _ _ _ _ (T0.setTop (mkF m 59 #[.val (.int p0)] [(.int (7 : Int32))]))
                refine own_retI A0 hx hret hlk (by decide) (by decide) (hb hby d2_59) ?_
                exact ⟨congrArg (fun z => some (Value.int z)) (by simp only [f2, if_neg hc1, if_neg hc2, if_neg hc3, if_neg hc4, if_neg hc5, if_neg hc6, if_pos hc7]), rfl⟩
              ·
                refine own_go (fun t k => XS.icmpYes A0.here hx rfl (pc0 := 54) (pc' := 60) rfl (hb hby d2_54) rfl (flt hc7).2.1 (by decide) (by decide) k) ?_
                show own_Go _ _ _ _ (T0.setTop (mkF m 60 #[.val (.int p0)] []))
                refine own_go (fun t k => XS.iloadN A0.here hx rfl (hb hby d2_60) rfl k) ?_
                show own_Go _ _ _ _ (T0.setTop (mkF m 61 #[.val (.int p0)] [(.int p0)]))
                refine own_ldcI A0 hx hZ hown (hw _ (List.mem_of_getElem? (i := 12) rfl)) rfl (hb hby d2_61) ?_
                show own_Go _ _ _ _ (T0.setTop (mkF m 63 #[.val (.int p0)] [(.int (100000000 : Int32)), (.int p0)]))
                by_cases hc8 : p0 < (100000000 : Int32)
                ·
                  refine own_go (fun t k => XS.icmpNo A0.here hx rfl (hb hby d2_63) rfl (tlt hc8).2.1 k) ?_
                  show own_Go _ _ _ _ (T0.setTop (mkF m 66 #[.val (.int p0)] []))
                  refine own_go (fun t k => XS.bipush A0.here hx rfl (hb hby d2_66) k) ?_
                  show own_Go _ _ _ _ (T0.setTop (mkF m 68 #[.val (.int p0)] [(.int (8 : Int32))]))
                  refine own_retI A0 hx hret hlk (by decide) (by decide) (hb hby d2_68) ?_
                  exact ⟨congrArg (fun z => some (Value.int z)) (by simp only [f2, if_neg hc1, if_neg hc2, if_neg hc3, if_neg hc4, if_neg hc5, if_neg hc6, if_neg hc7, if_pos hc8]), rfl⟩
                ·
                  refine own_go (fun t k => XS.icmpYes A0.here hx rfl (pc0 := 63) (pc' := 69) rfl (hb hby d2_63) rfl (flt hc8).2.1 (by decide) (by decide) k) ?_
                  show own_Go _ _ _ _ (T0.setTop (mkF m 69 #[.val (.int p0)] []))
                  refine own_go (fun t k => XS.iloadN A0.here hx rfl (hb hby d2_69) rfl k) ?_
                  show own_Go _ _ _ _ (T0.setTop (mkF m 70 #[.val (.int p0)] [(.int p0)]))
                  refine own_ldcI A0 hx hZ hown (hw _ (List.mem_of_getElem? (i := 13) rfl)) rfl (hb hby d2_70) ?_
                  show own_Go _ _ _ _ (T0.setTop (mkF m 72 #[.val (.int p0)] [(.int (1000000000 : Int32)), (.int p0)]))
                  by_cases hc9 : p0 < (1000000000 : Int32)
                  ·
                    refine own_go (fun t k => XS.icmpNo A0.here hx rfl (hb hby d2_72) rfl (tlt hc9).2.1 k) ?_
                    show own_Go _ _ _ _ (T0.setTop (mkF m 75 #[.val (.int p0)] []))
                    refine own_go (fun t k => XS.bipush A0.here hx rfl (hb hby d2_75) k) ?_
                    show own_Go _ _ _ _ (T0.setTop (mkF m 77 #[.val (.int p0)] [(.int (9 : Int32))]))
                    refine own_retI A0 hx hret hlk (by decide) (by decide) (hb hby d2_77) ?_
                    exact ⟨congrArg (fun z => some (Value.int z)) (by simp only [f2, if_neg hc1, if_neg hc2, if_neg hc3, if_neg hc4, if_neg hc5, if_neg hc6, if_neg hc7, if_neg hc8, if_pos hc9]), rfl⟩
                  ·
                    refine own_go (fun t k => XS.icmpYes A0.here hx rfl (pc0 := 72) (pc' := 78) rfl (hb hby d2_72) rfl (flt hc9).2.1 (by decide) (by decide) k) ?_
                    show own_Go _ _ _ _ (T0.setTop (mkF m 78 #[.val (.int p0)] []))
                    refine own_go (fun t k => XS.bipush A0.here hx rfl (hb hby d2_78) k) ?_
                    show own_Go _ _ _ _ (T0.setTop (mkF m 80 #[.val (.int p0)] [(.int (10 : Int32))]))
                    refine own_retI A0 hx hret hlk (by decide) (by decide) (hb hby d2_80) ?_
                    exact ⟨congrArg (fun z => some (Value.int z)) (by simp only [f2, if_neg hc1, if_neg hc2, if_neg hc3, if_neg hc4, if_neg hc5, if_neg hc6, if_neg hc7, if_neg hc8, if_neg hc9]), rfl⟩
def own_cnt : Nat → Int32 → Int32 → Int32
  | 0, z, _ => z
  | k + 1, z, r => if (0 : Int32) < r then own_cnt k (z + 1) (r / 10) else z
theorem d1_7 : decode prog_2_method_3_code 7 = .ok (.iload_n 2, 1) := by decide +kernel
theorem d1_8 : decode prog_2_method_3_code 8 = .ok (.ifCond .le 14, 3) := by decide +kernel
theorem d1_22 : decode prog_2_method_3_code 22 = .ok (.iload_n 1, 1) := by decide +kernel
theorem d1_23 : decode prog_2_method_3_code 23 = .ok (.ireturn, 1) := by decide +kernel
theorem d1_11 : decode prog_2_method_3_code 11 = .ok (.iinc 1 1, 3) := by decide +kernel
theorem d1_14 : decode prog_2_method_3_code 14 = .ok (.iload_n 2, 1) := by decide +kernel
theorem d1_15 : decode prog_2_method_3_code 15 = .ok (.bipush 10, 2) := by decide +kernel
theorem d1_17 : decode prog_2_method_3_code 17 = .ok (.idiv, 1) := by decide +kernel
theorem d1_18 : decode prog_2_method_3_code 18 = .ok (.istore_n 2, 1) := by decide +kernel
theorem d1_19 : decode prog_2_method_3_code 19 = .ok (.goto (-12), 3) := by decide +kernel
theorem own_lt10 {k : Nat} {r : Int32} (h : (0 : Int32) < r) (hi : r.toInt < 10 ^ (k + 1)) : (r / 10).toInt < 10 ^ k := by
  have h0 : (0 : Int32).toInt = 0 := rfl
  rw [Int32.lt_iff_toInt_lt, h0] at h
  rw [(c_idiv r 10 10 rfl (by decide)).1 (by omega)]
  have e : (10 : Int) ^ (k + 1) = 10 ^ k * 10 := Int.pow_succ ..
  rw [e] at hi
  exact Int.ediv_lt_of_lt_mul (by decide) hi
set_option maxRecDepth 65536 in
set_option maxHeartbeats 40000000 in
theorem own_loop {p : Program} {l : Launch} {e : Env} {R : Room} {s : State} {m : MethodId} {args : Array Value} {below : List Frame} {meth : Method} {c : Code} {Z : State} {a0 : Array Value} {n0 : Nat} (hx : p.tables.exec = Jvm.exec) (hby : c.code = prog_2_method_3_code) (hml : c.maxLocals = 3) (hown : s.vm.findClass "com/example/vestledger/vestledger/Digits" = some m.cls) (hret : meth.sig.returnType = some .int) (hlk : meth.locks = false) (hZ : Z.Warmed39 s.vm) (hw : ∀ d ∈ tables_1, d.before a0 Z = true) (p0 : Int32) (h0 : Heap) :
    ∀ (k : Nat) (i1 i2 : Int32) (T0 : State), own_At p l e R s m args below meth c n0 T0 h0 0 0 → i2.toInt < 10 ^ k →
    own_Go p.tables e below (own_End n0 s 0 0 (fun v h => v = some (.int (own_cnt k i1 i2)) ∧ h0 = h)) (T0.setTop (mkF m 7 #[.val (.int p0), .val (.int i1), .val (.int i2)] [])) := by
  intro k
  induction k with
  | zero =>
    intro i1 i2 T0 A0 hi
    have hi : i2.toInt < 1 := hi
    show own_Go _ _ _ _ (T0.setTop (mkF m 7 #[.val (.int p0), .val (.int i1), .val (.int i2)] []))
    refine own_go (fun t k => XS.iloadN A0.here hx rfl (hb hby d1_7) rfl k) ?_
    show own_Go _ _ _ _ (T0.setTop (mkF m 8 #[.val (.int p0), .val (.int i1), .val (.int i2)] [(.int i2)]))
    have hc1 : ¬ ((0 : Int32) < i2) := by rw [Int32.lt_iff_toInt_lt]; have : (0 : Int32).toInt = 0 := rfl; omega
    refine own_go (fun t k => XS.ifYes A0.here hx rfl (pc0 := 8) (pc' := 22) rfl (hb hby d1_8) rfl ((if0 _ _).trans (flt hc1).2.2.2) (by decide) (by decide) k) ?_
    show own_Go _ _ _ _ (T0.setTop (mkF m 22 #[.val (.int p0), .val (.int i1), .val (.int i2)] []))
    refine own_go (fun t k => XS.iloadN A0.here hx rfl (hb hby d1_22) rfl k) ?_
    show own_Go _ _ _ _ (T0.setTop (mkF m 23 #[.val (.int p0), .val (.int i1), .val (.int i2)] [(.int i1)]))
    refine own_retI A0 hx hret hlk (by decide) (by decide) (hb hby d1_23) ?_
    exact ⟨rfl, rfl⟩
  | succ k ih =>
    intro i1 i2 T0 A0 hi
    show own_Go _ _ _ _ (T0.setTop (mkF m 7 #[.val (.int p0), .val (.int i1), .val (.int i2)] []))
    refine own_go (fun t k => XS.iloadN A0.here hx rfl (hb hby d1_7) rfl k) ?_
    show own_Go _ _ _ _ (T0.setTop (mkF m 8 #[.val (.int p0), .val (.int i1), .val (.int i2)] [(.int i2)]))
    by_cases hc2 : (0 : Int32) < i2
    ·
      refine own_go (fun t k => XS.ifNo A0.here hx rfl (hb hby d1_8) rfl ((if0 _ _).trans (tlt hc2).2.2.2) k) ?_
      show own_Go _ _ _ _ (T0.setTop (mkF m 11 #[.val (.int p0), .val (.int i1), .val (.int i2)] []))
      refine own_go (fun t k => XS.iinc A0.here hx rfl (hb hby d1_11) rfl (l' := #[.val (.int p0), .val (.int (i1 + (1 : Int32))), .val (.int i2)]) rfl k) ?_
      show own_Go _ _ _ _ (T0.setTop (mkF m 14 #[.val (.int p0), .val (.int (i1 + (1 : Int32))), .val (.int i2)] []))
      refine own_go (fun t k => XS.iloadN A0.here hx rfl (hb hby d1_14) rfl k) ?_
      show own_Go _ _ _ _ (T0.setTop (mkF m 15 #[.val (.int p0), .val (.int (i1 + (1 : Int32))), .val (.int i2)] [(.int i2)]))
      refine own_go (fun t k => XS.bipush A0.here hx rfl (hb hby d1_15) k) ?_
      show own_Go _ _ _ _ (T0.setTop (mkF m 17 #[.val (.int p0), .val (.int (i1 + (1 : Int32))), .val (.int i2)] [(.int (10 : Int32)), (.int i2)]))
      refine own_go (fun t k => XS.idiv A0.here hx rfl (hb hby d1_17) rfl (by decide) k) ?_
      show own_Go _ _ _ _ (T0.setTop (mkF m 18 #[.val (.int p0), .val (.int (i1 + (1 : Int32))), .val (.int i2)] [(.int (i2 / (10 : Int32)))]))
      refine own_go (fun t k => XS.istoreN A0.here hx rfl (hb hby d1_18) rfl (l' := #[.val (.int p0), .val (.int (i1 + (1 : Int32))), .val (.int (i2 / (10 : Int32)))]) rfl k) ?_
      show own_Go _ _ _ _ (T0.setTop (mkF m 19 #[.val (.int p0), .val (.int (i1 + (1 : Int32))), .val (.int (i2 / (10 : Int32)))] []))
      refine own_go (fun t k => XS.goto A0.here hx rfl (pc0 := 19) (pc' := 7) rfl (hb hby d1_19) (by decide) (by decide) k) ?_
      show own_Go _ _ _ _ (T0.setTop (mkF m 7 #[.val (.int p0), .val (.int (i1 + (1 : Int32))), .val (.int (i2 / (10 : Int32)))] []))
      have e : own_cnt (k + 1) i1 i2 = own_cnt k (i1 + (1 : Int32)) (i2 / (10 : Int32)) := if_pos hc2
      rw [e]
      exact ih _ _ _ A0 (own_lt10 hc2 hi)
    ·
      refine own_go (fun t k => XS.ifYes A0.here hx rfl (pc0 := 8) (pc' := 22) rfl (hb hby d1_8) rfl ((if0 _ _).trans (flt hc2).2.2.2) (by decide) (by decide) k) ?_
      show own_Go _ _ _ _ (T0.setTop (mkF m 22 #[.val (.int p0), .val (.int i1), .val (.int i2)] []))
      refine own_go (fun t k => XS.iloadN A0.here hx rfl (hb hby d1_22) rfl k) ?_
      show own_Go _ _ _ _ (T0.setTop (mkF m 23 #[.val (.int p0), .val (.int i1), .val (.int i2)] [(.int i1)]))
      refine own_retI A0 hx hret hlk (by decide) (by decide) (hb hby d1_23) ?_
      exact ⟨congrArg (fun z => some (Value.int z)) (if_neg hc2).symm, rfl⟩
theorem ef_1 (m : MethodId) (p0 : Int32) : entryFrame m #[(.int p0)] 3 = mkF m 0 #[.val (.int p0), .unset, .unset] [] := by first | (simp [entryFrame, mkF, argsToLocals, Value.category]; done) | rfl
theorem pn_1 : plainName "com/example/vestledger/vestledger/Digits" = true := by first | (simp [plainName, overriddenIn]; done) | decide +kernel
theorem d1_0 : decode prog_2_method_3_code 0 = .ok (.iconst 1, 1) := by decide +kernel
theorem d1_1 : decode prog_2_method_3_code 1 = .ok (.istore_n 1, 1) := by decide +kernel
theorem d1_2 : decode prog_2_method_3_code 2 = .ok (.iload_n 0, 1) := by decide +kernel
theorem d1_3 : decode prog_2_method_3_code 3 = .ok (.bipush 10, 2) := by decide +kernel
theorem d1_5 : decode prog_2_method_3_code 5 = .ok (.idiv, 1) := by decide +kernel
theorem d1_6 : decode prog_2_method_3_code 6 = .ok (.istore_n 2, 1) := by decide +kernel
def f1 (p0 : Int32) : Int32 := own_cnt 10 (1 : Int32) (p0 / (10 : Int32))
set_option maxRecDepth 65536 in
set_option maxHeartbeats 40000000 in
theorem rm1 (l : Launch) (Z : State) (a0 : Array Value) (hw : ∀ d ∈ tables_1, d.before a0 Z = true) (p0 : Int32) (h0 : Heap) (n0 : Nat) :
    own_Met l Z n0 (⟨"com/example/vestledger/vestledger/Digits", "count", "(I)I"⟩ : MethodName) prog_2_method_3_code 3 (some .int) ({ frames := 0, cells := 0, slots := 0, locals := 0 } : Room) #[(.int p0)] h0 (fun v h => v = some (.int (f1 p0)) ∧ h0 = h) := by
  refine own_met (plainFor_of_name pn_1) ?_
  intro p e s m below meth c T0 hx hby hml hown hnm hret hlk hZ A0
  rw [ef_1]
  show own_Go _ _ _ _ (T0.setTop (mkF m 0 #[.val (.int p0), .unset, .unset] []))
  refine own_go (fun t k => XS.iconst A0.here hx rfl (hb hby d1_0) k) ?_
  show own_Go _ _ _ _ (T0.setTop (mkF m 1 #[.val (.int p0), .unset, .unset] [(.int (1 : Int32))]))
  refine own_go (fun t k => XS.istoreN A0.here hx rfl (hb hby d1_1) rfl (l' := #[.val (.int p0), .val (.int (1 : Int32)), .unset]) rfl k) ?_
  show own_Go _ _ _ _ (T0.setTop (mkF m 2 #[.val (.int p0), .val (.int (1 : Int32)), .unset] []))
  refine own_go (fun t k => XS.iloadN A0.here hx rfl (hb hby d1_2) rfl k) ?_
  show own_Go _ _ _ _ (T0.setTop (mkF m 3 #[.val (.int p0), .val (.int (1 : Int32)), .unset] [(.int p0)]))
  refine own_go (fun t k => XS.bipush A0.here hx rfl (hb hby d1_3) k) ?_
  show own_Go _ _ _ _ (T0.setTop (mkF m 5 #[.val (.int p0), .val (.int (1 : Int32)), .unset] [(.int (10 : Int32)), (.int p0)]))
  refine own_go (fun t k => XS.idiv A0.here hx rfl (hb hby d1_5) rfl (by decide) k) ?_
  show own_Go _ _ _ _ (T0.setTop (mkF m 6 #[.val (.int p0), .val (.int (1 : Int32)), .unset] [(.int (p0 / (10 : Int32)))]))
  refine own_go (fun t k => XS.istoreN A0.here hx rfl (hb hby d1_6) rfl (l' := #[.val (.int p0), .val (.int (1 : Int32)), .val (.int (p0 / (10 : Int32)))]) rfl k) ?_
  show own_Go _ _ _ _ (T0.setTop (mkF m 7 #[.val (.int p0), .val (.int (1 : Int32)), .val (.int (p0 / (10 : Int32)))] []))
  exact own_loop hx hby hml hown hret hlk hZ hw p0 h0 10 _ _ _ A0 (by have := (p0 / (10 : Int32)).toInt_lt; omega)
theorem ef_0 (m : MethodId) (p0 : Int32) (p1 : Int32) : entryFrame m #[(.int p0), (.int p1)] maxLocals = mkF m 0 #[.val (.int p0), .val (.int p1), .unset] [] := by first | (simp [entryFrame, mkF, argsToLocals, Value.category, maxLocals]; done) | rfl
theorem pd__I_I : parseMethodDescriptor "(I)I" = some ⟨[.int], some .int⟩ := by decide +kernel
def f0 (p0 : Int32) (p1 : Int32) : Int32 := (nar .boolean (if (f1 (((p0 &&& (2147483647 : Int32)).toUInt32 >>> ((p1 &&& (31 : Int32)) &&& 31).toUInt32).toInt32)) = (f2 (((p0 &&& (2147483647 : Int32)).toUInt32 >>> ((p1 &&& (31 : Int32)) &&& 31).toUInt32).toInt32)) then (1 : Int32) else (0 : Int32)))
set_option maxRecDepth 65536 in
set_option maxHeartbeats 40000000 in
theorem rm0 (l : Launch) (Z : State) (a0 : Array Value) (hw : ∀ d ∈ tables_1, d.before a0 Z = true) (p0 : Int32) (p1 : Int32) (h0 : Heap) (n0 : Nat) :
    own_Met l Z n0 x code maxLocals ret room_1 #[(.int p0), (.int p1)] h0 (fun v h => v = some (.int (f0 p0 p1)) ∧ h0 = h) := by
  refine own_met (plainFor_of_name pn_2) ?_
  intro p e s m below meth c T0 hx hby hml hown hnm hret hlk hZ A0
  have hret : meth.sig.returnType = some .boolean := hret
  rw [ef_0]
  show own_Go _ _ _ _ (T0.setTop (mkF m 0 #[.val (.int p0), .val (.int p1), .unset] []))
  refine own_go (fun t k => XS.iloadN A0.here hx rfl (hb hby at_0) rfl k) ?_
  show own_Go _ _ _ _ (T0.setTop (mkF m 1 #[.val (.int p0), .val (.int p1), .unset] [(.int p0)]))
  refine own_ldcI A0 hx hZ hown (hw _ (List.mem_of_getElem? (i := 0) rfl)) rfl (hb hby at_1) ?_
  show own_Go _ _ _ _ (T0.setTop (mkF m 3 #[.val (.int p0), .val (.int p1), .unset] [(.int (2147483647 : Int32)), (.int p0)]))
  refine own_go (fun t k => XS.iand A0.here hx rfl (hb hby at_3) rfl k) ?_
  show own_Go _ _ _ _ (T0.setTop (mkF m 4 #[.val (.int p0), .val (.int p1), .unset] [(.int (p0 &&& (2147483647 : Int32)))]))
  refine own_go (fun t k => XS.iloadN A0.here hx rfl (hb hby at_4) rfl k) ?_
  show own_Go _ _ _ _ (T0.setTop (mkF m 5 #[.val (.int p0), .val (.int p1), .unset] [(.int p1), (.int (p0 &&& (2147483647 : Int32)))]))
  refine own_go (fun t k => XS.bipush A0.here hx rfl (hb hby at_5) k) ?_
  show own_Go _ _ _ _ (T0.setTop (mkF m 7 #[.val (.int p0), .val (.int p1), .unset] [(.int (31 : Int32)), (.int p1), (.int (p0 &&& (2147483647 : Int32)))]))
  refine own_go (fun t k => XS.iand A0.here hx rfl (hb hby at_7) rfl k) ?_
  show own_Go _ _ _ _ (T0.setTop (mkF m 8 #[.val (.int p0), .val (.int p1), .unset] [(.int (p1 &&& (31 : Int32))), (.int (p0 &&& (2147483647 : Int32)))]))
  refine own_go (fun t k => XS.iushr A0.here hx rfl (hb hby at_8) rfl k) ?_
  show own_Go _ _ _ _ (T0.setTop (mkF m 9 #[.val (.int p0), .val (.int p1), .unset] [(.int (((p0 &&& (2147483647 : Int32)).toUInt32 >>> ((p1 &&& (31 : Int32)) &&& 31).toUInt32).toInt32))]))
  generalize hx1 : (((p0 &&& (2147483647 : Int32)).toUInt32 >>> ((p1 &&& (31 : Int32)) &&& 31).toUInt32).toInt32) = x1
  show own_Go _ _ _ _ (T0.setTop (mkF m 9 #[.val (.int p0), .val (.int p1), .unset] [(.int x1)]))
  refine own_go (fun t k => XS.istoreN A0.here hx rfl (hb hby at_9) rfl (l' := #[.val (.int p0), .val (.int p1), .val (.int x1)]) rfl k) ?_
  show own_Go _ _ _ _ (T0.setTop (mkF m 10 #[.val (.int p0), .val (.int p1), .val (.int x1)] []))
  refine own_go (fun t k => XS.iloadN A0.here hx rfl (hb hby at_10) rfl k) ?_
  show own_Go _ _ _ _ (T0.setTop (mkF m 11 #[.val (.int p0), .val (.int p1), .val (.int x1)] [(.int x1)]))
  refine own_callS A0 hx hZ hown (y := (⟨"com/example/vestledger/vestledger/Digits", "count", "(I)I"⟩ : MethodName)) (hw _ (List.mem_of_getElem? (i := 1) rfl)) (hw _ (List.mem_of_getElem? (i := 2) rfl)) (hw _ (List.mem_of_getElem? (i := 3) rfl)) (hw _ (List.mem_of_getElem? (i := 4) rfl)) (by decide) (argsL := [(.int x1)]) (rest := []) (rm1 l Z a0 hw x1 h0 n0 ) 0 (by decide) (by decide) rfl (by rw [hml]; rfl) (lenOf pd__I_I rfl) rfl (by show 2 * 0 + _ ≤ _; exact Nat.le_of_eq rfl) (hb hby at_11) (by decide) (by decide) (fun v5 T2 h4 A3 hQ6 => ?_)
  obtain ⟨rfl, rfl⟩ := hQ6
  show own_Go _ _ _ _ (T2.setTop (mkF m 14 #[.val (.int p0), .val (.int p1), .val (.int x1)] [(.int (f1 x1))]))
  refine own_go (fun t k => XS.iloadN A3.here hx rfl (hb hby at_14) rfl k) ?_
  show own_Go _ _ _ _ (T2.setTop (mkF m 15 #[.val (.int p0), .val (.int p1), .val (.int x1)] [(.int x1), (.int (f1 x1))]))
  refine own_callS A3 hx hZ hown (y := (⟨"com/example/vestledger/vestledger/DigitsCountPinLaw", "expected", "(I)I"⟩ : MethodName)) (hw _ (List.mem_of_getElem? (i := 5) rfl)) (hw _ (List.mem_of_getElem? (i := 6) rfl)) (hw _ (List.mem_of_getElem? (i := 7) rfl)) (hw _ (List.mem_of_getElem? (i := 8) rfl)) (by decide) (argsL := [(.int x1)]) (rest := [(.int (f1 x1))]) (rm2 l Z a0 hw x1 h0 n0 ) 1 (by decide) (by decide) rfl (by rw [hml]; rfl) (lenOf pd__I_I rfl) rfl (by show 2 * 0 + _ ≤ _; exact Nat.le_of_eq rfl) (hb hby at_15) (by decide) (by decide) (fun v10 T7 h9 A8 hQ11 => ?_)
  obtain ⟨rfl, rfl⟩ := hQ11
  show own_Go _ _ _ _ (T7.setTop (mkF m 18 #[.val (.int p0), .val (.int p1), .val (.int x1)] [(.int (f2 x1)), (.int (f1 x1))]))
  have mg12 : ∀ t, Steps p.tables e below (T7.setTop (mkF m 26 #[.val (.int p0), .val (.int p1), .val (.int x1)] [(.int (if (f1 x1) = (f2 x1) then (1 : Int32) else (0 : Int32)))])) t → Steps p.tables e below (T7.setTop (mkF m 18 #[.val (.int p0), .val (.int p1), .val (.int x1)] [(.int (f2 x1)), (.int (f1 x1))])) t := by
    intro t k
    by_cases hm18_0 : (f1 x1) = (f2 x1)
    ·
      simp only [if_pos hm18_0] at k
      exact (XS.icmpNo A8.here hx rfl (hb hby at_18) rfl (teq hm18_0).2 (XS.iconst A8.here hx rfl (hb hby at_21) (XS.goto A8.here hx rfl (pc0 := 22) (pc' := 26) rfl (hb hby at_22) (by decide) (by decide) k)))
    ·
      simp only [if_neg hm18_0] at k
      exact (XS.icmpYes A8.here hx rfl (pc0 := 18) (pc' := 25) rfl (hb hby at_18) rfl (feq hm18_0).2 (by decide) (by decide) (XS.iconst A8.here hx rfl (hb hby at_25) k))
  refine own_go mg12 ?_
  show own_Go _ _ _ _ (T7.setTop (mkF m 26 #[.val (.int p0), .val (.int p1), .val (.int x1)] [(.int (if (f1 x1) = (f2 x1) then (1 : Int32) else (0 : Int32)))]))
  refine own_retN A8 hx (t := .boolean) hret (by simp) hlk (by decide) (by decide) (hb hby at_26) ?_
  subst hx1
  exact ⟨rfl, rfl⟩
theorem own_d10 (x : Int32) (v : Int) (h : x.toInt = v) (h0 : 0 ≤ v) : (x / 10).toInt = v / 10 := by
  rw [Int32.toInt_div_of_ne_right x 10 (by decide), h]
  exact Int.tdiv_eq_ediv_of_nonneg h0
theorem own_pos (x : Int32) (v : Int) (h : x.toInt = v) : ((0 : Int32) < x) = (0 < v) := by
  rw [Int32.lt_iff_toInt_lt, h]; rfl
theorem own_lit (x y : Int32) (v w : Int) (h : x.toInt = v) (h' : y.toInt = w) : (x < y) = (v < w) := by
  rw [Int32.lt_iff_toInt_lt, h, h']
theorem own_ushr (x : Int32) (k : UInt32) (h : 0 ≤ x.toInt) : 0 ≤ ((x.toUInt32 >>> k).toInt32).toInt := by
  have h1 : ((x.toUInt32 >>> k).toInt32).toInt = (x.toUInt32 >>> k).toBitVec.toInt := rfl
  have h2 : x.toInt = x.toUInt32.toBitVec.toInt := rfl
  rw [h2] at h
  rw [h1]
  rw [BitVec.toInt_eq_toNat_cond] at h ⊢
  have h3 : (x.toUInt32 >>> k).toBitVec.toNat = x.toUInt32.toBitVec.toNat >>> (k.toNat % 32) := UInt32.toNat_shiftRight ..
  have h4 := x.toUInt32.toBitVec.isLt
  have h5 : x.toUInt32.toBitVec.toNat >>> (k.toNat % 32) ≤ x.toUInt32.toBitVec.toNat := Nat.shiftRight_le ..
  rw [h3]
  split at h <;> split <;> omega
theorem own_same (n : Int32) (h : 0 ≤ n.toInt) : own_cnt 10 1 (n / 10) = f2 n := by
  generalize hv : n.toInt = v at h
  have h1 := own_d10 n v hv h
  have h2 := own_d10 _ _ h1 (by omega)
  have h3 := own_d10 _ _ h2 (by omega)
  have h4 := own_d10 _ _ h3 (by omega)
  have h5 := own_d10 _ _ h4 (by omega)
  have h6 := own_d10 _ _ h5 (by omega)
  have h7 := own_d10 _ _ h6 (by omega)
  have h8 := own_d10 _ _ h7 (by omega)
  have h9 := own_d10 _ _ h8 (by omega)
  have h10 := own_d10 _ _ h9 (by omega)
  have hm := n.toInt_lt
  rw [hv] at hm
  simp only [own_cnt, f2, own_pos _ _ h1, own_pos _ _ h2, own_pos _ _ h3, own_pos _ _ h4, own_pos _ _ h5, own_pos _ _ h6, own_pos _ _ h7, own_pos _ _ h8, own_pos _ _ h9, own_pos _ _ h10,
    own_lit n 10 v 10 hv rfl, own_lit n 100 v 100 hv rfl, own_lit n 1000 v 1000 hv rfl, own_lit n 10000 v 10000 hv rfl, own_lit n 100000 v 100000 hv rfl, own_lit n 1000000 v 1000000 hv rfl, own_lit n 10000000 v 10000000 hv rfl, own_lit n 100000000 v 100000000 hv rfl, own_lit n 1000000000 v 1000000000 hv rfl]
  clear h1 h2 h3 h4 h5 h6 h7 h8 h9 h10 hv
  by_cases c1 : 0 < (v / 10)
  rotate_left
  · rw [if_neg c1, if_pos (show v < 10 by omega)]
  by_cases c2 : 0 < ((v / 10) / 10)
  rotate_left
  · rw [if_pos c1, if_neg c2, if_neg (show ¬ v < 10 by omega), if_pos (show v < 100 by omega)]
    decide
  by_cases c3 : 0 < (((v / 10) / 10) / 10)
  rotate_left
  · rw [if_pos c1, if_pos c2, if_neg c3, if_neg (show ¬ v < 10 by omega), if_neg (show ¬ v < 100 by omega), if_pos (show v < 1000 by omega)]
    decide
  by_cases c4 : 0 < ((((v / 10) / 10) / 10) / 10)
  rotate_left
  · rw [if_pos c1, if_pos c2, if_pos c3, if_neg c4, if_neg (show ¬ v < 10 by omega), if_neg (show ¬ v < 100 by omega), if_neg (show ¬ v < 1000 by omega), if_pos (show v < 10000 by omega)]
    decide
  by_cases c5 : 0 < (((((v / 10) / 10) / 10) / 10) / 10)
  rotate_left
  · rw [if_pos c1, if_pos c2, if_pos c3, if_pos c4, if_neg c5, if_neg (show ¬ v < 10 by omega), if_neg (show ¬ v < 100 by omega), if_neg (show ¬ v < 1000 by omega), if_neg (show ¬ v < 10000 by omega), if_pos (show v < 100000 by omega)]
    decide
  by_cases c6 : 0 < ((((((v / 10) / 10) / 10) / 10) / 10) / 10)
  rotate_left
  · rw [if_pos c1, if_pos c2, if_pos c3, if_pos c4, if_pos c5, if_neg c6, if_neg (show ¬ v < 10 by omega), if_neg (show ¬ v < 100 by omega), if_neg (show ¬ v < 1000 by omega), if_neg (show ¬ v < 10000 by omega), if_neg (show ¬ v < 100000 by omega), if_pos (show v < 1000000 by omega)]
    decide
  by_cases c7 : 0 < (((((((v / 10) / 10) / 10) / 10) / 10) / 10) / 10)
  rotate_left
  · rw [if_pos c1, if_pos c2, if_pos c3, if_pos c4, if_pos c5, if_pos c6, if_neg c7, if_neg (show ¬ v < 10 by omega), if_neg (show ¬ v < 100 by omega), if_neg (show ¬ v < 1000 by omega), if_neg (show ¬ v < 10000 by omega), if_neg (show ¬ v < 100000 by omega), if_neg (show ¬ v < 1000000 by omega), if_pos (show v < 10000000 by omega)]
    decide
  by_cases c8 : 0 < ((((((((v / 10) / 10) / 10) / 10) / 10) / 10) / 10) / 10)
  rotate_left
  · rw [if_pos c1, if_pos c2, if_pos c3, if_pos c4, if_pos c5, if_pos c6, if_pos c7, if_neg c8, if_neg (show ¬ v < 10 by omega), if_neg (show ¬ v < 100 by omega), if_neg (show ¬ v < 1000 by omega), if_neg (show ¬ v < 10000 by omega), if_neg (show ¬ v < 100000 by omega), if_neg (show ¬ v < 1000000 by omega), if_neg (show ¬ v < 10000000 by omega), if_pos (show v < 100000000 by omega)]
    decide
  by_cases c9 : 0 < (((((((((v / 10) / 10) / 10) / 10) / 10) / 10) / 10) / 10) / 10)
  rotate_left
  · rw [if_pos c1, if_pos c2, if_pos c3, if_pos c4, if_pos c5, if_pos c6, if_pos c7, if_pos c8, if_neg c9, if_neg (show ¬ v < 10 by omega), if_neg (show ¬ v < 100 by omega), if_neg (show ¬ v < 1000 by omega), if_neg (show ¬ v < 10000 by omega), if_neg (show ¬ v < 100000 by omega), if_neg (show ¬ v < 1000000 by omega), if_neg (show ¬ v < 10000000 by omega), if_neg (show ¬ v < 100000000 by omega), if_pos (show v < 1000000000 by omega)]
    decide
  rw [if_pos c1, if_pos c2, if_pos c3, if_pos c4, if_pos c5, if_pos c6, if_pos c7, if_pos c8, if_pos c9, if_neg (show ¬ 0 < ((((((((((v / 10) / 10) / 10) / 10) / 10) / 10) / 10) / 10) / 10) / 10) by omega), if_neg (show ¬ v < 10 by omega), if_neg (show ¬ v < 100 by omega), if_neg (show ¬ v < 1000 by omega), if_neg (show ¬ v < 10000 by omega), if_neg (show ¬ v < 100000 by omega), if_neg (show ¬ v < 1000000 by omega), if_neg (show ¬ v < 10000000 by omega), if_neg (show ¬ v < 100000000 by omega), if_neg (show ¬ v < 1000000000 by omega)]
  decide
theorem law_true (i0 i1 : Int32) : f0 i0 i1 = 1 := by
  have h0 : 0 ≤ (i0 &&& (2147483647 : Int32)).toInt := (c_and i0 2147483647 (by decide)).1
  have h1 := own_ushr (i0 &&& (2147483647 : Int32)) ((i1 &&& (31 : Int32)) &&& 31).toUInt32 h0
  unfold f0 f1
  rw [own_same _ h1, if_pos rfl]
  rfl
set_option maxRecDepth 65536 in
set_option maxHeartbeats 40000000 in
theorem comes_1 {Post : Tables → Env → Array Value → State → Outcome → State → Prop} (hpost : ∀ tb e args s v u, (limb_1_1.after args s (.returned v) u = true ∧ limb_1_2.after args s (.returned v) u = true ∧ True) → FrameEnd s (.returned v) u (Jvm.fieldLocs frame_1_writes args s ++ Jvm.arrayLocs frame_1_arrays args s ++ Jvm.staticLocs frame_1_statics s) 0 0 → Post tb e args s (.returned v) u) :
    ArmFor flags0 classFile x code maxLocals ret World_1 tables_1 room_1 Calls_1 rest_1 Pre_1 Post := by
  intro l hfl _ _ p e ha hc hk s m args below hf hA hF happ hP
  obtain ⟨hcalls, hrest, hpre⟩ := hP
  obtain ⟨-, -, -, hnamed, -, -, -, hat⟩ := (Spec.applies_iff hf).mp happ
  obtain ⟨hg, hn⟩ := and_e (Cond.before_iff.mp (show (Jvm.Cond.and given_1 narrow_1).before args s = true from hpre))
  obtain ⟨gc, gr⟩ := and_e hg
  obtain ⟨w0, w1, rfl⟩ : ∃ w0 w1 : Value, args = #[w0, w1] := by
    have hs : args.size = 2 := by simpa [Cond.value, given_1] using gc
    obtain ⟨L⟩ := args
    match L, hs with
    | [w0, w1], _ => exact ⟨w0, w1, rfl⟩
  have hw := fun d (hd : d ∈ tables_1) => atoms_spec (ws := Jvm.Cond.code x code maxLocals ret :: tables_1) hat d (List.mem_cons_of_mem _ hd)
  have hfit : Fit s := fun {y c} hc i hi => by
    obtain ⟨ha, rfl⟩ := Array.getElem?_eq_some_iff.mp hc
    have q := List.all_eq_true.mp ((Array.all_eq_true_iff_forall_mem.mp hF) _ (Array.getElem_mem ha)) i (List.mem_range.mpr hi)
    simpa [Array.getElem?_eq_getElem hi] using q
  obtain ⟨q0, gr0⟩ := and_e gr
  obtain ⟨i0, ei0⟩ := is_v q0
  obtain rfl : w0 = (.int i0) := Option.some.inj ei0
  obtain ⟨i1, ei1⟩ := is_v gr0
  obtain rfl : w1 = (.int i1) := Option.some.inj ei1
  obtain ⟨n, o, h1, h2, h3, _, L, rfl, ⟨⟨rfl, hQ⟩, N⟩, hq⟩ := rm0 l s _ hw i0 i1  s.heap s.heap.size  tables_1 p e ha hc hk s m _ below hf ((Spec.applies_iff_loose hf).mp happ).1 ⟨rfl, State.Warmed39.refl s, rfl⟩ trivial
  refine ⟨n, _, h1, h2, h3, hpost _ _ _ _ _ _ ⟨Cond.after_iff.mpr rfl, Cond.after_iff.mpr (eq_i res_at (Term.int_eval (1)) (congrArg Value.int (law_true i0 i1 ))), trivial⟩ ⟨hq.1, hq.2.1, (hq.2.2.sift fun y hy => Or.inr (N y hy)).mono (by decide) (by decide)⟩⟩
theorem main_1_1 : Claimed_1_1 := comes_1 fun _ _ _ _ _ _ h hF => ⟨h.1, hF⟩
theorem main_1_2 : Claimed_1_2 := comes_1 fun _ _ _ _ _ _ h hF => ⟨h.2.1, hF⟩
end Jvm.Pilot.@@N@@
namespace Jvm.Pilot.@@N@@
open Jvm Jvm.ClassFile Sem Op Lib Jvm.Free Jvm.Stand Jvm.Pilot.@@N@@.Jvm.D
/-! MADE BY PROGRAM (witnessworld.py) out of the Statement's table words and the real class files: 9 classes; the members and pool entries that the words name. The judged class is class 1, her method 1. -/
namespace start1
open Jvm.ClassFile
def u (s : String) : CpInfo := .utf8 (stringToUtf16 s)
/-- a pool by its gaps: so many unusable entries, then the entry; so many at the end -/
def gap : Nat → List CpInfo → List CpInfo
  | 0, r => r
  | n + 1, r => .unusable :: gap n r
def poolList (es : List (Nat × CpInfo)) (last : Nat) : List CpInfo := es.foldr (fun e r => gap e.1 (e.2 :: r)) (gap last [])
def pool (es : List (Nat × CpInfo)) (last : Nat) : Array CpInfo := ⟨poolList es last⟩
def fileOf (pool : Array CpInfo) (this : Nat) (attrs : Array Attribute := #[]) (ms : Array MethodInfo := #[]) (fl : Nat := 33) (sup : Nat := 0) (ifs : Array Nat := #[]) (fds : Array FieldInfo := #[]) : ClassFile where
  minorVersion := 0
  majorVersion := 65
  constantPool := pool
  accessFlags := fl
  thisClass := this
  superClass := sup
  interfaces := ifs
  fields := fds
  methods := ms
  attributes := attrs
def plain (name : String) (sup : Option ClassId) : Class where
  name := name
  kind := .ordinary
  loader := none
  accessFlags := 33
  super := sup
  interfaces := #[]
  cf := none
  fields := #[]
  methods := #[]
  instanceTypes := #[]
  staticTypes := #[]
  resolved := #[]
  callSites := []
  init := .initialized
  statics := none
  mirror := none

def pool0 : Array CpInfo := pool [(5, u "<init>"), (0, u "()V"), (1, .class_ 10), (1, u "java/lang/Object")] 113

def k0m0 : Method := { name := "<init>", desc := "()V", sig := { parameters := [], returnType := none }, accessFlags := 1, code := none }
/-- java/lang/Object -/
def k0 : Class := { plain "java/lang/Object" none with
  accessFlags := 33
  interfaces := #[]
  cf := some (fileOf pool0 8 #[] #[{ accessFlags := 1, nameIndex := 5, descriptorIndex := 6, attributes := #[] }] 33 0 #[] #[])
  fields := #[]
  methods := #[k0m0]
  instanceTypes := #[]
  staticTypes := #[]
  resolved := Array.replicate 124 none
  statics := none }

def pool1 : Array CpInfo := pool [(2, .class_ 4), (1, u "java/lang/Object"), (0, u "<init>"), (0, u "()V"), (0, .integer 2147483647), (0, .methodref 9 10), (0, .class_ 11), (0, .nameAndType 12 13), (0, u "com/example/vestledger/vestledger/Digits"), (0, u "count"), (0, u "(I)I"), (0, .methodref 15 16), (0, .class_ 17), (0, .nameAndType 18 13), (0, u "com/example/vestledger/vestledger/DigitsCountPinLaw"), (0, u "expected"), (0, .integer 100000), (0, .integer 1000000), (0, .integer 10000000), (0, .integer 100000000), (0, .integer 1000000000), (2, u "law"), (0, u "(II)Z")] 3

def k1m0 : Method := { name := "<init>", desc := "()V", sig := { parameters := [], returnType := none }, accessFlags := 2, code := none }
def k1c1 : Code := { maxStack := 3, maxLocals := 3, code := code, exceptionTable := #[], attributes := #[] }
def k1m1 : Method := { name := "law", desc := "(II)Z", sig := { parameters := [.int, .int], returnType := some .boolean }, accessFlags := 9, code := some k1c1 }
def k1c2 : Code := { maxStack := 2, maxLocals := 1, code := method_3_code, exceptionTable := #[], attributes := #[] }
def k1m2 : Method := { name := "expected", desc := "(I)I", sig := { parameters := [.int], returnType := some .int }, accessFlags := 10, code := some k1c2 }
/-- com/example/vestledger/vestledger/DigitsCountPinLaw -/
def k1 : Class := { plain "com/example/vestledger/vestledger/DigitsCountPinLaw" (some 0) with
  accessFlags := 49
  interfaces := #[]
  cf := some (fileOf pool1 15 #[] #[{ accessFlags := 2, nameIndex := 5, descriptorIndex := 6, attributes := #[] }, { accessFlags := 9, nameIndex := 26, descriptorIndex := 27, attributes := #[] }, { accessFlags := 10, nameIndex := 18, descriptorIndex := 13, attributes := #[] }] 49 2 #[] #[])
  fields := #[]
  methods := #[k1m0, k1m1, k1m2]
  instanceTypes := #[]
  staticTypes := #[]
  resolved := Array.replicate 31 none
  statics := none }

def pool2 : Array CpInfo := pool [(2, .class_ 4), (1, u "java/lang/Object"), (0, u "<init>"), (0, u "()V"), (6, .class_ 14), (0, u "com/example/vestledger/vestledger/Digits"), (5, u "count"), (0, u "(I)I")] 2

def k2m0 : Method := { name := "<init>", desc := "()V", sig := { parameters := [], returnType := none }, accessFlags := 2, code := none }
def k2c1 : Code := { maxStack := 2, maxLocals := 3, code := prog_2_method_3_code, exceptionTable := #[], attributes := #[] }
def k2m1 : Method := { name := "count", desc := "(I)I", sig := { parameters := [.int], returnType := some .int }, accessFlags := 8, code := some k2c1 }
/-- com/example/vestledger/vestledger/Digits -/
def k2 : Class := { plain "com/example/vestledger/vestledger/Digits" (some 0) with
  accessFlags := 48
  interfaces := #[]
  cf := some (fileOf pool2 13 #[] #[{ accessFlags := 2, nameIndex := 5, descriptorIndex := 6, attributes := #[] }, { accessFlags := 8, nameIndex := 20, descriptorIndex := 21, attributes := #[] }] 48 2 #[] #[])
  fields := #[]
  methods := #[k2m0, k2m1]
  instanceTypes := #[]
  staticTypes := #[]
  resolved := Array.replicate 24 none
  statics := none }

def pool3 : Array CpInfo := pool [(1, u "java/lang/Cloneable"), (0, .class_ 1), (0, u "java/lang/Object"), (0, .class_ 3)] 3

/-- java/lang/Cloneable -/
def k3 : Class := { plain "java/lang/Cloneable" (some 0) with
  accessFlags := 1537
  interfaces := #[]
  cf := some (fileOf pool3 2 #[] #[] 1537 4 #[] #[])
  fields := #[]
  methods := #[]
  instanceTypes := #[]
  staticTypes := #[]
  resolved := Array.replicate 8 none
  statics := none }

def pool4 : Array CpInfo := pool [(1, u "java/io/Serializable"), (0, .class_ 1), (0, u "java/lang/Object"), (0, .class_ 3)] 3

/-- java/io/Serializable -/
def k4 : Class := { plain "java/io/Serializable" (some 0) with
  accessFlags := 1537
  interfaces := #[]
  cf := some (fileOf pool4 2 #[] #[] 1537 4 #[] #[])
  fields := #[]
  methods := #[]
  instanceTypes := #[]
  staticTypes := #[]
  resolved := Array.replicate 8 none
  statics := none }

/-- the primitive byte -/
def k5 : Class := { plain "byte" none with kind := .primitive 'B', accessFlags := 0x411 }
/-- [B -/
def k6 : Class := { plain "[B" (some 0) with kind := .array 5 .byte, interfaces := #[3, 4], accessFlags := 1041 }

/-- the primitive int -/
def k7 : Class := { plain "int" none with kind := .primitive 'I', accessFlags := 0x411 }
/-- [I -/
def k8 : Class := { plain "[I" (some 0) with kind := .array 7 .int, interfaces := #[3, 4], accessFlags := 1041 }

def heap : Heap := #[]
def classes : Array Class := #[k0, k1, k2, k3, k4, k5, k6, k7, k8]
def interned : List (Array UInt16 × Addr) := []
def slotsUsed : Nat := 0
def theMethod : MethodId := ⟨1, 1⟩
def args0 : Array Value := #[.int 65, .int 3]
def aboutOver (below : List Frame) : State where
  vm := { classes := classes, interned := interned.toArray }
  heap := heap
  slotsUsed := slotsUsed
  threads := #[{ frames := .invoking theMethod args0 :: below }]
def below0 : List Frame := [.native { method := ⟨0, 0⟩, args := #[] }]
def about1 : State := aboutOver below0
def p0 : Program := .bare "" "" ""
def e0 : Env := launch0.env 0 0 0
theorem w_frames : about1.frames = Frame.invoking theMethod args0 :: below0 := rfl
set_option maxRecDepth 65536 in
theorem w_args : argsFit about1.vm theMethod args0 = true := by decide +kernel
set_option maxRecDepth 65536 in
theorem w_heap : heapFits about1 = true := by decide +kernel
set_option maxRecDepth 65536 in
theorem w_runnable : about1.curStatus? = some .runnable := by decide +kernel
set_option maxRecDepth 65536 in
theorem w_alone : about1.alone = true := by decide +kernel
set_option maxRecDepth 65536 in
theorem w_named : about1.methodNamed? x = some theMethod := by decide +kernel
set_option maxRecDepth 65536 in
theorem w_hears : about1.hears theMethod below0 = true := by decide +kernel
set_option maxRecDepth 65536 in
theorem w_ripe : about1.ripe theMethod args0 below0 = true := by decide +kernel
theorem w_running : about1.status = .running := rfl
set_option maxRecDepth 65536 in
theorem w_room : about1.hasRoom e0.platform room_1 = true :=
  launch0.hasRoom_least _ room_1 (by decide +kernel) (by decide +kernel) (by decide +kernel) (by decide +kernel) (by decide +kernel) (by decide +kernel)
theorem allAtoms_all (ts : List Jvm.Cond) (a : Array Jvm.Value) (st : Jvm.State) : (allAtoms ts).before a st = ts.all (fun c => c.before a st) := by
  induction ts with
  | nil => rfl
  | cons c t ih =>
    show (Jvm.Cond.and c (allAtoms t)).before a st = _
    rw [Jvm.Cond.before_and, ih, List.all_cons]
def words1 : List Jvm.Cond := Jvm.Cond.code x code maxLocals ret :: tables_1
/-- a 'code' word, met by the world's own term for the bytes: nothing is compared byte by byte -/
theorem code_word {y : MethodName} {bytes : ByteArray} {mx : Nat} {rt : Option FieldType} {a : Array Value} {s : State} {m : MethodId} {meth : Method} {c : Code} (h1 : s.methodNamed? y = some m) (h2 : s.vm.method? m = some meth) (h3 : meth.code = some c) (h4 : c.code = bytes)
    (h5 : (c.maxLocals == mx && c.exceptionTable.isEmpty && decide (c.maxStack ≤ mostOperands) && decide (meth.sig.returnType = rt) && !meth.locks && decide (parseMethodDescriptor y.desc = some meth.sig)) = true) : (Jvm.Cond.code y bytes mx rt).before a s = true := by
  simp only [Bool.and_eq_true, beq_iff_eq, Bool.not_eq_true', decide_eq_true_eq] at h5
  obtain ⟨⟨⟨⟨⟨g1, g2⟩, g3⟩, g4⟩, g5⟩, g6⟩ := h5
  simp [Cond.before, Cond.holds, Cond.value, h1, h2, h3, h4, g1, g2, g3, g4, g5, g6]
def isCode : Jvm.Cond → Bool
  | .code _ _ _ _ => true
  | _ => false
theorem all_split {L : List Jvm.Cond} {P : Jvm.Cond → Bool} (h1 : L.all (fun c => isCode c || P c) = true) (h2 : ∀ c ∈ L.filter isCode, P c = true) : L.all P = true := by
  refine List.all_eq_true.mpr fun c hc => ?_
  have h := List.all_eq_true.mp h1 c hc
  rcases Bool.eq_false_or_eq_true (isCode c) with hi | hi
  · exact h2 c (List.mem_filter.mpr ⟨hc, hi⟩)
  · simpa [hi] using h
set_option maxRecDepth 65536 in
theorem w_c0 : (Jvm.Cond.code x code maxLocals ret).before args0 about1 = true := code_word (m := ⟨1, 1⟩) (meth := k1m1) (c := k1c1) (by decide +kernel) rfl rfl rfl (by decide +kernel)
set_option maxRecDepth 65536 in
theorem w_c1 : (Jvm.Cond.code ({ cls := "com/example/vestledger/vestledger/Digits", name := "count", desc := "(I)I" } : Jvm.MethodName) prog_2_method_3_code (3 : Nat) (Option.some Jvm.ClassFile.FieldType.int)).before args0 about1 = true := code_word (m := ⟨2, 1⟩) (meth := k2m1) (c := k2c1) (by decide +kernel) rfl rfl rfl (by decide +kernel)
set_option maxRecDepth 65536 in
theorem w_c2 : (Jvm.Cond.code ({ cls := "com/example/vestledger/vestledger/DigitsCountPinLaw", name := "expected", desc := "(I)I" } : Jvm.MethodName) method_3_code (1 : Nat) (Option.some Jvm.ClassFile.FieldType.int)).before args0 about1 = true := code_word (m := ⟨1, 2⟩) (meth := k1m2) (c := k1c2) (by decide +kernel) rfl rfl rfl (by decide +kernel)
def codes1 : List Jvm.Cond := [Jvm.Cond.code x code maxLocals ret, Jvm.Cond.code ({ cls := "com/example/vestledger/vestledger/Digits", name := "count", desc := "(I)I" } : Jvm.MethodName) prog_2_method_3_code (3 : Nat) (Option.some Jvm.ClassFile.FieldType.int), Jvm.Cond.code ({ cls := "com/example/vestledger/vestledger/DigitsCountPinLaw", name := "expected", desc := "(I)I" } : Jvm.MethodName) method_3_code (1 : Nat) (Option.some Jvm.ClassFile.FieldType.int)]
set_option maxRecDepth 65536 in
theorem codes_eq : words1.filter isCode = codes1 := rfl
theorem w_codes : ∀ c ∈ words1.filter isCode, c.before args0 about1 = true := by
  rw [codes_eq]
  intro c hc
  simp only [codes1, List.mem_cons, List.not_mem_nil, or_false] at hc
  rcases hc with rfl | rfl | rfl
  · exact w_c0
  · exact w_c1
  · exact w_c2
set_option maxRecDepth 65536 in
theorem w_t1 : words1.all (fun c => isCode c || c.before args0 about1) = true := by decide +kernel
theorem w_tables : (allAtoms (Jvm.Cond.code x code maxLocals ret :: tables_1)).before args0 about1 = true := by
  rw [allAtoms_all]
  show words1.all (fun c => c.before args0 about1) = true
  refine all_split ?_ w_codes
  rw [w_t1]
set_option maxRecDepth 65536 in
theorem w_case : (Jvm.Cond.and given_1 narrow_1).before args0 about1 = true := by decide +kernel
theorem w_applies : (headSpec (Jvm.Cond.code x code maxLocals ret :: tables_1) room_1).applies x e0.platform about1 = true :=
  (Spec.applies_iff w_frames).mpr ⟨w_running, w_runnable, w_alone, w_named, w_hears, w_ripe, w_room, w_tables⟩
theorem atStart : AtStart classFile x code maxLocals ret World_1 tables_1 room_1 Calls_1 rest_1 Pre_1 launch0 p0 e0 about1 theMethod args0 below0 :=
  ⟨lists_1, trivial, launch0.admits_env _ _ _, launch0.least_env, fairChoices_fair.cas, fairChoices_fair.clock, w_frames, w_args, w_heap, w_applies, trivial, trivial, w_case⟩
end start1
theorem witness_1 : WitnessClaimed_1 := ⟨start1.p0, start1.e0, start1.about1, start1.theMethod, start1.args0, start1.below0, start1.atStart⟩
end Jvm.Pilot.@@N@@
