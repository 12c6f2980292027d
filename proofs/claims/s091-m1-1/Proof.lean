import JvmDerived
import JvmDerived.Pilot.@@N@@Statement
import JvmDerived.Pilot.@@N@@Code
set_option linter.unusedVariables false
set_option linter.unusedSimpArgs false
namespace Jvm.Pilot.@@N@@
open Jvm Jvm.ClassFile Sem Op Lib Jvm.Free Jvm.Stand Jvm.LawKit Jvm.RoadKit Bundle Jvm.Pilot.@@N@@.Jvm.D
section OwnKit
variable {p : Program} {l : Launch} {e : Env} {R : Room} {s : State} {m : MethodId} {args : Array Value} {below : List Frame} {meth : Method} {c : Code} {T : State} {locs : List Loc} {cells slots : Nat} {Z : State} {a0 : Array Value} {h : Heap} {n0 : Nat} {G : State → Outcome → Prop} {kc ks : Nat} {Q : Option Value → Heap → Prop}
/-- what is left of a walk: from U the body comes to an end of which G holds -/
def own_Go (tb : Tables) (e : Env) (below : List Frame) (G : State → Outcome → Prop) (U : State) : Prop := ∃ s₂ o, Steps tb e below U s₂ ∧ s₂.status = .running ∧ Ended s₂ below o ∧ G s₂ o
theorem own_go {tb : Tables} {U U' : State} (f : ∀ t, Steps tb e below U' t → Steps tb e below U t) (k : own_Go tb e below G U') : own_Go tb e below G U := by
  obtain ⟨a, b, c, d⟩ := k
  exact ⟨a, b, f _ c, d⟩
/-- where the run stands: its heap is h, nothing below n0 has been written -/
def own_At (p : Program) (l : Launch) (e : Env) (R : Room) (s : State) (m : MethodId) (args : Array Value) (below : List Frame) (meth : Method) (c : Code) (n0 : Nat) (T : State) (h : Heap) (cells slots : Nat) : Prop :=
  ∃ locs, Stand p l e R s m args below meth c T locs cells slots ∧ T.heap = h ∧ Fr n0 locs
theorem own_At.here (A : own_At p l e R s m args below meth c n0 T h cells slots) : At T m c below := by obtain ⟨_, X, -, -⟩ := A; exact X.here
theorem own_At.heap (A : own_At p l e R s m args below meth c n0 T h cells slots) : T.heap = h := by obtain ⟨_, -, q, -⟩ := A; exact q
/-- the end of a body: it returns v, Q holds of v and the heap -/
def own_End (n0 : Nat) (s : State) (kc ks : Nat) (Q : Option Value → Heap → Prop) : State → Outcome → Prop := fun s₂ o => ∃ v L, o = .returned v ∧ (Q v s₂.heap ∧ Fr n0 L) ∧ FrameEnd s o s₂ L kc ks
theorem own_leave (A : own_At p l e R s m args below meth c n0 T h cells slots) {v : Option Value} (hv : meth.sig.returnType = none → v = none) (hlk : meth.locks = false) (hc : cells ≤ kc) (hs : slots ≤ ks) (q : Q v h) {U : State}
    (st : ∀ locs, Stand p l e R s m args below meth c T locs cells slots → ∀ fs, (∀ (f : JFrame) (acts : List Action), f.method = m → f.locked = none → f.entered = [] → (doReturn e (T.setTop f) acts v).1 = T.setFrames fs) → Steps p.tables e below U (T.setFrames fs)) : own_Go p.tables e below (own_End n0 s kc ks Q) U := by
  obtain ⟨locs, X, rfl, N⟩ := A
  obtain ⟨fs, hr, hrun, hended, hW, hsame⟩ := X.leave hv hlk
  exact ⟨_, _, st locs X fs hr, hrun, hended, _, _, rfl, ⟨q, N⟩, ⟨_, rfl⟩, hW, hsame.mono hc hs⟩
theorem own_retI (A : own_At p l e R s m args below meth c n0 T h cells slots) (hx : p.tables.exec = Jvm.exec) (hret : meth.sig.returnType = some .int) (hlk : meth.locks = false) (hc : cells ≤ kc) (hs : slots ≤ ks) {pc : Nat} {Ls : Array Slot} {z : Int32} {rest : List Value} (hd : decode c.code pc = .ok (.ireturn, 1)) (q : Q (some (.int z)) h) :
    own_Go p.tables e below (own_End n0 s kc ks Q) (T.setTop (mkF m pc Ls (.int z :: rest))) :=
  own_leave A (fun q => by rw [hret] at q; cases q) hlk hc hs q fun _ X _ hr => retOut X hx hret rfl (Or.inl ⟨rfl, Or.inl rfl, _, rfl⟩) hd hr
theorem own_retN (A : own_At p l e R s m args below meth c n0 T h cells slots) (hx : p.tables.exec = Jvm.exec) {t : FieldType} (hret : meth.sig.returnType = some t) (ht : t = .boolean ∨ t = .byte ∨ t = .char ∨ t = .short) (hlk : meth.locks = false) (hc : cells ≤ kc) (hs : slots ≤ ks) {pc : Nat} {Ls : Array Slot} {z : Int32} {rest : List Value} (hd : decode c.code pc = .ok (.ireturn, 1)) (q : Q (some (.int (nar t z))) h) :
    own_Go p.tables e below (own_End n0 s kc ks Q) (T.setTop (mkF m pc Ls (.int z :: rest))) :=
  own_leave A (fun q => by rw [hret] at q; cases q) hlk hc hs q fun _ X _ hr => retN X hx hret ht hd hr
theorem own_retJ (A : own_At p l e R s m args below meth c n0 T h cells slots) (hx : p.tables.exec = Jvm.exec) (hret : meth.sig.returnType = some .long) (hlk : meth.locks = false) (hc : cells ≤ kc) (hs : slots ≤ ks) {pc : Nat} {Ls : Array Slot} {z : Int64} {rest : List Value} (hd : decode c.code pc = .ok (.lreturn, 1)) (q : Q (some (.long z)) h) :
    own_Go p.tables e below (own_End n0 s kc ks Q) (T.setTop (mkF m pc Ls (.long z :: rest))) :=
  own_leave A (fun q => by rw [hret] at q; cases q) hlk hc hs q fun _ X _ hr => retOut X hx hret rfl (Or.inr (Or.inl ⟨rfl, rfl, _, rfl⟩)) hd hr
theorem own_retD (A : own_At p l e R s m args below meth c n0 T h cells slots) (hx : p.tables.exec = Jvm.exec) (hret : meth.sig.returnType = some .double) (hlk : meth.locks = false) (hc : cells ≤ kc) (hs : slots ≤ ks) {pc : Nat} {Ls : Array Slot} {z : UInt64} {rest : List Value} (hd : decode c.code pc = .ok (.dreturn, 1)) (q : Q (some (.double z)) h) :
    own_Go p.tables e below (own_End n0 s kc ks Q) (T.setTop (mkF m pc Ls (.double z :: rest))) :=
  own_leave A (fun q => by rw [hret] at q; cases q) hlk hc hs q fun _ X _ hr => retOut X hx hret rfl (Or.inr (Or.inr (Or.inl ⟨rfl, rfl, _, rfl⟩))) hd hr
theorem own_retA (A : own_At p l e R s m args below meth c n0 T h cells slots) (hx : p.tables.exec = Jvm.exec) {t : FieldType} (hret : meth.sig.returnType = some t) (ht : t.isReference = true) (hlk : meth.locks = false) (hc : cells ≤ kc) (hs : slots ≤ ks) {pc : Nat} {Ls : Array Slot} {w : Value} (hw : w.isRef = true) {rest : List Value} (hd : decode c.code pc = .ok (.areturn, 1)) (q : Q (some w) h) :
    own_Go p.tables e below (own_End n0 s kc ks Q) (T.setTop (mkF m pc Ls (w :: rest))) :=
  own_leave A (fun q => by rw [hret] at q; cases q) hlk hc hs q fun _ X _ hr => retOut X hx hret (by cases t <;> first | rfl | cases ht) (Or.inr (Or.inr (Or.inr (Or.inr ⟨rfl, ht, hw⟩)))) hd hr
theorem own_retV (A : own_At p l e R s m args below meth c n0 T h cells slots) (hx : p.tables.exec = Jvm.exec) (hret : meth.sig.returnType = none) (hlk : meth.locks = false) (hc : cells ≤ kc) (hs : slots ≤ ks) {pc : Nat} {Ls : Array Slot} (hd : decode c.code pc = .ok (.return_, 1)) (q : Q none h) :
    own_Go p.tables e below (own_End n0 s kc ks Q) (T.setTop (mkF m pc Ls [])) :=
  own_leave A (fun _ => rfl) hlk hc hs q fun _ X _ hr => X.returnOut hx hret hd hr
/-- a body's contract: called with as' at the heap h0 it returns, and Q holds of what it returns and of the heap -/
def own_Met (l : Launch) (Z : State) (n0 : Nat) (y : MethodName) (bytes : ByteArray) (maxL : Nat) (ret : Option FieldType) (rm : Room) (as' : Array Value) (h0 : Heap) (Q : Option Value → Heap → Prop) : Prop :=
  ∀ ws, MetFree l y (head1 (Cond.code y bytes maxL ret :: ws) rm) (fun a U => a = as' ∧ Z.Warmed39 U.vm ∧ U.heap = h0) (fun _ _ _ _ _ => True) (fun _ U o U' => ∃ v L, o = .returned v ∧ (Q v U'.heap ∧ Fr n0 L) ∧ FrameEnd U o U' L rm.cells rm.slots)
theorem own_met {y : MethodName} {bytes : ByteArray} {maxL : Nat} {ret : Option FieldType} {rm : Room} {as' : Array Value} {h0 : Heap} (hp : plainFor y = true)
    (body : ∀ (p : Program) (e : Env) (s : State) (m : MethodId) (below : List Frame) (meth : Method) (c : Code) (T : State), p.tables.exec = Jvm.exec → c.code = bytes → c.maxLocals = maxL → s.vm.findClass y.cls = some m.cls → meth.name = y.name → meth.sig.returnType = ret → meth.locks = false → Z.Warmed39 s.vm →
      own_At p l e rm s m as' below meth c n0 T h0 0 0 → own_Go p.tables e below (own_End n0 s rm.cells rm.slots Q) (T.setTop (entryFrame m as' maxL))) : own_Met l Z n0 y bytes maxL ret rm as' h0 Q := by
  intro ws
  refine MetFree.of_bodySF hp hisR ?_
  intro p e s m args below meth c s₁ Bd hml0 hP hK
  obtain ⟨rfl, hZ, hh⟩ := hP
  exact body p e s m below meth c s₁ Bd.exec Bd.bytes hml0 (findClass_of_methodNamed Bd.named) (name_of_methodNamed Bd.named Bd.method).1 Bd.returns Bd.notSynchronized hZ ⟨[], Stand.of_body Bd, by rw [← hh, Bd.state]; rfl, Fr.nil n0⟩
theorem own_callS (A : own_At p l e R s m args below meth c n0 T h cells slots) (hx : p.tables.exec = Jvm.exec) (hZ : Z.Warmed39 s.vm) {own : String} {index : Nat} {y : MethodName} {bytes : ByteArray} {maxL : Nat} {ret : Option FieldType} (hown : s.vm.findClass own = some m.cls)
    (w1 : (Cond.methodLink own index y).before a0 Z = true) (w2 : (Cond.static y).before a0 Z = true) (w3 : (Cond.initialized y.cls).before a0 Z = true) (w4 : (Cond.code y bytes maxL ret).before a0 Z = true) (hy : y.cls ≠ "java/lang/invoke/MethodHandle" ∧ y.cls ≠ "java/lang/invoke/VarHandle")
    {rm : Room} {argsL rest : List Value} (hM : own_Met l Z n0 y bytes maxL ret rm argsL.toArray h Q) (W : Nat) (hfr : rm.frames + 1 ≤ R.frames) (hlo : W + (maxL + 11) + rm.locals ≤ R.locals) {g : JFrame} (hg : g.method = m) (hsize : g.locals.size = c.maxLocals)
    (hlen : ∀ sig, parseMethodDescriptor y.desc = some sig → argsL.length = sig.parameters.length) (hs : g.stack = argsL.reverse ++ rest) (hW : 2 * g.monitorRoom + (rest.map fun v => v.category).sum ≤ W) (hd : decode c.code g.pc = .ok (.invokestatic index, 3))
    (hc : cells + rm.cells ≤ R.cells) (hl : slots + rm.slots ≤ R.slots)
    (k : ∀ v T' h', own_At p l e R s m args below meth c n0 T' h' (cells + rm.cells) (slots + rm.slots) → Q v h' → own_Go p.tables e below G (T'.setTop { g with pc := g.pc + 3, stack := v.toList ++ rest })) : own_Go p.tables e below G (T.setTop g) := by
  obtain ⟨locs, X, eT, N⟩ := A
  obtain ⟨v, _, ⟨T1, L1, k1, s1⟩, -, X1, ⟨Lc, ⟨hQ, N1⟩, l1, y1, z1⟩, st⟩ := Jvm.LawKit.callS X hx (y := y) hown (mvT hZ w1) (mvT hZ w2) (mvT hZ w3) (mvT hZ w4) hy (backOf (Q := fun v h L => Q v h ∧ Fr n0 L) (W := W) (hM []) hZ w4 w3 hfr hlo) hg hsize (argsL := argsL) (rest := rest) hlen hs hW hd (fun _ _ => ⟨rfl, eT, hc, hl⟩)
  dsimp only [Pt.U, Pt.locs, Pt.cells, Pt.slots] at X1 l1 y1 z1 st hQ
  subst l1 y1 z1
  exact own_go (fun t k => st t k) (k v T1 T1.heap ⟨_, X1, rfl, N.app N1⟩ hQ)
theorem own_callV (A : own_At p l e R s m args below meth c n0 T h cells slots) (hx : p.tables.exec = Jvm.exec) (hZ : Z.Warmed39 s.vm) {own C : String} {index : Nat} {y z : MethodName} {bytes : ByteArray} {maxL : Nat} {ret : Option FieldType} (hown : s.vm.findClass own = some m.cls)
    (w1 : (Cond.methodLink own index y).before a0 Z = true) (w2 : (Cond.declares y).before a0 Z = true) (w3 : (Cond.selects C y z).before a0 Z = true) (w4 : (Cond.instanceMethod z).before a0 Z = true) (w5 : (Cond.initialized z.cls).before a0 Z = true) (w6 : (Cond.code z bytes maxL ret).before a0 Z = true) (nf : NotFace s y)
    (hy : y.cls ≠ "java/lang/invoke/MethodHandle" ∧ y.cls ≠ "java/lang/invoke/VarHandle")
    {rm : Room} {b : Addr} {argsL rest : List Value} (E : Exa Z h b C) (hM : own_Met l Z n0 z bytes maxL ret rm (.ref b :: argsL).toArray h Q) (W : Nat) (hfr : rm.frames + 1 ≤ R.frames) (hlo : W + (maxL + 11) + rm.locals ≤ R.locals) {g : JFrame} (hg : g.method = m) (hsize : g.locals.size = c.maxLocals)
    (hlen : ∀ sig, parseMethodDescriptor y.desc = some sig → argsL.length = sig.parameters.length) (hs : g.stack = argsL.reverse ++ .ref b :: rest) (hW : 2 * g.monitorRoom + (rest.map fun v => v.category).sum ≤ W) (hd : decode c.code g.pc = .ok (.invokevirtual index, 3))
    (hc : cells + rm.cells ≤ R.cells) (hl : slots + rm.slots ≤ R.slots)
    (k : ∀ v T' h', own_At p l e R s m args below meth c n0 T' h' (cells + rm.cells) (slots + rm.slots) → Q v h' → own_Go p.tables e below G (T'.setTop { g with pc := g.pc + 3, stack := v.toList ++ rest })) : own_Go p.tables e below G (T.setTop g) := by
  obtain ⟨locs, X, eT, N⟩ := A
  obtain ⟨cq, kq, qa, qb, qc⟩ := isOf hZ eT E
  obtain ⟨v, _, ⟨T1, L1, k1, s1⟩, -, X1, ⟨Lc, ⟨hQ, N1⟩, l1, y1, z1⟩, st⟩ := X.virtualBack hx (y := y) (z := z) hown (mvT hZ w1) (mvT hZ w2) nf (mvT hZ w3) (mvT hZ w4) hy (backOf (Q := fun v h L => Q v h ∧ Fr n0 L) (W := W) (hM []) hZ w6 w5 hfr hlo) qa qc hg hsize (Steps.refl _) (argsL := argsL) (rest := rest) hlen hs hW hd (fun _ _ => ⟨rfl, eT, hc, hl⟩)
  dsimp only [Pt.U, Pt.locs, Pt.cells, Pt.slots] at X1 l1 y1 z1 st hQ
  subst l1 y1 z1
  exact own_go (fun t k => st.trans k) (k v T1 T1.heap ⟨_, X1, rfl, N.app N1⟩ hQ)
theorem own_callI (A : own_At p l e R s m args below meth c n0 T h cells slots) (hx : p.tables.exec = Jvm.exec) (hZ : Z.Warmed39 s.vm) {own : String} {index : Nat} {y : MethodName} (hy1 : y.name = "<init>") {bytes : ByteArray} {maxL : Nat} (hown : s.vm.findClass own = some m.cls)
    (w1 : (Cond.methodLink own index y).before a0 Z = true) (w4 : (Cond.instanceMethod y).before a0 Z = true) (w5 : (Cond.initialized y.cls).before a0 Z = true) (w6 : (Cond.code y bytes maxL none).before a0 Z = true)
    (hy : y.cls ≠ "java/lang/invoke/MethodHandle" ∧ y.cls ≠ "java/lang/invoke/VarHandle")
    {rm : Room} {b : Addr} {argsL rest : List Value} (hM : own_Met l Z n0 y bytes maxL none rm (.ref b :: argsL).toArray h Q) (W : Nat) (hfr : rm.frames + 1 ≤ R.frames) (hlo : W + (maxL + 11) + rm.locals ≤ R.locals) {g : JFrame} (hg : g.method = m) (hsize : g.locals.size = c.maxLocals)
    (hlen : ∀ sig, parseMethodDescriptor y.desc = some sig → argsL.length = sig.parameters.length) (hs : g.stack = argsL.reverse ++ .ref b :: rest) (hW : 2 * g.monitorRoom + (rest.map fun v => v.category).sum ≤ W) (hd : decode c.code g.pc = .ok (.invokespecial index, 3))
    (hc : cells + rm.cells ≤ R.cells) (hl : slots + rm.slots ≤ R.slots)
    (k : ∀ v T' h', own_At p l e R s m args below meth c n0 T' h' (cells + rm.cells) (slots + rm.slots) → Q v h' → own_Go p.tables e below G (T'.setTop { g with pc := g.pc + 3, stack := v.toList ++ rest })) : own_Go p.tables e below G (T.setTop g) := by
  obtain ⟨locs, X, eT, N⟩ := A
  obtain ⟨v, _, ⟨T1, L1, k1, s1⟩, -, X1, ⟨Lc, ⟨hQ, N1⟩, l1, y1, z1⟩, st⟩ := X.specialBack hx (y := y) hy1 hown (mvT hZ w1) (mvT hZ w4) (mvT hZ w6) hy (backOf (Q := fun v h L => Q v h ∧ Fr n0 L) (W := W) (hM []) hZ w6 w5 hfr hlo) hg hsize (Steps.refl _) (a := b) (argsL := argsL) (rest := rest) hlen hs hW hd (fun _ _ => ⟨rfl, eT, hc, hl⟩)
  dsimp only [Pt.U, Pt.locs, Pt.cells, Pt.slots] at X1 l1 y1 z1 st hQ
  subst l1 y1 z1
  exact own_go (fun t k => st.trans k) (k v T1 T1.heap ⟨_, X1, rfl, N.app N1⟩ hQ)
theorem own_initO (A : own_At p l e R s m args below meth c n0 T h cells slots) (hx : p.tables.exec = Jvm.exec) (hZ : Z.Warmed39 s.vm) {own : String} {idx : Nat} (hown : s.vm.findClass own = some m.cls) (w1 : (Cond.methodLink own idx Lib.objectInit).before a0 Z = true) (w2 : (Cond.instanceMethod Lib.objectInit).before a0 Z = true)
    (w3 : (Cond.code Lib.objectInit ⟨#[0xb1]⟩ 1 none).before a0 Z = true) {g : JFrame} (hg : g.method = m) (hsize : g.locals.size = c.maxLocals) {a : Addr} {rest : List Value} (hs : g.stack = .ref a :: rest) (hd : decode c.code g.pc = .ok (.invokespecial idx, 3))
    (hf : 1 ≤ R.frames) (W : Nat) (hW : 2 * g.monitorRoom + (rest.map fun v => v.category).sum ≤ W) (hl : W + 12 ≤ R.locals)
    (k : ∀ T', own_At p l e R s m args below meth c n0 T' h cells slots → own_Go p.tables e below G (T'.setTop { g with pc := g.pc + 3, stack := rest })) : own_Go p.tables e below G (T.setTop g) := by
  obtain ⟨locs, X, eT, N⟩ := A
  obtain ⟨T1, X1, e1, st⟩ := initO X hx hZ hown w1 w2 w3 eT hg hsize hs hd hf hW hl
  exact own_go st (k T1 ⟨_, X1, e1, N⟩)
theorem own_getF (A : own_At p l e R s m args below meth c n0 T h cells slots) (hx : p.tables.exec = Jvm.exec) (hZ : Z.Warmed39 s.vm) {own R0 O n d host : String} {index : Nat} (hown : s.vm.findClass own = some m.cls) (w : (Cond.fieldLink own index R0 n d).before a0 Z = true ∨ (Cond.fieldLinkNest own index R0 n d host).before a0 Z = true) (via : Via Z R0 O n d)
    {a : Addr} {v : Value} (F : Fld Z h a O n d v) {g : JFrame} (hg : g.method = m) {rest : List Value} (hs : g.stack = .ref a :: rest) (hd : decode c.code g.pc = .ok (.getfield index, 3))
    (k : ∀ T', own_At p l e R s m args below meth c n0 T' h cells slots → own_Go p.tables e below G (T'.setTop { g with pc := g.pc + 3, stack := v :: rest })) : own_Go p.tables e below G (T.setTop g) := by
  obtain ⟨locs, X, eT, N⟩ := A
  obtain ⟨T1, X1, e1, st⟩ := getF X hx hZ hown w via eT F hg hs hd
  exact own_go st (k T1 ⟨_, X1, e1, N⟩)
theorem own_getS (A : own_At p l e R s m args below meth c n0 T h cells slots) (hx : p.tables.exec = Jvm.exec) (hZ : Z.Warmed39 s.vm) {own R0 O n d host : String} {index : Nat} (hown : s.vm.findClass own = some m.cls) (w : (Cond.fieldLink own index R0 n d).before a0 Z = true ∨ (Cond.fieldLinkNest own index R0 n d host).before a0 Z = true) (via : Via Z R0 O n d)
    {v : Value} (F : Sta Z h O n d v) {g : JFrame} (hg : g.method = m) (hd : decode c.code g.pc = .ok (.getstatic index, 3))
    (k : ∀ T', own_At p l e R s m args below meth c n0 T' h cells slots → own_Go p.tables e below G (T'.setTop { g with pc := g.pc + 3, stack := v :: g.stack })) : own_Go p.tables e below G (T.setTop g) := by
  obtain ⟨locs, X, eT, N⟩ := A
  obtain ⟨T1, X1, e1, st⟩ := getS2 X hx hZ hown w via eT F hg hd
  exact own_go st (k T1 ⟨_, X1, e1, N⟩)
theorem own_ldcI (A : own_At p l e R s m args below meth c n0 T h cells slots) (hx : p.tables.exec = Jvm.exec) (hZ : Z.Warmed39 s.vm) {own : String} {index : Nat} {v : Int32} (hown : s.vm.findClass own = some m.cls) (w : (Cond.constant own index v).before a0 Z = true) {g : JFrame} (hg : g.method = m) (hd : decode c.code g.pc = .ok (.ldc index, 2))
    (k : own_Go p.tables e below G (T.setTop { g with pc := g.pc + 2, stack := .int v :: g.stack })) : own_Go p.tables e below G (T.setTop g) := by
  obtain ⟨locs, X, eT, N⟩ := A
  exact own_go (X.ldcInt hx hown (mvT hZ w) hg hd) k
theorem own_ldcwI (A : own_At p l e R s m args below meth c n0 T h cells slots) (hx : p.tables.exec = Jvm.exec) (hZ : Z.Warmed39 s.vm) {own : String} {index : Nat} {v : Int32} (hown : s.vm.findClass own = some m.cls) (w : (Cond.constant own index v).before a0 Z = true) {g : JFrame} (hg : g.method = m) (hd : decode c.code g.pc = .ok (.ldc_w index, 3))
    (k : own_Go p.tables e below G (T.setTop { g with pc := g.pc + 3, stack := .int v :: g.stack })) : own_Go p.tables e below G (T.setTop g) := by
  obtain ⟨locs, X, eT, N⟩ := A
  exact own_go (X.ldcwInt hx hown (mvT hZ w) hg hd) k
theorem own_ldcJ (A : own_At p l e R s m args below meth c n0 T h cells slots) (hx : p.tables.exec = Jvm.exec) (hZ : Z.Warmed39 s.vm) {own : String} {index : Nat} {v : Int64} (hown : s.vm.findClass own = some m.cls) (w : (Cond.constantLong own index v).before a0 Z = true) {g : JFrame} (hg : g.method = m) (hd : decode c.code g.pc = .ok (.ldc2_w index, 3))
    (k : own_Go p.tables e below G (T.setTop { g with pc := g.pc + 3, stack := .long v :: g.stack })) : own_Go p.tables e below G (T.setTop g) := by
  obtain ⟨locs, X, eT, N⟩ := A
  exact own_go (X.ldc2Long hx hown (mvT hZ w) hg hd) k
/-- irem, with Java's sign -/
theorem own_irem {tb : Tables} [Ours tb] {target : State} {g : JFrame} (hh : At T m c below) (hx : tb.exec = Jvm.exec) (hg : g.method = m) {x y : Int32} {rest : List Value} (hd : decode c.code g.pc = .ok (.irem, 1)) (hs : g.stack = .int y :: .int x :: rest) (hy : y ≠ 0)
    (hr : Steps tb e below (T.setTop { g with pc := g.pc + 1, stack := .int (x % y) :: rest }) target) : Steps tb e below (T.setTop g) target :=
  XS.irem hh hx hg hd hs hy (by rw [irem_eq_mod]; exact hr)
theorem own_lrem {tb : Tables} [Ours tb] {target : State} {g : JFrame} (hh : At T m c below) (hx : tb.exec = Jvm.exec) (hg : g.method = m) {x y : Int64} {rest : List Value} (hd : decode c.code g.pc = .ok (.lrem, 1)) (hs : g.stack = .long y :: .long x :: rest) (hy : y ≠ 0)
    (hr : Steps tb e below (T.setTop { g with pc := g.pc + 1, stack := .long (x % y) :: rest }) target) : Steps tb e below (T.setTop g) target :=
  XS.lrem hh hx hg hd hs hy (by rw [lrem_mod]; exact hr)
theorem own_aeq {a b : Addr} (h : a = b) : if_acmp.holds .eq (some a) (some b) = true ∧ if_acmp.holds .ne (some a) (some b) = false := by simp [if_acmp.holds, h]
theorem own_ane {a b : Addr} (h : ¬ a = b) : if_acmp.holds .eq (some a) (some b) = false ∧ if_acmp.holds .ne (some a) (some b) = true := by simp [if_acmp.holds, h]
end OwnKit
section OwnHeap
variable {p : Program} {l : Launch} {e : Env} {R : Room} {s : State} {m : MethodId} {args : Array Value} {below : List Frame} {meth : Method} {c : Code} {T : State} {cells slots : Nat} {Z : State} {a0 : Array Value} {h h' : Heap} {n0 : Nat} {G : State → Outcome → Prop} {a b : Addr} {ty : FieldType} {n j : Int32} {f : Int32 → Int32}
/-- an array of ints (bytes, chars, booleans, shorts): its length is n, its place i holds f i -/
def own_Arr (Z : State) (h : Heap) (a : Addr) (ty : FieldType) (n : Int32) (f : Int32 → Int32) : Prop :=
  ∃ cl : Cell, Arr Z h a cl ty ∧ cl.slots.size = n.toNatClampNeg ∧ ¬ n < 0 ∧ ∀ j : Int32, ¬ j < 0 → j < n → cl.slots[j.toNatClampNeg]? = some (.int (f j))
theorem own_Arr.lt (F : own_Arr Z h a ty n f) : a < h.size := by obtain ⟨_, A, -⟩ := F; exact A.lt
theorem own_Arr.ext (F : own_Arr Z h a ty n f) (E : Ext h h') : own_Arr Z h' a ty n f := by obtain ⟨c, A, r⟩ := F; exact ⟨c, A.ext E, r⟩
theorem own_Arr.other {sl : Nat} {v : Value} (F : own_Arr Z h b ty n f) (W : Wr h h' a sl v) (q : b ≠ a) : own_Arr Z h' b ty n f := by obtain ⟨c, A, r⟩ := F; exact ⟨c, A.other W q, r⟩
theorem own_Arr.keep {ws : List Addr} (F : own_Arr Z h a ty n f) (K : Keep h h' ws) (q : a ∉ ws) : own_Arr Z h' a ty n f := by obtain ⟨c, A, r⟩ := F; exact ⟨c, ⟨K.2.1 a c A.1 q, A.2⟩, r⟩
theorem own_Arr.nn (F : own_Arr Z h a ty n f) : ¬ n < 0 := by obtain ⟨_, -, -, q, -⟩ := F; exact q
theorem own_Arr.congr {f' : Int32 → Int32} (F : own_Arr Z h a ty n f) (q : ∀ i, ¬ i < 0 → i < n → f i = f' i) : own_Arr Z h a ty n f' := by
  obtain ⟨c, A, r1, r2, r3⟩ := F
  exact ⟨c, A, r1, r2, fun i hi hn => by rw [r3 i hi hn, q i hi hn]⟩
theorem own_same {i j : Int32} (hi : ¬ i < 0) (hj : ¬ j < 0) (e : i.toNatClampNeg = j.toNatClampNeg) : i = j := by
  apply Int32.toInt_inj.mp
  rw [nat_of hi, nat_of hj, e]
theorem own_Arr.set {v : Int32} (F : own_Arr Z h a ty n f) (hj : ¬ j < 0) (W : Wr h h' a j.toNatClampNeg (.int v)) : own_Arr Z h' a ty n (fun i => if i = j then v else f i) := by
  obtain ⟨c, A, r1, r2, r3⟩ := F
  refine ⟨c.setSlot j.toNatClampNeg (.int v), A.same W, by rw [sz_set]; exact r1, r2, fun i hi hn => ?_⟩
  have hin := inb_of r1 ⟨hi, hn⟩
  by_cases q : i = j
  · subst q
    show _ = some (Value.int (if i = i then v else f i))
    rw [get_hit hin rfl, if_pos rfl]
  · show _ = some (Value.int (if i = j then v else f i))
    rw [get_miss hj hi q, r3 i hi hn, if_neg q]
theorem own_newO (A : own_At p l e R s m args below meth c n0 T h cells slots) (hx : p.tables.exec = Jvm.exec) (hZ : Z.Warmed39 s.vm) {own C : String} {index k : Nat} (hown : s.vm.findClass own = some m.cls) (w : (Cond.classLink own index C).before a0 Z = true) (wi : (Cond.instantiable C k).before a0 Z = true) (wz : (Cond.initialized C).before a0 Z = true)
    {g : JFrame} (hg : g.method = m) (hd : decode c.code g.pc = .ok (.new index, 3)) (hc : cells + 1 ≤ R.cells) (hl : slots + k ≤ R.slots)
    (kk : ∀ T' h' a, a = h.size → own_At p l e R s m args below meth c n0 T' h' (cells + 1) (slots + k) → Ext h h' → Exa Z h' a C → (∀ {O nm d : String} {ty : FieldType}, Laid Z a0 C O nm d → parseFieldDescriptor d = some ty → Fld Z h' a O nm d (defaultValue ty)) → own_Go p.tables e below G (T'.setTop { g with pc := g.pc + 3, stack := .ref a :: g.stack })) : own_Go p.tables e below G (T.setTop g) := by
  obtain ⟨locs, X, eT, N⟩ := A
  obtain ⟨T1, h1, X1, e1, E1, A1, D1, -, st⟩ := newO X hx hZ hown w wi wz eT hg hd hc hl
  exact own_go st (kk T1 h1 h.size rfl ⟨_, X1, e1, N⟩ E1 A1 D1)
theorem own_newP (A : own_At p l e R s m args below meth c n0 T h cells slots) (hx : p.tables.exec = Jvm.exec) (hZ : Z.Warmed39 s.vm) {aty : ArrayType} (w : (Cond.arrayClass (newarray.typeOf aty)).before a0 Z = true) (hty : defaultValue (newarray.typeOf aty) = .int 0) {g : JFrame} (hg : g.method = m) (hd : decode c.code g.pc = .ok (.newarray aty, 2)) {rest : List Value} (hs : g.stack = .int n :: rest)
    (hn : ¬ n < 0) (cap : Nat) (hcap : n.toNatClampNeg ≤ cap) (hb : cap * 8 ≤ 536870912) (hc : cells + 1 ≤ R.cells) (hl : slots + cap ≤ R.slots)
    (kk : ∀ T' h' a, a = h.size → own_At p l e R s m args below meth c n0 T' h' (cells + 1) (slots + cap) → Ext h h' → own_Arr Z h' a (newarray.typeOf aty) n (fun _ => 0) → (∃ k, Arv Z h' a k (newarray.typeOf aty) n [] (.int 0)) → own_Go p.tables e below G (T'.setTop { g with pc := g.pc + 2, stack := .ref a :: rest })) : own_Go p.tables e below G (T.setTop g) := by
  obtain ⟨locs, X, eT, N⟩ := A
  obtain ⟨T1, h1, k1, X1, e1, E1, A1, st⟩ := newP X hx hZ w eT hg hd hs hn hcap hb hc hl
  refine own_go st (kk T1 h1 h.size rfl ⟨_, X1, e1, N⟩ E1 ⟨_, A1, sz_new _ _ _, hn, fun i hi hin => ?_⟩ ⟨k1, hty ▸ Arv.new A1 hn⟩)
  have q := inb_of (c := newA k1 (newarray.typeOf aty) n) (sz_new _ _ _) ⟨hi, hin⟩
  rw [sz_new] at q
  rw [get_new q, hty]
theorem own_putF (A : own_At p l e R s m args below meth c n0 T h cells slots) (hx : p.tables.exec = Jvm.exec) (hZ : Z.Warmed39 s.vm) {own R0 O nm d host C : String} {index kk : Nat} (hown : s.vm.findClass own = some m.cls) (w : (Cond.fieldLink own index R0 nm d).before a0 Z = true ∨ (Cond.fieldLinkNest own index R0 nm d host).before a0 Z = true) (via : Via Z R0 O nm d)
    {v old : Value} (F : Fld Z h a O nm d old) (E : Exa Z h a C) (L : (Cond.lays C O nm d).before a0 Z = true ∨ ((Cond.laysFinal C O nm d).before a0 Z = true ∧ own = O ∧ meth.name = "<init>")) (wi : (Cond.instantiable C kk).before a0 Z = true)
    (hty : parseFieldDescriptor d = some ty) (hn : narrow ty v = v) (hf : fits ty v = true) (q : n0 ≤ a) {g : JFrame} (hg : g.method = m) {rest : List Value} (hs : g.stack = v :: .ref a :: rest) (hd : decode c.code g.pc = .ok (.putfield index, 3))
    (k : ∀ T' h', own_At p l e R s m args below meth c n0 T' h' cells slots → Wr h h' a (Jvm.RoadKit.slotOf Z O nm d) v → own_Go p.tables e below G (T'.setTop { g with pc := g.pc + 3, stack := rest })) : own_Go p.tables e below G (T.setTop g) := by
  obtain ⟨locs, X, eT, N⟩ := A
  obtain ⟨T1, h1, X1, e1, W1, st⟩ := putF X hx hZ hown w via eT F E L wi hty hn hf hg hs hd
  exact own_go st (k T1 h1 ⟨_, X1, e1, Fr.snoc X1 N q⟩ W1)
theorem own_stI (A : own_At p l e R s m args below meth c n0 T h cells slots) (hx : p.tables.exec = Jvm.exec) (hZ : Z.Warmed39 s.vm) {v : Int32} (F : own_Arr Z h a .int n f) (hj : ¬ j < 0 ∧ j < n) (q : n0 ≤ a) {g : JFrame} (hg : g.method = m) {rest : List Value} (hs : g.stack = .int v :: .int j :: .ref a :: rest) (hd : decode c.code g.pc = .ok (.iastore, 1))
    (k : ∀ T' h', own_At p l e R s m args below meth c n0 T' h' cells slots → Wr h h' a j.toNatClampNeg (.int v) → own_Arr Z h' a .int n (fun i => if i = j then v else f i) → own_Go p.tables e below G (T'.setTop { g with pc := g.pc + 1, stack := rest })) : own_Go p.tables e below G (T.setTop g) := by
  obtain ⟨locs, X, eT, N⟩ := A
  obtain ⟨c1, A1, S1, M1, H1⟩ := id F
  obtain ⟨T1, h1, X1, e1, W1, st⟩ := stI X hx hZ eT A1 (inb_of S1 hj) hg hs hd
  exact own_go st (k T1 h1 ⟨_, X1, e1, Fr.snoc X1 N q⟩ W1 (F.set hj.1 W1))
theorem own_stB (A : own_At p l e R s m args below meth c n0 T h cells slots) (hx : p.tables.exec = Jvm.exec) (hZ : Z.Warmed39 s.vm) {v : Int32} (F : own_Arr Z h a .byte n f) (hj : ¬ j < 0 ∧ j < n) (q : n0 ≤ a) {g : JFrame} (hg : g.method = m) {rest : List Value} (hs : g.stack = .int v :: .int j :: .ref a :: rest) (hd : decode c.code g.pc = .ok (.bastore, 1))
    (k : ∀ T' h', own_At p l e R s m args below meth c n0 T' h' cells slots → Wr h h' a j.toNatClampNeg (.int (nar .byte v)) → own_Arr Z h' a .byte n (fun i => if i = j then nar .byte v else f i) → own_Go p.tables e below G (T'.setTop { g with pc := g.pc + 1, stack := rest })) : own_Go p.tables e below G (T.setTop g) := by
  obtain ⟨locs, X, eT, N⟩ := A
  obtain ⟨c1, A1, S1, M1, H1⟩ := id F
  obtain ⟨T1, h1, X1, e1, W1, st⟩ := stB X hx hZ eT A1 (inb_of S1 hj) hg hs hd
  exact own_go st (k T1 h1 ⟨_, X1, e1, Fr.snoc X1 N q⟩ W1 (F.set hj.1 W1))
theorem own_stC (A : own_At p l e R s m args below meth c n0 T h cells slots) (hx : p.tables.exec = Jvm.exec) (hZ : Z.Warmed39 s.vm) {v : Int32} (F : own_Arr Z h a .char n f) (hj : ¬ j < 0 ∧ j < n) (q : n0 ≤ a) {g : JFrame} (hg : g.method = m) {rest : List Value} (hs : g.stack = .int v :: .int j :: .ref a :: rest) (hd : decode c.code g.pc = .ok (.castore, 1))
    (k : ∀ T' h', own_At p l e R s m args below meth c n0 T' h' cells slots → Wr h h' a j.toNatClampNeg (.int (nar .char v)) → own_Arr Z h' a .char n (fun i => if i = j then nar .char v else f i) → own_Go p.tables e below G (T'.setTop { g with pc := g.pc + 1, stack := rest })) : own_Go p.tables e below G (T.setTop g) := by
  obtain ⟨locs, X, eT, N⟩ := A
  obtain ⟨c1, A1, S1, M1, H1⟩ := id F
  obtain ⟨T1, h1, X1, e1, W1, st⟩ := stC X hx hZ eT A1 (inb_of S1 hj) hg hs hd
  exact own_go st (k T1 h1 ⟨_, X1, e1, Fr.snoc X1 N q⟩ W1 (F.set hj.1 W1))
theorem own_ldI (A : own_At p l e R s m args below meth c n0 T h cells slots) (hx : p.tables.exec = Jvm.exec) (hZ : Z.Warmed39 s.vm) (F : own_Arr Z h a .int n f) (hj : ¬ j < 0 ∧ j < n) {g : JFrame} (hg : g.method = m) {rest : List Value} (hs : g.stack = .int j :: .ref a :: rest) (hd : decode c.code g.pc = .ok (.iaload, 1))
    (k : own_Go p.tables e below G (T.setTop { g with pc := g.pc + 1, stack := .int (f j) :: rest })) : own_Go p.tables e below G (T.setTop g) := by
  obtain ⟨locs, X, eT, N⟩ := A
  obtain ⟨c1, A1, S1, M1, H1⟩ := F
  exact own_go (fun t k => X.iaload hx (by rw [eT]; exact A1.1) (State.isArrayOf_alike hZ.alike A1.2.1) A1.2.2 (inb_of S1 hj) (H1 j hj.1 hj.2) hg hs hd t k) k
theorem own_ldB (A : own_At p l e R s m args below meth c n0 T h cells slots) (hx : p.tables.exec = Jvm.exec) (hZ : Z.Warmed39 s.vm) (F : own_Arr Z h a .byte n f) (hj : ¬ j < 0 ∧ j < n) {g : JFrame} (hg : g.method = m) {rest : List Value} (hs : g.stack = .int j :: .ref a :: rest) (hd : decode c.code g.pc = .ok (.baload, 1))
    (k : own_Go p.tables e below G (T.setTop { g with pc := g.pc + 1, stack := .int (f j) :: rest })) : own_Go p.tables e below G (T.setTop g) := by
  obtain ⟨locs, X, eT, N⟩ := A
  obtain ⟨c1, A1, S1, M1, H1⟩ := F
  exact own_go (fun t k => X.baloadBytes hx (by rw [eT]; exact A1.1) (State.isArrayOf_alike hZ.alike A1.2.1) A1.2.2 (inb_of S1 hj) (H1 j hj.1 hj.2) hg hs hd t k) k
theorem own_ldC (A : own_At p l e R s m args below meth c n0 T h cells slots) (hx : p.tables.exec = Jvm.exec) (hZ : Z.Warmed39 s.vm) (F : own_Arr Z h a .char n f) (hj : ¬ j < 0 ∧ j < n) {g : JFrame} (hg : g.method = m) {rest : List Value} (hs : g.stack = .int j :: .ref a :: rest) (hd : decode c.code g.pc = .ok (.caload, 1))
    (k : own_Go p.tables e below G (T.setTop { g with pc := g.pc + 1, stack := .int (f j) :: rest })) : own_Go p.tables e below G (T.setTop g) := by
  obtain ⟨locs, X, eT, N⟩ := A
  obtain ⟨c1, A1, S1, M1, H1⟩ := F
  exact own_go (fun t k => X.caload hx (by rw [eT]; exact A1.1) (State.isArrayOf_alike hZ.alike A1.2.1) A1.2.2 (inb_of S1 hj) (H1 j hj.1 hj.2) hg hs hd t k) k
theorem own_len (A : own_At p l e R s m args below meth c n0 T h cells slots) (hx : p.tables.exec = Jvm.exec) (hZ : Z.Warmed39 s.vm) (F : own_Arr Z h a ty n f) {g : JFrame} (hg : g.method = m) {rest : List Value} (hs : g.stack = .ref a :: rest) (hd : decode c.code g.pc = .ok (.arraylength, 1))
    (k : own_Go p.tables e below G (T.setTop { g with pc := g.pc + 1, stack := .int n :: rest })) : own_Go p.tables e below G (T.setTop g) := by
  obtain ⟨locs, X, eT, N⟩ := A
  obtain ⟨c1, A1, S1, M1, H1⟩ := F
  rw [← len_of S1 M1] at k
  exact own_go (fun t k => X.arraylength hx (by rw [eT]; exact A1.1) (State.isArrayOf_alike hZ.alike A1.2.1) hg hs hd t k) k
end OwnHeap
/-! small naturals as ints -/
theorem own_nI {i : Nat} (hi : i < 2 ^ 31) : (Int32.ofNat i).toInt = (i : Int) := Int32.toInt_ofNat_small hi
theorem own_nlt {i j : Nat} (hi : i < 2 ^ 31) (hj : j < 2 ^ 31) : (Int32.ofNat i < Int32.ofNat j) ↔ i < j := by rw [Int32.lt_iff_toInt_lt, own_nI hi, own_nI hj]; omega
theorem own_nn {i : Nat} (hi : i < 2 ^ 31) : ¬ Int32.ofNat i < 0 := by rw [Int32.lt_iff_toInt_lt, own_nI hi]; have : (0 : Int32).toInt = 0 := rfl; omega
theorem own_neq {i j : Nat} (hi : i < 2 ^ 31) (hj : j < 2 ^ 31) : (Int32.ofNat i = Int32.ofNat j) ↔ i = j := by rw [← Int32.toInt_inj, own_nI hi, own_nI hj]; omega
theorem own_nadd (i j : Nat) : Int32.ofNat i + Int32.ofNat j = Int32.ofNat (i + j) := (Int32.ofNat_add i j).symm
theorem own_nmul (i j : Nat) : Int32.ofNat i * Int32.ofNat j = Int32.ofNat (i * j) := (Int32.ofNat_mul i j).symm
theorem own_succ (i : Nat) : Int32.ofNat i + (1 : Int32) = Int32.ofNat (i + 1) := own_nadd i 1
theorem own_dbl (i : Nat) : (2 : Int32) * Int32.ofNat i = Int32.ofNat (2 * i) := own_nmul 2 i
theorem own_prd (i : Nat) : Int32.ofNat (i + 1) + (-1 : Int32) = Int32.ofNat i := by rw [← own_succ, Int32.add_assoc]; show Int32.ofNat i + 0 = _; rw [Int32.add_zero]
theorem own_sub1 (i : Nat) : Int32.ofNat (i + 1) - (1 : Int32) = Int32.ofNat i := by rw [← own_succ, Int32.add_sub_cancel]
theorem own_nge {i j : Nat} (hi : i < 2 ^ 31) (hj : j < 2 ^ 31) (h : ¬ Int32.ofNat i < Int32.ofNat j) : j ≤ i := Nat.le_of_not_lt fun z => h ((own_nlt hi hj).mpr z)
theorem ef_6 (m : MethodId) (p0 : Int32) : entryFrame m #[(.int p0)] 1 = mkF m 0 #[.val (.int p0)] [] := by first | (simp [entryFrame, mkF, argsToLocals, Value.category]; done) | rfl
theorem pn_6 : plainName "com/example/indexloom/indexloom/data/DataHeader" = true := by first | (simp [plainName, overriddenIn]; done) | decide +kernel
theorem d6_0 : decode prog_13_method_12_code 0 = .ok (.iload_n 0, 1) := by decide +kernel
theorem d6_1 : decode prog_13_method_12_code 1 = .ok (.bipush 32, 2) := by decide +kernel
theorem d6_3 : decode prog_13_method_12_code 3 = .ok (.if_icmp .eq 15, 3) := by decide +kernel
theorem d6_18 : decode prog_13_method_12_code 18 = .ok (.iconst 1, 1) := by decide +kernel
theorem d6_19 : decode prog_13_method_12_code 19 = .ok (.goto 4, 3) := by decide +kernel
theorem d6_6 : decode prog_13_method_12_code 6 = .ok (.iload_n 0, 1) := by decide +kernel
theorem d6_7 : decode prog_13_method_12_code 7 = .ok (.bipush 9, 2) := by decide +kernel
theorem d6_9 : decode prog_13_method_12_code 9 = .ok (.if_icmp .eq 9, 3) := by decide +kernel
theorem d6_12 : decode prog_13_method_12_code 12 = .ok (.iload_n 0, 1) := by decide +kernel
theorem d6_13 : decode prog_13_method_12_code 13 = .ok (.bipush 13, 2) := by decide +kernel
theorem d6_15 : decode prog_13_method_12_code 15 = .ok (.if_icmp .ne 7, 3) := by decide +kernel
theorem d6_22 : decode prog_13_method_12_code 22 = .ok (.iconst 0, 1) := by decide +kernel
theorem d6_23 : decode prog_13_method_12_code 23 = .ok (.ireturn, 1) := by decide +kernel
def f6 (p0 : Int32) : Int32 := (nar .boolean (if p0 = (32 : Int32) then (1 : Int32) else (if p0 = (9 : Int32) then (1 : Int32) else (if p0 = (13 : Int32) then (1 : Int32) else (0 : Int32)))))
set_option maxRecDepth 65536 in
set_option maxHeartbeats 40000000 in
theorem rm6 (l : Launch) (Z : State) (a0 : Array Value) (hw : ∀ d ∈ tables_1, d.before a0 Z = true) (p0 : Int32) (h0 : Heap) (n0 : Nat) :
    own_Met l Z n0 (⟨"com/example/indexloom/indexloom/data/DataHeader", "isBlank", "(B)Z"⟩ : MethodName) prog_13_method_12_code 1 (some .boolean) ({ frames := 0, cells := 0, slots := 0, locals := 0 } : Room) #[(.int p0)] h0 (fun v h => v = some (.int (f6 p0)) ∧ h0 = h) := by
  refine own_met (plainFor_of_name pn_6) ?_
  intro p e s m below meth c T0 hx hby hml hown hnm hret hlk hZ A0
  rw [ef_6]
  show own_Go _ _ _ _ (T0.setTop (mkF m 0 #[.val (.int p0)] []))
  refine own_go (fun t_ k_ => XS.iloadN A0.here hx rfl (hb hby d6_0) rfl k_) ?_
  show own_Go _ _ _ _ (T0.setTop (mkF m 1 #[.val (.int p0)] [(.int p0)]))
  refine own_go (fun t_ k_ => XS.bipush A0.here hx rfl (hb hby d6_1) k_) ?_
  show own_Go _ _ _ _ (T0.setTop (mkF m 3 #[.val (.int p0)] [(.int (32 : Int32)), (.int p0)]))
  have mg1 : ∀ t_, Steps p.tables e below (T0.setTop (mkF m 23 #[.val (.int p0)] [(.int (if p0 = (32 : Int32) then (1 : Int32) else (if p0 = (9 : Int32) then (1 : Int32) else (if p0 = (13 : Int32) then (1 : Int32) else (0 : Int32)))))])) t_ → Steps p.tables e below (T0.setTop (mkF m 3 #[.val (.int p0)] [(.int (32 : Int32)), (.int p0)])) t_ := by
    intro t_ k_
    by_cases hm3_0 : p0 = (32 : Int32)
    ·
      simp only [if_pos hm3_0] at k_
      exact (XS.icmpYes A0.here hx rfl (pc0 := 3) (pc' := 18) rfl (hb hby d6_3) rfl (teq hm3_0).1 (by decide) (by decide) (XS.iconst A0.here hx rfl (hb hby d6_18) (XS.goto A0.here hx rfl (pc0 := 19) (pc' := 23) rfl (hb hby d6_19) (by decide) (by decide) k_)))
    ·
      refine XS.icmpNo A0.here hx rfl (hb hby d6_3) rfl (feq hm3_0).1 (XS.iloadN A0.here hx rfl (hb hby d6_6) rfl (XS.bipush A0.here hx rfl (hb hby d6_7) ?_))
      by_cases hm9_1 : p0 = (9 : Int32)
      ·
        simp only [if_neg hm3_0, if_pos hm9_1] at k_
        exact (XS.icmpYes A0.here hx rfl (pc0 := 9) (pc' := 18) rfl (hb hby d6_9) rfl (teq hm9_1).1 (by decide) (by decide) (XS.iconst A0.here hx rfl (hb hby d6_18) (XS.goto A0.here hx rfl (pc0 := 19) (pc' := 23) rfl (hb hby d6_19) (by decide) (by decide) k_)))
      ·
        refine XS.icmpNo A0.here hx rfl (hb hby d6_9) rfl (feq hm9_1).1 (XS.iloadN A0.here hx rfl (hb hby d6_12) rfl (XS.bipush A0.here hx rfl (hb hby d6_13) ?_))
        by_cases hm15_2 : p0 = (13 : Int32)
        ·
          simp only [if_neg hm3_0, if_neg hm9_1, if_pos hm15_2] at k_
          exact (XS.icmpNo A0.here hx rfl (hb hby d6_15) rfl (teq hm15_2).2 (XS.iconst A0.here hx rfl (hb hby d6_18) (XS.goto A0.here hx rfl (pc0 := 19) (pc' := 23) rfl (hb hby d6_19) (by decide) (by decide) k_)))
        ·
          simp only [if_neg hm3_0, if_neg hm9_1, if_neg hm15_2] at k_
          exact (XS.icmpYes A0.here hx rfl (pc0 := 15) (pc' := 22) rfl (hb hby d6_15) rfl (feq hm15_2).2 (by decide) (by decide) (XS.iconst A0.here hx rfl (hb hby d6_22) k_))
  refine own_go mg1 ?_
  show own_Go _ _ _ _ (T0.setTop (mkF m 23 #[.val (.int p0)] [(.int (if p0 = (32 : Int32) then (1 : Int32) else (if p0 = (9 : Int32) then (1 : Int32) else (if p0 = (13 : Int32) then (1 : Int32) else (0 : Int32)))))]))
  generalize hx2 : (if p0 = (32 : Int32) then (1 : Int32) else (if p0 = (9 : Int32) then (1 : Int32) else (if p0 = (13 : Int32) then (1 : Int32) else (0 : Int32)))) = x2
  show own_Go _ _ _ _ (T0.setTop (mkF m 23 #[.val (.int p0)] [(.int x2)]))
  refine own_retN A0 hx (t := .boolean) hret (by simp) hlk (by decide) (by decide) (hb hby d6_23) ?_
  subst hx2
  exact ⟨rfl, rfl⟩
def own_end (cm : Nat → Bool) (t : Nat) : Nat → Nat → Nat
  | 0, i => i
  | k + 1, i => if cm i = true then i else own_end cm t k (i + 1)
def own_first (bl : Nat → Bool) : Nat → Nat → Nat
  | 0, i => i
  | k + 1, i => if bl i = true then own_first bl k (i + 1) else i
def own_last (bl : Nat → Bool) (fi : Nat) : Nat → Nat
  | 0 => fi
  | k + 1 => if bl (fi + k) = true then own_last bl fi k else fi + k + 1
/-- the fields of the bytes from st to t: of each the first place and the one behind the last -/
def own_fields (cm bl : Nat → Bool) (t : Nat) : Nat → Nat → List (Nat × Nat)
  | 0, _ => []
  | k + 1, st => (own_first bl (own_end cm t (t - st) st - st) st, own_last bl (own_first bl (own_end cm t (t - st) st - st) st) (own_end cm t (t - st) st - own_first bl (own_end cm t (t - st) st - st) st)) :: (if own_end cm t (t - st) st < t then own_fields cm bl t k (own_end cm t (t - st) st + 1) else [])
theorem own_end_le {cm : Nat → Bool} {t : Nat} : ∀ (k i : Nat), t - i = k → i ≤ t → i ≤ own_end cm t k i ∧ own_end cm t k i ≤ t := by
  intro k
  induction k with
  | zero => intro i h1 h2; exact ⟨Nat.le_refl _, h2⟩
  | succ k ih =>
    intro i h1 h2
    unfold own_end
    split
    · omega
    · have := ih (i + 1) (by omega) (by omega); omega
theorem own_first_le {bl : Nat → Bool} : ∀ (k i : Nat), i ≤ own_first bl k i ∧ own_first bl k i ≤ i + k := by
  intro k
  induction k with
  | zero => intro i; exact ⟨Nat.le_refl _, Nat.le_refl _⟩
  | succ k ih =>
    intro i
    unfold own_first
    split
    · have := ih (i + 1); omega
    · omega
theorem own_last_le {bl : Nat → Bool} {fi : Nat} : ∀ (k : Nat), fi ≤ own_last bl fi k ∧ own_last bl fi k ≤ fi + k := by
  intro k
  induction k with
  | zero => exact ⟨Nat.le_refl _, Nat.le_refl _⟩
  | succ k ih =>
    unfold own_last
    split
    · omega
    · omega
/-- the bounds' places 2 j and 2 j + 1 hold the j-th field, where there is one, else what they held -/
def own_Bd (q : Nat) (fs : List (Nat × Nat)) (fl c : Int32 → Int32) : Prop :=
  ∀ j, j < q → c (Int32.ofNat (2 * j)) = (if j < fs.length then Int32.ofNat (fs.getD j (0, 0)).1 else fl (Int32.ofNat (2 * j))) ∧ c (Int32.ofNat (2 * j + 1)) = (if j < fs.length then Int32.ofNat (fs.getD j (0, 0)).2 else fl (Int32.ofNat (2 * j + 1)))
theorem own_Bd.full {q : Nat} {fs : List (Nat × Nat)} {fl c : Int32 → Int32} (h : own_Bd q fs fl c) (hq : q ≤ fs.length) (x : Nat × Nat) : own_Bd q (fs ++ [x]) fl c := by
  intro j hj
  have h1 := h j hj
  have e : (fs ++ [x]).getD j (0, 0) = fs.getD j (0, 0) := by
    rw [List.getD_eq_getElem?_getD, List.getD_eq_getElem?_getD, List.getElem?_append_left (by omega)]
  rw [e, List.length_append, List.length_singleton, if_pos (show j < fs.length + 1 by omega), if_pos (show j < fs.length + 1 by omega)]
  rw [if_pos (show j < fs.length by omega), if_pos (show j < fs.length by omega)] at h1
  exact h1
theorem own_Bd.put {q : Nat} {fs : List (Nat × Nat)} {fl c : Int32 → Int32} (h : own_Bd q fs fl c) (hq : fs.length < q) (hb : 2 * q < 2 ^ 31) (a b : Nat) :
    own_Bd q (fs ++ [(a, b)]) fl (fun i => if i = Int32.ofNat (2 * fs.length) + (1 : Int32) then Int32.ofNat b else (fun i => if i = Int32.ofNat (2 * fs.length) then Int32.ofNat a else c i) i) := by
  intro j hj
  have h1 := h j hj
  simp only [own_succ, own_neq (show 2 * j < 2 ^ 31 by omega) (show 2 * fs.length + 1 < 2 ^ 31 by omega), own_neq (show 2 * j + 1 < 2 ^ 31 by omega) (show 2 * fs.length + 1 < 2 ^ 31 by omega), own_neq (show 2 * j < 2 ^ 31 by omega) (show 2 * fs.length < 2 ^ 31 by omega), own_neq (show 2 * j + 1 < 2 ^ 31 by omega) (show 2 * fs.length < 2 ^ 31 by omega)]
  rw [List.length_append, List.length_singleton]
  rcases Nat.lt_trichotomy j fs.length with hl | he | hg
  · have e : (fs ++ [(a, b)]).getD j (0, 0) = fs.getD j (0, 0) := by
      rw [List.getD_eq_getElem?_getD, List.getD_eq_getElem?_getD, List.getElem?_append_left hl]
    rw [if_pos hl, if_pos hl] at h1
    rw [e, if_neg (show ¬ 2 * j = 2 * fs.length + 1 by omega), if_neg (show ¬ 2 * j = 2 * fs.length by omega), if_neg (show ¬ 2 * j + 1 = 2 * fs.length + 1 by omega), if_neg (show ¬ 2 * j + 1 = 2 * fs.length by omega), if_pos (show j < fs.length + 1 by omega), if_pos (show j < fs.length + 1 by omega)]
    exact h1
  · have e : (fs ++ [(a, b)]).getD j (0, 0) = (a, b) := by
      rw [List.getD_eq_getElem?_getD, List.getElem?_append_right (by omega)]
      have : j - fs.length = 0 := by omega
      rw [this]
      rfl
    rw [e, if_neg (show ¬ 2 * j = 2 * fs.length + 1 by omega), if_pos (show 2 * j = 2 * fs.length by omega), if_pos (show 2 * j + 1 = 2 * fs.length + 1 by omega), if_pos (show j < fs.length + 1 by omega), if_pos (show j < fs.length + 1 by omega)]
    exact ⟨rfl, rfl⟩
  · rw [if_neg (show ¬ j < fs.length by omega), if_neg (show ¬ j < fs.length by omega)] at h1
    rw [if_neg (show ¬ 2 * j = 2 * fs.length + 1 by omega), if_neg (show ¬ 2 * j = 2 * fs.length by omega), if_neg (show ¬ 2 * j + 1 = 2 * fs.length + 1 by omega), if_neg (show ¬ 2 * j + 1 = 2 * fs.length by omega), if_neg (show ¬ j < fs.length + 1 by omega), if_neg (show ¬ j < fs.length + 1 by omega)]
    exact h1
theorem own_blank (b : Int32) : f6 b = (if b = 32 ∨ b = 9 ∨ b = 13 then 1 else 0) := by
  unfold f6
  by_cases h1 : b = 32
  · rw [if_pos h1, if_pos (Or.inl h1)]; rfl
  · by_cases h2 : b = 9
    · rw [if_neg h1, if_pos h2, if_pos (Or.inr (Or.inl h2))]; rfl
    · by_cases h3 : b = 13
      · rw [if_neg h1, if_neg h2, if_pos h3, if_pos (Or.inr (Or.inr h3))]; rfl
      · rw [if_neg h1, if_neg h2, if_neg h3, if_neg (by simp [h1, h2, h3])]; rfl
/-- which bytes are commas, which are blank -/
def own_Cls (cm bl : Nat → Bool) (t : Nat) (fb : Int32 → Int32) : Prop := ∀ i, i < t → (fb (Int32.ofNat i) = 44 ↔ cm i = true) ∧ ((fb (Int32.ofNat i) = 32 ∨ fb (Int32.ofNat i) = 9 ∨ fb (Int32.ofNat i) = 13) ↔ bl i = true)
theorem own_blank0 (b : Int32) : f6 b = 0 ↔ ¬ (b = 32 ∨ b = 9 ∨ b = 13) := by
  rw [own_blank]
  by_cases h : b = 32 ∨ b = 9 ∨ b = 13
  · rw [if_pos h]
    exact ⟨fun q => absurd q (by decide), fun q => absurd h q⟩
  · rw [if_neg h]
    exact ⟨fun _ => h, fun _ => rfl⟩
theorem d4_18 : decode prog_13_method_11_code 18 = .ok (.iload 7, 2) := by decide +kernel
theorem d4_20 : decode prog_13_method_11_code 20 = .ok (.iload_n 2, 1) := by decide +kernel
theorem d4_21 : decode prog_13_method_11_code 21 = .ok (.if_icmp .ge 18, 3) := by decide +kernel
theorem d4_24 : decode prog_13_method_11_code 24 = .ok (.aload_n 0, 1) := by decide +kernel
theorem d4_25 : decode prog_13_method_11_code 25 = .ok (.iload 7, 2) := by decide +kernel
theorem d4_27 : decode prog_13_method_11_code 27 = .ok (.baload, 1) := by decide +kernel
theorem d4_28 : decode prog_13_method_11_code 28 = .ok (.bipush 44, 2) := by decide +kernel
theorem d4_30 : decode prog_13_method_11_code 30 = .ok (.if_icmp .eq 9, 3) := by decide +kernel
theorem d4_33 : decode prog_13_method_11_code 33 = .ok (.iinc 7 1, 3) := by decide +kernel
theorem d4_36 : decode prog_13_method_11_code 36 = .ok (.goto (-18), 3) := by decide +kernel
set_option maxRecDepth 65536 in
set_option maxHeartbeats 40000000 in
theorem own_lpA {p : Program} {l : Launch} {e : Env} {s : State} {m : MethodId} {args : Array Value} {below : List Frame} {meth : Method} {c : Code} {Z : State} {a0 : Array Value} {n0 : Nat} (hx : p.tables.exec = Jvm.exec) (hby : c.code = prog_13_method_11_code) (hml : c.maxLocals = 10) (hown : s.vm.findClass "com/example/indexloom/indexloom/data/DataHeader" = some m.cls) (hret : meth.sig.returnType = some .int) (hlk : meth.locks = false) (hZ : Z.Warmed39 s.vm) (hw : ∀ d ∈ tables_1, d.before a0 Z = true) (r0 r3 : Addr) (p1 x4 x5 x6 : Int32) (t : Nat) (nb : Int32) (fb : Int32 → Int32) (cm bl : Nat → Bool) {h0 : Heap} {G : State → Outcome → Prop} (V0 : own_Arr Z h0 r0 .byte nb fb) (ht : (t : Int) ≤ nb.toInt) (HC : own_Cls cm bl t fb) {s8 s9 : Slot} {T0 : State} (A0 : own_At p l e ({ frames := 1, cells := 0, slots := 0, locals := 12 } : Room) s m args below meth c n0 T0 h0 0 0) :
    ∀ (k i : Nat), t - i = k → i ≤ t → own_Go p.tables e below G (T0.setTop (mkF m 39 #[.val (.ref r0), .val (.int p1), .val (.int (Int32.ofNat t)), .val (.ref r3), .val (.int x4), .val (.int x5), .val (.int x6), .val (.int (Int32.ofNat (own_end cm t k i))), s8, s9] [])) → own_Go p.tables e below G (T0.setTop (mkF m 18 #[.val (.ref r0), .val (.int p1), .val (.int (Int32.ofNat t)), .val (.ref r3), .val (.int x4), .val (.int x5), .val (.int x6), .val (.int (Int32.ofNat i)), s8, s9] [])) := by
  intro k
  induction k with
  | zero =>
    intro i h1 h2 K
    show own_Go _ _ _ _ (T0.setTop (mkF m 18 #[.val (.ref r0), .val (.int p1), .val (.int (Int32.ofNat t)), .val (.ref r3), .val (.int x4), .val (.int x5), .val (.int x6), .val (.int (Int32.ofNat i)), s8, s9] []))
    refine own_go (fun t_ k_ => XS.iload A0.here hx rfl (hb hby d4_18) rfl k_) ?_
    show own_Go _ _ _ _ (T0.setTop (mkF m 20 #[.val (.ref r0), .val (.int p1), .val (.int (Int32.ofNat t)), .val (.ref r3), .val (.int x4), .val (.int x5), .val (.int x6), .val (.int (Int32.ofNat i)), s8, s9] [(.int (Int32.ofNat i))]))
    refine own_go (fun t_ k_ => XS.iloadN A0.here hx rfl (hb hby d4_20) rfl k_) ?_
    show own_Go _ _ _ _ (T0.setTop (mkF m 21 #[.val (.ref r0), .val (.int p1), .val (.int (Int32.ofNat t)), .val (.ref r3), .val (.int x4), .val (.int x5), .val (.int x6), .val (.int (Int32.ofNat i)), s8, s9] [(.int (Int32.ofNat t)), (.int (Int32.ofNat i))]))
    have hc1 : ¬ ((Int32.ofNat i) < (Int32.ofNat t)) := fun q => absurd ((own_nlt (by have := nb.toInt_lt; omega) (by have := nb.toInt_lt; omega)).mp q) (by omega)
    refine own_go (fun t_ k_ => XS.icmpYes A0.here hx rfl (pc0 := 21) (pc' := 39) rfl (hb hby d4_21) rfl (flt hc1).2.1 (by decide) (by decide) k_) ?_
    show own_Go _ _ _ _ (T0.setTop (mkF m 39 #[.val (.ref r0), .val (.int p1), .val (.int (Int32.ofNat t)), .val (.ref r3), .val (.int x4), .val (.int x5), .val (.int x6), .val (.int (Int32.ofNat i)), s8, s9] []))
    exact K
  | succ k ih =>
    intro i h1 h2 K
    show own_Go _ _ _ _ (T0.setTop (mkF m 18 #[.val (.ref r0), .val (.int p1), .val (.int (Int32.ofNat t)), .val (.ref r3), .val (.int x4), .val (.int x5), .val (.int x6), .val (.int (Int32.ofNat i)), s8, s9] []))
    refine own_go (fun t_ k_ => XS.iload A0.here hx rfl (hb hby d4_18) rfl k_) ?_
    show own_Go _ _ _ _ (T0.setTop (mkF m 20 #[.val (.ref r0), .val (.int p1), .val (.int (Int32.ofNat t)), .val (.ref r3), .val (.int x4), .val (.int x5), .val (.int x6), .val (.int (Int32.ofNat i)), s8, s9] [(.int (Int32.ofNat i))]))
    refine own_go (fun t_ k_ => XS.iloadN A0.here hx rfl (hb hby d4_20) rfl k_) ?_
    show own_Go _ _ _ _ (T0.setTop (mkF m 21 #[.val (.ref r0), .val (.int p1), .val (.int (Int32.ofNat t)), .val (.ref r3), .val (.int x4), .val (.int x5), .val (.int x6), .val (.int (Int32.ofNat i)), s8, s9] [(.int (Int32.ofNat t)), (.int (Int32.ofNat i))]))
    have hc2 : (Int32.ofNat i) < (Int32.ofNat t) := (own_nlt (by have := nb.toInt_lt; omega) (by have := nb.toInt_lt; omega)).mpr (by omega)
    refine own_go (fun t_ k_ => XS.icmpNo A0.here hx rfl (hb hby d4_21) rfl (tlt hc2).2.1 k_) ?_
    show own_Go _ _ _ _ (T0.setTop (mkF m 24 #[.val (.ref r0), .val (.int p1), .val (.int (Int32.ofNat t)), .val (.ref r3), .val (.int x4), .val (.int x5), .val (.int x6), .val (.int (Int32.ofNat i)), s8, s9] []))
    refine own_go (fun t_ k_ => XS.aloadN A0.here hx rfl (hb hby d4_24) rfl rfl k_) ?_
    show own_Go _ _ _ _ (T0.setTop (mkF m 25 #[.val (.ref r0), .val (.int p1), .val (.int (Int32.ofNat t)), .val (.ref r3), .val (.int x4), .val (.int x5), .val (.int x6), .val (.int (Int32.ofNat i)), s8, s9] [(.ref r0)]))
    refine own_go (fun t_ k_ => XS.iload A0.here hx rfl (hb hby d4_25) rfl k_) ?_
    show own_Go _ _ _ _ (T0.setTop (mkF m 27 #[.val (.ref r0), .val (.int p1), .val (.int (Int32.ofNat t)), .val (.ref r3), .val (.int x4), .val (.int x5), .val (.int x6), .val (.int (Int32.ofNat i)), s8, s9] [(.int (Int32.ofNat i)), (.ref r0)]))
    refine own_ldB A0 hx hZ V0 ⟨own_nn (by have := nb.toInt_lt; omega), by rw [Int32.lt_iff_toInt_lt, own_nI (by have := nb.toInt_lt; omega)]; omega⟩ rfl rfl (hb hby d4_27) ?_
    show own_Go _ _ _ _ (T0.setTop (mkF m 28 #[.val (.ref r0), .val (.int p1), .val (.int (Int32.ofNat t)), .val (.ref r3), .val (.int x4), .val (.int x5), .val (.int x6), .val (.int (Int32.ofNat i)), s8, s9] [(.int (fb (Int32.ofNat i)))]))
    refine own_go (fun t_ k_ => XS.bipush A0.here hx rfl (hb hby d4_28) k_) ?_
    show own_Go _ _ _ _ (T0.setTop (mkF m 30 #[.val (.ref r0), .val (.int p1), .val (.int (Int32.ofNat t)), .val (.ref r3), .val (.int x4), .val (.int x5), .val (.int x6), .val (.int (Int32.ofNat i)), s8, s9] [(.int (44 : Int32)), (.int (fb (Int32.ofNat i)))]))
    by_cases hc3 : (fb (Int32.ofNat i)) = (44 : Int32)
    ·
      refine own_go (fun t_ k_ => XS.icmpYes A0.here hx rfl (pc0 := 30) (pc' := 39) rfl (hb hby d4_30) rfl (teq hc3).1 (by decide) (by decide) k_) ?_
      show own_Go _ _ _ _ (T0.setTop (mkF m 39 #[.val (.ref r0), .val (.int p1), .val (.int (Int32.ofNat t)), .val (.ref r3), .val (.int x4), .val (.int x5), .val (.int x6), .val (.int (Int32.ofNat i)), s8, s9] []))
      rw [show own_end cm t (k + 1) i = i by unfold own_end; rw [if_pos ((HC i (by omega)).1.mp hc3)]] at K
      exact K
    ·
      refine own_go (fun t_ k_ => XS.icmpNo A0.here hx rfl (hb hby d4_30) rfl (feq hc3).1 k_) ?_
      show own_Go _ _ _ _ (T0.setTop (mkF m 33 #[.val (.ref r0), .val (.int p1), .val (.int (Int32.ofNat t)), .val (.ref r3), .val (.int x4), .val (.int x5), .val (.int x6), .val (.int (Int32.ofNat i)), s8, s9] []))
      refine own_go (fun t_ k_ => XS.iinc A0.here hx rfl (hb hby d4_33) rfl (l' := #[.val (.ref r0), .val (.int p1), .val (.int (Int32.ofNat t)), .val (.ref r3), .val (.int x4), .val (.int x5), .val (.int x6), .val (.int ((Int32.ofNat i) + (1 : Int32))), s8, s9]) rfl k_) ?_
      show own_Go _ _ _ _ (T0.setTop (mkF m 36 #[.val (.ref r0), .val (.int p1), .val (.int (Int32.ofNat t)), .val (.ref r3), .val (.int x4), .val (.int x5), .val (.int x6), .val (.int ((Int32.ofNat i) + (1 : Int32))), s8, s9] []))
      refine own_go (fun t_ k_ => XS.goto A0.here hx rfl (pc0 := 36) (pc' := 18) rfl (hb hby d4_36) (by decide) (by decide) k_) ?_
      show own_Go _ _ _ _ (T0.setTop (mkF m 18 #[.val (.ref r0), .val (.int p1), .val (.int (Int32.ofNat t)), .val (.ref r3), .val (.int x4), .val (.int x5), .val (.int x6), .val (.int ((Int32.ofNat i) + (1 : Int32))), s8, s9] []))
      rw [show own_end cm t (k + 1) i = own_end cm t k (i + 1) by rw [own_end]; rw [if_neg (fun q => hc3 ((HC i (by omega)).1.mpr q))]] at K
      rw [own_succ]
      exact ih (i + 1) (by omega) (by omega) K
theorem d4_56 : decode prog_13_method_11_code 56 = .ok (.iload 8, 2) := by decide +kernel
theorem d4_58 : decode prog_13_method_11_code 58 = .ok (.iload 9, 2) := by decide +kernel
theorem d4_60 : decode prog_13_method_11_code 60 = .ok (.if_icmp .ge 19, 3) := by decide +kernel
theorem d4_63 : decode prog_13_method_11_code 63 = .ok (.aload_n 0, 1) := by decide +kernel
theorem d4_64 : decode prog_13_method_11_code 64 = .ok (.iload 8, 2) := by decide +kernel
theorem d4_66 : decode prog_13_method_11_code 66 = .ok (.baload, 1) := by decide +kernel
theorem d4_67 : decode prog_13_method_11_code 67 = .ok (.invokestatic 88, 3) := by decide +kernel
theorem pd__B_Z : parseMethodDescriptor "(B)Z" = some ⟨[.byte], some .boolean⟩ := by decide +kernel
theorem d4_70 : decode prog_13_method_11_code 70 = .ok (.ifCond .eq 9, 3) := by decide +kernel
theorem d4_73 : decode prog_13_method_11_code 73 = .ok (.iinc 8 1, 3) := by decide +kernel
theorem d4_76 : decode prog_13_method_11_code 76 = .ok (.goto (-20), 3) := by decide +kernel
set_option maxRecDepth 65536 in
set_option maxHeartbeats 40000000 in
theorem own_lpB {p : Program} {l : Launch} {e : Env} {s : State} {m : MethodId} {args : Array Value} {below : List Frame} {meth : Method} {c : Code} {Z : State} {a0 : Array Value} {n0 : Nat} (hx : p.tables.exec = Jvm.exec) (hby : c.code = prog_13_method_11_code) (hml : c.maxLocals = 10) (hown : s.vm.findClass "com/example/indexloom/indexloom/data/DataHeader" = some m.cls) (hret : meth.sig.returnType = some .int) (hlk : meth.locks = false) (hZ : Z.Warmed39 s.vm) (hw : ∀ d ∈ tables_1, d.before a0 Z = true) (r0 r3 : Addr) (p1 x4 x5 x6 : Int32) (t : Nat) (nb : Int32) (fb : Int32 → Int32) (cm bl : Nat → Bool) {h0 : Heap} {G : State → Outcome → Prop} (V0 : own_Arr Z h0 r0 .byte nb fb) (ht : (t : Int) ≤ nb.toInt) (HC : own_Cls cm bl t fb) (x7 : Int32) (la : Nat) (hla : la ≤ t) :
    ∀ (k i : Nat) (T0 : State), own_At p l e ({ frames := 1, cells := 0, slots := 0, locals := 12 } : Room) s m args below meth c n0 T0 h0 0 0 → la - i = k → i ≤ la → (∀ T0, own_At p l e ({ frames := 1, cells := 0, slots := 0, locals := 12 } : Room) s m args below meth c n0 T0 h0 0 0 → own_Go p.tables e below G (T0.setTop (mkF m 79 #[.val (.ref r0), .val (.int p1), .val (.int (Int32.ofNat t)), .val (.ref r3), .val (.int x4), .val (.int x5), .val (.int x6), .val (.int x7), .val (.int (Int32.ofNat (own_first bl k i))), .val (.int (Int32.ofNat la))] []))) → own_Go p.tables e below G (T0.setTop (mkF m 56 #[.val (.ref r0), .val (.int p1), .val (.int (Int32.ofNat t)), .val (.ref r3), .val (.int x4), .val (.int x5), .val (.int x6), .val (.int x7), .val (.int (Int32.ofNat i)), .val (.int (Int32.ofNat la))] [])) := by
  intro k
  induction k with
  | zero =>
    intro i T0 A0 h1 h2 K
    show own_Go _ _ _ _ (T0.setTop (mkF m 56 #[.val (.ref r0), .val (.int p1), .val (.int (Int32.ofNat t)), .val (.ref r3), .val (.int x4), .val (.int x5), .val (.int x6), .val (.int x7), .val (.int (Int32.ofNat i)), .val (.int (Int32.ofNat la))] []))
    refine own_go (fun t_ k_ => XS.iload A0.here hx rfl (hb hby d4_56) rfl k_) ?_
    show own_Go _ _ _ _ (T0.setTop (mkF m 58 #[.val (.ref r0), .val (.int p1), .val (.int (Int32.ofNat t)), .val (.ref r3), .val (.int x4), .val (.int x5), .val (.int x6), .val (.int x7), .val (.int (Int32.ofNat i)), .val (.int (Int32.ofNat la))] [(.int (Int32.ofNat i))]))
    refine own_go (fun t_ k_ => XS.iload A0.here hx rfl (hb hby d4_58) rfl k_) ?_
    show own_Go _ _ _ _ (T0.setTop (mkF m 60 #[.val (.ref r0), .val (.int p1), .val (.int (Int32.ofNat t)), .val (.ref r3), .val (.int x4), .val (.int x5), .val (.int x6), .val (.int x7), .val (.int (Int32.ofNat i)), .val (.int (Int32.ofNat la))] [(.int (Int32.ofNat la)), (.int (Int32.ofNat i))]))
    have hc4 : ¬ ((Int32.ofNat i) < (Int32.ofNat la)) := fun q => absurd ((own_nlt (by have := nb.toInt_lt; omega) (by have := nb.toInt_lt; omega)).mp q) (by omega)
    refine own_go (fun t_ k_ => XS.icmpYes A0.here hx rfl (pc0 := 60) (pc' := 79) rfl (hb hby d4_60) rfl (flt hc4).2.1 (by decide) (by decide) k_) ?_
    show own_Go _ _ _ _ (T0.setTop (mkF m 79 #[.val (.ref r0), .val (.int p1), .val (.int (Int32.ofNat t)), .val (.ref r3), .val (.int x4), .val (.int x5), .val (.int x6), .val (.int x7), .val (.int (Int32.ofNat i)), .val (.int (Int32.ofNat la))] []))
    exact K _ A0
  | succ k ih =>
    intro i T0 A0 h1 h2 K
    show own_Go _ _ _ _ (T0.setTop (mkF m 56 #[.val (.ref r0), .val (.int p1), .val (.int (Int32.ofNat t)), .val (.ref r3), .val (.int x4), .val (.int x5), .val (.int x6), .val (.int x7), .val (.int (Int32.ofNat i)), .val (.int (Int32.ofNat la))] []))
    refine own_go (fun t_ k_ => XS.iload A0.here hx rfl (hb hby d4_56) rfl k_) ?_
    show own_Go _ _ _ _ (T0.setTop (mkF m 58 #[.val (.ref r0), .val (.int p1), .val (.int (Int32.ofNat t)), .val (.ref r3), .val (.int x4), .val (.int x5), .val (.int x6), .val (.int x7), .val (.int (Int32.ofNat i)), .val (.int (Int32.ofNat la))] [(.int (Int32.ofNat i))]))
    refine own_go (fun t_ k_ => XS.iload A0.here hx rfl (hb hby d4_58) rfl k_) ?_
    show own_Go _ _ _ _ (T0.setTop (mkF m 60 #[.val (.ref r0), .val (.int p1), .val (.int (Int32.ofNat t)), .val (.ref r3), .val (.int x4), .val (.int x5), .val (.int x6), .val (.int x7), .val (.int (Int32.ofNat i)), .val (.int (Int32.ofNat la))] [(.int (Int32.ofNat la)), (.int (Int32.ofNat i))]))
    have hc5 : (Int32.ofNat i) < (Int32.ofNat la) := (own_nlt (by have := nb.toInt_lt; omega) (by have := nb.toInt_lt; omega)).mpr (by omega)
    refine own_go (fun t_ k_ => XS.icmpNo A0.here hx rfl (hb hby d4_60) rfl (tlt hc5).2.1 k_) ?_
    show own_Go _ _ _ _ (T0.setTop (mkF m 63 #[.val (.ref r0), .val (.int p1), .val (.int (Int32.ofNat t)), .val (.ref r3), .val (.int x4), .val (.int x5), .val (.int x6), .val (.int x7), .val (.int (Int32.ofNat i)), .val (.int (Int32.ofNat la))] []))
    refine own_go (fun t_ k_ => XS.aloadN A0.here hx rfl (hb hby d4_63) rfl rfl k_) ?_
    show own_Go _ _ _ _ (T0.setTop (mkF m 64 #[.val (.ref r0), .val (.int p1), .val (.int (Int32.ofNat t)), .val (.ref r3), .val (.int x4), .val (.int x5), .val (.int x6), .val (.int x7), .val (.int (Int32.ofNat i)), .val (.int (Int32.ofNat la))] [(.ref r0)]))
    refine own_go (fun t_ k_ => XS.iload A0.here hx rfl (hb hby d4_64) rfl k_) ?_
    show own_Go _ _ _ _ (T0.setTop (mkF m 66 #[.val (.ref r0), .val (.int p1), .val (.int (Int32.ofNat t)), .val (.ref r3), .val (.int x4), .val (.int x5), .val (.int x6), .val (.int x7), .val (.int (Int32.ofNat i)), .val (.int (Int32.ofNat la))] [(.int (Int32.ofNat i)), (.ref r0)]))
    refine own_ldB A0 hx hZ V0 ⟨own_nn (by have := nb.toInt_lt; omega), by rw [Int32.lt_iff_toInt_lt, own_nI (by have := nb.toInt_lt; omega)]; omega⟩ rfl rfl (hb hby d4_66) ?_
    show own_Go _ _ _ _ (T0.setTop (mkF m 67 #[.val (.ref r0), .val (.int p1), .val (.int (Int32.ofNat t)), .val (.ref r3), .val (.int x4), .val (.int x5), .val (.int x6), .val (.int x7), .val (.int (Int32.ofNat i)), .val (.int (Int32.ofNat la))] [(.int (fb (Int32.ofNat i)))]))
    refine own_callS A0 hx hZ hown (y := (⟨"com/example/indexloom/indexloom/data/DataHeader", "isBlank", "(B)Z"⟩ : MethodName)) (hw _ (List.mem_of_getElem? (i := 20) rfl)) (hw _ (List.mem_of_getElem? (i := 21) rfl)) (hw _ (List.mem_of_getElem? (i := 15) rfl)) (hw _ (List.mem_of_getElem? (i := 22) rfl)) (by decide) (argsL := [(.int (fb (Int32.ofNat i)))]) (rest := []) (rm6 l Z a0 hw (fb (Int32.ofNat i)) h0 n0 ) 0 (by decide) (by decide) rfl (by rw [hml]; rfl) (lenOf pd__B_Z rfl) rfl (by show 2 * 0 + _ ≤ _; exact Nat.le_of_eq rfl) (hb hby d4_67) (by decide) (by decide) (fun v9 T6 h8 A7 hQ10 => ?_)
    obtain ⟨rfl, rfl⟩ := hQ10
    show own_Go _ _ _ _ (T6.setTop (mkF m 70 #[.val (.ref r0), .val (.int p1), .val (.int (Int32.ofNat t)), .val (.ref r3), .val (.int x4), .val (.int x5), .val (.int x6), .val (.int x7), .val (.int (Int32.ofNat i)), .val (.int (Int32.ofNat la))] [(.int (f6 (fb (Int32.ofNat i))))]))
    by_cases hc11 : (f6 (fb (Int32.ofNat i))) = (0 : Int32)
    ·
      refine own_go (fun t_ k_ => XS.ifYes A7.here hx rfl (pc0 := 70) (pc' := 79) rfl (hb hby d4_70) rfl ((if0 _ _).trans (teq hc11).1) (by decide) (by decide) k_) ?_
      show own_Go _ _ _ _ (T6.setTop (mkF m 79 #[.val (.ref r0), .val (.int p1), .val (.int (Int32.ofNat t)), .val (.ref r3), .val (.int x4), .val (.int x5), .val (.int x6), .val (.int x7), .val (.int (Int32.ofNat i)), .val (.int (Int32.ofNat la))] []))
      rw [show own_first bl (k + 1) i = i by unfold own_first; rw [if_neg (fun q => (own_blank0 _).mp hc11 ((HC i (by omega)).2.mpr q))]] at K
      exact K _ A7
    ·
      refine own_go (fun t_ k_ => XS.ifNo A7.here hx rfl (hb hby d4_70) rfl ((if0 _ _).trans (feq hc11).1) k_) ?_
      show own_Go _ _ _ _ (T6.setTop (mkF m 73 #[.val (.ref r0), .val (.int p1), .val (.int (Int32.ofNat t)), .val (.ref r3), .val (.int x4), .val (.int x5), .val (.int x6), .val (.int x7), .val (.int (Int32.ofNat i)), .val (.int (Int32.ofNat la))] []))
      refine own_go (fun t_ k_ => XS.iinc A7.here hx rfl (hb hby d4_73) rfl (l' := #[.val (.ref r0), .val (.int p1), .val (.int (Int32.ofNat t)), .val (.ref r3), .val (.int x4), .val (.int x5), .val (.int x6), .val (.int x7), .val (.int ((Int32.ofNat i) + (1 : Int32))), .val (.int (Int32.ofNat la))]) rfl k_) ?_
      show own_Go _ _ _ _ (T6.setTop (mkF m 76 #[.val (.ref r0), .val (.int p1), .val (.int (Int32.ofNat t)), .val (.ref r3), .val (.int x4), .val (.int x5), .val (.int x6), .val (.int x7), .val (.int ((Int32.ofNat i) + (1 : Int32))), .val (.int (Int32.ofNat la))] []))
      refine own_go (fun t_ k_ => XS.goto A7.here hx rfl (pc0 := 76) (pc' := 56) rfl (hb hby d4_76) (by decide) (by decide) k_) ?_
      show own_Go _ _ _ _ (T6.setTop (mkF m 56 #[.val (.ref r0), .val (.int p1), .val (.int (Int32.ofNat t)), .val (.ref r3), .val (.int x4), .val (.int x5), .val (.int x6), .val (.int x7), .val (.int ((Int32.ofNat i) + (1 : Int32))), .val (.int (Int32.ofNat la))] []))
      rw [show own_first bl (k + 1) i = own_first bl k (i + 1) by rw [own_first]; rw [if_pos ((HC i (by omega)).2.mp (Classical.not_not.mp fun q => hc11 ((own_blank0 _).mpr q)))]] at K
      rw [own_succ]
      exact ih (i + 1) _ A7 (by omega) (by omega) K
theorem d4_79 : decode prog_13_method_11_code 79 = .ok (.iload 9, 2) := by decide +kernel
theorem d4_81 : decode prog_13_method_11_code 81 = .ok (.iload 8, 2) := by decide +kernel
theorem d4_83 : decode prog_13_method_11_code 83 = .ok (.if_icmp .le 21, 3) := by decide +kernel
theorem d4_86 : decode prog_13_method_11_code 86 = .ok (.aload_n 0, 1) := by decide +kernel
theorem d4_87 : decode prog_13_method_11_code 87 = .ok (.iload 9, 2) := by decide +kernel
theorem d4_89 : decode prog_13_method_11_code 89 = .ok (.iconst 1, 1) := by decide +kernel
theorem d4_90 : decode prog_13_method_11_code 90 = .ok (.isub, 1) := by decide +kernel
theorem d4_91 : decode prog_13_method_11_code 91 = .ok (.baload, 1) := by decide +kernel
theorem d4_92 : decode prog_13_method_11_code 92 = .ok (.invokestatic 88, 3) := by decide +kernel
theorem d4_95 : decode prog_13_method_11_code 95 = .ok (.ifCond .eq 9, 3) := by decide +kernel
theorem d4_98 : decode prog_13_method_11_code 98 = .ok (.iinc 9 (-1), 3) := by decide +kernel
theorem d4_101 : decode prog_13_method_11_code 101 = .ok (.goto (-22), 3) := by decide +kernel
set_option maxRecDepth 65536 in
set_option maxHeartbeats 40000000 in
theorem own_lpC {p : Program} {l : Launch} {e : Env} {s : State} {m : MethodId} {args : Array Value} {below : List Frame} {meth : Method} {c : Code} {Z : State} {a0 : Array Value} {n0 : Nat} (hx : p.tables.exec = Jvm.exec) (hby : c.code = prog_13_method_11_code) (hml : c.maxLocals = 10) (hown : s.vm.findClass "com/example/indexloom/indexloom/data/DataHeader" = some m.cls) (hret : meth.sig.returnType = some .int) (hlk : meth.locks = false) (hZ : Z.Warmed39 s.vm) (hw : ∀ d ∈ tables_1, d.before a0 Z = true) (r0 r3 : Addr) (p1 x4 x5 x6 : Int32) (t : Nat) (nb : Int32) (fb : Int32 → Int32) (cm bl : Nat → Bool) {h0 : Heap} {G : State → Outcome → Prop} (V0 : own_Arr Z h0 r0 .byte nb fb) (ht : (t : Int) ≤ nb.toInt) (HC : own_Cls cm bl t fb) (x7 : Int32) (fi : Nat) :
    ∀ (k : Nat) (T0 : State), own_At p l e ({ frames := 1, cells := 0, slots := 0, locals := 12 } : Room) s m args below meth c n0 T0 h0 0 0 → fi + k ≤ t → (∀ T0, own_At p l e ({ frames := 1, cells := 0, slots := 0, locals := 12 } : Room) s m args below meth c n0 T0 h0 0 0 → own_Go p.tables e below G (T0.setTop (mkF m 104 #[.val (.ref r0), .val (.int p1), .val (.int (Int32.ofNat t)), .val (.ref r3), .val (.int x4), .val (.int x5), .val (.int x6), .val (.int x7), .val (.int (Int32.ofNat fi)), .val (.int (Int32.ofNat (own_last bl fi k)))] []))) → own_Go p.tables e below G (T0.setTop (mkF m 79 #[.val (.ref r0), .val (.int p1), .val (.int (Int32.ofNat t)), .val (.ref r3), .val (.int x4), .val (.int x5), .val (.int x6), .val (.int x7), .val (.int (Int32.ofNat fi)), .val (.int (Int32.ofNat (fi + k)))] [])) := by
  intro k
  induction k with
  | zero =>
    intro T0 A0 h1 K
    show own_Go _ _ _ _ (T0.setTop (mkF m 79 #[.val (.ref r0), .val (.int p1), .val (.int (Int32.ofNat t)), .val (.ref r3), .val (.int x4), .val (.int x5), .val (.int x6), .val (.int x7), .val (.int (Int32.ofNat fi)), .val (.int (Int32.ofNat (fi + 0)))] []))
    refine own_go (fun t_ k_ => XS.iload A0.here hx rfl (hb hby d4_79) rfl k_) ?_
    show own_Go _ _ _ _ (T0.setTop (mkF m 81 #[.val (.ref r0), .val (.int p1), .val (.int (Int32.ofNat t)), .val (.ref r3), .val (.int x4), .val (.int x5), .val (.int x6), .val (.int x7), .val (.int (Int32.ofNat fi)), .val (.int (Int32.ofNat (fi + 0)))] [(.int (Int32.ofNat (fi + 0)))]))
    refine own_go (fun t_ k_ => XS.iload A0.here hx rfl (hb hby d4_81) rfl k_) ?_
    show own_Go _ _ _ _ (T0.setTop (mkF m 83 #[.val (.ref r0), .val (.int p1), .val (.int (Int32.ofNat t)), .val (.ref r3), .val (.int x4), .val (.int x5), .val (.int x6), .val (.int x7), .val (.int (Int32.ofNat fi)), .val (.int (Int32.ofNat (fi + 0)))] [(.int (Int32.ofNat fi)), (.int (Int32.ofNat (fi + 0)))]))
    have hc12 : ¬ ((Int32.ofNat fi) < (Int32.ofNat (fi + 0))) := fun q => absurd ((own_nlt (by have := nb.toInt_lt; omega) (by have := nb.toInt_lt; omega)).mp q) (by omega)
    refine own_go (fun t_ k_ => XS.icmpYes A0.here hx rfl (pc0 := 83) (pc' := 104) rfl (hb hby d4_83) rfl (flt hc12).2.2.2 (by decide) (by decide) k_) ?_
    show own_Go _ _ _ _ (T0.setTop (mkF m 104 #[.val (.ref r0), .val (.int p1), .val (.int (Int32.ofNat t)), .val (.ref r3), .val (.int x4), .val (.int x5), .val (.int x6), .val (.int x7), .val (.int (Int32.ofNat fi)), .val (.int (Int32.ofNat (fi + 0)))] []))
    exact K _ A0
  | succ k ih =>
    intro T0 A0 h1 K
    show own_Go _ _ _ _ (T0.setTop (mkF m 79 #[.val (.ref r0), .val (.int p1), .val (.int (Int32.ofNat t)), .val (.ref r3), .val (.int x4), .val (.int x5), .val (.int x6), .val (.int x7), .val (.int (Int32.ofNat fi)), .val (.int (Int32.ofNat (fi + k + 1)))] []))
    refine own_go (fun t_ k_ => XS.iload A0.here hx rfl (hb hby d4_79) rfl k_) ?_
    show own_Go _ _ _ _ (T0.setTop (mkF m 81 #[.val (.ref r0), .val (.int p1), .val (.int (Int32.ofNat t)), .val (.ref r3), .val (.int x4), .val (.int x5), .val (.int x6), .val (.int x7), .val (.int (Int32.ofNat fi)), .val (.int (Int32.ofNat (fi + k + 1)))] [(.int (Int32.ofNat (fi + k + 1)))]))
    refine own_go (fun t_ k_ => XS.iload A0.here hx rfl (hb hby d4_81) rfl k_) ?_
    show own_Go _ _ _ _ (T0.setTop (mkF m 83 #[.val (.ref r0), .val (.int p1), .val (.int (Int32.ofNat t)), .val (.ref r3), .val (.int x4), .val (.int x5), .val (.int x6), .val (.int x7), .val (.int (Int32.ofNat fi)), .val (.int (Int32.ofNat (fi + k + 1)))] [(.int (Int32.ofNat fi)), (.int (Int32.ofNat (fi + k + 1)))]))
    have hc13 : (Int32.ofNat fi) < (Int32.ofNat (fi + k + 1)) := (own_nlt (by have := nb.toInt_lt; omega) (by have := nb.toInt_lt; omega)).mpr (by omega)
    refine own_go (fun t_ k_ => XS.icmpNo A0.here hx rfl (hb hby d4_83) rfl (tlt hc13).2.2.2 k_) ?_
    show own_Go _ _ _ _ (T0.setTop (mkF m 86 #[.val (.ref r0), .val (.int p1), .val (.int (Int32.ofNat t)), .val (.ref r3), .val (.int x4), .val (.int x5), .val (.int x6), .val (.int x7), .val (.int (Int32.ofNat fi)), .val (.int (Int32.ofNat (fi + k + 1)))] []))
    refine own_go (fun t_ k_ => XS.aloadN A0.here hx rfl (hb hby d4_86) rfl rfl k_) ?_
    show own_Go _ _ _ _ (T0.setTop (mkF m 87 #[.val (.ref r0), .val (.int p1), .val (.int (Int32.ofNat t)), .val (.ref r3), .val (.int x4), .val (.int x5), .val (.int x6), .val (.int x7), .val (.int (Int32.ofNat fi)), .val (.int (Int32.ofNat (fi + k + 1)))] [(.ref r0)]))
    refine own_go (fun t_ k_ => XS.iload A0.here hx rfl (hb hby d4_87) rfl k_) ?_
    show own_Go _ _ _ _ (T0.setTop (mkF m 89 #[.val (.ref r0), .val (.int p1), .val (.int (Int32.ofNat t)), .val (.ref r3), .val (.int x4), .val (.int x5), .val (.int x6), .val (.int x7), .val (.int (Int32.ofNat fi)), .val (.int (Int32.ofNat (fi + k + 1)))] [(.int (Int32.ofNat (fi + k + 1))), (.ref r0)]))
    refine own_go (fun t_ k_ => XS.iconst A0.here hx rfl (hb hby d4_89) k_) ?_
    show own_Go _ _ _ _ (T0.setTop (mkF m 90 #[.val (.ref r0), .val (.int p1), .val (.int (Int32.ofNat t)), .val (.ref r3), .val (.int x4), .val (.int x5), .val (.int x6), .val (.int x7), .val (.int (Int32.ofNat fi)), .val (.int (Int32.ofNat (fi + k + 1)))] [(.int (1 : Int32)), (.int (Int32.ofNat (fi + k + 1))), (.ref r0)]))
    refine own_go (fun t_ k_ => XS.isub A0.here hx rfl (hb hby d4_90) rfl k_) ?_
    show own_Go _ _ _ _ (T0.setTop (mkF m 91 #[.val (.ref r0), .val (.int p1), .val (.int (Int32.ofNat t)), .val (.ref r3), .val (.int x4), .val (.int x5), .val (.int x6), .val (.int x7), .val (.int (Int32.ofNat fi)), .val (.int (Int32.ofNat (fi + k + 1)))] [(.int ((Int32.ofNat (fi + k + 1)) - (1 : Int32))), (.ref r0)]))
    rw [own_sub1 (fi + k)]
    show own_Go _ _ _ _ (T0.setTop (mkF m 91 #[.val (.ref r0), .val (.int p1), .val (.int (Int32.ofNat t)), .val (.ref r3), .val (.int x4), .val (.int x5), .val (.int x6), .val (.int x7), .val (.int (Int32.ofNat fi)), .val (.int (Int32.ofNat (fi + k + 1)))] [(.int (Int32.ofNat (fi + k))), (.ref r0)]))
    refine own_ldB A0 hx hZ V0 ⟨own_nn (by have := nb.toInt_lt; omega), by rw [Int32.lt_iff_toInt_lt, own_nI (by have := nb.toInt_lt; omega)]; omega⟩ rfl rfl (hb hby d4_91) ?_
    show own_Go _ _ _ _ (T0.setTop (mkF m 92 #[.val (.ref r0), .val (.int p1), .val (.int (Int32.ofNat t)), .val (.ref r3), .val (.int x4), .val (.int x5), .val (.int x6), .val (.int x7), .val (.int (Int32.ofNat fi)), .val (.int (Int32.ofNat (fi + k + 1)))] [(.int (fb (Int32.ofNat (fi + k))))]))
    refine own_callS A0 hx hZ hown (y := (⟨"com/example/indexloom/indexloom/data/DataHeader", "isBlank", "(B)Z"⟩ : MethodName)) (hw _ (List.mem_of_getElem? (i := 20) rfl)) (hw _ (List.mem_of_getElem? (i := 21) rfl)) (hw _ (List.mem_of_getElem? (i := 15) rfl)) (hw _ (List.mem_of_getElem? (i := 22) rfl)) (by decide) (argsL := [(.int (fb (Int32.ofNat (fi + k))))]) (rest := []) (rm6 l Z a0 hw (fb (Int32.ofNat (fi + k))) h0 n0 ) 0 (by decide) (by decide) rfl (by rw [hml]; rfl) (lenOf pd__B_Z rfl) rfl (by show 2 * 0 + _ ≤ _; exact Nat.le_of_eq rfl) (hb hby d4_92) (by decide) (by decide) (fun v17 T14 h16 A15 hQ18 => ?_)
    obtain ⟨rfl, rfl⟩ := hQ18
    show own_Go _ _ _ _ (T14.setTop (mkF m 95 #[.val (.ref r0), .val (.int p1), .val (.int (Int32.ofNat t)), .val (.ref r3), .val (.int x4), .val (.int x5), .val (.int x6), .val (.int x7), .val (.int (Int32.ofNat fi)), .val (.int (Int32.ofNat (fi + k + 1)))] [(.int (f6 (fb (Int32.ofNat (fi + k)))))]))
    by_cases hc19 : (f6 (fb (Int32.ofNat (fi + k)))) = (0 : Int32)
    ·
      refine own_go (fun t_ k_ => XS.ifYes A15.here hx rfl (pc0 := 95) (pc' := 104) rfl (hb hby d4_95) rfl ((if0 _ _).trans (teq hc19).1) (by decide) (by decide) k_) ?_
      show own_Go _ _ _ _ (T14.setTop (mkF m 104 #[.val (.ref r0), .val (.int p1), .val (.int (Int32.ofNat t)), .val (.ref r3), .val (.int x4), .val (.int x5), .val (.int x6), .val (.int x7), .val (.int (Int32.ofNat fi)), .val (.int (Int32.ofNat (fi + k + 1)))] []))
      rw [show own_last bl fi (k + 1) = fi + k + 1 by unfold own_last; rw [if_neg (fun q => (own_blank0 _).mp hc19 ((HC (fi + k) (by omega)).2.mpr q))]] at K
      exact K _ A15
    ·
      refine own_go (fun t_ k_ => XS.ifNo A15.here hx rfl (hb hby d4_95) rfl ((if0 _ _).trans (feq hc19).1) k_) ?_
      show own_Go _ _ _ _ (T14.setTop (mkF m 98 #[.val (.ref r0), .val (.int p1), .val (.int (Int32.ofNat t)), .val (.ref r3), .val (.int x4), .val (.int x5), .val (.int x6), .val (.int x7), .val (.int (Int32.ofNat fi)), .val (.int (Int32.ofNat (fi + k + 1)))] []))
      refine own_go (fun t_ k_ => XS.iinc A15.here hx rfl (hb hby d4_98) rfl (l' := #[.val (.ref r0), .val (.int p1), .val (.int (Int32.ofNat t)), .val (.ref r3), .val (.int x4), .val (.int x5), .val (.int x6), .val (.int x7), .val (.int (Int32.ofNat fi)), .val (.int ((Int32.ofNat (fi + k + 1)) + (-1 : Int32)))]) rfl k_) ?_
      show own_Go _ _ _ _ (T14.setTop (mkF m 101 #[.val (.ref r0), .val (.int p1), .val (.int (Int32.ofNat t)), .val (.ref r3), .val (.int x4), .val (.int x5), .val (.int x6), .val (.int x7), .val (.int (Int32.ofNat fi)), .val (.int ((Int32.ofNat (fi + k + 1)) + (-1 : Int32)))] []))
      refine own_go (fun t_ k_ => XS.goto A15.here hx rfl (pc0 := 101) (pc' := 79) rfl (hb hby d4_101) (by decide) (by decide) k_) ?_
      show own_Go _ _ _ _ (T14.setTop (mkF m 79 #[.val (.ref r0), .val (.int p1), .val (.int (Int32.ofNat t)), .val (.ref r3), .val (.int x4), .val (.int x5), .val (.int x6), .val (.int x7), .val (.int (Int32.ofNat fi)), .val (.int ((Int32.ofNat (fi + k + 1)) + (-1 : Int32)))] []))
      rw [show own_last bl fi (k + 1) = own_last bl fi k by rw [own_last]; rw [if_pos ((HC (fi + k) (by omega)).2.mp (Classical.not_not.mp fun q => hc19 ((own_blank0 _).mpr q)))]] at K
      rw [own_prd]
      exact ih _ A15 (by omega) K
theorem d4_122 : decode prog_13_method_11_code 122 = .ok (.iinc 4 1, 3) := by decide +kernel
theorem d4_125 : decode prog_13_method_11_code 125 = .ok (.iload 7, 2) := by decide +kernel
theorem d4_127 : decode prog_13_method_11_code 127 = .ok (.iload_n 2, 1) := by decide +kernel
theorem d4_128 : decode prog_13_method_11_code 128 = .ok (.if_icmp .ge 7, 3) := by decide +kernel
theorem d4_131 : decode prog_13_method_11_code 131 = .ok (.iconst 1, 1) := by decide +kernel
theorem d4_132 : decode prog_13_method_11_code 132 = .ok (.goto 4, 3) := by decide +kernel
theorem d4_136 : decode prog_13_method_11_code 136 = .ok (.istore 6, 2) := by decide +kernel
theorem d4_138 : decode prog_13_method_11_code 138 = .ok (.iload 7, 2) := by decide +kernel
theorem d4_140 : decode prog_13_method_11_code 140 = .ok (.iconst 1, 1) := by decide +kernel
theorem d4_141 : decode prog_13_method_11_code 141 = .ok (.iadd, 1) := by decide +kernel
theorem d4_142 : decode prog_13_method_11_code 142 = .ok (.istore 5, 2) := by decide +kernel
theorem d4_144 : decode prog_13_method_11_code 144 = .ok (.goto (-135), 3) := by decide +kernel
theorem d4_135 : decode prog_13_method_11_code 135 = .ok (.iconst 0, 1) := by decide +kernel
theorem d4_9 : decode prog_13_method_11_code 9 = .ok (.iload 6, 2) := by decide +kernel
theorem d4_11 : decode prog_13_method_11_code 11 = .ok (.ifCond .eq 136, 3) := by decide +kernel
theorem d4_147 : decode prog_13_method_11_code 147 = .ok (.iload 4, 2) := by decide +kernel
theorem d4_149 : decode prog_13_method_11_code 149 = .ok (.ireturn, 1) := by decide +kernel
theorem d4_14 : decode prog_13_method_11_code 14 = .ok (.iload 5, 2) := by decide +kernel
theorem d4_16 : decode prog_13_method_11_code 16 = .ok (.istore 7, 2) := by decide +kernel
theorem os4_16_vvvvvvvsss {z0 : Value} {z1 : Value} {z2 : Value} {z3 : Value} {z4 : Value} {z5 : Value} {z6 : Value} {s7 : Slot} {s8 : Slot} {s9 : Slot} {v : Int32} (h : One s7) : storeLocals #[.val z0, .val z1, .val z2, .val z3, .val z4, .val z5, .val z6, s7, s8, s9] 7 (.int v) = some #[.val z0, .val z1, .val z2, .val z3, .val z4, .val z5, .val z6, .val (.int v), s8, s9] := by
  rcases h with rfl | ⟨w, rfl, hw⟩
  · rfl
  · cases w <;> first | rfl | (simp [Value.category] at hw)
theorem d4_39 : decode prog_13_method_11_code 39 = .ok (.iconst 2, 1) := by decide +kernel
theorem d4_40 : decode prog_13_method_11_code 40 = .ok (.iload 4, 2) := by decide +kernel
theorem d4_42 : decode prog_13_method_11_code 42 = .ok (.imul, 1) := by decide +kernel
theorem d4_43 : decode prog_13_method_11_code 43 = .ok (.aload_n 3, 1) := by decide +kernel
theorem d4_44 : decode prog_13_method_11_code 44 = .ok (.arraylength, 1) := by decide +kernel
theorem d4_45 : decode prog_13_method_11_code 45 = .ok (.if_icmp .ge 77, 3) := by decide +kernel
theorem d4_48 : decode prog_13_method_11_code 48 = .ok (.iload 5, 2) := by decide +kernel
theorem d4_50 : decode prog_13_method_11_code 50 = .ok (.istore 8, 2) := by decide +kernel
theorem os4_50_vvvvvvvvss {z0 : Value} {z1 : Value} {z2 : Value} {z3 : Value} {z4 : Value} {z5 : Value} {z6 : Value} {z7 : Value} {s8 : Slot} {s9 : Slot} {v : Int32} (h : One s8) : storeLocals #[.val z0, .val z1, .val z2, .val z3, .val z4, .val z5, .val z6, .val z7, s8, s9] 8 (.int v) = some #[.val z0, .val z1, .val z2, .val z3, .val z4, .val z5, .val z6, .val z7, .val (.int v), s9] := by
  rcases h with rfl | ⟨w, rfl, hw⟩
  · rfl
  · cases w <;> first | rfl | (simp [Value.category] at hw)
theorem d4_52 : decode prog_13_method_11_code 52 = .ok (.iload 7, 2) := by decide +kernel
theorem d4_54 : decode prog_13_method_11_code 54 = .ok (.istore 9, 2) := by decide +kernel
theorem os4_54_vvvvvvvvvs {z0 : Value} {z1 : Value} {z2 : Value} {z3 : Value} {z4 : Value} {z5 : Value} {z6 : Value} {z7 : Value} {z8 : Value} {s9 : Slot} {v : Int32} (h : One s9) : storeLocals #[.val z0, .val z1, .val z2, .val z3, .val z4, .val z5, .val z6, .val z7, .val z8, s9] 9 (.int v) = some #[.val z0, .val z1, .val z2, .val z3, .val z4, .val z5, .val z6, .val z7, .val z8, .val (.int v)] := by
  rcases h with rfl | ⟨w, rfl, hw⟩
  · rfl
  · cases w <;> first | rfl | (simp [Value.category] at hw)
theorem d4_104 : decode prog_13_method_11_code 104 = .ok (.aload_n 3, 1) := by decide +kernel
theorem d4_105 : decode prog_13_method_11_code 105 = .ok (.iconst 2, 1) := by decide +kernel
theorem d4_106 : decode prog_13_method_11_code 106 = .ok (.iload 4, 2) := by decide +kernel
theorem d4_108 : decode prog_13_method_11_code 108 = .ok (.imul, 1) := by decide +kernel
theorem d4_109 : decode prog_13_method_11_code 109 = .ok (.iload 8, 2) := by decide +kernel
theorem d4_111 : decode prog_13_method_11_code 111 = .ok (.iastore, 1) := by decide +kernel
theorem d4_112 : decode prog_13_method_11_code 112 = .ok (.aload_n 3, 1) := by decide +kernel
theorem d4_113 : decode prog_13_method_11_code 113 = .ok (.iconst 2, 1) := by decide +kernel
theorem d4_114 : decode prog_13_method_11_code 114 = .ok (.iload 4, 2) := by decide +kernel
theorem d4_116 : decode prog_13_method_11_code 116 = .ok (.imul, 1) := by decide +kernel
theorem d4_117 : decode prog_13_method_11_code 117 = .ok (.iconst 1, 1) := by decide +kernel
theorem d4_118 : decode prog_13_method_11_code 118 = .ok (.iadd, 1) := by decide +kernel
theorem d4_119 : decode prog_13_method_11_code 119 = .ok (.iload 9, 2) := by decide +kernel
theorem d4_121 : decode prog_13_method_11_code 121 = .ok (.iastore, 1) := by decide +kernel
set_option maxRecDepth 65536 in
set_option maxHeartbeats 40000000 in
theorem own_lpO {p : Program} {l : Launch} {e : Env} {s : State} {m : MethodId} {args : Array Value} {below : List Frame} {meth : Method} {c : Code} {Z : State} {a0 : Array Value} {n0 : Nat} (hx : p.tables.exec = Jvm.exec) (hby : c.code = prog_13_method_11_code) (hml : c.maxLocals = 10) (hown : s.vm.findClass "com/example/indexloom/indexloom/data/DataHeader" = some m.cls) (hret : meth.sig.returnType = some .int) (hlk : meth.locks = false) (hZ : Z.Warmed39 s.vm) (hw : ∀ d ∈ tables_1, d.before a0 Z = true) (r0 r3 : Addr) (p1 : Int32) (t q : Nat) (nb : Int32) (fb fl : Int32 → Int32) (cm bl : Nat → Bool) {h0 : Heap} (ht : (t : Int) ≤ nb.toInt) (htb : t < 2 ^ 29) (HC : own_Cls cm bl t fb) (hq : 2 * q < 2 ^ 30) (ne : r0 ≠ r3) (g3 : n0 ≤ r3) :
    ∀ (k st : Nat) (fs : List (Nat × Nat)) (h : Heap) (cc : Int32 → Int32) (s7 s8 s9 : Slot) (T0 : State), own_At p l e ({ frames := 1, cells := 0, slots := 0, locals := 12 } : Room) s m args below meth c n0 T0 h 0 0 → t - st < k → st ≤ t → fs.length ≤ st → One s7 → One s8 → One s9 → own_Arr Z h r0 .byte nb fb → own_Arr Z h r3 .int (Int32.ofNat (2 * q)) cc → own_Bd q fs fl cc → Keep h0 h [r3] →
      own_Go p.tables e below (own_End n0 s 0 0 (fun v h => v = some (.int (Int32.ofNat (fs ++ own_fields cm bl t k st).length)) ∧ Keep h0 h [r3] ∧ ∃ c, own_Arr Z h r3 .int (Int32.ofNat (2 * q)) c ∧ own_Bd q (fs ++ own_fields cm bl t k st) fl c)) (T0.setTop (mkF m 9 #[.val (.ref r0), .val (.int p1), .val (.int (Int32.ofNat t)), .val (.ref r3), .val (.int (Int32.ofNat fs.length)), .val (.int (Int32.ofNat st)), .val (.int (1 : Int32)), s7, s8, s9] [])) := by
  intro k
  induction k with
  | zero => intro st fs h cc s7 s8 s9 T0 A0 h1; omega
  | succ k ih =>
    intro st fs h cc s7 s8 s9 T0 A0 h1 h2 h3 o7 o8 o9 V0 V3 B3 KP
    have htn := nb.toInt_lt
    have hen := own_end_le (cm := cm) (t - st) st rfl h2
    generalize hE : own_end cm t (t - st) st = en at hen
    have tail : ∀ (T0 : State) (h : Heap) (cc : Int32 → Int32) (x : Nat × Nat) (s8 s9 : Slot), own_At p l e ({ frames := 1, cells := 0, slots := 0, locals := 12 } : Room) s m args below meth c n0 T0 h 0 0 → One s8 → One s9 → own_Arr Z h r0 .byte nb fb → own_Arr Z h r3 .int (Int32.ofNat (2 * q)) cc → own_Bd q (fs ++ [x]) fl cc → Keep h0 h [r3] → own_fields cm bl t (k + 1) st = x :: (if en < t then own_fields cm bl t k (en + 1) else []) → own_Go p.tables e below (own_End n0 s 0 0 (fun v h => v = some (.int (Int32.ofNat (fs ++ own_fields cm bl t (k + 1) st).length)) ∧ Keep h0 h [r3] ∧ ∃ c, own_Arr Z h r3 .int (Int32.ofNat (2 * q)) c ∧ own_Bd q (fs ++ own_fields cm bl t (k + 1) st) fl c)) (T0.setTop (mkF m 122 #[.val (.ref r0), .val (.int p1), .val (.int (Int32.ofNat t)), .val (.ref r3), .val (.int (Int32.ofNat fs.length)), .val (.int (Int32.ofNat st)), .val (.int (1 : Int32)), .val (.int (Int32.ofNat en)), s8, s9] [])) := by
      intro T0 h cc x s8 s9 A0 o8 o9 V0 V3 B3 KP hx1
      rw [hx1]
      show own_Go _ _ _ _ (T0.setTop (mkF m 122 #[.val (.ref r0), .val (.int p1), .val (.int (Int32.ofNat t)), .val (.ref r3), .val (.int (Int32.ofNat fs.length)), .val (.int (Int32.ofNat st)), .val (.int (1 : Int32)), .val (.int (Int32.ofNat en)), s8, s9] []))
      by_cases hlt : en < t
      ·
        rw [if_pos hlt]
        refine own_go (fun t_ k_ => XS.iinc A0.here hx rfl (hb hby d4_122) rfl (l' := #[.val (.ref r0), .val (.int p1), .val (.int (Int32.ofNat t)), .val (.ref r3), .val (.int ((Int32.ofNat fs.length) + (1 : Int32))), .val (.int (Int32.ofNat st)), .val (.int (1 : Int32)), .val (.int (Int32.ofNat en)), s8, s9]) rfl k_) ?_
        show own_Go _ _ _ _ (T0.setTop (mkF m 125 #[.val (.ref r0), .val (.int p1), .val (.int (Int32.ofNat t)), .val (.ref r3), .val (.int ((Int32.ofNat fs.length) + (1 : Int32))), .val (.int (Int32.ofNat st)), .val (.int (1 : Int32)), .val (.int (Int32.ofNat en)), s8, s9] []))
        refine own_go (fun t_ k_ => XS.iload A0.here hx rfl (hb hby d4_125) rfl k_) ?_
        show own_Go _ _ _ _ (T0.setTop (mkF m 127 #[.val (.ref r0), .val (.int p1), .val (.int (Int32.ofNat t)), .val (.ref r3), .val (.int ((Int32.ofNat fs.length) + (1 : Int32))), .val (.int (Int32.ofNat st)), .val (.int (1 : Int32)), .val (.int (Int32.ofNat en)), s8, s9] [(.int (Int32.ofNat en))]))
        refine own_go (fun t_ k_ => XS.iloadN A0.here hx rfl (hb hby d4_127) rfl k_) ?_
        show own_Go _ _ _ _ (T0.setTop (mkF m 128 #[.val (.ref r0), .val (.int p1), .val (.int (Int32.ofNat t)), .val (.ref r3), .val (.int ((Int32.ofNat fs.length) + (1 : Int32))), .val (.int (Int32.ofNat st)), .val (.int (1 : Int32)), .val (.int (Int32.ofNat en)), s8, s9] [(.int (Int32.ofNat t)), (.int (Int32.ofNat en))]))
        have hc20 : (Int32.ofNat en) < (Int32.ofNat t) := (own_nlt (by omega) (by omega)).mpr hlt
        refine own_go (fun t_ k_ => XS.icmpNo A0.here hx rfl (hb hby d4_128) rfl (tlt hc20).2.1 k_) ?_
        show own_Go _ _ _ _ (T0.setTop (mkF m 131 #[.val (.ref r0), .val (.int p1), .val (.int (Int32.ofNat t)), .val (.ref r3), .val (.int ((Int32.ofNat fs.length) + (1 : Int32))), .val (.int (Int32.ofNat st)), .val (.int (1 : Int32)), .val (.int (Int32.ofNat en)), s8, s9] []))
        refine own_go (fun t_ k_ => XS.iconst A0.here hx rfl (hb hby d4_131) k_) ?_
        show own_Go _ _ _ _ (T0.setTop (mkF m 132 #[.val (.ref r0), .val (.int p1), .val (.int (Int32.ofNat t)), .val (.ref r3), .val (.int ((Int32.ofNat fs.length) + (1 : Int32))), .val (.int (Int32.ofNat st)), .val (.int (1 : Int32)), .val (.int (Int32.ofNat en)), s8, s9] [(.int (1 : Int32))]))
        refine own_go (fun t_ k_ => XS.goto A0.here hx rfl (pc0 := 132) (pc' := 136) rfl (hb hby d4_132) (by decide) (by decide) k_) ?_
        show own_Go _ _ _ _ (T0.setTop (mkF m 136 #[.val (.ref r0), .val (.int p1), .val (.int (Int32.ofNat t)), .val (.ref r3), .val (.int ((Int32.ofNat fs.length) + (1 : Int32))), .val (.int (Int32.ofNat st)), .val (.int (1 : Int32)), .val (.int (Int32.ofNat en)), s8, s9] [(.int (1 : Int32))]))
        refine own_go (fun t_ k_ => XS.istore A0.here hx rfl (hb hby d4_136) rfl (l' := #[.val (.ref r0), .val (.int p1), .val (.int (Int32.ofNat t)), .val (.ref r3), .val (.int ((Int32.ofNat fs.length) + (1 : Int32))), .val (.int (Int32.ofNat st)), .val (.int (1 : Int32)), .val (.int (Int32.ofNat en)), s8, s9]) rfl k_) ?_
        show own_Go _ _ _ _ (T0.setTop (mkF m 138 #[.val (.ref r0), .val (.int p1), .val (.int (Int32.ofNat t)), .val (.ref r3), .val (.int ((Int32.ofNat fs.length) + (1 : Int32))), .val (.int (Int32.ofNat st)), .val (.int (1 : Int32)), .val (.int (Int32.ofNat en)), s8, s9] []))
        refine own_go (fun t_ k_ => XS.iload A0.here hx rfl (hb hby d4_138) rfl k_) ?_
        show own_Go _ _ _ _ (T0.setTop (mkF m 140 #[.val (.ref r0), .val (.int p1), .val (.int (Int32.ofNat t)), .val (.ref r3), .val (.int ((Int32.ofNat fs.length) + (1 : Int32))), .val (.int (Int32.ofNat st)), .val (.int (1 : Int32)), .val (.int (Int32.ofNat en)), s8, s9] [(.int (Int32.ofNat en))]))
        refine own_go (fun t_ k_ => XS.iconst A0.here hx rfl (hb hby d4_140) k_) ?_
        show own_Go _ _ _ _ (T0.setTop (mkF m 141 #[.val (.ref r0), .val (.int p1), .val (.int (Int32.ofNat t)), .val (.ref r3), .val (.int ((Int32.ofNat fs.length) + (1 : Int32))), .val (.int (Int32.ofNat st)), .val (.int (1 : Int32)), .val (.int (Int32.ofNat en)), s8, s9] [(.int (1 : Int32)), (.int (Int32.ofNat en))]))
        refine own_go (fun t_ k_ => XS.iadd A0.here hx rfl (hb hby d4_141) rfl k_) ?_
        show own_Go _ _ _ _ (T0.setTop (mkF m 142 #[.val (.ref r0), .val (.int p1), .val (.int (Int32.ofNat t)), .val (.ref r3), .val (.int ((Int32.ofNat fs.length) + (1 : Int32))), .val (.int (Int32.ofNat st)), .val (.int (1 : Int32)), .val (.int (Int32.ofNat en)), s8, s9] [(.int ((Int32.ofNat en) + (1 : Int32)))]))
        refine own_go (fun t_ k_ => XS.istore A0.here hx rfl (hb hby d4_142) rfl (l' := #[.val (.ref r0), .val (.int p1), .val (.int (Int32.ofNat t)), .val (.ref r3), .val (.int ((Int32.ofNat fs.length) + (1 : Int32))), .val (.int ((Int32.ofNat en) + (1 : Int32))), .val (.int (1 : Int32)), .val (.int (Int32.ofNat en)), s8, s9]) rfl k_) ?_
        show own_Go _ _ _ _ (T0.setTop (mkF m 144 #[.val (.ref r0), .val (.int p1), .val (.int (Int32.ofNat t)), .val (.ref r3), .val (.int ((Int32.ofNat fs.length) + (1 : Int32))), .val (.int ((Int32.ofNat en) + (1 : Int32))), .val (.int (1 : Int32)), .val (.int (Int32.ofNat en)), s8, s9] []))
        refine own_go (fun t_ k_ => XS.goto A0.here hx rfl (pc0 := 144) (pc' := 9) rfl (hb hby d4_144) (by decide) (by decide) k_) ?_
        show own_Go _ _ _ _ (T0.setTop (mkF m 9 #[.val (.ref r0), .val (.int p1), .val (.int (Int32.ofNat t)), .val (.ref r3), .val (.int ((Int32.ofNat fs.length) + (1 : Int32))), .val (.int ((Int32.ofNat en) + (1 : Int32))), .val (.int (1 : Int32)), .val (.int (Int32.ofNat en)), s8, s9] []))
        rw [own_succ, own_succ]
        have e1 : fs ++ x :: own_fields cm bl t k (en + 1) = (fs ++ [x]) ++ own_fields cm bl t k (en + 1) := by simp
        have e2 : fs.length + 1 = (fs ++ [x]).length := by simp
        rw [e1, e2]
        exact ih (en + 1) (fs ++ [x]) h cc _ s8 s9 _ A0 (by omega) (by omega) (by simp; omega) (One.val rfl) o8 o9 V0 V3 B3 KP
      ·
        rw [if_neg hlt]
        refine own_go (fun t_ k_ => XS.iinc A0.here hx rfl (hb hby d4_122) rfl (l' := #[.val (.ref r0), .val (.int p1), .val (.int (Int32.ofNat t)), .val (.ref r3), .val (.int ((Int32.ofNat fs.length) + (1 : Int32))), .val (.int (Int32.ofNat st)), .val (.int (1 : Int32)), .val (.int (Int32.ofNat en)), s8, s9]) rfl k_) ?_
        show own_Go _ _ _ _ (T0.setTop (mkF m 125 #[.val (.ref r0), .val (.int p1), .val (.int (Int32.ofNat t)), .val (.ref r3), .val (.int ((Int32.ofNat fs.length) + (1 : Int32))), .val (.int (Int32.ofNat st)), .val (.int (1 : Int32)), .val (.int (Int32.ofNat en)), s8, s9] []))
        refine own_go (fun t_ k_ => XS.iload A0.here hx rfl (hb hby d4_125) rfl k_) ?_
        show own_Go _ _ _ _ (T0.setTop (mkF m 127 #[.val (.ref r0), .val (.int p1), .val (.int (Int32.ofNat t)), .val (.ref r3), .val (.int ((Int32.ofNat fs.length) + (1 : Int32))), .val (.int (Int32.ofNat st)), .val (.int (1 : Int32)), .val (.int (Int32.ofNat en)), s8, s9] [(.int (Int32.ofNat en))]))
        refine own_go (fun t_ k_ => XS.iloadN A0.here hx rfl (hb hby d4_127) rfl k_) ?_
        show own_Go _ _ _ _ (T0.setTop (mkF m 128 #[.val (.ref r0), .val (.int p1), .val (.int (Int32.ofNat t)), .val (.ref r3), .val (.int ((Int32.ofNat fs.length) + (1 : Int32))), .val (.int (Int32.ofNat st)), .val (.int (1 : Int32)), .val (.int (Int32.ofNat en)), s8, s9] [(.int (Int32.ofNat t)), (.int (Int32.ofNat en))]))
        have hc21 : ¬ ((Int32.ofNat en) < (Int32.ofNat t)) := fun q => hlt ((own_nlt (by omega) (by omega)).mp q)
        refine own_go (fun t_ k_ => XS.icmpYes A0.here hx rfl (pc0 := 128) (pc' := 135) rfl (hb hby d4_128) rfl (flt hc21).2.1 (by decide) (by decide) k_) ?_
        show own_Go _ _ _ _ (T0.setTop (mkF m 135 #[.val (.ref r0), .val (.int p1), .val (.int (Int32.ofNat t)), .val (.ref r3), .val (.int ((Int32.ofNat fs.length) + (1 : Int32))), .val (.int (Int32.ofNat st)), .val (.int (1 : Int32)), .val (.int (Int32.ofNat en)), s8, s9] []))
        refine own_go (fun t_ k_ => XS.iconst A0.here hx rfl (hb hby d4_135) k_) ?_
        show own_Go _ _ _ _ (T0.setTop (mkF m 136 #[.val (.ref r0), .val (.int p1), .val (.int (Int32.ofNat t)), .val (.ref r3), .val (.int ((Int32.ofNat fs.length) + (1 : Int32))), .val (.int (Int32.ofNat st)), .val (.int (1 : Int32)), .val (.int (Int32.ofNat en)), s8, s9] [(.int (0 : Int32))]))
        refine own_go (fun t_ k_ => XS.istore A0.here hx rfl (hb hby d4_136) rfl (l' := #[.val (.ref r0), .val (.int p1), .val (.int (Int32.ofNat t)), .val (.ref r3), .val (.int ((Int32.ofNat fs.length) + (1 : Int32))), .val (.int (Int32.ofNat st)), .val (.int (0 : Int32)), .val (.int (Int32.ofNat en)), s8, s9]) rfl k_) ?_
        show own_Go _ _ _ _ (T0.setTop (mkF m 138 #[.val (.ref r0), .val (.int p1), .val (.int (Int32.ofNat t)), .val (.ref r3), .val (.int ((Int32.ofNat fs.length) + (1 : Int32))), .val (.int (Int32.ofNat st)), .val (.int (0 : Int32)), .val (.int (Int32.ofNat en)), s8, s9] []))
        refine own_go (fun t_ k_ => XS.iload A0.here hx rfl (hb hby d4_138) rfl k_) ?_
        show own_Go _ _ _ _ (T0.setTop (mkF m 140 #[.val (.ref r0), .val (.int p1), .val (.int (Int32.ofNat t)), .val (.ref r3), .val (.int ((Int32.ofNat fs.length) + (1 : Int32))), .val (.int (Int32.ofNat st)), .val (.int (0 : Int32)), .val (.int (Int32.ofNat en)), s8, s9] [(.int (Int32.ofNat en))]))
        refine own_go (fun t_ k_ => XS.iconst A0.here hx rfl (hb hby d4_140) k_) ?_
        show own_Go _ _ _ _ (T0.setTop (mkF m 141 #[.val (.ref r0), .val (.int p1), .val (.int (Int32.ofNat t)), .val (.ref r3), .val (.int ((Int32.ofNat fs.length) + (1 : Int32))), .val (.int (Int32.ofNat st)), .val (.int (0 : Int32)), .val (.int (Int32.ofNat en)), s8, s9] [(.int (1 : Int32)), (.int (Int32.ofNat en))]))
        refine own_go (fun t_ k_ => XS.iadd A0.here hx rfl (hb hby d4_141) rfl k_) ?_
        show own_Go _ _ _ _ (T0.setTop (mkF m 142 #[.val (.ref r0), .val (.int p1), .val (.int (Int32.ofNat t)), .val (.ref r3), .val (.int ((Int32.ofNat fs.length) + (1 : Int32))), .val (.int (Int32.ofNat st)), .val (.int (0 : Int32)), .val (.int (Int32.ofNat en)), s8, s9] [(.int ((Int32.ofNat en) + (1 : Int32)))]))
        refine own_go (fun t_ k_ => XS.istore A0.here hx rfl (hb hby d4_142) rfl (l' := #[.val (.ref r0), .val (.int p1), .val (.int (Int32.ofNat t)), .val (.ref r3), .val (.int ((Int32.ofNat fs.length) + (1 : Int32))), .val (.int ((Int32.ofNat en) + (1 : Int32))), .val (.int (0 : Int32)), .val (.int (Int32.ofNat en)), s8, s9]) rfl k_) ?_
        show own_Go _ _ _ _ (T0.setTop (mkF m 144 #[.val (.ref r0), .val (.int p1), .val (.int (Int32.ofNat t)), .val (.ref r3), .val (.int ((Int32.ofNat fs.length) + (1 : Int32))), .val (.int ((Int32.ofNat en) + (1 : Int32))), .val (.int (0 : Int32)), .val (.int (Int32.ofNat en)), s8, s9] []))
        refine own_go (fun t_ k_ => XS.goto A0.here hx rfl (pc0 := 144) (pc' := 9) rfl (hb hby d4_144) (by decide) (by decide) k_) ?_
        show own_Go _ _ _ _ (T0.setTop (mkF m 9 #[.val (.ref r0), .val (.int p1), .val (.int (Int32.ofNat t)), .val (.ref r3), .val (.int ((Int32.ofNat fs.length) + (1 : Int32))), .val (.int ((Int32.ofNat en) + (1 : Int32))), .val (.int (0 : Int32)), .val (.int (Int32.ofNat en)), s8, s9] []))
        refine own_go (fun t_ k_ => XS.iload A0.here hx rfl (hb hby d4_9) rfl k_) ?_
        show own_Go _ _ _ _ (T0.setTop (mkF m 11 #[.val (.ref r0), .val (.int p1), .val (.int (Int32.ofNat t)), .val (.ref r3), .val (.int ((Int32.ofNat fs.length) + (1 : Int32))), .val (.int ((Int32.ofNat en) + (1 : Int32))), .val (.int (0 : Int32)), .val (.int (Int32.ofNat en)), s8, s9] [(.int (0 : Int32))]))
        have hc22 : (0 : Int32) = (0 : Int32) := rfl
        refine own_go (fun t_ k_ => XS.ifYes A0.here hx rfl (pc0 := 11) (pc' := 147) rfl (hb hby d4_11) rfl ((if0 _ _).trans (teq hc22).1) (by decide) (by decide) k_) ?_
        show own_Go _ _ _ _ (T0.setTop (mkF m 147 #[.val (.ref r0), .val (.int p1), .val (.int (Int32.ofNat t)), .val (.ref r3), .val (.int ((Int32.ofNat fs.length) + (1 : Int32))), .val (.int ((Int32.ofNat en) + (1 : Int32))), .val (.int (0 : Int32)), .val (.int (Int32.ofNat en)), s8, s9] []))
        refine own_go (fun t_ k_ => XS.iload A0.here hx rfl (hb hby d4_147) rfl k_) ?_
        show own_Go _ _ _ _ (T0.setTop (mkF m 149 #[.val (.ref r0), .val (.int p1), .val (.int (Int32.ofNat t)), .val (.ref r3), .val (.int ((Int32.ofNat fs.length) + (1 : Int32))), .val (.int ((Int32.ofNat en) + (1 : Int32))), .val (.int (0 : Int32)), .val (.int (Int32.ofNat en)), s8, s9] [(.int ((Int32.ofNat fs.length) + (1 : Int32)))]))
        refine own_retI A0 hx hret hlk (by decide) (by decide) (hb hby d4_149) ?_
        rw [own_succ]
        have e2 : fs.length + 1 = (fs ++ [x]).length := by simp
        rw [e2]
        exact ⟨rfl, KP, cc, V3, B3⟩
    show own_Go _ _ _ _ (T0.setTop (mkF m 9 #[.val (.ref r0), .val (.int p1), .val (.int (Int32.ofNat t)), .val (.ref r3), .val (.int (Int32.ofNat fs.length)), .val (.int (Int32.ofNat st)), .val (.int (1 : Int32)), s7, s8, s9] []))
    refine own_go (fun t_ k_ => XS.iload A0.here hx rfl (hb hby d4_9) rfl k_) ?_
    show own_Go _ _ _ _ (T0.setTop (mkF m 11 #[.val (.ref r0), .val (.int p1), .val (.int (Int32.ofNat t)), .val (.ref r3), .val (.int (Int32.ofNat fs.length)), .val (.int (Int32.ofNat st)), .val (.int (1 : Int32)), s7, s8, s9] [(.int (1 : Int32))]))
    have hc23 : ¬ ((1 : Int32) = (0 : Int32)) := (by decide)
    refine own_go (fun t_ k_ => XS.ifNo A0.here hx rfl (hb hby d4_11) rfl ((if0 _ _).trans (feq hc23).1) k_) ?_
    show own_Go _ _ _ _ (T0.setTop (mkF m 14 #[.val (.ref r0), .val (.int p1), .val (.int (Int32.ofNat t)), .val (.ref r3), .val (.int (Int32.ofNat fs.length)), .val (.int (Int32.ofNat st)), .val (.int (1 : Int32)), s7, s8, s9] []))
    refine own_go (fun t_ k_ => XS.iload A0.here hx rfl (hb hby d4_14) rfl k_) ?_
    show own_Go _ _ _ _ (T0.setTop (mkF m 16 #[.val (.ref r0), .val (.int p1), .val (.int (Int32.ofNat t)), .val (.ref r3), .val (.int (Int32.ofNat fs.length)), .val (.int (Int32.ofNat st)), .val (.int (1 : Int32)), s7, s8, s9] [(.int (Int32.ofNat st))]))
    refine own_go (fun t_ k_ => XS.istore A0.here hx rfl (hb hby d4_16) rfl (l' := #[.val (.ref r0), .val (.int p1), .val (.int (Int32.ofNat t)), .val (.ref r3), .val (.int (Int32.ofNat fs.length)), .val (.int (Int32.ofNat st)), .val (.int (1 : Int32)), .val (.int (Int32.ofNat st)), s8, s9]) (os4_16_vvvvvvvsss o7) k_) ?_
    show own_Go _ _ _ _ (T0.setTop (mkF m 18 #[.val (.ref r0), .val (.int p1), .val (.int (Int32.ofNat t)), .val (.ref r3), .val (.int (Int32.ofNat fs.length)), .val (.int (Int32.ofNat st)), .val (.int (1 : Int32)), .val (.int (Int32.ofNat st)), s8, s9] []))
    refine own_lpA hx hby hml hown hret hlk hZ hw r0 r3 p1 _ _ _ t nb fb cm bl V0 ht HC A0 (t - st) st rfl h2 ?_
    rw [hE]
    show own_Go _ _ _ _ (T0.setTop (mkF m 39 #[.val (.ref r0), .val (.int p1), .val (.int (Int32.ofNat t)), .val (.ref r3), .val (.int (Int32.ofNat fs.length)), .val (.int (Int32.ofNat st)), .val (.int (1 : Int32)), .val (.int (Int32.ofNat en)), s8, s9] []))
    refine own_go (fun t_ k_ => XS.iconst A0.here hx rfl (hb hby d4_39) k_) ?_
    show own_Go _ _ _ _ (T0.setTop (mkF m 40 #[.val (.ref r0), .val (.int p1), .val (.int (Int32.ofNat t)), .val (.ref r3), .val (.int (Int32.ofNat fs.length)), .val (.int (Int32.ofNat st)), .val (.int (1 : Int32)), .val (.int (Int32.ofNat en)), s8, s9] [(.int (2 : Int32))]))
    refine own_go (fun t_ k_ => XS.iload A0.here hx rfl (hb hby d4_40) rfl k_) ?_
    show own_Go _ _ _ _ (T0.setTop (mkF m 42 #[.val (.ref r0), .val (.int p1), .val (.int (Int32.ofNat t)), .val (.ref r3), .val (.int (Int32.ofNat fs.length)), .val (.int (Int32.ofNat st)), .val (.int (1 : Int32)), .val (.int (Int32.ofNat en)), s8, s9] [(.int (Int32.ofNat fs.length)), (.int (2 : Int32))]))
    refine own_go (fun t_ k_ => XS.imul A0.here hx rfl (hb hby d4_42) rfl k_) ?_
    show own_Go _ _ _ _ (T0.setTop (mkF m 43 #[.val (.ref r0), .val (.int p1), .val (.int (Int32.ofNat t)), .val (.ref r3), .val (.int (Int32.ofNat fs.length)), .val (.int (Int32.ofNat st)), .val (.int (1 : Int32)), .val (.int (Int32.ofNat en)), s8, s9] [(.int ((2 : Int32) * (Int32.ofNat fs.length)))]))
    refine own_go (fun t_ k_ => XS.aloadN A0.here hx rfl (hb hby d4_43) rfl rfl k_) ?_
    show own_Go _ _ _ _ (T0.setTop (mkF m 44 #[.val (.ref r0), .val (.int p1), .val (.int (Int32.ofNat t)), .val (.ref r3), .val (.int (Int32.ofNat fs.length)), .val (.int (Int32.ofNat st)), .val (.int (1 : Int32)), .val (.int (Int32.ofNat en)), s8, s9] [(.ref r3), (.int ((2 : Int32) * (Int32.ofNat fs.length)))]))
    refine own_len A0 hx hZ V3 rfl rfl (hb hby d4_44) ?_
    show own_Go _ _ _ _ (T0.setTop (mkF m 45 #[.val (.ref r0), .val (.int p1), .val (.int (Int32.ofNat t)), .val (.ref r3), .val (.int (Int32.ofNat fs.length)), .val (.int (Int32.ofNat st)), .val (.int (1 : Int32)), .val (.int (Int32.ofNat en)), s8, s9] [(.int (Int32.ofNat (2 * q))), (.int ((2 : Int32) * (Int32.ofNat fs.length)))]))
    rw [own_dbl]
    show own_Go _ _ _ _ (T0.setTop (mkF m 45 #[.val (.ref r0), .val (.int p1), .val (.int (Int32.ofNat t)), .val (.ref r3), .val (.int (Int32.ofNat fs.length)), .val (.int (Int32.ofNat st)), .val (.int (1 : Int32)), .val (.int (Int32.ofNat en)), s8, s9] [(.int (Int32.ofNat (2 * q))), (.int (Int32.ofNat (2 * fs.length)))]))
    by_cases hroom0 : (Int32.ofNat (2 * fs.length)) < (Int32.ofNat (2 * q))
    ·
      refine own_go (fun t_ k_ => XS.icmpNo A0.here hx rfl (hb hby d4_45) rfl (tlt hroom0).2.1 k_) ?_
      show own_Go _ _ _ _ (T0.setTop (mkF m 48 #[.val (.ref r0), .val (.int p1), .val (.int (Int32.ofNat t)), .val (.ref r3), .val (.int (Int32.ofNat fs.length)), .val (.int (Int32.ofNat st)), .val (.int (1 : Int32)), .val (.int (Int32.ofNat en)), s8, s9] []))
      refine own_go (fun t_ k_ => XS.iload A0.here hx rfl (hb hby d4_48) rfl k_) ?_
      show own_Go _ _ _ _ (T0.setTop (mkF m 50 #[.val (.ref r0), .val (.int p1), .val (.int (Int32.ofNat t)), .val (.ref r3), .val (.int (Int32.ofNat fs.length)), .val (.int (Int32.ofNat st)), .val (.int (1 : Int32)), .val (.int (Int32.ofNat en)), s8, s9] [(.int (Int32.ofNat st))]))
      refine own_go (fun t_ k_ => XS.istore A0.here hx rfl (hb hby d4_50) rfl (l' := #[.val (.ref r0), .val (.int p1), .val (.int (Int32.ofNat t)), .val (.ref r3), .val (.int (Int32.ofNat fs.length)), .val (.int (Int32.ofNat st)), .val (.int (1 : Int32)), .val (.int (Int32.ofNat en)), .val (.int (Int32.ofNat st)), s9]) (os4_50_vvvvvvvvss o8) k_) ?_
      show own_Go _ _ _ _ (T0.setTop (mkF m 52 #[.val (.ref r0), .val (.int p1), .val (.int (Int32.ofNat t)), .val (.ref r3), .val (.int (Int32.ofNat fs.length)), .val (.int (Int32.ofNat st)), .val (.int (1 : Int32)), .val (.int (Int32.ofNat en)), .val (.int (Int32.ofNat st)), s9] []))
      refine own_go (fun t_ k_ => XS.iload A0.here hx rfl (hb hby d4_52) rfl k_) ?_
      show own_Go _ _ _ _ (T0.setTop (mkF m 54 #[.val (.ref r0), .val (.int p1), .val (.int (Int32.ofNat t)), .val (.ref r3), .val (.int (Int32.ofNat fs.length)), .val (.int (Int32.ofNat st)), .val (.int (1 : Int32)), .val (.int (Int32.ofNat en)), .val (.int (Int32.ofNat st)), s9] [(.int (Int32.ofNat en))]))
      refine own_go (fun t_ k_ => XS.istore A0.here hx rfl (hb hby d4_54) rfl (l' := #[.val (.ref r0), .val (.int p1), .val (.int (Int32.ofNat t)), .val (.ref r3), .val (.int (Int32.ofNat fs.length)), .val (.int (Int32.ofNat st)), .val (.int (1 : Int32)), .val (.int (Int32.ofNat en)), .val (.int (Int32.ofNat st)), .val (.int (Int32.ofNat en))]) (os4_54_vvvvvvvvvs o9) k_) ?_
      show own_Go _ _ _ _ (T0.setTop (mkF m 56 #[.val (.ref r0), .val (.int p1), .val (.int (Int32.ofNat t)), .val (.ref r3), .val (.int (Int32.ofNat fs.length)), .val (.int (Int32.ofNat st)), .val (.int (1 : Int32)), .val (.int (Int32.ofNat en)), .val (.int (Int32.ofNat st)), .val (.int (Int32.ofNat en))] []))
      have hroom : fs.length < q := by have := (own_nlt (by omega) (by omega)).mp hroom0; omega
      have hfi := own_first_le (bl := bl) (en - st) st
      refine own_lpB hx hby hml hown hret hlk hZ hw r0 r3 p1 _ _ _ t nb fb cm bl V0 ht HC _ en hen.2 (en - st) st _ A0 rfl hen.1 (fun T4 A4 => ?_)
      generalize hF : own_first bl (en - st) st = fi at hfi
      show own_Go _ _ _ _ (T4.setTop (mkF m 79 #[.val (.ref r0), .val (.int p1), .val (.int (Int32.ofNat t)), .val (.ref r3), .val (.int (Int32.ofNat fs.length)), .val (.int (Int32.ofNat st)), .val (.int (1 : Int32)), .val (.int (Int32.ofNat en)), .val (.int (Int32.ofNat fi)), .val (.int (Int32.ofNat en))] []))
      have ela : fi + (en - fi) = en := by omega
      have hla := own_last_le (bl := bl) (fi := fi) (en - fi)
      suffices hs : own_Go p.tables e below (own_End n0 s 0 0 (fun v h => v = some (.int (Int32.ofNat (fs ++ own_fields cm bl t (k + 1) st).length)) ∧ Keep h0 h [r3] ∧ ∃ c, own_Arr Z h r3 .int (Int32.ofNat (2 * q)) c ∧ own_Bd q (fs ++ own_fields cm bl t (k + 1) st) fl c)) (T4.setTop (mkF m 79 #[.val (.ref r0), .val (.int p1), .val (.int (Int32.ofNat t)), .val (.ref r3), .val (.int (Int32.ofNat fs.length)), .val (.int (Int32.ofNat st)), .val (.int (1 : Int32)), .val (.int (Int32.ofNat en)), .val (.int (Int32.ofNat fi)), .val (.int (Int32.ofNat (fi + (en - fi))))] [])) by rw [ela] at hs; exact hs
      refine own_lpC hx hby hml hown hret hlk hZ hw r0 r3 p1 _ _ _ t nb fb cm bl V0 ht HC _ fi (en - fi) _ A4 (by omega) (fun T5 A5 => ?_)
      generalize hL : own_last bl fi (en - fi) = la at hla
      show own_Go _ _ _ _ (T5.setTop (mkF m 104 #[.val (.ref r0), .val (.int p1), .val (.int (Int32.ofNat t)), .val (.ref r3), .val (.int (Int32.ofNat fs.length)), .val (.int (Int32.ofNat st)), .val (.int (1 : Int32)), .val (.int (Int32.ofNat en)), .val (.int (Int32.ofNat fi)), .val (.int (Int32.ofNat la))] []))
      refine own_go (fun t_ k_ => XS.aloadN A5.here hx rfl (hb hby d4_104) rfl rfl k_) ?_
      show own_Go _ _ _ _ (T5.setTop (mkF m 105 #[.val (.ref r0), .val (.int p1), .val (.int (Int32.ofNat t)), .val (.ref r3), .val (.int (Int32.ofNat fs.length)), .val (.int (Int32.ofNat st)), .val (.int (1 : Int32)), .val (.int (Int32.ofNat en)), .val (.int (Int32.ofNat fi)), .val (.int (Int32.ofNat la))] [(.ref r3)]))
      refine own_go (fun t_ k_ => XS.iconst A5.here hx rfl (hb hby d4_105) k_) ?_
      show own_Go _ _ _ _ (T5.setTop (mkF m 106 #[.val (.ref r0), .val (.int p1), .val (.int (Int32.ofNat t)), .val (.ref r3), .val (.int (Int32.ofNat fs.length)), .val (.int (Int32.ofNat st)), .val (.int (1 : Int32)), .val (.int (Int32.ofNat en)), .val (.int (Int32.ofNat fi)), .val (.int (Int32.ofNat la))] [(.int (2 : Int32)), (.ref r3)]))
      refine own_go (fun t_ k_ => XS.iload A5.here hx rfl (hb hby d4_106) rfl k_) ?_
      show own_Go _ _ _ _ (T5.setTop (mkF m 108 #[.val (.ref r0), .val (.int p1), .val (.int (Int32.ofNat t)), .val (.ref r3), .val (.int (Int32.ofNat fs.length)), .val (.int (Int32.ofNat st)), .val (.int (1 : Int32)), .val (.int (Int32.ofNat en)), .val (.int (Int32.ofNat fi)), .val (.int (Int32.ofNat la))] [(.int (Int32.ofNat fs.length)), (.int (2 : Int32)), (.ref r3)]))
      refine own_go (fun t_ k_ => XS.imul A5.here hx rfl (hb hby d4_108) rfl k_) ?_
      show own_Go _ _ _ _ (T5.setTop (mkF m 109 #[.val (.ref r0), .val (.int p1), .val (.int (Int32.ofNat t)), .val (.ref r3), .val (.int (Int32.ofNat fs.length)), .val (.int (Int32.ofNat st)), .val (.int (1 : Int32)), .val (.int (Int32.ofNat en)), .val (.int (Int32.ofNat fi)), .val (.int (Int32.ofNat la))] [(.int ((2 : Int32) * (Int32.ofNat fs.length))), (.ref r3)]))
      refine own_go (fun t_ k_ => XS.iload A5.here hx rfl (hb hby d4_109) rfl k_) ?_
      show own_Go _ _ _ _ (T5.setTop (mkF m 111 #[.val (.ref r0), .val (.int p1), .val (.int (Int32.ofNat t)), .val (.ref r3), .val (.int (Int32.ofNat fs.length)), .val (.int (Int32.ofNat st)), .val (.int (1 : Int32)), .val (.int (Int32.ofNat en)), .val (.int (Int32.ofNat fi)), .val (.int (Int32.ofNat la))] [(.int (Int32.ofNat fi)), (.int ((2 : Int32) * (Int32.ofNat fs.length))), (.ref r3)]))
      rw [own_dbl]
      show own_Go _ _ _ _ (T5.setTop (mkF m 111 #[.val (.ref r0), .val (.int p1), .val (.int (Int32.ofNat t)), .val (.ref r3), .val (.int (Int32.ofNat fs.length)), .val (.int (Int32.ofNat st)), .val (.int (1 : Int32)), .val (.int (Int32.ofNat en)), .val (.int (Int32.ofNat fi)), .val (.int (Int32.ofNat la))] [(.int (Int32.ofNat fi)), (.int (Int32.ofNat (2 * fs.length))), (.ref r3)]))
      refine own_stI A5 hx hZ V3 ⟨own_nn (by omega), (own_nlt (by omega) (by omega)).mpr (by omega)⟩ g3 rfl rfl (hb hby d4_111) (fun T24 h26 A25 W27 V28 => ?_)
      have V29 : own_Arr Z h26 r0 .byte nb fb := V0.other W27 ne
      have V30 : own_Arr Z h26 r3 .int (Int32.ofNat (2 * q)) (fun i => if i = (Int32.ofNat (2 * fs.length)) then (Int32.ofNat fi) else cc i) := V28
      have K31 : Keep h0 h26 [r3] := KP.wr W27 (Or.inl (List.mem_of_getElem? (i := 0) rfl))
      show own_Go _ _ _ _ (T24.setTop (mkF m 112 #[.val (.ref r0), .val (.int p1), .val (.int (Int32.ofNat t)), .val (.ref r3), .val (.int (Int32.ofNat fs.length)), .val (.int (Int32.ofNat st)), .val (.int (1 : Int32)), .val (.int (Int32.ofNat en)), .val (.int (Int32.ofNat fi)), .val (.int (Int32.ofNat la))] []))
      refine own_go (fun t_ k_ => XS.aloadN A25.here hx rfl (hb hby d4_112) rfl rfl k_) ?_
      show own_Go _ _ _ _ (T24.setTop (mkF m 113 #[.val (.ref r0), .val (.int p1), .val (.int (Int32.ofNat t)), .val (.ref r3), .val (.int (Int32.ofNat fs.length)), .val (.int (Int32.ofNat st)), .val (.int (1 : Int32)), .val (.int (Int32.ofNat en)), .val (.int (Int32.ofNat fi)), .val (.int (Int32.ofNat la))] [(.ref r3)]))
      refine own_go (fun t_ k_ => XS.iconst A25.here hx rfl (hb hby d4_113) k_) ?_
      show own_Go _ _ _ _ (T24.setTop (mkF m 114 #[.val (.ref r0), .val (.int p1), .val (.int (Int32.ofNat t)), .val (.ref r3), .val (.int (Int32.ofNat fs.length)), .val (.int (Int32.ofNat st)), .val (.int (1 : Int32)), .val (.int (Int32.ofNat en)), .val (.int (Int32.ofNat fi)), .val (.int (Int32.ofNat la))] [(.int (2 : Int32)), (.ref r3)]))
      refine own_go (fun t_ k_ => XS.iload A25.here hx rfl (hb hby d4_114) rfl k_) ?_
      show own_Go _ _ _ _ (T24.setTop (mkF m 116 #[.val (.ref r0), .val (.int p1), .val (.int (Int32.ofNat t)), .val (.ref r3), .val (.int (Int32.ofNat fs.length)), .val (.int (Int32.ofNat st)), .val (.int (1 : Int32)), .val (.int (Int32.ofNat en)), .val (.int (Int32.ofNat fi)), .val (.int (Int32.ofNat la))] [(.int (Int32.ofNat fs.length)), (.int (2 : Int32)), (.ref r3)]))
      refine own_go (fun t_ k_ => XS.imul A25.here hx rfl (hb hby d4_116) rfl k_) ?_
      show own_Go _ _ _ _ (T24.setTop (mkF m 117 #[.val (.ref r0), .val (.int p1), .val (.int (Int32.ofNat t)), .val (.ref r3), .val (.int (Int32.ofNat fs.length)), .val (.int (Int32.ofNat st)), .val (.int (1 : Int32)), .val (.int (Int32.ofNat en)), .val (.int (Int32.ofNat fi)), .val (.int (Int32.ofNat la))] [(.int ((2 : Int32) * (Int32.ofNat fs.length))), (.ref r3)]))
      refine own_go (fun t_ k_ => XS.iconst A25.here hx rfl (hb hby d4_117) k_) ?_
      show own_Go _ _ _ _ (T24.setTop (mkF m 118 #[.val (.ref r0), .val (.int p1), .val (.int (Int32.ofNat t)), .val (.ref r3), .val (.int (Int32.ofNat fs.length)), .val (.int (Int32.ofNat st)), .val (.int (1 : Int32)), .val (.int (Int32.ofNat en)), .val (.int (Int32.ofNat fi)), .val (.int (Int32.ofNat la))] [(.int (1 : Int32)), (.int ((2 : Int32) * (Int32.ofNat fs.length))), (.ref r3)]))
      refine own_go (fun t_ k_ => XS.iadd A25.here hx rfl (hb hby d4_118) rfl k_) ?_
      show own_Go _ _ _ _ (T24.setTop (mkF m 119 #[.val (.ref r0), .val (.int p1), .val (.int (Int32.ofNat t)), .val (.ref r3), .val (.int (Int32.ofNat fs.length)), .val (.int (Int32.ofNat st)), .val (.int (1 : Int32)), .val (.int (Int32.ofNat en)), .val (.int (Int32.ofNat fi)), .val (.int (Int32.ofNat la))] [(.int (((2 : Int32) * (Int32.ofNat fs.length)) + (1 : Int32))), (.ref r3)]))
      refine own_go (fun t_ k_ => XS.iload A25.here hx rfl (hb hby d4_119) rfl k_) ?_
      show own_Go _ _ _ _ (T24.setTop (mkF m 121 #[.val (.ref r0), .val (.int p1), .val (.int (Int32.ofNat t)), .val (.ref r3), .val (.int (Int32.ofNat fs.length)), .val (.int (Int32.ofNat st)), .val (.int (1 : Int32)), .val (.int (Int32.ofNat en)), .val (.int (Int32.ofNat fi)), .val (.int (Int32.ofNat la))] [(.int (Int32.ofNat la)), (.int (((2 : Int32) * (Int32.ofNat fs.length)) + (1 : Int32))), (.ref r3)]))
      rw [own_dbl]
      show own_Go _ _ _ _ (T24.setTop (mkF m 121 #[.val (.ref r0), .val (.int p1), .val (.int (Int32.ofNat t)), .val (.ref r3), .val (.int (Int32.ofNat fs.length)), .val (.int (Int32.ofNat st)), .val (.int (1 : Int32)), .val (.int (Int32.ofNat en)), .val (.int (Int32.ofNat fi)), .val (.int (Int32.ofNat la))] [(.int (Int32.ofNat la)), (.int (Int32.ofNat (2 * fs.length) + (1 : Int32))), (.ref r3)]))
      refine own_stI A25 hx hZ V30 (by rw [own_succ]; exact ⟨own_nn (by omega), (own_nlt (by omega) (by omega)).mpr (by omega)⟩) g3 rfl rfl (hb hby d4_121) (fun T32 h34 A33 W35 V36 => ?_)
      have V37 : own_Arr Z h34 r0 .byte nb fb := V29.other W35 ne
      have V38 : own_Arr Z h34 r3 .int (Int32.ofNat (2 * q)) (fun i => if i = (Int32.ofNat (2 * fs.length) + (1 : Int32)) then (Int32.ofNat la) else (fun i => if i = (Int32.ofNat (2 * fs.length)) then (Int32.ofNat fi) else cc i) i) := V36
      have K39 : Keep h0 h34 [r3] := K31.wr W35 (Or.inl (List.mem_of_getElem? (i := 0) rfl))
      show own_Go _ _ _ _ (T32.setTop (mkF m 122 #[.val (.ref r0), .val (.int p1), .val (.int (Int32.ofNat t)), .val (.ref r3), .val (.int (Int32.ofNat fs.length)), .val (.int (Int32.ofNat st)), .val (.int (1 : Int32)), .val (.int (Int32.ofNat en)), .val (.int (Int32.ofNat fi)), .val (.int (Int32.ofNat la))] []))
      exact tail _ _ _ (fi, la) _ _ A33 (One.val rfl) (One.val rfl) V37 V38 (B3.put hroom (by omega) fi la) K39 (by rw [own_fields, hE, hF, hL])
    ·
      refine own_go (fun t_ k_ => XS.icmpYes A0.here hx rfl (pc0 := 45) (pc' := 122) rfl (hb hby d4_45) rfl (flt hroom0).2.1 (by decide) (by decide) k_) ?_
      show own_Go _ _ _ _ (T0.setTop (mkF m 122 #[.val (.ref r0), .val (.int p1), .val (.int (Int32.ofNat t)), .val (.ref r3), .val (.int (Int32.ofNat fs.length)), .val (.int (Int32.ofNat st)), .val (.int (1 : Int32)), .val (.int (Int32.ofNat en)), s8, s9] []))
      exact tail _ _ cc (own_first bl (en - st) st, own_last bl (own_first bl (en - st) st) (en - own_first bl (en - st) st)) _ _ A0 o8 o9 V0 V3 (B3.full (by have := own_nge (by omega) (by omega) hroom0; omega) _) KP (by rw [own_fields, hE])
theorem ef_4 (m : MethodId) (r0 : Addr) (p1 : Int32) (p2 : Int32) (r3 : Addr) : entryFrame m #[(.ref r0), (.int p1), (.int p2), (.ref r3)] 10 = mkF m 0 #[.val (.ref r0), .val (.int p1), .val (.int p2), .val (.ref r3), .unset, .unset, .unset, .unset, .unset, .unset] [] := by first | (simp [entryFrame, mkF, argsToLocals, Value.category]; done) | rfl
theorem d4_0 : decode prog_13_method_11_code 0 = .ok (.iconst 0, 1) := by decide +kernel
theorem d4_1 : decode prog_13_method_11_code 1 = .ok (.istore 4, 2) := by decide +kernel
theorem d4_3 : decode prog_13_method_11_code 3 = .ok (.iload_n 1, 1) := by decide +kernel
theorem d4_4 : decode prog_13_method_11_code 4 = .ok (.istore 5, 2) := by decide +kernel
theorem d4_6 : decode prog_13_method_11_code 6 = .ok (.iconst 1, 1) := by decide +kernel
theorem d4_7 : decode prog_13_method_11_code 7 = .ok (.istore 6, 2) := by decide +kernel
set_option maxRecDepth 65536 in
set_option maxHeartbeats 40000000 in
theorem rm4 (l : Launch) (Z : State) (a0 : Array Value) (hw : ∀ d ∈ tables_1, d.before a0 Z = true) (r0 r3 : Addr) (i0 t q : Nat) (nb : Int32) (fb fl : Int32 → Int32) (cm bl : Nat → Bool) (h0 : Heap) (n0 : Nat) (ht : (t : Int) ≤ nb.toInt) (htb : t < 2 ^ 29) (HC : own_Cls cm bl t fb) (hq : 2 * q < 2 ^ 30) (hi : i0 ≤ t) (V0 : own_Arr Z h0 r0 .byte nb fb) (V3 : own_Arr Z h0 r3 .int (Int32.ofNat (2 * q)) fl) (ne : r0 ≠ r3) (g3 : n0 ≤ r3) :
    own_Met l Z n0 (⟨"com/example/indexloom/indexloom/data/DataHeader", "split", "([BII[I)I"⟩ : MethodName) prog_13_method_11_code 10 (some .int) ({ frames := 1, cells := 0, slots := 0, locals := 12 } : Room) #[(.ref r0), (.int (Int32.ofNat i0)), (.int (Int32.ofNat t)), (.ref r3)] h0 (fun v h => v = some (.int (Int32.ofNat (own_fields cm bl t (t - i0 + 1) i0).length)) ∧ Keep h0 h [r3] ∧ ∃ c, own_Arr Z h r3 .int (Int32.ofNat (2 * q)) c ∧ own_Bd q (own_fields cm bl t (t - i0 + 1) i0) fl c) := by
  refine own_met (plainFor_of_name pn_6) ?_
  intro p e s m below meth c T0 hx hby hml hown hnm hret hlk hZ A0
  rw [ef_4]
  show own_Go _ _ _ _ (T0.setTop (mkF m 0 #[.val (.ref r0), .val (.int (Int32.ofNat i0)), .val (.int (Int32.ofNat t)), .val (.ref r3), .unset, .unset, .unset, .unset, .unset, .unset] []))
  refine own_go (fun t_ k_ => XS.iconst A0.here hx rfl (hb hby d4_0) k_) ?_
  show own_Go _ _ _ _ (T0.setTop (mkF m 1 #[.val (.ref r0), .val (.int (Int32.ofNat i0)), .val (.int (Int32.ofNat t)), .val (.ref r3), .unset, .unset, .unset, .unset, .unset, .unset] [(.int (0 : Int32))]))
  refine own_go (fun t_ k_ => XS.istore A0.here hx rfl (hb hby d4_1) rfl (l' := #[.val (.ref r0), .val (.int (Int32.ofNat i0)), .val (.int (Int32.ofNat t)), .val (.ref r3), .val (.int (0 : Int32)), .unset, .unset, .unset, .unset, .unset]) rfl k_) ?_
  show own_Go _ _ _ _ (T0.setTop (mkF m 3 #[.val (.ref r0), .val (.int (Int32.ofNat i0)), .val (.int (Int32.ofNat t)), .val (.ref r3), .val (.int (0 : Int32)), .unset, .unset, .unset, .unset, .unset] []))
  refine own_go (fun t_ k_ => XS.iloadN A0.here hx rfl (hb hby d4_3) rfl k_) ?_
  show own_Go _ _ _ _ (T0.setTop (mkF m 4 #[.val (.ref r0), .val (.int (Int32.ofNat i0)), .val (.int (Int32.ofNat t)), .val (.ref r3), .val (.int (0 : Int32)), .unset, .unset, .unset, .unset, .unset] [(.int (Int32.ofNat i0))]))
  refine own_go (fun t_ k_ => XS.istore A0.here hx rfl (hb hby d4_4) rfl (l' := #[.val (.ref r0), .val (.int (Int32.ofNat i0)), .val (.int (Int32.ofNat t)), .val (.ref r3), .val (.int (0 : Int32)), .val (.int (Int32.ofNat i0)), .unset, .unset, .unset, .unset]) rfl k_) ?_
  show own_Go _ _ _ _ (T0.setTop (mkF m 6 #[.val (.ref r0), .val (.int (Int32.ofNat i0)), .val (.int (Int32.ofNat t)), .val (.ref r3), .val (.int (0 : Int32)), .val (.int (Int32.ofNat i0)), .unset, .unset, .unset, .unset] []))
  refine own_go (fun t_ k_ => XS.iconst A0.here hx rfl (hb hby d4_6) k_) ?_
  show own_Go _ _ _ _ (T0.setTop (mkF m 7 #[.val (.ref r0), .val (.int (Int32.ofNat i0)), .val (.int (Int32.ofNat t)), .val (.ref r3), .val (.int (0 : Int32)), .val (.int (Int32.ofNat i0)), .unset, .unset, .unset, .unset] [(.int (1 : Int32))]))
  refine own_go (fun t_ k_ => XS.istore A0.here hx rfl (hb hby d4_7) rfl (l' := #[.val (.ref r0), .val (.int (Int32.ofNat i0)), .val (.int (Int32.ofNat t)), .val (.ref r3), .val (.int (0 : Int32)), .val (.int (Int32.ofNat i0)), .val (.int (1 : Int32)), .unset, .unset, .unset]) rfl k_) ?_
  show own_Go _ _ _ _ (T0.setTop (mkF m 9 #[.val (.ref r0), .val (.int (Int32.ofNat i0)), .val (.int (Int32.ofNat t)), .val (.ref r3), .val (.int (0 : Int32)), .val (.int (Int32.ofNat i0)), .val (.int (1 : Int32)), .unset, .unset, .unset] []))
  exact own_lpO hx hby hml hown hret hlk hZ hw r0 r3 _ t q nb fb fl cm bl ht htb HC hq ne g3 (t - i0 + 1) i0 [] h0 fl _ _ _ _ A0 (by omega) hi (Nat.zero_le _) One.u One.u One.u V0 V3 (fun j _ => ⟨rfl, rfl⟩) (Keep.refl _ _)
/-! the law's own reckoning, and that it is split's -/
abbrev own_S : Type := (Int32 → Int32) × (Int32 → Int32) × (Int32 → Int32) × Nat
def own_stp (cm bl : Nat → Bool) (fr t j : Nat) (σ : own_S) : own_S :=
  if j < fr then σ else if j < t then
    (if cm j = true then (σ.1, σ.2.1, (fun i => if i = Int32.ofNat σ.2.2.2 then Int32.ofNat j else σ.2.2.1 i), σ.2.2.2 + 1)
    else if bl j = true then σ
    else if σ.1 (Int32.ofNat σ.2.2.2) < 0 then ((fun i => if i = Int32.ofNat σ.2.2.2 then Int32.ofNat j else σ.1 i), (fun i => if i = Int32.ofNat σ.2.2.2 then Int32.ofNat (j + 1) else σ.2.1 i), σ.2.2.1, σ.2.2.2)
    else (σ.1, (fun i => if i = Int32.ofNat σ.2.2.2 then Int32.ofNat (j + 1) else σ.2.1 i), σ.2.2.1, σ.2.2.2)) else σ
theorem own_stp_le (cm bl : Nat → Bool) (fr t j : Nat) (σ : own_S) (h : σ.2.2.2 ≤ j) : (own_stp cm bl fr t j σ).2.2.2 ≤ j + 1 := by
  unfold own_stp
  repeat' split
  all_goals first | omega | (show σ.2.2.2 + 1 ≤ j + 1; omega) | (show σ.2.2.2 ≤ j + 1; omega)
def own_s0 : own_S := ((fun _ => -1), (fun _ => 0), (fun _ => 0), 0)
def own_s5 (cm bl : Nat → Bool) (fr t : Nat) : own_S := own_stp cm bl fr t 4 (own_stp cm bl fr t 3 (own_stp cm bl fr t 2 (own_stp cm bl fr t 1 (own_stp cm bl fr t 0 own_s0))))
def own_cmC (code i : Nat) : Bool := decide (code / 3 ^ i % 3 = 0)
def own_blC (code i : Nat) : Bool := decide (code / 3 ^ i % 3 = 1)
def own_En (σ : own_S) (t : Nat) (i : Int32) : Int32 := if i = Int32.ofNat σ.2.2.2 then Int32.ofNat t else σ.2.2.1 i
def own_okAt (σ : own_S) (t : Nat) (fs : List (Nat × Nat)) (j : Nat) : Bool :=
  decide (Int32.ofNat (fs.getD j (0, 0)).1 = (if σ.1 (Int32.ofNat j) < 0 then own_En σ t (Int32.ofNat j) else σ.1 (Int32.ofNat j))) &&
  decide (Int32.ofNat (fs.getD j (0, 0)).2 = (if σ.1 (Int32.ofNat j) < 0 then own_En σ t (Int32.ofNat j) else σ.2.1 (Int32.ofNat j)))
def own_ok (code fr t : Nat) : Bool :=
  decide ((own_fields (own_cmC code) (own_blC code) t (t - fr + 1) fr).length = (own_s5 (own_cmC code) (own_blC code) fr t).2.2.2 + 1) &&
  (List.range (own_fields (own_cmC code) (own_blC code) t (t - fr + 1) fr).length).all (own_okAt (own_s5 (own_cmC code) (own_blC code) fr t) t (own_fields (own_cmC code) (own_blC code) t (t - fr + 1) fr))
def own_ok21 (code : Nat) : Bool := (List.range 6).all fun fr => (List.range (6 - fr)).all fun d => own_ok code fr (fr + d)
set_option maxRecDepth 100000 in
theorem own_ok_all : (List.range 243).all own_ok21 = true := by decide +kernel
theorem own_plain (code fr t : Nat) (hc : code < 243) (h1 : fr ≤ t) (h2 : t ≤ 5) :
    (own_fields (own_cmC code) (own_blC code) t (t - fr + 1) fr).length = (own_s5 (own_cmC code) (own_blC code) fr t).2.2.2 + 1 ∧
    ∀ j, j < (own_fields (own_cmC code) (own_blC code) t (t - fr + 1) fr).length → own_okAt (own_s5 (own_cmC code) (own_blC code) fr t) t (own_fields (own_cmC code) (own_blC code) t (t - fr + 1) fr) j = true := by
  have h := List.all_eq_true.mp own_ok_all code (List.mem_range.mpr hc)
  have h' := List.all_eq_true.mp h fr (List.mem_range.mpr (by omega))
  have h'' := List.all_eq_true.mp h' (t - fr) (List.mem_range.mpr (by omega))
  have e : fr + (t - fr) = t := by omega
  rw [e] at h''
  have q := (Bool.and_eq_true _ _).mp h''
  exact ⟨of_decide_eq_true q.1, fun j hj => List.all_eq_true.mp q.2 j (List.mem_range.mpr hj)⟩
/-- the bytes' kinds as a number in base three -/
def own_kd (b : Int32) : Nat := if b = 44 then 0 else if b = 32 ∨ b = 9 ∨ b = 13 then 1 else 2
theorem own_kd_lt (b : Int32) : own_kd b < 3 := by
  unfold own_kd
  repeat' split
  all_goals omega
theorem own_kd0 (b : Int32) : b = 44 ↔ own_kd b = 0 := by
  unfold own_kd
  by_cases h : b = 44
  · rw [if_pos h]; exact ⟨fun _ => rfl, fun _ => h⟩
  · rw [if_neg h]
    refine ⟨fun q => absurd q h, fun q => ?_⟩
    split at q <;> omega
theorem own_kd1 (b : Int32) : (b = 32 ∨ b = 9 ∨ b = 13) ↔ own_kd b = 1 := by
  unfold own_kd
  by_cases h : b = 44
  · rw [if_pos h]
    subst h
    exact ⟨fun q => absurd q (by decide), fun q => absurd q (by decide)⟩
  · rw [if_neg h]
    by_cases h2 : b = 32 ∨ b = 9 ∨ b = 13
    · rw [if_pos h2]; exact ⟨fun _ => rfl, fun _ => h2⟩
    · rw [if_neg h2]; exact ⟨fun q => absurd q h2, fun q => absurd q (by decide)⟩
def own_code (fb : Int32 → Int32) : Nat := own_kd (fb (Int32.ofNat 0)) + 3 * own_kd (fb (Int32.ofNat 1)) + 9 * own_kd (fb (Int32.ofNat 2)) + 27 * own_kd (fb (Int32.ofNat 3)) + 81 * own_kd (fb (Int32.ofNat 4))
theorem own_code_lt (fb : Int32 → Int32) : own_code fb < 243 := by
  unfold own_code
  have h0 := own_kd_lt (fb (Int32.ofNat 0))
  have h1 := own_kd_lt (fb (Int32.ofNat 1))
  have h2 := own_kd_lt (fb (Int32.ofNat 2))
  have h3 := own_kd_lt (fb (Int32.ofNat 3))
  have h4 := own_kd_lt (fb (Int32.ofNat 4))
  omega
theorem own_code_at (fb : Int32 → Int32) (i : Nat) (hi : i < 5) : own_code fb / 3 ^ i % 3 = own_kd (fb (Int32.ofNat i)) := by
  unfold own_code
  have h0 := own_kd_lt (fb (Int32.ofNat 0))
  have h1 := own_kd_lt (fb (Int32.ofNat 1))
  have h2 := own_kd_lt (fb (Int32.ofNat 2))
  have h3 := own_kd_lt (fb (Int32.ofNat 3))
  have h4 := own_kd_lt (fb (Int32.ofNat 4))
  have hi' : i = 0 ∨ i = 1 ∨ i = 2 ∨ i = 3 ∨ i = 4 := by omega
  rcases hi' with rfl | rfl | rfl | rfl | rfl
  all_goals (simp only [Nat.pow_zero, Nat.pow_one, Nat.reducePow]; omega)
theorem own_cls5 (fb : Int32 → Int32) (t : Nat) (ht : t ≤ 5) : own_Cls (own_cmC (own_code fb)) (own_blC (own_code fb)) t fb := by
  intro i hi
  unfold own_cmC own_blC
  rw [own_code_at fb i (by omega), decide_eq_true_iff, decide_eq_true_iff]
  exact ⟨own_kd0 _, own_kd1 _⟩
/-- the first places of the bounds hold -7 -/
def own_Pf (q j : Nat) (c : Int32 → Int32) : Prop := ∀ i, i < q → i < j → c (Int32.ofNat (2 * i)) = -7 ∧ c (Int32.ofNat (2 * i + 1)) = -7
theorem own_Pf.full {q j : Nat} {c : Int32 → Int32} (h : own_Pf q j c) (hq : q ≤ j) : own_Pf q (j + 1) c := fun i hi _ => h i hi (by omega)
theorem own_Pf.put {q j : Nat} {c : Int32 → Int32} (h : own_Pf q j c) (hq : j < q) (hb : 2 * q < 2 ^ 30) :
    own_Pf q (j + 1) (fun i => if i = Int32.ofNat (2 * j) + (1 : Int32) then -7 else (fun i => if i = Int32.ofNat (2 * j) then -7 else c i) i) := by
  intro i hi hj
  simp only [own_succ, own_neq (show 2 * i < 2 ^ 31 by omega) (show 2 * j + 1 < 2 ^ 31 by omega), own_neq (show 2 * i + 1 < 2 ^ 31 by omega) (show 2 * j + 1 < 2 ^ 31 by omega), own_neq (show 2 * i < 2 ^ 31 by omega) (show 2 * j < 2 ^ 31 by omega), own_neq (show 2 * i + 1 < 2 ^ 31 by omega) (show 2 * j < 2 ^ 31 by omega)]
  by_cases e : i = j
  · subst e
    rw [if_neg (show ¬ 2 * i = 2 * i + 1 by omega), if_pos rfl, if_pos rfl]
    exact ⟨rfl, rfl⟩
  · have h1 := h i hi (by omega)
    rw [if_neg (show ¬ 2 * i = 2 * j + 1 by omega), if_neg (show ¬ 2 * i = 2 * j by omega), if_neg (show ¬ 2 * i + 1 = 2 * j + 1 by omega), if_neg (show ¬ 2 * i + 1 = 2 * j by omega)]
    exact h1
/-- what 'check' asks of the place j -/
def own_H (q cnt : Nat) (F La En c : Int32 → Int32) (j : Nat) : Prop := j < q → (cnt ≤ j → c (Int32.ofNat (2 * j)) = -7 ∧ c (Int32.ofNat (2 * j + 1)) = -7) ∧ (j < cnt → j < 6 ∧ c (Int32.ofNat (2 * j)) = (if F (Int32.ofNat j) < 0 then En (Int32.ofNat j) else F (Int32.ofNat j)) ∧ c (Int32.ofNat (2 * j + 1)) = (if F (Int32.ofNat j) < 0 then En (Int32.ofNat j) else La (Int32.ofNat j)))
theorem own_Hof {q : Nat} {fs : List (Nat × Nat)} {fl c : Int32 → Int32} {σ : own_S} {t : Nat} (B : own_Bd q fs fl c) (P : own_Pf q 8 fl) (hq : q ≤ 7) (hk : σ.2.2.2 ≤ 5) (hl : fs.length = σ.2.2.2 + 1) (hA : ∀ j, j < fs.length → own_okAt σ t fs j = true) (j : Nat) : own_H q (σ.2.2.2 + 1) σ.1 σ.2.1 (own_En σ t) c j := by
  intro hj
  have b := B j hj
  refine ⟨fun h => ?_, fun h => ?_⟩
  · rw [if_neg (show ¬ j < fs.length by omega), if_neg (show ¬ j < fs.length by omega)] at b
    have p := P j hj (by omega)
    exact ⟨b.1.trans p.1, b.2.trans p.2⟩
  · rw [if_pos (show j < fs.length by omega), if_pos (show j < fs.length by omega)] at b
    have a := (Bool.and_eq_true _ _).mp (hA j (by omega))
    exact ⟨by omega, b.1.trans (of_decide_eq_true a.1), b.2.trans (of_decide_eq_true a.2)⟩
theorem own_small (x : Int32) (n : Nat) (h0 : 0 ≤ x.toInt) (h : x.toInt < n) : ∃ k : Nat, k < n ∧ x = Int32.ofNat k := by
  refine ⟨x.toInt.toNat, by omega, ?_⟩
  apply Int32.toInt_inj.mp
  have h2 := x.toInt_lt
  rw [own_nI (by omega)]
  omega
theorem own_six (i : Int32) (h0 : ¬ i < 0) (h1 : i < 6) : i = 0 ∨ i = 1 ∨ i = 2 ∨ i = 3 ∨ i = 4 ∨ i = 5 := by
  rw [Int32.lt_iff_toInt_lt] at h0 h1
  have e0 : (0 : Int32).toInt = 0 := rfl
  have e6 : (6 : Int32).toInt = 6 := rfl
  obtain ⟨k, hk, rfl⟩ := own_small i 6 (by omega) (by omega)
  have : k = 0 ∨ k = 1 ∨ k = 2 ∨ k = 3 ∨ k = 4 ∨ k = 5 := by omega
  rcases this with rfl | rfl | rfl | rfl | rfl | rfl
  · exact Or.inl rfl
  · exact Or.inr (Or.inl rfl)
  · exact Or.inr (Or.inr (Or.inl rfl))
  · exact Or.inr (Or.inr (Or.inr (Or.inl rfl)))
  · exact Or.inr (Or.inr (Or.inr (Or.inr (Or.inl rfl))))
  · exact Or.inr (Or.inr (Or.inr (Or.inr (Or.inr rfl))))
theorem own_zero1 (i : Int32) (h0 : ¬ i < 0) (h1 : i < 1) : i = 0 := by
  apply Int32.toInt_inj.mp
  rw [Int32.lt_iff_toInt_lt] at h0 h1
  have e0 : (0 : Int32).toInt = 0 := rfl
  have e1 : (1 : Int32).toInt = 1 := rfl
  omega
theorem own_from (p : Int32) : ∃ i : Nat, i ≤ 5 ∧ (p &&& (2147483647 : Int32)) % (6 : Int32) = Int32.ofNat i := by
  have h0 : 0 ≤ (p &&& (2147483647 : Int32)).toInt := (c_and p 2147483647 (by decide)).1
  have h1 := (c_irem (p &&& (2147483647 : Int32)) 6 6 rfl).1 h0
  obtain ⟨k, hk, e⟩ := own_small ((p &&& (2147483647 : Int32)) % (6 : Int32)) 6 (by omega) (by omega)
  exact ⟨k, by omega, e⟩
theorem own_six_sub (i : Nat) (hi : i ≤ 5) : (6 : Int32) - Int32.ofNat i = Int32.ofNat (6 - i) := by
  have : i = 0 ∨ i = 1 ∨ i = 2 ∨ i = 3 ∨ i = 4 ∨ i = 5 := by omega
  rcases this with rfl | rfl | rfl | rfl | rfl | rfl <;> rfl
theorem own_nz (i : Nat) (hi : i ≤ 5) : Int32.ofNat (6 - i) ≠ 0 := by
  have : i = 0 ∨ i = 1 ∨ i = 2 ∨ i = 3 ∨ i = 4 ∨ i = 5 := by omega
  rcases this with rfl | rfl | rfl | rfl | rfl | rfl <;> decide
theorem own_to (p : Int32) (i : Nat) (hi : i ≤ 5) : ∃ d : Nat, i + d ≤ 5 ∧ (p &&& (2147483647 : Int32)) % Int32.ofNat (6 - i) = Int32.ofNat d := by
  have h0 : 0 ≤ (p &&& (2147483647 : Int32)).toInt := (c_and p 2147483647 (by decide)).1
  have h1 := (c_irem (p &&& (2147483647 : Int32)) (Int32.ofNat (6 - i)) ((6 - i : Nat) : Int) (own_nI (by omega))).1 h0
  have h2 : 0 ≤ (p &&& (2147483647 : Int32)).toInt % ((6 - i : Nat) : Int) := Int.emod_nonneg _ (by omega)
  have h3 : (p &&& (2147483647 : Int32)).toInt % ((6 - i : Nat) : Int) < ((6 - i : Nat) : Int) := Int.emod_lt_of_pos _ (by omega)
  obtain ⟨k, hk, e⟩ := own_small ((p &&& (2147483647 : Int32)) % Int32.ofNat (6 - i)) (6 - i) (by omega) (by omega)
  exact ⟨k, by omega, e⟩
theorem own_pairs (p : Int32) : ∃ q : Nat, q ≤ 7 ∧ p &&& (7 : Int32) = Int32.ofNat q := by
  have h1 := c_mask p 7 3 (by decide) rfl
  obtain ⟨k, hk, e⟩ := own_small (p &&& (7 : Int32)) 8 (by omega) (by omega)
  exact ⟨k, by omega, e⟩
/-- the law's four arrays -/
def own_St (Z : State) (h : Heap) (r4 r5 r6 r7 : Addr) (σ : own_S) : Prop := own_Arr Z h r4 .int (6 : Int32) σ.1 ∧ own_Arr Z h r5 .int (6 : Int32) σ.2.1 ∧ own_Arr Z h r6 .int (6 : Int32) σ.2.2.1 ∧ own_Arr Z h r7 .int (1 : Int32) (fun _ => Int32.ofNat σ.2.2.2)
theorem ef_1 (m : MethodId) (p0 : Int32) (q1 : Int64) (p2 : Int32) : entryFrame m #[(.int p0), (.long q1), (.int p2)] 5 = mkF m 0 #[.val (.int p0), .val (.long q1), .second, .val (.int p2), .unset] [] := by first | (simp [entryFrame, mkF, argsToLocals, Value.category]; done) | rfl
theorem pn_1 : plainName "com/example/indexloom/indexloom/data/DataHeaderSplitPinLaw" = true := by first | (simp [plainName, overriddenIn]; done) | decide +kernel
theorem d1_0 : decode method_3_code 0 = .ok (.iload_n 0, 1) := by decide +kernel
theorem d1_1 : decode method_3_code 1 = .ok (.iconst 3, 1) := by decide +kernel
theorem d1_2 : decode method_3_code 2 = .ok (.iload_n 3, 1) := by decide +kernel
theorem d1_3 : decode method_3_code 3 = .ok (.imul, 1) := by decide +kernel
theorem d1_4 : decode method_3_code 4 = .ok (.iushr, 1) := by decide +kernel
theorem d1_5 : decode method_3_code 5 = .ok (.bipush 7, 2) := by decide +kernel
theorem d1_7 : decode method_3_code 7 = .ok (.iand, 1) := by decide +kernel
theorem d1_8 : decode method_3_code 8 = .ok (.istore 4, 2) := by decide +kernel
theorem d1_10 : decode method_3_code 10 = .ok (.iload 4, 2) := by decide +kernel
theorem d1_12 : decode method_3_code 12 = .ok (.ifCond .ne 6, 3) := by decide +kernel
theorem d1_15 : decode method_3_code 15 = .ok (.bipush 44, 2) := by decide +kernel
theorem d1_17 : decode method_3_code 17 = .ok (.ireturn, 1) := by decide +kernel
theorem d1_18 : decode method_3_code 18 = .ok (.iload 4, 2) := by decide +kernel
theorem d1_20 : decode method_3_code 20 = .ok (.iconst 1, 1) := by decide +kernel
theorem d1_21 : decode method_3_code 21 = .ok (.if_icmp .ne 6, 3) := by decide +kernel
theorem d1_24 : decode method_3_code 24 = .ok (.bipush 32, 2) := by decide +kernel
theorem d1_26 : decode method_3_code 26 = .ok (.ireturn, 1) := by decide +kernel
theorem d1_27 : decode method_3_code 27 = .ok (.iload 4, 2) := by decide +kernel
theorem d1_29 : decode method_3_code 29 = .ok (.iconst 2, 1) := by decide +kernel
theorem d1_30 : decode method_3_code 30 = .ok (.if_icmp .ne 6, 3) := by decide +kernel
theorem d1_33 : decode method_3_code 33 = .ok (.bipush 9, 2) := by decide +kernel
theorem d1_35 : decode method_3_code 35 = .ok (.ireturn, 1) := by decide +kernel
theorem d1_36 : decode method_3_code 36 = .ok (.iload 4, 2) := by decide +kernel
theorem d1_38 : decode method_3_code 38 = .ok (.iconst 3, 1) := by decide +kernel
theorem d1_39 : decode method_3_code 39 = .ok (.if_icmp .ne 6, 3) := by decide +kernel
theorem d1_42 : decode method_3_code 42 = .ok (.bipush 13, 2) := by decide +kernel
theorem d1_44 : decode method_3_code 44 = .ok (.ireturn, 1) := by decide +kernel
theorem d1_45 : decode method_3_code 45 = .ok (.lload_n 1, 1) := by decide +kernel
theorem d1_46 : decode method_3_code 46 = .ok (.bipush 8, 2) := by decide +kernel
theorem d1_48 : decode method_3_code 48 = .ok (.iload_n 3, 1) := by decide +kernel
theorem d1_49 : decode method_3_code 49 = .ok (.imul, 1) := by decide +kernel
theorem d1_50 : decode method_3_code 50 = .ok (.lushr, 1) := by decide +kernel
theorem d1_51 : decode method_3_code 51 = .ok (.l2i, 1) := by decide +kernel
theorem d1_52 : decode method_3_code 52 = .ok (.i2b, 1) := by decide +kernel
theorem d1_53 : decode method_3_code 53 = .ok (.ireturn, 1) := by decide +kernel
def f1 (p0 : Int32) (q1 : Int64) (p2 : Int32) : Int32 := (if (((p0.toUInt32 >>> (((3 : Int32) * p2) &&& 31).toUInt32).toInt32) &&& (7 : Int32)) = (0 : Int32) then (44 : Int32) else (if (((p0.toUInt32 >>> (((3 : Int32) * p2) &&& 31).toUInt32).toInt32) &&& (7 : Int32)) = (1 : Int32) then (32 : Int32) else (if (((p0.toUInt32 >>> (((3 : Int32) * p2) &&& 31).toUInt32).toInt32) &&& (7 : Int32)) = (2 : Int32) then (9 : Int32) else (if (((p0.toUInt32 >>> (((3 : Int32) * p2) &&& 31).toUInt32).toInt32) &&& (7 : Int32)) = (3 : Int32) then (13 : Int32) else (nar .byte ((((q1.toUInt64 >>> (((8 : Int32) * p2) &&& 0x3f).toInt64.toUInt64).toInt64).toInt32).toInt8.toInt32))))))
set_option maxRecDepth 65536 in
set_option maxHeartbeats 40000000 in
theorem rm1 (l : Launch) (Z : State) (a0 : Array Value) (hw : ∀ d ∈ tables_1, d.before a0 Z = true) (p0 : Int32) (q1 : Int64) (p2 : Int32) (h0 : Heap) (n0 : Nat) :
    own_Met l Z n0 (⟨"com/example/indexloom/indexloom/data/DataHeaderSplitPinLaw", "pick", "(IJI)B"⟩ : MethodName) method_3_code 5 (some .byte) ({ frames := 0, cells := 0, slots := 0, locals := 0 } : Room) #[(.int p0), (.long q1), (.int p2)] h0 (fun v h => v = some (.int (f1 p0 q1 p2)) ∧ h0 = h) := by
  refine own_met (plainFor_of_name pn_1) ?_
  intro p e s m below meth c T0 hx hby hml hown hnm hret hlk hZ A0
  rw [ef_1]
  show own_Go _ _ _ _ (T0.setTop (mkF m 0 #[.val (.int p0), .val (.long q1), .second, .val (.int p2), .unset] []))
  refine own_go (fun t_ k_ => XS.iloadN A0.here hx rfl (hb hby d1_0) rfl k_) ?_
  show own_Go _ _ _ _ (T0.setTop (mkF m 1 #[.val (.int p0), .val (.long q1), .second, .val (.int p2), .unset] [(.int p0)]))
  refine own_go (fun t_ k_ => XS.iconst A0.here hx rfl (hb hby d1_1) k_) ?_
  show own_Go _ _ _ _ (T0.setTop (mkF m 2 #[.val (.int p0), .val (.long q1), .second, .val (.int p2), .unset] [(.int (3 : Int32)), (.int p0)]))
  refine own_go (fun t_ k_ => XS.iloadN A0.here hx rfl (hb hby d1_2) rfl k_) ?_
  show own_Go _ _ _ _ (T0.setTop (mkF m 3 #[.val (.int p0), .val (.long q1), .second, .val (.int p2), .unset] [(.int p2), (.int (3 : Int32)), (.int p0)]))
  refine own_go (fun t_ k_ => XS.imul A0.here hx rfl (hb hby d1_3) rfl k_) ?_
  show own_Go _ _ _ _ (T0.setTop (mkF m 4 #[.val (.int p0), .val (.long q1), .second, .val (.int p2), .unset] [(.int ((3 : Int32) * p2)), (.int p0)]))
  refine own_go (fun t_ k_ => XS.iushr A0.here hx rfl (hb hby d1_4) rfl k_) ?_
  show own_Go _ _ _ _ (T0.setTop (mkF m 5 #[.val (.int p0), .val (.long q1), .second, .val (.int p2), .unset] [(.int ((p0.toUInt32 >>> (((3 : Int32) * p2) &&& 31).toUInt32).toInt32))]))
  refine own_go (fun t_ k_ => XS.bipush A0.here hx rfl (hb hby d1_5) k_) ?_
  show own_Go _ _ _ _ (T0.setTop (mkF m 7 #[.val (.int p0), .val (.long q1), .second, .val (.int p2), .unset] [(.int (7 : Int32)), (.int ((p0.toUInt32 >>> (((3 : Int32) * p2) &&& 31).toUInt32).toInt32))]))
  refine own_go (fun t_ k_ => XS.iand A0.here hx rfl (hb hby d1_7) rfl k_) ?_
  show own_Go _ _ _ _ (T0.setTop (mkF m 8 #[.val (.int p0), .val (.long q1), .second, .val (.int p2), .unset] [(.int (((p0.toUInt32 >>> (((3 : Int32) * p2) &&& 31).toUInt32).toInt32) &&& (7 : Int32)))]))
  generalize hx1 : (((p0.toUInt32 >>> (((3 : Int32) * p2) &&& 31).toUInt32).toInt32) &&& (7 : Int32)) = x1
  show own_Go _ _ _ _ (T0.setTop (mkF m 8 #[.val (.int p0), .val (.long q1), .second, .val (.int p2), .unset] [(.int x1)]))
  refine own_go (fun t_ k_ => XS.istore A0.here hx rfl (hb hby d1_8) rfl (l' := #[.val (.int p0), .val (.long q1), .second, .val (.int p2), .val (.int x1)]) rfl k_) ?_
  show own_Go _ _ _ _ (T0.setTop (mkF m 10 #[.val (.int p0), .val (.long q1), .second, .val (.int p2), .val (.int x1)] []))
  refine own_go (fun t_ k_ => XS.iload A0.here hx rfl (hb hby d1_10) rfl k_) ?_
  show own_Go _ _ _ _ (T0.setTop (mkF m 12 #[.val (.int p0), .val (.long q1), .second, .val (.int p2), .val (.int x1)] [(.int x1)]))
  by_cases hc2 : x1 = (0 : Int32)
  ·
    refine own_go (fun t_ k_ => XS.ifNo A0.here hx rfl (hb hby d1_12) rfl ((if0 _ _).trans (teq hc2).2) k_) ?_
    show own_Go _ _ _ _ (T0.setTop (mkF m 15 #[.val (.int p0), .val (.long q1), .second, .val (.int p2), .val (.int x1)] []))
    refine own_go (fun t_ k_ => XS.bipush A0.here hx rfl (hb hby d1_15) k_) ?_
    show own_Go _ _ _ _ (T0.setTop (mkF m 17 #[.val (.int p0), .val (.long q1), .second, .val (.int p2), .val (.int x1)] [(.int (44 : Int32))]))
    refine own_retN A0 hx (t := .byte) hret (by simp) hlk (by decide) (by decide) (hb hby d1_17) ?_
    subst hx1
    exact ⟨congrArg (fun z => some (Value.int z)) (by simp only [f1, if_pos hc2] <;> rfl), rfl⟩
  ·
    refine own_go (fun t_ k_ => XS.ifYes A0.here hx rfl (pc0 := 12) (pc' := 18) rfl (hb hby d1_12) rfl ((if0 _ _).trans (feq hc2).2) (by decide) (by decide) k_) ?_
    show own_Go _ _ _ _ (T0.setTop (mkF m 18 #[.val (.int p0), .val (.long q1), .second, .val (.int p2), .val (.int x1)] []))
    refine own_go (fun t_ k_ => XS.iload A0.here hx rfl (hb hby d1_18) rfl k_) ?_
    show own_Go _ _ _ _ (T0.setTop (mkF m 20 #[.val (.int p0), .val (.long q1), .second, .val (.int p2), .val (.int x1)] [(.int x1)]))
    refine own_go (fun t_ k_ => XS.iconst A0.here hx rfl (hb hby d1_20) k_) ?_
    show own_Go _ _ _ _ (T0.setTop (mkF m 21 #[.val (.int p0), .val (.long q1), .second, .val (.int p2), .val (.int x1)] [(.int (1 : Int32)), (.int x1)]))
    by_cases hc3 : x1 = (1 : Int32)
    ·
      refine own_go (fun t_ k_ => XS.icmpNo A0.here hx rfl (hb hby d1_21) rfl (teq hc3).2 k_) ?_
      show own_Go _ _ _ _ (T0.setTop (mkF m 24 #[.val (.int p0), .val (.long q1), .second, .val (.int p2), .val (.int x1)] []))
      refine own_go (fun t_ k_ => XS.bipush A0.here hx rfl (hb hby d1_24) k_) ?_
      show own_Go _ _ _ _ (T0.setTop (mkF m 26 #[.val (.int p0), .val (.long q1), .second, .val (.int p2), .val (.int x1)] [(.int (32 : Int32))]))
      refine own_retN A0 hx (t := .byte) hret (by simp) hlk (by decide) (by decide) (hb hby d1_26) ?_
      subst hx1
      exact ⟨congrArg (fun z => some (Value.int z)) (by simp only [f1, if_neg hc2, if_pos hc3] <;> rfl), rfl⟩
    ·
      refine own_go (fun t_ k_ => XS.icmpYes A0.here hx rfl (pc0 := 21) (pc' := 27) rfl (hb hby d1_21) rfl (feq hc3).2 (by decide) (by decide) k_) ?_
      show own_Go _ _ _ _ (T0.setTop (mkF m 27 #[.val (.int p0), .val (.long q1), .second, .val (.int p2), .val (.int x1)] []))
      refine own_go (fun t_ k_ => XS.iload A0.here hx rfl (hb hby d1_27) rfl k_) ?_
      show own_Go _ _ _ _ (T0.setTop (mkF m 29 #[.val (.int p0), .val (.long q1), .second, .val (.int p2), .val (.int x1)] [(.int x1)]))
      refine own_go (fun t_ k_ => XS.iconst A0.here hx rfl (hb hby d1_29) k_) ?_
      show own_Go _ _ _ _ (T0.setTop (mkF m 30 #[.val (.int p0), .val (.long q1), .second, .val (.int p2), .val (.int x1)] [(.int (2 : Int32)), (.int x1)]))
      by_cases hc4 : x1 = (2 : Int32)
      ·
        refine own_go (fun t_ k_ => XS.icmpNo A0.here hx rfl (hb hby d1_30) rfl (teq hc4).2 k_) ?_
        show own_Go _ _ _ _ (T0.setTop (mkF m 33 #[.val (.int p0), .val (.long q1), .second, .val (.int p2), .val (.int x1)] []))
        refine own_go (fun t_ k_ => XS.bipush A0.here hx rfl (hb hby d1_33) k_) ?_
        show own_Go _ _ _ _ (T0.setTop (mkF m 35 #[.val (.int p0), .val (.long q1), .second, .val (.int p2), .val (.int x1)] [(.int (9 : Int32))]))
        refine own_retN A0 hx (t := .byte) hret (by simp) hlk (by decide) (by decide) (hb hby d1_35) ?_
        subst hx1
        exact ⟨congrArg (fun z => some (Value.int z)) (by simp only [f1, if_neg hc2, if_neg hc3, if_pos hc4] <;> rfl), rfl⟩
      ·
        refine own_go (fun t_ k_ => XS.icmpYes A0.here hx rfl (pc0 := 30) (pc' := 36) rfl (hb hby d1_30) rfl (feq hc4).2 (by decide) (by decide) k_) ?_
        show own_Go _ _ _ _ (T0.setTop (mkF m 36 #[.val (.int p0), .val (.long q1), .second, .val (.int p2), .val (.int x1)] []))
        refine own_go (fun t_ k_ => XS.iload A0.here hx rfl (hb hby d1_36) rfl k_) ?_
        show own_Go _ _ _ _ (T0.setTop (mkF m 38 #[.val (.int p0), .val (.long q1), .second, .val (.int p2), .val (.int x1)] [(.int x1)]))
        refine own_go (fun t_ k_ => XS.iconst A0.here hx rfl (hb hby d1_38) k_) ?_
        show own_Go _ _ _ _ (T0.setTop (mkF m 39 #[.val (.int p0), .val (.long q1), .second, .val (.int p2), .val (.int x1)] [(.int (3 : Int32)), (.int x1)]))
        by_cases hc5 : x1 = (3 : Int32)
        ·
          refine own_go (fun t_ k_ => XS.icmpNo A0.here hx rfl (hb hby d1_39) rfl (teq hc5).2 k_) ?_
          show own_Go _ _ _ _ (T0.setTop (mkF m 42 #[.val (.int p0), .val (.long q1), .second, .val (.int p2), .val (.int x1)] []))
          refine own_go (fun t_ k_ => XS.bipush A0.here hx rfl (hb hby d1_42) k_) ?_
          show own_Go _ _ _ _ (T0.setTop (mkF m 44 #[.val (.int p0), .val (.long q1), .second, .val (.int p2), .val (.int x1)] [(.int (13 : Int32))]))
          refine own_retN A0 hx (t := .byte) hret (by simp) hlk (by decide) (by decide) (hb hby d1_44) ?_
          subst hx1
          exact ⟨congrArg (fun z => some (Value.int z)) (by simp only [f1, if_neg hc2, if_neg hc3, if_neg hc4, if_pos hc5] <;> rfl), rfl⟩
        ·
          refine own_go (fun t_ k_ => XS.icmpYes A0.here hx rfl (pc0 := 39) (pc' := 45) rfl (hb hby d1_39) rfl (feq hc5).2 (by decide) (by decide) k_) ?_
          show own_Go _ _ _ _ (T0.setTop (mkF m 45 #[.val (.int p0), .val (.long q1), .second, .val (.int p2), .val (.int x1)] []))
          refine own_go (fun t_ k_ => XS.lloadN A0.here hx rfl (hb hby d1_45) rfl k_) ?_
          show own_Go _ _ _ _ (T0.setTop (mkF m 46 #[.val (.int p0), .val (.long q1), .second, .val (.int p2), .val (.int x1)] [(.long q1)]))
          refine own_go (fun t_ k_ => XS.bipush A0.here hx rfl (hb hby d1_46) k_) ?_
          show own_Go _ _ _ _ (T0.setTop (mkF m 48 #[.val (.int p0), .val (.long q1), .second, .val (.int p2), .val (.int x1)] [(.int (8 : Int32)), (.long q1)]))
          refine own_go (fun t_ k_ => XS.iloadN A0.here hx rfl (hb hby d1_48) rfl k_) ?_
          show own_Go _ _ _ _ (T0.setTop (mkF m 49 #[.val (.int p0), .val (.long q1), .second, .val (.int p2), .val (.int x1)] [(.int p2), (.int (8 : Int32)), (.long q1)]))
          refine own_go (fun t_ k_ => XS.imul A0.here hx rfl (hb hby d1_49) rfl k_) ?_
          show own_Go _ _ _ _ (T0.setTop (mkF m 50 #[.val (.int p0), .val (.long q1), .second, .val (.int p2), .val (.int x1)] [(.int ((8 : Int32) * p2)), (.long q1)]))
          refine own_go (fun t_ k_ => XS.lushr A0.here hx rfl (hb hby d1_50) rfl k_) ?_
          show own_Go _ _ _ _ (T0.setTop (mkF m 51 #[.val (.int p0), .val (.long q1), .second, .val (.int p2), .val (.int x1)] [(.long ((q1.toUInt64 >>> (((8 : Int32) * p2) &&& 0x3f).toInt64.toUInt64).toInt64))]))
          generalize hx6 : ((q1.toUInt64 >>> (((8 : Int32) * p2) &&& 0x3f).toInt64.toUInt64).toInt64) = x6
          show own_Go _ _ _ _ (T0.setTop (mkF m 51 #[.val (.int p0), .val (.long q1), .second, .val (.int p2), .val (.int x1)] [(.long x6)]))
          refine own_go (fun t_ k_ => XS.l2i A0.here hx rfl (hb hby d1_51) rfl k_) ?_
          show own_Go _ _ _ _ (T0.setTop (mkF m 52 #[.val (.int p0), .val (.long q1), .second, .val (.int p2), .val (.int x1)] [(.int (x6.toInt32))]))
          refine own_go (fun t_ k_ => XS.i2b A0.here hx rfl (hb hby d1_52) rfl k_) ?_
          show own_Go _ _ _ _ (T0.setTop (mkF m 53 #[.val (.int p0), .val (.long q1), .second, .val (.int p2), .val (.int x1)] [(.int ((x6.toInt32).toInt8.toInt32))]))
          refine own_retN A0 hx (t := .byte) hret (by simp) hlk (by decide) (by decide) (hb hby d1_53) ?_
          subst hx6
          subst hx1
          exact ⟨congrArg (fun z => some (Value.int z)) (by simp only [f1, if_neg hc2, if_neg hc3, if_neg hc4, if_neg hc5]), rfl⟩
theorem ef_2 (m : MethodId) (r0 : Addr) (y1 : Int32) : entryFrame m #[(.ref r0), (.int y1)] 2 = mkF m 0 #[.val (.ref r0), .val (.int y1)] [] := by first | (simp [entryFrame, mkF, argsToLocals, Value.category]; done) | rfl
theorem d2_0 : decode method_4_code 0 = .ok (.iconst 2, 1) := by decide +kernel
theorem d2_1 : decode method_4_code 1 = .ok (.iload_n 1, 1) := by decide +kernel
theorem d2_2 : decode method_4_code 2 = .ok (.imul, 1) := by decide +kernel
theorem d2_3 : decode method_4_code 3 = .ok (.aload_n 0, 1) := by decide +kernel
theorem d2_4 : decode method_4_code 4 = .ok (.arraylength, 1) := by decide +kernel
theorem d2_5 : decode method_4_code 5 = .ok (.if_icmp .ge 19, 3) := by decide +kernel
theorem d2_8 : decode method_4_code 8 = .ok (.aload_n 0, 1) := by decide +kernel
theorem d2_9 : decode method_4_code 9 = .ok (.iconst 2, 1) := by decide +kernel
theorem d2_10 : decode method_4_code 10 = .ok (.iload_n 1, 1) := by decide +kernel
theorem d2_11 : decode method_4_code 11 = .ok (.imul, 1) := by decide +kernel
theorem d2_12 : decode method_4_code 12 = .ok (.bipush (-7), 2) := by decide +kernel
theorem d2_14 : decode method_4_code 14 = .ok (.iastore, 1) := by decide +kernel
theorem d2_15 : decode method_4_code 15 = .ok (.aload_n 0, 1) := by decide +kernel
theorem d2_16 : decode method_4_code 16 = .ok (.iconst 2, 1) := by decide +kernel
theorem d2_17 : decode method_4_code 17 = .ok (.iload_n 1, 1) := by decide +kernel
theorem d2_18 : decode method_4_code 18 = .ok (.imul, 1) := by decide +kernel
theorem d2_19 : decode method_4_code 19 = .ok (.iconst 1, 1) := by decide +kernel
theorem d2_20 : decode method_4_code 20 = .ok (.iadd, 1) := by decide +kernel
theorem d2_21 : decode method_4_code 21 = .ok (.bipush (-7), 2) := by decide +kernel
theorem d2_23 : decode method_4_code 23 = .ok (.iastore, 1) := by decide +kernel
theorem d2_24 : decode method_4_code 24 = .ok (.return_, 1) := by decide +kernel
set_option maxRecDepth 65536 in
set_option maxHeartbeats 40000000 in
theorem rm2 (l : Launch) (Z : State) (a0 : Array Value) (hw : ∀ d ∈ tables_1, d.before a0 Z = true) (r0 : Addr) (j : Nat) (q : Nat) (f : Int32 → Int32) (h0 : Heap) (n0 : Nat) (V0 : own_Arr Z h0 r0 .int (Int32.ofNat (2 * q)) f) (g0 : n0 ≤ r0) (P0 : own_Pf q j f) (hq : 2 * q < 2 ^ 30) (hj : j < 100) :
    own_Met l Z n0 (⟨"com/example/indexloom/indexloom/data/DataHeaderSplitPinLaw", "prefill", "([II)V"⟩ : MethodName) method_4_code 2 none ({ frames := 0, cells := 0, slots := 0, locals := 0 } : Room) #[(.ref r0), (.int (Int32.ofNat j))] h0 (fun v h => v = none ∧ Keep h0 h [r0] ∧ ∃ c, own_Arr Z h r0 .int (Int32.ofNat (2 * q)) c ∧ own_Pf q (j + 1) c) := by
  refine own_met (plainFor_of_name pn_1) ?_
  intro p e s m below meth c T0 hx hby hml hown hnm hret hlk hZ A0
  rw [ef_2]
  show own_Go _ _ _ _ (T0.setTop (mkF m 0 #[.val (.ref r0), .val (.int (Int32.ofNat j))] []))
  refine own_go (fun t_ k_ => XS.iconst A0.here hx rfl (hb hby d2_0) k_) ?_
  show own_Go _ _ _ _ (T0.setTop (mkF m 1 #[.val (.ref r0), .val (.int (Int32.ofNat j))] [(.int (2 : Int32))]))
  refine own_go (fun t_ k_ => XS.iloadN A0.here hx rfl (hb hby d2_1) rfl k_) ?_
  show own_Go _ _ _ _ (T0.setTop (mkF m 2 #[.val (.ref r0), .val (.int (Int32.ofNat j))] [(.int (Int32.ofNat j)), (.int (2 : Int32))]))
  refine own_go (fun t_ k_ => XS.imul A0.here hx rfl (hb hby d2_2) rfl k_) ?_
  show own_Go _ _ _ _ (T0.setTop (mkF m 3 #[.val (.ref r0), .val (.int (Int32.ofNat j))] [(.int ((2 : Int32) * (Int32.ofNat j)))]))
  rw [own_dbl]
  show own_Go _ _ _ _ (T0.setTop (mkF m 3 #[.val (.ref r0), .val (.int (Int32.ofNat j))] [(.int (Int32.ofNat (2 * j)))]))
  refine own_go (fun t_ k_ => XS.aloadN A0.here hx rfl (hb hby d2_3) rfl rfl k_) ?_
  show own_Go _ _ _ _ (T0.setTop (mkF m 4 #[.val (.ref r0), .val (.int (Int32.ofNat j))] [(.ref r0), (.int (Int32.ofNat (2 * j)))]))
  refine own_len A0 hx hZ V0 rfl rfl (hb hby d2_4) ?_
  show own_Go _ _ _ _ (T0.setTop (mkF m 5 #[.val (.ref r0), .val (.int (Int32.ofNat j))] [(.int (Int32.ofNat (2 * q))), (.int (Int32.ofNat (2 * j)))]))
  by_cases hc1 : (Int32.ofNat (2 * j)) < (Int32.ofNat (2 * q))
  ·
    refine own_go (fun t_ k_ => XS.icmpNo A0.here hx rfl (hb hby d2_5) rfl (tlt hc1).2.1 k_) ?_
    show own_Go _ _ _ _ (T0.setTop (mkF m 8 #[.val (.ref r0), .val (.int (Int32.ofNat j))] []))
    refine own_go (fun t_ k_ => XS.aloadN A0.here hx rfl (hb hby d2_8) rfl rfl k_) ?_
    show own_Go _ _ _ _ (T0.setTop (mkF m 9 #[.val (.ref r0), .val (.int (Int32.ofNat j))] [(.ref r0)]))
    refine own_go (fun t_ k_ => XS.iconst A0.here hx rfl (hb hby d2_9) k_) ?_
    show own_Go _ _ _ _ (T0.setTop (mkF m 10 #[.val (.ref r0), .val (.int (Int32.ofNat j))] [(.int (2 : Int32)), (.ref r0)]))
    refine own_go (fun t_ k_ => XS.iloadN A0.here hx rfl (hb hby d2_10) rfl k_) ?_
    show own_Go _ _ _ _ (T0.setTop (mkF m 11 #[.val (.ref r0), .val (.int (Int32.ofNat j))] [(.int (Int32.ofNat j)), (.int (2 : Int32)), (.ref r0)]))
    refine own_go (fun t_ k_ => XS.imul A0.here hx rfl (hb hby d2_11) rfl k_) ?_
    show own_Go _ _ _ _ (T0.setTop (mkF m 12 #[.val (.ref r0), .val (.int (Int32.ofNat j))] [(.int ((2 : Int32) * (Int32.ofNat j))), (.ref r0)]))
    rw [own_dbl]
    show own_Go _ _ _ _ (T0.setTop (mkF m 12 #[.val (.ref r0), .val (.int (Int32.ofNat j))] [(.int (Int32.ofNat (2 * j))), (.ref r0)]))
    refine own_go (fun t_ k_ => XS.bipush A0.here hx rfl (hb hby d2_12) k_) ?_
    show own_Go _ _ _ _ (T0.setTop (mkF m 14 #[.val (.ref r0), .val (.int (Int32.ofNat j))] [(.int (-7 : Int32)), (.int (Int32.ofNat (2 * j))), (.ref r0)]))
    refine own_stI A0 hx hZ V0 ⟨own_nn (by omega), hc1⟩ g0 rfl rfl (hb hby d2_14) (fun T2 h4 A3 W5 V6 => ?_)
    have V7 : own_Arr Z h4 r0 .int (Int32.ofNat (2 * q)) (fun i => if i = (Int32.ofNat (2 * j)) then (-7 : Int32) else f i) := V6
    have K8 : Keep h0 h4 [r0] := (Keep.refl h0 [r0]).wr W5 (Or.inl (List.mem_of_getElem? (i := 0) rfl))
    show own_Go _ _ _ _ (T2.setTop (mkF m 15 #[.val (.ref r0), .val (.int (Int32.ofNat j))] []))
    refine own_go (fun t_ k_ => XS.aloadN A3.here hx rfl (hb hby d2_15) rfl rfl k_) ?_
    show own_Go _ _ _ _ (T2.setTop (mkF m 16 #[.val (.ref r0), .val (.int (Int32.ofNat j))] [(.ref r0)]))
    refine own_go (fun t_ k_ => XS.iconst A3.here hx rfl (hb hby d2_16) k_) ?_
    show own_Go _ _ _ _ (T2.setTop (mkF m 17 #[.val (.ref r0), .val (.int (Int32.ofNat j))] [(.int (2 : Int32)), (.ref r0)]))
    refine own_go (fun t_ k_ => XS.iloadN A3.here hx rfl (hb hby d2_17) rfl k_) ?_
    show own_Go _ _ _ _ (T2.setTop (mkF m 18 #[.val (.ref r0), .val (.int (Int32.ofNat j))] [(.int (Int32.ofNat j)), (.int (2 : Int32)), (.ref r0)]))
    refine own_go (fun t_ k_ => XS.imul A3.here hx rfl (hb hby d2_18) rfl k_) ?_
    show own_Go _ _ _ _ (T2.setTop (mkF m 19 #[.val (.ref r0), .val (.int (Int32.ofNat j))] [(.int ((2 : Int32) * (Int32.ofNat j))), (.ref r0)]))
    rw [own_dbl]
    show own_Go _ _ _ _ (T2.setTop (mkF m 19 #[.val (.ref r0), .val (.int (Int32.ofNat j))] [(.int (Int32.ofNat (2 * j))), (.ref r0)]))
    refine own_go (fun t_ k_ => XS.iconst A3.here hx rfl (hb hby d2_19) k_) ?_
    show own_Go _ _ _ _ (T2.setTop (mkF m 20 #[.val (.ref r0), .val (.int (Int32.ofNat j))] [(.int (1 : Int32)), (.int (Int32.ofNat (2 * j))), (.ref r0)]))
    refine own_go (fun t_ k_ => XS.iadd A3.here hx rfl (hb hby d2_20) rfl k_) ?_
    show own_Go _ _ _ _ (T2.setTop (mkF m 21 #[.val (.ref r0), .val (.int (Int32.ofNat j))] [(.int ((Int32.ofNat (2 * j)) + (1 : Int32))), (.ref r0)]))
    refine own_go (fun t_ k_ => XS.bipush A3.here hx rfl (hb hby d2_21) k_) ?_
    show own_Go _ _ _ _ (T2.setTop (mkF m 23 #[.val (.ref r0), .val (.int (Int32.ofNat j))] [(.int (-7 : Int32)), (.int ((Int32.ofNat (2 * j)) + (1 : Int32))), (.ref r0)]))
    refine own_stI A3 hx hZ V7 (by have := (own_nlt (by omega) (by omega)).mp hc1; rw [own_succ]; exact ⟨own_nn (by omega), (own_nlt (by omega) (by omega)).mpr (by omega)⟩) g0 rfl rfl (hb hby d2_23) (fun T9 h11 A10 W12 V13 => ?_)
    have V14 : own_Arr Z h11 r0 .int (Int32.ofNat (2 * q)) (fun i => if i = ((Int32.ofNat (2 * j)) + (1 : Int32)) then (-7 : Int32) else (fun i => if i = (Int32.ofNat (2 * j)) then (-7 : Int32) else f i) i) := V13
    have K15 : Keep h0 h11 [r0] := K8.wr W12 (Or.inl (List.mem_of_getElem? (i := 0) rfl))
    show own_Go _ _ _ _ (T9.setTop (mkF m 24 #[.val (.ref r0), .val (.int (Int32.ofNat j))] []))
    refine own_retV A10 hx hret hlk (by decide) (by decide) (hb hby d2_24) ?_
    exact ⟨rfl, K15, _, V14, P0.put (by have := (own_nlt (by omega) (by omega)).mp hc1; omega) hq⟩
  ·
    refine own_go (fun t_ k_ => XS.icmpYes A0.here hx rfl (pc0 := 5) (pc' := 24) rfl (hb hby d2_5) rfl (flt hc1).2.1 (by decide) (by decide) k_) ?_
    show own_Go _ _ _ _ (T0.setTop (mkF m 24 #[.val (.ref r0), .val (.int (Int32.ofNat j))] []))
    refine own_retV A0 hx hret hlk (by decide) (by decide) (hb hby d2_24) ?_
    exact ⟨rfl, (Keep.refl h0 [r0]), f, V0, P0.full (by have := own_nge (by omega) (by omega) hc1; omega)⟩
theorem ef_3 (m : MethodId) (r0 : Addr) (y1 : Int32) (y2 : Int32) (y3 : Int32) (r4 : Addr) (r5 : Addr) (r6 : Addr) (r7 : Addr) : entryFrame m #[(.ref r0), (.int y1), (.int y2), (.int y3), (.ref r4), (.ref r5), (.ref r6), (.ref r7)] 9 = mkF m 0 #[.val (.ref r0), .val (.int y1), .val (.int y2), .val (.int y3), .val (.ref r4), .val (.ref r5), .val (.ref r6), .val (.ref r7), .unset] [] := by first | (simp [entryFrame, mkF, argsToLocals, Value.category]; done) | rfl
theorem d3_0 : decode method_5_code 0 = .ok (.iload_n 1, 1) := by decide +kernel
theorem d3_1 : decode method_5_code 1 = .ok (.iload_n 2, 1) := by decide +kernel
theorem d3_2 : decode method_5_code 2 = .ok (.if_icmp .lt 8, 3) := by decide +kernel
theorem d3_10 : decode method_5_code 10 = .ok (.return_, 1) := by decide +kernel
theorem d3_5 : decode method_5_code 5 = .ok (.iload_n 1, 1) := by decide +kernel
theorem d3_6 : decode method_5_code 6 = .ok (.iload_n 3, 1) := by decide +kernel
theorem d3_7 : decode method_5_code 7 = .ok (.if_icmp .lt 4, 3) := by decide +kernel
theorem d3_11 : decode method_5_code 11 = .ok (.aload_n 0, 1) := by decide +kernel
theorem d3_12 : decode method_5_code 12 = .ok (.iload_n 1, 1) := by decide +kernel
theorem d3_13 : decode method_5_code 13 = .ok (.baload, 1) := by decide +kernel
theorem d3_14 : decode method_5_code 14 = .ok (.istore 8, 2) := by decide +kernel
theorem d3_16 : decode method_5_code 16 = .ok (.iload 8, 2) := by decide +kernel
theorem d3_18 : decode method_5_code 18 = .ok (.bipush 44, 2) := by decide +kernel
theorem d3_20 : decode method_5_code 20 = .ok (.if_icmp .ne 24, 3) := by decide +kernel
theorem d3_23 : decode method_5_code 23 = .ok (.aload 6, 2) := by decide +kernel
theorem d3_25 : decode method_5_code 25 = .ok (.aload 7, 2) := by decide +kernel
theorem d3_27 : decode method_5_code 27 = .ok (.iconst 0, 1) := by decide +kernel
theorem d3_28 : decode method_5_code 28 = .ok (.iaload, 1) := by decide +kernel
theorem d3_29 : decode method_5_code 29 = .ok (.iload_n 1, 1) := by decide +kernel
theorem d3_30 : decode method_5_code 30 = .ok (.iastore, 1) := by decide +kernel
theorem d3_31 : decode method_5_code 31 = .ok (.aload 7, 2) := by decide +kernel
theorem d3_33 : decode method_5_code 33 = .ok (.iconst 0, 1) := by decide +kernel
theorem d3_34 : decode method_5_code 34 = .ok (.aload 7, 2) := by decide +kernel
theorem d3_36 : decode method_5_code 36 = .ok (.iconst 0, 1) := by decide +kernel
theorem d3_37 : decode method_5_code 37 = .ok (.iaload, 1) := by decide +kernel
theorem d3_38 : decode method_5_code 38 = .ok (.iconst 1, 1) := by decide +kernel
theorem d3_39 : decode method_5_code 39 = .ok (.iadd, 1) := by decide +kernel
theorem d3_40 : decode method_5_code 40 = .ok (.iastore, 1) := by decide +kernel
theorem d3_41 : decode method_5_code 41 = .ok (.goto 52, 3) := by decide +kernel
theorem d3_93 : decode method_5_code 93 = .ok (.return_, 1) := by decide +kernel
theorem d3_44 : decode method_5_code 44 = .ok (.iload 8, 2) := by decide +kernel
theorem d3_46 : decode method_5_code 46 = .ok (.bipush 32, 2) := by decide +kernel
theorem d3_48 : decode method_5_code 48 = .ok (.if_icmp .eq 45, 3) := by decide +kernel
theorem d3_51 : decode method_5_code 51 = .ok (.iload 8, 2) := by decide +kernel
theorem d3_53 : decode method_5_code 53 = .ok (.bipush 9, 2) := by decide +kernel
theorem d3_55 : decode method_5_code 55 = .ok (.if_icmp .eq 38, 3) := by decide +kernel
theorem d3_58 : decode method_5_code 58 = .ok (.iload 8, 2) := by decide +kernel
theorem d3_60 : decode method_5_code 60 = .ok (.bipush 13, 2) := by decide +kernel
theorem d3_62 : decode method_5_code 62 = .ok (.if_icmp .eq 31, 3) := by decide +kernel
theorem d3_65 : decode method_5_code 65 = .ok (.aload 4, 2) := by decide +kernel
theorem d3_67 : decode method_5_code 67 = .ok (.aload 7, 2) := by decide +kernel
theorem d3_69 : decode method_5_code 69 = .ok (.iconst 0, 1) := by decide +kernel
theorem d3_70 : decode method_5_code 70 = .ok (.iaload, 1) := by decide +kernel
theorem d3_71 : decode method_5_code 71 = .ok (.iaload, 1) := by decide +kernel
theorem d3_72 : decode method_5_code 72 = .ok (.ifCond .ge 11, 3) := by decide +kernel
theorem d3_75 : decode method_5_code 75 = .ok (.aload 4, 2) := by decide +kernel
theorem d3_77 : decode method_5_code 77 = .ok (.aload 7, 2) := by decide +kernel
theorem d3_79 : decode method_5_code 79 = .ok (.iconst 0, 1) := by decide +kernel
theorem d3_80 : decode method_5_code 80 = .ok (.iaload, 1) := by decide +kernel
theorem d3_81 : decode method_5_code 81 = .ok (.iload_n 1, 1) := by decide +kernel
theorem d3_82 : decode method_5_code 82 = .ok (.iastore, 1) := by decide +kernel
theorem d3_83 : decode method_5_code 83 = .ok (.aload 5, 2) := by decide +kernel
theorem d3_85 : decode method_5_code 85 = .ok (.aload 7, 2) := by decide +kernel
theorem d3_87 : decode method_5_code 87 = .ok (.iconst 0, 1) := by decide +kernel
theorem d3_88 : decode method_5_code 88 = .ok (.iaload, 1) := by decide +kernel
theorem d3_89 : decode method_5_code 89 = .ok (.iload_n 1, 1) := by decide +kernel
theorem d3_90 : decode method_5_code 90 = .ok (.iconst 1, 1) := by decide +kernel
theorem d3_91 : decode method_5_code 91 = .ok (.iadd, 1) := by decide +kernel
theorem d3_92 : decode method_5_code 92 = .ok (.iastore, 1) := by decide +kernel
set_option maxRecDepth 65536 in
set_option maxHeartbeats 40000000 in
theorem rm3 (l : Launch) (Z : State) (a0 : Array Value) (hw : ∀ d ∈ tables_1, d.before a0 Z = true) (r0 : Addr) (r4 : Addr) (r5 : Addr) (r6 : Addr) (r7 : Addr) (j : Nat) (fr : Nat) (t : Nat) (σ : own_S) (fb : Int32 → Int32) (cm : Nat → Bool) (bl : Nat → Bool) (h0 : Heap) (n0 : Nat) (V0 : own_Arr Z h0 r0 .byte (5 : Int32) fb) (V4 : own_Arr Z h0 r4 .int (6 : Int32) σ.1) (V5 : own_Arr Z h0 r5 .int (6 : Int32) σ.2.1) (V6 : own_Arr Z h0 r6 .int (6 : Int32) σ.2.2.1) (V7 : own_Arr Z h0 r7 .int (1 : Int32) (fun _ => Int32.ofNat σ.2.2.2)) (n04 : r0 ≠ r4) (n05 : r0 ≠ r5) (n06 : r0 ≠ r6) (n07 : r0 ≠ r7) (n45 : r4 ≠ r5) (n46 : r4 ≠ r6) (n47 : r4 ≠ r7) (n56 : r5 ≠ r6) (n57 : r5 ≠ r7) (n67 : r6 ≠ r7) (g4 : n0 ≤ r4) (g5 : n0 ≤ r5) (g6 : n0 ≤ r6) (g7 : n0 ≤ r7) (HC : own_Cls cm bl 5 fb) (hj : j < 5) (hk : σ.2.2.2 ≤ j) (hfr : fr ≤ 5) (ht : t ≤ 5) :
    own_Met l Z n0 (⟨"com/example/indexloom/indexloom/data/DataHeaderSplitPinLaw", "step", "([BIII[I[I[I[I)V"⟩ : MethodName) method_5_code 9 none ({ frames := 0, cells := 0, slots := 0, locals := 0 } : Room) #[(.ref r0), (.int (Int32.ofNat j)), (.int (Int32.ofNat fr)), (.int (Int32.ofNat t)), (.ref r4), (.ref r5), (.ref r6), (.ref r7)] h0 (fun v h => v = none ∧ Keep h0 h [r4, r5, r6, r7] ∧ own_St Z h r4 r5 r6 r7 (own_stp cm bl fr t j σ)) := by
  refine own_met (plainFor_of_name pn_1) ?_
  intro p e s m below meth c T0 hx hby hml hown hnm hret hlk hZ A0
  rw [ef_3]
  show own_Go _ _ _ _ (T0.setTop (mkF m 0 #[.val (.ref r0), .val (.int (Int32.ofNat j)), .val (.int (Int32.ofNat fr)), .val (.int (Int32.ofNat t)), .val (.ref r4), .val (.ref r5), .val (.ref r6), .val (.ref r7), .unset] []))
  refine own_go (fun t_ k_ => XS.iloadN A0.here hx rfl (hb hby d3_0) rfl k_) ?_
  show own_Go _ _ _ _ (T0.setTop (mkF m 1 #[.val (.ref r0), .val (.int (Int32.ofNat j)), .val (.int (Int32.ofNat fr)), .val (.int (Int32.ofNat t)), .val (.ref r4), .val (.ref r5), .val (.ref r6), .val (.ref r7), .unset] [(.int (Int32.ofNat j))]))
  refine own_go (fun t_ k_ => XS.iloadN A0.here hx rfl (hb hby d3_1) rfl k_) ?_
  show own_Go _ _ _ _ (T0.setTop (mkF m 2 #[.val (.ref r0), .val (.int (Int32.ofNat j)), .val (.int (Int32.ofNat fr)), .val (.int (Int32.ofNat t)), .val (.ref r4), .val (.ref r5), .val (.ref r6), .val (.ref r7), .unset] [(.int (Int32.ofNat fr)), (.int (Int32.ofNat j))]))
  by_cases hc1 : (Int32.ofNat j) < (Int32.ofNat fr)
  ·
    refine own_go (fun t_ k_ => XS.icmpYes A0.here hx rfl (pc0 := 2) (pc' := 10) rfl (hb hby d3_2) rfl (tlt hc1).1 (by decide) (by decide) k_) ?_
    show own_Go _ _ _ _ (T0.setTop (mkF m 10 #[.val (.ref r0), .val (.int (Int32.ofNat j)), .val (.int (Int32.ofNat fr)), .val (.int (Int32.ofNat t)), .val (.ref r4), .val (.ref r5), .val (.ref r6), .val (.ref r7), .unset] []))
    refine own_retV A0 hx hret hlk (by decide) (by decide) (hb hby d3_10) ?_
    refine ⟨rfl, (Keep.refl h0 [r4, r5, r6, r7]), ?_⟩
    rw [own_stp, if_pos ((own_nlt (by omega) (by omega)).mp hc1)]
    exact ⟨V4, V5, V6, V7⟩
  ·
    refine own_go (fun t_ k_ => XS.icmpNo A0.here hx rfl (hb hby d3_2) rfl (flt hc1).1 k_) ?_
    show own_Go _ _ _ _ (T0.setTop (mkF m 5 #[.val (.ref r0), .val (.int (Int32.ofNat j)), .val (.int (Int32.ofNat fr)), .val (.int (Int32.ofNat t)), .val (.ref r4), .val (.ref r5), .val (.ref r6), .val (.ref r7), .unset] []))
    refine own_go (fun t_ k_ => XS.iloadN A0.here hx rfl (hb hby d3_5) rfl k_) ?_
    show own_Go _ _ _ _ (T0.setTop (mkF m 6 #[.val (.ref r0), .val (.int (Int32.ofNat j)), .val (.int (Int32.ofNat fr)), .val (.int (Int32.ofNat t)), .val (.ref r4), .val (.ref r5), .val (.ref r6), .val (.ref r7), .unset] [(.int (Int32.ofNat j))]))
    refine own_go (fun t_ k_ => XS.iloadN A0.here hx rfl (hb hby d3_6) rfl k_) ?_
    show own_Go _ _ _ _ (T0.setTop (mkF m 7 #[.val (.ref r0), .val (.int (Int32.ofNat j)), .val (.int (Int32.ofNat fr)), .val (.int (Int32.ofNat t)), .val (.ref r4), .val (.ref r5), .val (.ref r6), .val (.ref r7), .unset] [(.int (Int32.ofNat t)), (.int (Int32.ofNat j))]))
    by_cases hc2 : (Int32.ofNat j) < (Int32.ofNat t)
    ·
      refine own_go (fun t_ k_ => XS.icmpYes A0.here hx rfl (pc0 := 7) (pc' := 11) rfl (hb hby d3_7) rfl (tlt hc2).1 (by decide) (by decide) k_) ?_
      show own_Go _ _ _ _ (T0.setTop (mkF m 11 #[.val (.ref r0), .val (.int (Int32.ofNat j)), .val (.int (Int32.ofNat fr)), .val (.int (Int32.ofNat t)), .val (.ref r4), .val (.ref r5), .val (.ref r6), .val (.ref r7), .unset] []))
      refine own_go (fun t_ k_ => XS.aloadN A0.here hx rfl (hb hby d3_11) rfl rfl k_) ?_
      show own_Go _ _ _ _ (T0.setTop (mkF m 12 #[.val (.ref r0), .val (.int (Int32.ofNat j)), .val (.int (Int32.ofNat fr)), .val (.int (Int32.ofNat t)), .val (.ref r4), .val (.ref r5), .val (.ref r6), .val (.ref r7), .unset] [(.ref r0)]))
      refine own_go (fun t_ k_ => XS.iloadN A0.here hx rfl (hb hby d3_12) rfl k_) ?_
      show own_Go _ _ _ _ (T0.setTop (mkF m 13 #[.val (.ref r0), .val (.int (Int32.ofNat j)), .val (.int (Int32.ofNat fr)), .val (.int (Int32.ofNat t)), .val (.ref r4), .val (.ref r5), .val (.ref r6), .val (.ref r7), .unset] [(.int (Int32.ofNat j)), (.ref r0)]))
      refine own_ldB A0 hx hZ V0 ⟨own_nn (by omega), (own_nlt (j := 5) (by omega) (by decide)).mpr hj⟩ rfl rfl (hb hby d3_13) ?_
      show own_Go _ _ _ _ (T0.setTop (mkF m 14 #[.val (.ref r0), .val (.int (Int32.ofNat j)), .val (.int (Int32.ofNat fr)), .val (.int (Int32.ofNat t)), .val (.ref r4), .val (.ref r5), .val (.ref r6), .val (.ref r7), .unset] [(.int (fb (Int32.ofNat j)))]))
      refine own_go (fun t_ k_ => XS.istore A0.here hx rfl (hb hby d3_14) rfl (l' := #[.val (.ref r0), .val (.int (Int32.ofNat j)), .val (.int (Int32.ofNat fr)), .val (.int (Int32.ofNat t)), .val (.ref r4), .val (.ref r5), .val (.ref r6), .val (.ref r7), .val (.int (fb (Int32.ofNat j)))]) rfl k_) ?_
      show own_Go _ _ _ _ (T0.setTop (mkF m 16 #[.val (.ref r0), .val (.int (Int32.ofNat j)), .val (.int (Int32.ofNat fr)), .val (.int (Int32.ofNat t)), .val (.ref r4), .val (.ref r5), .val (.ref r6), .val (.ref r7), .val (.int (fb (Int32.ofNat j)))] []))
      refine own_go (fun t_ k_ => XS.iload A0.here hx rfl (hb hby d3_16) rfl k_) ?_
      show own_Go _ _ _ _ (T0.setTop (mkF m 18 #[.val (.ref r0), .val (.int (Int32.ofNat j)), .val (.int (Int32.ofNat fr)), .val (.int (Int32.ofNat t)), .val (.ref r4), .val (.ref r5), .val (.ref r6), .val (.ref r7), .val (.int (fb (Int32.ofNat j)))] [(.int (fb (Int32.ofNat j)))]))
      refine own_go (fun t_ k_ => XS.bipush A0.here hx rfl (hb hby d3_18) k_) ?_
      show own_Go _ _ _ _ (T0.setTop (mkF m 20 #[.val (.ref r0), .val (.int (Int32.ofNat j)), .val (.int (Int32.ofNat fr)), .val (.int (Int32.ofNat t)), .val (.ref r4), .val (.ref r5), .val (.ref r6), .val (.ref r7), .val (.int (fb (Int32.ofNat j)))] [(.int (44 : Int32)), (.int (fb (Int32.ofNat j)))]))
      by_cases hc3 : (fb (Int32.ofNat j)) = (44 : Int32)
      ·
        refine own_go (fun t_ k_ => XS.icmpNo A0.here hx rfl (hb hby d3_20) rfl (teq hc3).2 k_) ?_
        show own_Go _ _ _ _ (T0.setTop (mkF m 23 #[.val (.ref r0), .val (.int (Int32.ofNat j)), .val (.int (Int32.ofNat fr)), .val (.int (Int32.ofNat t)), .val (.ref r4), .val (.ref r5), .val (.ref r6), .val (.ref r7), .val (.int (fb (Int32.ofNat j)))] []))
        refine own_go (fun t_ k_ => XS.aload A0.here hx rfl (hb hby d3_23) rfl rfl k_) ?_
        show own_Go _ _ _ _ (T0.setTop (mkF m 25 #[.val (.ref r0), .val (.int (Int32.ofNat j)), .val (.int (Int32.ofNat fr)), .val (.int (Int32.ofNat t)), .val (.ref r4), .val (.ref r5), .val (.ref r6), .val (.ref r7), .val (.int (fb (Int32.ofNat j)))] [(.ref r6)]))
        refine own_go (fun t_ k_ => XS.aload A0.here hx rfl (hb hby d3_25) rfl rfl k_) ?_
        show own_Go _ _ _ _ (T0.setTop (mkF m 27 #[.val (.ref r0), .val (.int (Int32.ofNat j)), .val (.int (Int32.ofNat fr)), .val (.int (Int32.ofNat t)), .val (.ref r4), .val (.ref r5), .val (.ref r6), .val (.ref r7), .val (.int (fb (Int32.ofNat j)))] [(.ref r7), (.ref r6)]))
        refine own_go (fun t_ k_ => XS.iconst A0.here hx rfl (hb hby d3_27) k_) ?_
        show own_Go _ _ _ _ (T0.setTop (mkF m 28 #[.val (.ref r0), .val (.int (Int32.ofNat j)), .val (.int (Int32.ofNat fr)), .val (.int (Int32.ofNat t)), .val (.ref r4), .val (.ref r5), .val (.ref r6), .val (.ref r7), .val (.int (fb (Int32.ofNat j)))] [(.int (0 : Int32)), (.ref r7), (.ref r6)]))
        refine own_ldI A0 hx hZ V7 ⟨by decide, by decide⟩ rfl rfl (hb hby d3_28) ?_
        show own_Go _ _ _ _ (T0.setTop (mkF m 29 #[.val (.ref r0), .val (.int (Int32.ofNat j)), .val (.int (Int32.ofNat fr)), .val (.int (Int32.ofNat t)), .val (.ref r4), .val (.ref r5), .val (.ref r6), .val (.ref r7), .val (.int (fb (Int32.ofNat j)))] [(.int (Int32.ofNat σ.2.2.2)), (.ref r6)]))
        refine own_go (fun t_ k_ => XS.iloadN A0.here hx rfl (hb hby d3_29) rfl k_) ?_
        show own_Go _ _ _ _ (T0.setTop (mkF m 30 #[.val (.ref r0), .val (.int (Int32.ofNat j)), .val (.int (Int32.ofNat fr)), .val (.int (Int32.ofNat t)), .val (.ref r4), .val (.ref r5), .val (.ref r6), .val (.ref r7), .val (.int (fb (Int32.ofNat j)))] [(.int (Int32.ofNat j)), (.int (Int32.ofNat σ.2.2.2)), (.ref r6)]))
        refine own_stI A0 hx hZ V6 ⟨own_nn (by omega), (own_nlt (j := 6) (by omega) (by decide)).mpr (by omega)⟩ g6 rfl rfl (hb hby d3_30) (fun T4 h6 A5 W7 V8 => ?_)
        have V9 : own_Arr Z h6 r0 .byte (5 : Int32) fb := V0.other W7 n06
        have V10 : own_Arr Z h6 r4 .int (6 : Int32) σ.1 := V4.other W7 n46
        have V11 : own_Arr Z h6 r5 .int (6 : Int32) σ.2.1 := V5.other W7 n56
        have V12 : own_Arr Z h6 r6 .int (6 : Int32) (fun i => if i = (Int32.ofNat σ.2.2.2) then (Int32.ofNat j) else σ.2.2.1 i) := V8
        have V13 : own_Arr Z h6 r7 .int (1 : Int32) (fun _ => Int32.ofNat σ.2.2.2) := V7.other W7 (Ne.symm n67)
        have K14 : Keep h0 h6 [r4, r5, r6, r7] := (Keep.refl h0 [r4, r5, r6, r7]).wr W7 (Or.inl (List.mem_of_getElem? (i := 2) rfl))
        show own_Go _ _ _ _ (T4.setTop (mkF m 31 #[.val (.ref r0), .val (.int (Int32.ofNat j)), .val (.int (Int32.ofNat fr)), .val (.int (Int32.ofNat t)), .val (.ref r4), .val (.ref r5), .val (.ref r6), .val (.ref r7), .val (.int (fb (Int32.ofNat j)))] []))
        refine own_go (fun t_ k_ => XS.aload A5.here hx rfl (hb hby d3_31) rfl rfl k_) ?_
        show own_Go _ _ _ _ (T4.setTop (mkF m 33 #[.val (.ref r0), .val (.int (Int32.ofNat j)), .val (.int (Int32.ofNat fr)), .val (.int (Int32.ofNat t)), .val (.ref r4), .val (.ref r5), .val (.ref r6), .val (.ref r7), .val (.int (fb (Int32.ofNat j)))] [(.ref r7)]))
        refine own_go (fun t_ k_ => XS.iconst A5.here hx rfl (hb hby d3_33) k_) ?_
        show own_Go _ _ _ _ (T4.setTop (mkF m 34 #[.val (.ref r0), .val (.int (Int32.ofNat j)), .val (.int (Int32.ofNat fr)), .val (.int (Int32.ofNat t)), .val (.ref r4), .val (.ref r5), .val (.ref r6), .val (.ref r7), .val (.int (fb (Int32.ofNat j)))] [(.int (0 : Int32)), (.ref r7)]))
        refine own_go (fun t_ k_ => XS.aload A5.here hx rfl (hb hby d3_34) rfl rfl k_) ?_
        show own_Go _ _ _ _ (T4.setTop (mkF m 36 #[.val (.ref r0), .val (.int (Int32.ofNat j)), .val (.int (Int32.ofNat fr)), .val (.int (Int32.ofNat t)), .val (.ref r4), .val (.ref r5), .val (.ref r6), .val (.ref r7), .val (.int (fb (Int32.ofNat j)))] [(.ref r7), (.int (0 : Int32)), (.ref r7)]))
        refine own_go (fun t_ k_ => XS.iconst A5.here hx rfl (hb hby d3_36) k_) ?_
        show own_Go _ _ _ _ (T4.setTop (mkF m 37 #[.val (.ref r0), .val (.int (Int32.ofNat j)), .val (.int (Int32.ofNat fr)), .val (.int (Int32.ofNat t)), .val (.ref r4), .val (.ref r5), .val (.ref r6), .val (.ref r7), .val (.int (fb (Int32.ofNat j)))] [(.int (0 : Int32)), (.ref r7), (.int (0 : Int32)), (.ref r7)]))
        refine own_ldI A5 hx hZ V13 ⟨by decide, by decide⟩ rfl rfl (hb hby d3_37) ?_
        show own_Go _ _ _ _ (T4.setTop (mkF m 38 #[.val (.ref r0), .val (.int (Int32.ofNat j)), .val (.int (Int32.ofNat fr)), .val (.int (Int32.ofNat t)), .val (.ref r4), .val (.ref r5), .val (.ref r6), .val (.ref r7), .val (.int (fb (Int32.ofNat j)))] [(.int (Int32.ofNat σ.2.2.2)), (.int (0 : Int32)), (.ref r7)]))
        refine own_go (fun t_ k_ => XS.iconst A5.here hx rfl (hb hby d3_38) k_) ?_
        show own_Go _ _ _ _ (T4.setTop (mkF m 39 #[.val (.ref r0), .val (.int (Int32.ofNat j)), .val (.int (Int32.ofNat fr)), .val (.int (Int32.ofNat t)), .val (.ref r4), .val (.ref r5), .val (.ref r6), .val (.ref r7), .val (.int (fb (Int32.ofNat j)))] [(.int (1 : Int32)), (.int (Int32.ofNat σ.2.2.2)), (.int (0 : Int32)), (.ref r7)]))
        refine own_go (fun t_ k_ => XS.iadd A5.here hx rfl (hb hby d3_39) rfl k_) ?_
        show own_Go _ _ _ _ (T4.setTop (mkF m 40 #[.val (.ref r0), .val (.int (Int32.ofNat j)), .val (.int (Int32.ofNat fr)), .val (.int (Int32.ofNat t)), .val (.ref r4), .val (.ref r5), .val (.ref r6), .val (.ref r7), .val (.int (fb (Int32.ofNat j)))] [(.int ((Int32.ofNat σ.2.2.2) + (1 : Int32))), (.int (0 : Int32)), (.ref r7)]))
        refine own_stI A5 hx hZ V13 ⟨by decide, by decide⟩ g7 rfl rfl (hb hby d3_40) (fun T15 h17 A16 W18 V19 => ?_)
        have V20 : own_Arr Z h17 r0 .byte (5 : Int32) fb := V9.other W18 n07
        have V21 : own_Arr Z h17 r4 .int (6 : Int32) σ.1 := V10.other W18 n47
        have V22 : own_Arr Z h17 r5 .int (6 : Int32) σ.2.1 := V11.other W18 n57
        have V23 : own_Arr Z h17 r6 .int (6 : Int32) (fun i => if i = (Int32.ofNat σ.2.2.2) then (Int32.ofNat j) else σ.2.2.1 i) := V12.other W18 n67
        have V24 : own_Arr Z h17 r7 .int (1 : Int32) (fun i => if i = (0 : Int32) then ((Int32.ofNat σ.2.2.2) + (1 : Int32)) else (fun _ => Int32.ofNat σ.2.2.2) i) := V19
        have K25 : Keep h0 h17 [r4, r5, r6, r7] := K14.wr W18 (Or.inl (List.mem_of_getElem? (i := 3) rfl))
        show own_Go _ _ _ _ (T15.setTop (mkF m 41 #[.val (.ref r0), .val (.int (Int32.ofNat j)), .val (.int (Int32.ofNat fr)), .val (.int (Int32.ofNat t)), .val (.ref r4), .val (.ref r5), .val (.ref r6), .val (.ref r7), .val (.int (fb (Int32.ofNat j)))] []))
        refine own_go (fun t_ k_ => XS.goto A16.here hx rfl (pc0 := 41) (pc' := 93) rfl (hb hby d3_41) (by decide) (by decide) k_) ?_
        show own_Go _ _ _ _ (T15.setTop (mkF m 93 #[.val (.ref r0), .val (.int (Int32.ofNat j)), .val (.int (Int32.ofNat fr)), .val (.int (Int32.ofNat t)), .val (.ref r4), .val (.ref r5), .val (.ref r6), .val (.ref r7), .val (.int (fb (Int32.ofNat j)))] []))
        refine own_retV A16 hx hret hlk (by decide) (by decide) (hb hby d3_93) ?_
        refine ⟨rfl, K25, ?_⟩
        rw [own_stp, if_neg (fun z => hc1 ((own_nlt (by omega) (by omega)).mpr z)), if_pos ((own_nlt (by omega) (by omega)).mp hc2), if_pos ((HC j hj).1.mp hc3)]
        exact ⟨V21, V22, V23, (V24.congr fun i h0 h1 => by rw [own_zero1 i h0 h1]; exact own_succ _)⟩
      ·
        refine own_go (fun t_ k_ => XS.icmpYes A0.here hx rfl (pc0 := 20) (pc' := 44) rfl (hb hby d3_20) rfl (feq hc3).2 (by decide) (by decide) k_) ?_
        show own_Go _ _ _ _ (T0.setTop (mkF m 44 #[.val (.ref r0), .val (.int (Int32.ofNat j)), .val (.int (Int32.ofNat fr)), .val (.int (Int32.ofNat t)), .val (.ref r4), .val (.ref r5), .val (.ref r6), .val (.ref r7), .val (.int (fb (Int32.ofNat j)))] []))
        refine own_go (fun t_ k_ => XS.iload A0.here hx rfl (hb hby d3_44) rfl k_) ?_
        show own_Go _ _ _ _ (T0.setTop (mkF m 46 #[.val (.ref r0), .val (.int (Int32.ofNat j)), .val (.int (Int32.ofNat fr)), .val (.int (Int32.ofNat t)), .val (.ref r4), .val (.ref r5), .val (.ref r6), .val (.ref r7), .val (.int (fb (Int32.ofNat j)))] [(.int (fb (Int32.ofNat j)))]))
        refine own_go (fun t_ k_ => XS.bipush A0.here hx rfl (hb hby d3_46) k_) ?_
        show own_Go _ _ _ _ (T0.setTop (mkF m 48 #[.val (.ref r0), .val (.int (Int32.ofNat j)), .val (.int (Int32.ofNat fr)), .val (.int (Int32.ofNat t)), .val (.ref r4), .val (.ref r5), .val (.ref r6), .val (.ref r7), .val (.int (fb (Int32.ofNat j)))] [(.int (32 : Int32)), (.int (fb (Int32.ofNat j)))]))
        by_cases hc26 : (fb (Int32.ofNat j)) = (32 : Int32)
        ·
          refine own_go (fun t_ k_ => XS.icmpYes A0.here hx rfl (pc0 := 48) (pc' := 93) rfl (hb hby d3_48) rfl (teq hc26).1 (by decide) (by decide) k_) ?_
          show own_Go _ _ _ _ (T0.setTop (mkF m 93 #[.val (.ref r0), .val (.int (Int32.ofNat j)), .val (.int (Int32.ofNat fr)), .val (.int (Int32.ofNat t)), .val (.ref r4), .val (.ref r5), .val (.ref r6), .val (.ref r7), .val (.int (fb (Int32.ofNat j)))] []))
          refine own_retV A0 hx hret hlk (by decide) (by decide) (hb hby d3_93) ?_
          refine ⟨rfl, (Keep.refl h0 [r4, r5, r6, r7]), ?_⟩
          rw [own_stp, if_neg (fun z => hc1 ((own_nlt (by omega) (by omega)).mpr z)), if_pos ((own_nlt (by omega) (by omega)).mp hc2), if_neg (fun z => hc3 ((HC j hj).1.mpr z)), if_pos ((HC j hj).2.mp (Or.inl hc26))]
          exact ⟨V4, V5, V6, V7⟩
        ·
          refine own_go (fun t_ k_ => XS.icmpNo A0.here hx rfl (hb hby d3_48) rfl (feq hc26).1 k_) ?_
          show own_Go _ _ _ _ (T0.setTop (mkF m 51 #[.val (.ref r0), .val (.int (Int32.ofNat j)), .val (.int (Int32.ofNat fr)), .val (.int (Int32.ofNat t)), .val (.ref r4), .val (.ref r5), .val (.ref r6), .val (.ref r7), .val (.int (fb (Int32.ofNat j)))] []))
          refine own_go (fun t_ k_ => XS.iload A0.here hx rfl (hb hby d3_51) rfl k_) ?_
          show own_Go _ _ _ _ (T0.setTop (mkF m 53 #[.val (.ref r0), .val (.int (Int32.ofNat j)), .val (.int (Int32.ofNat fr)), .val (.int (Int32.ofNat t)), .val (.ref r4), .val (.ref r5), .val (.ref r6), .val (.ref r7), .val (.int (fb (Int32.ofNat j)))] [(.int (fb (Int32.ofNat j)))]))
          refine own_go (fun t_ k_ => XS.bipush A0.here hx rfl (hb hby d3_53) k_) ?_
          show own_Go _ _ _ _ (T0.setTop (mkF m 55 #[.val (.ref r0), .val (.int (Int32.ofNat j)), .val (.int (Int32.ofNat fr)), .val (.int (Int32.ofNat t)), .val (.ref r4), .val (.ref r5), .val (.ref r6), .val (.ref r7), .val (.int (fb (Int32.ofNat j)))] [(.int (9 : Int32)), (.int (fb (Int32.ofNat j)))]))
          by_cases hc27 : (fb (Int32.ofNat j)) = (9 : Int32)
          ·
            refine own_go (fun t_ k_ => XS.icmpYes A0.here hx rfl (pc0 := 55) (pc' := 93) rfl (hb hby d3_55) rfl (teq hc27).1 (by decide) (by decide) k_) ?_
            show own_Go _ _ _ _ (T0.setTop (mkF m 93 #[.val (.ref r0), .val (.int (Int32.ofNat j)), .val (.int (Int32.ofNat fr)), .val (.int (Int32.ofNat t)), .val (.ref r4), .val (.ref r5), .val (.ref r6), .val (.ref r7), .val (.int (fb (Int32.ofNat j)))] []))
            refine own_retV A0 hx hret hlk (by decide) (by decide) (hb hby d3_93) ?_
            refine ⟨rfl, (Keep.refl h0 [r4, r5, r6, r7]), ?_⟩
            rw [own_stp, if_neg (fun z => hc1 ((own_nlt (by omega) (by omega)).mpr z)), if_pos ((own_nlt (by omega) (by omega)).mp hc2), if_neg (fun z => hc3 ((HC j hj).1.mpr z)), if_pos ((HC j hj).2.mp (Or.inr (Or.inl hc27)))]
            exact ⟨V4, V5, V6, V7⟩
          ·
            refine own_go (fun t_ k_ => XS.icmpNo A0.here hx rfl (hb hby d3_55) rfl (feq hc27).1 k_) ?_
            show own_Go _ _ _ _ (T0.setTop (mkF m 58 #[.val (.ref r0), .val (.int (Int32.ofNat j)), .val (.int (Int32.ofNat fr)), .val (.int (Int32.ofNat t)), .val (.ref r4), .val (.ref r5), .val (.ref r6), .val (.ref r7), .val (.int (fb (Int32.ofNat j)))] []))
            refine own_go (fun t_ k_ => XS.iload A0.here hx rfl (hb hby d3_58) rfl k_) ?_
            show own_Go _ _ _ _ (T0.setTop (mkF m 60 #[.val (.ref r0), .val (.int (Int32.ofNat j)), .val (.int (Int32.ofNat fr)), .val (.int (Int32.ofNat t)), .val (.ref r4), .val (.ref r5), .val (.ref r6), .val (.ref r7), .val (.int (fb (Int32.ofNat j)))] [(.int (fb (Int32.ofNat j)))]))
            refine own_go (fun t_ k_ => XS.bipush A0.here hx rfl (hb hby d3_60) k_) ?_
            show own_Go _ _ _ _ (T0.setTop (mkF m 62 #[.val (.ref r0), .val (.int (Int32.ofNat j)), .val (.int (Int32.ofNat fr)), .val (.int (Int32.ofNat t)), .val (.ref r4), .val (.ref r5), .val (.ref r6), .val (.ref r7), .val (.int (fb (Int32.ofNat j)))] [(.int (13 : Int32)), (.int (fb (Int32.ofNat j)))]))
            by_cases hc28 : (fb (Int32.ofNat j)) = (13 : Int32)
            ·
              refine own_go (fun t_ k_ => XS.icmpYes A0.here hx rfl (pc0 := 62) (pc' := 93) rfl (hb hby d3_62) rfl (teq hc28).1 (by decide) (by decide) k_) ?_
              show own_Go _ _ _ _ (T0.setTop (mkF m 93 #[.val (.ref r0), .val (.int (Int32.ofNat j)), .val (.int (Int32.ofNat fr)), .val (.int (Int32.ofNat t)), .val (.ref r4), .val (.ref r5), .val (.ref r6), .val (.ref r7), .val (.int (fb (Int32.ofNat j)))] []))
              refine own_retV A0 hx hret hlk (by decide) (by decide) (hb hby d3_93) ?_
              refine ⟨rfl, (Keep.refl h0 [r4, r5, r6, r7]), ?_⟩
              rw [own_stp, if_neg (fun z => hc1 ((own_nlt (by omega) (by omega)).mpr z)), if_pos ((own_nlt (by omega) (by omega)).mp hc2), if_neg (fun z => hc3 ((HC j hj).1.mpr z)), if_pos ((HC j hj).2.mp (Or.inr (Or.inr hc28)))]
              exact ⟨V4, V5, V6, V7⟩
            ·
              refine own_go (fun t_ k_ => XS.icmpNo A0.here hx rfl (hb hby d3_62) rfl (feq hc28).1 k_) ?_
              show own_Go _ _ _ _ (T0.setTop (mkF m 65 #[.val (.ref r0), .val (.int (Int32.ofNat j)), .val (.int (Int32.ofNat fr)), .val (.int (Int32.ofNat t)), .val (.ref r4), .val (.ref r5), .val (.ref r6), .val (.ref r7), .val (.int (fb (Int32.ofNat j)))] []))
              refine own_go (fun t_ k_ => XS.aload A0.here hx rfl (hb hby d3_65) rfl rfl k_) ?_
              show own_Go _ _ _ _ (T0.setTop (mkF m 67 #[.val (.ref r0), .val (.int (Int32.ofNat j)), .val (.int (Int32.ofNat fr)), .val (.int (Int32.ofNat t)), .val (.ref r4), .val (.ref r5), .val (.ref r6), .val (.ref r7), .val (.int (fb (Int32.ofNat j)))] [(.ref r4)]))
              refine own_go (fun t_ k_ => XS.aload A0.here hx rfl (hb hby d3_67) rfl rfl k_) ?_
              show own_Go _ _ _ _ (T0.setTop (mkF m 69 #[.val (.ref r0), .val (.int (Int32.ofNat j)), .val (.int (Int32.ofNat fr)), .val (.int (Int32.ofNat t)), .val (.ref r4), .val (.ref r5), .val (.ref r6), .val (.ref r7), .val (.int (fb (Int32.ofNat j)))] [(.ref r7), (.ref r4)]))
              refine own_go (fun t_ k_ => XS.iconst A0.here hx rfl (hb hby d3_69) k_) ?_
              show own_Go _ _ _ _ (T0.setTop (mkF m 70 #[.val (.ref r0), .val (.int (Int32.ofNat j)), .val (.int (Int32.ofNat fr)), .val (.int (Int32.ofNat t)), .val (.ref r4), .val (.ref r5), .val (.ref r6), .val (.ref r7), .val (.int (fb (Int32.ofNat j)))] [(.int (0 : Int32)), (.ref r7), (.ref r4)]))
              refine own_ldI A0 hx hZ V7 ⟨by decide, by decide⟩ rfl rfl (hb hby d3_70) ?_
              show own_Go _ _ _ _ (T0.setTop (mkF m 71 #[.val (.ref r0), .val (.int (Int32.ofNat j)), .val (.int (Int32.ofNat fr)), .val (.int (Int32.ofNat t)), .val (.ref r4), .val (.ref r5), .val (.ref r6), .val (.ref r7), .val (.int (fb (Int32.ofNat j)))] [(.int (Int32.ofNat σ.2.2.2)), (.ref r4)]))
              refine own_ldI A0 hx hZ V4 ⟨own_nn (by omega), (own_nlt (j := 6) (by omega) (by decide)).mpr (by omega)⟩ rfl rfl (hb hby d3_71) ?_
              show own_Go _ _ _ _ (T0.setTop (mkF m 72 #[.val (.ref r0), .val (.int (Int32.ofNat j)), .val (.int (Int32.ofNat fr)), .val (.int (Int32.ofNat t)), .val (.ref r4), .val (.ref r5), .val (.ref r6), .val (.ref r7), .val (.int (fb (Int32.ofNat j)))] [(.int (σ.1 (Int32.ofNat σ.2.2.2)))]))
              by_cases hc29 : (σ.1 (Int32.ofNat σ.2.2.2)) < (0 : Int32)
              ·
                refine own_go (fun t_ k_ => XS.ifNo A0.here hx rfl (hb hby d3_72) rfl ((if0 _ _).trans (tlt hc29).2.1) k_) ?_
                show own_Go _ _ _ _ (T0.setTop (mkF m 75 #[.val (.ref r0), .val (.int (Int32.ofNat j)), .val (.int (Int32.ofNat fr)), .val (.int (Int32.ofNat t)), .val (.ref r4), .val (.ref r5), .val (.ref r6), .val (.ref r7), .val (.int (fb (Int32.ofNat j)))] []))
                refine own_go (fun t_ k_ => XS.aload A0.here hx rfl (hb hby d3_75) rfl rfl k_) ?_
                show own_Go _ _ _ _ (T0.setTop (mkF m 77 #[.val (.ref r0), .val (.int (Int32.ofNat j)), .val (.int (Int32.ofNat fr)), .val (.int (Int32.ofNat t)), .val (.ref r4), .val (.ref r5), .val (.ref r6), .val (.ref r7), .val (.int (fb (Int32.ofNat j)))] [(.ref r4)]))
                refine own_go (fun t_ k_ => XS.aload A0.here hx rfl (hb hby d3_77) rfl rfl k_) ?_
                show own_Go _ _ _ _ (T0.setTop (mkF m 79 #[.val (.ref r0), .val (.int (Int32.ofNat j)), .val (.int (Int32.ofNat fr)), .val (.int (Int32.ofNat t)), .val (.ref r4), .val (.ref r5), .val (.ref r6), .val (.ref r7), .val (.int (fb (Int32.ofNat j)))] [(.ref r7), (.ref r4)]))
                refine own_go (fun t_ k_ => XS.iconst A0.here hx rfl (hb hby d3_79) k_) ?_
                show own_Go _ _ _ _ (T0.setTop (mkF m 80 #[.val (.ref r0), .val (.int (Int32.ofNat j)), .val (.int (Int32.ofNat fr)), .val (.int (Int32.ofNat t)), .val (.ref r4), .val (.ref r5), .val (.ref r6), .val (.ref r7), .val (.int (fb (Int32.ofNat j)))] [(.int (0 : Int32)), (.ref r7), (.ref r4)]))
                refine own_ldI A0 hx hZ V7 ⟨by decide, by decide⟩ rfl rfl (hb hby d3_80) ?_
                show own_Go _ _ _ _ (T0.setTop (mkF m 81 #[.val (.ref r0), .val (.int (Int32.ofNat j)), .val (.int (Int32.ofNat fr)), .val (.int (Int32.ofNat t)), .val (.ref r4), .val (.ref r5), .val (.ref r6), .val (.ref r7), .val (.int (fb (Int32.ofNat j)))] [(.int (Int32.ofNat σ.2.2.2)), (.ref r4)]))
                refine own_go (fun t_ k_ => XS.iloadN A0.here hx rfl (hb hby d3_81) rfl k_) ?_
                show own_Go _ _ _ _ (T0.setTop (mkF m 82 #[.val (.ref r0), .val (.int (Int32.ofNat j)), .val (.int (Int32.ofNat fr)), .val (.int (Int32.ofNat t)), .val (.ref r4), .val (.ref r5), .val (.ref r6), .val (.ref r7), .val (.int (fb (Int32.ofNat j)))] [(.int (Int32.ofNat j)), (.int (Int32.ofNat σ.2.2.2)), (.ref r4)]))
                refine own_stI A0 hx hZ V4 ⟨own_nn (by omega), (own_nlt (j := 6) (by omega) (by decide)).mpr (by omega)⟩ g4 rfl rfl (hb hby d3_82) (fun T30 h32 A31 W33 V34 => ?_)
                have V35 : own_Arr Z h32 r0 .byte (5 : Int32) fb := V0.other W33 n04
                have V36 : own_Arr Z h32 r4 .int (6 : Int32) (fun i => if i = (Int32.ofNat σ.2.2.2) then (Int32.ofNat j) else σ.1 i) := V34
                have V37 : own_Arr Z h32 r5 .int (6 : Int32) σ.2.1 := V5.other W33 (Ne.symm n45)
                have V38 : own_Arr Z h32 r6 .int (6 : Int32) σ.2.2.1 := V6.other W33 (Ne.symm n46)
                have V39 : own_Arr Z h32 r7 .int (1 : Int32) (fun _ => Int32.ofNat σ.2.2.2) := V7.other W33 (Ne.symm n47)
                have K40 : Keep h0 h32 [r4, r5, r6, r7] := (Keep.refl h0 [r4, r5, r6, r7]).wr W33 (Or.inl (List.mem_of_getElem? (i := 0) rfl))
                show own_Go _ _ _ _ (T30.setTop (mkF m 83 #[.val (.ref r0), .val (.int (Int32.ofNat j)), .val (.int (Int32.ofNat fr)), .val (.int (Int32.ofNat t)), .val (.ref r4), .val (.ref r5), .val (.ref r6), .val (.ref r7), .val (.int (fb (Int32.ofNat j)))] []))
                refine own_go (fun t_ k_ => XS.aload A31.here hx rfl (hb hby d3_83) rfl rfl k_) ?_
                show own_Go _ _ _ _ (T30.setTop (mkF m 85 #[.val (.ref r0), .val (.int (Int32.ofNat j)), .val (.int (Int32.ofNat fr)), .val (.int (Int32.ofNat t)), .val (.ref r4), .val (.ref r5), .val (.ref r6), .val (.ref r7), .val (.int (fb (Int32.ofNat j)))] [(.ref r5)]))
                refine own_go (fun t_ k_ => XS.aload A31.here hx rfl (hb hby d3_85) rfl rfl k_) ?_
                show own_Go _ _ _ _ (T30.setTop (mkF m 87 #[.val (.ref r0), .val (.int (Int32.ofNat j)), .val (.int (Int32.ofNat fr)), .val (.int (Int32.ofNat t)), .val (.ref r4), .val (.ref r5), .val (.ref r6), .val (.ref r7), .val (.int (fb (Int32.ofNat j)))] [(.ref r7), (.ref r5)]))
                refine own_go (fun t_ k_ => XS.iconst A31.here hx rfl (hb hby d3_87) k_) ?_
                show own_Go _ _ _ _ (T30.setTop (mkF m 88 #[.val (.ref r0), .val (.int (Int32.ofNat j)), .val (.int (Int32.ofNat fr)), .val (.int (Int32.ofNat t)), .val (.ref r4), .val (.ref r5), .val (.ref r6), .val (.ref r7), .val (.int (fb (Int32.ofNat j)))] [(.int (0 : Int32)), (.ref r7), (.ref r5)]))
                refine own_ldI A31 hx hZ V39 ⟨by decide, by decide⟩ rfl rfl (hb hby d3_88) ?_
                show own_Go _ _ _ _ (T30.setTop (mkF m 89 #[.val (.ref r0), .val (.int (Int32.ofNat j)), .val (.int (Int32.ofNat fr)), .val (.int (Int32.ofNat t)), .val (.ref r4), .val (.ref r5), .val (.ref r6), .val (.ref r7), .val (.int (fb (Int32.ofNat j)))] [(.int (Int32.ofNat σ.2.2.2)), (.ref r5)]))
                refine own_go (fun t_ k_ => XS.iloadN A31.here hx rfl (hb hby d3_89) rfl k_) ?_
                show own_Go _ _ _ _ (T30.setTop (mkF m 90 #[.val (.ref r0), .val (.int (Int32.ofNat j)), .val (.int (Int32.ofNat fr)), .val (.int (Int32.ofNat t)), .val (.ref r4), .val (.ref r5), .val (.ref r6), .val (.ref r7), .val (.int (fb (Int32.ofNat j)))] [(.int (Int32.ofNat j)), (.int (Int32.ofNat σ.2.2.2)), (.ref r5)]))
                refine own_go (fun t_ k_ => XS.iconst A31.here hx rfl (hb hby d3_90) k_) ?_
                show own_Go _ _ _ _ (T30.setTop (mkF m 91 #[.val (.ref r0), .val (.int (Int32.ofNat j)), .val (.int (Int32.ofNat fr)), .val (.int (Int32.ofNat t)), .val (.ref r4), .val (.ref r5), .val (.ref r6), .val (.ref r7), .val (.int (fb (Int32.ofNat j)))] [(.int (1 : Int32)), (.int (Int32.ofNat j)), (.int (Int32.ofNat σ.2.2.2)), (.ref r5)]))
                refine own_go (fun t_ k_ => XS.iadd A31.here hx rfl (hb hby d3_91) rfl k_) ?_
                show own_Go _ _ _ _ (T30.setTop (mkF m 92 #[.val (.ref r0), .val (.int (Int32.ofNat j)), .val (.int (Int32.ofNat fr)), .val (.int (Int32.ofNat t)), .val (.ref r4), .val (.ref r5), .val (.ref r6), .val (.ref r7), .val (.int (fb (Int32.ofNat j)))] [(.int ((Int32.ofNat j) + (1 : Int32))), (.int (Int32.ofNat σ.2.2.2)), (.ref r5)]))
                refine own_stI A31 hx hZ V37 ⟨own_nn (by omega), (own_nlt (j := 6) (by omega) (by decide)).mpr (by omega)⟩ g5 rfl rfl (hb hby d3_92) (fun T41 h43 A42 W44 V45 => ?_)
                have V46 : own_Arr Z h43 r0 .byte (5 : Int32) fb := V35.other W44 n05
                have V47 : own_Arr Z h43 r4 .int (6 : Int32) (fun i => if i = (Int32.ofNat σ.2.2.2) then (Int32.ofNat j) else σ.1 i) := V36.other W44 n45
                have V48 : own_Arr Z h43 r5 .int (6 : Int32) (fun i => if i = (Int32.ofNat σ.2.2.2) then ((Int32.ofNat j) + (1 : Int32)) else σ.2.1 i) := V45
                have V49 : own_Arr Z h43 r6 .int (6 : Int32) σ.2.2.1 := V38.other W44 (Ne.symm n56)
                have V50 : own_Arr Z h43 r7 .int (1 : Int32) (fun _ => Int32.ofNat σ.2.2.2) := V39.other W44 (Ne.symm n57)
                have K51 : Keep h0 h43 [r4, r5, r6, r7] := K40.wr W44 (Or.inl (List.mem_of_getElem? (i := 1) rfl))
                show own_Go _ _ _ _ (T41.setTop (mkF m 93 #[.val (.ref r0), .val (.int (Int32.ofNat j)), .val (.int (Int32.ofNat fr)), .val (.int (Int32.ofNat t)), .val (.ref r4), .val (.ref r5), .val (.ref r6), .val (.ref r7), .val (.int (fb (Int32.ofNat j)))] []))
                refine own_retV A42 hx hret hlk (by decide) (by decide) (hb hby d3_93) ?_
                refine ⟨rfl, K51, ?_⟩
                rw [own_stp, if_neg (fun z => hc1 ((own_nlt (by omega) (by omega)).mpr z)), if_pos ((own_nlt (by omega) (by omega)).mp hc2), if_neg (fun z => hc3 ((HC j hj).1.mpr z)), if_neg (fun z => ((HC j hj).2.mpr z).elim hc26 (fun z => z.elim hc27 hc28)), if_pos hc29]
                exact ⟨V47, (V48.congr fun i _ _ => by rw [own_succ]), V49, V50⟩
              ·
                refine own_go (fun t_ k_ => XS.ifYes A0.here hx rfl (pc0 := 72) (pc' := 83) rfl (hb hby d3_72) rfl ((if0 _ _).trans (flt hc29).2.1) (by decide) (by decide) k_) ?_
                show own_Go _ _ _ _ (T0.setTop (mkF m 83 #[.val (.ref r0), .val (.int (Int32.ofNat j)), .val (.int (Int32.ofNat fr)), .val (.int (Int32.ofNat t)), .val (.ref r4), .val (.ref r5), .val (.ref r6), .val (.ref r7), .val (.int (fb (Int32.ofNat j)))] []))
                refine own_go (fun t_ k_ => XS.aload A0.here hx rfl (hb hby d3_83) rfl rfl k_) ?_
                show own_Go _ _ _ _ (T0.setTop (mkF m 85 #[.val (.ref r0), .val (.int (Int32.ofNat j)), .val (.int (Int32.ofNat fr)), .val (.int (Int32.ofNat t)), .val (.ref r4), .val (.ref r5), .val (.ref r6), .val (.ref r7), .val (.int (fb (Int32.ofNat j)))] [(.ref r5)]))
                refine own_go (fun t_ k_ => XS.aload A0.here hx rfl (hb hby d3_85) rfl rfl k_) ?_
                show own_Go _ _ _ _ (T0.setTop (mkF m 87 #[.val (.ref r0), .val (.int (Int32.ofNat j)), .val (.int (Int32.ofNat fr)), .val (.int (Int32.ofNat t)), .val (.ref r4), .val (.ref r5), .val (.ref r6), .val (.ref r7), .val (.int (fb (Int32.ofNat j)))] [(.ref r7), (.ref r5)]))
                refine own_go (fun t_ k_ => XS.iconst A0.here hx rfl (hb hby d3_87) k_) ?_
                show own_Go _ _ _ _ (T0.setTop (mkF m 88 #[.val (.ref r0), .val (.int (Int32.ofNat j)), .val (.int (Int32.ofNat fr)), .val (.int (Int32.ofNat t)), .val (.ref r4), .val (.ref r5), .val (.ref r6), .val (.ref r7), .val (.int (fb (Int32.ofNat j)))] [(.int (0 : Int32)), (.ref r7), (.ref r5)]))
                refine own_ldI A0 hx hZ V7 ⟨by decide, by decide⟩ rfl rfl (hb hby d3_88) ?_
                show own_Go _ _ _ _ (T0.setTop (mkF m 89 #[.val (.ref r0), .val (.int (Int32.ofNat j)), .val (.int (Int32.ofNat fr)), .val (.int (Int32.ofNat t)), .val (.ref r4), .val (.ref r5), .val (.ref r6), .val (.ref r7), .val (.int (fb (Int32.ofNat j)))] [(.int (Int32.ofNat σ.2.2.2)), (.ref r5)]))
                refine own_go (fun t_ k_ => XS.iloadN A0.here hx rfl (hb hby d3_89) rfl k_) ?_
                show own_Go _ _ _ _ (T0.setTop (mkF m 90 #[.val (.ref r0), .val (.int (Int32.ofNat j)), .val (.int (Int32.ofNat fr)), .val (.int (Int32.ofNat t)), .val (.ref r4), .val (.ref r5), .val (.ref r6), .val (.ref r7), .val (.int (fb (Int32.ofNat j)))] [(.int (Int32.ofNat j)), (.int (Int32.ofNat σ.2.2.2)), (.ref r5)]))
                refine own_go (fun t_ k_ => XS.iconst A0.here hx rfl (hb hby d3_90) k_) ?_
                show own_Go _ _ _ _ (T0.setTop (mkF m 91 #[.val (.ref r0), .val (.int (Int32.ofNat j)), .val (.int (Int32.ofNat fr)), .val (.int (Int32.ofNat t)), .val (.ref r4), .val (.ref r5), .val (.ref r6), .val (.ref r7), .val (.int (fb (Int32.ofNat j)))] [(.int (1 : Int32)), (.int (Int32.ofNat j)), (.int (Int32.ofNat σ.2.2.2)), (.ref r5)]))
                refine own_go (fun t_ k_ => XS.iadd A0.here hx rfl (hb hby d3_91) rfl k_) ?_
                show own_Go _ _ _ _ (T0.setTop (mkF m 92 #[.val (.ref r0), .val (.int (Int32.ofNat j)), .val (.int (Int32.ofNat fr)), .val (.int (Int32.ofNat t)), .val (.ref r4), .val (.ref r5), .val (.ref r6), .val (.ref r7), .val (.int (fb (Int32.ofNat j)))] [(.int ((Int32.ofNat j) + (1 : Int32))), (.int (Int32.ofNat σ.2.2.2)), (.ref r5)]))
                refine own_stI A0 hx hZ V5 ⟨own_nn (by omega), (own_nlt (j := 6) (by omega) (by decide)).mpr (by omega)⟩ g5 rfl rfl (hb hby d3_92) (fun T52 h54 A53 W55 V56 => ?_)
                have V57 : own_Arr Z h54 r0 .byte (5 : Int32) fb := V0.other W55 n05
                have V58 : own_Arr Z h54 r4 .int (6 : Int32) σ.1 := V4.other W55 n45
                have V59 : own_Arr Z h54 r5 .int (6 : Int32) (fun i => if i = (Int32.ofNat σ.2.2.2) then ((Int32.ofNat j) + (1 : Int32)) else σ.2.1 i) := V56
                have V60 : own_Arr Z h54 r6 .int (6 : Int32) σ.2.2.1 := V6.other W55 (Ne.symm n56)
                have V61 : own_Arr Z h54 r7 .int (1 : Int32) (fun _ => Int32.ofNat σ.2.2.2) := V7.other W55 (Ne.symm n57)
                have K62 : Keep h0 h54 [r4, r5, r6, r7] := (Keep.refl h0 [r4, r5, r6, r7]).wr W55 (Or.inl (List.mem_of_getElem? (i := 1) rfl))
                show own_Go _ _ _ _ (T52.setTop (mkF m 93 #[.val (.ref r0), .val (.int (Int32.ofNat j)), .val (.int (Int32.ofNat fr)), .val (.int (Int32.ofNat t)), .val (.ref r4), .val (.ref r5), .val (.ref r6), .val (.ref r7), .val (.int (fb (Int32.ofNat j)))] []))
                refine own_retV A53 hx hret hlk (by decide) (by decide) (hb hby d3_93) ?_
                refine ⟨rfl, K62, ?_⟩
                rw [own_stp, if_neg (fun z => hc1 ((own_nlt (by omega) (by omega)).mpr z)), if_pos ((own_nlt (by omega) (by omega)).mp hc2), if_neg (fun z => hc3 ((HC j hj).1.mpr z)), if_neg (fun z => ((HC j hj).2.mpr z).elim hc26 (fun z => z.elim hc27 hc28)), if_neg hc29]
                exact ⟨V58, (V59.congr fun i _ _ => by rw [own_succ]), V60, V61⟩
    ·
      refine own_go (fun t_ k_ => XS.icmpNo A0.here hx rfl (hb hby d3_7) rfl (flt hc2).1 k_) ?_
      show own_Go _ _ _ _ (T0.setTop (mkF m 10 #[.val (.ref r0), .val (.int (Int32.ofNat j)), .val (.int (Int32.ofNat fr)), .val (.int (Int32.ofNat t)), .val (.ref r4), .val (.ref r5), .val (.ref r6), .val (.ref r7), .unset] []))
      refine own_retV A0 hx hret hlk (by decide) (by decide) (hb hby d3_10) ?_
      refine ⟨rfl, (Keep.refl h0 [r4, r5, r6, r7]), ?_⟩
      rw [own_stp, if_neg (fun z => hc1 ((own_nlt (by omega) (by omega)).mpr z)), if_neg (fun z => hc2 ((own_nlt (by omega) (by omega)).mpr z))]
      exact ⟨V4, V5, V6, V7⟩
theorem ef_5 (m : MethodId) (r0 : Addr) (y1 : Int32) (y2 : Int32) (r3 : Addr) (r4 : Addr) (r5 : Addr) : entryFrame m #[(.ref r0), (.int y1), (.int y2), (.ref r3), (.ref r4), (.ref r5)] 8 = mkF m 0 #[.val (.ref r0), .val (.int y1), .val (.int y2), .val (.ref r3), .val (.ref r4), .val (.ref r5), .unset, .unset] [] := by first | (simp [entryFrame, mkF, argsToLocals, Value.category]; done) | rfl
theorem d5_0 : decode method_6_code 0 = .ok (.iconst 2, 1) := by decide +kernel
theorem d5_1 : decode method_6_code 1 = .ok (.iload_n 1, 1) := by decide +kernel
theorem d5_2 : decode method_6_code 2 = .ok (.imul, 1) := by decide +kernel
theorem d5_3 : decode method_6_code 3 = .ok (.aload_n 0, 1) := by decide +kernel
theorem d5_4 : decode method_6_code 4 = .ok (.arraylength, 1) := by decide +kernel
theorem d5_5 : decode method_6_code 5 = .ok (.if_icmp .lt 5, 3) := by decide +kernel
theorem d5_10 : decode method_6_code 10 = .ok (.iload_n 1, 1) := by decide +kernel
theorem d5_11 : decode method_6_code 11 = .ok (.iload_n 2, 1) := by decide +kernel
theorem d5_12 : decode method_6_code 12 = .ok (.if_icmp .lt 31, 3) := by decide +kernel
theorem d5_43 : decode method_6_code 43 = .ok (.aload_n 3, 1) := by decide +kernel
theorem d5_44 : decode method_6_code 44 = .ok (.iload_n 1, 1) := by decide +kernel
theorem d5_45 : decode method_6_code 45 = .ok (.iaload, 1) := by decide +kernel
theorem d5_46 : decode method_6_code 46 = .ok (.ifCond .ge 10, 3) := by decide +kernel
theorem d5_49 : decode method_6_code 49 = .ok (.aload 5, 2) := by decide +kernel
theorem d5_51 : decode method_6_code 51 = .ok (.iload_n 1, 1) := by decide +kernel
theorem d5_52 : decode method_6_code 52 = .ok (.iaload, 1) := by decide +kernel
theorem d5_53 : decode method_6_code 53 = .ok (.goto 6, 3) := by decide +kernel
theorem d5_59 : decode method_6_code 59 = .ok (.istore 6, 2) := by decide +kernel
theorem d5_61 : decode method_6_code 61 = .ok (.aload_n 3, 1) := by decide +kernel
theorem d5_62 : decode method_6_code 62 = .ok (.iload_n 1, 1) := by decide +kernel
theorem d5_63 : decode method_6_code 63 = .ok (.iaload, 1) := by decide +kernel
theorem d5_64 : decode method_6_code 64 = .ok (.ifCond .ge 10, 3) := by decide +kernel
theorem d5_67 : decode method_6_code 67 = .ok (.aload 5, 2) := by decide +kernel
theorem d5_69 : decode method_6_code 69 = .ok (.iload_n 1, 1) := by decide +kernel
theorem d5_70 : decode method_6_code 70 = .ok (.iaload, 1) := by decide +kernel
theorem d5_71 : decode method_6_code 71 = .ok (.goto 7, 3) := by decide +kernel
theorem d5_78 : decode method_6_code 78 = .ok (.istore 7, 2) := by decide +kernel
theorem d5_80 : decode method_6_code 80 = .ok (.aload_n 0, 1) := by decide +kernel
theorem d5_81 : decode method_6_code 81 = .ok (.iconst 2, 1) := by decide +kernel
theorem d5_82 : decode method_6_code 82 = .ok (.iload_n 1, 1) := by decide +kernel
theorem d5_83 : decode method_6_code 83 = .ok (.imul, 1) := by decide +kernel
theorem d5_84 : decode method_6_code 84 = .ok (.iaload, 1) := by decide +kernel
theorem d5_85 : decode method_6_code 85 = .ok (.iload 6, 2) := by decide +kernel
theorem d5_87 : decode method_6_code 87 = .ok (.if_icmp .ne 19, 3) := by decide +kernel
theorem d5_90 : decode method_6_code 90 = .ok (.aload_n 0, 1) := by decide +kernel
theorem d5_91 : decode method_6_code 91 = .ok (.iconst 2, 1) := by decide +kernel
theorem d5_92 : decode method_6_code 92 = .ok (.iload_n 1, 1) := by decide +kernel
theorem d5_93 : decode method_6_code 93 = .ok (.imul, 1) := by decide +kernel
theorem d5_94 : decode method_6_code 94 = .ok (.iconst 1, 1) := by decide +kernel
theorem d5_95 : decode method_6_code 95 = .ok (.iadd, 1) := by decide +kernel
theorem d5_96 : decode method_6_code 96 = .ok (.iaload, 1) := by decide +kernel
theorem d5_97 : decode method_6_code 97 = .ok (.iload 7, 2) := by decide +kernel
theorem d5_99 : decode method_6_code 99 = .ok (.if_icmp .ne 7, 3) := by decide +kernel
theorem d5_102 : decode method_6_code 102 = .ok (.iconst 1, 1) := by decide +kernel
theorem d5_103 : decode method_6_code 103 = .ok (.goto 4, 3) := by decide +kernel
theorem d5_107 : decode method_6_code 107 = .ok (.ireturn, 1) := by decide +kernel
theorem d5_56 : decode method_6_code 56 = .ok (.aload_n 3, 1) := by decide +kernel
theorem d5_57 : decode method_6_code 57 = .ok (.iload_n 1, 1) := by decide +kernel
theorem d5_58 : decode method_6_code 58 = .ok (.iaload, 1) := by decide +kernel
theorem d5_74 : decode method_6_code 74 = .ok (.aload 4, 2) := by decide +kernel
theorem d5_76 : decode method_6_code 76 = .ok (.iload_n 1, 1) := by decide +kernel
theorem d5_77 : decode method_6_code 77 = .ok (.iaload, 1) := by decide +kernel
theorem d5_15 : decode method_6_code 15 = .ok (.aload_n 0, 1) := by decide +kernel
theorem d5_16 : decode method_6_code 16 = .ok (.iconst 2, 1) := by decide +kernel
theorem d5_17 : decode method_6_code 17 = .ok (.iload_n 1, 1) := by decide +kernel
theorem d5_18 : decode method_6_code 18 = .ok (.imul, 1) := by decide +kernel
theorem d5_19 : decode method_6_code 19 = .ok (.iaload, 1) := by decide +kernel
theorem d5_20 : decode method_6_code 20 = .ok (.bipush (-7), 2) := by decide +kernel
theorem d5_22 : decode method_6_code 22 = .ok (.if_icmp .ne 19, 3) := by decide +kernel
theorem d5_25 : decode method_6_code 25 = .ok (.aload_n 0, 1) := by decide +kernel
theorem d5_26 : decode method_6_code 26 = .ok (.iconst 2, 1) := by decide +kernel
theorem d5_27 : decode method_6_code 27 = .ok (.iload_n 1, 1) := by decide +kernel
theorem d5_28 : decode method_6_code 28 = .ok (.imul, 1) := by decide +kernel
theorem d5_29 : decode method_6_code 29 = .ok (.iconst 1, 1) := by decide +kernel
theorem d5_30 : decode method_6_code 30 = .ok (.iadd, 1) := by decide +kernel
theorem d5_31 : decode method_6_code 31 = .ok (.iaload, 1) := by decide +kernel
theorem d5_32 : decode method_6_code 32 = .ok (.bipush (-7), 2) := by decide +kernel
theorem d5_34 : decode method_6_code 34 = .ok (.if_icmp .ne 7, 3) := by decide +kernel
theorem d5_37 : decode method_6_code 37 = .ok (.iconst 1, 1) := by decide +kernel
theorem d5_38 : decode method_6_code 38 = .ok (.goto 4, 3) := by decide +kernel
theorem d5_42 : decode method_6_code 42 = .ok (.ireturn, 1) := by decide +kernel
theorem d5_8 : decode method_6_code 8 = .ok (.iconst 1, 1) := by decide +kernel
theorem d5_9 : decode method_6_code 9 = .ok (.ireturn, 1) := by decide +kernel
set_option maxRecDepth 65536 in
set_option maxHeartbeats 40000000 in
theorem rm5 (l : Launch) (Z : State) (a0 : Array Value) (hw : ∀ d ∈ tables_1, d.before a0 Z = true) (r0 : Addr) (r3 : Addr) (r4 : Addr) (r5 : Addr) (j : Nat) (cnt : Nat) (q : Nat) (cb : Int32 → Int32) (F : Int32 → Int32) (La : Int32 → Int32) (En : Int32 → Int32) (h0 : Heap) (n0 : Nat) (V0 : own_Arr Z h0 r0 .int (Int32.ofNat (2 * q)) cb) (V3 : own_Arr Z h0 r3 .int (6 : Int32) F) (V4 : own_Arr Z h0 r4 .int (6 : Int32) La) (V5 : own_Arr Z h0 r5 .int (6 : Int32) En) (H : own_H q cnt F La En cb j) (hq : 2 * q < 2 ^ 30) (hj : j < 100) (hcn : cnt < 100) :
    own_Met l Z n0 (⟨"com/example/indexloom/indexloom/data/DataHeaderSplitPinLaw", "check", "([III[I[I[I)Z"⟩ : MethodName) method_6_code 8 (some .boolean) ({ frames := 0, cells := 0, slots := 0, locals := 0 } : Room) #[(.ref r0), (.int (Int32.ofNat j)), (.int (Int32.ofNat cnt)), (.ref r3), (.ref r4), (.ref r5)] h0 (fun v h => v = some (.int 1) ∧ h0 = h) := by
  refine own_met (plainFor_of_name pn_1) ?_
  intro p e s m below meth c T0 hx hby hml hown hnm hret hlk hZ A0
  rw [ef_5]
  show own_Go _ _ _ _ (T0.setTop (mkF m 0 #[.val (.ref r0), .val (.int (Int32.ofNat j)), .val (.int (Int32.ofNat cnt)), .val (.ref r3), .val (.ref r4), .val (.ref r5), .unset, .unset] []))
  refine own_go (fun t_ k_ => XS.iconst A0.here hx rfl (hb hby d5_0) k_) ?_
  show own_Go _ _ _ _ (T0.setTop (mkF m 1 #[.val (.ref r0), .val (.int (Int32.ofNat j)), .val (.int (Int32.ofNat cnt)), .val (.ref r3), .val (.ref r4), .val (.ref r5), .unset, .unset] [(.int (2 : Int32))]))
  refine own_go (fun t_ k_ => XS.iloadN A0.here hx rfl (hb hby d5_1) rfl k_) ?_
  show own_Go _ _ _ _ (T0.setTop (mkF m 2 #[.val (.ref r0), .val (.int (Int32.ofNat j)), .val (.int (Int32.ofNat cnt)), .val (.ref r3), .val (.ref r4), .val (.ref r5), .unset, .unset] [(.int (Int32.ofNat j)), (.int (2 : Int32))]))
  refine own_go (fun t_ k_ => XS.imul A0.here hx rfl (hb hby d5_2) rfl k_) ?_
  show own_Go _ _ _ _ (T0.setTop (mkF m 3 #[.val (.ref r0), .val (.int (Int32.ofNat j)), .val (.int (Int32.ofNat cnt)), .val (.ref r3), .val (.ref r4), .val (.ref r5), .unset, .unset] [(.int ((2 : Int32) * (Int32.ofNat j)))]))
  rw [own_dbl]
  show own_Go _ _ _ _ (T0.setTop (mkF m 3 #[.val (.ref r0), .val (.int (Int32.ofNat j)), .val (.int (Int32.ofNat cnt)), .val (.ref r3), .val (.ref r4), .val (.ref r5), .unset, .unset] [(.int (Int32.ofNat (2 * j)))]))
  refine own_go (fun t_ k_ => XS.aloadN A0.here hx rfl (hb hby d5_3) rfl rfl k_) ?_
  show own_Go _ _ _ _ (T0.setTop (mkF m 4 #[.val (.ref r0), .val (.int (Int32.ofNat j)), .val (.int (Int32.ofNat cnt)), .val (.ref r3), .val (.ref r4), .val (.ref r5), .unset, .unset] [(.ref r0), (.int (Int32.ofNat (2 * j)))]))
  refine own_len A0 hx hZ V0 rfl rfl (hb hby d5_4) ?_
  show own_Go _ _ _ _ (T0.setTop (mkF m 5 #[.val (.ref r0), .val (.int (Int32.ofNat j)), .val (.int (Int32.ofNat cnt)), .val (.ref r3), .val (.ref r4), .val (.ref r5), .unset, .unset] [(.int (Int32.ofNat (2 * q))), (.int (Int32.ofNat (2 * j)))]))
  by_cases hc1 : (Int32.ofNat (2 * j)) < (Int32.ofNat (2 * q))
  ·
    refine own_go (fun t_ k_ => XS.icmpYes A0.here hx rfl (pc0 := 5) (pc' := 10) rfl (hb hby d5_5) rfl (tlt hc1).1 (by decide) (by decide) k_) ?_
    show own_Go _ _ _ _ (T0.setTop (mkF m 10 #[.val (.ref r0), .val (.int (Int32.ofNat j)), .val (.int (Int32.ofNat cnt)), .val (.ref r3), .val (.ref r4), .val (.ref r5), .unset, .unset] []))
    have hjq : j < q := by have := (own_nlt (by omega) (by omega)).mp hc1; omega
    refine own_go (fun t_ k_ => XS.iloadN A0.here hx rfl (hb hby d5_10) rfl k_) ?_
    show own_Go _ _ _ _ (T0.setTop (mkF m 11 #[.val (.ref r0), .val (.int (Int32.ofNat j)), .val (.int (Int32.ofNat cnt)), .val (.ref r3), .val (.ref r4), .val (.ref r5), .unset, .unset] [(.int (Int32.ofNat j))]))
    refine own_go (fun t_ k_ => XS.iloadN A0.here hx rfl (hb hby d5_11) rfl k_) ?_
    show own_Go _ _ _ _ (T0.setTop (mkF m 12 #[.val (.ref r0), .val (.int (Int32.ofNat j)), .val (.int (Int32.ofNat cnt)), .val (.ref r3), .val (.ref r4), .val (.ref r5), .unset, .unset] [(.int (Int32.ofNat cnt)), (.int (Int32.ofNat j))]))
    by_cases hc2 : (Int32.ofNat j) < (Int32.ofNat cnt)
    ·
      refine own_go (fun t_ k_ => XS.icmpYes A0.here hx rfl (pc0 := 12) (pc' := 43) rfl (hb hby d5_12) rfl (tlt hc2).1 (by decide) (by decide) k_) ?_
      show own_Go _ _ _ _ (T0.setTop (mkF m 43 #[.val (.ref r0), .val (.int (Int32.ofNat j)), .val (.int (Int32.ofNat cnt)), .val (.ref r3), .val (.ref r4), .val (.ref r5), .unset, .unset] []))
      obtain ⟨hj6, hH1, hH2⟩ := (H hjq).2 ((own_nlt (by omega) (by omega)).mp hc2)
      refine own_go (fun t_ k_ => XS.aloadN A0.here hx rfl (hb hby d5_43) rfl rfl k_) ?_
      show own_Go _ _ _ _ (T0.setTop (mkF m 44 #[.val (.ref r0), .val (.int (Int32.ofNat j)), .val (.int (Int32.ofNat cnt)), .val (.ref r3), .val (.ref r4), .val (.ref r5), .unset, .unset] [(.ref r3)]))
      refine own_go (fun t_ k_ => XS.iloadN A0.here hx rfl (hb hby d5_44) rfl k_) ?_
      show own_Go _ _ _ _ (T0.setTop (mkF m 45 #[.val (.ref r0), .val (.int (Int32.ofNat j)), .val (.int (Int32.ofNat cnt)), .val (.ref r3), .val (.ref r4), .val (.ref r5), .unset, .unset] [(.int (Int32.ofNat j)), (.ref r3)]))
      refine own_ldI A0 hx hZ V3 ⟨own_nn (by omega), (own_nlt (j := 6) (by omega) (by decide)).mpr hj6⟩ rfl rfl (hb hby d5_45) ?_
      show own_Go _ _ _ _ (T0.setTop (mkF m 46 #[.val (.ref r0), .val (.int (Int32.ofNat j)), .val (.int (Int32.ofNat cnt)), .val (.ref r3), .val (.ref r4), .val (.ref r5), .unset, .unset] [(.int (F (Int32.ofNat j)))]))
      by_cases hc3 : (F (Int32.ofNat j)) < (0 : Int32)
      ·
        refine own_go (fun t_ k_ => XS.ifNo A0.here hx rfl (hb hby d5_46) rfl ((if0 _ _).trans (tlt hc3).2.1) k_) ?_
        show own_Go _ _ _ _ (T0.setTop (mkF m 49 #[.val (.ref r0), .val (.int (Int32.ofNat j)), .val (.int (Int32.ofNat cnt)), .val (.ref r3), .val (.ref r4), .val (.ref r5), .unset, .unset] []))
        refine own_go (fun t_ k_ => XS.aload A0.here hx rfl (hb hby d5_49) rfl rfl k_) ?_
        show own_Go _ _ _ _ (T0.setTop (mkF m 51 #[.val (.ref r0), .val (.int (Int32.ofNat j)), .val (.int (Int32.ofNat cnt)), .val (.ref r3), .val (.ref r4), .val (.ref r5), .unset, .unset] [(.ref r5)]))
        refine own_go (fun t_ k_ => XS.iloadN A0.here hx rfl (hb hby d5_51) rfl k_) ?_
        show own_Go _ _ _ _ (T0.setTop (mkF m 52 #[.val (.ref r0), .val (.int (Int32.ofNat j)), .val (.int (Int32.ofNat cnt)), .val (.ref r3), .val (.ref r4), .val (.ref r5), .unset, .unset] [(.int (Int32.ofNat j)), (.ref r5)]))
        refine own_ldI A0 hx hZ V5 ⟨own_nn (by omega), (own_nlt (j := 6) (by omega) (by decide)).mpr hj6⟩ rfl rfl (hb hby d5_52) ?_
        show own_Go _ _ _ _ (T0.setTop (mkF m 53 #[.val (.ref r0), .val (.int (Int32.ofNat j)), .val (.int (Int32.ofNat cnt)), .val (.ref r3), .val (.ref r4), .val (.ref r5), .unset, .unset] [(.int (En (Int32.ofNat j)))]))
        refine own_go (fun t_ k_ => XS.goto A0.here hx rfl (pc0 := 53) (pc' := 59) rfl (hb hby d5_53) (by decide) (by decide) k_) ?_
        show own_Go _ _ _ _ (T0.setTop (mkF m 59 #[.val (.ref r0), .val (.int (Int32.ofNat j)), .val (.int (Int32.ofNat cnt)), .val (.ref r3), .val (.ref r4), .val (.ref r5), .unset, .unset] [(.int (En (Int32.ofNat j)))]))
        refine own_go (fun t_ k_ => XS.istore A0.here hx rfl (hb hby d5_59) rfl (l' := #[.val (.ref r0), .val (.int (Int32.ofNat j)), .val (.int (Int32.ofNat cnt)), .val (.ref r3), .val (.ref r4), .val (.ref r5), .val (.int (En (Int32.ofNat j))), .unset]) rfl k_) ?_
        show own_Go _ _ _ _ (T0.setTop (mkF m 61 #[.val (.ref r0), .val (.int (Int32.ofNat j)), .val (.int (Int32.ofNat cnt)), .val (.ref r3), .val (.ref r4), .val (.ref r5), .val (.int (En (Int32.ofNat j))), .unset] []))
        refine own_go (fun t_ k_ => XS.aloadN A0.here hx rfl (hb hby d5_61) rfl rfl k_) ?_
        show own_Go _ _ _ _ (T0.setTop (mkF m 62 #[.val (.ref r0), .val (.int (Int32.ofNat j)), .val (.int (Int32.ofNat cnt)), .val (.ref r3), .val (.ref r4), .val (.ref r5), .val (.int (En (Int32.ofNat j))), .unset] [(.ref r3)]))
        refine own_go (fun t_ k_ => XS.iloadN A0.here hx rfl (hb hby d5_62) rfl k_) ?_
        show own_Go _ _ _ _ (T0.setTop (mkF m 63 #[.val (.ref r0), .val (.int (Int32.ofNat j)), .val (.int (Int32.ofNat cnt)), .val (.ref r3), .val (.ref r4), .val (.ref r5), .val (.int (En (Int32.ofNat j))), .unset] [(.int (Int32.ofNat j)), (.ref r3)]))
        refine own_ldI A0 hx hZ V3 ⟨own_nn (by omega), (own_nlt (j := 6) (by omega) (by decide)).mpr hj6⟩ rfl rfl (hb hby d5_63) ?_
        show own_Go _ _ _ _ (T0.setTop (mkF m 64 #[.val (.ref r0), .val (.int (Int32.ofNat j)), .val (.int (Int32.ofNat cnt)), .val (.ref r3), .val (.ref r4), .val (.ref r5), .val (.int (En (Int32.ofNat j))), .unset] [(.int (F (Int32.ofNat j)))]))
        have hc4 : (F (Int32.ofNat j)) < (0 : Int32) := hc3
        refine own_go (fun t_ k_ => XS.ifNo A0.here hx rfl (hb hby d5_64) rfl ((if0 _ _).trans (tlt hc4).2.1) k_) ?_
        show own_Go _ _ _ _ (T0.setTop (mkF m 67 #[.val (.ref r0), .val (.int (Int32.ofNat j)), .val (.int (Int32.ofNat cnt)), .val (.ref r3), .val (.ref r4), .val (.ref r5), .val (.int (En (Int32.ofNat j))), .unset] []))
        refine own_go (fun t_ k_ => XS.aload A0.here hx rfl (hb hby d5_67) rfl rfl k_) ?_
        show own_Go _ _ _ _ (T0.setTop (mkF m 69 #[.val (.ref r0), .val (.int (Int32.ofNat j)), .val (.int (Int32.ofNat cnt)), .val (.ref r3), .val (.ref r4), .val (.ref r5), .val (.int (En (Int32.ofNat j))), .unset] [(.ref r5)]))
        refine own_go (fun t_ k_ => XS.iloadN A0.here hx rfl (hb hby d5_69) rfl k_) ?_
        show own_Go _ _ _ _ (T0.setTop (mkF m 70 #[.val (.ref r0), .val (.int (Int32.ofNat j)), .val (.int (Int32.ofNat cnt)), .val (.ref r3), .val (.ref r4), .val (.ref r5), .val (.int (En (Int32.ofNat j))), .unset] [(.int (Int32.ofNat j)), (.ref r5)]))
        refine own_ldI A0 hx hZ V5 ⟨own_nn (by omega), (own_nlt (j := 6) (by omega) (by decide)).mpr hj6⟩ rfl rfl (hb hby d5_70) ?_
        show own_Go _ _ _ _ (T0.setTop (mkF m 71 #[.val (.ref r0), .val (.int (Int32.ofNat j)), .val (.int (Int32.ofNat cnt)), .val (.ref r3), .val (.ref r4), .val (.ref r5), .val (.int (En (Int32.ofNat j))), .unset] [(.int (En (Int32.ofNat j)))]))
        refine own_go (fun t_ k_ => XS.goto A0.here hx rfl (pc0 := 71) (pc' := 78) rfl (hb hby d5_71) (by decide) (by decide) k_) ?_
        show own_Go _ _ _ _ (T0.setTop (mkF m 78 #[.val (.ref r0), .val (.int (Int32.ofNat j)), .val (.int (Int32.ofNat cnt)), .val (.ref r3), .val (.ref r4), .val (.ref r5), .val (.int (En (Int32.ofNat j))), .unset] [(.int (En (Int32.ofNat j)))]))
        refine own_go (fun t_ k_ => XS.istore A0.here hx rfl (hb hby d5_78) rfl (l' := #[.val (.ref r0), .val (.int (Int32.ofNat j)), .val (.int (Int32.ofNat cnt)), .val (.ref r3), .val (.ref r4), .val (.ref r5), .val (.int (En (Int32.ofNat j))), .val (.int (En (Int32.ofNat j)))]) rfl k_) ?_
        show own_Go _ _ _ _ (T0.setTop (mkF m 80 #[.val (.ref r0), .val (.int (Int32.ofNat j)), .val (.int (Int32.ofNat cnt)), .val (.ref r3), .val (.ref r4), .val (.ref r5), .val (.int (En (Int32.ofNat j))), .val (.int (En (Int32.ofNat j)))] []))
        refine own_go (fun t_ k_ => XS.aloadN A0.here hx rfl (hb hby d5_80) rfl rfl k_) ?_
        show own_Go _ _ _ _ (T0.setTop (mkF m 81 #[.val (.ref r0), .val (.int (Int32.ofNat j)), .val (.int (Int32.ofNat cnt)), .val (.ref r3), .val (.ref r4), .val (.ref r5), .val (.int (En (Int32.ofNat j))), .val (.int (En (Int32.ofNat j)))] [(.ref r0)]))
        refine own_go (fun t_ k_ => XS.iconst A0.here hx rfl (hb hby d5_81) k_) ?_
        show own_Go _ _ _ _ (T0.setTop (mkF m 82 #[.val (.ref r0), .val (.int (Int32.ofNat j)), .val (.int (Int32.ofNat cnt)), .val (.ref r3), .val (.ref r4), .val (.ref r5), .val (.int (En (Int32.ofNat j))), .val (.int (En (Int32.ofNat j)))] [(.int (2 : Int32)), (.ref r0)]))
        refine own_go (fun t_ k_ => XS.iloadN A0.here hx rfl (hb hby d5_82) rfl k_) ?_
        show own_Go _ _ _ _ (T0.setTop (mkF m 83 #[.val (.ref r0), .val (.int (Int32.ofNat j)), .val (.int (Int32.ofNat cnt)), .val (.ref r3), .val (.ref r4), .val (.ref r5), .val (.int (En (Int32.ofNat j))), .val (.int (En (Int32.ofNat j)))] [(.int (Int32.ofNat j)), (.int (2 : Int32)), (.ref r0)]))
        refine own_go (fun t_ k_ => XS.imul A0.here hx rfl (hb hby d5_83) rfl k_) ?_
        show own_Go _ _ _ _ (T0.setTop (mkF m 84 #[.val (.ref r0), .val (.int (Int32.ofNat j)), .val (.int (Int32.ofNat cnt)), .val (.ref r3), .val (.ref r4), .val (.ref r5), .val (.int (En (Int32.ofNat j))), .val (.int (En (Int32.ofNat j)))] [(.int ((2 : Int32) * (Int32.ofNat j))), (.ref r0)]))
        rw [own_dbl]
        show own_Go _ _ _ _ (T0.setTop (mkF m 84 #[.val (.ref r0), .val (.int (Int32.ofNat j)), .val (.int (Int32.ofNat cnt)), .val (.ref r3), .val (.ref r4), .val (.ref r5), .val (.int (En (Int32.ofNat j))), .val (.int (En (Int32.ofNat j)))] [(.int (Int32.ofNat (2 * j))), (.ref r0)]))
        refine own_ldI A0 hx hZ V0 ⟨own_nn (by omega), (own_nlt (by omega) (by omega)).mpr (by omega)⟩ rfl rfl (hb hby d5_84) ?_
        show own_Go _ _ _ _ (T0.setTop (mkF m 85 #[.val (.ref r0), .val (.int (Int32.ofNat j)), .val (.int (Int32.ofNat cnt)), .val (.ref r3), .val (.ref r4), .val (.ref r5), .val (.int (En (Int32.ofNat j))), .val (.int (En (Int32.ofNat j)))] [(.int (cb (Int32.ofNat (2 * j))))]))
        refine own_go (fun t_ k_ => XS.iload A0.here hx rfl (hb hby d5_85) rfl k_) ?_
        show own_Go _ _ _ _ (T0.setTop (mkF m 87 #[.val (.ref r0), .val (.int (Int32.ofNat j)), .val (.int (Int32.ofNat cnt)), .val (.ref r3), .val (.ref r4), .val (.ref r5), .val (.int (En (Int32.ofNat j))), .val (.int (En (Int32.ofNat j)))] [(.int (En (Int32.ofNat j))), (.int (cb (Int32.ofNat (2 * j))))]))
        have hc5 : (cb (Int32.ofNat (2 * j))) = (En (Int32.ofNat j)) := by rw [hH1, if_pos hc3]
        refine own_go (fun t_ k_ => XS.icmpNo A0.here hx rfl (hb hby d5_87) rfl (teq hc5).2 k_) ?_
        show own_Go _ _ _ _ (T0.setTop (mkF m 90 #[.val (.ref r0), .val (.int (Int32.ofNat j)), .val (.int (Int32.ofNat cnt)), .val (.ref r3), .val (.ref r4), .val (.ref r5), .val (.int (En (Int32.ofNat j))), .val (.int (En (Int32.ofNat j)))] []))
        refine own_go (fun t_ k_ => XS.aloadN A0.here hx rfl (hb hby d5_90) rfl rfl k_) ?_
        show own_Go _ _ _ _ (T0.setTop (mkF m 91 #[.val (.ref r0), .val (.int (Int32.ofNat j)), .val (.int (Int32.ofNat cnt)), .val (.ref r3), .val (.ref r4), .val (.ref r5), .val (.int (En (Int32.ofNat j))), .val (.int (En (Int32.ofNat j)))] [(.ref r0)]))
        refine own_go (fun t_ k_ => XS.iconst A0.here hx rfl (hb hby d5_91) k_) ?_
        show own_Go _ _ _ _ (T0.setTop (mkF m 92 #[.val (.ref r0), .val (.int (Int32.ofNat j)), .val (.int (Int32.ofNat cnt)), .val (.ref r3), .val (.ref r4), .val (.ref r5), .val (.int (En (Int32.ofNat j))), .val (.int (En (Int32.ofNat j)))] [(.int (2 : Int32)), (.ref r0)]))
        refine own_go (fun t_ k_ => XS.iloadN A0.here hx rfl (hb hby d5_92) rfl k_) ?_
        show own_Go _ _ _ _ (T0.setTop (mkF m 93 #[.val (.ref r0), .val (.int (Int32.ofNat j)), .val (.int (Int32.ofNat cnt)), .val (.ref r3), .val (.ref r4), .val (.ref r5), .val (.int (En (Int32.ofNat j))), .val (.int (En (Int32.ofNat j)))] [(.int (Int32.ofNat j)), (.int (2 : Int32)), (.ref r0)]))
        refine own_go (fun t_ k_ => XS.imul A0.here hx rfl (hb hby d5_93) rfl k_) ?_
        show own_Go _ _ _ _ (T0.setTop (mkF m 94 #[.val (.ref r0), .val (.int (Int32.ofNat j)), .val (.int (Int32.ofNat cnt)), .val (.ref r3), .val (.ref r4), .val (.ref r5), .val (.int (En (Int32.ofNat j))), .val (.int (En (Int32.ofNat j)))] [(.int ((2 : Int32) * (Int32.ofNat j))), (.ref r0)]))
        rw [own_dbl]
        show own_Go _ _ _ _ (T0.setTop (mkF m 94 #[.val (.ref r0), .val (.int (Int32.ofNat j)), .val (.int (Int32.ofNat cnt)), .val (.ref r3), .val (.ref r4), .val (.ref r5), .val (.int (En (Int32.ofNat j))), .val (.int (En (Int32.ofNat j)))] [(.int (Int32.ofNat (2 * j))), (.ref r0)]))
        refine own_go (fun t_ k_ => XS.iconst A0.here hx rfl (hb hby d5_94) k_) ?_
        show own_Go _ _ _ _ (T0.setTop (mkF m 95 #[.val (.ref r0), .val (.int (Int32.ofNat j)), .val (.int (Int32.ofNat cnt)), .val (.ref r3), .val (.ref r4), .val (.ref r5), .val (.int (En (Int32.ofNat j))), .val (.int (En (Int32.ofNat j)))] [(.int (1 : Int32)), (.int (Int32.ofNat (2 * j))), (.ref r0)]))
        refine own_go (fun t_ k_ => XS.iadd A0.here hx rfl (hb hby d5_95) rfl k_) ?_
        show own_Go _ _ _ _ (T0.setTop (mkF m 96 #[.val (.ref r0), .val (.int (Int32.ofNat j)), .val (.int (Int32.ofNat cnt)), .val (.ref r3), .val (.ref r4), .val (.ref r5), .val (.int (En (Int32.ofNat j))), .val (.int (En (Int32.ofNat j)))] [(.int ((Int32.ofNat (2 * j)) + (1 : Int32))), (.ref r0)]))
        rw [own_succ]
        show own_Go _ _ _ _ (T0.setTop (mkF m 96 #[.val (.ref r0), .val (.int (Int32.ofNat j)), .val (.int (Int32.ofNat cnt)), .val (.ref r3), .val (.ref r4), .val (.ref r5), .val (.int (En (Int32.ofNat j))), .val (.int (En (Int32.ofNat j)))] [(.int (Int32.ofNat (2 * j + 1))), (.ref r0)]))
        refine own_ldI A0 hx hZ V0 ⟨own_nn (by omega), (own_nlt (by omega) (by omega)).mpr (by omega)⟩ rfl rfl (hb hby d5_96) ?_
        show own_Go _ _ _ _ (T0.setTop (mkF m 97 #[.val (.ref r0), .val (.int (Int32.ofNat j)), .val (.int (Int32.ofNat cnt)), .val (.ref r3), .val (.ref r4), .val (.ref r5), .val (.int (En (Int32.ofNat j))), .val (.int (En (Int32.ofNat j)))] [(.int (cb (Int32.ofNat (2 * j + 1))))]))
        refine own_go (fun t_ k_ => XS.iload A0.here hx rfl (hb hby d5_97) rfl k_) ?_
        show own_Go _ _ _ _ (T0.setTop (mkF m 99 #[.val (.ref r0), .val (.int (Int32.ofNat j)), .val (.int (Int32.ofNat cnt)), .val (.ref r3), .val (.ref r4), .val (.ref r5), .val (.int (En (Int32.ofNat j))), .val (.int (En (Int32.ofNat j)))] [(.int (En (Int32.ofNat j))), (.int (cb (Int32.ofNat (2 * j + 1))))]))
        have hc6 : (cb (Int32.ofNat (2 * j + 1))) = (En (Int32.ofNat j)) := by rw [hH2, if_pos hc3]
        refine own_go (fun t_ k_ => XS.icmpNo A0.here hx rfl (hb hby d5_99) rfl (teq hc6).2 k_) ?_
        show own_Go _ _ _ _ (T0.setTop (mkF m 102 #[.val (.ref r0), .val (.int (Int32.ofNat j)), .val (.int (Int32.ofNat cnt)), .val (.ref r3), .val (.ref r4), .val (.ref r5), .val (.int (En (Int32.ofNat j))), .val (.int (En (Int32.ofNat j)))] []))
        refine own_go (fun t_ k_ => XS.iconst A0.here hx rfl (hb hby d5_102) k_) ?_
        show own_Go _ _ _ _ (T0.setTop (mkF m 103 #[.val (.ref r0), .val (.int (Int32.ofNat j)), .val (.int (Int32.ofNat cnt)), .val (.ref r3), .val (.ref r4), .val (.ref r5), .val (.int (En (Int32.ofNat j))), .val (.int (En (Int32.ofNat j)))] [(.int (1 : Int32))]))
        refine own_go (fun t_ k_ => XS.goto A0.here hx rfl (pc0 := 103) (pc' := 107) rfl (hb hby d5_103) (by decide) (by decide) k_) ?_
        show own_Go _ _ _ _ (T0.setTop (mkF m 107 #[.val (.ref r0), .val (.int (Int32.ofNat j)), .val (.int (Int32.ofNat cnt)), .val (.ref r3), .val (.ref r4), .val (.ref r5), .val (.int (En (Int32.ofNat j))), .val (.int (En (Int32.ofNat j)))] [(.int (1 : Int32))]))
        refine own_retN A0 hx (t := .boolean) hret (by simp) hlk (by decide) (by decide) (hb hby d5_107) ?_
        exact ⟨rfl, rfl⟩
      ·
        refine own_go (fun t_ k_ => XS.ifYes A0.here hx rfl (pc0 := 46) (pc' := 56) rfl (hb hby d5_46) rfl ((if0 _ _).trans (flt hc3).2.1) (by decide) (by decide) k_) ?_
        show own_Go _ _ _ _ (T0.setTop (mkF m 56 #[.val (.ref r0), .val (.int (Int32.ofNat j)), .val (.int (Int32.ofNat cnt)), .val (.ref r3), .val (.ref r4), .val (.ref r5), .unset, .unset] []))
        refine own_go (fun t_ k_ => XS.aloadN A0.here hx rfl (hb hby d5_56) rfl rfl k_) ?_
        show own_Go _ _ _ _ (T0.setTop (mkF m 57 #[.val (.ref r0), .val (.int (Int32.ofNat j)), .val (.int (Int32.ofNat cnt)), .val (.ref r3), .val (.ref r4), .val (.ref r5), .unset, .unset] [(.ref r3)]))
        refine own_go (fun t_ k_ => XS.iloadN A0.here hx rfl (hb hby d5_57) rfl k_) ?_
        show own_Go _ _ _ _ (T0.setTop (mkF m 58 #[.val (.ref r0), .val (.int (Int32.ofNat j)), .val (.int (Int32.ofNat cnt)), .val (.ref r3), .val (.ref r4), .val (.ref r5), .unset, .unset] [(.int (Int32.ofNat j)), (.ref r3)]))
        refine own_ldI A0 hx hZ V3 ⟨own_nn (by omega), (own_nlt (j := 6) (by omega) (by decide)).mpr hj6⟩ rfl rfl (hb hby d5_58) ?_
        show own_Go _ _ _ _ (T0.setTop (mkF m 59 #[.val (.ref r0), .val (.int (Int32.ofNat j)), .val (.int (Int32.ofNat cnt)), .val (.ref r3), .val (.ref r4), .val (.ref r5), .unset, .unset] [(.int (F (Int32.ofNat j)))]))
        refine own_go (fun t_ k_ => XS.istore A0.here hx rfl (hb hby d5_59) rfl (l' := #[.val (.ref r0), .val (.int (Int32.ofNat j)), .val (.int (Int32.ofNat cnt)), .val (.ref r3), .val (.ref r4), .val (.ref r5), .val (.int (F (Int32.ofNat j))), .unset]) rfl k_) ?_
        show own_Go _ _ _ _ (T0.setTop (mkF m 61 #[.val (.ref r0), .val (.int (Int32.ofNat j)), .val (.int (Int32.ofNat cnt)), .val (.ref r3), .val (.ref r4), .val (.ref r5), .val (.int (F (Int32.ofNat j))), .unset] []))
        refine own_go (fun t_ k_ => XS.aloadN A0.here hx rfl (hb hby d5_61) rfl rfl k_) ?_
        show own_Go _ _ _ _ (T0.setTop (mkF m 62 #[.val (.ref r0), .val (.int (Int32.ofNat j)), .val (.int (Int32.ofNat cnt)), .val (.ref r3), .val (.ref r4), .val (.ref r5), .val (.int (F (Int32.ofNat j))), .unset] [(.ref r3)]))
        refine own_go (fun t_ k_ => XS.iloadN A0.here hx rfl (hb hby d5_62) rfl k_) ?_
        show own_Go _ _ _ _ (T0.setTop (mkF m 63 #[.val (.ref r0), .val (.int (Int32.ofNat j)), .val (.int (Int32.ofNat cnt)), .val (.ref r3), .val (.ref r4), .val (.ref r5), .val (.int (F (Int32.ofNat j))), .unset] [(.int (Int32.ofNat j)), (.ref r3)]))
        refine own_ldI A0 hx hZ V3 ⟨own_nn (by omega), (own_nlt (j := 6) (by omega) (by decide)).mpr hj6⟩ rfl rfl (hb hby d5_63) ?_
        show own_Go _ _ _ _ (T0.setTop (mkF m 64 #[.val (.ref r0), .val (.int (Int32.ofNat j)), .val (.int (Int32.ofNat cnt)), .val (.ref r3), .val (.ref r4), .val (.ref r5), .val (.int (F (Int32.ofNat j))), .unset] [(.int (F (Int32.ofNat j)))]))
        have hc7 : ¬ ((F (Int32.ofNat j)) < (0 : Int32)) := hc3
        refine own_go (fun t_ k_ => XS.ifYes A0.here hx rfl (pc0 := 64) (pc' := 74) rfl (hb hby d5_64) rfl ((if0 _ _).trans (flt hc7).2.1) (by decide) (by decide) k_) ?_
        show own_Go _ _ _ _ (T0.setTop (mkF m 74 #[.val (.ref r0), .val (.int (Int32.ofNat j)), .val (.int (Int32.ofNat cnt)), .val (.ref r3), .val (.ref r4), .val (.ref r5), .val (.int (F (Int32.ofNat j))), .unset] []))
        refine own_go (fun t_ k_ => XS.aload A0.here hx rfl (hb hby d5_74) rfl rfl k_) ?_
        show own_Go _ _ _ _ (T0.setTop (mkF m 76 #[.val (.ref r0), .val (.int (Int32.ofNat j)), .val (.int (Int32.ofNat cnt)), .val (.ref r3), .val (.ref r4), .val (.ref r5), .val (.int (F (Int32.ofNat j))), .unset] [(.ref r4)]))
        refine own_go (fun t_ k_ => XS.iloadN A0.here hx rfl (hb hby d5_76) rfl k_) ?_
        show own_Go _ _ _ _ (T0.setTop (mkF m 77 #[.val (.ref r0), .val (.int (Int32.ofNat j)), .val (.int (Int32.ofNat cnt)), .val (.ref r3), .val (.ref r4), .val (.ref r5), .val (.int (F (Int32.ofNat j))), .unset] [(.int (Int32.ofNat j)), (.ref r4)]))
        refine own_ldI A0 hx hZ V4 ⟨own_nn (by omega), (own_nlt (j := 6) (by omega) (by decide)).mpr hj6⟩ rfl rfl (hb hby d5_77) ?_
        show own_Go _ _ _ _ (T0.setTop (mkF m 78 #[.val (.ref r0), .val (.int (Int32.ofNat j)), .val (.int (Int32.ofNat cnt)), .val (.ref r3), .val (.ref r4), .val (.ref r5), .val (.int (F (Int32.ofNat j))), .unset] [(.int (La (Int32.ofNat j)))]))
        refine own_go (fun t_ k_ => XS.istore A0.here hx rfl (hb hby d5_78) rfl (l' := #[.val (.ref r0), .val (.int (Int32.ofNat j)), .val (.int (Int32.ofNat cnt)), .val (.ref r3), .val (.ref r4), .val (.ref r5), .val (.int (F (Int32.ofNat j))), .val (.int (La (Int32.ofNat j)))]) rfl k_) ?_
        show own_Go _ _ _ _ (T0.setTop (mkF m 80 #[.val (.ref r0), .val (.int (Int32.ofNat j)), .val (.int (Int32.ofNat cnt)), .val (.ref r3), .val (.ref r4), .val (.ref r5), .val (.int (F (Int32.ofNat j))), .val (.int (La (Int32.ofNat j)))] []))
        refine own_go (fun t_ k_ => XS.aloadN A0.here hx rfl (hb hby d5_80) rfl rfl k_) ?_
        show own_Go _ _ _ _ (T0.setTop (mkF m 81 #[.val (.ref r0), .val (.int (Int32.ofNat j)), .val (.int (Int32.ofNat cnt)), .val (.ref r3), .val (.ref r4), .val (.ref r5), .val (.int (F (Int32.ofNat j))), .val (.int (La (Int32.ofNat j)))] [(.ref r0)]))
        refine own_go (fun t_ k_ => XS.iconst A0.here hx rfl (hb hby d5_81) k_) ?_
        show own_Go _ _ _ _ (T0.setTop (mkF m 82 #[.val (.ref r0), .val (.int (Int32.ofNat j)), .val (.int (Int32.ofNat cnt)), .val (.ref r3), .val (.ref r4), .val (.ref r5), .val (.int (F (Int32.ofNat j))), .val (.int (La (Int32.ofNat j)))] [(.int (2 : Int32)), (.ref r0)]))
        refine own_go (fun t_ k_ => XS.iloadN A0.here hx rfl (hb hby d5_82) rfl k_) ?_
        show own_Go _ _ _ _ (T0.setTop (mkF m 83 #[.val (.ref r0), .val (.int (Int32.ofNat j)), .val (.int (Int32.ofNat cnt)), .val (.ref r3), .val (.ref r4), .val (.ref r5), .val (.int (F (Int32.ofNat j))), .val (.int (La (Int32.ofNat j)))] [(.int (Int32.ofNat j)), (.int (2 : Int32)), (.ref r0)]))
        refine own_go (fun t_ k_ => XS.imul A0.here hx rfl (hb hby d5_83) rfl k_) ?_
        show own_Go _ _ _ _ (T0.setTop (mkF m 84 #[.val (.ref r0), .val (.int (Int32.ofNat j)), .val (.int (Int32.ofNat cnt)), .val (.ref r3), .val (.ref r4), .val (.ref r5), .val (.int (F (Int32.ofNat j))), .val (.int (La (Int32.ofNat j)))] [(.int ((2 : Int32) * (Int32.ofNat j))), (.ref r0)]))
        rw [own_dbl]
        show own_Go _ _ _ _ (T0.setTop (mkF m 84 #[.val (.ref r0), .val (.int (Int32.ofNat j)), .val (.int (Int32.ofNat cnt)), .val (.ref r3), .val (.ref r4), .val (.ref r5), .val (.int (F (Int32.ofNat j))), .val (.int (La (Int32.ofNat j)))] [(.int (Int32.ofNat (2 * j))), (.ref r0)]))
        refine own_ldI A0 hx hZ V0 ⟨own_nn (by omega), (own_nlt (by omega) (by omega)).mpr (by omega)⟩ rfl rfl (hb hby d5_84) ?_
        show own_Go _ _ _ _ (T0.setTop (mkF m 85 #[.val (.ref r0), .val (.int (Int32.ofNat j)), .val (.int (Int32.ofNat cnt)), .val (.ref r3), .val (.ref r4), .val (.ref r5), .val (.int (F (Int32.ofNat j))), .val (.int (La (Int32.ofNat j)))] [(.int (cb (Int32.ofNat (2 * j))))]))
        refine own_go (fun t_ k_ => XS.iload A0.here hx rfl (hb hby d5_85) rfl k_) ?_
        show own_Go _ _ _ _ (T0.setTop (mkF m 87 #[.val (.ref r0), .val (.int (Int32.ofNat j)), .val (.int (Int32.ofNat cnt)), .val (.ref r3), .val (.ref r4), .val (.ref r5), .val (.int (F (Int32.ofNat j))), .val (.int (La (Int32.ofNat j)))] [(.int (F (Int32.ofNat j))), (.int (cb (Int32.ofNat (2 * j))))]))
        have hc8 : (cb (Int32.ofNat (2 * j))) = (F (Int32.ofNat j)) := by rw [hH1, if_neg hc3]
        refine own_go (fun t_ k_ => XS.icmpNo A0.here hx rfl (hb hby d5_87) rfl (teq hc8).2 k_) ?_
        show own_Go _ _ _ _ (T0.setTop (mkF m 90 #[.val (.ref r0), .val (.int (Int32.ofNat j)), .val (.int (Int32.ofNat cnt)), .val (.ref r3), .val (.ref r4), .val (.ref r5), .val (.int (F (Int32.ofNat j))), .val (.int (La (Int32.ofNat j)))] []))
        refine own_go (fun t_ k_ => XS.aloadN A0.here hx rfl (hb hby d5_90) rfl rfl k_) ?_
        show own_Go _ _ _ _ (T0.setTop (mkF m 91 #[.val (.ref r0), .val (.int (Int32.ofNat j)), .val (.int (Int32.ofNat cnt)), .val (.ref r3), .val (.ref r4), .val (.ref r5), .val (.int (F (Int32.ofNat j))), .val (.int (La (Int32.ofNat j)))] [(.ref r0)]))
        refine own_go (fun t_ k_ => XS.iconst A0.here hx rfl (hb hby d5_91) k_) ?_
        show own_Go _ _ _ _ (T0.setTop (mkF m 92 #[.val (.ref r0), .val (.int (Int32.ofNat j)), .val (.int (Int32.ofNat cnt)), .val (.ref r3), .val (.ref r4), .val (.ref r5), .val (.int (F (Int32.ofNat j))), .val (.int (La (Int32.ofNat j)))] [(.int (2 : Int32)), (.ref r0)]))
        refine own_go (fun t_ k_ => XS.iloadN A0.here hx rfl (hb hby d5_92) rfl k_) ?_
        show own_Go _ _ _ _ (T0.setTop (mkF m 93 #[.val (.ref r0), .val (.int (Int32.ofNat j)), .val (.int (Int32.ofNat cnt)), .val (.ref r3), .val (.ref r4), .val (.ref r5), .val (.int (F (Int32.ofNat j))), .val (.int (La (Int32.ofNat j)))] [(.int (Int32.ofNat j)), (.int (2 : Int32)), (.ref r0)]))
        refine own_go (fun t_ k_ => XS.imul A0.here hx rfl (hb hby d5_93) rfl k_) ?_
        show own_Go _ _ _ _ (T0.setTop (mkF m 94 #[.val (.ref r0), .val (.int (Int32.ofNat j)), .val (.int (Int32.ofNat cnt)), .val (.ref r3), .val (.ref r4), .val (.ref r5), .val (.int (F (Int32.ofNat j))), .val (.int (La (Int32.ofNat j)))] [(.int ((2 : Int32) * (Int32.ofNat j))), (.ref r0)]))
        rw [own_dbl]
        show own_Go _ _ _ _ (T0.setTop (mkF m 94 #[.val (.ref r0), .val (.int (Int32.ofNat j)), .val (.int (Int32.ofNat cnt)), .val (.ref r3), .val (.ref r4), .val (.ref r5), .val (.int (F (Int32.ofNat j))), .val (.int (La (Int32.ofNat j)))] [(.int (Int32.ofNat (2 * j))), (.ref r0)]))
        refine own_go (fun t_ k_ => XS.iconst A0.here hx rfl (hb hby d5_94) k_) ?_
        show own_Go _ _ _ _ (T0.setTop (mkF m 95 #[.val (.ref r0), .val (.int (Int32.ofNat j)), .val (.int (Int32.ofNat cnt)), .val (.ref r3), .val (.ref r4), .val (.ref r5), .val (.int (F (Int32.ofNat j))), .val (.int (La (Int32.ofNat j)))] [(.int (1 : Int32)), (.int (Int32.ofNat (2 * j))), (.ref r0)]))
        refine own_go (fun t_ k_ => XS.iadd A0.here hx rfl (hb hby d5_95) rfl k_) ?_
        show own_Go _ _ _ _ (T0.setTop (mkF m 96 #[.val (.ref r0), .val (.int (Int32.ofNat j)), .val (.int (Int32.ofNat cnt)), .val (.ref r3), .val (.ref r4), .val (.ref r5), .val (.int (F (Int32.ofNat j))), .val (.int (La (Int32.ofNat j)))] [(.int ((Int32.ofNat (2 * j)) + (1 : Int32))), (.ref r0)]))
        rw [own_succ]
        show own_Go _ _ _ _ (T0.setTop (mkF m 96 #[.val (.ref r0), .val (.int (Int32.ofNat j)), .val (.int (Int32.ofNat cnt)), .val (.ref r3), .val (.ref r4), .val (.ref r5), .val (.int (F (Int32.ofNat j))), .val (.int (La (Int32.ofNat j)))] [(.int (Int32.ofNat (2 * j + 1))), (.ref r0)]))
        refine own_ldI A0 hx hZ V0 ⟨own_nn (by omega), (own_nlt (by omega) (by omega)).mpr (by omega)⟩ rfl rfl (hb hby d5_96) ?_
        show own_Go _ _ _ _ (T0.setTop (mkF m 97 #[.val (.ref r0), .val (.int (Int32.ofNat j)), .val (.int (Int32.ofNat cnt)), .val (.ref r3), .val (.ref r4), .val (.ref r5), .val (.int (F (Int32.ofNat j))), .val (.int (La (Int32.ofNat j)))] [(.int (cb (Int32.ofNat (2 * j + 1))))]))
        refine own_go (fun t_ k_ => XS.iload A0.here hx rfl (hb hby d5_97) rfl k_) ?_
        show own_Go _ _ _ _ (T0.setTop (mkF m 99 #[.val (.ref r0), .val (.int (Int32.ofNat j)), .val (.int (Int32.ofNat cnt)), .val (.ref r3), .val (.ref r4), .val (.ref r5), .val (.int (F (Int32.ofNat j))), .val (.int (La (Int32.ofNat j)))] [(.int (La (Int32.ofNat j))), (.int (cb (Int32.ofNat (2 * j + 1))))]))
        have hc9 : (cb (Int32.ofNat (2 * j + 1))) = (La (Int32.ofNat j)) := by rw [hH2, if_neg hc3]
        refine own_go (fun t_ k_ => XS.icmpNo A0.here hx rfl (hb hby d5_99) rfl (teq hc9).2 k_) ?_
        show own_Go _ _ _ _ (T0.setTop (mkF m 102 #[.val (.ref r0), .val (.int (Int32.ofNat j)), .val (.int (Int32.ofNat cnt)), .val (.ref r3), .val (.ref r4), .val (.ref r5), .val (.int (F (Int32.ofNat j))), .val (.int (La (Int32.ofNat j)))] []))
        refine own_go (fun t_ k_ => XS.iconst A0.here hx rfl (hb hby d5_102) k_) ?_
        show own_Go _ _ _ _ (T0.setTop (mkF m 103 #[.val (.ref r0), .val (.int (Int32.ofNat j)), .val (.int (Int32.ofNat cnt)), .val (.ref r3), .val (.ref r4), .val (.ref r5), .val (.int (F (Int32.ofNat j))), .val (.int (La (Int32.ofNat j)))] [(.int (1 : Int32))]))
        refine own_go (fun t_ k_ => XS.goto A0.here hx rfl (pc0 := 103) (pc' := 107) rfl (hb hby d5_103) (by decide) (by decide) k_) ?_
        show own_Go _ _ _ _ (T0.setTop (mkF m 107 #[.val (.ref r0), .val (.int (Int32.ofNat j)), .val (.int (Int32.ofNat cnt)), .val (.ref r3), .val (.ref r4), .val (.ref r5), .val (.int (F (Int32.ofNat j))), .val (.int (La (Int32.ofNat j)))] [(.int (1 : Int32))]))
        refine own_retN A0 hx (t := .boolean) hret (by simp) hlk (by decide) (by decide) (hb hby d5_107) ?_
        exact ⟨rfl, rfl⟩
    ·
      refine own_go (fun t_ k_ => XS.icmpNo A0.here hx rfl (hb hby d5_12) rfl (flt hc2).1 k_) ?_
      show own_Go _ _ _ _ (T0.setTop (mkF m 15 #[.val (.ref r0), .val (.int (Int32.ofNat j)), .val (.int (Int32.ofNat cnt)), .val (.ref r3), .val (.ref r4), .val (.ref r5), .unset, .unset] []))
      have hH := (H hjq).1 (by have := own_nge (by omega) (by omega) hc2; omega)
      refine own_go (fun t_ k_ => XS.aloadN A0.here hx rfl (hb hby d5_15) rfl rfl k_) ?_
      show own_Go _ _ _ _ (T0.setTop (mkF m 16 #[.val (.ref r0), .val (.int (Int32.ofNat j)), .val (.int (Int32.ofNat cnt)), .val (.ref r3), .val (.ref r4), .val (.ref r5), .unset, .unset] [(.ref r0)]))
      refine own_go (fun t_ k_ => XS.iconst A0.here hx rfl (hb hby d5_16) k_) ?_
      show own_Go _ _ _ _ (T0.setTop (mkF m 17 #[.val (.ref r0), .val (.int (Int32.ofNat j)), .val (.int (Int32.ofNat cnt)), .val (.ref r3), .val (.ref r4), .val (.ref r5), .unset, .unset] [(.int (2 : Int32)), (.ref r0)]))
      refine own_go (fun t_ k_ => XS.iloadN A0.here hx rfl (hb hby d5_17) rfl k_) ?_
      show own_Go _ _ _ _ (T0.setTop (mkF m 18 #[.val (.ref r0), .val (.int (Int32.ofNat j)), .val (.int (Int32.ofNat cnt)), .val (.ref r3), .val (.ref r4), .val (.ref r5), .unset, .unset] [(.int (Int32.ofNat j)), (.int (2 : Int32)), (.ref r0)]))
      refine own_go (fun t_ k_ => XS.imul A0.here hx rfl (hb hby d5_18) rfl k_) ?_
      show own_Go _ _ _ _ (T0.setTop (mkF m 19 #[.val (.ref r0), .val (.int (Int32.ofNat j)), .val (.int (Int32.ofNat cnt)), .val (.ref r3), .val (.ref r4), .val (.ref r5), .unset, .unset] [(.int ((2 : Int32) * (Int32.ofNat j))), (.ref r0)]))
      rw [own_dbl]
      show own_Go _ _ _ _ (T0.setTop (mkF m 19 #[.val (.ref r0), .val (.int (Int32.ofNat j)), .val (.int (Int32.ofNat cnt)), .val (.ref r3), .val (.ref r4), .val (.ref r5), .unset, .unset] [(.int (Int32.ofNat (2 * j))), (.ref r0)]))
      refine own_ldI A0 hx hZ V0 ⟨own_nn (by omega), (own_nlt (by omega) (by omega)).mpr (by omega)⟩ rfl rfl (hb hby d5_19) ?_
      show own_Go _ _ _ _ (T0.setTop (mkF m 20 #[.val (.ref r0), .val (.int (Int32.ofNat j)), .val (.int (Int32.ofNat cnt)), .val (.ref r3), .val (.ref r4), .val (.ref r5), .unset, .unset] [(.int (cb (Int32.ofNat (2 * j))))]))
      refine own_go (fun t_ k_ => XS.bipush A0.here hx rfl (hb hby d5_20) k_) ?_
      show own_Go _ _ _ _ (T0.setTop (mkF m 22 #[.val (.ref r0), .val (.int (Int32.ofNat j)), .val (.int (Int32.ofNat cnt)), .val (.ref r3), .val (.ref r4), .val (.ref r5), .unset, .unset] [(.int (-7 : Int32)), (.int (cb (Int32.ofNat (2 * j))))]))
      have hc10 : (cb (Int32.ofNat (2 * j))) = (-7 : Int32) := hH.1
      refine own_go (fun t_ k_ => XS.icmpNo A0.here hx rfl (hb hby d5_22) rfl (teq hc10).2 k_) ?_
      show own_Go _ _ _ _ (T0.setTop (mkF m 25 #[.val (.ref r0), .val (.int (Int32.ofNat j)), .val (.int (Int32.ofNat cnt)), .val (.ref r3), .val (.ref r4), .val (.ref r5), .unset, .unset] []))
      refine own_go (fun t_ k_ => XS.aloadN A0.here hx rfl (hb hby d5_25) rfl rfl k_) ?_
      show own_Go _ _ _ _ (T0.setTop (mkF m 26 #[.val (.ref r0), .val (.int (Int32.ofNat j)), .val (.int (Int32.ofNat cnt)), .val (.ref r3), .val (.ref r4), .val (.ref r5), .unset, .unset] [(.ref r0)]))
      refine own_go (fun t_ k_ => XS.iconst A0.here hx rfl (hb hby d5_26) k_) ?_
      show own_Go _ _ _ _ (T0.setTop (mkF m 27 #[.val (.ref r0), .val (.int (Int32.ofNat j)), .val (.int (Int32.ofNat cnt)), .val (.ref r3), .val (.ref r4), .val (.ref r5), .unset, .unset] [(.int (2 : Int32)), (.ref r0)]))
      refine own_go (fun t_ k_ => XS.iloadN A0.here hx rfl (hb hby d5_27) rfl k_) ?_
      show own_Go _ _ _ _ (T0.setTop (mkF m 28 #[.val (.ref r0), .val (.int (Int32.ofNat j)), .val (.int (Int32.ofNat cnt)), .val (.ref r3), .val (.ref r4), .val (.ref r5), .unset, .unset] [(.int (Int32.ofNat j)), (.int (2 : Int32)), (.ref r0)]))
      refine own_go (fun t_ k_ => XS.imul A0.here hx rfl (hb hby d5_28) rfl k_) ?_
      show own_Go _ _ _ _ (T0.setTop (mkF m 29 #[.val (.ref r0), .val (.int (Int32.ofNat j)), .val (.int (Int32.ofNat cnt)), .val (.ref r3), .val (.ref r4), .val (.ref r5), .unset, .unset] [(.int ((2 : Int32) * (Int32.ofNat j))), (.ref r0)]))
      rw [own_dbl]
      show own_Go _ _ _ _ (T0.setTop (mkF m 29 #[.val (.ref r0), .val (.int (Int32.ofNat j)), .val (.int (Int32.ofNat cnt)), .val (.ref r3), .val (.ref r4), .val (.ref r5), .unset, .unset] [(.int (Int32.ofNat (2 * j))), (.ref r0)]))
      refine own_go (fun t_ k_ => XS.iconst A0.here hx rfl (hb hby d5_29) k_) ?_
      show own_Go _ _ _ _ (T0.setTop (mkF m 30 #[.val (.ref r0), .val (.int (Int32.ofNat j)), .val (.int (Int32.ofNat cnt)), .val (.ref r3), .val (.ref r4), .val (.ref r5), .unset, .unset] [(.int (1 : Int32)), (.int (Int32.ofNat (2 * j))), (.ref r0)]))
      refine own_go (fun t_ k_ => XS.iadd A0.here hx rfl (hb hby d5_30) rfl k_) ?_
      show own_Go _ _ _ _ (T0.setTop (mkF m 31 #[.val (.ref r0), .val (.int (Int32.ofNat j)), .val (.int (Int32.ofNat cnt)), .val (.ref r3), .val (.ref r4), .val (.ref r5), .unset, .unset] [(.int ((Int32.ofNat (2 * j)) + (1 : Int32))), (.ref r0)]))
      rw [own_succ]
      show own_Go _ _ _ _ (T0.setTop (mkF m 31 #[.val (.ref r0), .val (.int (Int32.ofNat j)), .val (.int (Int32.ofNat cnt)), .val (.ref r3), .val (.ref r4), .val (.ref r5), .unset, .unset] [(.int (Int32.ofNat (2 * j + 1))), (.ref r0)]))
      refine own_ldI A0 hx hZ V0 ⟨own_nn (by omega), (own_nlt (by omega) (by omega)).mpr (by omega)⟩ rfl rfl (hb hby d5_31) ?_
      show own_Go _ _ _ _ (T0.setTop (mkF m 32 #[.val (.ref r0), .val (.int (Int32.ofNat j)), .val (.int (Int32.ofNat cnt)), .val (.ref r3), .val (.ref r4), .val (.ref r5), .unset, .unset] [(.int (cb (Int32.ofNat (2 * j + 1))))]))
      refine own_go (fun t_ k_ => XS.bipush A0.here hx rfl (hb hby d5_32) k_) ?_
      show own_Go _ _ _ _ (T0.setTop (mkF m 34 #[.val (.ref r0), .val (.int (Int32.ofNat j)), .val (.int (Int32.ofNat cnt)), .val (.ref r3), .val (.ref r4), .val (.ref r5), .unset, .unset] [(.int (-7 : Int32)), (.int (cb (Int32.ofNat (2 * j + 1))))]))
      have hc11 : (cb (Int32.ofNat (2 * j + 1))) = (-7 : Int32) := hH.2
      refine own_go (fun t_ k_ => XS.icmpNo A0.here hx rfl (hb hby d5_34) rfl (teq hc11).2 k_) ?_
      show own_Go _ _ _ _ (T0.setTop (mkF m 37 #[.val (.ref r0), .val (.int (Int32.ofNat j)), .val (.int (Int32.ofNat cnt)), .val (.ref r3), .val (.ref r4), .val (.ref r5), .unset, .unset] []))
      refine own_go (fun t_ k_ => XS.iconst A0.here hx rfl (hb hby d5_37) k_) ?_
      show own_Go _ _ _ _ (T0.setTop (mkF m 38 #[.val (.ref r0), .val (.int (Int32.ofNat j)), .val (.int (Int32.ofNat cnt)), .val (.ref r3), .val (.ref r4), .val (.ref r5), .unset, .unset] [(.int (1 : Int32))]))
      refine own_go (fun t_ k_ => XS.goto A0.here hx rfl (pc0 := 38) (pc' := 42) rfl (hb hby d5_38) (by decide) (by decide) k_) ?_
      show own_Go _ _ _ _ (T0.setTop (mkF m 42 #[.val (.ref r0), .val (.int (Int32.ofNat j)), .val (.int (Int32.ofNat cnt)), .val (.ref r3), .val (.ref r4), .val (.ref r5), .unset, .unset] [(.int (1 : Int32))]))
      refine own_retN A0 hx (t := .boolean) hret (by simp) hlk (by decide) (by decide) (hb hby d5_42) ?_
      exact ⟨rfl, rfl⟩
  ·
    refine own_go (fun t_ k_ => XS.icmpNo A0.here hx rfl (hb hby d5_5) rfl (flt hc1).1 k_) ?_
    show own_Go _ _ _ _ (T0.setTop (mkF m 8 #[.val (.ref r0), .val (.int (Int32.ofNat j)), .val (.int (Int32.ofNat cnt)), .val (.ref r3), .val (.ref r4), .val (.ref r5), .unset, .unset] []))
    refine own_go (fun t_ k_ => XS.iconst A0.here hx rfl (hb hby d5_8) k_) ?_
    show own_Go _ _ _ _ (T0.setTop (mkF m 9 #[.val (.ref r0), .val (.int (Int32.ofNat j)), .val (.int (Int32.ofNat cnt)), .val (.ref r3), .val (.ref r4), .val (.ref r5), .unset, .unset] [(.int (1 : Int32))]))
    refine own_retN A0 hx (t := .boolean) hret (by simp) hlk (by decide) (by decide) (hb hby d5_9) ?_
    exact ⟨rfl, rfl⟩
theorem ef_0 (m : MethodId) (p0 : Int32) (q1 : Int64) (p2 : Int32) (p3 : Int32) (p4 : Int32) : entryFrame m #[(.int p0), (.long q1), (.int p2), (.int p3), (.int p4)] maxLocals = mkF m 0 #[.val (.int p0), .val (.long q1), .second, .val (.int p2), .val (.int p3), .val (.int p4), .unset, .unset, .unset, .unset, .unset, .unset, .unset, .unset, .unset, .unset, .unset, .unset] [] := by first | (simp [entryFrame, mkF, argsToLocals, Value.category, maxLocals]; done) | rfl
theorem pd__IJI_B : parseMethodDescriptor "(IJI)B" = some ⟨[.int, .long, .int], some .byte⟩ := by decide +kernel
theorem pd___II_V : parseMethodDescriptor "([II)V" = some ⟨[(.array .int), .int], none⟩ := by decide +kernel
theorem pd___BIII_I_I_I_I_V : parseMethodDescriptor "([BIII[I[I[I[I)V" = some ⟨[(.array .byte), .int, .int, .int, (.array .int), (.array .int), (.array .int), (.array .int)], none⟩ := by decide +kernel
theorem pd___BII_I_I : parseMethodDescriptor "([BII[I)I" = some ⟨[(.array .byte), .int, .int, (.array .int)], some .int⟩ := by decide +kernel
theorem pd___III_I_I_I_Z : parseMethodDescriptor "([III[I[I[I)Z" = some ⟨[(.array .int), .int, .int, (.array .int), (.array .int), (.array .int)], some .boolean⟩ := by decide +kernel
set_option maxRecDepth 65536 in
set_option maxHeartbeats 40000000 in
theorem rm0 (l : Launch) (Z : State) (a0 : Array Value) (hw : ∀ d ∈ tables_1, d.before a0 Z = true) (p0 : Int32) (q1 : Int64) (p2 : Int32) (p3 : Int32) (p4 : Int32) (h0 : Heap) (n0 : Nat) (O0 : Old Z n0 h0) (Z0 : n0 ≤ h0.size) :
    own_Met l Z n0 x code maxLocals ret room_1 #[(.int p0), (.long q1), (.int p2), (.int p3), (.int p4)] h0 (fun v h => v = some (.int 1) ∧ True) := by
  refine own_met (plainFor_of_name pn_1) ?_
  intro p e s m below meth c T0 hx hby hml hown hnm hret hlk hZ A0
  have hret : meth.sig.returnType = some .boolean := hret
  rw [ef_0]
  show own_Go _ _ _ _ (T0.setTop (mkF m 0 #[.val (.int p0), .val (.long q1), .second, .val (.int p2), .val (.int p3), .val (.int p4), .unset, .unset, .unset, .unset, .unset, .unset, .unset, .unset, .unset, .unset, .unset, .unset] []))
  refine own_go (fun t_ k_ => XS.iconst A0.here hx rfl (hb hby at_0) k_) ?_
  show own_Go _ _ _ _ (T0.setTop (mkF m 1 #[.val (.int p0), .val (.long q1), .second, .val (.int p2), .val (.int p3), .val (.int p4), .unset, .unset, .unset, .unset, .unset, .unset, .unset, .unset, .unset, .unset, .unset, .unset] [(.int (5 : Int32))]))
  refine own_newP A0 hx hZ (hw _ (List.mem_of_getElem? (i := 0) rfl)) rfl rfl (hb hby at_1) rfl (by decide) 5 (by decide) (by decide) (by decide) (by decide) (fun T1 h3 b4 ha_b4 A2 E5 V6 R7 => ?_)
  have g_b4 : n0 ≤ b4 := by rw [ha_b4]; exact Z0
  have O8 : Old Z n0 h3 := O0.ext E5
  have Z9 : n0 ≤ h3.size := Nat.le_trans Z0 E5.1
  show own_Go _ _ _ _ (T1.setTop (mkF m 3 #[.val (.int p0), .val (.long q1), .second, .val (.int p2), .val (.int p3), .val (.int p4), .unset, .unset, .unset, .unset, .unset, .unset, .unset, .unset, .unset, .unset, .unset, .unset] [(.ref b4)]))
  refine own_go (fun t_ k_ => XS.astore A2.here hx rfl (hb hby at_3) rfl rfl (l' := #[.val (.int p0), .val (.long q1), .second, .val (.int p2), .val (.int p3), .val (.int p4), .val (.ref b4), .unset, .unset, .unset, .unset, .unset, .unset, .unset, .unset, .unset, .unset, .unset]) rfl k_) ?_
  show own_Go _ _ _ _ (T1.setTop (mkF m 5 #[.val (.int p0), .val (.long q1), .second, .val (.int p2), .val (.int p3), .val (.int p4), .val (.ref b4), .unset, .unset, .unset, .unset, .unset, .unset, .unset, .unset, .unset, .unset, .unset] []))
  refine own_go (fun t_ k_ => XS.aload A2.here hx rfl (hb hby at_5) rfl rfl k_) ?_
  show own_Go _ _ _ _ (T1.setTop (mkF m 7 #[.val (.int p0), .val (.long q1), .second, .val (.int p2), .val (.int p3), .val (.int p4), .val (.ref b4), .unset, .unset, .unset, .unset, .unset, .unset, .unset, .unset, .unset, .unset, .unset] [(.ref b4)]))
  refine own_go (fun t_ k_ => XS.iconst A2.here hx rfl (hb hby at_7) k_) ?_
  show own_Go _ _ _ _ (T1.setTop (mkF m 8 #[.val (.int p0), .val (.long q1), .second, .val (.int p2), .val (.int p3), .val (.int p4), .val (.ref b4), .unset, .unset, .unset, .unset, .unset, .unset, .unset, .unset, .unset, .unset, .unset] [(.int (0 : Int32)), (.ref b4)]))
  refine own_go (fun t_ k_ => XS.iloadN A2.here hx rfl (hb hby at_8) rfl k_) ?_
  show own_Go _ _ _ _ (T1.setTop (mkF m 9 #[.val (.int p0), .val (.long q1), .second, .val (.int p2), .val (.int p3), .val (.int p4), .val (.ref b4), .unset, .unset, .unset, .unset, .unset, .unset, .unset, .unset, .unset, .unset, .unset] [(.int p0), (.int (0 : Int32)), (.ref b4)]))
  refine own_go (fun t_ k_ => XS.lloadN A2.here hx rfl (hb hby at_9) rfl k_) ?_
  show own_Go _ _ _ _ (T1.setTop (mkF m 10 #[.val (.int p0), .val (.long q1), .second, .val (.int p2), .val (.int p3), .val (.int p4), .val (.ref b4), .unset, .unset, .unset, .unset, .unset, .unset, .unset, .unset, .unset, .unset, .unset] [(.long q1), (.int p0), (.int (0 : Int32)), (.ref b4)]))
  refine own_go (fun t_ k_ => XS.iconst A2.here hx rfl (hb hby at_10) k_) ?_
  show own_Go _ _ _ _ (T1.setTop (mkF m 11 #[.val (.int p0), .val (.long q1), .second, .val (.int p2), .val (.int p3), .val (.int p4), .val (.ref b4), .unset, .unset, .unset, .unset, .unset, .unset, .unset, .unset, .unset, .unset, .unset] [(.int (0 : Int32)), (.long q1), (.int p0), (.int (0 : Int32)), (.ref b4)]))
  refine own_callS A2 hx hZ hown (y := (⟨"com/example/indexloom/indexloom/data/DataHeaderSplitPinLaw", "pick", "(IJI)B"⟩ : MethodName)) (hw _ (List.mem_of_getElem? (i := 1) rfl)) (hw _ (List.mem_of_getElem? (i := 2) rfl)) (hw _ (List.mem_of_getElem? (i := 3) rfl)) (hw _ (List.mem_of_getElem? (i := 4) rfl)) (by decide) (argsL := [(.int p0), (.long q1), (.int (0 : Int32))]) (rest := [(.int (0 : Int32)), (.ref b4)]) (rm1 l Z a0 hw p0 q1 (0 : Int32) h3 n0 ) 2 (by decide) (by decide) rfl (by rw [hml]; rfl) (lenOf pd__IJI_B rfl) rfl (by show 2 * 0 + _ ≤ _; exact Nat.le_of_eq rfl) (hb hby at_11) (by decide) (by decide) (fun v13 T10 h12 A11 hQ14 => ?_)
  obtain ⟨rfl, rfl⟩ := hQ14
  show own_Go _ _ _ _ (T10.setTop (mkF m 14 #[.val (.int p0), .val (.long q1), .second, .val (.int p2), .val (.int p3), .val (.int p4), .val (.ref b4), .unset, .unset, .unset, .unset, .unset, .unset, .unset, .unset, .unset, .unset, .unset] [(.int (f1 p0 q1 (0 : Int32))), (.int (0 : Int32)), (.ref b4)]))
  refine own_stB A11 hx hZ V6 ⟨by decide, by decide⟩ g_b4 rfl rfl (hb hby at_14) (fun T15 h17 A16 W18 V19 => ?_)
  have O20 : Old Z n0 h17 := O8.wr W18 g_b4
  have Z21 : n0 ≤ h17.size := Nat.le_trans Z9 (Nat.le_of_eq (Wr.size W18).symm)
  have V22 : own_Arr Z h17 b4 .byte (5 : Int32) (fun i => if i = (0 : Int32) then nar .byte (f1 p0 q1 (0 : Int32)) else (fun _ => 0) i) := V19
  show own_Go _ _ _ _ (T15.setTop (mkF m 15 #[.val (.int p0), .val (.long q1), .second, .val (.int p2), .val (.int p3), .val (.int p4), .val (.ref b4), .unset, .unset, .unset, .unset, .unset, .unset, .unset, .unset, .unset, .unset, .unset] []))
  refine own_go (fun t_ k_ => XS.aload A16.here hx rfl (hb hby at_15) rfl rfl k_) ?_
  show own_Go _ _ _ _ (T15.setTop (mkF m 17 #[.val (.int p0), .val (.long q1), .second, .val (.int p2), .val (.int p3), .val (.int p4), .val (.ref b4), .unset, .unset, .unset, .unset, .unset, .unset, .unset, .unset, .unset, .unset, .unset] [(.ref b4)]))
  refine own_go (fun t_ k_ => XS.iconst A16.here hx rfl (hb hby at_17) k_) ?_
  show own_Go _ _ _ _ (T15.setTop (mkF m 18 #[.val (.int p0), .val (.long q1), .second, .val (.int p2), .val (.int p3), .val (.int p4), .val (.ref b4), .unset, .unset, .unset, .unset, .unset, .unset, .unset, .unset, .unset, .unset, .unset] [(.int (1 : Int32)), (.ref b4)]))
  refine own_go (fun t_ k_ => XS.iloadN A16.here hx rfl (hb hby at_18) rfl k_) ?_
  show own_Go _ _ _ _ (T15.setTop (mkF m 19 #[.val (.int p0), .val (.long q1), .second, .val (.int p2), .val (.int p3), .val (.int p4), .val (.ref b4), .unset, .unset, .unset, .unset, .unset, .unset, .unset, .unset, .unset, .unset, .unset] [(.int p0), (.int (1 : Int32)), (.ref b4)]))
  refine own_go (fun t_ k_ => XS.lloadN A16.here hx rfl (hb hby at_19) rfl k_) ?_
  show own_Go _ _ _ _ (T15.setTop (mkF m 20 #[.val (.int p0), .val (.long q1), .second, .val (.int p2), .val (.int p3), .val (.int p4), .val (.ref b4), .unset, .unset, .unset, .unset, .unset, .unset, .unset, .unset, .unset, .unset, .unset] [(.long q1), (.int p0), (.int (1 : Int32)), (.ref b4)]))
  refine own_go (fun t_ k_ => XS.iconst A16.here hx rfl (hb hby at_20) k_) ?_
  show own_Go _ _ _ _ (T15.setTop (mkF m 21 #[.val (.int p0), .val (.long q1), .second, .val (.int p2), .val (.int p3), .val (.int p4), .val (.ref b4), .unset, .unset, .unset, .unset, .unset, .unset, .unset, .unset, .unset, .unset, .unset] [(.int (1 : Int32)), (.long q1), (.int p0), (.int (1 : Int32)), (.ref b4)]))
  refine own_callS A16 hx hZ hown (y := (⟨"com/example/indexloom/indexloom/data/DataHeaderSplitPinLaw", "pick", "(IJI)B"⟩ : MethodName)) (hw _ (List.mem_of_getElem? (i := 1) rfl)) (hw _ (List.mem_of_getElem? (i := 2) rfl)) (hw _ (List.mem_of_getElem? (i := 3) rfl)) (hw _ (List.mem_of_getElem? (i := 4) rfl)) (by decide) (argsL := [(.int p0), (.long q1), (.int (1 : Int32))]) (rest := [(.int (1 : Int32)), (.ref b4)]) (rm1 l Z a0 hw p0 q1 (1 : Int32) h17 n0 ) 2 (by decide) (by decide) rfl (by rw [hml]; rfl) (lenOf pd__IJI_B rfl) rfl (by show 2 * 0 + _ ≤ _; exact Nat.le_of_eq rfl) (hb hby at_21) (by decide) (by decide) (fun v26 T23 h25 A24 hQ27 => ?_)
  obtain ⟨rfl, rfl⟩ := hQ27
  show own_Go _ _ _ _ (T23.setTop (mkF m 24 #[.val (.int p0), .val (.long q1), .second, .val (.int p2), .val (.int p3), .val (.int p4), .val (.ref b4), .unset, .unset, .unset, .unset, .unset, .unset, .unset, .unset, .unset, .unset, .unset] [(.int (f1 p0 q1 (1 : Int32))), (.int (1 : Int32)), (.ref b4)]))
  refine own_stB A24 hx hZ V22 ⟨by decide, by decide⟩ g_b4 rfl rfl (hb hby at_24) (fun T28 h30 A29 W31 V32 => ?_)
  have O33 : Old Z n0 h30 := O20.wr W31 g_b4
  have Z34 : n0 ≤ h30.size := Nat.le_trans Z21 (Nat.le_of_eq (Wr.size W31).symm)
  have V35 : own_Arr Z h30 b4 .byte (5 : Int32) (fun i => if i = (1 : Int32) then nar .byte (f1 p0 q1 (1 : Int32)) else (fun i => if i = (0 : Int32) then nar .byte (f1 p0 q1 (0 : Int32)) else (fun _ => 0) i) i) := V32
  show own_Go _ _ _ _ (T28.setTop (mkF m 25 #[.val (.int p0), .val (.long q1), .second, .val (.int p2), .val (.int p3), .val (.int p4), .val (.ref b4), .unset, .unset, .unset, .unset, .unset, .unset, .unset, .unset, .unset, .unset, .unset] []))
  refine own_go (fun t_ k_ => XS.aload A29.here hx rfl (hb hby at_25) rfl rfl k_) ?_
  show own_Go _ _ _ _ (T28.setTop (mkF m 27 #[.val (.int p0), .val (.long q1), .second, .val (.int p2), .val (.int p3), .val (.int p4), .val (.ref b4), .unset, .unset, .unset, .unset, .unset, .unset, .unset, .unset, .unset, .unset, .unset] [(.ref b4)]))
  refine own_go (fun t_ k_ => XS.iconst A29.here hx rfl (hb hby at_27) k_) ?_
  show own_Go _ _ _ _ (T28.setTop (mkF m 28 #[.val (.int p0), .val (.long q1), .second, .val (.int p2), .val (.int p3), .val (.int p4), .val (.ref b4), .unset, .unset, .unset, .unset, .unset, .unset, .unset, .unset, .unset, .unset, .unset] [(.int (2 : Int32)), (.ref b4)]))
  refine own_go (fun t_ k_ => XS.iloadN A29.here hx rfl (hb hby at_28) rfl k_) ?_
  show own_Go _ _ _ _ (T28.setTop (mkF m 29 #[.val (.int p0), .val (.long q1), .second, .val (.int p2), .val (.int p3), .val (.int p4), .val (.ref b4), .unset, .unset, .unset, .unset, .unset, .unset, .unset, .unset, .unset, .unset, .unset] [(.int p0), (.int (2 : Int32)), (.ref b4)]))
  refine own_go (fun t_ k_ => XS.lloadN A29.here hx rfl (hb hby at_29) rfl k_) ?_
  show own_Go _ _ _ _ (T28.setTop (mkF m 30 #[.val (.int p0), .val (.long q1), .second, .val (.int p2), .val (.int p3), .val (.int p4), .val (.ref b4), .unset, .unset, .unset, .unset, .unset, .unset, .unset, .unset, .unset, .unset, .unset] [(.long q1), (.int p0), (.int (2 : Int32)), (.ref b4)]))
  refine own_go (fun t_ k_ => XS.iconst A29.here hx rfl (hb hby at_30) k_) ?_
  show own_Go _ _ _ _ (T28.setTop (mkF m 31 #[.val (.int p0), .val (.long q1), .second, .val (.int p2), .val (.int p3), .val (.int p4), .val (.ref b4), .unset, .unset, .unset, .unset, .unset, .unset, .unset, .unset, .unset, .unset, .unset] [(.int (2 : Int32)), (.long q1), (.int p0), (.int (2 : Int32)), (.ref b4)]))
  refine own_callS A29 hx hZ hown (y := (⟨"com/example/indexloom/indexloom/data/DataHeaderSplitPinLaw", "pick", "(IJI)B"⟩ : MethodName)) (hw _ (List.mem_of_getElem? (i := 1) rfl)) (hw _ (List.mem_of_getElem? (i := 2) rfl)) (hw _ (List.mem_of_getElem? (i := 3) rfl)) (hw _ (List.mem_of_getElem? (i := 4) rfl)) (by decide) (argsL := [(.int p0), (.long q1), (.int (2 : Int32))]) (rest := [(.int (2 : Int32)), (.ref b4)]) (rm1 l Z a0 hw p0 q1 (2 : Int32) h30 n0 ) 2 (by decide) (by decide) rfl (by rw [hml]; rfl) (lenOf pd__IJI_B rfl) rfl (by show 2 * 0 + _ ≤ _; exact Nat.le_of_eq rfl) (hb hby at_31) (by decide) (by decide) (fun v39 T36 h38 A37 hQ40 => ?_)
  obtain ⟨rfl, rfl⟩ := hQ40
  show own_Go _ _ _ _ (T36.setTop (mkF m 34 #[.val (.int p0), .val (.long q1), .second, .val (.int p2), .val (.int p3), .val (.int p4), .val (.ref b4), .unset, .unset, .unset, .unset, .unset, .unset, .unset, .unset, .unset, .unset, .unset] [(.int (f1 p0 q1 (2 : Int32))), (.int (2 : Int32)), (.ref b4)]))
  refine own_stB A37 hx hZ V35 ⟨by decide, by decide⟩ g_b4 rfl rfl (hb hby at_34) (fun T41 h43 A42 W44 V45 => ?_)
  have O46 : Old Z n0 h43 := O33.wr W44 g_b4
  have Z47 : n0 ≤ h43.size := Nat.le_trans Z34 (Nat.le_of_eq (Wr.size W44).symm)
  have V48 : own_Arr Z h43 b4 .byte (5 : Int32) (fun i => if i = (2 : Int32) then nar .byte (f1 p0 q1 (2 : Int32)) else (fun i => if i = (1 : Int32) then nar .byte (f1 p0 q1 (1 : Int32)) else (fun i => if i = (0 : Int32) then nar .byte (f1 p0 q1 (0 : Int32)) else (fun _ => 0) i) i) i) := V45
  show own_Go _ _ _ _ (T41.setTop (mkF m 35 #[.val (.int p0), .val (.long q1), .second, .val (.int p2), .val (.int p3), .val (.int p4), .val (.ref b4), .unset, .unset, .unset, .unset, .unset, .unset, .unset, .unset, .unset, .unset, .unset] []))
  refine own_go (fun t_ k_ => XS.aload A42.here hx rfl (hb hby at_35) rfl rfl k_) ?_
  show own_Go _ _ _ _ (T41.setTop (mkF m 37 #[.val (.int p0), .val (.long q1), .second, .val (.int p2), .val (.int p3), .val (.int p4), .val (.ref b4), .unset, .unset, .unset, .unset, .unset, .unset, .unset, .unset, .unset, .unset, .unset] [(.ref b4)]))
  refine own_go (fun t_ k_ => XS.iconst A42.here hx rfl (hb hby at_37) k_) ?_
  show own_Go _ _ _ _ (T41.setTop (mkF m 38 #[.val (.int p0), .val (.long q1), .second, .val (.int p2), .val (.int p3), .val (.int p4), .val (.ref b4), .unset, .unset, .unset, .unset, .unset, .unset, .unset, .unset, .unset, .unset, .unset] [(.int (3 : Int32)), (.ref b4)]))
  refine own_go (fun t_ k_ => XS.iloadN A42.here hx rfl (hb hby at_38) rfl k_) ?_
  show own_Go _ _ _ _ (T41.setTop (mkF m 39 #[.val (.int p0), .val (.long q1), .second, .val (.int p2), .val (.int p3), .val (.int p4), .val (.ref b4), .unset, .unset, .unset, .unset, .unset, .unset, .unset, .unset, .unset, .unset, .unset] [(.int p0), (.int (3 : Int32)), (.ref b4)]))
  refine own_go (fun t_ k_ => XS.lloadN A42.here hx rfl (hb hby at_39) rfl k_) ?_
  show own_Go _ _ _ _ (T41.setTop (mkF m 40 #[.val (.int p0), .val (.long q1), .second, .val (.int p2), .val (.int p3), .val (.int p4), .val (.ref b4), .unset, .unset, .unset, .unset, .unset, .unset, .unset, .unset, .unset, .unset, .unset] [(.long q1), (.int p0), (.int (3 : Int32)), (.ref b4)]))
  refine own_go (fun t_ k_ => XS.iconst A42.here hx rfl (hb hby at_40) k_) ?_
  show own_Go _ _ _ _ (T41.setTop (mkF m 41 #[.val (.int p0), .val (.long q1), .second, .val (.int p2), .val (.int p3), .val (.int p4), .val (.ref b4), .unset, .unset, .unset, .unset, .unset, .unset, .unset, .unset, .unset, .unset, .unset] [(.int (3 : Int32)), (.long q1), (.int p0), (.int (3 : Int32)), (.ref b4)]))
  refine own_callS A42 hx hZ hown (y := (⟨"com/example/indexloom/indexloom/data/DataHeaderSplitPinLaw", "pick", "(IJI)B"⟩ : MethodName)) (hw _ (List.mem_of_getElem? (i := 1) rfl)) (hw _ (List.mem_of_getElem? (i := 2) rfl)) (hw _ (List.mem_of_getElem? (i := 3) rfl)) (hw _ (List.mem_of_getElem? (i := 4) rfl)) (by decide) (argsL := [(.int p0), (.long q1), (.int (3 : Int32))]) (rest := [(.int (3 : Int32)), (.ref b4)]) (rm1 l Z a0 hw p0 q1 (3 : Int32) h43 n0 ) 2 (by decide) (by decide) rfl (by rw [hml]; rfl) (lenOf pd__IJI_B rfl) rfl (by show 2 * 0 + _ ≤ _; exact Nat.le_of_eq rfl) (hb hby at_41) (by decide) (by decide) (fun v52 T49 h51 A50 hQ53 => ?_)
  obtain ⟨rfl, rfl⟩ := hQ53
  show own_Go _ _ _ _ (T49.setTop (mkF m 44 #[.val (.int p0), .val (.long q1), .second, .val (.int p2), .val (.int p3), .val (.int p4), .val (.ref b4), .unset, .unset, .unset, .unset, .unset, .unset, .unset, .unset, .unset, .unset, .unset] [(.int (f1 p0 q1 (3 : Int32))), (.int (3 : Int32)), (.ref b4)]))
  refine own_stB A50 hx hZ V48 ⟨by decide, by decide⟩ g_b4 rfl rfl (hb hby at_44) (fun T54 h56 A55 W57 V58 => ?_)
  have O59 : Old Z n0 h56 := O46.wr W57 g_b4
  have Z60 : n0 ≤ h56.size := Nat.le_trans Z47 (Nat.le_of_eq (Wr.size W57).symm)
  have V61 : own_Arr Z h56 b4 .byte (5 : Int32) (fun i => if i = (3 : Int32) then nar .byte (f1 p0 q1 (3 : Int32)) else (fun i => if i = (2 : Int32) then nar .byte (f1 p0 q1 (2 : Int32)) else (fun i => if i = (1 : Int32) then nar .byte (f1 p0 q1 (1 : Int32)) else (fun i => if i = (0 : Int32) then nar .byte (f1 p0 q1 (0 : Int32)) else (fun _ => 0) i) i) i) i) := V58
  show own_Go _ _ _ _ (T54.setTop (mkF m 45 #[.val (.int p0), .val (.long q1), .second, .val (.int p2), .val (.int p3), .val (.int p4), .val (.ref b4), .unset, .unset, .unset, .unset, .unset, .unset, .unset, .unset, .unset, .unset, .unset] []))
  refine own_go (fun t_ k_ => XS.aload A55.here hx rfl (hb hby at_45) rfl rfl k_) ?_
  show own_Go _ _ _ _ (T54.setTop (mkF m 47 #[.val (.int p0), .val (.long q1), .second, .val (.int p2), .val (.int p3), .val (.int p4), .val (.ref b4), .unset, .unset, .unset, .unset, .unset, .unset, .unset, .unset, .unset, .unset, .unset] [(.ref b4)]))
  refine own_go (fun t_ k_ => XS.iconst A55.here hx rfl (hb hby at_47) k_) ?_
  show own_Go _ _ _ _ (T54.setTop (mkF m 48 #[.val (.int p0), .val (.long q1), .second, .val (.int p2), .val (.int p3), .val (.int p4), .val (.ref b4), .unset, .unset, .unset, .unset, .unset, .unset, .unset, .unset, .unset, .unset, .unset] [(.int (4 : Int32)), (.ref b4)]))
  refine own_go (fun t_ k_ => XS.iloadN A55.here hx rfl (hb hby at_48) rfl k_) ?_
  show own_Go _ _ _ _ (T54.setTop (mkF m 49 #[.val (.int p0), .val (.long q1), .second, .val (.int p2), .val (.int p3), .val (.int p4), .val (.ref b4), .unset, .unset, .unset, .unset, .unset, .unset, .unset, .unset, .unset, .unset, .unset] [(.int p0), (.int (4 : Int32)), (.ref b4)]))
  refine own_go (fun t_ k_ => XS.lloadN A55.here hx rfl (hb hby at_49) rfl k_) ?_
  show own_Go _ _ _ _ (T54.setTop (mkF m 50 #[.val (.int p0), .val (.long q1), .second, .val (.int p2), .val (.int p3), .val (.int p4), .val (.ref b4), .unset, .unset, .unset, .unset, .unset, .unset, .unset, .unset, .unset, .unset, .unset] [(.long q1), (.int p0), (.int (4 : Int32)), (.ref b4)]))
  refine own_go (fun t_ k_ => XS.iconst A55.here hx rfl (hb hby at_50) k_) ?_
  show own_Go _ _ _ _ (T54.setTop (mkF m 51 #[.val (.int p0), .val (.long q1), .second, .val (.int p2), .val (.int p3), .val (.int p4), .val (.ref b4), .unset, .unset, .unset, .unset, .unset, .unset, .unset, .unset, .unset, .unset, .unset] [(.int (4 : Int32)), (.long q1), (.int p0), (.int (4 : Int32)), (.ref b4)]))
  refine own_callS A55 hx hZ hown (y := (⟨"com/example/indexloom/indexloom/data/DataHeaderSplitPinLaw", "pick", "(IJI)B"⟩ : MethodName)) (hw _ (List.mem_of_getElem? (i := 1) rfl)) (hw _ (List.mem_of_getElem? (i := 2) rfl)) (hw _ (List.mem_of_getElem? (i := 3) rfl)) (hw _ (List.mem_of_getElem? (i := 4) rfl)) (by decide) (argsL := [(.int p0), (.long q1), (.int (4 : Int32))]) (rest := [(.int (4 : Int32)), (.ref b4)]) (rm1 l Z a0 hw p0 q1 (4 : Int32) h56 n0 ) 2 (by decide) (by decide) rfl (by rw [hml]; rfl) (lenOf pd__IJI_B rfl) rfl (by show 2 * 0 + _ ≤ _; exact Nat.le_of_eq rfl) (hb hby at_51) (by decide) (by decide) (fun v65 T62 h64 A63 hQ66 => ?_)
  obtain ⟨rfl, rfl⟩ := hQ66
  show own_Go _ _ _ _ (T62.setTop (mkF m 54 #[.val (.int p0), .val (.long q1), .second, .val (.int p2), .val (.int p3), .val (.int p4), .val (.ref b4), .unset, .unset, .unset, .unset, .unset, .unset, .unset, .unset, .unset, .unset, .unset] [(.int (f1 p0 q1 (4 : Int32))), (.int (4 : Int32)), (.ref b4)]))
  refine own_stB A63 hx hZ V61 ⟨by decide, by decide⟩ g_b4 rfl rfl (hb hby at_54) (fun T67 h69 A68 W70 V71 => ?_)
  have O72 : Old Z n0 h69 := O59.wr W70 g_b4
  have Z73 : n0 ≤ h69.size := Nat.le_trans Z60 (Nat.le_of_eq (Wr.size W70).symm)
  have V74 : own_Arr Z h69 b4 .byte (5 : Int32) (fun i => if i = (4 : Int32) then nar .byte (f1 p0 q1 (4 : Int32)) else (fun i => if i = (3 : Int32) then nar .byte (f1 p0 q1 (3 : Int32)) else (fun i => if i = (2 : Int32) then nar .byte (f1 p0 q1 (2 : Int32)) else (fun i => if i = (1 : Int32) then nar .byte (f1 p0 q1 (1 : Int32)) else (fun i => if i = (0 : Int32) then nar .byte (f1 p0 q1 (0 : Int32)) else (fun _ => 0) i) i) i) i) i) := V71
  show own_Go _ _ _ _ (T67.setTop (mkF m 55 #[.val (.int p0), .val (.long q1), .second, .val (.int p2), .val (.int p3), .val (.int p4), .val (.ref b4), .unset, .unset, .unset, .unset, .unset, .unset, .unset, .unset, .unset, .unset, .unset] []))
  obtain ⟨fb, hfb⟩ : ∃ fb : Int32 → Int32, fb = (fun i => if i = (4 : Int32) then nar .byte (f1 p0 q1 (4 : Int32)) else (fun i => if i = (3 : Int32) then nar .byte (f1 p0 q1 (3 : Int32)) else (fun i => if i = (2 : Int32) then nar .byte (f1 p0 q1 (2 : Int32)) else (fun i => if i = (1 : Int32) then nar .byte (f1 p0 q1 (1 : Int32)) else (fun i => if i = (0 : Int32) then nar .byte (f1 p0 q1 (0 : Int32)) else (fun _ => 0) i) i) i) i) i) := ⟨_, rfl⟩
  rw [← hfb] at V74
  refine own_go (fun t_ k_ => XS.iloadN A68.here hx rfl (hb hby at_55) rfl k_) ?_
  show own_Go _ _ _ _ (T67.setTop (mkF m 56 #[.val (.int p0), .val (.long q1), .second, .val (.int p2), .val (.int p3), .val (.int p4), .val (.ref b4), .unset, .unset, .unset, .unset, .unset, .unset, .unset, .unset, .unset, .unset, .unset] [(.int p2)]))
  refine own_ldcI A68 hx hZ hown (hw _ (List.mem_of_getElem? (i := 5) rfl)) rfl (hb hby at_56) ?_
  show own_Go _ _ _ _ (T67.setTop (mkF m 58 #[.val (.int p0), .val (.long q1), .second, .val (.int p2), .val (.int p3), .val (.int p4), .val (.ref b4), .unset, .unset, .unset, .unset, .unset, .unset, .unset, .unset, .unset, .unset, .unset] [(.int (2147483647 : Int32)), (.int p2)]))
  refine own_go (fun t_ k_ => XS.iand A68.here hx rfl (hb hby at_58) rfl k_) ?_
  show own_Go _ _ _ _ (T67.setTop (mkF m 59 #[.val (.int p0), .val (.long q1), .second, .val (.int p2), .val (.int p3), .val (.int p4), .val (.ref b4), .unset, .unset, .unset, .unset, .unset, .unset, .unset, .unset, .unset, .unset, .unset] [(.int (p2 &&& (2147483647 : Int32)))]))
  refine own_go (fun t_ k_ => XS.bipush A68.here hx rfl (hb hby at_59) k_) ?_
  show own_Go _ _ _ _ (T67.setTop (mkF m 61 #[.val (.int p0), .val (.long q1), .second, .val (.int p2), .val (.int p3), .val (.int p4), .val (.ref b4), .unset, .unset, .unset, .unset, .unset, .unset, .unset, .unset, .unset, .unset, .unset] [(.int (6 : Int32)), (.int (p2 &&& (2147483647 : Int32)))]))
  refine own_go (fun t_ k_ => own_irem A68.here hx rfl (hb hby at_61) rfl (by decide) k_) ?_
  show own_Go _ _ _ _ (T67.setTop (mkF m 62 #[.val (.int p0), .val (.long q1), .second, .val (.int p2), .val (.int p3), .val (.int p4), .val (.ref b4), .unset, .unset, .unset, .unset, .unset, .unset, .unset, .unset, .unset, .unset, .unset] [(.int ((p2 &&& (2147483647 : Int32)) % (6 : Int32)))]))
  obtain ⟨i0, hi0, ei0⟩ := own_from p2
  rw [ei0]
  show own_Go _ _ _ _ (T67.setTop (mkF m 62 #[.val (.int p0), .val (.long q1), .second, .val (.int p2), .val (.int p3), .val (.int p4), .val (.ref b4), .unset, .unset, .unset, .unset, .unset, .unset, .unset, .unset, .unset, .unset, .unset] [(.int (Int32.ofNat i0))]))
  refine own_go (fun t_ k_ => XS.istore A68.here hx rfl (hb hby at_62) rfl (l' := #[.val (.int p0), .val (.long q1), .second, .val (.int p2), .val (.int p3), .val (.int p4), .val (.ref b4), .val (.int (Int32.ofNat i0)), .unset, .unset, .unset, .unset, .unset, .unset, .unset, .unset, .unset, .unset]) rfl k_) ?_
  show own_Go _ _ _ _ (T67.setTop (mkF m 64 #[.val (.int p0), .val (.long q1), .second, .val (.int p2), .val (.int p3), .val (.int p4), .val (.ref b4), .val (.int (Int32.ofNat i0)), .unset, .unset, .unset, .unset, .unset, .unset, .unset, .unset, .unset, .unset] []))
  refine own_go (fun t_ k_ => XS.iload A68.here hx rfl (hb hby at_64) rfl k_) ?_
  show own_Go _ _ _ _ (T67.setTop (mkF m 66 #[.val (.int p0), .val (.long q1), .second, .val (.int p2), .val (.int p3), .val (.int p4), .val (.ref b4), .val (.int (Int32.ofNat i0)), .unset, .unset, .unset, .unset, .unset, .unset, .unset, .unset, .unset, .unset] [(.int (Int32.ofNat i0))]))
  refine own_go (fun t_ k_ => XS.iload A68.here hx rfl (hb hby at_66) rfl k_) ?_
  show own_Go _ _ _ _ (T67.setTop (mkF m 68 #[.val (.int p0), .val (.long q1), .second, .val (.int p2), .val (.int p3), .val (.int p4), .val (.ref b4), .val (.int (Int32.ofNat i0)), .unset, .unset, .unset, .unset, .unset, .unset, .unset, .unset, .unset, .unset] [(.int p3), (.int (Int32.ofNat i0))]))
  refine own_ldcI A68 hx hZ hown (hw _ (List.mem_of_getElem? (i := 5) rfl)) rfl (hb hby at_68) ?_
  show own_Go _ _ _ _ (T67.setTop (mkF m 70 #[.val (.int p0), .val (.long q1), .second, .val (.int p2), .val (.int p3), .val (.int p4), .val (.ref b4), .val (.int (Int32.ofNat i0)), .unset, .unset, .unset, .unset, .unset, .unset, .unset, .unset, .unset, .unset] [(.int (2147483647 : Int32)), (.int p3), (.int (Int32.ofNat i0))]))
  refine own_go (fun t_ k_ => XS.iand A68.here hx rfl (hb hby at_70) rfl k_) ?_
  show own_Go _ _ _ _ (T67.setTop (mkF m 71 #[.val (.int p0), .val (.long q1), .second, .val (.int p2), .val (.int p3), .val (.int p4), .val (.ref b4), .val (.int (Int32.ofNat i0)), .unset, .unset, .unset, .unset, .unset, .unset, .unset, .unset, .unset, .unset] [(.int (p3 &&& (2147483647 : Int32))), (.int (Int32.ofNat i0))]))
  refine own_go (fun t_ k_ => XS.bipush A68.here hx rfl (hb hby at_71) k_) ?_
  show own_Go _ _ _ _ (T67.setTop (mkF m 73 #[.val (.int p0), .val (.long q1), .second, .val (.int p2), .val (.int p3), .val (.int p4), .val (.ref b4), .val (.int (Int32.ofNat i0)), .unset, .unset, .unset, .unset, .unset, .unset, .unset, .unset, .unset, .unset] [(.int (6 : Int32)), (.int (p3 &&& (2147483647 : Int32))), (.int (Int32.ofNat i0))]))
  refine own_go (fun t_ k_ => XS.iload A68.here hx rfl (hb hby at_73) rfl k_) ?_
  show own_Go _ _ _ _ (T67.setTop (mkF m 75 #[.val (.int p0), .val (.long q1), .second, .val (.int p2), .val (.int p3), .val (.int p4), .val (.ref b4), .val (.int (Int32.ofNat i0)), .unset, .unset, .unset, .unset, .unset, .unset, .unset, .unset, .unset, .unset] [(.int (Int32.ofNat i0)), (.int (6 : Int32)), (.int (p3 &&& (2147483647 : Int32))), (.int (Int32.ofNat i0))]))
  refine own_go (fun t_ k_ => XS.isub A68.here hx rfl (hb hby at_75) rfl k_) ?_
  show own_Go _ _ _ _ (T67.setTop (mkF m 76 #[.val (.int p0), .val (.long q1), .second, .val (.int p2), .val (.int p3), .val (.int p4), .val (.ref b4), .val (.int (Int32.ofNat i0)), .unset, .unset, .unset, .unset, .unset, .unset, .unset, .unset, .unset, .unset] [(.int ((6 : Int32) - (Int32.ofNat i0))), (.int (p3 &&& (2147483647 : Int32))), (.int (Int32.ofNat i0))]))
  rw [own_six_sub i0 hi0]
  show own_Go _ _ _ _ (T67.setTop (mkF m 76 #[.val (.int p0), .val (.long q1), .second, .val (.int p2), .val (.int p3), .val (.int p4), .val (.ref b4), .val (.int (Int32.ofNat i0)), .unset, .unset, .unset, .unset, .unset, .unset, .unset, .unset, .unset, .unset] [(.int (Int32.ofNat (6 - i0))), (.int (p3 &&& (2147483647 : Int32))), (.int (Int32.ofNat i0))]))
  refine own_go (fun t_ k_ => own_irem A68.here hx rfl (hb hby at_76) rfl (own_nz i0 hi0) k_) ?_
  show own_Go _ _ _ _ (T67.setTop (mkF m 77 #[.val (.int p0), .val (.long q1), .second, .val (.int p2), .val (.int p3), .val (.int p4), .val (.ref b4), .val (.int (Int32.ofNat i0)), .unset, .unset, .unset, .unset, .unset, .unset, .unset, .unset, .unset, .unset] [(.int ((p3 &&& (2147483647 : Int32)) % (Int32.ofNat (6 - i0)))), (.int (Int32.ofNat i0))]))
  obtain ⟨d0, hd0, ed0⟩ := own_to p3 i0 hi0
  rw [ed0]
  show own_Go _ _ _ _ (T67.setTop (mkF m 77 #[.val (.int p0), .val (.long q1), .second, .val (.int p2), .val (.int p3), .val (.int p4), .val (.ref b4), .val (.int (Int32.ofNat i0)), .unset, .unset, .unset, .unset, .unset, .unset, .unset, .unset, .unset, .unset] [(.int (Int32.ofNat d0)), (.int (Int32.ofNat i0))]))
  refine own_go (fun t_ k_ => XS.iadd A68.here hx rfl (hb hby at_77) rfl k_) ?_
  show own_Go _ _ _ _ (T67.setTop (mkF m 78 #[.val (.int p0), .val (.long q1), .second, .val (.int p2), .val (.int p3), .val (.int p4), .val (.ref b4), .val (.int (Int32.ofNat i0)), .unset, .unset, .unset, .unset, .unset, .unset, .unset, .unset, .unset, .unset] [(.int ((Int32.ofNat i0) + (Int32.ofNat d0)))]))
  rw [own_nadd]
  show own_Go _ _ _ _ (T67.setTop (mkF m 78 #[.val (.int p0), .val (.long q1), .second, .val (.int p2), .val (.int p3), .val (.int p4), .val (.ref b4), .val (.int (Int32.ofNat i0)), .unset, .unset, .unset, .unset, .unset, .unset, .unset, .unset, .unset, .unset] [(.int (Int32.ofNat (i0 + d0)))]))
  refine own_go (fun t_ k_ => XS.istore A68.here hx rfl (hb hby at_78) rfl (l' := #[.val (.int p0), .val (.long q1), .second, .val (.int p2), .val (.int p3), .val (.int p4), .val (.ref b4), .val (.int (Int32.ofNat i0)), .val (.int (Int32.ofNat (i0 + d0))), .unset, .unset, .unset, .unset, .unset, .unset, .unset, .unset, .unset]) rfl k_) ?_
  show own_Go _ _ _ _ (T67.setTop (mkF m 80 #[.val (.int p0), .val (.long q1), .second, .val (.int p2), .val (.int p3), .val (.int p4), .val (.ref b4), .val (.int (Int32.ofNat i0)), .val (.int (Int32.ofNat (i0 + d0))), .unset, .unset, .unset, .unset, .unset, .unset, .unset, .unset, .unset] []))
  refine own_go (fun t_ k_ => XS.iload A68.here hx rfl (hb hby at_80) rfl k_) ?_
  show own_Go _ _ _ _ (T67.setTop (mkF m 82 #[.val (.int p0), .val (.long q1), .second, .val (.int p2), .val (.int p3), .val (.int p4), .val (.ref b4), .val (.int (Int32.ofNat i0)), .val (.int (Int32.ofNat (i0 + d0))), .unset, .unset, .unset, .unset, .unset, .unset, .unset, .unset, .unset] [(.int p4)]))
  refine own_go (fun t_ k_ => XS.bipush A68.here hx rfl (hb hby at_82) k_) ?_
  show own_Go _ _ _ _ (T67.setTop (mkF m 84 #[.val (.int p0), .val (.long q1), .second, .val (.int p2), .val (.int p3), .val (.int p4), .val (.ref b4), .val (.int (Int32.ofNat i0)), .val (.int (Int32.ofNat (i0 + d0))), .unset, .unset, .unset, .unset, .unset, .unset, .unset, .unset, .unset] [(.int (7 : Int32)), (.int p4)]))
  refine own_go (fun t_ k_ => XS.iand A68.here hx rfl (hb hby at_84) rfl k_) ?_
  show own_Go _ _ _ _ (T67.setTop (mkF m 85 #[.val (.int p0), .val (.long q1), .second, .val (.int p2), .val (.int p3), .val (.int p4), .val (.ref b4), .val (.int (Int32.ofNat i0)), .val (.int (Int32.ofNat (i0 + d0))), .unset, .unset, .unset, .unset, .unset, .unset, .unset, .unset, .unset] [(.int (p4 &&& (7 : Int32)))]))
  obtain ⟨qn, hqn, eqn⟩ := own_pairs p4
  rw [eqn]
  show own_Go _ _ _ _ (T67.setTop (mkF m 85 #[.val (.int p0), .val (.long q1), .second, .val (.int p2), .val (.int p3), .val (.int p4), .val (.ref b4), .val (.int (Int32.ofNat i0)), .val (.int (Int32.ofNat (i0 + d0))), .unset, .unset, .unset, .unset, .unset, .unset, .unset, .unset, .unset] [(.int (Int32.ofNat qn))]))
  refine own_go (fun t_ k_ => XS.istore A68.here hx rfl (hb hby at_85) rfl (l' := #[.val (.int p0), .val (.long q1), .second, .val (.int p2), .val (.int p3), .val (.int p4), .val (.ref b4), .val (.int (Int32.ofNat i0)), .val (.int (Int32.ofNat (i0 + d0))), .val (.int (Int32.ofNat qn)), .unset, .unset, .unset, .unset, .unset, .unset, .unset, .unset]) rfl k_) ?_
  show own_Go _ _ _ _ (T67.setTop (mkF m 87 #[.val (.int p0), .val (.long q1), .second, .val (.int p2), .val (.int p3), .val (.int p4), .val (.ref b4), .val (.int (Int32.ofNat i0)), .val (.int (Int32.ofNat (i0 + d0))), .val (.int (Int32.ofNat qn)), .unset, .unset, .unset, .unset, .unset, .unset, .unset, .unset] []))
  refine own_go (fun t_ k_ => XS.iconst A68.here hx rfl (hb hby at_87) k_) ?_
  show own_Go _ _ _ _ (T67.setTop (mkF m 88 #[.val (.int p0), .val (.long q1), .second, .val (.int p2), .val (.int p3), .val (.int p4), .val (.ref b4), .val (.int (Int32.ofNat i0)), .val (.int (Int32.ofNat (i0 + d0))), .val (.int (Int32.ofNat qn)), .unset, .unset, .unset, .unset, .unset, .unset, .unset, .unset] [(.int (2 : Int32))]))
  refine own_go (fun t_ k_ => XS.iload A68.here hx rfl (hb hby at_88) rfl k_) ?_
  show own_Go _ _ _ _ (T67.setTop (mkF m 90 #[.val (.int p0), .val (.long q1), .second, .val (.int p2), .val (.int p3), .val (.int p4), .val (.ref b4), .val (.int (Int32.ofNat i0)), .val (.int (Int32.ofNat (i0 + d0))), .val (.int (Int32.ofNat qn)), .unset, .unset, .unset, .unset, .unset, .unset, .unset, .unset] [(.int (Int32.ofNat qn)), (.int (2 : Int32))]))
  refine own_go (fun t_ k_ => XS.imul A68.here hx rfl (hb hby at_90) rfl k_) ?_
  show own_Go _ _ _ _ (T67.setTop (mkF m 91 #[.val (.int p0), .val (.long q1), .second, .val (.int p2), .val (.int p3), .val (.int p4), .val (.ref b4), .val (.int (Int32.ofNat i0)), .val (.int (Int32.ofNat (i0 + d0))), .val (.int (Int32.ofNat qn)), .unset, .unset, .unset, .unset, .unset, .unset, .unset, .unset] [(.int ((2 : Int32) * (Int32.ofNat qn)))]))
  rw [own_dbl]
  show own_Go _ _ _ _ (T67.setTop (mkF m 91 #[.val (.int p0), .val (.long q1), .second, .val (.int p2), .val (.int p3), .val (.int p4), .val (.ref b4), .val (.int (Int32.ofNat i0)), .val (.int (Int32.ofNat (i0 + d0))), .val (.int (Int32.ofNat qn)), .unset, .unset, .unset, .unset, .unset, .unset, .unset, .unset] [(.int (Int32.ofNat (2 * qn)))]))
  refine own_newP A68 hx hZ (hw _ (List.mem_of_getElem? (i := 6) rfl)) rfl rfl (hb hby at_91) rfl (own_nn (by omega)) 14 (by rw [show (Int32.ofNat (2 * qn)).toNatClampNeg = 2 * qn by rw [Int32.toNatClampNeg, own_nI (by omega)]; exact Int.toNat_natCast _]; omega) (by decide) (by decide) (by decide) (fun T75 h77 b78 ha_b78 A76 E79 V80 R81 => ?_)
  have ne_b4_b78 : b4 ≠ b78 := Nat.ne_of_lt (by rw [ha_b78]; exact V74.lt)
  have g_b78 : n0 ≤ b78 := by rw [ha_b78]; exact Z73
  have O82 : Old Z n0 h77 := O72.ext E79
  have Z83 : n0 ≤ h77.size := Nat.le_trans Z73 E79.1
  have V84 : own_Arr Z h77 b4 .byte (5 : Int32) fb := V74.ext E79
  show own_Go _ _ _ _ (T75.setTop (mkF m 93 #[.val (.int p0), .val (.long q1), .second, .val (.int p2), .val (.int p3), .val (.int p4), .val (.ref b4), .val (.int (Int32.ofNat i0)), .val (.int (Int32.ofNat (i0 + d0))), .val (.int (Int32.ofNat qn)), .unset, .unset, .unset, .unset, .unset, .unset, .unset, .unset] [(.ref b78)]))
  have Pf0 : own_Pf qn 0 (fun _ => (0 : Int32)) := fun i _ h => absurd h (Nat.not_lt_zero _)
  refine own_go (fun t_ k_ => XS.astore A76.here hx rfl (hb hby at_93) rfl rfl (l' := #[.val (.int p0), .val (.long q1), .second, .val (.int p2), .val (.int p3), .val (.int p4), .val (.ref b4), .val (.int (Int32.ofNat i0)), .val (.int (Int32.ofNat (i0 + d0))), .val (.int (Int32.ofNat qn)), .val (.ref b78), .unset, .unset, .unset, .unset, .unset, .unset, .unset]) rfl k_) ?_
  show own_Go _ _ _ _ (T75.setTop (mkF m 95 #[.val (.int p0), .val (.long q1), .second, .val (.int p2), .val (.int p3), .val (.int p4), .val (.ref b4), .val (.int (Int32.ofNat i0)), .val (.int (Int32.ofNat (i0 + d0))), .val (.int (Int32.ofNat qn)), .val (.ref b78), .unset, .unset, .unset, .unset, .unset, .unset, .unset] []))
  refine own_go (fun t_ k_ => XS.aload A76.here hx rfl (hb hby at_95) rfl rfl k_) ?_
  show own_Go _ _ _ _ (T75.setTop (mkF m 97 #[.val (.int p0), .val (.long q1), .second, .val (.int p2), .val (.int p3), .val (.int p4), .val (.ref b4), .val (.int (Int32.ofNat i0)), .val (.int (Int32.ofNat (i0 + d0))), .val (.int (Int32.ofNat qn)), .val (.ref b78), .unset, .unset, .unset, .unset, .unset, .unset, .unset] [(.ref b78)]))
  refine own_go (fun t_ k_ => XS.iconst A76.here hx rfl (hb hby at_97) k_) ?_
  show own_Go _ _ _ _ (T75.setTop (mkF m 98 #[.val (.int p0), .val (.long q1), .second, .val (.int p2), .val (.int p3), .val (.int p4), .val (.ref b4), .val (.int (Int32.ofNat i0)), .val (.int (Int32.ofNat (i0 + d0))), .val (.int (Int32.ofNat qn)), .val (.ref b78), .unset, .unset, .unset, .unset, .unset, .unset, .unset] [(.int (0 : Int32)), (.ref b78)]))
  refine own_callS A76 hx hZ hown (y := (⟨"com/example/indexloom/indexloom/data/DataHeaderSplitPinLaw", "prefill", "([II)V"⟩ : MethodName)) (hw _ (List.mem_of_getElem? (i := 7) rfl)) (hw _ (List.mem_of_getElem? (i := 8) rfl)) (hw _ (List.mem_of_getElem? (i := 3) rfl)) (hw _ (List.mem_of_getElem? (i := 9) rfl)) (by decide) (argsL := [(.ref b78), (.int (0 : Int32))]) (rest := []) (rm2 l Z a0 hw b78 0 qn (fun _ => 0) h77 n0 V80 g_b78 Pf0 (by omega) (by decide)) 0 (by decide) (by decide) rfl (by rw [hml]; rfl) (lenOf pd___II_V rfl) rfl (by show 2 * 0 + _ ≤ _; exact Nat.le_of_eq rfl) (hb hby at_98) (by decide) (by decide) (fun v88 T85 h87 A86 hQ89 => ?_)
  obtain ⟨rfl, K90, c91, V92, P93⟩ := hQ89
  have O94 : Old Z n0 h87 := O82.keep K90 (allS g_b78 all0)
  have Z95 : n0 ≤ h87.size := Nat.le_trans Z83 K90.1
  have V96 : own_Arr Z h87 b4 .byte (5 : Int32) fb := V84.keep K90 (ninS ne_b4_b78 nin0)
  show own_Go _ _ _ _ (T85.setTop (mkF m 101 #[.val (.int p0), .val (.long q1), .second, .val (.int p2), .val (.int p3), .val (.int p4), .val (.ref b4), .val (.int (Int32.ofNat i0)), .val (.int (Int32.ofNat (i0 + d0))), .val (.int (Int32.ofNat qn)), .val (.ref b78), .unset, .unset, .unset, .unset, .unset, .unset, .unset] []))
  refine own_go (fun t_ k_ => XS.aload A86.here hx rfl (hb hby at_101) rfl rfl k_) ?_
  show own_Go _ _ _ _ (T85.setTop (mkF m 103 #[.val (.int p0), .val (.long q1), .second, .val (.int p2), .val (.int p3), .val (.int p4), .val (.ref b4), .val (.int (Int32.ofNat i0)), .val (.int (Int32.ofNat (i0 + d0))), .val (.int (Int32.ofNat qn)), .val (.ref b78), .unset, .unset, .unset, .unset, .unset, .unset, .unset] [(.ref b78)]))
  refine own_go (fun t_ k_ => XS.iconst A86.here hx rfl (hb hby at_103) k_) ?_
  show own_Go _ _ _ _ (T85.setTop (mkF m 104 #[.val (.int p0), .val (.long q1), .second, .val (.int p2), .val (.int p3), .val (.int p4), .val (.ref b4), .val (.int (Int32.ofNat i0)), .val (.int (Int32.ofNat (i0 + d0))), .val (.int (Int32.ofNat qn)), .val (.ref b78), .unset, .unset, .unset, .unset, .unset, .unset, .unset] [(.int (1 : Int32)), (.ref b78)]))
  refine own_callS A86 hx hZ hown (y := (⟨"com/example/indexloom/indexloom/data/DataHeaderSplitPinLaw", "prefill", "([II)V"⟩ : MethodName)) (hw _ (List.mem_of_getElem? (i := 7) rfl)) (hw _ (List.mem_of_getElem? (i := 8) rfl)) (hw _ (List.mem_of_getElem? (i := 3) rfl)) (hw _ (List.mem_of_getElem? (i := 9) rfl)) (by decide) (argsL := [(.ref b78), (.int (1 : Int32))]) (rest := []) (rm2 l Z a0 hw b78 1 qn c91 h87 n0 V92 g_b78 P93 (by omega) (by decide)) 0 (by decide) (by decide) rfl (by rw [hml]; rfl) (lenOf pd___II_V rfl) rfl (by show 2 * 0 + _ ≤ _; exact Nat.le_of_eq rfl) (hb hby at_104) (by decide) (by decide) (fun v100 T97 h99 A98 hQ101 => ?_)
  obtain ⟨rfl, K102, c103, V104, P105⟩ := hQ101
  have O106 : Old Z n0 h99 := O94.keep K102 (allS g_b78 all0)
  have Z107 : n0 ≤ h99.size := Nat.le_trans Z95 K102.1
  have V108 : own_Arr Z h99 b4 .byte (5 : Int32) fb := V96.keep K102 (ninS ne_b4_b78 nin0)
  show own_Go _ _ _ _ (T97.setTop (mkF m 107 #[.val (.int p0), .val (.long q1), .second, .val (.int p2), .val (.int p3), .val (.int p4), .val (.ref b4), .val (.int (Int32.ofNat i0)), .val (.int (Int32.ofNat (i0 + d0))), .val (.int (Int32.ofNat qn)), .val (.ref b78), .unset, .unset, .unset, .unset, .unset, .unset, .unset] []))
  refine own_go (fun t_ k_ => XS.aload A98.here hx rfl (hb hby at_107) rfl rfl k_) ?_
  show own_Go _ _ _ _ (T97.setTop (mkF m 109 #[.val (.int p0), .val (.long q1), .second, .val (.int p2), .val (.int p3), .val (.int p4), .val (.ref b4), .val (.int (Int32.ofNat i0)), .val (.int (Int32.ofNat (i0 + d0))), .val (.int (Int32.ofNat qn)), .val (.ref b78), .unset, .unset, .unset, .unset, .unset, .unset, .unset] [(.ref b78)]))
  refine own_go (fun t_ k_ => XS.iconst A98.here hx rfl (hb hby at_109) k_) ?_
  show own_Go _ _ _ _ (T97.setTop (mkF m 110 #[.val (.int p0), .val (.long q1), .second, .val (.int p2), .val (.int p3), .val (.int p4), .val (.ref b4), .val (.int (Int32.ofNat i0)), .val (.int (Int32.ofNat (i0 + d0))), .val (.int (Int32.ofNat qn)), .val (.ref b78), .unset, .unset, .unset, .unset, .unset, .unset, .unset] [(.int (2 : Int32)), (.ref b78)]))
  refine own_callS A98 hx hZ hown (y := (⟨"com/example/indexloom/indexloom/data/DataHeaderSplitPinLaw", "prefill", "([II)V"⟩ : MethodName)) (hw _ (List.mem_of_getElem? (i := 7) rfl)) (hw _ (List.mem_of_getElem? (i := 8) rfl)) (hw _ (List.mem_of_getElem? (i := 3) rfl)) (hw _ (List.mem_of_getElem? (i := 9) rfl)) (by decide) (argsL := [(.ref b78), (.int (2 : Int32))]) (rest := []) (rm2 l Z a0 hw b78 2 qn c103 h99 n0 V104 g_b78 P105 (by omega) (by decide)) 0 (by decide) (by decide) rfl (by rw [hml]; rfl) (lenOf pd___II_V rfl) rfl (by show 2 * 0 + _ ≤ _; exact Nat.le_of_eq rfl) (hb hby at_110) (by decide) (by decide) (fun v112 T109 h111 A110 hQ113 => ?_)
  obtain ⟨rfl, K114, c115, V116, P117⟩ := hQ113
  have O118 : Old Z n0 h111 := O106.keep K114 (allS g_b78 all0)
  have Z119 : n0 ≤ h111.size := Nat.le_trans Z107 K114.1
  have V120 : own_Arr Z h111 b4 .byte (5 : Int32) fb := V108.keep K114 (ninS ne_b4_b78 nin0)
  show own_Go _ _ _ _ (T109.setTop (mkF m 113 #[.val (.int p0), .val (.long q1), .second, .val (.int p2), .val (.int p3), .val (.int p4), .val (.ref b4), .val (.int (Int32.ofNat i0)), .val (.int (Int32.ofNat (i0 + d0))), .val (.int (Int32.ofNat qn)), .val (.ref b78), .unset, .unset, .unset, .unset, .unset, .unset, .unset] []))
  refine own_go (fun t_ k_ => XS.aload A110.here hx rfl (hb hby at_113) rfl rfl k_) ?_
  show own_Go _ _ _ _ (T109.setTop (mkF m 115 #[.val (.int p0), .val (.long q1), .second, .val (.int p2), .val (.int p3), .val (.int p4), .val (.ref b4), .val (.int (Int32.ofNat i0)), .val (.int (Int32.ofNat (i0 + d0))), .val (.int (Int32.ofNat qn)), .val (.ref b78), .unset, .unset, .unset, .unset, .unset, .unset, .unset] [(.ref b78)]))
  refine own_go (fun t_ k_ => XS.iconst A110.here hx rfl (hb hby at_115) k_) ?_
  show own_Go _ _ _ _ (T109.setTop (mkF m 116 #[.val (.int p0), .val (.long q1), .second, .val (.int p2), .val (.int p3), .val (.int p4), .val (.ref b4), .val (.int (Int32.ofNat i0)), .val (.int (Int32.ofNat (i0 + d0))), .val (.int (Int32.ofNat qn)), .val (.ref b78), .unset, .unset, .unset, .unset, .unset, .unset, .unset] [(.int (3 : Int32)), (.ref b78)]))
  refine own_callS A110 hx hZ hown (y := (⟨"com/example/indexloom/indexloom/data/DataHeaderSplitPinLaw", "prefill", "([II)V"⟩ : MethodName)) (hw _ (List.mem_of_getElem? (i := 7) rfl)) (hw _ (List.mem_of_getElem? (i := 8) rfl)) (hw _ (List.mem_of_getElem? (i := 3) rfl)) (hw _ (List.mem_of_getElem? (i := 9) rfl)) (by decide) (argsL := [(.ref b78), (.int (3 : Int32))]) (rest := []) (rm2 l Z a0 hw b78 3 qn c115 h111 n0 V116 g_b78 P117 (by omega) (by decide)) 0 (by decide) (by decide) rfl (by rw [hml]; rfl) (lenOf pd___II_V rfl) rfl (by show 2 * 0 + _ ≤ _; exact Nat.le_of_eq rfl) (hb hby at_116) (by decide) (by decide) (fun v124 T121 h123 A122 hQ125 => ?_)
  obtain ⟨rfl, K126, c127, V128, P129⟩ := hQ125
  have O130 : Old Z n0 h123 := O118.keep K126 (allS g_b78 all0)
  have Z131 : n0 ≤ h123.size := Nat.le_trans Z119 K126.1
  have V132 : own_Arr Z h123 b4 .byte (5 : Int32) fb := V120.keep K126 (ninS ne_b4_b78 nin0)
  show own_Go _ _ _ _ (T121.setTop (mkF m 119 #[.val (.int p0), .val (.long q1), .second, .val (.int p2), .val (.int p3), .val (.int p4), .val (.ref b4), .val (.int (Int32.ofNat i0)), .val (.int (Int32.ofNat (i0 + d0))), .val (.int (Int32.ofNat qn)), .val (.ref b78), .unset, .unset, .unset, .unset, .unset, .unset, .unset] []))
  refine own_go (fun t_ k_ => XS.aload A122.here hx rfl (hb hby at_119) rfl rfl k_) ?_
  show own_Go _ _ _ _ (T121.setTop (mkF m 121 #[.val (.int p0), .val (.long q1), .second, .val (.int p2), .val (.int p3), .val (.int p4), .val (.ref b4), .val (.int (Int32.ofNat i0)), .val (.int (Int32.ofNat (i0 + d0))), .val (.int (Int32.ofNat qn)), .val (.ref b78), .unset, .unset, .unset, .unset, .unset, .unset, .unset] [(.ref b78)]))
  refine own_go (fun t_ k_ => XS.iconst A122.here hx rfl (hb hby at_121) k_) ?_
  show own_Go _ _ _ _ (T121.setTop (mkF m 122 #[.val (.int p0), .val (.long q1), .second, .val (.int p2), .val (.int p3), .val (.int p4), .val (.ref b4), .val (.int (Int32.ofNat i0)), .val (.int (Int32.ofNat (i0 + d0))), .val (.int (Int32.ofNat qn)), .val (.ref b78), .unset, .unset, .unset, .unset, .unset, .unset, .unset] [(.int (4 : Int32)), (.ref b78)]))
  refine own_callS A122 hx hZ hown (y := (⟨"com/example/indexloom/indexloom/data/DataHeaderSplitPinLaw", "prefill", "([II)V"⟩ : MethodName)) (hw _ (List.mem_of_getElem? (i := 7) rfl)) (hw _ (List.mem_of_getElem? (i := 8) rfl)) (hw _ (List.mem_of_getElem? (i := 3) rfl)) (hw _ (List.mem_of_getElem? (i := 9) rfl)) (by decide) (argsL := [(.ref b78), (.int (4 : Int32))]) (rest := []) (rm2 l Z a0 hw b78 4 qn c127 h123 n0 V128 g_b78 P129 (by omega) (by decide)) 0 (by decide) (by decide) rfl (by rw [hml]; rfl) (lenOf pd___II_V rfl) rfl (by show 2 * 0 + _ ≤ _; exact Nat.le_of_eq rfl) (hb hby at_122) (by decide) (by decide) (fun v136 T133 h135 A134 hQ137 => ?_)
  obtain ⟨rfl, K138, c139, V140, P141⟩ := hQ137
  have O142 : Old Z n0 h135 := O130.keep K138 (allS g_b78 all0)
  have Z143 : n0 ≤ h135.size := Nat.le_trans Z131 K138.1
  have V144 : own_Arr Z h135 b4 .byte (5 : Int32) fb := V132.keep K138 (ninS ne_b4_b78 nin0)
  show own_Go _ _ _ _ (T133.setTop (mkF m 125 #[.val (.int p0), .val (.long q1), .second, .val (.int p2), .val (.int p3), .val (.int p4), .val (.ref b4), .val (.int (Int32.ofNat i0)), .val (.int (Int32.ofNat (i0 + d0))), .val (.int (Int32.ofNat qn)), .val (.ref b78), .unset, .unset, .unset, .unset, .unset, .unset, .unset] []))
  refine own_go (fun t_ k_ => XS.aload A134.here hx rfl (hb hby at_125) rfl rfl k_) ?_
  show own_Go _ _ _ _ (T133.setTop (mkF m 127 #[.val (.int p0), .val (.long q1), .second, .val (.int p2), .val (.int p3), .val (.int p4), .val (.ref b4), .val (.int (Int32.ofNat i0)), .val (.int (Int32.ofNat (i0 + d0))), .val (.int (Int32.ofNat qn)), .val (.ref b78), .unset, .unset, .unset, .unset, .unset, .unset, .unset] [(.ref b78)]))
  refine own_go (fun t_ k_ => XS.iconst A134.here hx rfl (hb hby at_127) k_) ?_
  show own_Go _ _ _ _ (T133.setTop (mkF m 128 #[.val (.int p0), .val (.long q1), .second, .val (.int p2), .val (.int p3), .val (.int p4), .val (.ref b4), .val (.int (Int32.ofNat i0)), .val (.int (Int32.ofNat (i0 + d0))), .val (.int (Int32.ofNat qn)), .val (.ref b78), .unset, .unset, .unset, .unset, .unset, .unset, .unset] [(.int (5 : Int32)), (.ref b78)]))
  refine own_callS A134 hx hZ hown (y := (⟨"com/example/indexloom/indexloom/data/DataHeaderSplitPinLaw", "prefill", "([II)V"⟩ : MethodName)) (hw _ (List.mem_of_getElem? (i := 7) rfl)) (hw _ (List.mem_of_getElem? (i := 8) rfl)) (hw _ (List.mem_of_getElem? (i := 3) rfl)) (hw _ (List.mem_of_getElem? (i := 9) rfl)) (by decide) (argsL := [(.ref b78), (.int (5 : Int32))]) (rest := []) (rm2 l Z a0 hw b78 5 qn c139 h135 n0 V140 g_b78 P141 (by omega) (by decide)) 0 (by decide) (by decide) rfl (by rw [hml]; rfl) (lenOf pd___II_V rfl) rfl (by show 2 * 0 + _ ≤ _; exact Nat.le_of_eq rfl) (hb hby at_128) (by decide) (by decide) (fun v148 T145 h147 A146 hQ149 => ?_)
  obtain ⟨rfl, K150, c151, V152, P153⟩ := hQ149
  have O154 : Old Z n0 h147 := O142.keep K150 (allS g_b78 all0)
  have Z155 : n0 ≤ h147.size := Nat.le_trans Z143 K150.1
  have V156 : own_Arr Z h147 b4 .byte (5 : Int32) fb := V144.keep K150 (ninS ne_b4_b78 nin0)
  show own_Go _ _ _ _ (T145.setTop (mkF m 131 #[.val (.int p0), .val (.long q1), .second, .val (.int p2), .val (.int p3), .val (.int p4), .val (.ref b4), .val (.int (Int32.ofNat i0)), .val (.int (Int32.ofNat (i0 + d0))), .val (.int (Int32.ofNat qn)), .val (.ref b78), .unset, .unset, .unset, .unset, .unset, .unset, .unset] []))
  refine own_go (fun t_ k_ => XS.aload A146.here hx rfl (hb hby at_131) rfl rfl k_) ?_
  show own_Go _ _ _ _ (T145.setTop (mkF m 133 #[.val (.int p0), .val (.long q1), .second, .val (.int p2), .val (.int p3), .val (.int p4), .val (.ref b4), .val (.int (Int32.ofNat i0)), .val (.int (Int32.ofNat (i0 + d0))), .val (.int (Int32.ofNat qn)), .val (.ref b78), .unset, .unset, .unset, .unset, .unset, .unset, .unset] [(.ref b78)]))
  refine own_go (fun t_ k_ => XS.bipush A146.here hx rfl (hb hby at_133) k_) ?_
  show own_Go _ _ _ _ (T145.setTop (mkF m 135 #[.val (.int p0), .val (.long q1), .second, .val (.int p2), .val (.int p3), .val (.int p4), .val (.ref b4), .val (.int (Int32.ofNat i0)), .val (.int (Int32.ofNat (i0 + d0))), .val (.int (Int32.ofNat qn)), .val (.ref b78), .unset, .unset, .unset, .unset, .unset, .unset, .unset] [(.int (6 : Int32)), (.ref b78)]))
  refine own_callS A146 hx hZ hown (y := (⟨"com/example/indexloom/indexloom/data/DataHeaderSplitPinLaw", "prefill", "([II)V"⟩ : MethodName)) (hw _ (List.mem_of_getElem? (i := 7) rfl)) (hw _ (List.mem_of_getElem? (i := 8) rfl)) (hw _ (List.mem_of_getElem? (i := 3) rfl)) (hw _ (List.mem_of_getElem? (i := 9) rfl)) (by decide) (argsL := [(.ref b78), (.int (6 : Int32))]) (rest := []) (rm2 l Z a0 hw b78 6 qn c151 h147 n0 V152 g_b78 P153 (by omega) (by decide)) 0 (by decide) (by decide) rfl (by rw [hml]; rfl) (lenOf pd___II_V rfl) rfl (by show 2 * 0 + _ ≤ _; exact Nat.le_of_eq rfl) (hb hby at_135) (by decide) (by decide) (fun v160 T157 h159 A158 hQ161 => ?_)
  obtain ⟨rfl, K162, c163, V164, P165⟩ := hQ161
  have O166 : Old Z n0 h159 := O154.keep K162 (allS g_b78 all0)
  have Z167 : n0 ≤ h159.size := Nat.le_trans Z155 K162.1
  have V168 : own_Arr Z h159 b4 .byte (5 : Int32) fb := V156.keep K162 (ninS ne_b4_b78 nin0)
  show own_Go _ _ _ _ (T157.setTop (mkF m 138 #[.val (.int p0), .val (.long q1), .second, .val (.int p2), .val (.int p3), .val (.int p4), .val (.ref b4), .val (.int (Int32.ofNat i0)), .val (.int (Int32.ofNat (i0 + d0))), .val (.int (Int32.ofNat qn)), .val (.ref b78), .unset, .unset, .unset, .unset, .unset, .unset, .unset] []))
  refine own_go (fun t_ k_ => XS.aload A158.here hx rfl (hb hby at_138) rfl rfl k_) ?_
  show own_Go _ _ _ _ (T157.setTop (mkF m 140 #[.val (.int p0), .val (.long q1), .second, .val (.int p2), .val (.int p3), .val (.int p4), .val (.ref b4), .val (.int (Int32.ofNat i0)), .val (.int (Int32.ofNat (i0 + d0))), .val (.int (Int32.ofNat qn)), .val (.ref b78), .unset, .unset, .unset, .unset, .unset, .unset, .unset] [(.ref b78)]))
  refine own_go (fun t_ k_ => XS.bipush A158.here hx rfl (hb hby at_140) k_) ?_
  show own_Go _ _ _ _ (T157.setTop (mkF m 142 #[.val (.int p0), .val (.long q1), .second, .val (.int p2), .val (.int p3), .val (.int p4), .val (.ref b4), .val (.int (Int32.ofNat i0)), .val (.int (Int32.ofNat (i0 + d0))), .val (.int (Int32.ofNat qn)), .val (.ref b78), .unset, .unset, .unset, .unset, .unset, .unset, .unset] [(.int (7 : Int32)), (.ref b78)]))
  refine own_callS A158 hx hZ hown (y := (⟨"com/example/indexloom/indexloom/data/DataHeaderSplitPinLaw", "prefill", "([II)V"⟩ : MethodName)) (hw _ (List.mem_of_getElem? (i := 7) rfl)) (hw _ (List.mem_of_getElem? (i := 8) rfl)) (hw _ (List.mem_of_getElem? (i := 3) rfl)) (hw _ (List.mem_of_getElem? (i := 9) rfl)) (by decide) (argsL := [(.ref b78), (.int (7 : Int32))]) (rest := []) (rm2 l Z a0 hw b78 7 qn c163 h159 n0 V164 g_b78 P165 (by omega) (by decide)) 0 (by decide) (by decide) rfl (by rw [hml]; rfl) (lenOf pd___II_V rfl) rfl (by show 2 * 0 + _ ≤ _; exact Nat.le_of_eq rfl) (hb hby at_142) (by decide) (by decide) (fun v172 T169 h171 A170 hQ173 => ?_)
  obtain ⟨rfl, K174, c175, V176, P177⟩ := hQ173
  have O178 : Old Z n0 h171 := O166.keep K174 (allS g_b78 all0)
  have Z179 : n0 ≤ h171.size := Nat.le_trans Z167 K174.1
  have V180 : own_Arr Z h171 b4 .byte (5 : Int32) fb := V168.keep K174 (ninS ne_b4_b78 nin0)
  show own_Go _ _ _ _ (T169.setTop (mkF m 145 #[.val (.int p0), .val (.long q1), .second, .val (.int p2), .val (.int p3), .val (.int p4), .val (.ref b4), .val (.int (Int32.ofNat i0)), .val (.int (Int32.ofNat (i0 + d0))), .val (.int (Int32.ofNat qn)), .val (.ref b78), .unset, .unset, .unset, .unset, .unset, .unset, .unset] []))
  refine own_go (fun t_ k_ => XS.bipush A170.here hx rfl (hb hby at_145) k_) ?_
  show own_Go _ _ _ _ (T169.setTop (mkF m 147 #[.val (.int p0), .val (.long q1), .second, .val (.int p2), .val (.int p3), .val (.int p4), .val (.ref b4), .val (.int (Int32.ofNat i0)), .val (.int (Int32.ofNat (i0 + d0))), .val (.int (Int32.ofNat qn)), .val (.ref b78), .unset, .unset, .unset, .unset, .unset, .unset, .unset] [(.int (6 : Int32))]))
  refine own_newP A170 hx hZ (hw _ (List.mem_of_getElem? (i := 6) rfl)) rfl rfl (hb hby at_147) rfl (by decide) 6 (by decide) (by decide) (by decide) (by decide) (fun T181 h183 b184 ha_b184 A182 E185 V186 R187 => ?_)
  have ne_b4_b184 : b4 ≠ b184 := Nat.ne_of_lt (by rw [ha_b184]; exact V180.lt)
  have ne_b78_b184 : b78 ≠ b184 := Nat.ne_of_lt (by rw [ha_b184]; exact V176.lt)
  have g_b184 : n0 ≤ b184 := by rw [ha_b184]; exact Z179
  have O188 : Old Z n0 h183 := O178.ext E185
  have Z189 : n0 ≤ h183.size := Nat.le_trans Z179 E185.1
  have V190 : own_Arr Z h183 b4 .byte (5 : Int32) fb := V180.ext E185
  have V191 : own_Arr Z h183 b78 .int (Int32.ofNat (2 * qn)) c175 := V176.ext E185
  show own_Go _ _ _ _ (T181.setTop (mkF m 149 #[.val (.int p0), .val (.long q1), .second, .val (.int p2), .val (.int p3), .val (.int p4), .val (.ref b4), .val (.int (Int32.ofNat i0)), .val (.int (Int32.ofNat (i0 + d0))), .val (.int (Int32.ofNat qn)), .val (.ref b78), .unset, .unset, .unset, .unset, .unset, .unset, .unset] [(.ref b184)]))
  refine own_go (fun t_ k_ => XS.dup A182.here hx rfl (hb hby at_149) rfl rfl k_) ?_
  show own_Go _ _ _ _ (T181.setTop (mkF m 150 #[.val (.int p0), .val (.long q1), .second, .val (.int p2), .val (.int p3), .val (.int p4), .val (.ref b4), .val (.int (Int32.ofNat i0)), .val (.int (Int32.ofNat (i0 + d0))), .val (.int (Int32.ofNat qn)), .val (.ref b78), .unset, .unset, .unset, .unset, .unset, .unset, .unset] [(.ref b184), (.ref b184)]))
  refine own_go (fun t_ k_ => XS.iconst A182.here hx rfl (hb hby at_150) k_) ?_
  show own_Go _ _ _ _ (T181.setTop (mkF m 151 #[.val (.int p0), .val (.long q1), .second, .val (.int p2), .val (.int p3), .val (.int p4), .val (.ref b4), .val (.int (Int32.ofNat i0)), .val (.int (Int32.ofNat (i0 + d0))), .val (.int (Int32.ofNat qn)), .val (.ref b78), .unset, .unset, .unset, .unset, .unset, .unset, .unset] [(.int (0 : Int32)), (.ref b184), (.ref b184)]))
  refine own_go (fun t_ k_ => XS.iconst A182.here hx rfl (hb hby at_151) k_) ?_
  show own_Go _ _ _ _ (T181.setTop (mkF m 152 #[.val (.int p0), .val (.long q1), .second, .val (.int p2), .val (.int p3), .val (.int p4), .val (.ref b4), .val (.int (Int32.ofNat i0)), .val (.int (Int32.ofNat (i0 + d0))), .val (.int (Int32.ofNat qn)), .val (.ref b78), .unset, .unset, .unset, .unset, .unset, .unset, .unset] [(.int (-1 : Int32)), (.int (0 : Int32)), (.ref b184), (.ref b184)]))
  refine own_stI A182 hx hZ V186 ⟨by decide, by decide⟩ g_b184 rfl rfl (hb hby at_152) (fun T192 h194 A193 W195 V196 => ?_)
  have O197 : Old Z n0 h194 := O188.wr W195 g_b184
  have Z198 : n0 ≤ h194.size := Nat.le_trans Z189 (Nat.le_of_eq (Wr.size W195).symm)
  have V199 : own_Arr Z h194 b4 .byte (5 : Int32) fb := V190.other W195 ne_b4_b184
  have V200 : own_Arr Z h194 b78 .int (Int32.ofNat (2 * qn)) c175 := V191.other W195 ne_b78_b184
  have V201 : own_Arr Z h194 b184 .int (6 : Int32) (fun i => if i = (0 : Int32) then (-1 : Int32) else (fun _ => 0) i) := V196
  show own_Go _ _ _ _ (T192.setTop (mkF m 153 #[.val (.int p0), .val (.long q1), .second, .val (.int p2), .val (.int p3), .val (.int p4), .val (.ref b4), .val (.int (Int32.ofNat i0)), .val (.int (Int32.ofNat (i0 + d0))), .val (.int (Int32.ofNat qn)), .val (.ref b78), .unset, .unset, .unset, .unset, .unset, .unset, .unset] [(.ref b184)]))
  refine own_go (fun t_ k_ => XS.dup A193.here hx rfl (hb hby at_153) rfl rfl k_) ?_
  show own_Go _ _ _ _ (T192.setTop (mkF m 154 #[.val (.int p0), .val (.long q1), .second, .val (.int p2), .val (.int p3), .val (.int p4), .val (.ref b4), .val (.int (Int32.ofNat i0)), .val (.int (Int32.ofNat (i0 + d0))), .val (.int (Int32.ofNat qn)), .val (.ref b78), .unset, .unset, .unset, .unset, .unset, .unset, .unset] [(.ref b184), (.ref b184)]))
  refine own_go (fun t_ k_ => XS.iconst A193.here hx rfl (hb hby at_154) k_) ?_
  show own_Go _ _ _ _ (T192.setTop (mkF m 155 #[.val (.int p0), .val (.long q1), .second, .val (.int p2), .val (.int p3), .val (.int p4), .val (.ref b4), .val (.int (Int32.ofNat i0)), .val (.int (Int32.ofNat (i0 + d0))), .val (.int (Int32.ofNat qn)), .val (.ref b78), .unset, .unset, .unset, .unset, .unset, .unset, .unset] [(.int (1 : Int32)), (.ref b184), (.ref b184)]))
  refine own_go (fun t_ k_ => XS.iconst A193.here hx rfl (hb hby at_155) k_) ?_
  show own_Go _ _ _ _ (T192.setTop (mkF m 156 #[.val (.int p0), .val (.long q1), .second, .val (.int p2), .val (.int p3), .val (.int p4), .val (.ref b4), .val (.int (Int32.ofNat i0)), .val (.int (Int32.ofNat (i0 + d0))), .val (.int (Int32.ofNat qn)), .val (.ref b78), .unset, .unset, .unset, .unset, .unset, .unset, .unset] [(.int (-1 : Int32)), (.int (1 : Int32)), (.ref b184), (.ref b184)]))
  refine own_stI A193 hx hZ V201 ⟨by decide, by decide⟩ g_b184 rfl rfl (hb hby at_156) (fun T202 h204 A203 W205 V206 => ?_)
  have O207 : Old Z n0 h204 := O197.wr W205 g_b184
  have Z208 : n0 ≤ h204.size := Nat.le_trans Z198 (Nat.le_of_eq (Wr.size W205).symm)
  have V209 : own_Arr Z h204 b4 .byte (5 : Int32) fb := V199.other W205 ne_b4_b184
  have V210 : own_Arr Z h204 b78 .int (Int32.ofNat (2 * qn)) c175 := V200.other W205 ne_b78_b184
  have V211 : own_Arr Z h204 b184 .int (6 : Int32) (fun i => if i = (1 : Int32) then (-1 : Int32) else (fun i => if i = (0 : Int32) then (-1 : Int32) else (fun _ => 0) i) i) := V206
  show own_Go _ _ _ _ (T202.setTop (mkF m 157 #[.val (.int p0), .val (.long q1), .second, .val (.int p2), .val (.int p3), .val (.int p4), .val (.ref b4), .val (.int (Int32.ofNat i0)), .val (.int (Int32.ofNat (i0 + d0))), .val (.int (Int32.ofNat qn)), .val (.ref b78), .unset, .unset, .unset, .unset, .unset, .unset, .unset] [(.ref b184)]))
  refine own_go (fun t_ k_ => XS.dup A203.here hx rfl (hb hby at_157) rfl rfl k_) ?_
  show own_Go _ _ _ _ (T202.setTop (mkF m 158 #[.val (.int p0), .val (.long q1), .second, .val (.int p2), .val (.int p3), .val (.int p4), .val (.ref b4), .val (.int (Int32.ofNat i0)), .val (.int (Int32.ofNat (i0 + d0))), .val (.int (Int32.ofNat qn)), .val (.ref b78), .unset, .unset, .unset, .unset, .unset, .unset, .unset] [(.ref b184), (.ref b184)]))
  refine own_go (fun t_ k_ => XS.iconst A203.here hx rfl (hb hby at_158) k_) ?_
  show own_Go _ _ _ _ (T202.setTop (mkF m 159 #[.val (.int p0), .val (.long q1), .second, .val (.int p2), .val (.int p3), .val (.int p4), .val (.ref b4), .val (.int (Int32.ofNat i0)), .val (.int (Int32.ofNat (i0 + d0))), .val (.int (Int32.ofNat qn)), .val (.ref b78), .unset, .unset, .unset, .unset, .unset, .unset, .unset] [(.int (2 : Int32)), (.ref b184), (.ref b184)]))
  refine own_go (fun t_ k_ => XS.iconst A203.here hx rfl (hb hby at_159) k_) ?_
  show own_Go _ _ _ _ (T202.setTop (mkF m 160 #[.val (.int p0), .val (.long q1), .second, .val (.int p2), .val (.int p3), .val (.int p4), .val (.ref b4), .val (.int (Int32.ofNat i0)), .val (.int (Int32.ofNat (i0 + d0))), .val (.int (Int32.ofNat qn)), .val (.ref b78), .unset, .unset, .unset, .unset, .unset, .unset, .unset] [(.int (-1 : Int32)), (.int (2 : Int32)), (.ref b184), (.ref b184)]))
  refine own_stI A203 hx hZ V211 ⟨by decide, by decide⟩ g_b184 rfl rfl (hb hby at_160) (fun T212 h214 A213 W215 V216 => ?_)
  have O217 : Old Z n0 h214 := O207.wr W215 g_b184
  have Z218 : n0 ≤ h214.size := Nat.le_trans Z208 (Nat.le_of_eq (Wr.size W215).symm)
  have V219 : own_Arr Z h214 b4 .byte (5 : Int32) fb := V209.other W215 ne_b4_b184
  have V220 : own_Arr Z h214 b78 .int (Int32.ofNat (2 * qn)) c175 := V210.other W215 ne_b78_b184
  have V221 : own_Arr Z h214 b184 .int (6 : Int32) (fun i => if i = (2 : Int32) then (-1 : Int32) else (fun i => if i = (1 : Int32) then (-1 : Int32) else (fun i => if i = (0 : Int32) then (-1 : Int32) else (fun _ => 0) i) i) i) := V216
  show own_Go _ _ _ _ (T212.setTop (mkF m 161 #[.val (.int p0), .val (.long q1), .second, .val (.int p2), .val (.int p3), .val (.int p4), .val (.ref b4), .val (.int (Int32.ofNat i0)), .val (.int (Int32.ofNat (i0 + d0))), .val (.int (Int32.ofNat qn)), .val (.ref b78), .unset, .unset, .unset, .unset, .unset, .unset, .unset] [(.ref b184)]))
  refine own_go (fun t_ k_ => XS.dup A213.here hx rfl (hb hby at_161) rfl rfl k_) ?_
  show own_Go _ _ _ _ (T212.setTop (mkF m 162 #[.val (.int p0), .val (.long q1), .second, .val (.int p2), .val (.int p3), .val (.int p4), .val (.ref b4), .val (.int (Int32.ofNat i0)), .val (.int (Int32.ofNat (i0 + d0))), .val (.int (Int32.ofNat qn)), .val (.ref b78), .unset, .unset, .unset, .unset, .unset, .unset, .unset] [(.ref b184), (.ref b184)]))
  refine own_go (fun t_ k_ => XS.iconst A213.here hx rfl (hb hby at_162) k_) ?_
  show own_Go _ _ _ _ (T212.setTop (mkF m 163 #[.val (.int p0), .val (.long q1), .second, .val (.int p2), .val (.int p3), .val (.int p4), .val (.ref b4), .val (.int (Int32.ofNat i0)), .val (.int (Int32.ofNat (i0 + d0))), .val (.int (Int32.ofNat qn)), .val (.ref b78), .unset, .unset, .unset, .unset, .unset, .unset, .unset] [(.int (3 : Int32)), (.ref b184), (.ref b184)]))
  refine own_go (fun t_ k_ => XS.iconst A213.here hx rfl (hb hby at_163) k_) ?_
  show own_Go _ _ _ _ (T212.setTop (mkF m 164 #[.val (.int p0), .val (.long q1), .second, .val (.int p2), .val (.int p3), .val (.int p4), .val (.ref b4), .val (.int (Int32.ofNat i0)), .val (.int (Int32.ofNat (i0 + d0))), .val (.int (Int32.ofNat qn)), .val (.ref b78), .unset, .unset, .unset, .unset, .unset, .unset, .unset] [(.int (-1 : Int32)), (.int (3 : Int32)), (.ref b184), (.ref b184)]))
  refine own_stI A213 hx hZ V221 ⟨by decide, by decide⟩ g_b184 rfl rfl (hb hby at_164) (fun T222 h224 A223 W225 V226 => ?_)
  have O227 : Old Z n0 h224 := O217.wr W225 g_b184
  have Z228 : n0 ≤ h224.size := Nat.le_trans Z218 (Nat.le_of_eq (Wr.size W225).symm)
  have V229 : own_Arr Z h224 b4 .byte (5 : Int32) fb := V219.other W225 ne_b4_b184
  have V230 : own_Arr Z h224 b78 .int (Int32.ofNat (2 * qn)) c175 := V220.other W225 ne_b78_b184
  have V231 : own_Arr Z h224 b184 .int (6 : Int32) (fun i => if i = (3 : Int32) then (-1 : Int32) else (fun i => if i = (2 : Int32) then (-1 : Int32) else (fun i => if i = (1 : Int32) then (-1 : Int32) else (fun i => if i = (0 : Int32) then (-1 : Int32) else (fun _ => 0) i) i) i) i) := V226
  show own_Go _ _ _ _ (T222.setTop (mkF m 165 #[.val (.int p0), .val (.long q1), .second, .val (.int p2), .val (.int p3), .val (.int p4), .val (.ref b4), .val (.int (Int32.ofNat i0)), .val (.int (Int32.ofNat (i0 + d0))), .val (.int (Int32.ofNat qn)), .val (.ref b78), .unset, .unset, .unset, .unset, .unset, .unset, .unset] [(.ref b184)]))
  refine own_go (fun t_ k_ => XS.dup A223.here hx rfl (hb hby at_165) rfl rfl k_) ?_
  show own_Go _ _ _ _ (T222.setTop (mkF m 166 #[.val (.int p0), .val (.long q1), .second, .val (.int p2), .val (.int p3), .val (.int p4), .val (.ref b4), .val (.int (Int32.ofNat i0)), .val (.int (Int32.ofNat (i0 + d0))), .val (.int (Int32.ofNat qn)), .val (.ref b78), .unset, .unset, .unset, .unset, .unset, .unset, .unset] [(.ref b184), (.ref b184)]))
  refine own_go (fun t_ k_ => XS.iconst A223.here hx rfl (hb hby at_166) k_) ?_
  show own_Go _ _ _ _ (T222.setTop (mkF m 167 #[.val (.int p0), .val (.long q1), .second, .val (.int p2), .val (.int p3), .val (.int p4), .val (.ref b4), .val (.int (Int32.ofNat i0)), .val (.int (Int32.ofNat (i0 + d0))), .val (.int (Int32.ofNat qn)), .val (.ref b78), .unset, .unset, .unset, .unset, .unset, .unset, .unset] [(.int (4 : Int32)), (.ref b184), (.ref b184)]))
  refine own_go (fun t_ k_ => XS.iconst A223.here hx rfl (hb hby at_167) k_) ?_
  show own_Go _ _ _ _ (T222.setTop (mkF m 168 #[.val (.int p0), .val (.long q1), .second, .val (.int p2), .val (.int p3), .val (.int p4), .val (.ref b4), .val (.int (Int32.ofNat i0)), .val (.int (Int32.ofNat (i0 + d0))), .val (.int (Int32.ofNat qn)), .val (.ref b78), .unset, .unset, .unset, .unset, .unset, .unset, .unset] [(.int (-1 : Int32)), (.int (4 : Int32)), (.ref b184), (.ref b184)]))
  refine own_stI A223 hx hZ V231 ⟨by decide, by decide⟩ g_b184 rfl rfl (hb hby at_168) (fun T232 h234 A233 W235 V236 => ?_)
  have O237 : Old Z n0 h234 := O227.wr W235 g_b184
  have Z238 : n0 ≤ h234.size := Nat.le_trans Z228 (Nat.le_of_eq (Wr.size W235).symm)
  have V239 : own_Arr Z h234 b4 .byte (5 : Int32) fb := V229.other W235 ne_b4_b184
  have V240 : own_Arr Z h234 b78 .int (Int32.ofNat (2 * qn)) c175 := V230.other W235 ne_b78_b184
  have V241 : own_Arr Z h234 b184 .int (6 : Int32) (fun i => if i = (4 : Int32) then (-1 : Int32) else (fun i => if i = (3 : Int32) then (-1 : Int32) else (fun i => if i = (2 : Int32) then (-1 : Int32) else (fun i => if i = (1 : Int32) then (-1 : Int32) else (fun i => if i = (0 : Int32) then (-1 : Int32) else (fun _ => 0) i) i) i) i) i) := V236
  show own_Go _ _ _ _ (T232.setTop (mkF m 169 #[.val (.int p0), .val (.long q1), .second, .val (.int p2), .val (.int p3), .val (.int p4), .val (.ref b4), .val (.int (Int32.ofNat i0)), .val (.int (Int32.ofNat (i0 + d0))), .val (.int (Int32.ofNat qn)), .val (.ref b78), .unset, .unset, .unset, .unset, .unset, .unset, .unset] [(.ref b184)]))
  refine own_go (fun t_ k_ => XS.dup A233.here hx rfl (hb hby at_169) rfl rfl k_) ?_
  show own_Go _ _ _ _ (T232.setTop (mkF m 170 #[.val (.int p0), .val (.long q1), .second, .val (.int p2), .val (.int p3), .val (.int p4), .val (.ref b4), .val (.int (Int32.ofNat i0)), .val (.int (Int32.ofNat (i0 + d0))), .val (.int (Int32.ofNat qn)), .val (.ref b78), .unset, .unset, .unset, .unset, .unset, .unset, .unset] [(.ref b184), (.ref b184)]))
  refine own_go (fun t_ k_ => XS.iconst A233.here hx rfl (hb hby at_170) k_) ?_
  show own_Go _ _ _ _ (T232.setTop (mkF m 171 #[.val (.int p0), .val (.long q1), .second, .val (.int p2), .val (.int p3), .val (.int p4), .val (.ref b4), .val (.int (Int32.ofNat i0)), .val (.int (Int32.ofNat (i0 + d0))), .val (.int (Int32.ofNat qn)), .val (.ref b78), .unset, .unset, .unset, .unset, .unset, .unset, .unset] [(.int (5 : Int32)), (.ref b184), (.ref b184)]))
  refine own_go (fun t_ k_ => XS.iconst A233.here hx rfl (hb hby at_171) k_) ?_
  show own_Go _ _ _ _ (T232.setTop (mkF m 172 #[.val (.int p0), .val (.long q1), .second, .val (.int p2), .val (.int p3), .val (.int p4), .val (.ref b4), .val (.int (Int32.ofNat i0)), .val (.int (Int32.ofNat (i0 + d0))), .val (.int (Int32.ofNat qn)), .val (.ref b78), .unset, .unset, .unset, .unset, .unset, .unset, .unset] [(.int (-1 : Int32)), (.int (5 : Int32)), (.ref b184), (.ref b184)]))
  refine own_stI A233 hx hZ V241 ⟨by decide, by decide⟩ g_b184 rfl rfl (hb hby at_172) (fun T242 h244 A243 W245 V246 => ?_)
  have O247 : Old Z n0 h244 := O237.wr W245 g_b184
  have Z248 : n0 ≤ h244.size := Nat.le_trans Z238 (Nat.le_of_eq (Wr.size W245).symm)
  have V249 : own_Arr Z h244 b4 .byte (5 : Int32) fb := V239.other W245 ne_b4_b184
  have V250 : own_Arr Z h244 b78 .int (Int32.ofNat (2 * qn)) c175 := V240.other W245 ne_b78_b184
  have V251 : own_Arr Z h244 b184 .int (6 : Int32) (fun i => if i = (5 : Int32) then (-1 : Int32) else (fun i => if i = (4 : Int32) then (-1 : Int32) else (fun i => if i = (3 : Int32) then (-1 : Int32) else (fun i => if i = (2 : Int32) then (-1 : Int32) else (fun i => if i = (1 : Int32) then (-1 : Int32) else (fun i => if i = (0 : Int32) then (-1 : Int32) else (fun _ => 0) i) i) i) i) i) i) := V246
  show own_Go _ _ _ _ (T242.setTop (mkF m 173 #[.val (.int p0), .val (.long q1), .second, .val (.int p2), .val (.int p3), .val (.int p4), .val (.ref b4), .val (.int (Int32.ofNat i0)), .val (.int (Int32.ofNat (i0 + d0))), .val (.int (Int32.ofNat qn)), .val (.ref b78), .unset, .unset, .unset, .unset, .unset, .unset, .unset] [(.ref b184)]))
  have VF : own_Arr Z h244 b184 .int (6 : Int32) (fun _ => -1) := V251.congr (fun i h0 h1 => by rcases own_six i h0 h1 with rfl | rfl | rfl | rfl | rfl | rfl <;> rfl)
  refine own_go (fun t_ k_ => XS.astore A243.here hx rfl (hb hby at_173) rfl rfl (l' := #[.val (.int p0), .val (.long q1), .second, .val (.int p2), .val (.int p3), .val (.int p4), .val (.ref b4), .val (.int (Int32.ofNat i0)), .val (.int (Int32.ofNat (i0 + d0))), .val (.int (Int32.ofNat qn)), .val (.ref b78), .val (.ref b184), .unset, .unset, .unset, .unset, .unset, .unset]) rfl k_) ?_
  show own_Go _ _ _ _ (T242.setTop (mkF m 175 #[.val (.int p0), .val (.long q1), .second, .val (.int p2), .val (.int p3), .val (.int p4), .val (.ref b4), .val (.int (Int32.ofNat i0)), .val (.int (Int32.ofNat (i0 + d0))), .val (.int (Int32.ofNat qn)), .val (.ref b78), .val (.ref b184), .unset, .unset, .unset, .unset, .unset, .unset] []))
  refine own_go (fun t_ k_ => XS.bipush A243.here hx rfl (hb hby at_175) k_) ?_
  show own_Go _ _ _ _ (T242.setTop (mkF m 177 #[.val (.int p0), .val (.long q1), .second, .val (.int p2), .val (.int p3), .val (.int p4), .val (.ref b4), .val (.int (Int32.ofNat i0)), .val (.int (Int32.ofNat (i0 + d0))), .val (.int (Int32.ofNat qn)), .val (.ref b78), .val (.ref b184), .unset, .unset, .unset, .unset, .unset, .unset] [(.int (6 : Int32))]))
  refine own_newP A243 hx hZ (hw _ (List.mem_of_getElem? (i := 6) rfl)) rfl rfl (hb hby at_177) rfl (by decide) 6 (by decide) (by decide) (by decide) (by decide) (fun T252 h254 b255 ha_b255 A253 E256 V257 R258 => ?_)
  have ne_b4_b255 : b4 ≠ b255 := Nat.ne_of_lt (by rw [ha_b255]; exact V249.lt)
  have ne_b78_b255 : b78 ≠ b255 := Nat.ne_of_lt (by rw [ha_b255]; exact V250.lt)
  have ne_b184_b255 : b184 ≠ b255 := Nat.ne_of_lt (by rw [ha_b255]; exact VF.lt)
  have g_b255 : n0 ≤ b255 := by rw [ha_b255]; exact Z248
  have O259 : Old Z n0 h254 := O247.ext E256
  have Z260 : n0 ≤ h254.size := Nat.le_trans Z248 E256.1
  have V261 : own_Arr Z h254 b4 .byte (5 : Int32) fb := V249.ext E256
  have V262 : own_Arr Z h254 b78 .int (Int32.ofNat (2 * qn)) c175 := V250.ext E256
  have V263 : own_Arr Z h254 b184 .int (6 : Int32) (fun _ => -1) := VF.ext E256
  show own_Go _ _ _ _ (T252.setTop (mkF m 179 #[.val (.int p0), .val (.long q1), .second, .val (.int p2), .val (.int p3), .val (.int p4), .val (.ref b4), .val (.int (Int32.ofNat i0)), .val (.int (Int32.ofNat (i0 + d0))), .val (.int (Int32.ofNat qn)), .val (.ref b78), .val (.ref b184), .unset, .unset, .unset, .unset, .unset, .unset] [(.ref b255)]))
  refine own_go (fun t_ k_ => XS.astore A253.here hx rfl (hb hby at_179) rfl rfl (l' := #[.val (.int p0), .val (.long q1), .second, .val (.int p2), .val (.int p3), .val (.int p4), .val (.ref b4), .val (.int (Int32.ofNat i0)), .val (.int (Int32.ofNat (i0 + d0))), .val (.int (Int32.ofNat qn)), .val (.ref b78), .val (.ref b184), .val (.ref b255), .unset, .unset, .unset, .unset, .unset]) rfl k_) ?_
  show own_Go _ _ _ _ (T252.setTop (mkF m 181 #[.val (.int p0), .val (.long q1), .second, .val (.int p2), .val (.int p3), .val (.int p4), .val (.ref b4), .val (.int (Int32.ofNat i0)), .val (.int (Int32.ofNat (i0 + d0))), .val (.int (Int32.ofNat qn)), .val (.ref b78), .val (.ref b184), .val (.ref b255), .unset, .unset, .unset, .unset, .unset] []))
  refine own_go (fun t_ k_ => XS.bipush A253.here hx rfl (hb hby at_181) k_) ?_
  show own_Go _ _ _ _ (T252.setTop (mkF m 183 #[.val (.int p0), .val (.long q1), .second, .val (.int p2), .val (.int p3), .val (.int p4), .val (.ref b4), .val (.int (Int32.ofNat i0)), .val (.int (Int32.ofNat (i0 + d0))), .val (.int (Int32.ofNat qn)), .val (.ref b78), .val (.ref b184), .val (.ref b255), .unset, .unset, .unset, .unset, .unset] [(.int (6 : Int32))]))
  refine own_newP A253 hx hZ (hw _ (List.mem_of_getElem? (i := 6) rfl)) rfl rfl (hb hby at_183) rfl (by decide) 6 (by decide) (by decide) (by decide) (by decide) (fun T264 h266 b267 ha_b267 A265 E268 V269 R270 => ?_)
  have ne_b4_b267 : b4 ≠ b267 := Nat.ne_of_lt (by rw [ha_b267]; exact V261.lt)
  have ne_b78_b267 : b78 ≠ b267 := Nat.ne_of_lt (by rw [ha_b267]; exact V262.lt)
  have ne_b184_b267 : b184 ≠ b267 := Nat.ne_of_lt (by rw [ha_b267]; exact V263.lt)
  have ne_b255_b267 : b255 ≠ b267 := Nat.ne_of_lt (by rw [ha_b267]; exact V257.lt)
  have g_b267 : n0 ≤ b267 := by rw [ha_b267]; exact Z260
  have O271 : Old Z n0 h266 := O259.ext E268
  have Z272 : n0 ≤ h266.size := Nat.le_trans Z260 E268.1
  have V273 : own_Arr Z h266 b4 .byte (5 : Int32) fb := V261.ext E268
  have V274 : own_Arr Z h266 b78 .int (Int32.ofNat (2 * qn)) c175 := V262.ext E268
  have V275 : own_Arr Z h266 b184 .int (6 : Int32) (fun _ => -1) := V263.ext E268
  have V276 : own_Arr Z h266 b255 .int (6 : Int32) (fun _ => 0) := V257.ext E268
  show own_Go _ _ _ _ (T264.setTop (mkF m 185 #[.val (.int p0), .val (.long q1), .second, .val (.int p2), .val (.int p3), .val (.int p4), .val (.ref b4), .val (.int (Int32.ofNat i0)), .val (.int (Int32.ofNat (i0 + d0))), .val (.int (Int32.ofNat qn)), .val (.ref b78), .val (.ref b184), .val (.ref b255), .unset, .unset, .unset, .unset, .unset] [(.ref b267)]))
  refine own_go (fun t_ k_ => XS.astore A265.here hx rfl (hb hby at_185) rfl rfl (l' := #[.val (.int p0), .val (.long q1), .second, .val (.int p2), .val (.int p3), .val (.int p4), .val (.ref b4), .val (.int (Int32.ofNat i0)), .val (.int (Int32.ofNat (i0 + d0))), .val (.int (Int32.ofNat qn)), .val (.ref b78), .val (.ref b184), .val (.ref b255), .val (.ref b267), .unset, .unset, .unset, .unset]) rfl k_) ?_
  show own_Go _ _ _ _ (T264.setTop (mkF m 187 #[.val (.int p0), .val (.long q1), .second, .val (.int p2), .val (.int p3), .val (.int p4), .val (.ref b4), .val (.int (Int32.ofNat i0)), .val (.int (Int32.ofNat (i0 + d0))), .val (.int (Int32.ofNat qn)), .val (.ref b78), .val (.ref b184), .val (.ref b255), .val (.ref b267), .unset, .unset, .unset, .unset] []))
  refine own_go (fun t_ k_ => XS.iconst A265.here hx rfl (hb hby at_187) k_) ?_
  show own_Go _ _ _ _ (T264.setTop (mkF m 188 #[.val (.int p0), .val (.long q1), .second, .val (.int p2), .val (.int p3), .val (.int p4), .val (.ref b4), .val (.int (Int32.ofNat i0)), .val (.int (Int32.ofNat (i0 + d0))), .val (.int (Int32.ofNat qn)), .val (.ref b78), .val (.ref b184), .val (.ref b255), .val (.ref b267), .unset, .unset, .unset, .unset] [(.int (1 : Int32))]))
  refine own_newP A265 hx hZ (hw _ (List.mem_of_getElem? (i := 6) rfl)) rfl rfl (hb hby at_188) rfl (by decide) 1 (by decide) (by decide) (by decide) (by decide) (fun T277 h279 b280 ha_b280 A278 E281 V282 R283 => ?_)
  have ne_b4_b280 : b4 ≠ b280 := Nat.ne_of_lt (by rw [ha_b280]; exact V273.lt)
  have ne_b78_b280 : b78 ≠ b280 := Nat.ne_of_lt (by rw [ha_b280]; exact V274.lt)
  have ne_b184_b280 : b184 ≠ b280 := Nat.ne_of_lt (by rw [ha_b280]; exact V275.lt)
  have ne_b255_b280 : b255 ≠ b280 := Nat.ne_of_lt (by rw [ha_b280]; exact V276.lt)
  have ne_b267_b280 : b267 ≠ b280 := Nat.ne_of_lt (by rw [ha_b280]; exact V269.lt)
  have g_b280 : n0 ≤ b280 := by rw [ha_b280]; exact Z272
  have O284 : Old Z n0 h279 := O271.ext E281
  have Z285 : n0 ≤ h279.size := Nat.le_trans Z272 E281.1
  have V286 : own_Arr Z h279 b4 .byte (5 : Int32) fb := V273.ext E281
  have V287 : own_Arr Z h279 b78 .int (Int32.ofNat (2 * qn)) c175 := V274.ext E281
  have V288 : own_Arr Z h279 b184 .int (6 : Int32) (fun _ => -1) := V275.ext E281
  have V289 : own_Arr Z h279 b255 .int (6 : Int32) (fun _ => 0) := V276.ext E281
  have V290 : own_Arr Z h279 b267 .int (6 : Int32) (fun _ => 0) := V269.ext E281
  show own_Go _ _ _ _ (T277.setTop (mkF m 190 #[.val (.int p0), .val (.long q1), .second, .val (.int p2), .val (.int p3), .val (.int p4), .val (.ref b4), .val (.int (Int32.ofNat i0)), .val (.int (Int32.ofNat (i0 + d0))), .val (.int (Int32.ofNat qn)), .val (.ref b78), .val (.ref b184), .val (.ref b255), .val (.ref b267), .unset, .unset, .unset, .unset] [(.ref b280)]))
  refine own_go (fun t_ k_ => XS.astore A278.here hx rfl (hb hby at_190) rfl rfl (l' := #[.val (.int p0), .val (.long q1), .second, .val (.int p2), .val (.int p3), .val (.int p4), .val (.ref b4), .val (.int (Int32.ofNat i0)), .val (.int (Int32.ofNat (i0 + d0))), .val (.int (Int32.ofNat qn)), .val (.ref b78), .val (.ref b184), .val (.ref b255), .val (.ref b267), .val (.ref b280), .unset, .unset, .unset]) rfl k_) ?_
  show own_Go _ _ _ _ (T277.setTop (mkF m 192 #[.val (.int p0), .val (.long q1), .second, .val (.int p2), .val (.int p3), .val (.int p4), .val (.ref b4), .val (.int (Int32.ofNat i0)), .val (.int (Int32.ofNat (i0 + d0))), .val (.int (Int32.ofNat qn)), .val (.ref b78), .val (.ref b184), .val (.ref b255), .val (.ref b267), .val (.ref b280), .unset, .unset, .unset] []))
  have V291 : own_Arr Z h279 b184 .int (6 : Int32) own_s0.1 := V288
  have V292 : own_Arr Z h279 b255 .int (6 : Int32) own_s0.2.1 := V289
  have V293 : own_Arr Z h279 b267 .int (6 : Int32) own_s0.2.2.1 := V290
  have V294 : own_Arr Z h279 b280 .int (1 : Int32) (fun _ => Int32.ofNat own_s0.2.2.2) := V282
  refine own_go (fun t_ k_ => XS.aload A278.here hx rfl (hb hby at_192) rfl rfl k_) ?_
  show own_Go _ _ _ _ (T277.setTop (mkF m 194 #[.val (.int p0), .val (.long q1), .second, .val (.int p2), .val (.int p3), .val (.int p4), .val (.ref b4), .val (.int (Int32.ofNat i0)), .val (.int (Int32.ofNat (i0 + d0))), .val (.int (Int32.ofNat qn)), .val (.ref b78), .val (.ref b184), .val (.ref b255), .val (.ref b267), .val (.ref b280), .unset, .unset, .unset] [(.ref b4)]))
  refine own_go (fun t_ k_ => XS.iconst A278.here hx rfl (hb hby at_194) k_) ?_
  show own_Go _ _ _ _ (T277.setTop (mkF m 195 #[.val (.int p0), .val (.long q1), .second, .val (.int p2), .val (.int p3), .val (.int p4), .val (.ref b4), .val (.int (Int32.ofNat i0)), .val (.int (Int32.ofNat (i0 + d0))), .val (.int (Int32.ofNat qn)), .val (.ref b78), .val (.ref b184), .val (.ref b255), .val (.ref b267), .val (.ref b280), .unset, .unset, .unset] [(.int (0 : Int32)), (.ref b4)]))
  refine own_go (fun t_ k_ => XS.iload A278.here hx rfl (hb hby at_195) rfl k_) ?_
  show own_Go _ _ _ _ (T277.setTop (mkF m 197 #[.val (.int p0), .val (.long q1), .second, .val (.int p2), .val (.int p3), .val (.int p4), .val (.ref b4), .val (.int (Int32.ofNat i0)), .val (.int (Int32.ofNat (i0 + d0))), .val (.int (Int32.ofNat qn)), .val (.ref b78), .val (.ref b184), .val (.ref b255), .val (.ref b267), .val (.ref b280), .unset, .unset, .unset] [(.int (Int32.ofNat i0)), (.int (0 : Int32)), (.ref b4)]))
  refine own_go (fun t_ k_ => XS.iload A278.here hx rfl (hb hby at_197) rfl k_) ?_
  show own_Go _ _ _ _ (T277.setTop (mkF m 199 #[.val (.int p0), .val (.long q1), .second, .val (.int p2), .val (.int p3), .val (.int p4), .val (.ref b4), .val (.int (Int32.ofNat i0)), .val (.int (Int32.ofNat (i0 + d0))), .val (.int (Int32.ofNat qn)), .val (.ref b78), .val (.ref b184), .val (.ref b255), .val (.ref b267), .val (.ref b280), .unset, .unset, .unset] [(.int (Int32.ofNat (i0 + d0))), (.int (Int32.ofNat i0)), (.int (0 : Int32)), (.ref b4)]))
  refine own_go (fun t_ k_ => XS.aload A278.here hx rfl (hb hby at_199) rfl rfl k_) ?_
  show own_Go _ _ _ _ (T277.setTop (mkF m 201 #[.val (.int p0), .val (.long q1), .second, .val (.int p2), .val (.int p3), .val (.int p4), .val (.ref b4), .val (.int (Int32.ofNat i0)), .val (.int (Int32.ofNat (i0 + d0))), .val (.int (Int32.ofNat qn)), .val (.ref b78), .val (.ref b184), .val (.ref b255), .val (.ref b267), .val (.ref b280), .unset, .unset, .unset] [(.ref b184), (.int (Int32.ofNat (i0 + d0))), (.int (Int32.ofNat i0)), (.int (0 : Int32)), (.ref b4)]))
  refine own_go (fun t_ k_ => XS.aload A278.here hx rfl (hb hby at_201) rfl rfl k_) ?_
  show own_Go _ _ _ _ (T277.setTop (mkF m 203 #[.val (.int p0), .val (.long q1), .second, .val (.int p2), .val (.int p3), .val (.int p4), .val (.ref b4), .val (.int (Int32.ofNat i0)), .val (.int (Int32.ofNat (i0 + d0))), .val (.int (Int32.ofNat qn)), .val (.ref b78), .val (.ref b184), .val (.ref b255), .val (.ref b267), .val (.ref b280), .unset, .unset, .unset] [(.ref b255), (.ref b184), (.int (Int32.ofNat (i0 + d0))), (.int (Int32.ofNat i0)), (.int (0 : Int32)), (.ref b4)]))
  refine own_go (fun t_ k_ => XS.aload A278.here hx rfl (hb hby at_203) rfl rfl k_) ?_
  show own_Go _ _ _ _ (T277.setTop (mkF m 205 #[.val (.int p0), .val (.long q1), .second, .val (.int p2), .val (.int p3), .val (.int p4), .val (.ref b4), .val (.int (Int32.ofNat i0)), .val (.int (Int32.ofNat (i0 + d0))), .val (.int (Int32.ofNat qn)), .val (.ref b78), .val (.ref b184), .val (.ref b255), .val (.ref b267), .val (.ref b280), .unset, .unset, .unset] [(.ref b267), (.ref b255), (.ref b184), (.int (Int32.ofNat (i0 + d0))), (.int (Int32.ofNat i0)), (.int (0 : Int32)), (.ref b4)]))
  refine own_go (fun t_ k_ => XS.aload A278.here hx rfl (hb hby at_205) rfl rfl k_) ?_
  show own_Go _ _ _ _ (T277.setTop (mkF m 207 #[.val (.int p0), .val (.long q1), .second, .val (.int p2), .val (.int p3), .val (.int p4), .val (.ref b4), .val (.int (Int32.ofNat i0)), .val (.int (Int32.ofNat (i0 + d0))), .val (.int (Int32.ofNat qn)), .val (.ref b78), .val (.ref b184), .val (.ref b255), .val (.ref b267), .val (.ref b280), .unset, .unset, .unset] [(.ref b280), (.ref b267), (.ref b255), (.ref b184), (.int (Int32.ofNat (i0 + d0))), (.int (Int32.ofNat i0)), (.int (0 : Int32)), (.ref b4)]))
  refine own_callS A278 hx hZ hown (y := (⟨"com/example/indexloom/indexloom/data/DataHeaderSplitPinLaw", "step", "([BIII[I[I[I[I)V"⟩ : MethodName)) (hw _ (List.mem_of_getElem? (i := 10) rfl)) (hw _ (List.mem_of_getElem? (i := 11) rfl)) (hw _ (List.mem_of_getElem? (i := 3) rfl)) (hw _ (List.mem_of_getElem? (i := 12) rfl)) (by decide) (argsL := [(.ref b4), (.int (0 : Int32)), (.int (Int32.ofNat i0)), (.int (Int32.ofNat (i0 + d0))), (.ref b184), (.ref b255), (.ref b267), (.ref b280)]) (rest := []) (rm3 l Z a0 hw b4 b184 b255 b267 b280 0 i0 (i0 + d0) own_s0 fb (own_cmC (own_code fb)) (own_blC (own_code fb)) h279 n0 V286 V291 V292 V293 V294 ne_b4_b184 ne_b4_b255 ne_b4_b267 ne_b4_b280 ne_b184_b255 ne_b184_b267 ne_b184_b280 ne_b255_b267 ne_b255_b280 ne_b267_b280 g_b184 g_b255 g_b267 g_b280 (own_cls5 fb 5 (Nat.le_refl _)) (by decide) (Nat.le_refl _) (by omega) (by omega)) 0 (by decide) (by decide) rfl (by rw [hml]; rfl) (lenOf pd___BIII_I_I_I_I_V rfl) rfl (by show 2 * 0 + _ ≤ _; exact Nat.le_of_eq rfl) (hb hby at_207) (by decide) (by decide) (fun v298 T295 h297 A296 hQ299 => ?_)
  obtain ⟨rfl, K300, V301, V302, V303, V304⟩ := hQ299
  have O305 : Old Z n0 h297 := O284.keep K300 (allS g_b184 (allS g_b255 (allS g_b267 (allS g_b280 all0))))
  have Z306 : n0 ≤ h297.size := Nat.le_trans Z285 K300.1
  have V307 : own_Arr Z h297 b4 .byte (5 : Int32) fb := V286.keep K300 (ninS ne_b4_b184 (ninS ne_b4_b255 (ninS ne_b4_b267 (ninS ne_b4_b280 nin0))))
  have V308 : own_Arr Z h297 b78 .int (Int32.ofNat (2 * qn)) c175 := V287.keep K300 (ninS ne_b78_b184 (ninS ne_b78_b255 (ninS ne_b78_b267 (ninS ne_b78_b280 nin0))))
  have hk310 := own_stp_le (own_cmC (own_code fb)) (own_blC (own_code fb)) i0 (i0 + d0) 0 own_s0 (Nat.le_refl _)
  generalize esg309 : (own_stp (own_cmC (own_code fb)) (own_blC (own_code fb)) i0 (i0 + d0) 0 own_s0) = sg309 at hk310 V301 V302 V303 V304
  show own_Go _ _ _ _ (T295.setTop (mkF m 210 #[.val (.int p0), .val (.long q1), .second, .val (.int p2), .val (.int p3), .val (.int p4), .val (.ref b4), .val (.int (Int32.ofNat i0)), .val (.int (Int32.ofNat (i0 + d0))), .val (.int (Int32.ofNat qn)), .val (.ref b78), .val (.ref b184), .val (.ref b255), .val (.ref b267), .val (.ref b280), .unset, .unset, .unset] []))
  refine own_go (fun t_ k_ => XS.aload A296.here hx rfl (hb hby at_210) rfl rfl k_) ?_
  show own_Go _ _ _ _ (T295.setTop (mkF m 212 #[.val (.int p0), .val (.long q1), .second, .val (.int p2), .val (.int p3), .val (.int p4), .val (.ref b4), .val (.int (Int32.ofNat i0)), .val (.int (Int32.ofNat (i0 + d0))), .val (.int (Int32.ofNat qn)), .val (.ref b78), .val (.ref b184), .val (.ref b255), .val (.ref b267), .val (.ref b280), .unset, .unset, .unset] [(.ref b4)]))
  refine own_go (fun t_ k_ => XS.iconst A296.here hx rfl (hb hby at_212) k_) ?_
  show own_Go _ _ _ _ (T295.setTop (mkF m 213 #[.val (.int p0), .val (.long q1), .second, .val (.int p2), .val (.int p3), .val (.int p4), .val (.ref b4), .val (.int (Int32.ofNat i0)), .val (.int (Int32.ofNat (i0 + d0))), .val (.int (Int32.ofNat qn)), .val (.ref b78), .val (.ref b184), .val (.ref b255), .val (.ref b267), .val (.ref b280), .unset, .unset, .unset] [(.int (1 : Int32)), (.ref b4)]))
  refine own_go (fun t_ k_ => XS.iload A296.here hx rfl (hb hby at_213) rfl k_) ?_
  show own_Go _ _ _ _ (T295.setTop (mkF m 215 #[.val (.int p0), .val (.long q1), .second, .val (.int p2), .val (.int p3), .val (.int p4), .val (.ref b4), .val (.int (Int32.ofNat i0)), .val (.int (Int32.ofNat (i0 + d0))), .val (.int (Int32.ofNat qn)), .val (.ref b78), .val (.ref b184), .val (.ref b255), .val (.ref b267), .val (.ref b280), .unset, .unset, .unset] [(.int (Int32.ofNat i0)), (.int (1 : Int32)), (.ref b4)]))
  refine own_go (fun t_ k_ => XS.iload A296.here hx rfl (hb hby at_215) rfl k_) ?_
  show own_Go _ _ _ _ (T295.setTop (mkF m 217 #[.val (.int p0), .val (.long q1), .second, .val (.int p2), .val (.int p3), .val (.int p4), .val (.ref b4), .val (.int (Int32.ofNat i0)), .val (.int (Int32.ofNat (i0 + d0))), .val (.int (Int32.ofNat qn)), .val (.ref b78), .val (.ref b184), .val (.ref b255), .val (.ref b267), .val (.ref b280), .unset, .unset, .unset] [(.int (Int32.ofNat (i0 + d0))), (.int (Int32.ofNat i0)), (.int (1 : Int32)), (.ref b4)]))
  refine own_go (fun t_ k_ => XS.aload A296.here hx rfl (hb hby at_217) rfl rfl k_) ?_
  show own_Go _ _ _ _ (T295.setTop (mkF m 219 #[.val (.int p0), .val (.long q1), .second, .val (.int p2), .val (.int p3), .val (.int p4), .val (.ref b4), .val (.int (Int32.ofNat i0)), .val (.int (Int32.ofNat (i0 + d0))), .val (.int (Int32.ofNat qn)), .val (.ref b78), .val (.ref b184), .val (.ref b255), .val (.ref b267), .val (.ref b280), .unset, .unset, .unset] [(.ref b184), (.int (Int32.ofNat (i0 + d0))), (.int (Int32.ofNat i0)), (.int (1 : Int32)), (.ref b4)]))
  refine own_go (fun t_ k_ => XS.aload A296.here hx rfl (hb hby at_219) rfl rfl k_) ?_
  show own_Go _ _ _ _ (T295.setTop (mkF m 221 #[.val (.int p0), .val (.long q1), .second, .val (.int p2), .val (.int p3), .val (.int p4), .val (.ref b4), .val (.int (Int32.ofNat i0)), .val (.int (Int32.ofNat (i0 + d0))), .val (.int (Int32.ofNat qn)), .val (.ref b78), .val (.ref b184), .val (.ref b255), .val (.ref b267), .val (.ref b280), .unset, .unset, .unset] [(.ref b255), (.ref b184), (.int (Int32.ofNat (i0 + d0))), (.int (Int32.ofNat i0)), (.int (1 : Int32)), (.ref b4)]))
  refine own_go (fun t_ k_ => XS.aload A296.here hx rfl (hb hby at_221) rfl rfl k_) ?_
  show own_Go _ _ _ _ (T295.setTop (mkF m 223 #[.val (.int p0), .val (.long q1), .second, .val (.int p2), .val (.int p3), .val (.int p4), .val (.ref b4), .val (.int (Int32.ofNat i0)), .val (.int (Int32.ofNat (i0 + d0))), .val (.int (Int32.ofNat qn)), .val (.ref b78), .val (.ref b184), .val (.ref b255), .val (.ref b267), .val (.ref b280), .unset, .unset, .unset] [(.ref b267), (.ref b255), (.ref b184), (.int (Int32.ofNat (i0 + d0))), (.int (Int32.ofNat i0)), (.int (1 : Int32)), (.ref b4)]))
  refine own_go (fun t_ k_ => XS.aload A296.here hx rfl (hb hby at_223) rfl rfl k_) ?_
  show own_Go _ _ _ _ (T295.setTop (mkF m 225 #[.val (.int p0), .val (.long q1), .second, .val (.int p2), .val (.int p3), .val (.int p4), .val (.ref b4), .val (.int (Int32.ofNat i0)), .val (.int (Int32.ofNat (i0 + d0))), .val (.int (Int32.ofNat qn)), .val (.ref b78), .val (.ref b184), .val (.ref b255), .val (.ref b267), .val (.ref b280), .unset, .unset, .unset] [(.ref b280), (.ref b267), (.ref b255), (.ref b184), (.int (Int32.ofNat (i0 + d0))), (.int (Int32.ofNat i0)), (.int (1 : Int32)), (.ref b4)]))
  refine own_callS A296 hx hZ hown (y := (⟨"com/example/indexloom/indexloom/data/DataHeaderSplitPinLaw", "step", "([BIII[I[I[I[I)V"⟩ : MethodName)) (hw _ (List.mem_of_getElem? (i := 10) rfl)) (hw _ (List.mem_of_getElem? (i := 11) rfl)) (hw _ (List.mem_of_getElem? (i := 3) rfl)) (hw _ (List.mem_of_getElem? (i := 12) rfl)) (by decide) (argsL := [(.ref b4), (.int (1 : Int32)), (.int (Int32.ofNat i0)), (.int (Int32.ofNat (i0 + d0))), (.ref b184), (.ref b255), (.ref b267), (.ref b280)]) (rest := []) (rm3 l Z a0 hw b4 b184 b255 b267 b280 1 i0 (i0 + d0) sg309 fb (own_cmC (own_code fb)) (own_blC (own_code fb)) h297 n0 V307 V301 V302 V303 V304 ne_b4_b184 ne_b4_b255 ne_b4_b267 ne_b4_b280 ne_b184_b255 ne_b184_b267 ne_b184_b280 ne_b255_b267 ne_b255_b280 ne_b267_b280 g_b184 g_b255 g_b267 g_b280 (own_cls5 fb 5 (Nat.le_refl _)) (by decide) hk310 (by omega) (by omega)) 0 (by decide) (by decide) rfl (by rw [hml]; rfl) (lenOf pd___BIII_I_I_I_I_V rfl) rfl (by show 2 * 0 + _ ≤ _; exact Nat.le_of_eq rfl) (hb hby at_225) (by decide) (by decide) (fun v314 T311 h313 A312 hQ315 => ?_)
  obtain ⟨rfl, K316, V317, V318, V319, V320⟩ := hQ315
  have O321 : Old Z n0 h313 := O305.keep K316 (allS g_b184 (allS g_b255 (allS g_b267 (allS g_b280 all0))))
  have Z322 : n0 ≤ h313.size := Nat.le_trans Z306 K316.1
  have V323 : own_Arr Z h313 b4 .byte (5 : Int32) fb := V307.keep K316 (ninS ne_b4_b184 (ninS ne_b4_b255 (ninS ne_b4_b267 (ninS ne_b4_b280 nin0))))
  have V324 : own_Arr Z h313 b78 .int (Int32.ofNat (2 * qn)) c175 := V308.keep K316 (ninS ne_b78_b184 (ninS ne_b78_b255 (ninS ne_b78_b267 (ninS ne_b78_b280 nin0))))
  have hk326 := own_stp_le (own_cmC (own_code fb)) (own_blC (own_code fb)) i0 (i0 + d0) 1 sg309 hk310
  generalize esg325 : (own_stp (own_cmC (own_code fb)) (own_blC (own_code fb)) i0 (i0 + d0) 1 sg309) = sg325 at hk326 V317 V318 V319 V320
  show own_Go _ _ _ _ (T311.setTop (mkF m 228 #[.val (.int p0), .val (.long q1), .second, .val (.int p2), .val (.int p3), .val (.int p4), .val (.ref b4), .val (.int (Int32.ofNat i0)), .val (.int (Int32.ofNat (i0 + d0))), .val (.int (Int32.ofNat qn)), .val (.ref b78), .val (.ref b184), .val (.ref b255), .val (.ref b267), .val (.ref b280), .unset, .unset, .unset] []))
  refine own_go (fun t_ k_ => XS.aload A312.here hx rfl (hb hby at_228) rfl rfl k_) ?_
  show own_Go _ _ _ _ (T311.setTop (mkF m 230 #[.val (.int p0), .val (.long q1), .second, .val (.int p2), .val (.int p3), .val (.int p4), .val (.ref b4), .val (.int (Int32.ofNat i0)), .val (.int (Int32.ofNat (i0 + d0))), .val (.int (Int32.ofNat qn)), .val (.ref b78), .val (.ref b184), .val (.ref b255), .val (.ref b267), .val (.ref b280), .unset, .unset, .unset] [(.ref b4)]))
  refine own_go (fun t_ k_ => XS.iconst A312.here hx rfl (hb hby at_230) k_) ?_
  show own_Go _ _ _ _ (T311.setTop (mkF m 231 #[.val (.int p0), .val (.long q1), .second, .val (.int p2), .val (.int p3), .val (.int p4), .val (.ref b4), .val (.int (Int32.ofNat i0)), .val (.int (Int32.ofNat (i0 + d0))), .val (.int (Int32.ofNat qn)), .val (.ref b78), .val (.ref b184), .val (.ref b255), .val (.ref b267), .val (.ref b280), .unset, .unset, .unset] [(.int (2 : Int32)), (.ref b4)]))
  refine own_go (fun t_ k_ => XS.iload A312.here hx rfl (hb hby at_231) rfl k_) ?_
  show own_Go _ _ _ _ (T311.setTop (mkF m 233 #[.val (.int p0), .val (.long q1), .second, .val (.int p2), .val (.int p3), .val (.int p4), .val (.ref b4), .val (.int (Int32.ofNat i0)), .val (.int (Int32.ofNat (i0 + d0))), .val (.int (Int32.ofNat qn)), .val (.ref b78), .val (.ref b184), .val (.ref b255), .val (.ref b267), .val (.ref b280), .unset, .unset, .unset] [(.int (Int32.ofNat i0)), (.int (2 : Int32)), (.ref b4)]))
  refine own_go (fun t_ k_ => XS.iload A312.here hx rfl (hb hby at_233) rfl k_) ?_
  show own_Go _ _ _ _ (T311.setTop (mkF m 235 #[.val (.int p0), .val (.long q1), .second, .val (.int p2), .val (.int p3), .val (.int p4), .val (.ref b4), .val (.int (Int32.ofNat i0)), .val (.int (Int32.ofNat (i0 + d0))), .val (.int (Int32.ofNat qn)), .val (.ref b78), .val (.ref b184), .val (.ref b255), .val (.ref b267), .val (.ref b280), .unset, .unset, .unset] [(.int (Int32.ofNat (i0 + d0))), (.int (Int32.ofNat i0)), (.int (2 : Int32)), (.ref b4)]))
  refine own_go (fun t_ k_ => XS.aload A312.here hx rfl (hb hby at_235) rfl rfl k_) ?_
  show own_Go _ _ _ _ (T311.setTop (mkF m 237 #[.val (.int p0), .val (.long q1), .second, .val (.int p2), .val (.int p3), .val (.int p4), .val (.ref b4), .val (.int (Int32.ofNat i0)), .val (.int (Int32.ofNat (i0 + d0))), .val (.int (Int32.ofNat qn)), .val (.ref b78), .val (.ref b184), .val (.ref b255), .val (.ref b267), .val (.ref b280), .unset, .unset, .unset] [(.ref b184), (.int (Int32.ofNat (i0 + d0))), (.int (Int32.ofNat i0)), (.int (2 : Int32)), (.ref b4)]))
  refine own_go (fun t_ k_ => XS.aload A312.here hx rfl (hb hby at_237) rfl rfl k_) ?_
  show own_Go _ _ _ _ (T311.setTop (mkF m 239 #[.val (.int p0), .val (.long q1), .second, .val (.int p2), .val (.int p3), .val (.int p4), .val (.ref b4), .val (.int (Int32.ofNat i0)), .val (.int (Int32.ofNat (i0 + d0))), .val (.int (Int32.ofNat qn)), .val (.ref b78), .val (.ref b184), .val (.ref b255), .val (.ref b267), .val (.ref b280), .unset, .unset, .unset] [(.ref b255), (.ref b184), (.int (Int32.ofNat (i0 + d0))), (.int (Int32.ofNat i0)), (.int (2 : Int32)), (.ref b4)]))
  refine own_go (fun t_ k_ => XS.aload A312.here hx rfl (hb hby at_239) rfl rfl k_) ?_
  show own_Go _ _ _ _ (T311.setTop (mkF m 241 #[.val (.int p0), .val (.long q1), .second, .val (.int p2), .val (.int p3), .val (.int p4), .val (.ref b4), .val (.int (Int32.ofNat i0)), .val (.int (Int32.ofNat (i0 + d0))), .val (.int (Int32.ofNat qn)), .val (.ref b78), .val (.ref b184), .val (.ref b255), .val (.ref b267), .val (.ref b280), .unset, .unset, .unset] [(.ref b267), (.ref b255), (.ref b184), (.int (Int32.ofNat (i0 + d0))), (.int (Int32.ofNat i0)), (.int (2 : Int32)), (.ref b4)]))
  refine own_go (fun t_ k_ => XS.aload A312.here hx rfl (hb hby at_241) rfl rfl k_) ?_
  show own_Go _ _ _ _ (T311.setTop (mkF m 243 #[.val (.int p0), .val (.long q1), .second, .val (.int p2), .val (.int p3), .val (.int p4), .val (.ref b4), .val (.int (Int32.ofNat i0)), .val (.int (Int32.ofNat (i0 + d0))), .val (.int (Int32.ofNat qn)), .val (.ref b78), .val (.ref b184), .val (.ref b255), .val (.ref b267), .val (.ref b280), .unset, .unset, .unset] [(.ref b280), (.ref b267), (.ref b255), (.ref b184), (.int (Int32.ofNat (i0 + d0))), (.int (Int32.ofNat i0)), (.int (2 : Int32)), (.ref b4)]))
  refine own_callS A312 hx hZ hown (y := (⟨"com/example/indexloom/indexloom/data/DataHeaderSplitPinLaw", "step", "([BIII[I[I[I[I)V"⟩ : MethodName)) (hw _ (List.mem_of_getElem? (i := 10) rfl)) (hw _ (List.mem_of_getElem? (i := 11) rfl)) (hw _ (List.mem_of_getElem? (i := 3) rfl)) (hw _ (List.mem_of_getElem? (i := 12) rfl)) (by decide) (argsL := [(.ref b4), (.int (2 : Int32)), (.int (Int32.ofNat i0)), (.int (Int32.ofNat (i0 + d0))), (.ref b184), (.ref b255), (.ref b267), (.ref b280)]) (rest := []) (rm3 l Z a0 hw b4 b184 b255 b267 b280 2 i0 (i0 + d0) sg325 fb (own_cmC (own_code fb)) (own_blC (own_code fb)) h313 n0 V323 V317 V318 V319 V320 ne_b4_b184 ne_b4_b255 ne_b4_b267 ne_b4_b280 ne_b184_b255 ne_b184_b267 ne_b184_b280 ne_b255_b267 ne_b255_b280 ne_b267_b280 g_b184 g_b255 g_b267 g_b280 (own_cls5 fb 5 (Nat.le_refl _)) (by decide) hk326 (by omega) (by omega)) 0 (by decide) (by decide) rfl (by rw [hml]; rfl) (lenOf pd___BIII_I_I_I_I_V rfl) rfl (by show 2 * 0 + _ ≤ _; exact Nat.le_of_eq rfl) (hb hby at_243) (by decide) (by decide) (fun v330 T327 h329 A328 hQ331 => ?_)
  obtain ⟨rfl, K332, V333, V334, V335, V336⟩ := hQ331
  have O337 : Old Z n0 h329 := O321.keep K332 (allS g_b184 (allS g_b255 (allS g_b267 (allS g_b280 all0))))
  have Z338 : n0 ≤ h329.size := Nat.le_trans Z322 K332.1
  have V339 : own_Arr Z h329 b4 .byte (5 : Int32) fb := V323.keep K332 (ninS ne_b4_b184 (ninS ne_b4_b255 (ninS ne_b4_b267 (ninS ne_b4_b280 nin0))))
  have V340 : own_Arr Z h329 b78 .int (Int32.ofNat (2 * qn)) c175 := V324.keep K332 (ninS ne_b78_b184 (ninS ne_b78_b255 (ninS ne_b78_b267 (ninS ne_b78_b280 nin0))))
  have hk342 := own_stp_le (own_cmC (own_code fb)) (own_blC (own_code fb)) i0 (i0 + d0) 2 sg325 hk326
  generalize esg341 : (own_stp (own_cmC (own_code fb)) (own_blC (own_code fb)) i0 (i0 + d0) 2 sg325) = sg341 at hk342 V333 V334 V335 V336
  show own_Go _ _ _ _ (T327.setTop (mkF m 246 #[.val (.int p0), .val (.long q1), .second, .val (.int p2), .val (.int p3), .val (.int p4), .val (.ref b4), .val (.int (Int32.ofNat i0)), .val (.int (Int32.ofNat (i0 + d0))), .val (.int (Int32.ofNat qn)), .val (.ref b78), .val (.ref b184), .val (.ref b255), .val (.ref b267), .val (.ref b280), .unset, .unset, .unset] []))
  refine own_go (fun t_ k_ => XS.aload A328.here hx rfl (hb hby at_246) rfl rfl k_) ?_
  show own_Go _ _ _ _ (T327.setTop (mkF m 248 #[.val (.int p0), .val (.long q1), .second, .val (.int p2), .val (.int p3), .val (.int p4), .val (.ref b4), .val (.int (Int32.ofNat i0)), .val (.int (Int32.ofNat (i0 + d0))), .val (.int (Int32.ofNat qn)), .val (.ref b78), .val (.ref b184), .val (.ref b255), .val (.ref b267), .val (.ref b280), .unset, .unset, .unset] [(.ref b4)]))
  refine own_go (fun t_ k_ => XS.iconst A328.here hx rfl (hb hby at_248) k_) ?_
  show own_Go _ _ _ _ (T327.setTop (mkF m 249 #[.val (.int p0), .val (.long q1), .second, .val (.int p2), .val (.int p3), .val (.int p4), .val (.ref b4), .val (.int (Int32.ofNat i0)), .val (.int (Int32.ofNat (i0 + d0))), .val (.int (Int32.ofNat qn)), .val (.ref b78), .val (.ref b184), .val (.ref b255), .val (.ref b267), .val (.ref b280), .unset, .unset, .unset] [(.int (3 : Int32)), (.ref b4)]))
  refine own_go (fun t_ k_ => XS.iload A328.here hx rfl (hb hby at_249) rfl k_) ?_
  show own_Go _ _ _ _ (T327.setTop (mkF m 251 #[.val (.int p0), .val (.long q1), .second, .val (.int p2), .val (.int p3), .val (.int p4), .val (.ref b4), .val (.int (Int32.ofNat i0)), .val (.int (Int32.ofNat (i0 + d0))), .val (.int (Int32.ofNat qn)), .val (.ref b78), .val (.ref b184), .val (.ref b255), .val (.ref b267), .val (.ref b280), .unset, .unset, .unset] [(.int (Int32.ofNat i0)), (.int (3 : Int32)), (.ref b4)]))
  refine own_go (fun t_ k_ => XS.iload A328.here hx rfl (hb hby at_251) rfl k_) ?_
  show own_Go _ _ _ _ (T327.setTop (mkF m 253 #[.val (.int p0), .val (.long q1), .second, .val (.int p2), .val (.int p3), .val (.int p4), .val (.ref b4), .val (.int (Int32.ofNat i0)), .val (.int (Int32.ofNat (i0 + d0))), .val (.int (Int32.ofNat qn)), .val (.ref b78), .val (.ref b184), .val (.ref b255), .val (.ref b267), .val (.ref b280), .unset, .unset, .unset] [(.int (Int32.ofNat (i0 + d0))), (.int (Int32.ofNat i0)), (.int (3 : Int32)), (.ref b4)]))
  refine own_go (fun t_ k_ => XS.aload A328.here hx rfl (hb hby at_253) rfl rfl k_) ?_
  show own_Go _ _ _ _ (T327.setTop (mkF m 255 #[.val (.int p0), .val (.long q1), .second, .val (.int p2), .val (.int p3), .val (.int p4), .val (.ref b4), .val (.int (Int32.ofNat i0)), .val (.int (Int32.ofNat (i0 + d0))), .val (.int (Int32.ofNat qn)), .val (.ref b78), .val (.ref b184), .val (.ref b255), .val (.ref b267), .val (.ref b280), .unset, .unset, .unset] [(.ref b184), (.int (Int32.ofNat (i0 + d0))), (.int (Int32.ofNat i0)), (.int (3 : Int32)), (.ref b4)]))
  refine own_go (fun t_ k_ => XS.aload A328.here hx rfl (hb hby at_255) rfl rfl k_) ?_
  show own_Go _ _ _ _ (T327.setTop (mkF m 257 #[.val (.int p0), .val (.long q1), .second, .val (.int p2), .val (.int p3), .val (.int p4), .val (.ref b4), .val (.int (Int32.ofNat i0)), .val (.int (Int32.ofNat (i0 + d0))), .val (.int (Int32.ofNat qn)), .val (.ref b78), .val (.ref b184), .val (.ref b255), .val (.ref b267), .val (.ref b280), .unset, .unset, .unset] [(.ref b255), (.ref b184), (.int (Int32.ofNat (i0 + d0))), (.int (Int32.ofNat i0)), (.int (3 : Int32)), (.ref b4)]))
  refine own_go (fun t_ k_ => XS.aload A328.here hx rfl (hb hby at_257) rfl rfl k_) ?_
  show own_Go _ _ _ _ (T327.setTop (mkF m 259 #[.val (.int p0), .val (.long q1), .second, .val (.int p2), .val (.int p3), .val (.int p4), .val (.ref b4), .val (.int (Int32.ofNat i0)), .val (.int (Int32.ofNat (i0 + d0))), .val (.int (Int32.ofNat qn)), .val (.ref b78), .val (.ref b184), .val (.ref b255), .val (.ref b267), .val (.ref b280), .unset, .unset, .unset] [(.ref b267), (.ref b255), (.ref b184), (.int (Int32.ofNat (i0 + d0))), (.int (Int32.ofNat i0)), (.int (3 : Int32)), (.ref b4)]))
  refine own_go (fun t_ k_ => XS.aload A328.here hx rfl (hb hby at_259) rfl rfl k_) ?_
  show own_Go _ _ _ _ (T327.setTop (mkF m 261 #[.val (.int p0), .val (.long q1), .second, .val (.int p2), .val (.int p3), .val (.int p4), .val (.ref b4), .val (.int (Int32.ofNat i0)), .val (.int (Int32.ofNat (i0 + d0))), .val (.int (Int32.ofNat qn)), .val (.ref b78), .val (.ref b184), .val (.ref b255), .val (.ref b267), .val (.ref b280), .unset, .unset, .unset] [(.ref b280), (.ref b267), (.ref b255), (.ref b184), (.int (Int32.ofNat (i0 + d0))), (.int (Int32.ofNat i0)), (.int (3 : Int32)), (.ref b4)]))
  refine own_callS A328 hx hZ hown (y := (⟨"com/example/indexloom/indexloom/data/DataHeaderSplitPinLaw", "step", "([BIII[I[I[I[I)V"⟩ : MethodName)) (hw _ (List.mem_of_getElem? (i := 10) rfl)) (hw _ (List.mem_of_getElem? (i := 11) rfl)) (hw _ (List.mem_of_getElem? (i := 3) rfl)) (hw _ (List.mem_of_getElem? (i := 12) rfl)) (by decide) (argsL := [(.ref b4), (.int (3 : Int32)), (.int (Int32.ofNat i0)), (.int (Int32.ofNat (i0 + d0))), (.ref b184), (.ref b255), (.ref b267), (.ref b280)]) (rest := []) (rm3 l Z a0 hw b4 b184 b255 b267 b280 3 i0 (i0 + d0) sg341 fb (own_cmC (own_code fb)) (own_blC (own_code fb)) h329 n0 V339 V333 V334 V335 V336 ne_b4_b184 ne_b4_b255 ne_b4_b267 ne_b4_b280 ne_b184_b255 ne_b184_b267 ne_b184_b280 ne_b255_b267 ne_b255_b280 ne_b267_b280 g_b184 g_b255 g_b267 g_b280 (own_cls5 fb 5 (Nat.le_refl _)) (by decide) hk342 (by omega) (by omega)) 0 (by decide) (by decide) rfl (by rw [hml]; rfl) (lenOf pd___BIII_I_I_I_I_V rfl) rfl (by show 2 * 0 + _ ≤ _; exact Nat.le_of_eq rfl) (hb hby at_261) (by decide) (by decide) (fun v346 T343 h345 A344 hQ347 => ?_)
  obtain ⟨rfl, K348, V349, V350, V351, V352⟩ := hQ347
  have O353 : Old Z n0 h345 := O337.keep K348 (allS g_b184 (allS g_b255 (allS g_b267 (allS g_b280 all0))))
  have Z354 : n0 ≤ h345.size := Nat.le_trans Z338 K348.1
  have V355 : own_Arr Z h345 b4 .byte (5 : Int32) fb := V339.keep K348 (ninS ne_b4_b184 (ninS ne_b4_b255 (ninS ne_b4_b267 (ninS ne_b4_b280 nin0))))
  have V356 : own_Arr Z h345 b78 .int (Int32.ofNat (2 * qn)) c175 := V340.keep K348 (ninS ne_b78_b184 (ninS ne_b78_b255 (ninS ne_b78_b267 (ninS ne_b78_b280 nin0))))
  have hk358 := own_stp_le (own_cmC (own_code fb)) (own_blC (own_code fb)) i0 (i0 + d0) 3 sg341 hk342
  generalize esg357 : (own_stp (own_cmC (own_code fb)) (own_blC (own_code fb)) i0 (i0 + d0) 3 sg341) = sg357 at hk358 V349 V350 V351 V352
  show own_Go _ _ _ _ (T343.setTop (mkF m 264 #[.val (.int p0), .val (.long q1), .second, .val (.int p2), .val (.int p3), .val (.int p4), .val (.ref b4), .val (.int (Int32.ofNat i0)), .val (.int (Int32.ofNat (i0 + d0))), .val (.int (Int32.ofNat qn)), .val (.ref b78), .val (.ref b184), .val (.ref b255), .val (.ref b267), .val (.ref b280), .unset, .unset, .unset] []))
  refine own_go (fun t_ k_ => XS.aload A344.here hx rfl (hb hby at_264) rfl rfl k_) ?_
  show own_Go _ _ _ _ (T343.setTop (mkF m 266 #[.val (.int p0), .val (.long q1), .second, .val (.int p2), .val (.int p3), .val (.int p4), .val (.ref b4), .val (.int (Int32.ofNat i0)), .val (.int (Int32.ofNat (i0 + d0))), .val (.int (Int32.ofNat qn)), .val (.ref b78), .val (.ref b184), .val (.ref b255), .val (.ref b267), .val (.ref b280), .unset, .unset, .unset] [(.ref b4)]))
  refine own_go (fun t_ k_ => XS.iconst A344.here hx rfl (hb hby at_266) k_) ?_
  show own_Go _ _ _ _ (T343.setTop (mkF m 267 #[.val (.int p0), .val (.long q1), .second, .val (.int p2), .val (.int p3), .val (.int p4), .val (.ref b4), .val (.int (Int32.ofNat i0)), .val (.int (Int32.ofNat (i0 + d0))), .val (.int (Int32.ofNat qn)), .val (.ref b78), .val (.ref b184), .val (.ref b255), .val (.ref b267), .val (.ref b280), .unset, .unset, .unset] [(.int (4 : Int32)), (.ref b4)]))
  refine own_go (fun t_ k_ => XS.iload A344.here hx rfl (hb hby at_267) rfl k_) ?_
  show own_Go _ _ _ _ (T343.setTop (mkF m 269 #[.val (.int p0), .val (.long q1), .second, .val (.int p2), .val (.int p3), .val (.int p4), .val (.ref b4), .val (.int (Int32.ofNat i0)), .val (.int (Int32.ofNat (i0 + d0))), .val (.int (Int32.ofNat qn)), .val (.ref b78), .val (.ref b184), .val (.ref b255), .val (.ref b267), .val (.ref b280), .unset, .unset, .unset] [(.int (Int32.ofNat i0)), (.int (4 : Int32)), (.ref b4)]))
  refine own_go (fun t_ k_ => XS.iload A344.here hx rfl (hb hby at_269) rfl k_) ?_
  show own_Go _ _ _ _ (T343.setTop (mkF m 271 #[.val (.int p0), .val (.long q1), .second, .val (.int p2), .val (.int p3), .val (.int p4), .val (.ref b4), .val (.int (Int32.ofNat i0)), .val (.int (Int32.ofNat (i0 + d0))), .val (.int (Int32.ofNat qn)), .val (.ref b78), .val (.ref b184), .val (.ref b255), .val (.ref b267), .val (.ref b280), .unset, .unset, .unset] [(.int (Int32.ofNat (i0 + d0))), (.int (Int32.ofNat i0)), (.int (4 : Int32)), (.ref b4)]))
  refine own_go (fun t_ k_ => XS.aload A344.here hx rfl (hb hby at_271) rfl rfl k_) ?_
  show own_Go _ _ _ _ (T343.setTop (mkF m 273 #[.val (.int p0), .val (.long q1), .second, .val (.int p2), .val (.int p3), .val (.int p4), .val (.ref b4), .val (.int (Int32.ofNat i0)), .val (.int (Int32.ofNat (i0 + d0))), .val (.int (Int32.ofNat qn)), .val (.ref b78), .val (.ref b184), .val (.ref b255), .val (.ref b267), .val (.ref b280), .unset, .unset, .unset] [(.ref b184), (.int (Int32.ofNat (i0 + d0))), (.int (Int32.ofNat i0)), (.int (4 : Int32)), (.ref b4)]))
  refine own_go (fun t_ k_ => XS.aload A344.here hx rfl (hb hby at_273) rfl rfl k_) ?_
  show own_Go _ _ _ _ (T343.setTop (mkF m 275 #[.val (.int p0), .val (.long q1), .second, .val (.int p2), .val (.int p3), .val (.int p4), .val (.ref b4), .val (.int (Int32.ofNat i0)), .val (.int (Int32.ofNat (i0 + d0))), .val (.int (Int32.ofNat qn)), .val (.ref b78), .val (.ref b184), .val (.ref b255), .val (.ref b267), .val (.ref b280), .unset, .unset, .unset] [(.ref b255), (.ref b184), (.int (Int32.ofNat (i0 + d0))), (.int (Int32.ofNat i0)), (.int (4 : Int32)), (.ref b4)]))
  refine own_go (fun t_ k_ => XS.aload A344.here hx rfl (hb hby at_275) rfl rfl k_) ?_
  show own_Go _ _ _ _ (T343.setTop (mkF m 277 #[.val (.int p0), .val (.long q1), .second, .val (.int p2), .val (.int p3), .val (.int p4), .val (.ref b4), .val (.int (Int32.ofNat i0)), .val (.int (Int32.ofNat (i0 + d0))), .val (.int (Int32.ofNat qn)), .val (.ref b78), .val (.ref b184), .val (.ref b255), .val (.ref b267), .val (.ref b280), .unset, .unset, .unset] [(.ref b267), (.ref b255), (.ref b184), (.int (Int32.ofNat (i0 + d0))), (.int (Int32.ofNat i0)), (.int (4 : Int32)), (.ref b4)]))
  refine own_go (fun t_ k_ => XS.aload A344.here hx rfl (hb hby at_277) rfl rfl k_) ?_
  show own_Go _ _ _ _ (T343.setTop (mkF m 279 #[.val (.int p0), .val (.long q1), .second, .val (.int p2), .val (.int p3), .val (.int p4), .val (.ref b4), .val (.int (Int32.ofNat i0)), .val (.int (Int32.ofNat (i0 + d0))), .val (.int (Int32.ofNat qn)), .val (.ref b78), .val (.ref b184), .val (.ref b255), .val (.ref b267), .val (.ref b280), .unset, .unset, .unset] [(.ref b280), (.ref b267), (.ref b255), (.ref b184), (.int (Int32.ofNat (i0 + d0))), (.int (Int32.ofNat i0)), (.int (4 : Int32)), (.ref b4)]))
  refine own_callS A344 hx hZ hown (y := (⟨"com/example/indexloom/indexloom/data/DataHeaderSplitPinLaw", "step", "([BIII[I[I[I[I)V"⟩ : MethodName)) (hw _ (List.mem_of_getElem? (i := 10) rfl)) (hw _ (List.mem_of_getElem? (i := 11) rfl)) (hw _ (List.mem_of_getElem? (i := 3) rfl)) (hw _ (List.mem_of_getElem? (i := 12) rfl)) (by decide) (argsL := [(.ref b4), (.int (4 : Int32)), (.int (Int32.ofNat i0)), (.int (Int32.ofNat (i0 + d0))), (.ref b184), (.ref b255), (.ref b267), (.ref b280)]) (rest := []) (rm3 l Z a0 hw b4 b184 b255 b267 b280 4 i0 (i0 + d0) sg357 fb (own_cmC (own_code fb)) (own_blC (own_code fb)) h345 n0 V355 V349 V350 V351 V352 ne_b4_b184 ne_b4_b255 ne_b4_b267 ne_b4_b280 ne_b184_b255 ne_b184_b267 ne_b184_b280 ne_b255_b267 ne_b255_b280 ne_b267_b280 g_b184 g_b255 g_b267 g_b280 (own_cls5 fb 5 (Nat.le_refl _)) (by decide) hk358 (by omega) (by omega)) 0 (by decide) (by decide) rfl (by rw [hml]; rfl) (lenOf pd___BIII_I_I_I_I_V rfl) rfl (by show 2 * 0 + _ ≤ _; exact Nat.le_of_eq rfl) (hb hby at_279) (by decide) (by decide) (fun v362 T359 h361 A360 hQ363 => ?_)
  obtain ⟨rfl, K364, V365, V366, V367, V368⟩ := hQ363
  have O369 : Old Z n0 h361 := O353.keep K364 (allS g_b184 (allS g_b255 (allS g_b267 (allS g_b280 all0))))
  have Z370 : n0 ≤ h361.size := Nat.le_trans Z354 K364.1
  have V371 : own_Arr Z h361 b4 .byte (5 : Int32) fb := V355.keep K364 (ninS ne_b4_b184 (ninS ne_b4_b255 (ninS ne_b4_b267 (ninS ne_b4_b280 nin0))))
  have V372 : own_Arr Z h361 b78 .int (Int32.ofNat (2 * qn)) c175 := V356.keep K364 (ninS ne_b78_b184 (ninS ne_b78_b255 (ninS ne_b78_b267 (ninS ne_b78_b280 nin0))))
  have hk374 := own_stp_le (own_cmC (own_code fb)) (own_blC (own_code fb)) i0 (i0 + d0) 4 sg357 hk358
  generalize esg373 : (own_stp (own_cmC (own_code fb)) (own_blC (own_code fb)) i0 (i0 + d0) 4 sg357) = sg373 at hk374 V365 V366 V367 V368
  show own_Go _ _ _ _ (T359.setTop (mkF m 282 #[.val (.int p0), .val (.long q1), .second, .val (.int p2), .val (.int p3), .val (.int p4), .val (.ref b4), .val (.int (Int32.ofNat i0)), .val (.int (Int32.ofNat (i0 + d0))), .val (.int (Int32.ofNat qn)), .val (.ref b78), .val (.ref b184), .val (.ref b255), .val (.ref b267), .val (.ref b280), .unset, .unset, .unset] []))
  refine own_go (fun t_ k_ => XS.aload A360.here hx rfl (hb hby at_282) rfl rfl k_) ?_
  show own_Go _ _ _ _ (T359.setTop (mkF m 284 #[.val (.int p0), .val (.long q1), .second, .val (.int p2), .val (.int p3), .val (.int p4), .val (.ref b4), .val (.int (Int32.ofNat i0)), .val (.int (Int32.ofNat (i0 + d0))), .val (.int (Int32.ofNat qn)), .val (.ref b78), .val (.ref b184), .val (.ref b255), .val (.ref b267), .val (.ref b280), .unset, .unset, .unset] [(.ref b280)]))
  refine own_go (fun t_ k_ => XS.iconst A360.here hx rfl (hb hby at_284) k_) ?_
  show own_Go _ _ _ _ (T359.setTop (mkF m 285 #[.val (.int p0), .val (.long q1), .second, .val (.int p2), .val (.int p3), .val (.int p4), .val (.ref b4), .val (.int (Int32.ofNat i0)), .val (.int (Int32.ofNat (i0 + d0))), .val (.int (Int32.ofNat qn)), .val (.ref b78), .val (.ref b184), .val (.ref b255), .val (.ref b267), .val (.ref b280), .unset, .unset, .unset] [(.int (0 : Int32)), (.ref b280)]))
  refine own_ldI A360 hx hZ V368 ⟨by decide, by decide⟩ rfl rfl (hb hby at_285) ?_
  show own_Go _ _ _ _ (T359.setTop (mkF m 286 #[.val (.int p0), .val (.long q1), .second, .val (.int p2), .val (.int p3), .val (.int p4), .val (.ref b4), .val (.int (Int32.ofNat i0)), .val (.int (Int32.ofNat (i0 + d0))), .val (.int (Int32.ofNat qn)), .val (.ref b78), .val (.ref b184), .val (.ref b255), .val (.ref b267), .val (.ref b280), .unset, .unset, .unset] [(.int (Int32.ofNat sg373.2.2.2))]))
  refine own_go (fun t_ k_ => XS.iconst A360.here hx rfl (hb hby at_286) k_) ?_
  show own_Go _ _ _ _ (T359.setTop (mkF m 287 #[.val (.int p0), .val (.long q1), .second, .val (.int p2), .val (.int p3), .val (.int p4), .val (.ref b4), .val (.int (Int32.ofNat i0)), .val (.int (Int32.ofNat (i0 + d0))), .val (.int (Int32.ofNat qn)), .val (.ref b78), .val (.ref b184), .val (.ref b255), .val (.ref b267), .val (.ref b280), .unset, .unset, .unset] [(.int (1 : Int32)), (.int (Int32.ofNat sg373.2.2.2))]))
  refine own_go (fun t_ k_ => XS.iadd A360.here hx rfl (hb hby at_287) rfl k_) ?_
  show own_Go _ _ _ _ (T359.setTop (mkF m 288 #[.val (.int p0), .val (.long q1), .second, .val (.int p2), .val (.int p3), .val (.int p4), .val (.ref b4), .val (.int (Int32.ofNat i0)), .val (.int (Int32.ofNat (i0 + d0))), .val (.int (Int32.ofNat qn)), .val (.ref b78), .val (.ref b184), .val (.ref b255), .val (.ref b267), .val (.ref b280), .unset, .unset, .unset] [(.int ((Int32.ofNat sg373.2.2.2) + (1 : Int32)))]))
  rw [own_succ]
  show own_Go _ _ _ _ (T359.setTop (mkF m 288 #[.val (.int p0), .val (.long q1), .second, .val (.int p2), .val (.int p3), .val (.int p4), .val (.ref b4), .val (.int (Int32.ofNat i0)), .val (.int (Int32.ofNat (i0 + d0))), .val (.int (Int32.ofNat qn)), .val (.ref b78), .val (.ref b184), .val (.ref b255), .val (.ref b267), .val (.ref b280), .unset, .unset, .unset] [(.int (Int32.ofNat (sg373.2.2.2 + 1)))]))
  refine own_go (fun t_ k_ => XS.istore A360.here hx rfl (hb hby at_288) rfl (l' := #[.val (.int p0), .val (.long q1), .second, .val (.int p2), .val (.int p3), .val (.int p4), .val (.ref b4), .val (.int (Int32.ofNat i0)), .val (.int (Int32.ofNat (i0 + d0))), .val (.int (Int32.ofNat qn)), .val (.ref b78), .val (.ref b184), .val (.ref b255), .val (.ref b267), .val (.ref b280), .val (.int (Int32.ofNat (sg373.2.2.2 + 1))), .unset, .unset]) rfl k_) ?_
  show own_Go _ _ _ _ (T359.setTop (mkF m 290 #[.val (.int p0), .val (.long q1), .second, .val (.int p2), .val (.int p3), .val (.int p4), .val (.ref b4), .val (.int (Int32.ofNat i0)), .val (.int (Int32.ofNat (i0 + d0))), .val (.int (Int32.ofNat qn)), .val (.ref b78), .val (.ref b184), .val (.ref b255), .val (.ref b267), .val (.ref b280), .val (.int (Int32.ofNat (sg373.2.2.2 + 1))), .unset, .unset] []))
  refine own_go (fun t_ k_ => XS.aload A360.here hx rfl (hb hby at_290) rfl rfl k_) ?_
  show own_Go _ _ _ _ (T359.setTop (mkF m 292 #[.val (.int p0), .val (.long q1), .second, .val (.int p2), .val (.int p3), .val (.int p4), .val (.ref b4), .val (.int (Int32.ofNat i0)), .val (.int (Int32.ofNat (i0 + d0))), .val (.int (Int32.ofNat qn)), .val (.ref b78), .val (.ref b184), .val (.ref b255), .val (.ref b267), .val (.ref b280), .val (.int (Int32.ofNat (sg373.2.2.2 + 1))), .unset, .unset] [(.ref b267)]))
  refine own_go (fun t_ k_ => XS.aload A360.here hx rfl (hb hby at_292) rfl rfl k_) ?_
  show own_Go _ _ _ _ (T359.setTop (mkF m 294 #[.val (.int p0), .val (.long q1), .second, .val (.int p2), .val (.int p3), .val (.int p4), .val (.ref b4), .val (.int (Int32.ofNat i0)), .val (.int (Int32.ofNat (i0 + d0))), .val (.int (Int32.ofNat qn)), .val (.ref b78), .val (.ref b184), .val (.ref b255), .val (.ref b267), .val (.ref b280), .val (.int (Int32.ofNat (sg373.2.2.2 + 1))), .unset, .unset] [(.ref b280), (.ref b267)]))
  refine own_go (fun t_ k_ => XS.iconst A360.here hx rfl (hb hby at_294) k_) ?_
  show own_Go _ _ _ _ (T359.setTop (mkF m 295 #[.val (.int p0), .val (.long q1), .second, .val (.int p2), .val (.int p3), .val (.int p4), .val (.ref b4), .val (.int (Int32.ofNat i0)), .val (.int (Int32.ofNat (i0 + d0))), .val (.int (Int32.ofNat qn)), .val (.ref b78), .val (.ref b184), .val (.ref b255), .val (.ref b267), .val (.ref b280), .val (.int (Int32.ofNat (sg373.2.2.2 + 1))), .unset, .unset] [(.int (0 : Int32)), (.ref b280), (.ref b267)]))
  refine own_ldI A360 hx hZ V368 ⟨by decide, by decide⟩ rfl rfl (hb hby at_295) ?_
  show own_Go _ _ _ _ (T359.setTop (mkF m 296 #[.val (.int p0), .val (.long q1), .second, .val (.int p2), .val (.int p3), .val (.int p4), .val (.ref b4), .val (.int (Int32.ofNat i0)), .val (.int (Int32.ofNat (i0 + d0))), .val (.int (Int32.ofNat qn)), .val (.ref b78), .val (.ref b184), .val (.ref b255), .val (.ref b267), .val (.ref b280), .val (.int (Int32.ofNat (sg373.2.2.2 + 1))), .unset, .unset] [(.int (Int32.ofNat sg373.2.2.2)), (.ref b267)]))
  refine own_go (fun t_ k_ => XS.iload A360.here hx rfl (hb hby at_296) rfl k_) ?_
  show own_Go _ _ _ _ (T359.setTop (mkF m 298 #[.val (.int p0), .val (.long q1), .second, .val (.int p2), .val (.int p3), .val (.int p4), .val (.ref b4), .val (.int (Int32.ofNat i0)), .val (.int (Int32.ofNat (i0 + d0))), .val (.int (Int32.ofNat qn)), .val (.ref b78), .val (.ref b184), .val (.ref b255), .val (.ref b267), .val (.ref b280), .val (.int (Int32.ofNat (sg373.2.2.2 + 1))), .unset, .unset] [(.int (Int32.ofNat (i0 + d0))), (.int (Int32.ofNat sg373.2.2.2)), (.ref b267)]))
  refine own_stI A360 hx hZ V367 ⟨own_nn (by omega), (own_nlt (j := 6) (by omega) (by decide)).mpr (by omega)⟩ g_b267 rfl rfl (hb hby at_298) (fun T375 h377 A376 W378 V379 => ?_)
  have O380 : Old Z n0 h377 := O369.wr W378 g_b267
  have Z381 : n0 ≤ h377.size := Nat.le_trans Z370 (Nat.le_of_eq (Wr.size W378).symm)
  have V382 : own_Arr Z h377 b4 .byte (5 : Int32) fb := V371.other W378 ne_b4_b267
  have V383 : own_Arr Z h377 b78 .int (Int32.ofNat (2 * qn)) c175 := V372.other W378 ne_b78_b267
  have V384 : own_Arr Z h377 b184 .int (6 : Int32) sg373.1 := V365.other W378 ne_b184_b267
  have V385 : own_Arr Z h377 b255 .int (6 : Int32) sg373.2.1 := V366.other W378 ne_b255_b267
  have V386 : own_Arr Z h377 b267 .int (6 : Int32) (fun i => if i = (Int32.ofNat sg373.2.2.2) then (Int32.ofNat (i0 + d0)) else sg373.2.2.1 i) := V379
  have V387 : own_Arr Z h377 b280 .int (1 : Int32) (fun _ => Int32.ofNat sg373.2.2.2) := V368.other W378 (Ne.symm ne_b267_b280)
  show own_Go _ _ _ _ (T375.setTop (mkF m 299 #[.val (.int p0), .val (.long q1), .second, .val (.int p2), .val (.int p3), .val (.int p4), .val (.ref b4), .val (.int (Int32.ofNat i0)), .val (.int (Int32.ofNat (i0 + d0))), .val (.int (Int32.ofNat qn)), .val (.ref b78), .val (.ref b184), .val (.ref b255), .val (.ref b267), .val (.ref b280), .val (.int (Int32.ofNat (sg373.2.2.2 + 1))), .unset, .unset] []))
  have V388 : own_Arr Z h377 b267 .int (6 : Int32) (own_En sg373 (i0 + d0)) := V386
  refine own_go (fun t_ k_ => XS.aload A376.here hx rfl (hb hby at_299) rfl rfl k_) ?_
  show own_Go _ _ _ _ (T375.setTop (mkF m 301 #[.val (.int p0), .val (.long q1), .second, .val (.int p2), .val (.int p3), .val (.int p4), .val (.ref b4), .val (.int (Int32.ofNat i0)), .val (.int (Int32.ofNat (i0 + d0))), .val (.int (Int32.ofNat qn)), .val (.ref b78), .val (.ref b184), .val (.ref b255), .val (.ref b267), .val (.ref b280), .val (.int (Int32.ofNat (sg373.2.2.2 + 1))), .unset, .unset] [(.ref b4)]))
  refine own_go (fun t_ k_ => XS.iload A376.here hx rfl (hb hby at_301) rfl k_) ?_
  show own_Go _ _ _ _ (T375.setTop (mkF m 303 #[.val (.int p0), .val (.long q1), .second, .val (.int p2), .val (.int p3), .val (.int p4), .val (.ref b4), .val (.int (Int32.ofNat i0)), .val (.int (Int32.ofNat (i0 + d0))), .val (.int (Int32.ofNat qn)), .val (.ref b78), .val (.ref b184), .val (.ref b255), .val (.ref b267), .val (.ref b280), .val (.int (Int32.ofNat (sg373.2.2.2 + 1))), .unset, .unset] [(.int (Int32.ofNat i0)), (.ref b4)]))
  refine own_go (fun t_ k_ => XS.iload A376.here hx rfl (hb hby at_303) rfl k_) ?_
  show own_Go _ _ _ _ (T375.setTop (mkF m 305 #[.val (.int p0), .val (.long q1), .second, .val (.int p2), .val (.int p3), .val (.int p4), .val (.ref b4), .val (.int (Int32.ofNat i0)), .val (.int (Int32.ofNat (i0 + d0))), .val (.int (Int32.ofNat qn)), .val (.ref b78), .val (.ref b184), .val (.ref b255), .val (.ref b267), .val (.ref b280), .val (.int (Int32.ofNat (sg373.2.2.2 + 1))), .unset, .unset] [(.int (Int32.ofNat (i0 + d0))), (.int (Int32.ofNat i0)), (.ref b4)]))
  refine own_go (fun t_ k_ => XS.aload A376.here hx rfl (hb hby at_305) rfl rfl k_) ?_
  show own_Go _ _ _ _ (T375.setTop (mkF m 307 #[.val (.int p0), .val (.long q1), .second, .val (.int p2), .val (.int p3), .val (.int p4), .val (.ref b4), .val (.int (Int32.ofNat i0)), .val (.int (Int32.ofNat (i0 + d0))), .val (.int (Int32.ofNat qn)), .val (.ref b78), .val (.ref b184), .val (.ref b255), .val (.ref b267), .val (.ref b280), .val (.int (Int32.ofNat (sg373.2.2.2 + 1))), .unset, .unset] [(.ref b78), (.int (Int32.ofNat (i0 + d0))), (.int (Int32.ofNat i0)), (.ref b4)]))
  refine own_callS A376 hx hZ hown (y := (⟨"com/example/indexloom/indexloom/data/DataHeader", "split", "([BII[I)I"⟩ : MethodName)) (hw _ (List.mem_of_getElem? (i := 13) rfl)) (hw _ (List.mem_of_getElem? (i := 14) rfl)) (hw _ (List.mem_of_getElem? (i := 15) rfl)) (hw _ (List.mem_of_getElem? (i := 16) rfl)) (by decide) (argsL := [(.ref b4), (.int (Int32.ofNat i0)), (.int (Int32.ofNat (i0 + d0))), (.ref b78)]) (rest := []) (rm4 l Z a0 hw b4 b78 i0 (i0 + d0) qn (5 : Int32) fb c175 (own_cmC (own_code fb)) (own_blC (own_code fb)) h377 n0 (by have : (5 : Int32).toInt = 5 := rfl; omega) (by omega) (own_cls5 fb (i0 + d0) (by omega)) (by omega) (by omega) V382 V383 ne_b4_b78 g_b78) 0 (by decide) (by decide) rfl (by rw [hml]; rfl) (lenOf pd___BII_I_I rfl) rfl (by show 2 * 0 + _ ≤ _; exact Nat.le_of_eq rfl) (hb hby at_307) (by decide) (by decide) (fun v392 T389 h391 A390 hQ393 => ?_)
  obtain ⟨rfl, K394, c395, V396, B397⟩ := hQ393
  have O398 : Old Z n0 h391 := O380.keep K394 (allS g_b78 all0)
  have Z399 : n0 ≤ h391.size := Nat.le_trans Z381 K394.1
  have V400 : own_Arr Z h391 b4 .byte (5 : Int32) fb := V382.keep K394 (ninS ne_b4_b78 nin0)
  have V401 : own_Arr Z h391 b184 .int (6 : Int32) sg373.1 := V384.keep K394 (ninS (Ne.symm ne_b78_b184) nin0)
  have V402 : own_Arr Z h391 b255 .int (6 : Int32) sg373.2.1 := V385.keep K394 (ninS (Ne.symm ne_b78_b255) nin0)
  have V403 : own_Arr Z h391 b267 .int (6 : Int32) (own_En sg373 (i0 + d0)) := V388.keep K394 (ninS (Ne.symm ne_b78_b267) nin0)
  have V404 : own_Arr Z h391 b280 .int (1 : Int32) (fun _ => Int32.ofNat sg373.2.2.2) := V387.keep K394 (ninS (Ne.symm ne_b78_b280) nin0)
  obtain ⟨hPL, hPA⟩ := own_plain (own_code fb) i0 (i0 + d0) (own_code_lt fb) (by omega) (by omega)
  have eS : own_s5 (own_cmC (own_code fb)) (own_blC (own_code fb)) i0 (i0 + d0) = sg373 := by rw [own_s5, esg309, esg325, esg341, esg357, esg373]
  rw [eS] at hPL hPA
  have HH := own_Hof B397 P177 (by omega) hk374 hPL hPA
  rw [hPL]
  show own_Go _ _ _ _ (T389.setTop (mkF m 310 #[.val (.int p0), .val (.long q1), .second, .val (.int p2), .val (.int p3), .val (.int p4), .val (.ref b4), .val (.int (Int32.ofNat i0)), .val (.int (Int32.ofNat (i0 + d0))), .val (.int (Int32.ofNat qn)), .val (.ref b78), .val (.ref b184), .val (.ref b255), .val (.ref b267), .val (.ref b280), .val (.int (Int32.ofNat (sg373.2.2.2 + 1))), .unset, .unset] [(.int (Int32.ofNat (sg373.2.2.2 + 1)))]))
  refine own_go (fun t_ k_ => XS.istore A390.here hx rfl (hb hby at_310) rfl (l' := #[.val (.int p0), .val (.long q1), .second, .val (.int p2), .val (.int p3), .val (.int p4), .val (.ref b4), .val (.int (Int32.ofNat i0)), .val (.int (Int32.ofNat (i0 + d0))), .val (.int (Int32.ofNat qn)), .val (.ref b78), .val (.ref b184), .val (.ref b255), .val (.ref b267), .val (.ref b280), .val (.int (Int32.ofNat (sg373.2.2.2 + 1))), .val (.int (Int32.ofNat (sg373.2.2.2 + 1))), .unset]) rfl k_) ?_
  show own_Go _ _ _ _ (T389.setTop (mkF m 312 #[.val (.int p0), .val (.long q1), .second, .val (.int p2), .val (.int p3), .val (.int p4), .val (.ref b4), .val (.int (Int32.ofNat i0)), .val (.int (Int32.ofNat (i0 + d0))), .val (.int (Int32.ofNat qn)), .val (.ref b78), .val (.ref b184), .val (.ref b255), .val (.ref b267), .val (.ref b280), .val (.int (Int32.ofNat (sg373.2.2.2 + 1))), .val (.int (Int32.ofNat (sg373.2.2.2 + 1))), .unset] []))
  refine own_go (fun t_ k_ => XS.iload A390.here hx rfl (hb hby at_312) rfl k_) ?_
  show own_Go _ _ _ _ (T389.setTop (mkF m 314 #[.val (.int p0), .val (.long q1), .second, .val (.int p2), .val (.int p3), .val (.int p4), .val (.ref b4), .val (.int (Int32.ofNat i0)), .val (.int (Int32.ofNat (i0 + d0))), .val (.int (Int32.ofNat qn)), .val (.ref b78), .val (.ref b184), .val (.ref b255), .val (.ref b267), .val (.ref b280), .val (.int (Int32.ofNat (sg373.2.2.2 + 1))), .val (.int (Int32.ofNat (sg373.2.2.2 + 1))), .unset] [(.int (Int32.ofNat (sg373.2.2.2 + 1)))]))
  refine own_go (fun t_ k_ => XS.iload A390.here hx rfl (hb hby at_314) rfl k_) ?_
  show own_Go _ _ _ _ (T389.setTop (mkF m 316 #[.val (.int p0), .val (.long q1), .second, .val (.int p2), .val (.int p3), .val (.int p4), .val (.ref b4), .val (.int (Int32.ofNat i0)), .val (.int (Int32.ofNat (i0 + d0))), .val (.int (Int32.ofNat qn)), .val (.ref b78), .val (.ref b184), .val (.ref b255), .val (.ref b267), .val (.ref b280), .val (.int (Int32.ofNat (sg373.2.2.2 + 1))), .val (.int (Int32.ofNat (sg373.2.2.2 + 1))), .unset] [(.int (Int32.ofNat (sg373.2.2.2 + 1))), (.int (Int32.ofNat (sg373.2.2.2 + 1)))]))
  have hc405 : (Int32.ofNat (sg373.2.2.2 + 1)) = (Int32.ofNat (sg373.2.2.2 + 1)) := rfl
  refine own_go (fun t_ k_ => XS.icmpNo A390.here hx rfl (hb hby at_316) rfl (teq hc405).2 k_) ?_
  show own_Go _ _ _ _ (T389.setTop (mkF m 319 #[.val (.int p0), .val (.long q1), .second, .val (.int p2), .val (.int p3), .val (.int p4), .val (.ref b4), .val (.int (Int32.ofNat i0)), .val (.int (Int32.ofNat (i0 + d0))), .val (.int (Int32.ofNat qn)), .val (.ref b78), .val (.ref b184), .val (.ref b255), .val (.ref b267), .val (.ref b280), .val (.int (Int32.ofNat (sg373.2.2.2 + 1))), .val (.int (Int32.ofNat (sg373.2.2.2 + 1))), .unset] []))
  refine own_go (fun t_ k_ => XS.iconst A390.here hx rfl (hb hby at_319) k_) ?_
  show own_Go _ _ _ _ (T389.setTop (mkF m 320 #[.val (.int p0), .val (.long q1), .second, .val (.int p2), .val (.int p3), .val (.int p4), .val (.ref b4), .val (.int (Int32.ofNat i0)), .val (.int (Int32.ofNat (i0 + d0))), .val (.int (Int32.ofNat qn)), .val (.ref b78), .val (.ref b184), .val (.ref b255), .val (.ref b267), .val (.ref b280), .val (.int (Int32.ofNat (sg373.2.2.2 + 1))), .val (.int (Int32.ofNat (sg373.2.2.2 + 1))), .unset] [(.int (1 : Int32))]))
  refine own_go (fun t_ k_ => XS.goto A390.here hx rfl (pc0 := 320) (pc' := 324) rfl (hb hby at_320) (by decide) (by decide) k_) ?_
  show own_Go _ _ _ _ (T389.setTop (mkF m 324 #[.val (.int p0), .val (.long q1), .second, .val (.int p2), .val (.int p3), .val (.int p4), .val (.ref b4), .val (.int (Int32.ofNat i0)), .val (.int (Int32.ofNat (i0 + d0))), .val (.int (Int32.ofNat qn)), .val (.ref b78), .val (.ref b184), .val (.ref b255), .val (.ref b267), .val (.ref b280), .val (.int (Int32.ofNat (sg373.2.2.2 + 1))), .val (.int (Int32.ofNat (sg373.2.2.2 + 1))), .unset] [(.int (1 : Int32))]))
  refine own_go (fun t_ k_ => XS.istore A390.here hx rfl (hb hby at_324) rfl (l' := #[.val (.int p0), .val (.long q1), .second, .val (.int p2), .val (.int p3), .val (.int p4), .val (.ref b4), .val (.int (Int32.ofNat i0)), .val (.int (Int32.ofNat (i0 + d0))), .val (.int (Int32.ofNat qn)), .val (.ref b78), .val (.ref b184), .val (.ref b255), .val (.ref b267), .val (.ref b280), .val (.int (Int32.ofNat (sg373.2.2.2 + 1))), .val (.int (Int32.ofNat (sg373.2.2.2 + 1))), .val (.int (1 : Int32))]) rfl k_) ?_
  show own_Go _ _ _ _ (T389.setTop (mkF m 326 #[.val (.int p0), .val (.long q1), .second, .val (.int p2), .val (.int p3), .val (.int p4), .val (.ref b4), .val (.int (Int32.ofNat i0)), .val (.int (Int32.ofNat (i0 + d0))), .val (.int (Int32.ofNat qn)), .val (.ref b78), .val (.ref b184), .val (.ref b255), .val (.ref b267), .val (.ref b280), .val (.int (Int32.ofNat (sg373.2.2.2 + 1))), .val (.int (Int32.ofNat (sg373.2.2.2 + 1))), .val (.int (1 : Int32))] []))
  refine own_go (fun t_ k_ => XS.iload A390.here hx rfl (hb hby at_326) rfl k_) ?_
  show own_Go _ _ _ _ (T389.setTop (mkF m 328 #[.val (.int p0), .val (.long q1), .second, .val (.int p2), .val (.int p3), .val (.int p4), .val (.ref b4), .val (.int (Int32.ofNat i0)), .val (.int (Int32.ofNat (i0 + d0))), .val (.int (Int32.ofNat qn)), .val (.ref b78), .val (.ref b184), .val (.ref b255), .val (.ref b267), .val (.ref b280), .val (.int (Int32.ofNat (sg373.2.2.2 + 1))), .val (.int (Int32.ofNat (sg373.2.2.2 + 1))), .val (.int (1 : Int32))] [(.int (1 : Int32))]))
  have hc406 : ¬ ((1 : Int32) = (0 : Int32)) := (by decide)
  refine own_go (fun t_ k_ => XS.ifNo A390.here hx rfl (hb hby at_328) rfl ((if0 _ _).trans (feq hc406).1) k_) ?_
  show own_Go _ _ _ _ (T389.setTop (mkF m 331 #[.val (.int p0), .val (.long q1), .second, .val (.int p2), .val (.int p3), .val (.int p4), .val (.ref b4), .val (.int (Int32.ofNat i0)), .val (.int (Int32.ofNat (i0 + d0))), .val (.int (Int32.ofNat qn)), .val (.ref b78), .val (.ref b184), .val (.ref b255), .val (.ref b267), .val (.ref b280), .val (.int (Int32.ofNat (sg373.2.2.2 + 1))), .val (.int (Int32.ofNat (sg373.2.2.2 + 1))), .val (.int (1 : Int32))] []))
  refine own_go (fun t_ k_ => XS.aload A390.here hx rfl (hb hby at_331) rfl rfl k_) ?_
  show own_Go _ _ _ _ (T389.setTop (mkF m 333 #[.val (.int p0), .val (.long q1), .second, .val (.int p2), .val (.int p3), .val (.int p4), .val (.ref b4), .val (.int (Int32.ofNat i0)), .val (.int (Int32.ofNat (i0 + d0))), .val (.int (Int32.ofNat qn)), .val (.ref b78), .val (.ref b184), .val (.ref b255), .val (.ref b267), .val (.ref b280), .val (.int (Int32.ofNat (sg373.2.2.2 + 1))), .val (.int (Int32.ofNat (sg373.2.2.2 + 1))), .val (.int (1 : Int32))] [(.ref b78)]))
  refine own_go (fun t_ k_ => XS.iconst A390.here hx rfl (hb hby at_333) k_) ?_
  show own_Go _ _ _ _ (T389.setTop (mkF m 334 #[.val (.int p0), .val (.long q1), .second, .val (.int p2), .val (.int p3), .val (.int p4), .val (.ref b4), .val (.int (Int32.ofNat i0)), .val (.int (Int32.ofNat (i0 + d0))), .val (.int (Int32.ofNat qn)), .val (.ref b78), .val (.ref b184), .val (.ref b255), .val (.ref b267), .val (.ref b280), .val (.int (Int32.ofNat (sg373.2.2.2 + 1))), .val (.int (Int32.ofNat (sg373.2.2.2 + 1))), .val (.int (1 : Int32))] [(.int (0 : Int32)), (.ref b78)]))
  refine own_go (fun t_ k_ => XS.iload A390.here hx rfl (hb hby at_334) rfl k_) ?_
  show own_Go _ _ _ _ (T389.setTop (mkF m 336 #[.val (.int p0), .val (.long q1), .second, .val (.int p2), .val (.int p3), .val (.int p4), .val (.ref b4), .val (.int (Int32.ofNat i0)), .val (.int (Int32.ofNat (i0 + d0))), .val (.int (Int32.ofNat qn)), .val (.ref b78), .val (.ref b184), .val (.ref b255), .val (.ref b267), .val (.ref b280), .val (.int (Int32.ofNat (sg373.2.2.2 + 1))), .val (.int (Int32.ofNat (sg373.2.2.2 + 1))), .val (.int (1 : Int32))] [(.int (Int32.ofNat (sg373.2.2.2 + 1))), (.int (0 : Int32)), (.ref b78)]))
  refine own_go (fun t_ k_ => XS.aload A390.here hx rfl (hb hby at_336) rfl rfl k_) ?_
  show own_Go _ _ _ _ (T389.setTop (mkF m 338 #[.val (.int p0), .val (.long q1), .second, .val (.int p2), .val (.int p3), .val (.int p4), .val (.ref b4), .val (.int (Int32.ofNat i0)), .val (.int (Int32.ofNat (i0 + d0))), .val (.int (Int32.ofNat qn)), .val (.ref b78), .val (.ref b184), .val (.ref b255), .val (.ref b267), .val (.ref b280), .val (.int (Int32.ofNat (sg373.2.2.2 + 1))), .val (.int (Int32.ofNat (sg373.2.2.2 + 1))), .val (.int (1 : Int32))] [(.ref b184), (.int (Int32.ofNat (sg373.2.2.2 + 1))), (.int (0 : Int32)), (.ref b78)]))
  refine own_go (fun t_ k_ => XS.aload A390.here hx rfl (hb hby at_338) rfl rfl k_) ?_
  show own_Go _ _ _ _ (T389.setTop (mkF m 340 #[.val (.int p0), .val (.long q1), .second, .val (.int p2), .val (.int p3), .val (.int p4), .val (.ref b4), .val (.int (Int32.ofNat i0)), .val (.int (Int32.ofNat (i0 + d0))), .val (.int (Int32.ofNat qn)), .val (.ref b78), .val (.ref b184), .val (.ref b255), .val (.ref b267), .val (.ref b280), .val (.int (Int32.ofNat (sg373.2.2.2 + 1))), .val (.int (Int32.ofNat (sg373.2.2.2 + 1))), .val (.int (1 : Int32))] [(.ref b255), (.ref b184), (.int (Int32.ofNat (sg373.2.2.2 + 1))), (.int (0 : Int32)), (.ref b78)]))
  refine own_go (fun t_ k_ => XS.aload A390.here hx rfl (hb hby at_340) rfl rfl k_) ?_
  show own_Go _ _ _ _ (T389.setTop (mkF m 342 #[.val (.int p0), .val (.long q1), .second, .val (.int p2), .val (.int p3), .val (.int p4), .val (.ref b4), .val (.int (Int32.ofNat i0)), .val (.int (Int32.ofNat (i0 + d0))), .val (.int (Int32.ofNat qn)), .val (.ref b78), .val (.ref b184), .val (.ref b255), .val (.ref b267), .val (.ref b280), .val (.int (Int32.ofNat (sg373.2.2.2 + 1))), .val (.int (Int32.ofNat (sg373.2.2.2 + 1))), .val (.int (1 : Int32))] [(.ref b267), (.ref b255), (.ref b184), (.int (Int32.ofNat (sg373.2.2.2 + 1))), (.int (0 : Int32)), (.ref b78)]))
  refine own_callS A390 hx hZ hown (y := (⟨"com/example/indexloom/indexloom/data/DataHeaderSplitPinLaw", "check", "([III[I[I[I)Z"⟩ : MethodName)) (hw _ (List.mem_of_getElem? (i := 17) rfl)) (hw _ (List.mem_of_getElem? (i := 18) rfl)) (hw _ (List.mem_of_getElem? (i := 3) rfl)) (hw _ (List.mem_of_getElem? (i := 19) rfl)) (by decide) (argsL := [(.ref b78), (.int (0 : Int32)), (.int (Int32.ofNat (sg373.2.2.2 + 1))), (.ref b184), (.ref b255), (.ref b267)]) (rest := []) (rm5 l Z a0 hw b78 b184 b255 b267 0 (sg373.2.2.2 + 1) qn c395 sg373.1 sg373.2.1 (own_En sg373 (i0 + d0)) h391 n0 V396 V401 V402 V403 (HH 0) (by omega) (by decide) (by omega)) 0 (by decide) (by decide) rfl (by rw [hml]; rfl) (lenOf pd___III_I_I_I_Z rfl) rfl (by show 2 * 0 + _ ≤ _; exact Nat.le_of_eq rfl) (hb hby at_342) (by decide) (by decide) (fun v410 T407 h409 A408 hQ411 => ?_)
  obtain ⟨rfl, rfl⟩ := hQ411
  show own_Go _ _ _ _ (T407.setTop (mkF m 345 #[.val (.int p0), .val (.long q1), .second, .val (.int p2), .val (.int p3), .val (.int p4), .val (.ref b4), .val (.int (Int32.ofNat i0)), .val (.int (Int32.ofNat (i0 + d0))), .val (.int (Int32.ofNat qn)), .val (.ref b78), .val (.ref b184), .val (.ref b255), .val (.ref b267), .val (.ref b280), .val (.int (Int32.ofNat (sg373.2.2.2 + 1))), .val (.int (Int32.ofNat (sg373.2.2.2 + 1))), .val (.int (1 : Int32))] [(.int (1 : Int32))]))
  have hc412 : ¬ ((1 : Int32) = (0 : Int32)) := (by decide)
  refine own_go (fun t_ k_ => XS.ifNo A408.here hx rfl (hb hby at_345) rfl ((if0 _ _).trans (feq hc412).1) k_) ?_
  show own_Go _ _ _ _ (T407.setTop (mkF m 348 #[.val (.int p0), .val (.long q1), .second, .val (.int p2), .val (.int p3), .val (.int p4), .val (.ref b4), .val (.int (Int32.ofNat i0)), .val (.int (Int32.ofNat (i0 + d0))), .val (.int (Int32.ofNat qn)), .val (.ref b78), .val (.ref b184), .val (.ref b255), .val (.ref b267), .val (.ref b280), .val (.int (Int32.ofNat (sg373.2.2.2 + 1))), .val (.int (Int32.ofNat (sg373.2.2.2 + 1))), .val (.int (1 : Int32))] []))
  refine own_go (fun t_ k_ => XS.iconst A408.here hx rfl (hb hby at_348) k_) ?_
  show own_Go _ _ _ _ (T407.setTop (mkF m 349 #[.val (.int p0), .val (.long q1), .second, .val (.int p2), .val (.int p3), .val (.int p4), .val (.ref b4), .val (.int (Int32.ofNat i0)), .val (.int (Int32.ofNat (i0 + d0))), .val (.int (Int32.ofNat qn)), .val (.ref b78), .val (.ref b184), .val (.ref b255), .val (.ref b267), .val (.ref b280), .val (.int (Int32.ofNat (sg373.2.2.2 + 1))), .val (.int (Int32.ofNat (sg373.2.2.2 + 1))), .val (.int (1 : Int32))] [(.int (1 : Int32))]))
  refine own_go (fun t_ k_ => XS.goto A408.here hx rfl (pc0 := 349) (pc' := 353) rfl (hb hby at_349) (by decide) (by decide) k_) ?_
  show own_Go _ _ _ _ (T407.setTop (mkF m 353 #[.val (.int p0), .val (.long q1), .second, .val (.int p2), .val (.int p3), .val (.int p4), .val (.ref b4), .val (.int (Int32.ofNat i0)), .val (.int (Int32.ofNat (i0 + d0))), .val (.int (Int32.ofNat qn)), .val (.ref b78), .val (.ref b184), .val (.ref b255), .val (.ref b267), .val (.ref b280), .val (.int (Int32.ofNat (sg373.2.2.2 + 1))), .val (.int (Int32.ofNat (sg373.2.2.2 + 1))), .val (.int (1 : Int32))] [(.int (1 : Int32))]))
  refine own_go (fun t_ k_ => XS.istore A408.here hx rfl (hb hby at_353) rfl (l' := #[.val (.int p0), .val (.long q1), .second, .val (.int p2), .val (.int p3), .val (.int p4), .val (.ref b4), .val (.int (Int32.ofNat i0)), .val (.int (Int32.ofNat (i0 + d0))), .val (.int (Int32.ofNat qn)), .val (.ref b78), .val (.ref b184), .val (.ref b255), .val (.ref b267), .val (.ref b280), .val (.int (Int32.ofNat (sg373.2.2.2 + 1))), .val (.int (Int32.ofNat (sg373.2.2.2 + 1))), .val (.int (1 : Int32))]) rfl k_) ?_
  show own_Go _ _ _ _ (T407.setTop (mkF m 355 #[.val (.int p0), .val (.long q1), .second, .val (.int p2), .val (.int p3), .val (.int p4), .val (.ref b4), .val (.int (Int32.ofNat i0)), .val (.int (Int32.ofNat (i0 + d0))), .val (.int (Int32.ofNat qn)), .val (.ref b78), .val (.ref b184), .val (.ref b255), .val (.ref b267), .val (.ref b280), .val (.int (Int32.ofNat (sg373.2.2.2 + 1))), .val (.int (Int32.ofNat (sg373.2.2.2 + 1))), .val (.int (1 : Int32))] []))
  refine own_go (fun t_ k_ => XS.iload A408.here hx rfl (hb hby at_355) rfl k_) ?_
  show own_Go _ _ _ _ (T407.setTop (mkF m 357 #[.val (.int p0), .val (.long q1), .second, .val (.int p2), .val (.int p3), .val (.int p4), .val (.ref b4), .val (.int (Int32.ofNat i0)), .val (.int (Int32.ofNat (i0 + d0))), .val (.int (Int32.ofNat qn)), .val (.ref b78), .val (.ref b184), .val (.ref b255), .val (.ref b267), .val (.ref b280), .val (.int (Int32.ofNat (sg373.2.2.2 + 1))), .val (.int (Int32.ofNat (sg373.2.2.2 + 1))), .val (.int (1 : Int32))] [(.int (1 : Int32))]))
  have hc413 : ¬ ((1 : Int32) = (0 : Int32)) := (by decide)
  refine own_go (fun t_ k_ => XS.ifNo A408.here hx rfl (hb hby at_357) rfl ((if0 _ _).trans (feq hc413).1) k_) ?_
  show own_Go _ _ _ _ (T407.setTop (mkF m 360 #[.val (.int p0), .val (.long q1), .second, .val (.int p2), .val (.int p3), .val (.int p4), .val (.ref b4), .val (.int (Int32.ofNat i0)), .val (.int (Int32.ofNat (i0 + d0))), .val (.int (Int32.ofNat qn)), .val (.ref b78), .val (.ref b184), .val (.ref b255), .val (.ref b267), .val (.ref b280), .val (.int (Int32.ofNat (sg373.2.2.2 + 1))), .val (.int (Int32.ofNat (sg373.2.2.2 + 1))), .val (.int (1 : Int32))] []))
  refine own_go (fun t_ k_ => XS.aload A408.here hx rfl (hb hby at_360) rfl rfl k_) ?_
  show own_Go _ _ _ _ (T407.setTop (mkF m 362 #[.val (.int p0), .val (.long q1), .second, .val (.int p2), .val (.int p3), .val (.int p4), .val (.ref b4), .val (.int (Int32.ofNat i0)), .val (.int (Int32.ofNat (i0 + d0))), .val (.int (Int32.ofNat qn)), .val (.ref b78), .val (.ref b184), .val (.ref b255), .val (.ref b267), .val (.ref b280), .val (.int (Int32.ofNat (sg373.2.2.2 + 1))), .val (.int (Int32.ofNat (sg373.2.2.2 + 1))), .val (.int (1 : Int32))] [(.ref b78)]))
  refine own_go (fun t_ k_ => XS.iconst A408.here hx rfl (hb hby at_362) k_) ?_
  show own_Go _ _ _ _ (T407.setTop (mkF m 363 #[.val (.int p0), .val (.long q1), .second, .val (.int p2), .val (.int p3), .val (.int p4), .val (.ref b4), .val (.int (Int32.ofNat i0)), .val (.int (Int32.ofNat (i0 + d0))), .val (.int (Int32.ofNat qn)), .val (.ref b78), .val (.ref b184), .val (.ref b255), .val (.ref b267), .val (.ref b280), .val (.int (Int32.ofNat (sg373.2.2.2 + 1))), .val (.int (Int32.ofNat (sg373.2.2.2 + 1))), .val (.int (1 : Int32))] [(.int (1 : Int32)), (.ref b78)]))
  refine own_go (fun t_ k_ => XS.iload A408.here hx rfl (hb hby at_363) rfl k_) ?_
  show own_Go _ _ _ _ (T407.setTop (mkF m 365 #[.val (.int p0), .val (.long q1), .second, .val (.int p2), .val (.int p3), .val (.int p4), .val (.ref b4), .val (.int (Int32.ofNat i0)), .val (.int (Int32.ofNat (i0 + d0))), .val (.int (Int32.ofNat qn)), .val (.ref b78), .val (.ref b184), .val (.ref b255), .val (.ref b267), .val (.ref b280), .val (.int (Int32.ofNat (sg373.2.2.2 + 1))), .val (.int (Int32.ofNat (sg373.2.2.2 + 1))), .val (.int (1 : Int32))] [(.int (Int32.ofNat (sg373.2.2.2 + 1))), (.int (1 : Int32)), (.ref b78)]))
  refine own_go (fun t_ k_ => XS.aload A408.here hx rfl (hb hby at_365) rfl rfl k_) ?_
  show own_Go _ _ _ _ (T407.setTop (mkF m 367 #[.val (.int p0), .val (.long q1), .second, .val (.int p2), .val (.int p3), .val (.int p4), .val (.ref b4), .val (.int (Int32.ofNat i0)), .val (.int (Int32.ofNat (i0 + d0))), .val (.int (Int32.ofNat qn)), .val (.ref b78), .val (.ref b184), .val (.ref b255), .val (.ref b267), .val (.ref b280), .val (.int (Int32.ofNat (sg373.2.2.2 + 1))), .val (.int (Int32.ofNat (sg373.2.2.2 + 1))), .val (.int (1 : Int32))] [(.ref b184), (.int (Int32.ofNat (sg373.2.2.2 + 1))), (.int (1 : Int32)), (.ref b78)]))
  refine own_go (fun t_ k_ => XS.aload A408.here hx rfl (hb hby at_367) rfl rfl k_) ?_
  show own_Go _ _ _ _ (T407.setTop (mkF m 369 #[.val (.int p0), .val (.long q1), .second, .val (.int p2), .val (.int p3), .val (.int p4), .val (.ref b4), .val (.int (Int32.ofNat i0)), .val (.int (Int32.ofNat (i0 + d0))), .val (.int (Int32.ofNat qn)), .val (.ref b78), .val (.ref b184), .val (.ref b255), .val (.ref b267), .val (.ref b280), .val (.int (Int32.ofNat (sg373.2.2.2 + 1))), .val (.int (Int32.ofNat (sg373.2.2.2 + 1))), .val (.int (1 : Int32))] [(.ref b255), (.ref b184), (.int (Int32.ofNat (sg373.2.2.2 + 1))), (.int (1 : Int32)), (.ref b78)]))
  refine own_go (fun t_ k_ => XS.aload A408.here hx rfl (hb hby at_369) rfl rfl k_) ?_
  show own_Go _ _ _ _ (T407.setTop (mkF m 371 #[.val (.int p0), .val (.long q1), .second, .val (.int p2), .val (.int p3), .val (.int p4), .val (.ref b4), .val (.int (Int32.ofNat i0)), .val (.int (Int32.ofNat (i0 + d0))), .val (.int (Int32.ofNat qn)), .val (.ref b78), .val (.ref b184), .val (.ref b255), .val (.ref b267), .val (.ref b280), .val (.int (Int32.ofNat (sg373.2.2.2 + 1))), .val (.int (Int32.ofNat (sg373.2.2.2 + 1))), .val (.int (1 : Int32))] [(.ref b267), (.ref b255), (.ref b184), (.int (Int32.ofNat (sg373.2.2.2 + 1))), (.int (1 : Int32)), (.ref b78)]))
  refine own_callS A408 hx hZ hown (y := (⟨"com/example/indexloom/indexloom/data/DataHeaderSplitPinLaw", "check", "([III[I[I[I)Z"⟩ : MethodName)) (hw _ (List.mem_of_getElem? (i := 17) rfl)) (hw _ (List.mem_of_getElem? (i := 18) rfl)) (hw _ (List.mem_of_getElem? (i := 3) rfl)) (hw _ (List.mem_of_getElem? (i := 19) rfl)) (by decide) (argsL := [(.ref b78), (.int (1 : Int32)), (.int (Int32.ofNat (sg373.2.2.2 + 1))), (.ref b184), (.ref b255), (.ref b267)]) (rest := []) (rm5 l Z a0 hw b78 b184 b255 b267 1 (sg373.2.2.2 + 1) qn c395 sg373.1 sg373.2.1 (own_En sg373 (i0 + d0)) h391 n0 V396 V401 V402 V403 (HH 1) (by omega) (by decide) (by omega)) 0 (by decide) (by decide) rfl (by rw [hml]; rfl) (lenOf pd___III_I_I_I_Z rfl) rfl (by show 2 * 0 + _ ≤ _; exact Nat.le_of_eq rfl) (hb hby at_371) (by decide) (by decide) (fun v417 T414 h416 A415 hQ418 => ?_)
  obtain ⟨rfl, rfl⟩ := hQ418
  show own_Go _ _ _ _ (T414.setTop (mkF m 374 #[.val (.int p0), .val (.long q1), .second, .val (.int p2), .val (.int p3), .val (.int p4), .val (.ref b4), .val (.int (Int32.ofNat i0)), .val (.int (Int32.ofNat (i0 + d0))), .val (.int (Int32.ofNat qn)), .val (.ref b78), .val (.ref b184), .val (.ref b255), .val (.ref b267), .val (.ref b280), .val (.int (Int32.ofNat (sg373.2.2.2 + 1))), .val (.int (Int32.ofNat (sg373.2.2.2 + 1))), .val (.int (1 : Int32))] [(.int (1 : Int32))]))
  have hc419 : ¬ ((1 : Int32) = (0 : Int32)) := (by decide)
  refine own_go (fun t_ k_ => XS.ifNo A415.here hx rfl (hb hby at_374) rfl ((if0 _ _).trans (feq hc419).1) k_) ?_
  show own_Go _ _ _ _ (T414.setTop (mkF m 377 #[.val (.int p0), .val (.long q1), .second, .val (.int p2), .val (.int p3), .val (.int p4), .val (.ref b4), .val (.int (Int32.ofNat i0)), .val (.int (Int32.ofNat (i0 + d0))), .val (.int (Int32.ofNat qn)), .val (.ref b78), .val (.ref b184), .val (.ref b255), .val (.ref b267), .val (.ref b280), .val (.int (Int32.ofNat (sg373.2.2.2 + 1))), .val (.int (Int32.ofNat (sg373.2.2.2 + 1))), .val (.int (1 : Int32))] []))
  refine own_go (fun t_ k_ => XS.iconst A415.here hx rfl (hb hby at_377) k_) ?_
  show own_Go _ _ _ _ (T414.setTop (mkF m 378 #[.val (.int p0), .val (.long q1), .second, .val (.int p2), .val (.int p3), .val (.int p4), .val (.ref b4), .val (.int (Int32.ofNat i0)), .val (.int (Int32.ofNat (i0 + d0))), .val (.int (Int32.ofNat qn)), .val (.ref b78), .val (.ref b184), .val (.ref b255), .val (.ref b267), .val (.ref b280), .val (.int (Int32.ofNat (sg373.2.2.2 + 1))), .val (.int (Int32.ofNat (sg373.2.2.2 + 1))), .val (.int (1 : Int32))] [(.int (1 : Int32))]))
  refine own_go (fun t_ k_ => XS.goto A415.here hx rfl (pc0 := 378) (pc' := 382) rfl (hb hby at_378) (by decide) (by decide) k_) ?_
  show own_Go _ _ _ _ (T414.setTop (mkF m 382 #[.val (.int p0), .val (.long q1), .second, .val (.int p2), .val (.int p3), .val (.int p4), .val (.ref b4), .val (.int (Int32.ofNat i0)), .val (.int (Int32.ofNat (i0 + d0))), .val (.int (Int32.ofNat qn)), .val (.ref b78), .val (.ref b184), .val (.ref b255), .val (.ref b267), .val (.ref b280), .val (.int (Int32.ofNat (sg373.2.2.2 + 1))), .val (.int (Int32.ofNat (sg373.2.2.2 + 1))), .val (.int (1 : Int32))] [(.int (1 : Int32))]))
  refine own_go (fun t_ k_ => XS.istore A415.here hx rfl (hb hby at_382) rfl (l' := #[.val (.int p0), .val (.long q1), .second, .val (.int p2), .val (.int p3), .val (.int p4), .val (.ref b4), .val (.int (Int32.ofNat i0)), .val (.int (Int32.ofNat (i0 + d0))), .val (.int (Int32.ofNat qn)), .val (.ref b78), .val (.ref b184), .val (.ref b255), .val (.ref b267), .val (.ref b280), .val (.int (Int32.ofNat (sg373.2.2.2 + 1))), .val (.int (Int32.ofNat (sg373.2.2.2 + 1))), .val (.int (1 : Int32))]) rfl k_) ?_
  show own_Go _ _ _ _ (T414.setTop (mkF m 384 #[.val (.int p0), .val (.long q1), .second, .val (.int p2), .val (.int p3), .val (.int p4), .val (.ref b4), .val (.int (Int32.ofNat i0)), .val (.int (Int32.ofNat (i0 + d0))), .val (.int (Int32.ofNat qn)), .val (.ref b78), .val (.ref b184), .val (.ref b255), .val (.ref b267), .val (.ref b280), .val (.int (Int32.ofNat (sg373.2.2.2 + 1))), .val (.int (Int32.ofNat (sg373.2.2.2 + 1))), .val (.int (1 : Int32))] []))
  refine own_go (fun t_ k_ => XS.iload A415.here hx rfl (hb hby at_384) rfl k_) ?_
  show own_Go _ _ _ _ (T414.setTop (mkF m 386 #[.val (.int p0), .val (.long q1), .second, .val (.int p2), .val (.int p3), .val (.int p4), .val (.ref b4), .val (.int (Int32.ofNat i0)), .val (.int (Int32.ofNat (i0 + d0))), .val (.int (Int32.ofNat qn)), .val (.ref b78), .val (.ref b184), .val (.ref b255), .val (.ref b267), .val (.ref b280), .val (.int (Int32.ofNat (sg373.2.2.2 + 1))), .val (.int (Int32.ofNat (sg373.2.2.2 + 1))), .val (.int (1 : Int32))] [(.int (1 : Int32))]))
  have hc420 : ¬ ((1 : Int32) = (0 : Int32)) := (by decide)
  refine own_go (fun t_ k_ => XS.ifNo A415.here hx rfl (hb hby at_386) rfl ((if0 _ _).trans (feq hc420).1) k_) ?_
  show own_Go _ _ _ _ (T414.setTop (mkF m 389 #[.val (.int p0), .val (.long q1), .second, .val (.int p2), .val (.int p3), .val (.int p4), .val (.ref b4), .val (.int (Int32.ofNat i0)), .val (.int (Int32.ofNat (i0 + d0))), .val (.int (Int32.ofNat qn)), .val (.ref b78), .val (.ref b184), .val (.ref b255), .val (.ref b267), .val (.ref b280), .val (.int (Int32.ofNat (sg373.2.2.2 + 1))), .val (.int (Int32.ofNat (sg373.2.2.2 + 1))), .val (.int (1 : Int32))] []))
  refine own_go (fun t_ k_ => XS.aload A415.here hx rfl (hb hby at_389) rfl rfl k_) ?_
  show own_Go _ _ _ _ (T414.setTop (mkF m 391 #[.val (.int p0), .val (.long q1), .second, .val (.int p2), .val (.int p3), .val (.int p4), .val (.ref b4), .val (.int (Int32.ofNat i0)), .val (.int (Int32.ofNat (i0 + d0))), .val (.int (Int32.ofNat qn)), .val (.ref b78), .val (.ref b184), .val (.ref b255), .val (.ref b267), .val (.ref b280), .val (.int (Int32.ofNat (sg373.2.2.2 + 1))), .val (.int (Int32.ofNat (sg373.2.2.2 + 1))), .val (.int (1 : Int32))] [(.ref b78)]))
  refine own_go (fun t_ k_ => XS.iconst A415.here hx rfl (hb hby at_391) k_) ?_
  show own_Go _ _ _ _ (T414.setTop (mkF m 392 #[.val (.int p0), .val (.long q1), .second, .val (.int p2), .val (.int p3), .val (.int p4), .val (.ref b4), .val (.int (Int32.ofNat i0)), .val (.int (Int32.ofNat (i0 + d0))), .val (.int (Int32.ofNat qn)), .val (.ref b78), .val (.ref b184), .val (.ref b255), .val (.ref b267), .val (.ref b280), .val (.int (Int32.ofNat (sg373.2.2.2 + 1))), .val (.int (Int32.ofNat (sg373.2.2.2 + 1))), .val (.int (1 : Int32))] [(.int (2 : Int32)), (.ref b78)]))
  refine own_go (fun t_ k_ => XS.iload A415.here hx rfl (hb hby at_392) rfl k_) ?_
  show own_Go _ _ _ _ (T414.setTop (mkF m 394 #[.val (.int p0), .val (.long q1), .second, .val (.int p2), .val (.int p3), .val (.int p4), .val (.ref b4), .val (.int (Int32.ofNat i0)), .val (.int (Int32.ofNat (i0 + d0))), .val (.int (Int32.ofNat qn)), .val (.ref b78), .val (.ref b184), .val (.ref b255), .val (.ref b267), .val (.ref b280), .val (.int (Int32.ofNat (sg373.2.2.2 + 1))), .val (.int (Int32.ofNat (sg373.2.2.2 + 1))), .val (.int (1 : Int32))] [(.int (Int32.ofNat (sg373.2.2.2 + 1))), (.int (2 : Int32)), (.ref b78)]))
  refine own_go (fun t_ k_ => XS.aload A415.here hx rfl (hb hby at_394) rfl rfl k_) ?_
  show own_Go _ _ _ _ (T414.setTop (mkF m 396 #[.val (.int p0), .val (.long q1), .second, .val (.int p2), .val (.int p3), .val (.int p4), .val (.ref b4), .val (.int (Int32.ofNat i0)), .val (.int (Int32.ofNat (i0 + d0))), .val (.int (Int32.ofNat qn)), .val (.ref b78), .val (.ref b184), .val (.ref b255), .val (.ref b267), .val (.ref b280), .val (.int (Int32.ofNat (sg373.2.2.2 + 1))), .val (.int (Int32.ofNat (sg373.2.2.2 + 1))), .val (.int (1 : Int32))] [(.ref b184), (.int (Int32.ofNat (sg373.2.2.2 + 1))), (.int (2 : Int32)), (.ref b78)]))
  refine own_go (fun t_ k_ => XS.aload A415.here hx rfl (hb hby at_396) rfl rfl k_) ?_
  show own_Go _ _ _ _ (T414.setTop (mkF m 398 #[.val (.int p0), .val (.long q1), .second, .val (.int p2), .val (.int p3), .val (.int p4), .val (.ref b4), .val (.int (Int32.ofNat i0)), .val (.int (Int32.ofNat (i0 + d0))), .val (.int (Int32.ofNat qn)), .val (.ref b78), .val (.ref b184), .val (.ref b255), .val (.ref b267), .val (.ref b280), .val (.int (Int32.ofNat (sg373.2.2.2 + 1))), .val (.int (Int32.ofNat (sg373.2.2.2 + 1))), .val (.int (1 : Int32))] [(.ref b255), (.ref b184), (.int (Int32.ofNat (sg373.2.2.2 + 1))), (.int (2 : Int32)), (.ref b78)]))
  refine own_go (fun t_ k_ => XS.aload A415.here hx rfl (hb hby at_398) rfl rfl k_) ?_
  show own_Go _ _ _ _ (T414.setTop (mkF m 400 #[.val (.int p0), .val (.long q1), .second, .val (.int p2), .val (.int p3), .val (.int p4), .val (.ref b4), .val (.int (Int32.ofNat i0)), .val (.int (Int32.ofNat (i0 + d0))), .val (.int (Int32.ofNat qn)), .val (.ref b78), .val (.ref b184), .val (.ref b255), .val (.ref b267), .val (.ref b280), .val (.int (Int32.ofNat (sg373.2.2.2 + 1))), .val (.int (Int32.ofNat (sg373.2.2.2 + 1))), .val (.int (1 : Int32))] [(.ref b267), (.ref b255), (.ref b184), (.int (Int32.ofNat (sg373.2.2.2 + 1))), (.int (2 : Int32)), (.ref b78)]))
  refine own_callS A415 hx hZ hown (y := (⟨"com/example/indexloom/indexloom/data/DataHeaderSplitPinLaw", "check", "([III[I[I[I)Z"⟩ : MethodName)) (hw _ (List.mem_of_getElem? (i := 17) rfl)) (hw _ (List.mem_of_getElem? (i := 18) rfl)) (hw _ (List.mem_of_getElem? (i := 3) rfl)) (hw _ (List.mem_of_getElem? (i := 19) rfl)) (by decide) (argsL := [(.ref b78), (.int (2 : Int32)), (.int (Int32.ofNat (sg373.2.2.2 + 1))), (.ref b184), (.ref b255), (.ref b267)]) (rest := []) (rm5 l Z a0 hw b78 b184 b255 b267 2 (sg373.2.2.2 + 1) qn c395 sg373.1 sg373.2.1 (own_En sg373 (i0 + d0)) h391 n0 V396 V401 V402 V403 (HH 2) (by omega) (by decide) (by omega)) 0 (by decide) (by decide) rfl (by rw [hml]; rfl) (lenOf pd___III_I_I_I_Z rfl) rfl (by show 2 * 0 + _ ≤ _; exact Nat.le_of_eq rfl) (hb hby at_400) (by decide) (by decide) (fun v424 T421 h423 A422 hQ425 => ?_)
  obtain ⟨rfl, rfl⟩ := hQ425
  show own_Go _ _ _ _ (T421.setTop (mkF m 403 #[.val (.int p0), .val (.long q1), .second, .val (.int p2), .val (.int p3), .val (.int p4), .val (.ref b4), .val (.int (Int32.ofNat i0)), .val (.int (Int32.ofNat (i0 + d0))), .val (.int (Int32.ofNat qn)), .val (.ref b78), .val (.ref b184), .val (.ref b255), .val (.ref b267), .val (.ref b280), .val (.int (Int32.ofNat (sg373.2.2.2 + 1))), .val (.int (Int32.ofNat (sg373.2.2.2 + 1))), .val (.int (1 : Int32))] [(.int (1 : Int32))]))
  have hc426 : ¬ ((1 : Int32) = (0 : Int32)) := (by decide)
  refine own_go (fun t_ k_ => XS.ifNo A422.here hx rfl (hb hby at_403) rfl ((if0 _ _).trans (feq hc426).1) k_) ?_
  show own_Go _ _ _ _ (T421.setTop (mkF m 406 #[.val (.int p0), .val (.long q1), .second, .val (.int p2), .val (.int p3), .val (.int p4), .val (.ref b4), .val (.int (Int32.ofNat i0)), .val (.int (Int32.ofNat (i0 + d0))), .val (.int (Int32.ofNat qn)), .val (.ref b78), .val (.ref b184), .val (.ref b255), .val (.ref b267), .val (.ref b280), .val (.int (Int32.ofNat (sg373.2.2.2 + 1))), .val (.int (Int32.ofNat (sg373.2.2.2 + 1))), .val (.int (1 : Int32))] []))
  refine own_go (fun t_ k_ => XS.iconst A422.here hx rfl (hb hby at_406) k_) ?_
  show own_Go _ _ _ _ (T421.setTop (mkF m 407 #[.val (.int p0), .val (.long q1), .second, .val (.int p2), .val (.int p3), .val (.int p4), .val (.ref b4), .val (.int (Int32.ofNat i0)), .val (.int (Int32.ofNat (i0 + d0))), .val (.int (Int32.ofNat qn)), .val (.ref b78), .val (.ref b184), .val (.ref b255), .val (.ref b267), .val (.ref b280), .val (.int (Int32.ofNat (sg373.2.2.2 + 1))), .val (.int (Int32.ofNat (sg373.2.2.2 + 1))), .val (.int (1 : Int32))] [(.int (1 : Int32))]))
  refine own_go (fun t_ k_ => XS.goto A422.here hx rfl (pc0 := 407) (pc' := 411) rfl (hb hby at_407) (by decide) (by decide) k_) ?_
  show own_Go _ _ _ _ (T421.setTop (mkF m 411 #[.val (.int p0), .val (.long q1), .second, .val (.int p2), .val (.int p3), .val (.int p4), .val (.ref b4), .val (.int (Int32.ofNat i0)), .val (.int (Int32.ofNat (i0 + d0))), .val (.int (Int32.ofNat qn)), .val (.ref b78), .val (.ref b184), .val (.ref b255), .val (.ref b267), .val (.ref b280), .val (.int (Int32.ofNat (sg373.2.2.2 + 1))), .val (.int (Int32.ofNat (sg373.2.2.2 + 1))), .val (.int (1 : Int32))] [(.int (1 : Int32))]))
  refine own_go (fun t_ k_ => XS.istore A422.here hx rfl (hb hby at_411) rfl (l' := #[.val (.int p0), .val (.long q1), .second, .val (.int p2), .val (.int p3), .val (.int p4), .val (.ref b4), .val (.int (Int32.ofNat i0)), .val (.int (Int32.ofNat (i0 + d0))), .val (.int (Int32.ofNat qn)), .val (.ref b78), .val (.ref b184), .val (.ref b255), .val (.ref b267), .val (.ref b280), .val (.int (Int32.ofNat (sg373.2.2.2 + 1))), .val (.int (Int32.ofNat (sg373.2.2.2 + 1))), .val (.int (1 : Int32))]) rfl k_) ?_
  show own_Go _ _ _ _ (T421.setTop (mkF m 413 #[.val (.int p0), .val (.long q1), .second, .val (.int p2), .val (.int p3), .val (.int p4), .val (.ref b4), .val (.int (Int32.ofNat i0)), .val (.int (Int32.ofNat (i0 + d0))), .val (.int (Int32.ofNat qn)), .val (.ref b78), .val (.ref b184), .val (.ref b255), .val (.ref b267), .val (.ref b280), .val (.int (Int32.ofNat (sg373.2.2.2 + 1))), .val (.int (Int32.ofNat (sg373.2.2.2 + 1))), .val (.int (1 : Int32))] []))
  refine own_go (fun t_ k_ => XS.iload A422.here hx rfl (hb hby at_413) rfl k_) ?_
  show own_Go _ _ _ _ (T421.setTop (mkF m 415 #[.val (.int p0), .val (.long q1), .second, .val (.int p2), .val (.int p3), .val (.int p4), .val (.ref b4), .val (.int (Int32.ofNat i0)), .val (.int (Int32.ofNat (i0 + d0))), .val (.int (Int32.ofNat qn)), .val (.ref b78), .val (.ref b184), .val (.ref b255), .val (.ref b267), .val (.ref b280), .val (.int (Int32.ofNat (sg373.2.2.2 + 1))), .val (.int (Int32.ofNat (sg373.2.2.2 + 1))), .val (.int (1 : Int32))] [(.int (1 : Int32))]))
  have hc427 : ¬ ((1 : Int32) = (0 : Int32)) := (by decide)
  refine own_go (fun t_ k_ => XS.ifNo A422.here hx rfl (hb hby at_415) rfl ((if0 _ _).trans (feq hc427).1) k_) ?_
  show own_Go _ _ _ _ (T421.setTop (mkF m 418 #[.val (.int p0), .val (.long q1), .second, .val (.int p2), .val (.int p3), .val (.int p4), .val (.ref b4), .val (.int (Int32.ofNat i0)), .val (.int (Int32.ofNat (i0 + d0))), .val (.int (Int32.ofNat qn)), .val (.ref b78), .val (.ref b184), .val (.ref b255), .val (.ref b267), .val (.ref b280), .val (.int (Int32.ofNat (sg373.2.2.2 + 1))), .val (.int (Int32.ofNat (sg373.2.2.2 + 1))), .val (.int (1 : Int32))] []))
  refine own_go (fun t_ k_ => XS.aload A422.here hx rfl (hb hby at_418) rfl rfl k_) ?_
  show own_Go _ _ _ _ (T421.setTop (mkF m 420 #[.val (.int p0), .val (.long q1), .second, .val (.int p2), .val (.int p3), .val (.int p4), .val (.ref b4), .val (.int (Int32.ofNat i0)), .val (.int (Int32.ofNat (i0 + d0))), .val (.int (Int32.ofNat qn)), .val (.ref b78), .val (.ref b184), .val (.ref b255), .val (.ref b267), .val (.ref b280), .val (.int (Int32.ofNat (sg373.2.2.2 + 1))), .val (.int (Int32.ofNat (sg373.2.2.2 + 1))), .val (.int (1 : Int32))] [(.ref b78)]))
  refine own_go (fun t_ k_ => XS.iconst A422.here hx rfl (hb hby at_420) k_) ?_
  show own_Go _ _ _ _ (T421.setTop (mkF m 421 #[.val (.int p0), .val (.long q1), .second, .val (.int p2), .val (.int p3), .val (.int p4), .val (.ref b4), .val (.int (Int32.ofNat i0)), .val (.int (Int32.ofNat (i0 + d0))), .val (.int (Int32.ofNat qn)), .val (.ref b78), .val (.ref b184), .val (.ref b255), .val (.ref b267), .val (.ref b280), .val (.int (Int32.ofNat (sg373.2.2.2 + 1))), .val (.int (Int32.ofNat (sg373.2.2.2 + 1))), .val (.int (1 : Int32))] [(.int (3 : Int32)), (.ref b78)]))
  refine own_go (fun t_ k_ => XS.iload A422.here hx rfl (hb hby at_421) rfl k_) ?_
  show own_Go _ _ _ _ (T421.setTop (mkF m 423 #[.val (.int p0), .val (.long q1), .second, .val (.int p2), .val (.int p3), .val (.int p4), .val (.ref b4), .val (.int (Int32.ofNat i0)), .val (.int (Int32.ofNat (i0 + d0))), .val (.int (Int32.ofNat qn)), .val (.ref b78), .val (.ref b184), .val (.ref b255), .val (.ref b267), .val (.ref b280), .val (.int (Int32.ofNat (sg373.2.2.2 + 1))), .val (.int (Int32.ofNat (sg373.2.2.2 + 1))), .val (.int (1 : Int32))] [(.int (Int32.ofNat (sg373.2.2.2 + 1))), (.int (3 : Int32)), (.ref b78)]))
  refine own_go (fun t_ k_ => XS.aload A422.here hx rfl (hb hby at_423) rfl rfl k_) ?_
  show own_Go _ _ _ _ (T421.setTop (mkF m 425 #[.val (.int p0), .val (.long q1), .second, .val (.int p2), .val (.int p3), .val (.int p4), .val (.ref b4), .val (.int (Int32.ofNat i0)), .val (.int (Int32.ofNat (i0 + d0))), .val (.int (Int32.ofNat qn)), .val (.ref b78), .val (.ref b184), .val (.ref b255), .val (.ref b267), .val (.ref b280), .val (.int (Int32.ofNat (sg373.2.2.2 + 1))), .val (.int (Int32.ofNat (sg373.2.2.2 + 1))), .val (.int (1 : Int32))] [(.ref b184), (.int (Int32.ofNat (sg373.2.2.2 + 1))), (.int (3 : Int32)), (.ref b78)]))
  refine own_go (fun t_ k_ => XS.aload A422.here hx rfl (hb hby at_425) rfl rfl k_) ?_
  show own_Go _ _ _ _ (T421.setTop (mkF m 427 #[.val (.int p0), .val (.long q1), .second, .val (.int p2), .val (.int p3), .val (.int p4), .val (.ref b4), .val (.int (Int32.ofNat i0)), .val (.int (Int32.ofNat (i0 + d0))), .val (.int (Int32.ofNat qn)), .val (.ref b78), .val (.ref b184), .val (.ref b255), .val (.ref b267), .val (.ref b280), .val (.int (Int32.ofNat (sg373.2.2.2 + 1))), .val (.int (Int32.ofNat (sg373.2.2.2 + 1))), .val (.int (1 : Int32))] [(.ref b255), (.ref b184), (.int (Int32.ofNat (sg373.2.2.2 + 1))), (.int (3 : Int32)), (.ref b78)]))
  refine own_go (fun t_ k_ => XS.aload A422.here hx rfl (hb hby at_427) rfl rfl k_) ?_
  show own_Go _ _ _ _ (T421.setTop (mkF m 429 #[.val (.int p0), .val (.long q1), .second, .val (.int p2), .val (.int p3), .val (.int p4), .val (.ref b4), .val (.int (Int32.ofNat i0)), .val (.int (Int32.ofNat (i0 + d0))), .val (.int (Int32.ofNat qn)), .val (.ref b78), .val (.ref b184), .val (.ref b255), .val (.ref b267), .val (.ref b280), .val (.int (Int32.ofNat (sg373.2.2.2 + 1))), .val (.int (Int32.ofNat (sg373.2.2.2 + 1))), .val (.int (1 : Int32))] [(.ref b267), (.ref b255), (.ref b184), (.int (Int32.ofNat (sg373.2.2.2 + 1))), (.int (3 : Int32)), (.ref b78)]))
  refine own_callS A422 hx hZ hown (y := (⟨"com/example/indexloom/indexloom/data/DataHeaderSplitPinLaw", "check", "([III[I[I[I)Z"⟩ : MethodName)) (hw _ (List.mem_of_getElem? (i := 17) rfl)) (hw _ (List.mem_of_getElem? (i := 18) rfl)) (hw _ (List.mem_of_getElem? (i := 3) rfl)) (hw _ (List.mem_of_getElem? (i := 19) rfl)) (by decide) (argsL := [(.ref b78), (.int (3 : Int32)), (.int (Int32.ofNat (sg373.2.2.2 + 1))), (.ref b184), (.ref b255), (.ref b267)]) (rest := []) (rm5 l Z a0 hw b78 b184 b255 b267 3 (sg373.2.2.2 + 1) qn c395 sg373.1 sg373.2.1 (own_En sg373 (i0 + d0)) h391 n0 V396 V401 V402 V403 (HH 3) (by omega) (by decide) (by omega)) 0 (by decide) (by decide) rfl (by rw [hml]; rfl) (lenOf pd___III_I_I_I_Z rfl) rfl (by show 2 * 0 + _ ≤ _; exact Nat.le_of_eq rfl) (hb hby at_429) (by decide) (by decide) (fun v431 T428 h430 A429 hQ432 => ?_)
  obtain ⟨rfl, rfl⟩ := hQ432
  show own_Go _ _ _ _ (T428.setTop (mkF m 432 #[.val (.int p0), .val (.long q1), .second, .val (.int p2), .val (.int p3), .val (.int p4), .val (.ref b4), .val (.int (Int32.ofNat i0)), .val (.int (Int32.ofNat (i0 + d0))), .val (.int (Int32.ofNat qn)), .val (.ref b78), .val (.ref b184), .val (.ref b255), .val (.ref b267), .val (.ref b280), .val (.int (Int32.ofNat (sg373.2.2.2 + 1))), .val (.int (Int32.ofNat (sg373.2.2.2 + 1))), .val (.int (1 : Int32))] [(.int (1 : Int32))]))
  have hc433 : ¬ ((1 : Int32) = (0 : Int32)) := (by decide)
  refine own_go (fun t_ k_ => XS.ifNo A429.here hx rfl (hb hby at_432) rfl ((if0 _ _).trans (feq hc433).1) k_) ?_
  show own_Go _ _ _ _ (T428.setTop (mkF m 435 #[.val (.int p0), .val (.long q1), .second, .val (.int p2), .val (.int p3), .val (.int p4), .val (.ref b4), .val (.int (Int32.ofNat i0)), .val (.int (Int32.ofNat (i0 + d0))), .val (.int (Int32.ofNat qn)), .val (.ref b78), .val (.ref b184), .val (.ref b255), .val (.ref b267), .val (.ref b280), .val (.int (Int32.ofNat (sg373.2.2.2 + 1))), .val (.int (Int32.ofNat (sg373.2.2.2 + 1))), .val (.int (1 : Int32))] []))
  refine own_go (fun t_ k_ => XS.iconst A429.here hx rfl (hb hby at_435) k_) ?_
  show own_Go _ _ _ _ (T428.setTop (mkF m 436 #[.val (.int p0), .val (.long q1), .second, .val (.int p2), .val (.int p3), .val (.int p4), .val (.ref b4), .val (.int (Int32.ofNat i0)), .val (.int (Int32.ofNat (i0 + d0))), .val (.int (Int32.ofNat qn)), .val (.ref b78), .val (.ref b184), .val (.ref b255), .val (.ref b267), .val (.ref b280), .val (.int (Int32.ofNat (sg373.2.2.2 + 1))), .val (.int (Int32.ofNat (sg373.2.2.2 + 1))), .val (.int (1 : Int32))] [(.int (1 : Int32))]))
  refine own_go (fun t_ k_ => XS.goto A429.here hx rfl (pc0 := 436) (pc' := 440) rfl (hb hby at_436) (by decide) (by decide) k_) ?_
  show own_Go _ _ _ _ (T428.setTop (mkF m 440 #[.val (.int p0), .val (.long q1), .second, .val (.int p2), .val (.int p3), .val (.int p4), .val (.ref b4), .val (.int (Int32.ofNat i0)), .val (.int (Int32.ofNat (i0 + d0))), .val (.int (Int32.ofNat qn)), .val (.ref b78), .val (.ref b184), .val (.ref b255), .val (.ref b267), .val (.ref b280), .val (.int (Int32.ofNat (sg373.2.2.2 + 1))), .val (.int (Int32.ofNat (sg373.2.2.2 + 1))), .val (.int (1 : Int32))] [(.int (1 : Int32))]))
  refine own_go (fun t_ k_ => XS.istore A429.here hx rfl (hb hby at_440) rfl (l' := #[.val (.int p0), .val (.long q1), .second, .val (.int p2), .val (.int p3), .val (.int p4), .val (.ref b4), .val (.int (Int32.ofNat i0)), .val (.int (Int32.ofNat (i0 + d0))), .val (.int (Int32.ofNat qn)), .val (.ref b78), .val (.ref b184), .val (.ref b255), .val (.ref b267), .val (.ref b280), .val (.int (Int32.ofNat (sg373.2.2.2 + 1))), .val (.int (Int32.ofNat (sg373.2.2.2 + 1))), .val (.int (1 : Int32))]) rfl k_) ?_
  show own_Go _ _ _ _ (T428.setTop (mkF m 442 #[.val (.int p0), .val (.long q1), .second, .val (.int p2), .val (.int p3), .val (.int p4), .val (.ref b4), .val (.int (Int32.ofNat i0)), .val (.int (Int32.ofNat (i0 + d0))), .val (.int (Int32.ofNat qn)), .val (.ref b78), .val (.ref b184), .val (.ref b255), .val (.ref b267), .val (.ref b280), .val (.int (Int32.ofNat (sg373.2.2.2 + 1))), .val (.int (Int32.ofNat (sg373.2.2.2 + 1))), .val (.int (1 : Int32))] []))
  refine own_go (fun t_ k_ => XS.iload A429.here hx rfl (hb hby at_442) rfl k_) ?_
  show own_Go _ _ _ _ (T428.setTop (mkF m 444 #[.val (.int p0), .val (.long q1), .second, .val (.int p2), .val (.int p3), .val (.int p4), .val (.ref b4), .val (.int (Int32.ofNat i0)), .val (.int (Int32.ofNat (i0 + d0))), .val (.int (Int32.ofNat qn)), .val (.ref b78), .val (.ref b184), .val (.ref b255), .val (.ref b267), .val (.ref b280), .val (.int (Int32.ofNat (sg373.2.2.2 + 1))), .val (.int (Int32.ofNat (sg373.2.2.2 + 1))), .val (.int (1 : Int32))] [(.int (1 : Int32))]))
  have hc434 : ¬ ((1 : Int32) = (0 : Int32)) := (by decide)
  refine own_go (fun t_ k_ => XS.ifNo A429.here hx rfl (hb hby at_444) rfl ((if0 _ _).trans (feq hc434).1) k_) ?_
  show own_Go _ _ _ _ (T428.setTop (mkF m 447 #[.val (.int p0), .val (.long q1), .second, .val (.int p2), .val (.int p3), .val (.int p4), .val (.ref b4), .val (.int (Int32.ofNat i0)), .val (.int (Int32.ofNat (i0 + d0))), .val (.int (Int32.ofNat qn)), .val (.ref b78), .val (.ref b184), .val (.ref b255), .val (.ref b267), .val (.ref b280), .val (.int (Int32.ofNat (sg373.2.2.2 + 1))), .val (.int (Int32.ofNat (sg373.2.2.2 + 1))), .val (.int (1 : Int32))] []))
  refine own_go (fun t_ k_ => XS.aload A429.here hx rfl (hb hby at_447) rfl rfl k_) ?_
  show own_Go _ _ _ _ (T428.setTop (mkF m 449 #[.val (.int p0), .val (.long q1), .second, .val (.int p2), .val (.int p3), .val (.int p4), .val (.ref b4), .val (.int (Int32.ofNat i0)), .val (.int (Int32.ofNat (i0 + d0))), .val (.int (Int32.ofNat qn)), .val (.ref b78), .val (.ref b184), .val (.ref b255), .val (.ref b267), .val (.ref b280), .val (.int (Int32.ofNat (sg373.2.2.2 + 1))), .val (.int (Int32.ofNat (sg373.2.2.2 + 1))), .val (.int (1 : Int32))] [(.ref b78)]))
  refine own_go (fun t_ k_ => XS.iconst A429.here hx rfl (hb hby at_449) k_) ?_
  show own_Go _ _ _ _ (T428.setTop (mkF m 450 #[.val (.int p0), .val (.long q1), .second, .val (.int p2), .val (.int p3), .val (.int p4), .val (.ref b4), .val (.int (Int32.ofNat i0)), .val (.int (Int32.ofNat (i0 + d0))), .val (.int (Int32.ofNat qn)), .val (.ref b78), .val (.ref b184), .val (.ref b255), .val (.ref b267), .val (.ref b280), .val (.int (Int32.ofNat (sg373.2.2.2 + 1))), .val (.int (Int32.ofNat (sg373.2.2.2 + 1))), .val (.int (1 : Int32))] [(.int (4 : Int32)), (.ref b78)]))
  refine own_go (fun t_ k_ => XS.iload A429.here hx rfl (hb hby at_450) rfl k_) ?_
  show own_Go _ _ _ _ (T428.setTop (mkF m 452 #[.val (.int p0), .val (.long q1), .second, .val (.int p2), .val (.int p3), .val (.int p4), .val (.ref b4), .val (.int (Int32.ofNat i0)), .val (.int (Int32.ofNat (i0 + d0))), .val (.int (Int32.ofNat qn)), .val (.ref b78), .val (.ref b184), .val (.ref b255), .val (.ref b267), .val (.ref b280), .val (.int (Int32.ofNat (sg373.2.2.2 + 1))), .val (.int (Int32.ofNat (sg373.2.2.2 + 1))), .val (.int (1 : Int32))] [(.int (Int32.ofNat (sg373.2.2.2 + 1))), (.int (4 : Int32)), (.ref b78)]))
  refine own_go (fun t_ k_ => XS.aload A429.here hx rfl (hb hby at_452) rfl rfl k_) ?_
  show own_Go _ _ _ _ (T428.setTop (mkF m 454 #[.val (.int p0), .val (.long q1), .second, .val (.int p2), .val (.int p3), .val (.int p4), .val (.ref b4), .val (.int (Int32.ofNat i0)), .val (.int (Int32.ofNat (i0 + d0))), .val (.int (Int32.ofNat qn)), .val (.ref b78), .val (.ref b184), .val (.ref b255), .val (.ref b267), .val (.ref b280), .val (.int (Int32.ofNat (sg373.2.2.2 + 1))), .val (.int (Int32.ofNat (sg373.2.2.2 + 1))), .val (.int (1 : Int32))] [(.ref b184), (.int (Int32.ofNat (sg373.2.2.2 + 1))), (.int (4 : Int32)), (.ref b78)]))
  refine own_go (fun t_ k_ => XS.aload A429.here hx rfl (hb hby at_454) rfl rfl k_) ?_
  show own_Go _ _ _ _ (T428.setTop (mkF m 456 #[.val (.int p0), .val (.long q1), .second, .val (.int p2), .val (.int p3), .val (.int p4), .val (.ref b4), .val (.int (Int32.ofNat i0)), .val (.int (Int32.ofNat (i0 + d0))), .val (.int (Int32.ofNat qn)), .val (.ref b78), .val (.ref b184), .val (.ref b255), .val (.ref b267), .val (.ref b280), .val (.int (Int32.ofNat (sg373.2.2.2 + 1))), .val (.int (Int32.ofNat (sg373.2.2.2 + 1))), .val (.int (1 : Int32))] [(.ref b255), (.ref b184), (.int (Int32.ofNat (sg373.2.2.2 + 1))), (.int (4 : Int32)), (.ref b78)]))
  refine own_go (fun t_ k_ => XS.aload A429.here hx rfl (hb hby at_456) rfl rfl k_) ?_
  show own_Go _ _ _ _ (T428.setTop (mkF m 458 #[.val (.int p0), .val (.long q1), .second, .val (.int p2), .val (.int p3), .val (.int p4), .val (.ref b4), .val (.int (Int32.ofNat i0)), .val (.int (Int32.ofNat (i0 + d0))), .val (.int (Int32.ofNat qn)), .val (.ref b78), .val (.ref b184), .val (.ref b255), .val (.ref b267), .val (.ref b280), .val (.int (Int32.ofNat (sg373.2.2.2 + 1))), .val (.int (Int32.ofNat (sg373.2.2.2 + 1))), .val (.int (1 : Int32))] [(.ref b267), (.ref b255), (.ref b184), (.int (Int32.ofNat (sg373.2.2.2 + 1))), (.int (4 : Int32)), (.ref b78)]))
  refine own_callS A429 hx hZ hown (y := (⟨"com/example/indexloom/indexloom/data/DataHeaderSplitPinLaw", "check", "([III[I[I[I)Z"⟩ : MethodName)) (hw _ (List.mem_of_getElem? (i := 17) rfl)) (hw _ (List.mem_of_getElem? (i := 18) rfl)) (hw _ (List.mem_of_getElem? (i := 3) rfl)) (hw _ (List.mem_of_getElem? (i := 19) rfl)) (by decide) (argsL := [(.ref b78), (.int (4 : Int32)), (.int (Int32.ofNat (sg373.2.2.2 + 1))), (.ref b184), (.ref b255), (.ref b267)]) (rest := []) (rm5 l Z a0 hw b78 b184 b255 b267 4 (sg373.2.2.2 + 1) qn c395 sg373.1 sg373.2.1 (own_En sg373 (i0 + d0)) h391 n0 V396 V401 V402 V403 (HH 4) (by omega) (by decide) (by omega)) 0 (by decide) (by decide) rfl (by rw [hml]; rfl) (lenOf pd___III_I_I_I_Z rfl) rfl (by show 2 * 0 + _ ≤ _; exact Nat.le_of_eq rfl) (hb hby at_458) (by decide) (by decide) (fun v438 T435 h437 A436 hQ439 => ?_)
  obtain ⟨rfl, rfl⟩ := hQ439
  show own_Go _ _ _ _ (T435.setTop (mkF m 461 #[.val (.int p0), .val (.long q1), .second, .val (.int p2), .val (.int p3), .val (.int p4), .val (.ref b4), .val (.int (Int32.ofNat i0)), .val (.int (Int32.ofNat (i0 + d0))), .val (.int (Int32.ofNat qn)), .val (.ref b78), .val (.ref b184), .val (.ref b255), .val (.ref b267), .val (.ref b280), .val (.int (Int32.ofNat (sg373.2.2.2 + 1))), .val (.int (Int32.ofNat (sg373.2.2.2 + 1))), .val (.int (1 : Int32))] [(.int (1 : Int32))]))
  have hc440 : ¬ ((1 : Int32) = (0 : Int32)) := (by decide)
  refine own_go (fun t_ k_ => XS.ifNo A436.here hx rfl (hb hby at_461) rfl ((if0 _ _).trans (feq hc440).1) k_) ?_
  show own_Go _ _ _ _ (T435.setTop (mkF m 464 #[.val (.int p0), .val (.long q1), .second, .val (.int p2), .val (.int p3), .val (.int p4), .val (.ref b4), .val (.int (Int32.ofNat i0)), .val (.int (Int32.ofNat (i0 + d0))), .val (.int (Int32.ofNat qn)), .val (.ref b78), .val (.ref b184), .val (.ref b255), .val (.ref b267), .val (.ref b280), .val (.int (Int32.ofNat (sg373.2.2.2 + 1))), .val (.int (Int32.ofNat (sg373.2.2.2 + 1))), .val (.int (1 : Int32))] []))
  refine own_go (fun t_ k_ => XS.iconst A436.here hx rfl (hb hby at_464) k_) ?_
  show own_Go _ _ _ _ (T435.setTop (mkF m 465 #[.val (.int p0), .val (.long q1), .second, .val (.int p2), .val (.int p3), .val (.int p4), .val (.ref b4), .val (.int (Int32.ofNat i0)), .val (.int (Int32.ofNat (i0 + d0))), .val (.int (Int32.ofNat qn)), .val (.ref b78), .val (.ref b184), .val (.ref b255), .val (.ref b267), .val (.ref b280), .val (.int (Int32.ofNat (sg373.2.2.2 + 1))), .val (.int (Int32.ofNat (sg373.2.2.2 + 1))), .val (.int (1 : Int32))] [(.int (1 : Int32))]))
  refine own_go (fun t_ k_ => XS.goto A436.here hx rfl (pc0 := 465) (pc' := 469) rfl (hb hby at_465) (by decide) (by decide) k_) ?_
  show own_Go _ _ _ _ (T435.setTop (mkF m 469 #[.val (.int p0), .val (.long q1), .second, .val (.int p2), .val (.int p3), .val (.int p4), .val (.ref b4), .val (.int (Int32.ofNat i0)), .val (.int (Int32.ofNat (i0 + d0))), .val (.int (Int32.ofNat qn)), .val (.ref b78), .val (.ref b184), .val (.ref b255), .val (.ref b267), .val (.ref b280), .val (.int (Int32.ofNat (sg373.2.2.2 + 1))), .val (.int (Int32.ofNat (sg373.2.2.2 + 1))), .val (.int (1 : Int32))] [(.int (1 : Int32))]))
  refine own_go (fun t_ k_ => XS.istore A436.here hx rfl (hb hby at_469) rfl (l' := #[.val (.int p0), .val (.long q1), .second, .val (.int p2), .val (.int p3), .val (.int p4), .val (.ref b4), .val (.int (Int32.ofNat i0)), .val (.int (Int32.ofNat (i0 + d0))), .val (.int (Int32.ofNat qn)), .val (.ref b78), .val (.ref b184), .val (.ref b255), .val (.ref b267), .val (.ref b280), .val (.int (Int32.ofNat (sg373.2.2.2 + 1))), .val (.int (Int32.ofNat (sg373.2.2.2 + 1))), .val (.int (1 : Int32))]) rfl k_) ?_
  show own_Go _ _ _ _ (T435.setTop (mkF m 471 #[.val (.int p0), .val (.long q1), .second, .val (.int p2), .val (.int p3), .val (.int p4), .val (.ref b4), .val (.int (Int32.ofNat i0)), .val (.int (Int32.ofNat (i0 + d0))), .val (.int (Int32.ofNat qn)), .val (.ref b78), .val (.ref b184), .val (.ref b255), .val (.ref b267), .val (.ref b280), .val (.int (Int32.ofNat (sg373.2.2.2 + 1))), .val (.int (Int32.ofNat (sg373.2.2.2 + 1))), .val (.int (1 : Int32))] []))
  refine own_go (fun t_ k_ => XS.iload A436.here hx rfl (hb hby at_471) rfl k_) ?_
  show own_Go _ _ _ _ (T435.setTop (mkF m 473 #[.val (.int p0), .val (.long q1), .second, .val (.int p2), .val (.int p3), .val (.int p4), .val (.ref b4), .val (.int (Int32.ofNat i0)), .val (.int (Int32.ofNat (i0 + d0))), .val (.int (Int32.ofNat qn)), .val (.ref b78), .val (.ref b184), .val (.ref b255), .val (.ref b267), .val (.ref b280), .val (.int (Int32.ofNat (sg373.2.2.2 + 1))), .val (.int (Int32.ofNat (sg373.2.2.2 + 1))), .val (.int (1 : Int32))] [(.int (1 : Int32))]))
  have hc441 : ¬ ((1 : Int32) = (0 : Int32)) := (by decide)
  refine own_go (fun t_ k_ => XS.ifNo A436.here hx rfl (hb hby at_473) rfl ((if0 _ _).trans (feq hc441).1) k_) ?_
  show own_Go _ _ _ _ (T435.setTop (mkF m 476 #[.val (.int p0), .val (.long q1), .second, .val (.int p2), .val (.int p3), .val (.int p4), .val (.ref b4), .val (.int (Int32.ofNat i0)), .val (.int (Int32.ofNat (i0 + d0))), .val (.int (Int32.ofNat qn)), .val (.ref b78), .val (.ref b184), .val (.ref b255), .val (.ref b267), .val (.ref b280), .val (.int (Int32.ofNat (sg373.2.2.2 + 1))), .val (.int (Int32.ofNat (sg373.2.2.2 + 1))), .val (.int (1 : Int32))] []))
  refine own_go (fun t_ k_ => XS.aload A436.here hx rfl (hb hby at_476) rfl rfl k_) ?_
  show own_Go _ _ _ _ (T435.setTop (mkF m 478 #[.val (.int p0), .val (.long q1), .second, .val (.int p2), .val (.int p3), .val (.int p4), .val (.ref b4), .val (.int (Int32.ofNat i0)), .val (.int (Int32.ofNat (i0 + d0))), .val (.int (Int32.ofNat qn)), .val (.ref b78), .val (.ref b184), .val (.ref b255), .val (.ref b267), .val (.ref b280), .val (.int (Int32.ofNat (sg373.2.2.2 + 1))), .val (.int (Int32.ofNat (sg373.2.2.2 + 1))), .val (.int (1 : Int32))] [(.ref b78)]))
  refine own_go (fun t_ k_ => XS.iconst A436.here hx rfl (hb hby at_478) k_) ?_
  show own_Go _ _ _ _ (T435.setTop (mkF m 479 #[.val (.int p0), .val (.long q1), .second, .val (.int p2), .val (.int p3), .val (.int p4), .val (.ref b4), .val (.int (Int32.ofNat i0)), .val (.int (Int32.ofNat (i0 + d0))), .val (.int (Int32.ofNat qn)), .val (.ref b78), .val (.ref b184), .val (.ref b255), .val (.ref b267), .val (.ref b280), .val (.int (Int32.ofNat (sg373.2.2.2 + 1))), .val (.int (Int32.ofNat (sg373.2.2.2 + 1))), .val (.int (1 : Int32))] [(.int (5 : Int32)), (.ref b78)]))
  refine own_go (fun t_ k_ => XS.iload A436.here hx rfl (hb hby at_479) rfl k_) ?_
  show own_Go _ _ _ _ (T435.setTop (mkF m 481 #[.val (.int p0), .val (.long q1), .second, .val (.int p2), .val (.int p3), .val (.int p4), .val (.ref b4), .val (.int (Int32.ofNat i0)), .val (.int (Int32.ofNat (i0 + d0))), .val (.int (Int32.ofNat qn)), .val (.ref b78), .val (.ref b184), .val (.ref b255), .val (.ref b267), .val (.ref b280), .val (.int (Int32.ofNat (sg373.2.2.2 + 1))), .val (.int (Int32.ofNat (sg373.2.2.2 + 1))), .val (.int (1 : Int32))] [(.int (Int32.ofNat (sg373.2.2.2 + 1))), (.int (5 : Int32)), (.ref b78)]))
  refine own_go (fun t_ k_ => XS.aload A436.here hx rfl (hb hby at_481) rfl rfl k_) ?_
  show own_Go _ _ _ _ (T435.setTop (mkF m 483 #[.val (.int p0), .val (.long q1), .second, .val (.int p2), .val (.int p3), .val (.int p4), .val (.ref b4), .val (.int (Int32.ofNat i0)), .val (.int (Int32.ofNat (i0 + d0))), .val (.int (Int32.ofNat qn)), .val (.ref b78), .val (.ref b184), .val (.ref b255), .val (.ref b267), .val (.ref b280), .val (.int (Int32.ofNat (sg373.2.2.2 + 1))), .val (.int (Int32.ofNat (sg373.2.2.2 + 1))), .val (.int (1 : Int32))] [(.ref b184), (.int (Int32.ofNat (sg373.2.2.2 + 1))), (.int (5 : Int32)), (.ref b78)]))
  refine own_go (fun t_ k_ => XS.aload A436.here hx rfl (hb hby at_483) rfl rfl k_) ?_
  show own_Go _ _ _ _ (T435.setTop (mkF m 485 #[.val (.int p0), .val (.long q1), .second, .val (.int p2), .val (.int p3), .val (.int p4), .val (.ref b4), .val (.int (Int32.ofNat i0)), .val (.int (Int32.ofNat (i0 + d0))), .val (.int (Int32.ofNat qn)), .val (.ref b78), .val (.ref b184), .val (.ref b255), .val (.ref b267), .val (.ref b280), .val (.int (Int32.ofNat (sg373.2.2.2 + 1))), .val (.int (Int32.ofNat (sg373.2.2.2 + 1))), .val (.int (1 : Int32))] [(.ref b255), (.ref b184), (.int (Int32.ofNat (sg373.2.2.2 + 1))), (.int (5 : Int32)), (.ref b78)]))
  refine own_go (fun t_ k_ => XS.aload A436.here hx rfl (hb hby at_485) rfl rfl k_) ?_
  show own_Go _ _ _ _ (T435.setTop (mkF m 487 #[.val (.int p0), .val (.long q1), .second, .val (.int p2), .val (.int p3), .val (.int p4), .val (.ref b4), .val (.int (Int32.ofNat i0)), .val (.int (Int32.ofNat (i0 + d0))), .val (.int (Int32.ofNat qn)), .val (.ref b78), .val (.ref b184), .val (.ref b255), .val (.ref b267), .val (.ref b280), .val (.int (Int32.ofNat (sg373.2.2.2 + 1))), .val (.int (Int32.ofNat (sg373.2.2.2 + 1))), .val (.int (1 : Int32))] [(.ref b267), (.ref b255), (.ref b184), (.int (Int32.ofNat (sg373.2.2.2 + 1))), (.int (5 : Int32)), (.ref b78)]))
  refine own_callS A436 hx hZ hown (y := (⟨"com/example/indexloom/indexloom/data/DataHeaderSplitPinLaw", "check", "([III[I[I[I)Z"⟩ : MethodName)) (hw _ (List.mem_of_getElem? (i := 17) rfl)) (hw _ (List.mem_of_getElem? (i := 18) rfl)) (hw _ (List.mem_of_getElem? (i := 3) rfl)) (hw _ (List.mem_of_getElem? (i := 19) rfl)) (by decide) (argsL := [(.ref b78), (.int (5 : Int32)), (.int (Int32.ofNat (sg373.2.2.2 + 1))), (.ref b184), (.ref b255), (.ref b267)]) (rest := []) (rm5 l Z a0 hw b78 b184 b255 b267 5 (sg373.2.2.2 + 1) qn c395 sg373.1 sg373.2.1 (own_En sg373 (i0 + d0)) h391 n0 V396 V401 V402 V403 (HH 5) (by omega) (by decide) (by omega)) 0 (by decide) (by decide) rfl (by rw [hml]; rfl) (lenOf pd___III_I_I_I_Z rfl) rfl (by show 2 * 0 + _ ≤ _; exact Nat.le_of_eq rfl) (hb hby at_487) (by decide) (by decide) (fun v445 T442 h444 A443 hQ446 => ?_)
  obtain ⟨rfl, rfl⟩ := hQ446
  show own_Go _ _ _ _ (T442.setTop (mkF m 490 #[.val (.int p0), .val (.long q1), .second, .val (.int p2), .val (.int p3), .val (.int p4), .val (.ref b4), .val (.int (Int32.ofNat i0)), .val (.int (Int32.ofNat (i0 + d0))), .val (.int (Int32.ofNat qn)), .val (.ref b78), .val (.ref b184), .val (.ref b255), .val (.ref b267), .val (.ref b280), .val (.int (Int32.ofNat (sg373.2.2.2 + 1))), .val (.int (Int32.ofNat (sg373.2.2.2 + 1))), .val (.int (1 : Int32))] [(.int (1 : Int32))]))
  have hc447 : ¬ ((1 : Int32) = (0 : Int32)) := (by decide)
  refine own_go (fun t_ k_ => XS.ifNo A443.here hx rfl (hb hby at_490) rfl ((if0 _ _).trans (feq hc447).1) k_) ?_
  show own_Go _ _ _ _ (T442.setTop (mkF m 493 #[.val (.int p0), .val (.long q1), .second, .val (.int p2), .val (.int p3), .val (.int p4), .val (.ref b4), .val (.int (Int32.ofNat i0)), .val (.int (Int32.ofNat (i0 + d0))), .val (.int (Int32.ofNat qn)), .val (.ref b78), .val (.ref b184), .val (.ref b255), .val (.ref b267), .val (.ref b280), .val (.int (Int32.ofNat (sg373.2.2.2 + 1))), .val (.int (Int32.ofNat (sg373.2.2.2 + 1))), .val (.int (1 : Int32))] []))
  refine own_go (fun t_ k_ => XS.iconst A443.here hx rfl (hb hby at_493) k_) ?_
  show own_Go _ _ _ _ (T442.setTop (mkF m 494 #[.val (.int p0), .val (.long q1), .second, .val (.int p2), .val (.int p3), .val (.int p4), .val (.ref b4), .val (.int (Int32.ofNat i0)), .val (.int (Int32.ofNat (i0 + d0))), .val (.int (Int32.ofNat qn)), .val (.ref b78), .val (.ref b184), .val (.ref b255), .val (.ref b267), .val (.ref b280), .val (.int (Int32.ofNat (sg373.2.2.2 + 1))), .val (.int (Int32.ofNat (sg373.2.2.2 + 1))), .val (.int (1 : Int32))] [(.int (1 : Int32))]))
  refine own_go (fun t_ k_ => XS.goto A443.here hx rfl (pc0 := 494) (pc' := 498) rfl (hb hby at_494) (by decide) (by decide) k_) ?_
  show own_Go _ _ _ _ (T442.setTop (mkF m 498 #[.val (.int p0), .val (.long q1), .second, .val (.int p2), .val (.int p3), .val (.int p4), .val (.ref b4), .val (.int (Int32.ofNat i0)), .val (.int (Int32.ofNat (i0 + d0))), .val (.int (Int32.ofNat qn)), .val (.ref b78), .val (.ref b184), .val (.ref b255), .val (.ref b267), .val (.ref b280), .val (.int (Int32.ofNat (sg373.2.2.2 + 1))), .val (.int (Int32.ofNat (sg373.2.2.2 + 1))), .val (.int (1 : Int32))] [(.int (1 : Int32))]))
  refine own_go (fun t_ k_ => XS.istore A443.here hx rfl (hb hby at_498) rfl (l' := #[.val (.int p0), .val (.long q1), .second, .val (.int p2), .val (.int p3), .val (.int p4), .val (.ref b4), .val (.int (Int32.ofNat i0)), .val (.int (Int32.ofNat (i0 + d0))), .val (.int (Int32.ofNat qn)), .val (.ref b78), .val (.ref b184), .val (.ref b255), .val (.ref b267), .val (.ref b280), .val (.int (Int32.ofNat (sg373.2.2.2 + 1))), .val (.int (Int32.ofNat (sg373.2.2.2 + 1))), .val (.int (1 : Int32))]) rfl k_) ?_
  show own_Go _ _ _ _ (T442.setTop (mkF m 500 #[.val (.int p0), .val (.long q1), .second, .val (.int p2), .val (.int p3), .val (.int p4), .val (.ref b4), .val (.int (Int32.ofNat i0)), .val (.int (Int32.ofNat (i0 + d0))), .val (.int (Int32.ofNat qn)), .val (.ref b78), .val (.ref b184), .val (.ref b255), .val (.ref b267), .val (.ref b280), .val (.int (Int32.ofNat (sg373.2.2.2 + 1))), .val (.int (Int32.ofNat (sg373.2.2.2 + 1))), .val (.int (1 : Int32))] []))
  refine own_go (fun t_ k_ => XS.iload A443.here hx rfl (hb hby at_500) rfl k_) ?_
  show own_Go _ _ _ _ (T442.setTop (mkF m 502 #[.val (.int p0), .val (.long q1), .second, .val (.int p2), .val (.int p3), .val (.int p4), .val (.ref b4), .val (.int (Int32.ofNat i0)), .val (.int (Int32.ofNat (i0 + d0))), .val (.int (Int32.ofNat qn)), .val (.ref b78), .val (.ref b184), .val (.ref b255), .val (.ref b267), .val (.ref b280), .val (.int (Int32.ofNat (sg373.2.2.2 + 1))), .val (.int (Int32.ofNat (sg373.2.2.2 + 1))), .val (.int (1 : Int32))] [(.int (1 : Int32))]))
  have hc448 : ¬ ((1 : Int32) = (0 : Int32)) := (by decide)
  refine own_go (fun t_ k_ => XS.ifNo A443.here hx rfl (hb hby at_502) rfl ((if0 _ _).trans (feq hc448).1) k_) ?_
  show own_Go _ _ _ _ (T442.setTop (mkF m 505 #[.val (.int p0), .val (.long q1), .second, .val (.int p2), .val (.int p3), .val (.int p4), .val (.ref b4), .val (.int (Int32.ofNat i0)), .val (.int (Int32.ofNat (i0 + d0))), .val (.int (Int32.ofNat qn)), .val (.ref b78), .val (.ref b184), .val (.ref b255), .val (.ref b267), .val (.ref b280), .val (.int (Int32.ofNat (sg373.2.2.2 + 1))), .val (.int (Int32.ofNat (sg373.2.2.2 + 1))), .val (.int (1 : Int32))] []))
  refine own_go (fun t_ k_ => XS.aload A443.here hx rfl (hb hby at_505) rfl rfl k_) ?_
  show own_Go _ _ _ _ (T442.setTop (mkF m 507 #[.val (.int p0), .val (.long q1), .second, .val (.int p2), .val (.int p3), .val (.int p4), .val (.ref b4), .val (.int (Int32.ofNat i0)), .val (.int (Int32.ofNat (i0 + d0))), .val (.int (Int32.ofNat qn)), .val (.ref b78), .val (.ref b184), .val (.ref b255), .val (.ref b267), .val (.ref b280), .val (.int (Int32.ofNat (sg373.2.2.2 + 1))), .val (.int (Int32.ofNat (sg373.2.2.2 + 1))), .val (.int (1 : Int32))] [(.ref b78)]))
  refine own_go (fun t_ k_ => XS.bipush A443.here hx rfl (hb hby at_507) k_) ?_
  show own_Go _ _ _ _ (T442.setTop (mkF m 509 #[.val (.int p0), .val (.long q1), .second, .val (.int p2), .val (.int p3), .val (.int p4), .val (.ref b4), .val (.int (Int32.ofNat i0)), .val (.int (Int32.ofNat (i0 + d0))), .val (.int (Int32.ofNat qn)), .val (.ref b78), .val (.ref b184), .val (.ref b255), .val (.ref b267), .val (.ref b280), .val (.int (Int32.ofNat (sg373.2.2.2 + 1))), .val (.int (Int32.ofNat (sg373.2.2.2 + 1))), .val (.int (1 : Int32))] [(.int (6 : Int32)), (.ref b78)]))
  refine own_go (fun t_ k_ => XS.iload A443.here hx rfl (hb hby at_509) rfl k_) ?_
  show own_Go _ _ _ _ (T442.setTop (mkF m 511 #[.val (.int p0), .val (.long q1), .second, .val (.int p2), .val (.int p3), .val (.int p4), .val (.ref b4), .val (.int (Int32.ofNat i0)), .val (.int (Int32.ofNat (i0 + d0))), .val (.int (Int32.ofNat qn)), .val (.ref b78), .val (.ref b184), .val (.ref b255), .val (.ref b267), .val (.ref b280), .val (.int (Int32.ofNat (sg373.2.2.2 + 1))), .val (.int (Int32.ofNat (sg373.2.2.2 + 1))), .val (.int (1 : Int32))] [(.int (Int32.ofNat (sg373.2.2.2 + 1))), (.int (6 : Int32)), (.ref b78)]))
  refine own_go (fun t_ k_ => XS.aload A443.here hx rfl (hb hby at_511) rfl rfl k_) ?_
  show own_Go _ _ _ _ (T442.setTop (mkF m 513 #[.val (.int p0), .val (.long q1), .second, .val (.int p2), .val (.int p3), .val (.int p4), .val (.ref b4), .val (.int (Int32.ofNat i0)), .val (.int (Int32.ofNat (i0 + d0))), .val (.int (Int32.ofNat qn)), .val (.ref b78), .val (.ref b184), .val (.ref b255), .val (.ref b267), .val (.ref b280), .val (.int (Int32.ofNat (sg373.2.2.2 + 1))), .val (.int (Int32.ofNat (sg373.2.2.2 + 1))), .val (.int (1 : Int32))] [(.ref b184), (.int (Int32.ofNat (sg373.2.2.2 + 1))), (.int (6 : Int32)), (.ref b78)]))
  refine own_go (fun t_ k_ => XS.aload A443.here hx rfl (hb hby at_513) rfl rfl k_) ?_
  show own_Go _ _ _ _ (T442.setTop (mkF m 515 #[.val (.int p0), .val (.long q1), .second, .val (.int p2), .val (.int p3), .val (.int p4), .val (.ref b4), .val (.int (Int32.ofNat i0)), .val (.int (Int32.ofNat (i0 + d0))), .val (.int (Int32.ofNat qn)), .val (.ref b78), .val (.ref b184), .val (.ref b255), .val (.ref b267), .val (.ref b280), .val (.int (Int32.ofNat (sg373.2.2.2 + 1))), .val (.int (Int32.ofNat (sg373.2.2.2 + 1))), .val (.int (1 : Int32))] [(.ref b255), (.ref b184), (.int (Int32.ofNat (sg373.2.2.2 + 1))), (.int (6 : Int32)), (.ref b78)]))
  refine own_go (fun t_ k_ => XS.aload A443.here hx rfl (hb hby at_515) rfl rfl k_) ?_
  show own_Go _ _ _ _ (T442.setTop (mkF m 517 #[.val (.int p0), .val (.long q1), .second, .val (.int p2), .val (.int p3), .val (.int p4), .val (.ref b4), .val (.int (Int32.ofNat i0)), .val (.int (Int32.ofNat (i0 + d0))), .val (.int (Int32.ofNat qn)), .val (.ref b78), .val (.ref b184), .val (.ref b255), .val (.ref b267), .val (.ref b280), .val (.int (Int32.ofNat (sg373.2.2.2 + 1))), .val (.int (Int32.ofNat (sg373.2.2.2 + 1))), .val (.int (1 : Int32))] [(.ref b267), (.ref b255), (.ref b184), (.int (Int32.ofNat (sg373.2.2.2 + 1))), (.int (6 : Int32)), (.ref b78)]))
  refine own_callS A443 hx hZ hown (y := (⟨"com/example/indexloom/indexloom/data/DataHeaderSplitPinLaw", "check", "([III[I[I[I)Z"⟩ : MethodName)) (hw _ (List.mem_of_getElem? (i := 17) rfl)) (hw _ (List.mem_of_getElem? (i := 18) rfl)) (hw _ (List.mem_of_getElem? (i := 3) rfl)) (hw _ (List.mem_of_getElem? (i := 19) rfl)) (by decide) (argsL := [(.ref b78), (.int (6 : Int32)), (.int (Int32.ofNat (sg373.2.2.2 + 1))), (.ref b184), (.ref b255), (.ref b267)]) (rest := []) (rm5 l Z a0 hw b78 b184 b255 b267 6 (sg373.2.2.2 + 1) qn c395 sg373.1 sg373.2.1 (own_En sg373 (i0 + d0)) h391 n0 V396 V401 V402 V403 (HH 6) (by omega) (by decide) (by omega)) 0 (by decide) (by decide) rfl (by rw [hml]; rfl) (lenOf pd___III_I_I_I_Z rfl) rfl (by show 2 * 0 + _ ≤ _; exact Nat.le_of_eq rfl) (hb hby at_517) (by decide) (by decide) (fun v452 T449 h451 A450 hQ453 => ?_)
  obtain ⟨rfl, rfl⟩ := hQ453
  show own_Go _ _ _ _ (T449.setTop (mkF m 520 #[.val (.int p0), .val (.long q1), .second, .val (.int p2), .val (.int p3), .val (.int p4), .val (.ref b4), .val (.int (Int32.ofNat i0)), .val (.int (Int32.ofNat (i0 + d0))), .val (.int (Int32.ofNat qn)), .val (.ref b78), .val (.ref b184), .val (.ref b255), .val (.ref b267), .val (.ref b280), .val (.int (Int32.ofNat (sg373.2.2.2 + 1))), .val (.int (Int32.ofNat (sg373.2.2.2 + 1))), .val (.int (1 : Int32))] [(.int (1 : Int32))]))
  have hc454 : ¬ ((1 : Int32) = (0 : Int32)) := (by decide)
  refine own_go (fun t_ k_ => XS.ifNo A450.here hx rfl (hb hby at_520) rfl ((if0 _ _).trans (feq hc454).1) k_) ?_
  show own_Go _ _ _ _ (T449.setTop (mkF m 523 #[.val (.int p0), .val (.long q1), .second, .val (.int p2), .val (.int p3), .val (.int p4), .val (.ref b4), .val (.int (Int32.ofNat i0)), .val (.int (Int32.ofNat (i0 + d0))), .val (.int (Int32.ofNat qn)), .val (.ref b78), .val (.ref b184), .val (.ref b255), .val (.ref b267), .val (.ref b280), .val (.int (Int32.ofNat (sg373.2.2.2 + 1))), .val (.int (Int32.ofNat (sg373.2.2.2 + 1))), .val (.int (1 : Int32))] []))
  refine own_go (fun t_ k_ => XS.iconst A450.here hx rfl (hb hby at_523) k_) ?_
  show own_Go _ _ _ _ (T449.setTop (mkF m 524 #[.val (.int p0), .val (.long q1), .second, .val (.int p2), .val (.int p3), .val (.int p4), .val (.ref b4), .val (.int (Int32.ofNat i0)), .val (.int (Int32.ofNat (i0 + d0))), .val (.int (Int32.ofNat qn)), .val (.ref b78), .val (.ref b184), .val (.ref b255), .val (.ref b267), .val (.ref b280), .val (.int (Int32.ofNat (sg373.2.2.2 + 1))), .val (.int (Int32.ofNat (sg373.2.2.2 + 1))), .val (.int (1 : Int32))] [(.int (1 : Int32))]))
  refine own_go (fun t_ k_ => XS.goto A450.here hx rfl (pc0 := 524) (pc' := 528) rfl (hb hby at_524) (by decide) (by decide) k_) ?_
  show own_Go _ _ _ _ (T449.setTop (mkF m 528 #[.val (.int p0), .val (.long q1), .second, .val (.int p2), .val (.int p3), .val (.int p4), .val (.ref b4), .val (.int (Int32.ofNat i0)), .val (.int (Int32.ofNat (i0 + d0))), .val (.int (Int32.ofNat qn)), .val (.ref b78), .val (.ref b184), .val (.ref b255), .val (.ref b267), .val (.ref b280), .val (.int (Int32.ofNat (sg373.2.2.2 + 1))), .val (.int (Int32.ofNat (sg373.2.2.2 + 1))), .val (.int (1 : Int32))] [(.int (1 : Int32))]))
  refine own_go (fun t_ k_ => XS.istore A450.here hx rfl (hb hby at_528) rfl (l' := #[.val (.int p0), .val (.long q1), .second, .val (.int p2), .val (.int p3), .val (.int p4), .val (.ref b4), .val (.int (Int32.ofNat i0)), .val (.int (Int32.ofNat (i0 + d0))), .val (.int (Int32.ofNat qn)), .val (.ref b78), .val (.ref b184), .val (.ref b255), .val (.ref b267), .val (.ref b280), .val (.int (Int32.ofNat (sg373.2.2.2 + 1))), .val (.int (Int32.ofNat (sg373.2.2.2 + 1))), .val (.int (1 : Int32))]) rfl k_) ?_
  show own_Go _ _ _ _ (T449.setTop (mkF m 530 #[.val (.int p0), .val (.long q1), .second, .val (.int p2), .val (.int p3), .val (.int p4), .val (.ref b4), .val (.int (Int32.ofNat i0)), .val (.int (Int32.ofNat (i0 + d0))), .val (.int (Int32.ofNat qn)), .val (.ref b78), .val (.ref b184), .val (.ref b255), .val (.ref b267), .val (.ref b280), .val (.int (Int32.ofNat (sg373.2.2.2 + 1))), .val (.int (Int32.ofNat (sg373.2.2.2 + 1))), .val (.int (1 : Int32))] []))
  refine own_go (fun t_ k_ => XS.iload A450.here hx rfl (hb hby at_530) rfl k_) ?_
  show own_Go _ _ _ _ (T449.setTop (mkF m 532 #[.val (.int p0), .val (.long q1), .second, .val (.int p2), .val (.int p3), .val (.int p4), .val (.ref b4), .val (.int (Int32.ofNat i0)), .val (.int (Int32.ofNat (i0 + d0))), .val (.int (Int32.ofNat qn)), .val (.ref b78), .val (.ref b184), .val (.ref b255), .val (.ref b267), .val (.ref b280), .val (.int (Int32.ofNat (sg373.2.2.2 + 1))), .val (.int (Int32.ofNat (sg373.2.2.2 + 1))), .val (.int (1 : Int32))] [(.int (1 : Int32))]))
  have hc455 : ¬ ((1 : Int32) = (0 : Int32)) := (by decide)
  refine own_go (fun t_ k_ => XS.ifNo A450.here hx rfl (hb hby at_532) rfl ((if0 _ _).trans (feq hc455).1) k_) ?_
  show own_Go _ _ _ _ (T449.setTop (mkF m 535 #[.val (.int p0), .val (.long q1), .second, .val (.int p2), .val (.int p3), .val (.int p4), .val (.ref b4), .val (.int (Int32.ofNat i0)), .val (.int (Int32.ofNat (i0 + d0))), .val (.int (Int32.ofNat qn)), .val (.ref b78), .val (.ref b184), .val (.ref b255), .val (.ref b267), .val (.ref b280), .val (.int (Int32.ofNat (sg373.2.2.2 + 1))), .val (.int (Int32.ofNat (sg373.2.2.2 + 1))), .val (.int (1 : Int32))] []))
  refine own_go (fun t_ k_ => XS.aload A450.here hx rfl (hb hby at_535) rfl rfl k_) ?_
  show own_Go _ _ _ _ (T449.setTop (mkF m 537 #[.val (.int p0), .val (.long q1), .second, .val (.int p2), .val (.int p3), .val (.int p4), .val (.ref b4), .val (.int (Int32.ofNat i0)), .val (.int (Int32.ofNat (i0 + d0))), .val (.int (Int32.ofNat qn)), .val (.ref b78), .val (.ref b184), .val (.ref b255), .val (.ref b267), .val (.ref b280), .val (.int (Int32.ofNat (sg373.2.2.2 + 1))), .val (.int (Int32.ofNat (sg373.2.2.2 + 1))), .val (.int (1 : Int32))] [(.ref b78)]))
  refine own_go (fun t_ k_ => XS.bipush A450.here hx rfl (hb hby at_537) k_) ?_
  show own_Go _ _ _ _ (T449.setTop (mkF m 539 #[.val (.int p0), .val (.long q1), .second, .val (.int p2), .val (.int p3), .val (.int p4), .val (.ref b4), .val (.int (Int32.ofNat i0)), .val (.int (Int32.ofNat (i0 + d0))), .val (.int (Int32.ofNat qn)), .val (.ref b78), .val (.ref b184), .val (.ref b255), .val (.ref b267), .val (.ref b280), .val (.int (Int32.ofNat (sg373.2.2.2 + 1))), .val (.int (Int32.ofNat (sg373.2.2.2 + 1))), .val (.int (1 : Int32))] [(.int (7 : Int32)), (.ref b78)]))
  refine own_go (fun t_ k_ => XS.iload A450.here hx rfl (hb hby at_539) rfl k_) ?_
  show own_Go _ _ _ _ (T449.setTop (mkF m 541 #[.val (.int p0), .val (.long q1), .second, .val (.int p2), .val (.int p3), .val (.int p4), .val (.ref b4), .val (.int (Int32.ofNat i0)), .val (.int (Int32.ofNat (i0 + d0))), .val (.int (Int32.ofNat qn)), .val (.ref b78), .val (.ref b184), .val (.ref b255), .val (.ref b267), .val (.ref b280), .val (.int (Int32.ofNat (sg373.2.2.2 + 1))), .val (.int (Int32.ofNat (sg373.2.2.2 + 1))), .val (.int (1 : Int32))] [(.int (Int32.ofNat (sg373.2.2.2 + 1))), (.int (7 : Int32)), (.ref b78)]))
  refine own_go (fun t_ k_ => XS.aload A450.here hx rfl (hb hby at_541) rfl rfl k_) ?_
  show own_Go _ _ _ _ (T449.setTop (mkF m 543 #[.val (.int p0), .val (.long q1), .second, .val (.int p2), .val (.int p3), .val (.int p4), .val (.ref b4), .val (.int (Int32.ofNat i0)), .val (.int (Int32.ofNat (i0 + d0))), .val (.int (Int32.ofNat qn)), .val (.ref b78), .val (.ref b184), .val (.ref b255), .val (.ref b267), .val (.ref b280), .val (.int (Int32.ofNat (sg373.2.2.2 + 1))), .val (.int (Int32.ofNat (sg373.2.2.2 + 1))), .val (.int (1 : Int32))] [(.ref b184), (.int (Int32.ofNat (sg373.2.2.2 + 1))), (.int (7 : Int32)), (.ref b78)]))
  refine own_go (fun t_ k_ => XS.aload A450.here hx rfl (hb hby at_543) rfl rfl k_) ?_
  show own_Go _ _ _ _ (T449.setTop (mkF m 545 #[.val (.int p0), .val (.long q1), .second, .val (.int p2), .val (.int p3), .val (.int p4), .val (.ref b4), .val (.int (Int32.ofNat i0)), .val (.int (Int32.ofNat (i0 + d0))), .val (.int (Int32.ofNat qn)), .val (.ref b78), .val (.ref b184), .val (.ref b255), .val (.ref b267), .val (.ref b280), .val (.int (Int32.ofNat (sg373.2.2.2 + 1))), .val (.int (Int32.ofNat (sg373.2.2.2 + 1))), .val (.int (1 : Int32))] [(.ref b255), (.ref b184), (.int (Int32.ofNat (sg373.2.2.2 + 1))), (.int (7 : Int32)), (.ref b78)]))
  refine own_go (fun t_ k_ => XS.aload A450.here hx rfl (hb hby at_545) rfl rfl k_) ?_
  show own_Go _ _ _ _ (T449.setTop (mkF m 547 #[.val (.int p0), .val (.long q1), .second, .val (.int p2), .val (.int p3), .val (.int p4), .val (.ref b4), .val (.int (Int32.ofNat i0)), .val (.int (Int32.ofNat (i0 + d0))), .val (.int (Int32.ofNat qn)), .val (.ref b78), .val (.ref b184), .val (.ref b255), .val (.ref b267), .val (.ref b280), .val (.int (Int32.ofNat (sg373.2.2.2 + 1))), .val (.int (Int32.ofNat (sg373.2.2.2 + 1))), .val (.int (1 : Int32))] [(.ref b267), (.ref b255), (.ref b184), (.int (Int32.ofNat (sg373.2.2.2 + 1))), (.int (7 : Int32)), (.ref b78)]))
  refine own_callS A450 hx hZ hown (y := (⟨"com/example/indexloom/indexloom/data/DataHeaderSplitPinLaw", "check", "([III[I[I[I)Z"⟩ : MethodName)) (hw _ (List.mem_of_getElem? (i := 17) rfl)) (hw _ (List.mem_of_getElem? (i := 18) rfl)) (hw _ (List.mem_of_getElem? (i := 3) rfl)) (hw _ (List.mem_of_getElem? (i := 19) rfl)) (by decide) (argsL := [(.ref b78), (.int (7 : Int32)), (.int (Int32.ofNat (sg373.2.2.2 + 1))), (.ref b184), (.ref b255), (.ref b267)]) (rest := []) (rm5 l Z a0 hw b78 b184 b255 b267 7 (sg373.2.2.2 + 1) qn c395 sg373.1 sg373.2.1 (own_En sg373 (i0 + d0)) h391 n0 V396 V401 V402 V403 (HH 7) (by omega) (by decide) (by omega)) 0 (by decide) (by decide) rfl (by rw [hml]; rfl) (lenOf pd___III_I_I_I_Z rfl) rfl (by show 2 * 0 + _ ≤ _; exact Nat.le_of_eq rfl) (hb hby at_547) (by decide) (by decide) (fun v459 T456 h458 A457 hQ460 => ?_)
  obtain ⟨rfl, rfl⟩ := hQ460
  show own_Go _ _ _ _ (T456.setTop (mkF m 550 #[.val (.int p0), .val (.long q1), .second, .val (.int p2), .val (.int p3), .val (.int p4), .val (.ref b4), .val (.int (Int32.ofNat i0)), .val (.int (Int32.ofNat (i0 + d0))), .val (.int (Int32.ofNat qn)), .val (.ref b78), .val (.ref b184), .val (.ref b255), .val (.ref b267), .val (.ref b280), .val (.int (Int32.ofNat (sg373.2.2.2 + 1))), .val (.int (Int32.ofNat (sg373.2.2.2 + 1))), .val (.int (1 : Int32))] [(.int (1 : Int32))]))
  have hc461 : ¬ ((1 : Int32) = (0 : Int32)) := (by decide)
  refine own_go (fun t_ k_ => XS.ifNo A457.here hx rfl (hb hby at_550) rfl ((if0 _ _).trans (feq hc461).1) k_) ?_
  show own_Go _ _ _ _ (T456.setTop (mkF m 553 #[.val (.int p0), .val (.long q1), .second, .val (.int p2), .val (.int p3), .val (.int p4), .val (.ref b4), .val (.int (Int32.ofNat i0)), .val (.int (Int32.ofNat (i0 + d0))), .val (.int (Int32.ofNat qn)), .val (.ref b78), .val (.ref b184), .val (.ref b255), .val (.ref b267), .val (.ref b280), .val (.int (Int32.ofNat (sg373.2.2.2 + 1))), .val (.int (Int32.ofNat (sg373.2.2.2 + 1))), .val (.int (1 : Int32))] []))
  refine own_go (fun t_ k_ => XS.iconst A457.here hx rfl (hb hby at_553) k_) ?_
  show own_Go _ _ _ _ (T456.setTop (mkF m 554 #[.val (.int p0), .val (.long q1), .second, .val (.int p2), .val (.int p3), .val (.int p4), .val (.ref b4), .val (.int (Int32.ofNat i0)), .val (.int (Int32.ofNat (i0 + d0))), .val (.int (Int32.ofNat qn)), .val (.ref b78), .val (.ref b184), .val (.ref b255), .val (.ref b267), .val (.ref b280), .val (.int (Int32.ofNat (sg373.2.2.2 + 1))), .val (.int (Int32.ofNat (sg373.2.2.2 + 1))), .val (.int (1 : Int32))] [(.int (1 : Int32))]))
  refine own_go (fun t_ k_ => XS.goto A457.here hx rfl (pc0 := 554) (pc' := 558) rfl (hb hby at_554) (by decide) (by decide) k_) ?_
  show own_Go _ _ _ _ (T456.setTop (mkF m 558 #[.val (.int p0), .val (.long q1), .second, .val (.int p2), .val (.int p3), .val (.int p4), .val (.ref b4), .val (.int (Int32.ofNat i0)), .val (.int (Int32.ofNat (i0 + d0))), .val (.int (Int32.ofNat qn)), .val (.ref b78), .val (.ref b184), .val (.ref b255), .val (.ref b267), .val (.ref b280), .val (.int (Int32.ofNat (sg373.2.2.2 + 1))), .val (.int (Int32.ofNat (sg373.2.2.2 + 1))), .val (.int (1 : Int32))] [(.int (1 : Int32))]))
  refine own_go (fun t_ k_ => XS.istore A457.here hx rfl (hb hby at_558) rfl (l' := #[.val (.int p0), .val (.long q1), .second, .val (.int p2), .val (.int p3), .val (.int p4), .val (.ref b4), .val (.int (Int32.ofNat i0)), .val (.int (Int32.ofNat (i0 + d0))), .val (.int (Int32.ofNat qn)), .val (.ref b78), .val (.ref b184), .val (.ref b255), .val (.ref b267), .val (.ref b280), .val (.int (Int32.ofNat (sg373.2.2.2 + 1))), .val (.int (Int32.ofNat (sg373.2.2.2 + 1))), .val (.int (1 : Int32))]) rfl k_) ?_
  show own_Go _ _ _ _ (T456.setTop (mkF m 560 #[.val (.int p0), .val (.long q1), .second, .val (.int p2), .val (.int p3), .val (.int p4), .val (.ref b4), .val (.int (Int32.ofNat i0)), .val (.int (Int32.ofNat (i0 + d0))), .val (.int (Int32.ofNat qn)), .val (.ref b78), .val (.ref b184), .val (.ref b255), .val (.ref b267), .val (.ref b280), .val (.int (Int32.ofNat (sg373.2.2.2 + 1))), .val (.int (Int32.ofNat (sg373.2.2.2 + 1))), .val (.int (1 : Int32))] []))
  refine own_go (fun t_ k_ => XS.iload A457.here hx rfl (hb hby at_560) rfl k_) ?_
  show own_Go _ _ _ _ (T456.setTop (mkF m 562 #[.val (.int p0), .val (.long q1), .second, .val (.int p2), .val (.int p3), .val (.int p4), .val (.ref b4), .val (.int (Int32.ofNat i0)), .val (.int (Int32.ofNat (i0 + d0))), .val (.int (Int32.ofNat qn)), .val (.ref b78), .val (.ref b184), .val (.ref b255), .val (.ref b267), .val (.ref b280), .val (.int (Int32.ofNat (sg373.2.2.2 + 1))), .val (.int (Int32.ofNat (sg373.2.2.2 + 1))), .val (.int (1 : Int32))] [(.int (1 : Int32))]))
  refine own_retN A457 hx (t := .boolean) hret (by simp) hlk (by decide) (by decide) (hb hby at_562) ?_
  exact ⟨rfl, trivial⟩
set_option maxRecDepth 65536 in
set_option maxHeartbeats 40000000 in
theorem comes_1 {Post : Tables → Env → Array Value → State → Outcome → State → Prop} (hpost : ∀ tb e args s v u, (limb_1_1.after args s (.returned v) u = true ∧ limb_1_2.after args s (.returned v) u = true ∧ True) → FrameEnd s (.returned v) u (Jvm.fieldLocs frame_1_writes args s ++ Jvm.arrayLocs frame_1_arrays args s ++ Jvm.staticLocs frame_1_statics s) 24 192 → Post tb e args s (.returned v) u) :
    ArmFor flags0 classFile x code maxLocals ret World_1 tables_1 room_1 Calls_1 rest_1 Pre_1 Post := by
  intro l hfl _ _ p e ha hc hk s m args below hf hA hF happ hP
  obtain ⟨hcalls, hrest, hpre⟩ := hP
  obtain ⟨-, -, -, hnamed, -, -, -, hat⟩ := (Spec.applies_iff hf).mp happ
  obtain ⟨hg, hn⟩ := and_e (Cond.before_iff.mp (show (Jvm.Cond.and given_1 narrow_1).before args s = true from hpre))
  obtain ⟨gc, gr⟩ := and_e hg
  obtain ⟨w0, w1, w2, w3, w4, rfl⟩ : ∃ w0 w1 w2 w3 w4 : Value, args = #[w0, w1, w2, w3, w4] := by
    have hs : args.size = 5 := by simpa [Cond.value, given_1] using gc
    obtain ⟨L⟩ := args
    match L, hs with
    | [w0, w1, w2, w3, w4], _ => exact ⟨w0, w1, w2, w3, w4, rfl⟩
  have hw := fun d (hd : d ∈ tables_1) => atoms_spec (ws := Jvm.Cond.code x code maxLocals ret :: tables_1) hat d (List.mem_cons_of_mem _ hd)
  have hfit : Fit s := fun {y c} hc i hi => by
    obtain ⟨ha, rfl⟩ := Array.getElem?_eq_some_iff.mp hc
    have q := List.all_eq_true.mp ((Array.all_eq_true_iff_forall_mem.mp hF) _ (Array.getElem_mem ha)) i (List.mem_range.mpr hi)
    simpa [Array.getElem?_eq_getElem hi] using q
  obtain ⟨q0, gr0⟩ := and_e gr
  obtain ⟨i0, ei0⟩ := is_v q0
  obtain rfl : w0 = (.int i0) := Option.some.inj ei0
  obtain ⟨q1, gr1⟩ := and_e gr0
  obtain ⟨i1, ei1⟩ := isL_v q1
  obtain rfl : w1 = (.long i1) := Option.some.inj ei1
  obtain ⟨q2, gr2⟩ := and_e gr1
  obtain ⟨i2, ei2⟩ := is_v q2
  obtain rfl : w2 = (.int i2) := Option.some.inj ei2
  obtain ⟨q3, gr3⟩ := and_e gr2
  obtain ⟨i3, ei3⟩ := is_v q3
  obtain rfl : w3 = (.int i3) := Option.some.inj ei3
  obtain ⟨i4, ei4⟩ := is_v gr3
  obtain rfl : w4 = (.int i4) := Option.some.inj ei4
  obtain ⟨n, o, h1, h2, h3, _, L, rfl, ⟨⟨rfl, hQ⟩, N⟩, hq⟩ := rm0 l s _ hw i0 i1 i2 i3 i4  s.heap s.heap.size (Old.start s) (Nat.le_refl _) tables_1 p e ha hc hk s m _ below hf ((Spec.applies_iff_loose hf).mp happ).1 ⟨rfl, State.Warmed39.refl s, rfl⟩ trivial
  refine ⟨n, _, h1, h2, h3, hpost _ _ _ _ _ _ ⟨Cond.after_iff.mpr rfl, Cond.after_iff.mpr (eq_i res_at (Term.int_eval (1)) rfl), trivial⟩ ⟨hq.1, hq.2.1, (hq.2.2.sift fun y hy => Or.inr (N y hy)).mono (by decide) (by decide)⟩⟩
theorem main_1_1 : Claimed_1_1 := comes_1 fun _ _ _ _ _ _ h hF => ⟨h.1, hF⟩
theorem main_1_2 : Claimed_1_2 := comes_1 fun _ _ _ _ _ _ h hF => ⟨h.2.1, hF⟩
end Jvm.Pilot.@@N@@
namespace Jvm.Pilot.@@N@@
open Jvm Jvm.ClassFile Sem Op Lib Jvm.Free Jvm.Stand Jvm.Pilot.@@N@@.Jvm.D
/-! MADE BY PROGRAM (witnessworld.py) out of the Statement's table words and the real class files: 9 classes; the members and pool entries that the words name. The judged class is class 1, her method 1. -/
namespace start1
open Jvm.ClassFile
def u (s : String) : CpInfo := .utf8 (stringToUtf16 s)
/-- a pool by its gaps: so many unusable entries, then the entry; so many at the end -/
def gap : Nat → List CpInfo → List CpInfo
  | 0, r => r
  | n + 1, r => .unusable :: gap n r
def poolList (es : List (Nat × CpInfo)) (last : Nat) : List CpInfo := es.foldr (fun e r => gap e.1 (e.2 :: r)) (gap last [])
def pool (es : List (Nat × CpInfo)) (last : Nat) : Array CpInfo := ⟨poolList es last⟩
def fileOf (pool : Array CpInfo) (this : Nat) (attrs : Array Attribute := #[]) (ms : Array MethodInfo := #[]) (fl : Nat := 33) (sup : Nat := 0) (ifs : Array Nat := #[]) (fds : Array FieldInfo := #[]) : ClassFile where
  minorVersion := 0
  majorVersion := 65
  constantPool := pool
  accessFlags := fl
  thisClass := this
  superClass := sup
  interfaces := ifs
  fields := fds
  methods := ms
  attributes := attrs
def plain (name : String) (sup : Option ClassId) : Class where
  name := name
  kind := .ordinary
  loader := none
  accessFlags := 33
  super := sup
  interfaces := #[]
  cf := none
  fields := #[]
  methods := #[]
  instanceTypes := #[]
  staticTypes := #[]
  resolved := #[]
  callSites := []
  init := .initialized
  statics := none
  mirror := none

def pool0 : Array CpInfo := pool [(5, u "<init>"), (0, u "()V"), (1, .class_ 10), (1, u "java/lang/Object")] 113

def k0m0 : Method := { name := "<init>", desc := "()V", sig := { parameters := [], returnType := none }, accessFlags := 1, code := none }
/-- java/lang/Object -/
def k0 : Class := { plain "java/lang/Object" none with
  accessFlags := 33
  interfaces := #[]
  cf := some (fileOf pool0 8 #[] #[{ accessFlags := 1, nameIndex := 5, descriptorIndex := 6, attributes := #[] }] 33 0 #[] #[])
  fields := #[]
  methods := #[k0m0]
  instanceTypes := #[]
  staticTypes := #[]
  resolved := Array.replicate 124 none
  statics := none }

def pool1 : Array CpInfo := pool [(2, .class_ 4), (1, u "java/lang/Object"), (0, u "<init>"), (0, u "()V"), (0, .methodref 8 9), (0, .class_ 10), (0, .nameAndType 11 12), (0, u "com/example/indexloom/indexloom/data/DataHeaderSplitPinLaw"), (0, u "pick"), (0, u "(IJI)B"), (0, .integer 2147483647), (0, .methodref 8 15), (0, .nameAndType 16 17), (0, u "prefill"), (0, u "([II)V"), (0, .methodref 8 19), (0, .nameAndType 20 21), (0, u "step"), (0, u "([BIII[I[I[I[I)V"), (0, .methodref 23 24), (0, .class_ 25), (0, .nameAndType 26 27), (0, u "com/example/indexloom/indexloom/data/DataHeader"), (0, u "split"), (0, u "([BII[I)I"), (0, .methodref 8 29), (0, .nameAndType 30 31), (0, u "check"), (0, u "([III[I[I[I)Z"), (2, u "law"), (0, u "(IJIII)Z")] 7

def k1m0 : Method := { name := "<init>", desc := "()V", sig := { parameters := [], returnType := none }, accessFlags := 1, code := none }
def k1c1 : Code := { maxStack := 8, maxLocals := 18, code := code, exceptionTable := #[], attributes := #[] }
def k1m1 : Method := { name := "law", desc := "(IJIII)Z", sig := { parameters := [.int, .long, .int, .int, .int], returnType := some .boolean }, accessFlags := 9, code := some k1c1 }
def k1c2 : Code := { maxStack := 4, maxLocals := 5, code := method_3_code, exceptionTable := #[], attributes := #[] }
def k1m2 : Method := { name := "pick", desc := "(IJI)B", sig := { parameters := [.int, .long, .int], returnType := some .byte }, accessFlags := 10, code := some k1c2 }
def k1c3 : Code := { maxStack := 3, maxLocals := 2, code := method_4_code, exceptionTable := #[], attributes := #[] }
def k1m3 : Method := { name := "prefill", desc := "([II)V", sig := { parameters := [(.array .int), .int], returnType := none }, accessFlags := 10, code := some k1c3 }
def k1c4 : Code := { maxStack := 4, maxLocals := 9, code := method_5_code, exceptionTable := #[], attributes := #[] }
def k1m4 : Method := { name := "step", desc := "([BIII[I[I[I[I)V", sig := { parameters := [(.array .byte), .int, .int, .int, (.array .int), (.array .int), (.array .int), (.array .int)], returnType := none }, accessFlags := 10, code := some k1c4 }
def k1c5 : Code := { maxStack := 3, maxLocals := 8, code := method_6_code, exceptionTable := #[], attributes := #[] }
def k1m5 : Method := { name := "check", desc := "([III[I[I[I)Z", sig := { parameters := [(.array .int), .int, .int, (.array .int), (.array .int), (.array .int)], returnType := some .boolean }, accessFlags := 10, code := some k1c5 }
/-- com/example/indexloom/indexloom/data/DataHeaderSplitPinLaw -/
def k1 : Class := { plain "com/example/indexloom/indexloom/data/DataHeaderSplitPinLaw" (some 0) with
  accessFlags := 49
  interfaces := #[]
  cf := some (fileOf pool1 8 #[] #[{ accessFlags := 1, nameIndex := 5, descriptorIndex := 6, attributes := #[] }, { accessFlags := 9, nameIndex := 34, descriptorIndex := 35, attributes := #[] }, { accessFlags := 10, nameIndex := 11, descriptorIndex := 12, attributes := #[] }, { accessFlags := 10, nameIndex := 16, descriptorIndex := 17, attributes := #[] }, { accessFlags := 10, nameIndex := 20, descriptorIndex := 21, attributes := #[] }, { accessFlags := 10, nameIndex := 30, descriptorIndex := 31, attributes := #[] }] 49 2 #[] #[])
  fields := #[]
  methods := #[k1m0, k1m1, k1m2, k1m3, k1m4, k1m5]
  instanceTypes := #[]
  staticTypes := #[]
  resolved := Array.replicate 43 none
  statics := none }

def pool2 : Array CpInfo := pool [(2, .class_ 4), (1, u "java/lang/Object"), (15, .class_ 22), (1, u "com/example/indexloom/indexloom/data/DataHeader"), (0, u "split"), (0, u "([BII[I)I"), (2, u "file"), (0, u "Ljava/lang/String;"), (2, u "names"), (0, u "[Ljava/lang/String;"), (55, .methodref 20 89), (0, .nameAndType 90 91), (0, u "isBlank"), (0, u "(B)Z")] 46

def k2c0 : Code := { maxStack := 3, maxLocals := 10, code := prog_13_method_11_code, exceptionTable := #[], attributes := #[] }
def k2m0 : Method := { name := "split", desc := "([BII[I)I", sig := { parameters := [(.array .byte), .int, .int, (.array .int)], returnType := some .int }, accessFlags := 8, code := some k2c0 }
def k2c1 : Code := { maxStack := 2, maxLocals := 1, code := prog_13_method_12_code, exceptionTable := #[], attributes := #[] }
def k2m1 : Method := { name := "isBlank", desc := "(B)Z", sig := { parameters := [.byte], returnType := some .boolean }, accessFlags := 10, code := some k2c1 }
/-- com/example/indexloom/indexloom/data/DataHeader -/
def k2 : Class := { plain "com/example/indexloom/indexloom/data/DataHeader" (some 0) with
  accessFlags := 49
  interfaces := #[]
  cf := some (fileOf pool2 20 #[] #[{ accessFlags := 8, nameIndex := 23, descriptorIndex := 24, attributes := #[] }, { accessFlags := 10, nameIndex := 90, descriptorIndex := 91, attributes := #[] }] 49 2 #[] #[{ accessFlags := 18, nameIndex := 27, descriptorIndex := 28, attributes := #[] }, { accessFlags := 18, nameIndex := 31, descriptorIndex := 32, attributes := #[] }])
  fields := #[{ name := "file", type := (.object "java/lang/String"), accessFlags := 18, slot := 0, constantValue := 0 }, { name := "names", type := (.array (.object "java/lang/String")), accessFlags := 18, slot := 1, constantValue := 0 }]
  methods := #[k2m0, k2m1]
  instanceTypes := #[(.object "java/lang/String"), (.array (.object "java/lang/String"))]
  staticTypes := #[]
  resolved := Array.replicate 138 none
  statics := none }

def pool3 : Array CpInfo := pool [(1, u "java/lang/Cloneable"), (0, .class_ 1), (0, u "java/lang/Object"), (0, .class_ 3)] 3

/-- java/lang/Cloneable -/
def k3 : Class := { plain "java/lang/Cloneable" (some 0) with
  accessFlags := 1537
  interfaces := #[]
  cf := some (fileOf pool3 2 #[] #[] 1537 4 #[] #[])
  fields := #[]
  methods := #[]
  instanceTypes := #[]
  staticTypes := #[]
  resolved := Array.replicate 8 none
  statics := none }

def pool4 : Array CpInfo := pool [(1, u "java/io/Serializable"), (0, .class_ 1), (0, u "java/lang/Object"), (0, .class_ 3)] 3

/-- java/io/Serializable -/
def k4 : Class := { plain "java/io/Serializable" (some 0) with
  accessFlags := 1537
  interfaces := #[]
  cf := some (fileOf pool4 2 #[] #[] 1537 4 #[] #[])
  fields := #[]
  methods := #[]
  instanceTypes := #[]
  staticTypes := #[]
  resolved := Array.replicate 8 none
  statics := none }

/-- the primitive byte -/
def k5 : Class := { plain "byte" none with kind := .primitive 'B', accessFlags := 0x411 }
/-- [B -/
def k6 : Class := { plain "[B" (some 0) with kind := .array 5 .byte, interfaces := #[3, 4], accessFlags := 1041 }

/-- the primitive int -/
def k7 : Class := { plain "int" none with kind := .primitive 'I', accessFlags := 0x411 }
/-- [I -/
def k8 : Class := { plain "[I" (some 0) with kind := .array 7 .int, interfaces := #[3, 4], accessFlags := 1041 }

def heap : Heap := #[]
def classes : Array Class := #[k0, k1, k2, k3, k4, k5, k6, k7, k8]
def interned : List (Array UInt16 × Addr) := []
def slotsUsed : Nat := 0
def theMethod : MethodId := ⟨1, 1⟩
def args0 : Array Value := #[.int 1, .long 2, .int 3, .int 4, .int 5]
def aboutOver (below : List Frame) : State where
  vm := { classes := classes, interned := interned.toArray }
  heap := heap
  slotsUsed := slotsUsed
  threads := #[{ frames := .invoking theMethod args0 :: below }]
def below0 : List Frame := [.native { method := ⟨0, 0⟩, args := #[] }]
def about1 : State := aboutOver below0
def p0 : Program := .bare "" "" ""
def e0 : Env := launch0.env 0 0 0
theorem w_frames : about1.frames = Frame.invoking theMethod args0 :: below0 := rfl
set_option maxRecDepth 65536 in
theorem w_args : argsFit about1.vm theMethod args0 = true := by decide +kernel
set_option maxRecDepth 65536 in
theorem w_heap : heapFits about1 = true := by decide +kernel
set_option maxRecDepth 65536 in
theorem w_runnable : about1.curStatus? = some .runnable := by decide +kernel
set_option maxRecDepth 65536 in
theorem w_alone : about1.alone = true := by decide +kernel
set_option maxRecDepth 65536 in
theorem w_named : about1.methodNamed? x = some theMethod := by decide +kernel
set_option maxRecDepth 65536 in
theorem w_hears : about1.hears theMethod below0 = true := by decide +kernel
set_option maxRecDepth 65536 in
theorem w_ripe : about1.ripe theMethod args0 below0 = true := by decide +kernel
theorem w_running : about1.status = .running := rfl
set_option maxRecDepth 65536 in
theorem w_room : about1.hasRoom e0.platform room_1 = true :=
  launch0.hasRoom_least _ room_1 (by decide +kernel) (by decide +kernel) (by decide +kernel) (by decide +kernel) (by decide +kernel) (by decide +kernel)
theorem allAtoms_all (ts : List Jvm.Cond) (a : Array Jvm.Value) (st : Jvm.State) : (allAtoms ts).before a st = ts.all (fun c => c.before a st) := by
  induction ts with
  | nil => rfl
  | cons c t ih =>
    show (Jvm.Cond.and c (allAtoms t)).before a st = _
    rw [Jvm.Cond.before_and, ih, List.all_cons]
def words1 : List Jvm.Cond := Jvm.Cond.code x code maxLocals ret :: tables_1
/-- a 'code' word, met by the world's own term for the bytes: nothing is compared byte by byte -/
theorem code_word {y : MethodName} {bytes : ByteArray} {mx : Nat} {rt : Option FieldType} {a : Array Value} {s : State} {m : MethodId} {meth : Method} {c : Code} (h1 : s.methodNamed? y = some m) (h2 : s.vm.method? m = some meth) (h3 : meth.code = some c) (h4 : c.code = bytes)
    (h5 : (c.maxLocals == mx && c.exceptionTable.isEmpty && decide (c.maxStack ≤ mostOperands) && decide (meth.sig.returnType = rt) && !meth.locks && decide (parseMethodDescriptor y.desc = some meth.sig)) = true) : (Jvm.Cond.code y bytes mx rt).before a s = true := by
  simp only [Bool.and_eq_true, beq_iff_eq, Bool.not_eq_true', decide_eq_true_eq] at h5
  obtain ⟨⟨⟨⟨⟨g1, g2⟩, g3⟩, g4⟩, g5⟩, g6⟩ := h5
  simp [Cond.before, Cond.holds, Cond.value, h1, h2, h3, h4, g1, g2, g3, g4, g5, g6]
def isCode : Jvm.Cond → Bool
  | .code _ _ _ _ => true
  | _ => false
theorem all_split {L : List Jvm.Cond} {P : Jvm.Cond → Bool} (h1 : L.all (fun c => isCode c || P c) = true) (h2 : ∀ c ∈ L.filter isCode, P c = true) : L.all P = true := by
  refine List.all_eq_true.mpr fun c hc => ?_
  have h := List.all_eq_true.mp h1 c hc
  rcases Bool.eq_false_or_eq_true (isCode c) with hi | hi
  · exact h2 c (List.mem_filter.mpr ⟨hc, hi⟩)
  · simpa [hi] using h
set_option maxRecDepth 65536 in
theorem w_c0 : (Jvm.Cond.code x code maxLocals ret).before args0 about1 = true := code_word (m := ⟨1, 1⟩) (meth := k1m1) (c := k1c1) (by decide +kernel) rfl rfl rfl (by decide +kernel)
set_option maxRecDepth 65536 in
theorem w_c1 : (Jvm.Cond.code ({ cls := "com/example/indexloom/indexloom/data/DataHeaderSplitPinLaw", name := "pick", desc := "(IJI)B" } : Jvm.MethodName) method_3_code (5 : Nat) (Option.some Jvm.ClassFile.FieldType.byte)).before args0 about1 = true := code_word (m := ⟨1, 2⟩) (meth := k1m2) (c := k1c2) (by decide +kernel) rfl rfl rfl (by decide +kernel)
set_option maxRecDepth 65536 in
theorem w_c2 : (Jvm.Cond.code ({ cls := "com/example/indexloom/indexloom/data/DataHeaderSplitPinLaw", name := "prefill", desc := "([II)V" } : Jvm.MethodName) method_4_code (2 : Nat) (Option.none : Option Jvm.ClassFile.FieldType)).before args0 about1 = true := code_word (m := ⟨1, 3⟩) (meth := k1m3) (c := k1c3) (by decide +kernel) rfl rfl rfl (by decide +kernel)
set_option maxRecDepth 65536 in
theorem w_c3 : (Jvm.Cond.code ({ cls := "com/example/indexloom/indexloom/data/DataHeaderSplitPinLaw", name := "step", desc := "([BIII[I[I[I[I)V" } : Jvm.MethodName) method_5_code (9 : Nat) (Option.none : Option Jvm.ClassFile.FieldType)).before args0 about1 = true := code_word (m := ⟨1, 4⟩) (meth := k1m4) (c := k1c4) (by decide +kernel) rfl rfl rfl (by decide +kernel)
set_option maxRecDepth 65536 in
theorem w_c4 : (Jvm.Cond.code ({ cls := "com/example/indexloom/indexloom/data/DataHeader", name := "split", desc := "([BII[I)I" } : Jvm.MethodName) prog_13_method_11_code (10 : Nat) (Option.some Jvm.ClassFile.FieldType.int)).before args0 about1 = true := code_word (m := ⟨2, 0⟩) (meth := k2m0) (c := k2c0) (by decide +kernel) rfl rfl rfl (by decide +kernel)
set_option maxRecDepth 65536 in
theorem w_c5 : (Jvm.Cond.code ({ cls := "com/example/indexloom/indexloom/data/DataHeaderSplitPinLaw", name := "check", desc := "([III[I[I[I)Z" } : Jvm.MethodName) method_6_code (8 : Nat) (Option.some Jvm.ClassFile.FieldType.boolean)).before args0 about1 = true := code_word (m := ⟨1, 5⟩) (meth := k1m5) (c := k1c5) (by decide +kernel) rfl rfl rfl (by decide +kernel)
set_option maxRecDepth 65536 in
theorem w_c6 : (Jvm.Cond.code ({ cls := "com/example/indexloom/indexloom/data/DataHeader", name := "isBlank", desc := "(B)Z" } : Jvm.MethodName) prog_13_method_12_code (1 : Nat) (Option.some Jvm.ClassFile.FieldType.boolean)).before args0 about1 = true := code_word (m := ⟨2, 1⟩) (meth := k2m1) (c := k2c1) (by decide +kernel) rfl rfl rfl (by decide +kernel)
def codes1 : List Jvm.Cond := [Jvm.Cond.code x code maxLocals ret, Jvm.Cond.code ({ cls := "com/example/indexloom/indexloom/data/DataHeaderSplitPinLaw", name := "pick", desc := "(IJI)B" } : Jvm.MethodName) method_3_code (5 : Nat) (Option.some Jvm.ClassFile.FieldType.byte), Jvm.Cond.code ({ cls := "com/example/indexloom/indexloom/data/DataHeaderSplitPinLaw", name := "prefill", desc := "([II)V" } : Jvm.MethodName) method_4_code (2 : Nat) (Option.none : Option Jvm.ClassFile.FieldType), Jvm.Cond.code ({ cls := "com/example/indexloom/indexloom/data/DataHeaderSplitPinLaw", name := "step", desc := "([BIII[I[I[I[I)V" } : Jvm.MethodName) method_5_code (9 : Nat) (Option.none : Option Jvm.ClassFile.FieldType), Jvm.Cond.code ({ cls := "com/example/indexloom/indexloom/data/DataHeader", name := "split", desc := "([BII[I)I" } : Jvm.MethodName) prog_13_method_11_code (10 : Nat) (Option.some Jvm.ClassFile.FieldType.int), Jvm.Cond.code ({ cls := "com/example/indexloom/indexloom/data/DataHeaderSplitPinLaw", name := "check", desc := "([III[I[I[I)Z" } : Jvm.MethodName) method_6_code (8 : Nat) (Option.some Jvm.ClassFile.FieldType.boolean), Jvm.Cond.code ({ cls := "com/example/indexloom/indexloom/data/DataHeader", name := "isBlank", desc := "(B)Z" } : Jvm.MethodName) prog_13_method_12_code (1 : Nat) (Option.some Jvm.ClassFile.FieldType.boolean)]
set_option maxRecDepth 65536 in
theorem codes_eq : words1.filter isCode = codes1 := rfl
theorem w_codes : ∀ c ∈ words1.filter isCode, c.before args0 about1 = true := by
  rw [codes_eq]
  intro c hc
  simp only [codes1, List.mem_cons, List.not_mem_nil, or_false] at hc
  rcases hc with rfl | rfl | rfl | rfl | rfl | rfl | rfl
  · exact w_c0
  · exact w_c1
  · exact w_c2
  · exact w_c3
  · exact w_c4
  · exact w_c5
  · exact w_c6
set_option maxRecDepth 65536 in
theorem w_t1 : words1.all (fun c => isCode c || c.before args0 about1) = true := by decide +kernel
theorem w_tables : (allAtoms (Jvm.Cond.code x code maxLocals ret :: tables_1)).before args0 about1 = true := by
  rw [allAtoms_all]
  show words1.all (fun c => c.before args0 about1) = true
  refine all_split ?_ w_codes
  rw [w_t1]
set_option maxRecDepth 65536 in
theorem w_case : (Jvm.Cond.and given_1 narrow_1).before args0 about1 = true := by decide +kernel
theorem w_applies : (headSpec (Jvm.Cond.code x code maxLocals ret :: tables_1) room_1).applies x e0.platform about1 = true :=
  (Spec.applies_iff w_frames).mpr ⟨w_running, w_runnable, w_alone, w_named, w_hears, w_ripe, w_room, w_tables⟩
theorem atStart : AtStart classFile x code maxLocals ret World_1 tables_1 room_1 Calls_1 rest_1 Pre_1 launch0 p0 e0 about1 theMethod args0 below0 :=
  ⟨lists_1, trivial, launch0.admits_env _ _ _, launch0.least_env, fairChoices_fair.cas, fairChoices_fair.clock, w_frames, w_args, w_heap, w_applies, trivial, trivial, w_case⟩
end start1
theorem witness_1 : WitnessClaimed_1 := ⟨start1.p0, start1.e0, start1.about1, start1.theMethod, start1.args0, start1.below0, start1.atStart⟩
end Jvm.Pilot.@@N@@
