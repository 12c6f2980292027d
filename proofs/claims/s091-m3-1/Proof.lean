import JvmDerived
import JvmDerived.Pilot.@@N@@Statement
import JvmDerived.Pilot.@@N@@Code
set_option linter.unusedVariables false
set_option linter.unusedSimpArgs false
namespace Jvm.Pilot.@@N@@
open Jvm Jvm.ClassFile Sem Op Lib Jvm.Free Jvm.Stand Jvm.LawKit Jvm.RoadKit Bundle Jvm.Pilot.@@N@@.Jvm.D
section OwnKit
variable {p : Program} {l : Launch} {e : Env} {R : Room} {s : State} {m : MethodId} {args : Array Value} {below : List Frame} {meth : Method} {c : Code} {T : State} {locs : List Loc} {cells slots : Nat} {Z : State} {a0 : Array Value} {h : Heap} {n0 : Nat} {G : State → Outcome → Prop} {kc ks : Nat} {Q : Option Value → Heap → Prop}
/-- what is left of a walk: from U the body comes to an end of which G holds -/
def own_Go (tb : Tables) (e : Env) (below : List Frame) (G : State → Outcome → Prop) (U : State) : Prop := ∃ s₂ o, Steps tb e below U s₂ ∧ s₂.status = .running ∧ Ended s₂ below o ∧ G s₂ o
theorem own_go {tb : Tables} {U U' : State} (f : ∀ t, Steps tb e below U' t → Steps tb e below U t) (k : own_Go tb e below G U') : own_Go tb e below G U := by
  obtain ⟨a, b, c, d⟩ := k
  exact ⟨a, b, f _ c, d⟩
/-- where the run stands: its heap is h, nothing below n0 has been written -/
def own_At (p : Program) (l : Launch) (e : Env) (R : Room) (s : State) (m : MethodId) (args : Array Value) (below : List Frame) (meth : Method) (c : Code) (n0 : Nat) (T : State) (h : Heap) (cells slots : Nat) : Prop :=
  ∃ locs, Stand p l e R s m args below meth c T locs cells slots ∧ T.heap = h ∧ Fr n0 locs
theorem own_At.here (A : own_At p l e R s m args below meth c n0 T h cells slots) : At T m c below := by obtain ⟨_, X, -, -⟩ := A; exact X.here
theorem own_At.heap (A : own_At p l e R s m args below meth c n0 T h cells slots) : T.heap = h := by obtain ⟨_, -, q, -⟩ := A; exact q
/-- the end of a body: it returns v, Q holds of v and the heap -/
def own_End (n0 : Nat) (s : State) (kc ks : Nat) (Q : Option Value → Heap → Prop) : State → Outcome → Prop := fun s₂ o => ∃ v L, o = .returned v ∧ (Q v s₂.heap ∧ Fr n0 L) ∧ FrameEnd s o s₂ L kc ks
theorem own_leave (A : own_At p l e R s m args below meth c n0 T h cells slots) {v : Option Value} (hv : meth.sig.returnType = none → v = none) (hlk : meth.locks = false) (hc : cells ≤ kc) (hs : slots ≤ ks) (q : Q v h) {U : State}
    (st : ∀ locs, Stand p l e R s m args below meth c T locs cells slots → ∀ fs, (∀ (f : JFrame) (acts : List Action), f.method = m → f.locked = none → f.entered = [] → (doReturn e (T.setTop f) acts v).1 = T.setFrames fs) → Steps p.tables e below U (T.setFrames fs)) : own_Go p.tables e below (own_End n0 s kc ks Q) U := by
  obtain ⟨locs, X, rfl, N⟩ := A
  obtain ⟨fs, hr, hrun, hended, hW, hsame⟩ := X.leave hv hlk
  exact ⟨_, _, st locs X fs hr, hrun, hended, _, _, rfl, ⟨q, N⟩, ⟨_, rfl⟩, hW, hsame.mono hc hs⟩
theorem own_retI (A : own_At p l e R s m args below meth c n0 T h cells slots) (hx : p.tables.exec = Jvm.exec) (hret : meth.sig.returnType = some .int) (hlk : meth.locks = false) (hc : cells ≤ kc) (hs : slots ≤ ks) {pc : Nat} {Ls : Array Slot} {z : Int32} {rest : List Value} (hd : decode c.code pc = .ok (.ireturn, 1)) (q : Q (some (.int z)) h) :
    own_Go p.tables e below (own_End n0 s kc ks Q) (T.setTop (mkF m pc Ls (.int z :: rest))) :=
  own_leave A (fun q => by rw [hret] at q; cases q) hlk hc hs q fun _ X _ hr => retOut X hx hret rfl (Or.inl ⟨rfl, Or.inl rfl, _, rfl⟩) hd hr
theorem own_retN (A : own_At p l e R s m args below meth c n0 T h cells slots) (hx : p.tables.exec = Jvm.exec) {t : FieldType} (hret : meth.sig.returnType = some t) (ht : t = .boolean ∨ t = .byte ∨ t = .char ∨ t = .short) (hlk : meth.locks = false) (hc : cells ≤ kc) (hs : slots ≤ ks) {pc : Nat} {Ls : Array Slot} {z : Int32} {rest : List Value} (hd : decode c.code pc = .ok (.ireturn, 1)) (q : Q (some (.int (nar t z))) h) :
    own_Go p.tables e below (own_End n0 s kc ks Q) (T.setTop (mkF m pc Ls (.int z :: rest))) :=
  own_leave A (fun q => by rw [hret] at q; cases q) hlk hc hs q fun _ X _ hr => retN X hx hret ht hd hr
theorem own_retJ (A : own_At p l e R s m args below meth c n0 T h cells slots) (hx : p.tables.exec = Jvm.exec) (hret : meth.sig.returnType = some .long) (hlk : meth.locks = false) (hc : cells ≤ kc) (hs : slots ≤ ks) {pc : Nat} {Ls : Array Slot} {z : Int64} {rest : List Value} (hd : decode c.code pc = .ok (.lreturn, 1)) (q : Q (some (.long z)) h) :
    own_Go p.tables e below (own_End n0 s kc ks Q) (T.setTop (mkF m pc Ls (.long z :: rest))) :=
  own_leave A (fun q => by rw [hret] at q; cases q) hlk hc hs q fun _ X _ hr => retOut X hx hret rfl (Or.inr (Or.inl ⟨rfl, rfl, _, rfl⟩)) hd hr
theorem own_retD (A : own_At p l e R s m args below meth c n0 T h cells slots) (hx : p.tables.exec = Jvm.exec) (hret : meth.sig.returnType = some .double) (hlk : meth.locks = false) (hc : cells ≤ kc) (hs : slots ≤ ks) {pc : Nat} {Ls : Array Slot} {z : UInt64} {rest : List Value} (hd : decode c.code pc = .ok (.dreturn, 1)) (q : Q (some (.double z)) h) :
    own_Go p.tables e below (own_End n0 s kc ks Q) (T.setTop (mkF m pc Ls (.double z :: rest))) :=
  own_leave A (fun q => by rw [hret] at q; cases q) hlk hc hs q fun _ X _ hr => retOut X hx hret rfl (Or.inr (Or.inr (Or.inl ⟨rfl, rfl, _, rfl⟩))) hd hr
theorem own_retA (A : own_At p l e R s m args below meth c n0 T h cells slots) (hx : p.tables.exec = Jvm.exec) {t : FieldType} (hret : meth.sig.returnType = some t) (ht : t.isReference = true) (hlk : meth.locks = false) (hc : cells ≤ kc) (hs : slots ≤ ks) {pc : Nat} {Ls : Array Slot} {w : Value} (hw : w.isRef = true) {rest : List Value} (hd : decode c.code pc = .ok (.areturn, 1)) (q : Q (some w) h) :
    own_Go p.tables e below (own_End n0 s kc ks Q) (T.setTop (mkF m pc Ls (w :: rest))) :=
  own_leave A (fun q => by rw [hret] at q; cases q) hlk hc hs q fun _ X _ hr => retOut X hx hret (by cases t <;> first | rfl | cases ht) (Or.inr (Or.inr (Or.inr (Or.inr ⟨rfl, ht, hw⟩)))) hd hr
theorem own_retV (A : own_At p l e R s m args below meth c n0 T h cells slots) (hx : p.tables.exec = Jvm.exec) (hret : meth.sig.returnType = none) (hlk : meth.locks = false) (hc : cells ≤ kc) (hs : slots ≤ ks) {pc : Nat} {Ls : Array Slot} (hd : decode c.code pc = .ok (.return_, 1)) (q : Q none h) :
    own_Go p.tables e below (own_End n0 s kc ks Q) (T.setTop (mkF m pc Ls [])) :=
  own_leave A (fun _ => rfl) hlk hc hs q fun _ X _ hr => X.returnOut hx hret hd hr
/-- a body's contract: called with as' at the heap h0 it returns, and Q holds of what it returns and of the heap -/
def own_Met (l : Launch) (Z : State) (n0 : Nat) (y : MethodName) (bytes : ByteArray) (maxL : Nat) (ret : Option FieldType) (rm : Room) (as' : Array Value) (h0 : Heap) (Q : Option Value → Heap → Prop) : Prop :=
  ∀ ws, MetFree l y (head1 (Cond.code y bytes maxL ret :: ws) rm) (fun a U => a = as' ∧ Z.Warmed39 U.vm ∧ U.heap = h0) (fun _ _ _ _ _ => True) (fun _ U o U' => ∃ v L, o = .returned v ∧ (Q v U'.heap ∧ Fr n0 L) ∧ FrameEnd U o U' L rm.cells rm.slots)
theorem own_met {y : MethodName} {bytes : ByteArray} {maxL : Nat} {ret : Option FieldType} {rm : Room} {as' : Array Value} {h0 : Heap} (hp : plainFor y = true)
    (body : ∀ (p : Program) (e : Env) (s : State) (m : MethodId) (below : List Frame) (meth : Method) (c : Code) (T : State), p.tables.exec = Jvm.exec → c.code = bytes → c.maxLocals = maxL → s.vm.findClass y.cls = some m.cls → meth.name = y.name → meth.sig.returnType = ret → meth.locks = false → Z.Warmed39 s.vm →
      own_At p l e rm s m as' below meth c n0 T h0 0 0 → own_Go p.tables e below (own_End n0 s rm.cells rm.slots Q) (T.setTop (entryFrame m as' maxL))) : own_Met l Z n0 y bytes maxL ret rm as' h0 Q := by
  intro ws
  refine MetFree.of_bodySF hp hisR ?_
  intro p e s m args below meth c s₁ Bd hml0 hP hK
  obtain ⟨rfl, hZ, hh⟩ := hP
  exact body p e s m below meth c s₁ Bd.exec Bd.bytes hml0 (findClass_of_methodNamed Bd.named) (name_of_methodNamed Bd.named Bd.method).1 Bd.returns Bd.notSynchronized hZ ⟨[], Stand.of_body Bd, by rw [← hh, Bd.state]; rfl, Fr.nil n0⟩
theorem own_callS (A : own_At p l e R s m args below meth c n0 T h cells slots) (hx : p.tables.exec = Jvm.exec) (hZ : Z.Warmed39 s.vm) {own : String} {index : Nat} {y : MethodName} {bytes : ByteArray} {maxL : Nat} {ret : Option FieldType} (hown : s.vm.findClass own = some m.cls)
    (w1 : (Cond.methodLink own index y).before a0 Z = true) (w2 : (Cond.static y).before a0 Z = true) (w3 : (Cond.initialized y.cls).before a0 Z = true) (w4 : (Cond.code y bytes maxL ret).before a0 Z = true) (hy : y.cls ≠ "java/lang/invoke/MethodHandle" ∧ y.cls ≠ "java/lang/invoke/VarHandle")
    {rm : Room} {argsL rest : List Value} (hM : own_Met l Z n0 y bytes maxL ret rm argsL.toArray h Q) (W : Nat) (hfr : rm.frames + 1 ≤ R.frames) (hlo : W + (maxL + 11) + rm.locals ≤ R.locals) {g : JFrame} (hg : g.method = m) (hsize : g.locals.size = c.maxLocals)
    (hlen : ∀ sig, parseMethodDescriptor y.desc = some sig → argsL.length = sig.parameters.length) (hs : g.stack = argsL.reverse ++ rest) (hW : 2 * g.monitorRoom + (rest.map fun v => v.category).sum ≤ W) (hd : decode c.code g.pc = .ok (.invokestatic index, 3))
    (hc : cells + rm.cells ≤ R.cells) (hl : slots + rm.slots ≤ R.slots)
    (k : ∀ v T' h', own_At p l e R s m args below meth c n0 T' h' (cells + rm.cells) (slots + rm.slots) → Q v h' → own_Go p.tables e below G (T'.setTop { g with pc := g.pc + 3, stack := v.toList ++ rest })) : own_Go p.tables e below G (T.setTop g) := by
  obtain ⟨locs, X, eT, N⟩ := A
  obtain ⟨v, _, ⟨T1, L1, k1, s1⟩, -, X1, ⟨Lc, ⟨hQ, N1⟩, l1, y1, z1⟩, st⟩ := Jvm.LawKit.callS X hx (y := y) hown (mvT hZ w1) (mvT hZ w2) (mvT hZ w3) (mvT hZ w4) hy (backOf (Q := fun v h L => Q v h ∧ Fr n0 L) (W := W) (hM []) hZ w4 w3 hfr hlo) hg hsize (argsL := argsL) (rest := rest) hlen hs hW hd (fun _ _ => ⟨rfl, eT, hc, hl⟩)
  dsimp only [Pt.U, Pt.locs, Pt.cells, Pt.slots] at X1 l1 y1 z1 st hQ
  subst l1 y1 z1
  exact own_go (fun t k => st t k) (k v T1 T1.heap ⟨_, X1, rfl, N.app N1⟩ hQ)
theorem own_callV (A : own_At p l e R s m args below meth c n0 T h cells slots) (hx : p.tables.exec = Jvm.exec) (hZ : Z.Warmed39 s.vm) {own C : String} {index : Nat} {y z : MethodName} {bytes : ByteArray} {maxL : Nat} {ret : Option FieldType} (hown : s.vm.findClass own = some m.cls)
    (w1 : (Cond.methodLink own index y).before a0 Z = true) (w2 : (Cond.declares y).before a0 Z = true) (w3 : (Cond.selects C y z).before a0 Z = true) (w4 : (Cond.instanceMethod z).before a0 Z = true) (w5 : (Cond.initialized z.cls).before a0 Z = true) (w6 : (Cond.code z bytes maxL ret).before a0 Z = true) (nf : NotFace s y)
    (hy : y.cls ≠ "java/lang/invoke/MethodHandle" ∧ y.cls ≠ "java/lang/invoke/VarHandle")
    {rm : Room} {b : Addr} {argsL rest : List Value} (E : Exa Z h b C) (hM : own_Met l Z n0 z bytes maxL ret rm (.ref b :: argsL).toArray h Q) (W : Nat) (hfr : rm.frames + 1 ≤ R.frames) (hlo : W + (maxL + 11) + rm.locals ≤ R.locals) {g : JFrame} (hg : g.method = m) (hsize : g.locals.size = c.maxLocals)
    (hlen : ∀ sig, parseMethodDescriptor y.desc = some sig → argsL.length = sig.parameters.length) (hs : g.stack = argsL.reverse ++ .ref b :: rest) (hW : 2 * g.monitorRoom + (rest.map fun v => v.category).sum ≤ W) (hd : decode c.code g.pc = .ok (.invokevirtual index, 3))
    (hc : cells + rm.cells ≤ R.cells) (hl : slots + rm.slots ≤ R.slots)
    (k : ∀ v T' h', own_At p l e R s m args below meth c n0 T' h' (cells + rm.cells) (slots + rm.slots) → Q v h' → own_Go p.tables e below G (T'.setTop { g with pc := g.pc + 3, stack := v.toList ++ rest })) : own_Go p.tables e below G (T.setTop g) := by
  obtain ⟨locs, X, eT, N⟩ := A
  obtain ⟨cq, kq, qa, qb, qc⟩ := isOf hZ eT E
  obtain ⟨v, _, ⟨T1, L1, k1, s1⟩, -, X1, ⟨Lc, ⟨hQ, N1⟩, l1, y1, z1⟩, st⟩ := X.virtualBack hx (y := y) (z := z) hown (mvT hZ w1) (mvT hZ w2) nf (mvT hZ w3) (mvT hZ w4) hy (backOf (Q := fun v h L => Q v h ∧ Fr n0 L) (W := W) (hM []) hZ w6 w5 hfr hlo) qa qc hg hsize (Steps.refl _) (argsL := argsL) (rest := rest) hlen hs hW hd (fun _ _ => ⟨rfl, eT, hc, hl⟩)
  dsimp only [Pt.U, Pt.locs, Pt.cells, Pt.slots] at X1 l1 y1 z1 st hQ
  subst l1 y1 z1
  exact own_go (fun t k => st.trans k) (k v T1 T1.heap ⟨_, X1, rfl, N.app N1⟩ hQ)
theorem own_callI (A : own_At p l e R s m args below meth c n0 T h cells slots) (hx : p.tables.exec = Jvm.exec) (hZ : Z.Warmed39 s.vm) {own : String} {index : Nat} {y : MethodName} (hy1 : y.name = "<init>") {bytes : ByteArray} {maxL : Nat} (hown : s.vm.findClass own = some m.cls)
    (w1 : (Cond.methodLink own index y).before a0 Z = true) (w4 : (Cond.instanceMethod y).before a0 Z = true) (w5 : (Cond.initialized y.cls).before a0 Z = true) (w6 : (Cond.code y bytes maxL none).before a0 Z = true)
    (hy : y.cls ≠ "java/lang/invoke/MethodHandle" ∧ y.cls ≠ "java/lang/invoke/VarHandle")
    {rm : Room} {b : Addr} {argsL rest : List Value} (hM : own_Met l Z n0 y bytes maxL none rm (.ref b :: argsL).toArray h Q) (W : Nat) (hfr : rm.frames + 1 ≤ R.frames) (hlo : W + (maxL + 11) + rm.locals ≤ R.locals) {g : JFrame} (hg : g.method = m) (hsize : g.locals.size = c.maxLocals)
    (hlen : ∀ sig, parseMethodDescriptor y.desc = some sig → argsL.length = sig.parameters.length) (hs : g.stack = argsL.reverse ++ .ref b :: rest) (hW : 2 * g.monitorRoom + (rest.map fun v => v.category).sum ≤ W) (hd : decode c.code g.pc = .ok (.invokespecial index, 3))
    (hc : cells + rm.cells ≤ R.cells) (hl : slots + rm.slots ≤ R.slots)
    (k : ∀ v T' h', own_At p l e R s m args below meth c n0 T' h' (cells + rm.cells) (slots + rm.slots) → Q v h' → own_Go p.tables e below G (T'.setTop { g with pc := g.pc + 3, stack := v.toList ++ rest })) : own_Go p.tables e below G (T.setTop g) := by
  obtain ⟨locs, X, eT, N⟩ := A
  obtain ⟨v, _, ⟨T1, L1, k1, s1⟩, -, X1, ⟨Lc, ⟨hQ, N1⟩, l1, y1, z1⟩, st⟩ := X.specialBack hx (y := y) hy1 hown (mvT hZ w1) (mvT hZ w4) (mvT hZ w6) hy (backOf (Q := fun v h L => Q v h ∧ Fr n0 L) (W := W) (hM []) hZ w6 w5 hfr hlo) hg hsize (Steps.refl _) (a := b) (argsL := argsL) (rest := rest) hlen hs hW hd (fun _ _ => ⟨rfl, eT, hc, hl⟩)
  dsimp only [Pt.U, Pt.locs, Pt.cells, Pt.slots] at X1 l1 y1 z1 st hQ
  subst l1 y1 z1
  exact own_go (fun t k => st.trans k) (k v T1 T1.heap ⟨_, X1, rfl, N.app N1⟩ hQ)
theorem own_initO (A : own_At p l e R s m args below meth c n0 T h cells slots) (hx : p.tables.exec = Jvm.exec) (hZ : Z.Warmed39 s.vm) {own : String} {idx : Nat} (hown : s.vm.findClass own = some m.cls) (w1 : (Cond.methodLink own idx Lib.objectInit).before a0 Z = true) (w2 : (Cond.instanceMethod Lib.objectInit).before a0 Z = true)
    (w3 : (Cond.code Lib.objectInit ⟨#[0xb1]⟩ 1 none).before a0 Z = true) {g : JFrame} (hg : g.method = m) (hsize : g.locals.size = c.maxLocals) {a : Addr} {rest : List Value} (hs : g.stack = .ref a :: rest) (hd : decode c.code g.pc = .ok (.invokespecial idx, 3))
    (hf : 1 ≤ R.frames) (W : Nat) (hW : 2 * g.monitorRoom + (rest.map fun v => v.category).sum ≤ W) (hl : W + 12 ≤ R.locals)
    (k : ∀ T', own_At p l e R s m args below meth c n0 T' h cells slots → own_Go p.tables e below G (T'.setTop { g with pc := g.pc + 3, stack := rest })) : own_Go p.tables e below G (T.setTop g) := by
  obtain ⟨locs, X, eT, N⟩ := A
  obtain ⟨T1, X1, e1, st⟩ := initO X hx hZ hown w1 w2 w3 eT hg hsize hs hd hf hW hl
  exact own_go st (k T1 ⟨_, X1, e1, N⟩)
theorem own_getF (A : own_At p l e R s m args below meth c n0 T h cells slots) (hx : p.tables.exec = Jvm.exec) (hZ : Z.Warmed39 s.vm) {own R0 O n d host : String} {index : Nat} (hown : s.vm.findClass own = some m.cls) (w : (Cond.fieldLink own index R0 n d).before a0 Z = true ∨ (Cond.fieldLinkNest own index R0 n d host).before a0 Z = true) (via : Via Z R0 O n d)
    {a : Addr} {v : Value} (F : Fld Z h a O n d v) {g : JFrame} (hg : g.method = m) {rest : List Value} (hs : g.stack = .ref a :: rest) (hd : decode c.code g.pc = .ok (.getfield index, 3))
    (k : ∀ T', own_At p l e R s m args below meth c n0 T' h cells slots → own_Go p.tables e below G (T'.setTop { g with pc := g.pc + 3, stack := v :: rest })) : own_Go p.tables e below G (T.setTop g) := by
  obtain ⟨locs, X, eT, N⟩ := A
  obtain ⟨T1, X1, e1, st⟩ := getF X hx hZ hown w via eT F hg hs hd
  exact own_go st (k T1 ⟨_, X1, e1, N⟩)
theorem own_getS (A : own_At p l e R s m args below meth c n0 T h cells slots) (hx : p.tables.exec = Jvm.exec) (hZ : Z.Warmed39 s.vm) {own R0 O n d host : String} {index : Nat} (hown : s.vm.findClass own = some m.cls) (w : (Cond.fieldLink own index R0 n d).before a0 Z = true ∨ (Cond.fieldLinkNest own index R0 n d host).before a0 Z = true) (via : Via Z R0 O n d)
    {v : Value} (F : Sta Z h O n d v) {g : JFrame} (hg : g.method = m) (hd : decode c.code g.pc = .ok (.getstatic index, 3))
    (k : ∀ T', own_At p l e R s m args below meth c n0 T' h cells slots → own_Go p.tables e below G (T'.setTop { g with pc := g.pc + 3, stack := v :: g.stack })) : own_Go p.tables e below G (T.setTop g) := by
  obtain ⟨locs, X, eT, N⟩ := A
  obtain ⟨T1, X1, e1, st⟩ := getS2 X hx hZ hown w via eT F hg hd
  exact own_go st (k T1 ⟨_, X1, e1, N⟩)
theorem own_ldcI (A : own_At p l e R s m args below meth c n0 T h cells slots) (hx : p.tables.exec = Jvm.exec) (hZ : Z.Warmed39 s.vm) {own : String} {index : Nat} {v : Int32} (hown : s.vm.findClass own = some m.cls) (w : (Cond.constant own index v).before a0 Z = true) {g : JFrame} (hg : g.method = m) (hd : decode c.code g.pc = .ok (.ldc index, 2))
    (k : own_Go p.tables e below G (T.setTop { g with pc := g.pc + 2, stack := .int v :: g.stack })) : own_Go p.tables e below G (T.setTop g) := by
  obtain ⟨locs, X, eT, N⟩ := A
  exact own_go (X.ldcInt hx hown (mvT hZ w) hg hd) k
theorem own_ldcwI (A : own_At p l e R s m args below meth c n0 T h cells slots) (hx : p.tables.exec = Jvm.exec) (hZ : Z.Warmed39 s.vm) {own : String} {index : Nat} {v : Int32} (hown : s.vm.findClass own = some m.cls) (w : (Cond.constant own index v).before a0 Z = true) {g : JFrame} (hg : g.method = m) (hd : decode c.code g.pc = .ok (.ldc_w index, 3))
    (k : own_Go p.tables e below G (T.setTop { g with pc := g.pc + 3, stack := .int v :: g.stack })) : own_Go p.tables e below G (T.setTop g) := by
  obtain ⟨locs, X, eT, N⟩ := A
  exact own_go (X.ldcwInt hx hown (mvT hZ w) hg hd) k
theorem own_ldcJ (A : own_At p l e R s m args below meth c n0 T h cells slots) (hx : p.tables.exec = Jvm.exec) (hZ : Z.Warmed39 s.vm) {own : String} {index : Nat} {v : Int64} (hown : s.vm.findClass own = some m.cls) (w : (Cond.constantLong own index v).before a0 Z = true) {g : JFrame} (hg : g.method = m) (hd : decode c.code g.pc = .ok (.ldc2_w index, 3))
    (k : own_Go p.tables e below G (T.setTop { g with pc := g.pc + 3, stack := .long v :: g.stack })) : own_Go p.tables e below G (T.setTop g) := by
  obtain ⟨locs, X, eT, N⟩ := A
  exact own_go (X.ldc2Long hx hown (mvT hZ w) hg hd) k
/-- irem, with Java's sign -/
theorem own_irem {tb : Tables} [Ours tb] {target : State} {g : JFrame} (hh : At T m c below) (hx : tb.exec = Jvm.exec) (hg : g.method = m) {x y : Int32} {rest : List Value} (hd : decode c.code g.pc = .ok (.irem, 1)) (hs : g.stack = .int y :: .int x :: rest) (hy : y ≠ 0)
    (hr : Steps tb e below (T.setTop { g with pc := g.pc + 1, stack := .int (x % y) :: rest }) target) : Steps tb e below (T.setTop g) target :=
  XS.irem hh hx hg hd hs hy (by rw [irem_eq_mod]; exact hr)
theorem own_lrem {tb : Tables} [Ours tb] {target : State} {g : JFrame} (hh : At T m c below) (hx : tb.exec = Jvm.exec) (hg : g.method = m) {x y : Int64} {rest : List Value} (hd : decode c.code g.pc = .ok (.lrem, 1)) (hs : g.stack = .long y :: .long x :: rest) (hy : y ≠ 0)
    (hr : Steps tb e below (T.setTop { g with pc := g.pc + 1, stack := .long (x % y) :: rest }) target) : Steps tb e below (T.setTop g) target :=
  XS.lrem hh hx hg hd hs hy (by rw [lrem_mod]; exact hr)
theorem own_aeq {a b : Addr} (h : a = b) : if_acmp.holds .eq (some a) (some b) = true ∧ if_acmp.holds .ne (some a) (some b) = false := by simp [if_acmp.holds, h]
theorem own_ane {a b : Addr} (h : ¬ a = b) : if_acmp.holds .eq (some a) (some b) = false ∧ if_acmp.holds .ne (some a) (some b) = true := by simp [if_acmp.holds, h]
end OwnKit
section OwnHeap
variable {p : Program} {l : Launch} {e : Env} {R : Room} {s : State} {m : MethodId} {args : Array Value} {below : List Frame} {meth : Method} {c : Code} {T : State} {cells slots : Nat} {Z : State} {a0 : Array Value} {h h' : Heap} {n0 : Nat} {G : State → Outcome → Prop} {a b : Addr} {ty : FieldType} {n j : Int32} {f : Int32 → Int32}
/-- an array of ints (bytes, chars, booleans, shorts): its length is n, its place i holds f i -/
def own_Arr (Z : State) (h : Heap) (a : Addr) (ty : FieldType) (n : Int32) (f : Int32 → Int32) : Prop :=
  ∃ cl : Cell, Arr Z h a cl ty ∧ cl.slots.size = n.toNatClampNeg ∧ ¬ n < 0 ∧ ∀ j : Int32, ¬ j < 0 → j < n → cl.slots[j.toNatClampNeg]? = some (.int (f j))
theorem own_Arr.lt (F : own_Arr Z h a ty n f) : a < h.size := by obtain ⟨_, A, -⟩ := F; exact A.lt
theorem own_Arr.ext (F : own_Arr Z h a ty n f) (E : Ext h h') : own_Arr Z h' a ty n f := by obtain ⟨c, A, r⟩ := F; exact ⟨c, A.ext E, r⟩
theorem own_Arr.other {sl : Nat} {v : Value} (F : own_Arr Z h b ty n f) (W : Wr h h' a sl v) (q : b ≠ a) : own_Arr Z h' b ty n f := by obtain ⟨c, A, r⟩ := F; exact ⟨c, A.other W q, r⟩
theorem own_Arr.keep {ws : List Addr} (F : own_Arr Z h a ty n f) (K : Keep h h' ws) (q : a ∉ ws) : own_Arr Z h' a ty n f := by obtain ⟨c, A, r⟩ := F; exact ⟨c, ⟨K.2.1 a c A.1 q, A.2⟩, r⟩
theorem own_Arr.nn (F : own_Arr Z h a ty n f) : ¬ n < 0 := by obtain ⟨_, -, -, q, -⟩ := F; exact q
theorem own_Arr.congr {f' : Int32 → Int32} (F : own_Arr Z h a ty n f) (q : ∀ i, ¬ i < 0 → i < n → f i = f' i) : own_Arr Z h a ty n f' := by
  obtain ⟨c, A, r1, r2, r3⟩ := F
  exact ⟨c, A, r1, r2, fun i hi hn => by rw [r3 i hi hn, q i hi hn]⟩
theorem own_same {i j : Int32} (hi : ¬ i < 0) (hj : ¬ j < 0) (e : i.toNatClampNeg = j.toNatClampNeg) : i = j := by
  apply Int32.toInt_inj.mp
  rw [nat_of hi, nat_of hj, e]
theorem own_Arr.set {v : Int32} (F : own_Arr Z h a ty n f) (hj : ¬ j < 0) (W : Wr h h' a j.toNatClampNeg (.int v)) : own_Arr Z h' a ty n (fun i => if i = j then v else f i) := by
  obtain ⟨c, A, r1, r2, r3⟩ := F
  refine ⟨c.setSlot j.toNatClampNeg (.int v), A.same W, by rw [sz_set]; exact r1, r2, fun i hi hn => ?_⟩
  have hin := inb_of r1 ⟨hi, hn⟩
  by_cases q : i = j
  · subst q
    show _ = some (Value.int (if i = i then v else f i))
    rw [get_hit hin rfl, if_pos rfl]
  · show _ = some (Value.int (if i = j then v else f i))
    rw [get_miss hj hi q, r3 i hi hn, if_neg q]
theorem own_newO (A : own_At p l e R s m args below meth c n0 T h cells slots) (hx : p.tables.exec = Jvm.exec) (hZ : Z.Warmed39 s.vm) {own C : String} {index k : Nat} (hown : s.vm.findClass own = some m.cls) (w : (Cond.classLink own index C).before a0 Z = true) (wi : (Cond.instantiable C k).before a0 Z = true) (wz : (Cond.initialized C).before a0 Z = true)
    {g : JFrame} (hg : g.method = m) (hd : decode c.code g.pc = .ok (.new index, 3)) (hc : cells + 1 ≤ R.cells) (hl : slots + k ≤ R.slots)
    (kk : ∀ T' h' a, a = h.size → own_At p l e R s m args below meth c n0 T' h' (cells + 1) (slots + k) → Ext h h' → Exa Z h' a C → (∀ {O nm d : String} {ty : FieldType}, Laid Z a0 C O nm d → parseFieldDescriptor d = some ty → Fld Z h' a O nm d (defaultValue ty)) → own_Go p.tables e below G (T'.setTop { g with pc := g.pc + 3, stack := .ref a :: g.stack })) : own_Go p.tables e below G (T.setTop g) := by
  obtain ⟨locs, X, eT, N⟩ := A
  obtain ⟨T1, h1, X1, e1, E1, A1, D1, -, st⟩ := newO X hx hZ hown w wi wz eT hg hd hc hl
  exact own_go st (kk T1 h1 h.size rfl ⟨_, X1, e1, N⟩ E1 A1 D1)
theorem own_newP (A : own_At p l e R s m args below meth c n0 T h cells slots) (hx : p.tables.exec = Jvm.exec) (hZ : Z.Warmed39 s.vm) {aty : ArrayType} (w : (Cond.arrayClass (newarray.typeOf aty)).before a0 Z = true) (hty : defaultValue (newarray.typeOf aty) = .int 0) {g : JFrame} (hg : g.method = m) (hd : decode c.code g.pc = .ok (.newarray aty, 2)) {rest : List Value} (hs : g.stack = .int n :: rest)
    (hn : ¬ n < 0) (cap : Nat) (hcap : n.toNatClampNeg ≤ cap) (hb : cap * 8 ≤ 536870912) (hc : cells + 1 ≤ R.cells) (hl : slots + cap ≤ R.slots)
    (kk : ∀ T' h' a, a = h.size → own_At p l e R s m args below meth c n0 T' h' (cells + 1) (slots + cap) → Ext h h' → own_Arr Z h' a (newarray.typeOf aty) n (fun _ => 0) → (∃ k, Arv Z h' a k (newarray.typeOf aty) n [] (.int 0)) → own_Go p.tables e below G (T'.setTop { g with pc := g.pc + 2, stack := .ref a :: rest })) : own_Go p.tables e below G (T.setTop g) := by
  obtain ⟨locs, X, eT, N⟩ := A
  obtain ⟨T1, h1, k1, X1, e1, E1, A1, st⟩ := newP X hx hZ w eT hg hd hs hn hcap hb hc hl
  refine own_go st (kk T1 h1 h.size rfl ⟨_, X1, e1, N⟩ E1 ⟨_, A1, sz_new _ _ _, hn, fun i hi hin => ?_⟩ ⟨k1, hty ▸ Arv.new A1 hn⟩)
  have q := inb_of (c := newA k1 (newarray.typeOf aty) n) (sz_new _ _ _) ⟨hi, hin⟩
  rw [sz_new] at q
  rw [get_new q, hty]
theorem own_putF (A : own_At p l e R s m args below meth c n0 T h cells slots) (hx : p.tables.exec = Jvm.exec) (hZ : Z.Warmed39 s.vm) {own R0 O nm d host C : String} {index kk : Nat} (hown : s.vm.findClass own = some m.cls) (w : (Cond.fieldLink own index R0 nm d).before a0 Z = true ∨ (Cond.fieldLinkNest own index R0 nm d host).before a0 Z = true) (via : Via Z R0 O nm d)
    {v old : Value} (F : Fld Z h a O nm d old) (E : Exa Z h a C) (L : (Cond.lays C O nm d).before a0 Z = true ∨ ((Cond.laysFinal C O nm d).before a0 Z = true ∧ own = O ∧ meth.name = "<init>")) (wi : (Cond.instantiable C kk).before a0 Z = true)
    (hty : parseFieldDescriptor d = some ty) (hn : narrow ty v = v) (hf : fits ty v = true) (q : n0 ≤ a) {g : JFrame} (hg : g.method = m) {rest : List Value} (hs : g.stack = v :: .ref a :: rest) (hd : decode c.code g.pc = .ok (.putfield index, 3))
    (k : ∀ T' h', own_At p l e R s m args below meth c n0 T' h' cells slots → Wr h h' a (Jvm.RoadKit.slotOf Z O nm d) v → own_Go p.tables e below G (T'.setTop { g with pc := g.pc + 3, stack := rest })) : own_Go p.tables e below G (T.setTop g) := by
  obtain ⟨locs, X, eT, N⟩ := A
  obtain ⟨T1, h1, X1, e1, W1, st⟩ := putF X hx hZ hown w via eT F E L wi hty hn hf hg hs hd
  exact own_go st (k T1 h1 ⟨_, X1, e1, Fr.snoc X1 N q⟩ W1)
theorem own_stI (A : own_At p l e R s m args below meth c n0 T h cells slots) (hx : p.tables.exec = Jvm.exec) (hZ : Z.Warmed39 s.vm) {v : Int32} (F : own_Arr Z h a .int n f) (hj : ¬ j < 0 ∧ j < n) (q : n0 ≤ a) {g : JFrame} (hg : g.method = m) {rest : List Value} (hs : g.stack = .int v :: .int j :: .ref a :: rest) (hd : decode c.code g.pc = .ok (.iastore, 1))
    (k : ∀ T' h', own_At p l e R s m args below meth c n0 T' h' cells slots → Wr h h' a j.toNatClampNeg (.int v) → own_Arr Z h' a .int n (fun i => if i = j then v else f i) → own_Go p.tables e below G (T'.setTop { g with pc := g.pc + 1, stack := rest })) : own_Go p.tables e below G (T.setTop g) := by
  obtain ⟨locs, X, eT, N⟩ := A
  obtain ⟨c1, A1, S1, M1, H1⟩ := id F
  obtain ⟨T1, h1, X1, e1, W1, st⟩ := stI X hx hZ eT A1 (inb_of S1 hj) hg hs hd
  exact own_go st (k T1 h1 ⟨_, X1, e1, Fr.snoc X1 N q⟩ W1 (F.set hj.1 W1))
theorem own_stB (A : own_At p l e R s m args below meth c n0 T h cells slots) (hx : p.tables.exec = Jvm.exec) (hZ : Z.Warmed39 s.vm) {v : Int32} (F : own_Arr Z h a .byte n f) (hj : ¬ j < 0 ∧ j < n) (q : n0 ≤ a) {g : JFrame} (hg : g.method = m) {rest : List Value} (hs : g.stack = .int v :: .int j :: .ref a :: rest) (hd : decode c.code g.pc = .ok (.bastore, 1))
    (k : ∀ T' h', own_At p l e R s m args below meth c n0 T' h' cells slots → Wr h h' a j.toNatClampNeg (.int (nar .byte v)) → own_Arr Z h' a .byte n (fun i => if i = j then nar .byte v else f i) → own_Go p.tables e below G (T'.setTop { g with pc := g.pc + 1, stack := rest })) : own_Go p.tables e below G (T.setTop g) := by
  obtain ⟨locs, X, eT, N⟩ := A
  obtain ⟨c1, A1, S1, M1, H1⟩ := id F
  obtain ⟨T1, h1, X1, e1, W1, st⟩ := stB X hx hZ eT A1 (inb_of S1 hj) hg hs hd
  exact own_go st (k T1 h1 ⟨_, X1, e1, Fr.snoc X1 N q⟩ W1 (F.set hj.1 W1))
theorem own_stC (A : own_At p l e R s m args below meth c n0 T h cells slots) (hx : p.tables.exec = Jvm.exec) (hZ : Z.Warmed39 s.vm) {v : Int32} (F : own_Arr Z h a .char n f) (hj : ¬ j < 0 ∧ j < n) (q : n0 ≤ a) {g : JFrame} (hg : g.method = m) {rest : List Value} (hs : g.stack = .int v :: .int j :: .ref a :: rest) (hd : decode c.code g.pc = .ok (.castore, 1))
    (k : ∀ T' h', own_At p l e R s m args below meth c n0 T' h' cells slots → Wr h h' a j.toNatClampNeg (.int (nar .char v)) → own_Arr Z h' a .char n (fun i => if i = j then nar .char v else f i) → own_Go p.tables e below G (T'.setTop { g with pc := g.pc + 1, stack := rest })) : own_Go p.tables e below G (T.setTop g) := by
  obtain ⟨locs, X, eT, N⟩ := A
  obtain ⟨c1, A1, S1, M1, H1⟩ := id F
  obtain ⟨T1, h1, X1, e1, W1, st⟩ := stC X hx hZ eT A1 (inb_of S1 hj) hg hs hd
  exact own_go st (k T1 h1 ⟨_, X1, e1, Fr.snoc X1 N q⟩ W1 (F.set hj.1 W1))
theorem own_ldI (A : own_At p l e R s m args below meth c n0 T h cells slots) (hx : p.tables.exec = Jvm.exec) (hZ : Z.Warmed39 s.vm) (F : own_Arr Z h a .int n f) (hj : ¬ j < 0 ∧ j < n) {g : JFrame} (hg : g.method = m) {rest : List Value} (hs : g.stack = .int j :: .ref a :: rest) (hd : decode c.code g.pc = .ok (.iaload, 1))
    (k : own_Go p.tables e below G (T.setTop { g with pc := g.pc + 1, stack := .int (f j) :: rest })) : own_Go p.tables e below G (T.setTop g) := by
  obtain ⟨locs, X, eT, N⟩ := A
  obtain ⟨c1, A1, S1, M1, H1⟩ := F
  exact own_go (fun t k => X.iaload hx (by rw [eT]; exact A1.1) (State.isArrayOf_alike hZ.alike A1.2.1) A1.2.2 (inb_of S1 hj) (H1 j hj.1 hj.2) hg hs hd t k) k
theorem own_ldB (A : own_At p l e R s m args below meth c n0 T h cells slots) (hx : p.tables.exec = Jvm.exec) (hZ : Z.Warmed39 s.vm) (F : own_Arr Z h a .byte n f) (hj : ¬ j < 0 ∧ j < n) {g : JFrame} (hg : g.method = m) {rest : List Value} (hs : g.stack = .int j :: .ref a :: rest) (hd : decode c.code g.pc = .ok (.baload, 1))
    (k : own_Go p.tables e below G (T.setTop { g with pc := g.pc + 1, stack := .int (f j) :: rest })) : own_Go p.tables e below G (T.setTop g) := by
  obtain ⟨locs, X, eT, N⟩ := A
  obtain ⟨c1, A1, S1, M1, H1⟩ := F
  exact own_go (fun t k => X.baloadBytes hx (by rw [eT]; exact A1.1) (State.isArrayOf_alike hZ.alike A1.2.1) A1.2.2 (inb_of S1 hj) (H1 j hj.1 hj.2) hg hs hd t k) k
theorem own_ldC (A : own_At p l e R s m args below meth c n0 T h cells slots) (hx : p.tables.exec = Jvm.exec) (hZ : Z.Warmed39 s.vm) (F : own_Arr Z h a .char n f) (hj : ¬ j < 0 ∧ j < n) {g : JFrame} (hg : g.method = m) {rest : List Value} (hs : g.stack = .int j :: .ref a :: rest) (hd : decode c.code g.pc = .ok (.caload, 1))
    (k : own_Go p.tables e below G (T.setTop { g with pc := g.pc + 1, stack := .int (f j) :: rest })) : own_Go p.tables e below G (T.setTop g) := by
  obtain ⟨locs, X, eT, N⟩ := A
  obtain ⟨c1, A1, S1, M1, H1⟩ := F
  exact own_go (fun t k => X.caload hx (by rw [eT]; exact A1.1) (State.isArrayOf_alike hZ.alike A1.2.1) A1.2.2 (inb_of S1 hj) (H1 j hj.1 hj.2) hg hs hd t k) k
theorem own_len (A : own_At p l e R s m args below meth c n0 T h cells slots) (hx : p.tables.exec = Jvm.exec) (hZ : Z.Warmed39 s.vm) (F : own_Arr Z h a ty n f) {g : JFrame} (hg : g.method = m) {rest : List Value} (hs : g.stack = .ref a :: rest) (hd : decode c.code g.pc = .ok (.arraylength, 1))
    (k : own_Go p.tables e below G (T.setTop { g with pc := g.pc + 1, stack := .int n :: rest })) : own_Go p.tables e below G (T.setTop g) := by
  obtain ⟨locs, X, eT, N⟩ := A
  obtain ⟨c1, A1, S1, M1, H1⟩ := F
  rw [← len_of S1 M1] at k
  exact own_go (fun t k => X.arraylength hx (by rw [eT]; exact A1.1) (State.isArrayOf_alike hZ.alike A1.2.1) hg hs hd t k) k
end OwnHeap
/-! small naturals as ints -/
theorem own_nI {i : Nat} (hi : i < 2 ^ 31) : (Int32.ofNat i).toInt = (i : Int) := Int32.toInt_ofNat_small hi
theorem own_nlt {i j : Nat} (hi : i < 2 ^ 31) (hj : j < 2 ^ 31) : (Int32.ofNat i < Int32.ofNat j) ↔ i < j := by rw [Int32.lt_iff_toInt_lt, own_nI hi, own_nI hj]; omega
theorem own_nn {i : Nat} (hi : i < 2 ^ 31) : ¬ Int32.ofNat i < 0 := by rw [Int32.lt_iff_toInt_lt, own_nI hi]; have : (0 : Int32).toInt = 0 := rfl; omega
theorem own_neq {i j : Nat} (hi : i < 2 ^ 31) (hj : j < 2 ^ 31) : (Int32.ofNat i = Int32.ofNat j) ↔ i = j := by rw [← Int32.toInt_inj, own_nI hi, own_nI hj]; omega
theorem own_nadd (i j : Nat) : Int32.ofNat i + Int32.ofNat j = Int32.ofNat (i + j) := (Int32.ofNat_add i j).symm
theorem own_nmul (i j : Nat) : Int32.ofNat i * Int32.ofNat j = Int32.ofNat (i * j) := (Int32.ofNat_mul i j).symm
theorem own_succ (i : Nat) : Int32.ofNat i + (1 : Int32) = Int32.ofNat (i + 1) := own_nadd i 1
theorem own_dbl (i : Nat) : (2 : Int32) * Int32.ofNat i = Int32.ofNat (2 * i) := own_nmul 2 i
theorem own_prd (i : Nat) : Int32.ofNat (i + 1) + (-1 : Int32) = Int32.ofNat i := by rw [← own_succ, Int32.add_assoc]; show Int32.ofNat i + 0 = _; rw [Int32.add_zero]
theorem own_sub1 (i : Nat) : Int32.ofNat (i + 1) - (1 : Int32) = Int32.ofNat i := by rw [← own_succ, Int32.add_sub_cancel]
theorem own_nge {i j : Nat} (hi : i < 2 ^ 31) (hj : j < 2 ^ 31) (h : ¬ Int32.ofNat i < Int32.ofNat j) : j ≤ i := Nat.le_of_not_lt fun z => h ((own_nlt hi hj).mpr z)
section OwnSta
variable {s : State} {args : Array Value} {t : Term} {a : Addr} {C n d K : String} {w : Value}
theorem own_eqV {x y : Term} (hh : (Cond.eq x y).value args s none s [] = some true) (hy : y.eval args s none [] s = some w) : x.eval args s none [] s = some w := by
  cases hx : x.eval args s none [] s with
  | none => simp [Cond.value, hx] at hh
  | some v => cases v <;> cases w <;> simp [Cond.value, hx, hy] at hh ⊢ <;> exact hh
theorem own_sta (hh : (Cond.exactly (Term.static C n d) K).value args s none s [] = some true) (w1 : (Cond.initialized C).before args s = true) (w2 : (Cond.laysStatic C n d).before args s = true) :
    ∃ a, Sta s s.heap C n d (.ref a) ∧ Exa s s.heap a K ∧ (Term.static C n d).eval args s none [] s = some (.ref a) := by
  obtain ⟨a, ev⟩ := exa_v hh
  exact ⟨a, Sta.start ev (Or.inr ⟨w1, w2⟩), Exa.start ev hh, ev⟩
theorem own_fldS {y : Term} (hh : (Cond.eq (Term.field t C n d) y).value args s none s [] = some true) (ev : t.eval args s none [] s = some (.ref a)) (hy : y.eval args s none [] s = some w) : Fld s s.heap a C n d w := by
  have q := own_eqV hh hy
  rw [fld_at ev] at q
  exact Fld.start q
theorem own_baloadZ {p : Program} {l : Launch} {e : Env} {R : Room} {m : MethodId} {below : List Frame} {meth : Method} {c : Code} {T : State} {cells slots : Nat} {Z : State} {h : Heap} {n0 : Nat} {G : State → Outcome → Prop} (A : own_At p l e R s m args below meth c n0 T h cells slots) (hx : p.tables.exec = Jvm.exec) (hZ : Z.Warmed39 s.vm) {cl : Cell} {z j : Int32} (F : Tab Z h a cl .boolean z) (hj : ¬ j < 0 ∧ j < z) {g : JFrame} (hg : g.method = m) {rest : List Value} (hs : g.stack = .int j :: .ref a :: rest) (hd : decode c.code g.pc = .ok (.baload, 1))
    (k : own_Go p.tables e below G (T.setTop { g with pc := g.pc + 1, stack := .int (atv cl j) :: rest })) : own_Go p.tables e below G (T.setTop g) := by
  obtain ⟨locs, X, eT, N⟩ := A
  obtain ⟨A1, S1, -, H1⟩ := F
  have hin := inb_of S1 hj
  exact own_go (fun t k => X.baloadBooleans hx (by rw [eT]; exact A1.1) (State.isArrayOf_alike hZ.alike A1.2.1) A1.2.2 hin (H1 j hin) hg hs hd t k) k
end OwnSta
section OwnTab
variable {s : State} {args : Array Value} {t : Term} {w : Addr} {cl : Cell} {z lo hi v i : Int32}
theorem own_lenI (h : (Cond.eq (Term.length t) (Term.int z)).value args s none s [] = some true) (ev : t.eval args s none [] s = some (.ref w)) (hat : s.arrayAt? w = some cl) : cl.slots.size < 2 ^ 31 ∧ cl.slots.size.toInt32 = z := by
  have q := own_eqV h (Term.int_eval z)
  by_cases hl : cl.slots.size < 2 ^ 31
  · rw [len_f ev hat hl] at q
    exact ⟨hl, Value.int.inj (Option.some.inj q)⟩
  · simp [Term.eval, ev, hat, hl] at q
theorem own_allR (hat : s.arrayAt? w = some cl) (evI : ∀ idx, t.eval args s none idx s = some (.ref w)) (TB : Tab s s.heap w cl .boolean z) (h : (Cond.all t (Cond.or (Cond.lt (Term.index 0) (Term.int lo)) (Cond.or (Cond.le (Term.int hi) (Term.index 0)) (Cond.eq (Term.elem t (Term.index 0)) (Term.int v))))).value args s none s [] = some true) (j : Int32) (h0 : ¬ j < 0) (h1 : j < z) : j < lo ∨ ¬ j < hi ∨ atv cl j = v := by
  have hin := inb_of TB.2.1 ⟨h0, h1⟩
  have q := Cond.all_elim (evI []) hat h j.toNatClampNeg (Nat.lt_of_not_le fun y => hin (Or.inr y))
  exact or3 q (Cond.lt_ints (idx_at h0) (Term.int_eval lo)) (Cond.le_ints (Term.int_eval hi) (idx_at h0)) (Cond.eq_ints ((elem_f (evI _) (idx_at h0) hat h0).trans (TB.2.2.2 j hin)) (Term.int_eval v))
theorem own_allL (hat : s.arrayAt? w = some cl) (evI : ∀ idx, t.eval args s none idx s = some (.ref w)) (TB : Tab s s.heap w cl .boolean z) (h : (Cond.all t (Cond.or (Cond.le (Term.int hi) (Term.index 0)) (Cond.eq (Term.elem t (Term.index 0)) (Term.int v)))).value args s none s [] = some true) (j : Int32) (h0 : ¬ j < 0) (h1 : j < z) : hi ≤ j ∨ atv cl j = v := by
  have hin := inb_of TB.2.1 ⟨h0, h1⟩
  have q := Cond.all_elim (evI []) hat h j.toNatClampNeg (Nat.lt_of_not_le fun y => hin (Or.inr y))
  exact or_e2 (Cond.le_ints (Term.int_eval hi) (idx_at h0)) (Cond.eq_ints ((elem_f (evI _) (idx_at h0) hat h0).trans (TB.2.2.2 j hin)) (Term.int_eval v)) q
theorem own_allG (hat : s.arrayAt? w = some cl) (evI : ∀ idx, t.eval args s none idx s = some (.ref w)) (TB : Tab s s.heap w cl .boolean z) (h : (Cond.all t (Cond.or (Cond.lt (Term.index 0) (Term.int lo)) (Cond.eq (Term.elem t (Term.index 0)) (Term.int v)))).value args s none s [] = some true) (j : Int32) (h0 : ¬ j < 0) (h1 : j < z) : j < lo ∨ atv cl j = v := by
  have hin := inb_of TB.2.1 ⟨h0, h1⟩
  have q := Cond.all_elim (evI []) hat h j.toNatClampNeg (Nat.lt_of_not_le fun y => hin (Or.inr y))
  exact or_e2 (Cond.lt_ints (idx_at h0) (Term.int_eval lo)) (Cond.eq_ints ((elem_f (evI _) (idx_at h0) hat h0).trans (TB.2.2.2 j hin)) (Term.int_eval v)) q
theorem own_elt (evI : ∀ idx, t.eval args s none idx s = some (.ref w)) (hc : s.heap[w]? = some cl) (h : (Cond.eq (Term.elem t (Term.int i)) (Term.int v)).value args s none s [] = some true) : atv cl i = v :=
  atv_of (elem_in (own_eqV h (Term.int_eval v)) (evI []) (Term.int_eval i) hc).2
end OwnTab
section OwnW
variable {p : Program} {l : Launch} {e : Env} {R : Room} {s : State} {m : MethodId} {args : Array Value} {below : List Frame} {meth : Method} {c : Code} {T : State} {cells slots : Nat} {Z : State} {a0 : Array Value} {h : Heap} {n0 : Nat} {G : State → Outcome → Prop} {Q : Option Value → Heap → Prop} {vm0 : Vm} {k0 kc ks : Nat} {Ts : List String}
/-- the end of a body that may have interned -/
def own_EndW (n0 : Nat) (s : State) (kc ks : Nat) (Q : Option Value → Heap → Prop) : State → Outcome → Prop := fun s₂ o => ∃ v L, o = .returned v ∧ (Q v s₂.heap ∧ Fr n0 L) ∧ ReturnedEndW s o s₂ L kc ks
theorem own_leaveW (A : own_At p l e R (s.setVm vm0) m args below meth c n0 T h cells slots) (hS : s.Since vm0 k0) (hk : k0 ≤ h.size) {v : Option Value} (hv : meth.sig.returnType = none → v = none) (hlk : meth.locks = false) (hc : cells ≤ kc) (hs : slots ≤ ks) (q : Q v h) {U : State}
    (st : ∀ locs, Stand p l e R (s.setVm vm0) m args below meth c T locs cells slots → ∀ fs, (∀ (f : JFrame) (acts : List Action), f.method = m → f.locked = none → f.entered = [] → (doReturn e (T.setTop f) acts v).1 = T.setFrames fs) → Steps p.tables e below U (T.setFrames fs)) : own_Go p.tables e below (own_EndW n0 s kc ks Q) U := by
  obtain ⟨locs, X, rfl, N⟩ := A
  obtain ⟨fs, hr, hrun, hended, e1, e2, e3, e4⟩ := X.leaveW hS hk hv hlk
  exact ⟨_, _, st locs X fs hr, hrun, hended, _, _, rfl, ⟨q, N⟩, e1, e2, e3, e4.mono hc hs⟩
theorem own_retNW (A : own_At p l e R (s.setVm vm0) m args below meth c n0 T h cells slots) (hx : p.tables.exec = Jvm.exec) {t : FieldType} (hret : meth.sig.returnType = some t) (ht : t = .boolean ∨ t = .byte ∨ t = .char ∨ t = .short) (hlk : meth.locks = false) (hc : cells ≤ kc) (hs : slots ≤ ks) (hS : s.Since vm0 k0) (hk : k0 ≤ h.size) {pc : Nat} {Ls : Array Slot} {z : Int32} {rest : List Value} (hd : decode c.code pc = .ok (.ireturn, 1)) (q : Q (some (.int (nar t z))) h) :
    own_Go p.tables e below (own_EndW n0 s kc ks Q) (T.setTop (mkF m pc Ls (.int z :: rest))) :=
  own_leaveW A hS hk (fun q => by rw [hret] at q; cases q) hlk hc hs q fun _ X _ hr => retN X hx hret ht hd hr
/-- a contract of a body that may intern: Ts are the texts that the run has loaded before -/
def own_MetW (l : Launch) (Z : State) (n0 : Nat) (y : MethodName) (bytes : ByteArray) (maxL : Nat) (ret : Option FieldType) (rm : Room) (as' : Array Value) (h0 : Heap) (Ts : List String) (Q : Option Value → Heap → Prop) : Prop :=
  ∀ ws, MetFree l y (head1 (Cond.code y bytes maxL ret :: ws) rm) (fun a U => a = as' ∧ Z.Warmed39 U.vm ∧ U.heap = h0 ∧ IB Z U.vm Ts) (fun _ _ _ _ _ => True) (fun _ U o U' => ∃ v L, o = .returned v ∧ (Q v U'.heap ∧ Fr n0 L) ∧ ReturnedEndW U o U' L rm.cells rm.slots)
theorem own_metW {y : MethodName} {bytes : ByteArray} {maxL : Nat} {ret : Option FieldType} {rm : Room} {as' : Array Value} {h0 : Heap} (hp : plainFor y = true)
    (body : ∀ (p : Program) (e : Env) (s : State) (m : MethodId) (below : List Frame) (meth : Method) (c : Code) (T : State), p.tables.exec = Jvm.exec → c.code = bytes → c.maxLocals = maxL → (s.setVm s.vm).vm.findClass y.cls = some m.cls → meth.name = y.name → meth.sig.returnType = ret → meth.locks = false → Z.Warmed39 (s.setVm s.vm).vm →
      own_At p l e rm (s.setVm s.vm) m as' below meth c n0 T h0 0 0 → s.heap = h0 → s.Since s.vm 0 → IB Z s.vm Ts → own_Go p.tables e below (own_EndW n0 s rm.cells rm.slots Q) (T.setTop (entryFrame m as' maxL))) : own_MetW l Z n0 y bytes maxL ret rm as' h0 Ts Q := by
  intro ws
  refine MetFree.of_bodySF hp hisR ?_
  intro p e s m args below meth c s₁ Bd hml0 hP hK
  obtain ⟨rfl, hZ, hh, hI⟩ := hP
  exact body p e s m below meth c s₁ Bd.exec Bd.bytes hml0 (findClass_of_methodNamed Bd.named) (name_of_methodNamed Bd.named Bd.method).1 Bd.returns Bd.notSynchronized hZ ⟨[], Stand.of_body Bd, by rw [← hh, Bd.state]; rfl, Fr.nil n0⟩ hh ((State.WarmedH.refl s).since 0) hI
theorem own_Arr.ofL {b : Addr} {ty : FieldType} {k : ClassId} {z : Int32} {xs : List Int32} {d : Value} (V : Arv Z h b k ty z (xs.map Value.int) d) (hl : z.toNatClampNeg = xs.length) : own_Arr Z h b ty z (fun j => xs.getD j.toNatClampNeg 0) := by
  obtain ⟨cl, A, -, S, M, H, -⟩ := V
  refine ⟨cl, A, S, M, fun j h0 h1 => ?_⟩
  have hj : j.toNatClampNeg < cl.slots.size := by
    have q := inb_of S ⟨h0, h1⟩
    exact Nat.lt_of_not_le fun z => q (Or.inr z)
  have q := H j.toNatClampNeg hj
  show _ = some (Value.int (xs.getD j.toNatClampNeg 0))
  rw [q, List.getD_eq_getElem?_getD, List.getElem?_map, List.getD_eq_getElem?_getD]
  rw [S, hl] at hj
  rw [List.getElem?_eq_getElem hj]
  rfl
/-- ldc of a String constant, cold or warm: what lies behind it -/
theorem own_ldcV (A : own_At p l e R (s.setVm vm0) m args below meth c n0 T h cells slots) (hx : p.tables.exec = Jvm.exec) (hZ : Z.Warmed39 (s.setVm vm0).vm) {own text : String} {index : Nat} (hown : (s.setVm vm0).vm.findClass own = some m.cls) (w : (Cond.stringLink own index text).before a0 Z = true) (wS : ∀ a ∈ Bundle.stringAtoms, a.before a0 Z = true)
    (hS : s.Since vm0 k0) (hk : k0 ≤ h.size) (hn0 : s.heap.size ≤ n0) (hkeep : ∀ (b : Addr) (cl : Cell), Z.heap[b]? = some cl → s.heap[b]? = some cl) (I : IB Z vm0 Ts) (hnot : text ∉ Ts) (hh : Jvm.Lit.constHeld Z own index) (hcw : Jvm.Lit.compactW.before a0 Z = true)
    {xs : List Int32} {z : Int32} (ht : (∀ c ∈ text.toList, c.toNat < 256) ∧ text.toList.map (fun c => Value.int (Jvm.Lit.byteI c.toNat.toUInt16)) = xs.map Value.int) (hz : ¬ z < 0) (hl : z.toNatClampNeg = xs.length)
    {g : JFrame} (hg : g.method = m) (hd : decode c.code g.pc = .ok (.ldc index, 2)) (n : Nat) (hn : 4 * text.toList.length ≤ n) (hbig : n ≤ 536870912) (hc : cells + 2 ≤ R.cells) (hl' : slots + (n + 4) ≤ R.slots)
    (k : ∀ T' h' a b vm1 k1, own_At p l e R (s.setVm vm1) m args below meth c n0 T' h' (cells + 2) (slots + (n + 4)) → Ext h h' → s.Since vm1 k1 → k1 ≤ h'.size → Z.Warmed39 (s.setVm vm1).vm → (s.setVm vm1).vm.findClass own = some m.cls → IB Z vm1 (text :: Ts) →
      Exa Z h' a "java/lang/String" → Fld Z h' a "java/lang/String" "coder" "B" (.int 0) → Fld Z h' a "java/lang/String" "value" "[B" (.ref b) → own_Arr Z h' b .byte z (fun j => xs.getD j.toNatClampNeg 0) → own_Go p.tables e below G (T'.setTop { g with pc := g.pc + 2, stack := .ref a :: g.stack })) : own_Go p.tables e below G (T.setTop g) := by
  obtain ⟨locs, X, eT, N⟩ := A
  obtain ⟨a, T', h', k1, b, kk, r1, r2, r3, r4, r5, r6, r7, r8, r9, r10, r11, r12, r13, r14, r15⟩ := ldcSV X hx hZ hown w wS eT hS hk (fun y hy => Nat.le_trans hn0 (N y hy)) hkeep I hnot hh hcw ht hz (by rw [List.length_map]; exact hl) hg hd hn hbig hc hl'
  exact own_go r15 (k T' h' a b T'.vm k1 ⟨_, r1, r2, N⟩ r3 r4 r5 r6 r7 r14 r8 r9 r10 (own_Arr.ofL r11 hl))
end OwnW
section OwnStr
variable {p : Program} {l : Launch} {e : Env} {R : Room} {s : State} {args : Array Value} {below : List Frame} {Z : State} {a0 : Array Value} {h h' : Heap} {n0 : Nat} {a b x : Addr} {ty : FieldType} {N : Int32} {f : Int32 → Int32}
theorem own_ofN {j : Int32} (hj : ¬ j < 0) : Int32.ofNat j.toNatClampNeg = j := (back32 hj).1
theorem own_toN {k : Nat} (hk : k < 2 ^ 31) : (Int32.ofNat k).toNatClampNeg = k := by
  rw [Int32.toNatClampNeg, own_nI hk]
  exact Int.toNat_natCast _
def own_lst (f : Int32 → Int32) (n : Nat) : List Int32 := (List.range n).map fun i => f (Int32.ofNat i)
theorem own_lst_len (f : Int32 → Int32) (n : Nat) : (own_lst f n).length = n := by simp [own_lst]
theorem own_lst_at (f : Int32 → Int32) (n k : Nat) (hk : k < n) (g : Int32 → Value) (d : Value) : ((own_lst f n).map g).getD k d = g (f (Int32.ofNat k)) := by
  rw [List.getD_eq_getElem?_getD, own_lst, List.map_map, List.getElem?_map, List.getElem?_range hk]
  rfl
theorem own_lst_mem (f : Int32 → Int32) (n : Nat) {c : Int32} (hc : c ∈ own_lst f n) : ∃ k, k < n ∧ c = f (Int32.ofNat k) := by
  obtain ⟨k, hk, e⟩ := List.mem_map.mp hc
  exact ⟨k, List.mem_range.mp hk, e.symm⟩
theorem own_Arr.arv {n : Nat} (F : own_Arr Z h a ty (Int32.ofNat n) f) (hn : n < 2 ^ 31) (hf : ∀ k, k < n → fits ty (.int (f (Int32.ofNat k))) = true) : ∃ k, Arv Z h a k ty (Int32.ofNat n) ((own_lst f n).map Value.int) (.int 0) := by
  obtain ⟨cl, A, S, M, H⟩ := F
  have S' : cl.slots.size = n := by rw [S, own_toN hn]
  refine ⟨cl.cls, cl, A, rfl, S, M, fun k hk => ?_, fun k hk => ?_⟩
  · have q := H (Int32.ofNat k) (own_nn (by omega)) ((own_nlt (by omega) hn).mpr (by omega))
    rw [own_toN (by omega)] at q
    rw [q, own_lst_at f n k (by omega)]
  · rw [own_lst_at f n k (by omega)]
    exact hf k (by omega)
theorem own_Arr.ofArv {n : Nat} {k : ClassId} {g : Int32 → Int32} {d : Value} (V : Arv Z h a k ty (Int32.ofNat n) (((own_lst f n).map g).map Value.int) d) (hn : n < 2 ^ 31) : own_Arr Z h a ty (Int32.ofNat n) (fun j => g (f j)) := by
  obtain ⟨cl, A, -, S, M, H, -⟩ := V
  refine ⟨cl, A, S, M, fun j h0 h1 => ?_⟩
  have hj : j.toNatClampNeg < n := by
    have q := inb_of S ⟨h0, h1⟩
    rw [S, own_toN hn] at q
    exact Nat.lt_of_not_le fun z => q (Or.inr z)
  have q := H j.toNatClampNeg (by rw [S, own_toN hn]; exact hj)
  rw [List.map_map, own_lst_at f n _ hj] at q
  rw [q, own_ofN h0]
  rfl
theorem own_fitC {z : Int32} (h0 : ¬ z < 0) (h1 : ¬ (255 : Int32) < z) : fits .char (.int z) = true := by
  have e1 : (255 : Int32).toInt = 255 := rfl
  have e0 : (0 : Int32).toInt = 0 := rfl
  have e2 : (65535 : Int32).toInt = 65535 := rfl
  rw [Int32.lt_iff_toInt_lt] at h0 h1
  simp only [fits, Bool.and_eq_true, decide_eq_true_eq]
  exact ⟨Int32.le_iff_toInt_le.mpr (by omega), Int32.le_iff_toInt_le.mpr (by omega)⟩
end OwnStr
section OwnRef
variable {p : Program} {l : Launch} {e : Env} {R : Room} {s : State} {m : MethodId} {args : Array Value} {below : List Frame} {meth : Method} {c : Code} {T : State} {cells slots : Nat} {Z : State} {a0 : Array Value} {h h' : Heap} {n0 : Nat} {G : State → Outcome → Prop} {a b : Addr} {n j : Int32} {f : Int32 → Int32} {C : String}
/-- an array of references to objects of C: its length alone is told -/
def own_ArrR (Z : State) (h : Heap) (a : Addr) (C : String) (n : Int32) : Prop := ∃ cl : Cell, Arr Z h a cl (.object C) ∧ cl.slots.size = n.toNatClampNeg ∧ ¬ n < 0 ∧ Ovr Z cl.cls C
theorem own_ArrR.lt (F : own_ArrR Z h a C n) : a < h.size := by obtain ⟨_, A, -⟩ := F; exact A.lt
theorem own_ArrR.ext (F : own_ArrR Z h a C n) (E : Ext h h') : own_ArrR Z h' a C n := by obtain ⟨c, A, r⟩ := F; exact ⟨c, A.ext E, r⟩
theorem own_ArrR.other {sl : Nat} {v : Value} (F : own_ArrR Z h b C n) (W : Wr h h' a sl v) (q : b ≠ a) : own_ArrR Z h' b C n := by obtain ⟨c, A, r⟩ := F; exact ⟨c, A.other W q, r⟩
theorem own_ArrR.keep {ws : List Addr} (F : own_ArrR Z h a C n) (K : Keep h h' ws) (q : a ∉ ws) : own_ArrR Z h' a C n := by obtain ⟨c, A, r⟩ := F; exact ⟨c, ⟨K.2.1 a c A.1 q, A.2⟩, r⟩
theorem own_newR (A : own_At p l e R s m args below meth c n0 T h cells slots) (hx : p.tables.exec = Jvm.exec) (hZ : Z.Warmed39 s.vm) {own : String} {index : Nat} (hown : s.vm.findClass own = some m.cls) (w1 : (Cond.classLink own index C).before a0 Z = true) (w2 : (Cond.arrayOver (.object C)).before a0 Z = true)
    {g : JFrame} (hg : g.method = m) (hd : decode c.code g.pc = .ok (.anewarray index, 3)) {rest : List Value} (hs : g.stack = .int n :: rest) (hn : ¬ n < 0) (cap : Nat) (hcap : n.toNatClampNeg ≤ cap) (hb : cap * 8 ≤ 536870912) (hc : cells + 1 ≤ R.cells) (hl : slots + cap ≤ R.slots)
    (kk : ∀ T' h' a, a = h.size → own_At p l e R s m args below meth c n0 T' h' (cells + 1) (slots + cap) → Ext h h' → own_ArrR Z h' a C n → own_Go p.tables e below G (T'.setTop { g with pc := g.pc + 3, stack := .ref a :: rest })) : own_Go p.tables e below G (T.setTop g) := by
  obtain ⟨locs, X, eT, N⟩ := A
  obtain ⟨T1, h1, k1, X1, e1, E1, A1, O1, st⟩ := newR X hx hZ hown w1 w2 eT hg hd hs hn hcap hb hc hl
  exact own_go st (kk T1 h1 h.size rfl ⟨_, X1, e1, N⟩ E1 ⟨_, A1, sz_new _ _ _, hn, O1⟩)
theorem own_stR (A : own_At p l e R s m args below meth c n0 T h cells slots) (hx : p.tables.exec = Jvm.exec) (hZ : Z.Warmed39 s.vm) (F : own_ArrR Z h a C n) (hj : ¬ j < 0 ∧ j < n) (I : Ins Z h b C true) (q : n0 ≤ a) {g : JFrame} (hg : g.method = m) {rest : List Value} (hs : g.stack = .ref b :: .int j :: .ref a :: rest) (hd : decode c.code g.pc = .ok (.aastore, 1))
    (k : ∀ T' h', own_At p l e R s m args below meth c n0 T' h' cells slots → Wr h h' a j.toNatClampNeg (.ref b) → own_ArrR Z h' a C n → own_Go p.tables e below G (T'.setTop { g with pc := g.pc + 1, stack := rest })) : own_Go p.tables e below G (T.setTop g) := by
  obtain ⟨locs, X, eT, N⟩ := A
  obtain ⟨c1, A1, S1, M1, O1⟩ := id F
  obtain ⟨T1, h1, X1, e1, W1, st⟩ := stR X hx hZ eT A1 (inb_of S1 hj) rfl (Sto.of A1 O1 I) hg hs hd
  exact own_go st (k T1 h1 ⟨_, X1, e1, Fr.snoc X1 N q⟩ W1 ⟨_, A1.same W1, by rw [sz_set]; exact S1, M1, O1⟩)
theorem own_lenR (A : own_At p l e R s m args below meth c n0 T h cells slots) (hx : p.tables.exec = Jvm.exec) (hZ : Z.Warmed39 s.vm) (F : own_ArrR Z h a C n) {g : JFrame} (hg : g.method = m) {rest : List Value} (hs : g.stack = .ref a :: rest) (hd : decode c.code g.pc = .ok (.arraylength, 1))
    (k : own_Go p.tables e below G (T.setTop { g with pc := g.pc + 1, stack := .int n :: rest })) : own_Go p.tables e below G (T.setTop g) := by
  obtain ⟨locs, X, eT, N⟩ := A
  obtain ⟨c1, A1, S1, M1, H1⟩ := F
  rw [← len_of S1 M1] at k
  exact own_go (fun t k => X.arraylength hx (by rw [eT]; exact A1.1) (State.isArrayOf_alike hZ.alike A1.2.1) hg hs hd t k) k
theorem own_cast (A : own_At p l e R s m args below meth c n0 T h cells slots) (hx : p.tables.exec = Jvm.exec) (hZ : Z.Warmed39 s.vm) {own K : String} {index : Nat} (hown : s.vm.findClass own = some m.cls) (w : (Cond.classLink own index K).before a0 Z = true) (F : Ins Z h a K true)
    {g : JFrame} (hg : g.method = m) {rest : List Value} (hs : g.stack = .ref a :: rest) (hd : decode c.code g.pc = .ok (.checkcast index, 3))
    (k : ∀ T', own_At p l e R s m args below meth c n0 T' h cells slots → own_Go p.tables e below G (T'.setTop { g with pc := g.pc + 3 })) : own_Go p.tables e below G (T.setTop g) := by
  obtain ⟨locs, X, eT, N⟩ := A
  obtain ⟨T1, X1, e1, st⟩ := castY X hx hZ hown w eT F hg hs hd
  exact own_go st (k T1 ⟨_, X1, e1, N⟩)
theorem own_cloneB (A : own_At p l e R s m args below meth c n0 T h cells slots) (hx : p.tables.exec = Jvm.exec) (hZ : Z.Warmed39 s.vm) {own : String} {index : Nat} (hown : s.vm.findClass own = some m.cls)
    (w1 : (Cond.methodLink own index ⟨"[B", "clone", "()Ljava/lang/Object;"⟩).before a0 Z = true) (w2 : (Cond.sameMethod "[B" "java/lang/Object" "clone" "()Ljava/lang/Object;").before a0 Z = true) (w3 : (Cond.native ⟨"java/lang/Object", "clone", "()Ljava/lang/Object;"⟩).before a0 Z = true)
    (w4 : (Cond.instanceMethod ⟨"java/lang/Object", "clone", "()Ljava/lang/Object;"⟩).before a0 Z = true) (w5 : (Cond.selects "[B" ⟨"[B", "clone", "()Ljava/lang/Object;"⟩ ⟨"java/lang/Object", "clone", "()Ljava/lang/Object;"⟩).before a0 Z = true) (w6 : (Cond.castable "[B" "java/lang/Cloneable").before a0 Z = true)
    (F : own_Arr Z h a .byte n f) (E : Exa Z h a "[B") (hfit : ∀ j, ¬ j < 0 → j < n → fits .byte (.int (f j)) = true) {g : JFrame} (hg : g.method = m) (hsize : g.locals.size = c.maxLocals) {rest : List Value} (hs : g.stack = .ref a :: rest) (hd : decode c.code g.pc = .ok (.invokevirtual index, 3))
    (hf : 1 ≤ R.frames) (W : Nat) (hW : 2 * g.monitorRoom + (rest.map fun v => v.category).sum ≤ W) (hl : W + 14 ≤ R.locals) (cap : Nat) (hcap : n.toNatClampNeg ≤ cap) (hc : cells + 1 ≤ R.cells) (hsl : slots + cap ≤ R.slots)
    (k : ∀ T' h' b, b = h.size → own_At p l e R s m args below meth c n0 T' h' (cells + 1) (slots + cap) → Ext h h' → own_Arr Z h' b .byte n f → Exa Z h' b "[B" → own_Go p.tables e below G (T'.setTop { g with pc := g.pc + 3, stack := .ref b :: rest })) : own_Go p.tables e below G (T.setTop g) := by
  obtain ⟨locs, X, eT, N⟩ := A
  obtain ⟨c1, A1, S1, M1, H1⟩ := F
  have hn31 : n.toNatClampNeg < 2 ^ 31 := by rw [Int32.toNatClampNeg]; have := rng32 n; omega
  have FC : FitC Z c1 := fitC_of A1 fun i hi v hv => by
    rw [S1] at hi
    have e1 : (Int32.ofNat i).toNatClampNeg = i := own_toN (by omega)
    have e2 : Int32.ofNat n.toNatClampNeg = n := own_ofN M1
    have q := H1 (Int32.ofNat i) (own_nn (by omega)) (by rw [← e2]; exact (own_nlt (by omega) hn31).mpr hi)
    rw [e1] at q
    cases q.symm.trans hv
    exact hfit _ (own_nn (by omega)) (by rw [← e2]; exact (own_nlt (by omega) hn31).mpr hi)
  obtain ⟨T1, h1, X1, e1, E1, B1, Y1, st⟩ := cloneA X hx hZ hown w1 w2 w3 w4 w5 w6 eT A1 E FC hg hsize hs hd hf hW hl (cap := cap) (by rw [S1]; exact hcap) hc hsl
  exact own_go st (k T1 h1 h.size rfl ⟨_, X1, e1, N⟩ E1 ⟨_, B1, S1, M1, H1⟩ Y1)
theorem own_cpB (A : own_At p l e R s m args below meth c n0 T h cells slots) (hx : p.tables.exec = Jvm.exec) (hZ : Z.Warmed39 s.vm) {own : String} {index : Nat} (hown : s.vm.findClass own = some m.cls)
    (w1 : (Cond.methodLink own index Jvm.Stand.acN).before a0 Z = true) (w2 : (Cond.native Jvm.Stand.acN).before a0 Z = true) (w3 : (Cond.static Jvm.Stand.acN).before a0 Z = true) (w4 : (Cond.initialized "java/lang/System").before a0 Z = true)
    {na nb : Nat} {fa fb : Int32 → Int32} {sp dp nn : Int32} (Va : own_Arr Z h a .byte (Int32.ofNat na) fa) (Vb : own_Arr Z h b .byte (Int32.ofNat nb) fb) (ha : na < 2 ^ 31) (hb : nb < 2 ^ 31) (fa' : ∀ k, k < na → fits .byte (.int (fa (Int32.ofNat k))) = true) (fb' : ∀ k, k < nb → fits .byte (.int (fb (Int32.ofNat k))) = true)
    (h1 : ¬ sp < 0) (h2 : ¬ dp < 0) (h3 : ¬ nn < 0) (h4 : sp.toNatClampNeg + nn.toNatClampNeg ≤ na) (h5 : dp.toNatClampNeg + nn.toNatClampNeg ≤ nb) (ge : n0 ≤ b)
    {g : JFrame} (hg : g.method = m) (hsize : g.locals.size = c.maxLocals) {rest : List Value} (hs : g.stack = .int nn :: .int dp :: .ref b :: .int sp :: .ref a :: rest) (hd : decode c.code g.pc = .ok (.invokestatic index, 3))
    (hf : 1 ≤ R.frames) (W : Nat) (hW : 2 * g.monitorRoom + (rest.map fun v => v.category).sum ≤ W) (hlo : W + (nativeFrameWords "java/lang/System" "arraycopy" 5 + 11) ≤ R.locals)
    (k : ∀ T' h', own_At p l e R s m args below meth c n0 T' h' cells slots → Keep h h' [b] → own_Go p.tables e below G (T'.setTop { g with pc := g.pc + 3, stack := rest })) : own_Go p.tables e below G (T.setTop g) := by
  obtain ⟨locs, X, eT, N⟩ := A
  obtain ⟨ka, A1⟩ := Va.arv ha fa'
  obtain ⟨kb, B1⟩ := Vb.arv hb fb'
  obtain ⟨T1, h1', L, X1, e1, N1, K1, -, st⟩ := cpA X hx hZ hown w1 w2 w3 w4 eT A1 B1 (Or.inl ⟨rfl, rfl⟩) h1 h2 h3 (by rw [own_toN ha]; exact h4) (by rw [own_toN hb]; exact h5) rfl (by rw [List.length_map, own_lst_len]; exact h5) N ge hg hsize hs hd hf hW hlo
  exact own_go st (k T1 h1' ⟨_, X1, e1, N1⟩ K1)
end OwnRef
section OwnLit
open Jvm.Free.SB Jvm.Free.SBG
variable {p : Program} {l : Launch} {e : Env} {R : Room} {s : State} {m : MethodId} {args : Array Value} {below : List Frame} {meth : Method} {c : Code} {T : State} {cells slots : Nat} {Z : State} {a0 : Array Value} {h : Heap} {n0 : Nat} {G : State → Outcome → Prop} {vm0 : Vm} {k0 : Nat} {Ts : List String}
/-- what a String of the intern table is, said of the case's start Z: with the class of its bytes -/
theorem own_slZ {W : State} {lo hi : Nat} {a : Addr} {units : Array UInt16} {xs : List Int32} {z : Int32} (hal : Z.vm.Alike W.vm) (hin : SlIn lo hi W a units) (hlat : units.all (· < 256) = true) (hu : units.toList.map (fun u => Jvm.Lit.byteI u) = xs) (hz : ¬ z < 0) (hl : z.toNatClampNeg = xs.length) :
    ∃ b, Exa Z W.heap a "java/lang/String" ∧ Fld Z W.heap a "java/lang/String" "coder" "B" (.int 0) ∧ Fld Z W.heap a "java/lang/String" "value" "[B" (.ref b) ∧ Exa Z W.heap b "[B" ∧ own_Arr Z W.heap b .byte z (fun j => xs.getD j.toNatClampNeg 0) := by
  obtain ⟨q, cS, rfl, ⟨⟨s1, s2, s3, ⟨cv, kv, iv, s4, s4'⟩, ⟨cc, kc, ic, s5, s5'⟩, s6, s7, s8, s9, s10, s11, s12, -, -, -, -⟩, hfS, hcS⟩, ⟨kS, k1, k2, k3⟩, hB, hbyt, -⟩ := hin
  obtain ⟨kv', z4⟩ := ff_back hal s4
  obtain ⟨kc', z5⟩ := ff_back hal s5
  have fS : Z.vm.findClass "java/lang/String" = some q.sC.cls := by rw [← hal.findClass, hcS]; exact hfS
  have fB : Z.vm.findClass "[B" = some q.SA.cls := by rw [← hal.findClass]; exact hB
  obtain ⟨kz, hkz, -⟩ := Vm.findClass_spec fS
  obtain ⟨kz', hkz', ekz⟩ := hal.2.2 _ _ hkz
  obtain ⟨kb, hkb, -⟩ := Vm.findClass_spec fB
  obtain ⟨kb', hkb', ekb⟩ := hal.2.2 _ _ hkb
  obtain ⟨ns, k9, hk9, comp, hki⟩ := s11
  cases hk9.symm.trans hkb'
  have hk' : W.vm.classes[q.sC.cls]? = some kS := by rw [hcS]; exact k1
  cases hk'.symm.trans hkz'
  have kkd : kb.kind = .array comp .byte := by rw [ekb] at hki; exact hki
  have hsl : q.SA.slots = units.map fun u => Value.int (Jvm.Lit.byteI u) := by rw [hbyt, SBG.stringBytes_lat hlat]; rfl
  have hst : q.SA.vm.isStatics = false := by
    cases hv : q.SA.vm <;> first | rfl | exact absurd hv (ns _)
  have hsz : q.SA.slots.size = z.toNatClampNeg := by rw [hl, ← hu, hsl]; simp
  refine ⟨q.sd, ⟨q.sC, kz, s1, fS, hkz, s3, fun _ => by rw [k3, ekz]⟩, ⟨q.sC, cc, kc', ic, q.fSC, s1, z5, s7, s2, s3, by rw [← hal.assignable]; exact s5', s9⟩, ⟨q.sC, cv, kv', iv, q.fSV, s1, z4, s6, s2, s3, by rw [← hal.assignable]; exact s4', s8⟩,
    ⟨q.SA, kb, s10, fB, hkb, hst, fun o => by rw [kkd] at o; cases o⟩, q.SA, ⟨s10, ⟨ns, kb, hkb, comp, kkd⟩, s12⟩, hsz, hz, fun j h0 h1 => ?_⟩
  have hj : j.toNatClampNeg < q.SA.slots.size := Nat.lt_of_not_le fun w => inb_of hsz ⟨h0, h1⟩ (Or.inr w)
  have hju : j.toNatClampNeg < units.size := by rw [hsl, Array.size_map] at hj; exact hj
  show _ = some (Value.int (xs.getD j.toNatClampNeg 0))
  rw [hsl, ← hu]
  simp [hju, List.getD_eq_getElem?_getD]
theorem own_ldcB (A : own_At p l e R (s.setVm vm0) m args below meth c n0 T h cells slots) (hx : p.tables.exec = Jvm.exec) (hZ : Z.Warmed39 (s.setVm vm0).vm) {own text : String} {index : Nat} (hown : (s.setVm vm0).vm.findClass own = some m.cls) (w : (Cond.stringLink own index text).before a0 Z = true) (wS : ∀ a ∈ Bundle.stringAtoms, a.before a0 Z = true)
    (hS : s.Since vm0 k0) (hk : k0 ≤ h.size) (hn0 : s.heap.size ≤ n0) (hkeep : ∀ (b : Addr) (cl : Cell), Z.heap[b]? = some cl → s.heap[b]? = some cl) (I : IB Z vm0 Ts) (hnot : text ∉ Ts) (hh : Jvm.Lit.constHeld Z own index) (hcw : Jvm.Lit.compactW.before a0 Z = true)
    {xs : List Int32} {z : Int32} (ht : (∀ c ∈ text.toList, c.toNat < 256) ∧ text.toList.map (fun c => Jvm.Lit.byteI c.toNat.toUInt16) = xs) (hz : ¬ z < 0) (hl : z.toNatClampNeg = xs.length)
    {g : JFrame} (hg : g.method = m) (hd : decode c.code g.pc = .ok (.ldc index, 2)) (n : Nat) (hn : 4 * text.toList.length ≤ n) (hbig : n ≤ 536870912) (hc : cells + 2 ≤ R.cells) (hl' : slots + (n + 4) ≤ R.slots)
    (k : ∀ T' h' a b vm1 k1, own_At p l e R (s.setVm vm1) m args below meth c n0 T' h' (cells + 2) (slots + (n + 4)) → Ext h h' → s.Since vm1 k1 → k1 ≤ h'.size → Z.Warmed39 (s.setVm vm1).vm → (s.setVm vm1).vm.findClass own = some m.cls → IB Z vm1 (text :: Ts) →
      Exa Z h' a "java/lang/String" → Fld Z h' a "java/lang/String" "coder" "B" (.int 0) → Fld Z h' a "java/lang/String" "value" "[B" (.ref b) → Exa Z h' b "[B" → own_Arr Z h' b .byte z (fun j => xs.getD j.toNatClampNeg 0) → own_Go p.tables e below G (T'.setTop { g with pc := g.pc + 2, stack := .ref a :: g.stack })) : own_Go p.tables e below G (T.setTop g) := by
  obtain ⟨locs, X, eT, N⟩ := A
  have wi : (Cond.instantiable "java/lang/String" 4).before a0 Z = true := wS _ (by simp [Bundle.stringAtoms, Bundle.sN])
  have wa : (Cond.arrayClass .byte).before a0 Z = true := wS _ (by simp [Bundle.stringAtoms])
  have hH : ConstHeldL (s.setVm vm0) own index := heldCarry hZ w I hnot hkeep (heldStart hh w ht.1 hcw wa wi)
  have N' : Fr s.heap.size locs := fun y hy => Nat.le_trans hn0 (N y hy)
  obtain ⟨a, T', X', hS', -, hb, -, hint, ⟨units, htext, hin⟩, st⟩ := X.ldcColdF (oldF X N') hx (own := own) hown (mvS hZ w) (fun d hd => by
    have q := wS d hd
    simp only [Bundle.stringAtoms, List.mem_cons, List.not_mem_nil, or_false] at hd
    rcases hd with rfl | rfl | rfl | rfl | rfl | rfl | rfl
    · exact mv (s := s.setVm vm0) hZ q
    · exact mv (s := s.setVm vm0) hZ q
    · exact mvA (s := s.setVm vm0) hZ q
    · exact mv (s := s.setVm vm0) hZ q
    · exact mv (s := s.setVm vm0) hZ q
    · exact mv (s := s.setVm vm0) hZ q
    · exact mv (s := s.setVm vm0) hZ q) hH (fun units hu => Jvm.ClassFile.lat_of_text hu ht.1) hg hd hn hbig hc hl'
  subst eT
  have E := ext_of hb
  have hW : Z.Warmed39 T'.vm := State.Warmed39.trans (t := s.setVm vm0) hZ hS'.1
  obtain ⟨b, r1, r2, r3, r4, r5⟩ := own_slZ (xs := xs) (z := z) hW.alike hin (Jvm.ClassFile.lat_of_text htext ht.1) (by rw [← ht.2, Jvm.ClassFile.units_of_text htext ht.1, List.map_map]; rfl) hz hl
  have hTi : T.vm.interned = vm0.interned := X.warmed.interned_eq
  exact own_go st (k T' T'.heap a b T'.vm _ ⟨_, X', rfl, N⟩ E (hS.trans hS' (Nat.le_trans hk E.1)) (Nat.le_refl _) hW (by rw [show (s.setVm T'.vm).vm = T'.vm from rfl, hS'.1.alike.findClass]; exact hown) (I.step (by rw [← hTi]; exact hint)) r1 r2 r3 r4 r5)
end OwnLit
section OwnHand
variable {p : Program} {l : Launch} {e : Env} {R : Room} {s : State} {m : MethodId} {args : Array Value} {below : List Frame} {meth : Method} {c : Code} {T : State} {cells slots : Nat} {Z : State} {a0 : Array Value} {h : Heap} {n0 : Nat} {G : State → Outcome → Prop} {Q : Option Value → Heap → Prop}
/-- own_Met, of a body with an exception table whose walk throws nothing -/
def own_MetH (l : Launch) (Z : State) (n0 : Nat) (y : MethodName) (bytes : ByteArray) (maxL : Nat) (ret : Option FieldType) (hs : List (Nat × Nat × Nat × Nat)) (rm : Room) (as' : Array Value) (h0 : Heap) (Q : Option Value → Heap → Prop) : Prop :=
  ∀ ws, MetFree l y (head1 (Cond.codeWith y bytes maxL ret hs :: ws) rm) (fun a U => a = as' ∧ Z.Warmed39 U.vm ∧ U.heap = h0) (fun _ _ _ _ _ => True) (fun _ U o U' => ∃ v L, o = .returned v ∧ (Q v U'.heap ∧ Fr n0 L) ∧ FrameEnd U o U' L rm.cells rm.slots)
theorem own_metH {y : MethodName} {bytes : ByteArray} {maxL : Nat} {ret : Option FieldType} {hs : List (Nat × Nat × Nat × Nat)} {rm : Room} {as' : Array Value} {h0 : Heap} (hp : plainFor y = true)
    (body : ∀ (p : Program) (e : Env) (s : State) (m : MethodId) (below : List Frame) (meth : Method) (c : Code) (T : State), p.tables.exec = Jvm.exec → c.code = bytes → c.maxLocals = maxL → s.vm.findClass y.cls = some m.cls → meth.name = y.name → meth.sig.returnType = ret → meth.locks = false → Z.Warmed39 s.vm →
      own_At p l e rm s m as' below meth c n0 T h0 0 0 → own_Go p.tables e below (own_End n0 s rm.cells rm.slots Q) (T.setTop (entryFrame m as' maxL))) : own_MetH l Z n0 y bytes maxL ret hs rm as' h0 Q := by
  intro ws
  refine MetFree.of_bodySF hp hisWith ?_
  intro p e s m args below meth c s₁ Bd hml0 hP hK
  obtain ⟨rfl, hZ, hh⟩ := hP
  exact body p e s m below meth c s₁ Bd.exec Bd.bytes hml0 (findClass_of_methodNamed Bd.named) (name_of_methodNamed Bd.named Bd.method).1 Bd.returns Bd.notSynchronized hZ ⟨[], Stand.of_body Bd, by rw [← hh, Bd.state]; rfl, Fr.nil n0⟩
theorem own_callIH (A : own_At p l e R s m args below meth c n0 T h cells slots) (hx : p.tables.exec = Jvm.exec) (hZ : Z.Warmed39 s.vm) {own : String} {index : Nat} {y : MethodName} (hy1 : y.name = "<init>") {bytes : ByteArray} {maxL : Nat} {hs' : List (Nat × Nat × Nat × Nat)} (hown : s.vm.findClass own = some m.cls)
    (w1 : (Cond.methodLink own index y).before a0 Z = true) (w4 : (Cond.instanceMethod y).before a0 Z = true) (w5 : (Cond.initialized y.cls).before a0 Z = true) (w6 : (Cond.codeWith y bytes maxL none hs').before a0 Z = true)
    (hy : y.cls ≠ "java/lang/invoke/MethodHandle" ∧ y.cls ≠ "java/lang/invoke/VarHandle")
    {rm : Room} {b : Addr} {argsL rest : List Value} (hM : own_MetH l Z n0 y bytes maxL none hs' rm (.ref b :: argsL).toArray h Q) (W : Nat) (hfr : rm.frames + 1 ≤ R.frames) (hlo : W + (maxL + 11) + rm.locals ≤ R.locals) {g : JFrame} (hg : g.method = m) (hsize : g.locals.size = c.maxLocals)
    (hlen : ∀ sig, parseMethodDescriptor y.desc = some sig → argsL.length = sig.parameters.length) (hs : g.stack = argsL.reverse ++ .ref b :: rest) (hW : 2 * g.monitorRoom + (rest.map fun v => v.category).sum ≤ W) (hd : decode c.code g.pc = .ok (.invokespecial index, 3))
    (hc : cells + rm.cells ≤ R.cells) (hl : slots + rm.slots ≤ R.slots)
    (k : ∀ v T' h', own_At p l e R s m args below meth c n0 T' h' (cells + rm.cells) (slots + rm.slots) → Q v h' → own_Go p.tables e below G (T'.setTop { g with pc := g.pc + 3, stack := v.toList ++ rest })) : own_Go p.tables e below G (T.setTop g) := by
  obtain ⟨locs, X, eT, N⟩ := A
  obtain ⟨v, _, ⟨T1, L1, k1, s1⟩, -, X1, ⟨Lc, ⟨hQ, N1⟩, l1, y1, z1⟩, st⟩ := X.specialBackH hx (y := y) hy1 hown (mvT hZ w1) (mvT hZ w4) (mvT hZ w6) hy (backOfWith (Q := fun v h L => Q v h ∧ Fr n0 L) (W := W) (hM []) hZ w6 w5 hfr hlo) hg hsize (Steps.refl _) (a := b) (argsL := argsL) (rest := rest) hlen hs hW hd (fun _ _ => ⟨rfl, eT, hc, hl⟩)
  dsimp only [Pt.U, Pt.locs, Pt.cells, Pt.slots] at X1 l1 y1 z1 st hQ
  subst l1 y1 z1
  exact own_go (fun t k => st.trans k) (k v T1 T1.heap ⟨_, X1, rfl, N.app N1⟩ hQ)
end OwnHand
section OwnPriv
variable {p : Program} {l : Launch} {e : Env} {R : Room} {s : State} {m : MethodId} {args : Array Value} {below : List Frame} {meth : Method} {c : Code} {T : State} {cells slots : Nat} {Z : State} {a0 : Array Value} {h : Heap} {n0 : Nat} {G : State → Outcome → Prop} {Q : Option Value → Heap → Prop}
/-- invokevirtual of a private method; w3: any word 'selects' that lands in its class (so the class is no interface) -/
theorem own_callP (A : own_At p l e R s m args below meth c n0 T h cells slots) (hx : p.tables.exec = Jvm.exec) (hZ : Z.Warmed39 s.vm) {own C D : String} {index : Nat} {y x' y' : MethodName} {bytes : ByteArray} {maxL : Nat} {ret : Option FieldType} (hown : s.vm.findClass own = some m.cls)
    (w1 : (Cond.methodLink own index y).before a0 Z = true) (w2 : (Cond.instanceMethod y).before a0 Z = true) (wp : (Cond.privateMethod y).before a0 Z = true) (w3 : (Cond.selects D x' y').before a0 Z = true) (hcls : y'.cls = y.cls) (w5 : (Cond.initialized y.cls).before a0 Z = true) (w6 : (Cond.code y bytes maxL ret).before a0 Z = true)
    (hy : y.cls ≠ "java/lang/invoke/MethodHandle" ∧ y.cls ≠ "java/lang/invoke/VarHandle")
    {rm : Room} {b : Addr} {argsL rest : List Value} (E : Exa Z h b C) (hM : own_Met l Z n0 y bytes maxL ret rm (.ref b :: argsL).toArray h Q) (W : Nat) (hfr : rm.frames + 1 ≤ R.frames) (hlo : W + (maxL + 11) + rm.locals ≤ R.locals) {g : JFrame} (hg : g.method = m) (hsize : g.locals.size = c.maxLocals)
    (hlen : ∀ sig, parseMethodDescriptor y.desc = some sig → argsL.length = sig.parameters.length) (hs : g.stack = argsL.reverse ++ .ref b :: rest) (hW : 2 * g.monitorRoom + (rest.map fun v => v.category).sum ≤ W) (hd : decode c.code g.pc = .ok (.invokevirtual index, 3))
    (hc : cells + rm.cells ≤ R.cells) (hl : slots + rm.slots ≤ R.slots)
    (k : ∀ v T' h', own_At p l e R s m args below meth c n0 T' h' (cells + rm.cells) (slots + rm.slots) → Q v h' → own_Go p.tables e below G (T'.setTop { g with pc := g.pc + 3, stack := v.toList ++ rest })) : own_Go p.tables e below G (T.setTop g) := by
  obtain ⟨locs, X, eT, N⟩ := A
  obtain ⟨cell, kc, h1, -, -, h4, -⟩ := E
  have hp : s.PrivateAt y := Cond.privateMethod_at (mvP (args := args) hZ wp)
  have hsel : (Cond.selects y.cls y y).before args s = true := by
    obtain ⟨c2, r2, m2, -, -, q3, -, kP, hkP, hkPi⟩ := Cond.selects_spec (mvT (args := args) hZ w3)
    exact selects_self_of_private (c := m2.cls) (k := kP) (by rw [← hcls]; exact findClass_of_methodNamed q3) hkP hkPi hp (mvT hZ w2) hy
  obtain ⟨v, _, ⟨T1, L1, k1, s1⟩, -, X1, ⟨Lc, ⟨hQ, N1⟩, l1, y1, z1⟩, st⟩ := X.privateBack hx (y := y) hown (mvT hZ w1) (mvT hZ w2) hsel hp (mvT hZ w6) hy (backOf (Q := fun v h L => Q v h ∧ Fr n0 L) (W := W) (hM []) hZ w6 w5 hfr hlo) hg hsize (Steps.refl _) (a := b) (cell := cell) (by rw [eT]; exact h1) (fun q e => by rw [e] at h4; cases h4) (argsL := argsL) (rest := rest) hlen hs hW hd (fun _ _ => ⟨rfl, eT, hc, hl⟩)
  dsimp only [Pt.U, Pt.locs, Pt.cells, Pt.slots] at X1 l1 y1 z1 st hQ
  subst l1 y1 z1
  exact own_go (fun t k => st.trans k) (k v T1 T1.heap ⟨_, X1, rfl, N.app N1⟩ hQ)
end OwnPriv
theorem own_fitL (k : Nat) (hk : k < 3) : fits .byte (.int ((fun j => ([97, 44, 98] : List Int32).getD j.toNatClampNeg 0) (Int32.ofNat k))) = true := by
  rcases (by omega : k = 0 ∨ k = 1 ∨ k = 2) with rfl | rfl | rfl <;> decide +kernel
theorem own_fitJ (j : Int32) (h0 : ¬ j < 0) (h1 : j < (3 : Int32)) : fits .byte (.int ((fun j => ([97, 44, 98] : List Int32).getD j.toNatClampNeg 0) j)) = true := by
  have e := own_ofN h0
  rw [← e] at h1 ⊢
  exact own_fitL _ ((own_nlt (j := 3) (by rw [Int32.toNatClampNeg]; have := rng32 j; omega) (by decide)).mp h1)
theorem own_fit0 (m k : Nat) (hk : k < m) : fits .byte (.int ((fun _ => (0 : Int32)) (Int32.ofNat k))) = true := rfl
theorem ef_5 (m : MethodId) (r0 : Addr) : entryFrame m #[(.ref r0)] 1 = mkF m 0 #[.val (.ref r0)] [] := by first | (simp [entryFrame, mkF, argsToLocals, Value.category]; done) | rfl
theorem pn_5 : plainName "java/lang/String" = true := by first | (simp [plainName, overriddenIn]; done) | decide +kernel
theorem d5_0 : decode jdk_42_method_152_code 0 = .ok (.getstatic 38, 3) := by decide +kernel
theorem d5_3 : decode jdk_42_method_152_code 3 = .ok (.ifCond .eq 10, 3) := by decide +kernel
theorem d5_6 : decode jdk_42_method_152_code 6 = .ok (.aload_n 0, 1) := by decide +kernel
theorem d5_7 : decode jdk_42_method_152_code 7 = .ok (.getfield 15, 3) := by decide +kernel
theorem d5_10 : decode jdk_42_method_152_code 10 = .ok (.goto 4, 3) := by decide +kernel
theorem d5_14 : decode jdk_42_method_152_code 14 = .ok (.ireturn, 1) := by decide +kernel
set_option maxRecDepth 65536 in
set_option maxHeartbeats 40000000 in
theorem rm5 (l : Launch) (Z : State) (a0 : Array Value) (hw : ∀ d ∈ tables_1, d.before a0 Z = true) (r0 : Addr) (z_C : Int32) (h0 : Heap) (n0 : Nat) (S_C0 : Sta Z h0 "java/lang/String" "COMPACT_STRINGS" "Z" (.int z_C)) (hz : ¬ z_C = 0) (Fc : Fld Z h0 r0 "java/lang/String" "coder" "B" (.int (0 : Int32))) :
    own_Met l Z n0 (⟨"java/lang/String", "coder", "()B"⟩ : MethodName) jdk_42_method_152_code 1 (some .byte) ({ frames := 0, cells := 0, slots := 0, locals := 0 } : Room) #[(.ref r0)] h0 (fun v h => v = some (.int 0) ∧ h0 = h) := by
  refine own_met (plainFor_of_name pn_5) ?_
  intro p e s m below meth c T0 hx hby hml hown hnm hret hlk hZ A0
  rw [ef_5]
  show own_Go _ _ _ _ (T0.setTop (mkF m 0 #[.val (.ref r0)] []))
  refine own_getS A0 hx hZ hown (host := "") (Or.inl (hw _ (List.mem_of_getElem? (i := 35) rfl))) Via.refl S_C0 rfl (hb hby d5_0) (fun T1 A2 => ?_)
  show own_Go _ _ _ _ (T1.setTop (mkF m 3 #[.val (.ref r0)] [(.int z_C)]))
  have hc3 : ¬ (z_C = (0 : Int32)) := hz
  refine own_go (fun t_ k_ => XS.ifNo A2.here hx rfl (hb hby d5_3) rfl ((if0 _ _).trans (feq hc3).1) k_) ?_
  show own_Go _ _ _ _ (T1.setTop (mkF m 6 #[.val (.ref r0)] []))
  refine own_go (fun t_ k_ => XS.aloadN A2.here hx rfl (hb hby d5_6) rfl rfl k_) ?_
  show own_Go _ _ _ _ (T1.setTop (mkF m 7 #[.val (.ref r0)] [(.ref r0)]))
  refine own_getF A2 hx hZ hown (host := "") (Or.inl (hw _ (List.mem_of_getElem? (i := 36) rfl))) Via.refl Fc rfl rfl (hb hby d5_7) (fun T4 A5 => ?_)
  show own_Go _ _ _ _ (T4.setTop (mkF m 10 #[.val (.ref r0)] [(.int (0 : Int32))]))
  refine own_go (fun t_ k_ => XS.goto A5.here hx rfl (pc0 := 10) (pc' := 14) rfl (hb hby d5_10) (by decide) (by decide) k_) ?_
  show own_Go _ _ _ _ (T4.setTop (mkF m 14 #[.val (.ref r0)] [(.int (0 : Int32))]))
  refine own_retN A5 hx (t := .byte) hret (by simp) hlk (by decide) (by decide) (hb hby d5_14) ?_
  exact ⟨rfl, rfl⟩
theorem ef_9 (m : MethodId) (r0 : Addr) (y1 : Int32) (y2 : Int32) : entryFrame m #[(.ref r0), (.int y1), (.int y2)] 5 = mkF m 0 #[.val (.ref r0), .val (.int y1), .val (.int y2), .unset, .unset] [] := by first | (simp [entryFrame, mkF, argsToLocals, Value.category]; done) | rfl
theorem pn_9 : plainName "java/lang/StringCoding" = true := by first | (simp [plainName, overriddenIn]; done) | decide +kernel
theorem d9_0 : decode jdk_123_method_3_code 0 = .ok (.iload_n 1, 1) := by decide +kernel
theorem d9_1 : decode jdk_123_method_3_code 1 = .ok (.iload_n 2, 1) := by decide +kernel
theorem d9_2 : decode jdk_123_method_3_code 2 = .ok (.iadd, 1) := by decide +kernel
theorem d9_3 : decode jdk_123_method_3_code 3 = .ok (.istore_n 3, 1) := by decide +kernel
theorem d9_4 : decode jdk_123_method_3_code 4 = .ok (.iload_n 1, 1) := by decide +kernel
theorem d9_5 : decode jdk_123_method_3_code 5 = .ok (.istore 4, 2) := by decide +kernel
theorem d9_7 : decode jdk_123_method_3_code 7 = .ok (.iload 4, 2) := by decide +kernel
theorem d9_9 : decode jdk_123_method_3_code 9 = .ok (.iload_n 3, 1) := by decide +kernel
theorem d9_10 : decode jdk_123_method_3_code 10 = .ok (.if_icmp .ge 21, 3) := by decide +kernel
theorem d9_13 : decode jdk_123_method_3_code 13 = .ok (.aload_n 0, 1) := by decide +kernel
theorem d9_14 : decode jdk_123_method_3_code 14 = .ok (.iload 4, 2) := by decide +kernel
theorem d9_16 : decode jdk_123_method_3_code 16 = .ok (.baload, 1) := by decide +kernel
theorem d9_17 : decode jdk_123_method_3_code 17 = .ok (.ifCond .ge 8, 3) := by decide +kernel
theorem d9_25 : decode jdk_123_method_3_code 25 = .ok (.iinc 4 1, 3) := by decide +kernel
theorem d9_28 : decode jdk_123_method_3_code 28 = .ok (.goto (-21), 3) := by decide +kernel
theorem d9_31 : decode jdk_123_method_3_code 31 = .ok (.iload_n 2, 1) := by decide +kernel
theorem d9_32 : decode jdk_123_method_3_code 32 = .ok (.ireturn, 1) := by decide +kernel
set_option maxRecDepth 65536 in
set_option maxHeartbeats 40000000 in
theorem rm9_0_1 (l : Launch) (Z : State) (a0 : Array Value) (hw : ∀ d ∈ tables_1, d.before a0 Z = true) (r0 : Addr) (h0 : Heap) (n0 : Nat) (V0 : own_Arr Z h0 r0 .byte (3 : Int32) (fun j => ([97, 44, 98] : List Int32).getD j.toNatClampNeg 0)) :
    own_Met l Z n0 (⟨"java/lang/StringCoding", "countPositives", "([BII)I"⟩ : MethodName) jdk_123_method_3_code 5 (some .int) ({ frames := 0, cells := 0, slots := 0, locals := 0 } : Room) #[(.ref r0), (.int (0 : Int32)), (.int (1 : Int32))] h0 (fun v h => v = some (.int 1) ∧ h0 = h) := by
  refine own_met (plainFor_of_name pn_9) ?_
  intro p e s m below meth c T0 hx hby hml hown hnm hret hlk hZ A0
  rw [ef_9]
  show own_Go _ _ _ _ (T0.setTop (mkF m 0 #[.val (.ref r0), .val (.int (0 : Int32)), .val (.int (1 : Int32)), .unset, .unset] []))
  refine own_go (fun t_ k_ => XS.iloadN A0.here hx rfl (hb hby d9_0) rfl k_) ?_
  show own_Go _ _ _ _ (T0.setTop (mkF m 1 #[.val (.ref r0), .val (.int (0 : Int32)), .val (.int (1 : Int32)), .unset, .unset] [(.int (0 : Int32))]))
  refine own_go (fun t_ k_ => XS.iloadN A0.here hx rfl (hb hby d9_1) rfl k_) ?_
  show own_Go _ _ _ _ (T0.setTop (mkF m 2 #[.val (.ref r0), .val (.int (0 : Int32)), .val (.int (1 : Int32)), .unset, .unset] [(.int (1 : Int32)), (.int (0 : Int32))]))
  refine own_go (fun t_ k_ => XS.iadd A0.here hx rfl (hb hby d9_2) rfl k_) ?_
  show own_Go _ _ _ _ (T0.setTop (mkF m 3 #[.val (.ref r0), .val (.int (0 : Int32)), .val (.int (1 : Int32)), .unset, .unset] [(.int (1 : Int32))]))
  refine own_go (fun t_ k_ => XS.istoreN A0.here hx rfl (hb hby d9_3) rfl (l' := #[.val (.ref r0), .val (.int (0 : Int32)), .val (.int (1 : Int32)), .val (.int (1 : Int32)), .unset]) rfl k_) ?_
  show own_Go _ _ _ _ (T0.setTop (mkF m 4 #[.val (.ref r0), .val (.int (0 : Int32)), .val (.int (1 : Int32)), .val (.int (1 : Int32)), .unset] []))
  refine own_go (fun t_ k_ => XS.iloadN A0.here hx rfl (hb hby d9_4) rfl k_) ?_
  show own_Go _ _ _ _ (T0.setTop (mkF m 5 #[.val (.ref r0), .val (.int (0 : Int32)), .val (.int (1 : Int32)), .val (.int (1 : Int32)), .unset] [(.int (0 : Int32))]))
  refine own_go (fun t_ k_ => XS.istore A0.here hx rfl (hb hby d9_5) rfl (l' := #[.val (.ref r0), .val (.int (0 : Int32)), .val (.int (1 : Int32)), .val (.int (1 : Int32)), .val (.int (0 : Int32))]) rfl k_) ?_
  show own_Go _ _ _ _ (T0.setTop (mkF m 7 #[.val (.ref r0), .val (.int (0 : Int32)), .val (.int (1 : Int32)), .val (.int (1 : Int32)), .val (.int (0 : Int32))] []))
  refine own_go (fun t_ k_ => XS.iload A0.here hx rfl (hb hby d9_7) rfl k_) ?_
  show own_Go _ _ _ _ (T0.setTop (mkF m 9 #[.val (.ref r0), .val (.int (0 : Int32)), .val (.int (1 : Int32)), .val (.int (1 : Int32)), .val (.int (0 : Int32))] [(.int (0 : Int32))]))
  refine own_go (fun t_ k_ => XS.iloadN A0.here hx rfl (hb hby d9_9) rfl k_) ?_
  show own_Go _ _ _ _ (T0.setTop (mkF m 10 #[.val (.ref r0), .val (.int (0 : Int32)), .val (.int (1 : Int32)), .val (.int (1 : Int32)), .val (.int (0 : Int32))] [(.int (1 : Int32)), (.int (0 : Int32))]))
  have hc1 : (0 : Int32) < (1 : Int32) := (by decide)
  refine own_go (fun t_ k_ => XS.icmpNo A0.here hx rfl (hb hby d9_10) rfl (tlt hc1).2.1 k_) ?_
  show own_Go _ _ _ _ (T0.setTop (mkF m 13 #[.val (.ref r0), .val (.int (0 : Int32)), .val (.int (1 : Int32)), .val (.int (1 : Int32)), .val (.int (0 : Int32))] []))
  refine own_go (fun t_ k_ => XS.aloadN A0.here hx rfl (hb hby d9_13) rfl rfl k_) ?_
  show own_Go _ _ _ _ (T0.setTop (mkF m 14 #[.val (.ref r0), .val (.int (0 : Int32)), .val (.int (1 : Int32)), .val (.int (1 : Int32)), .val (.int (0 : Int32))] [(.ref r0)]))
  refine own_go (fun t_ k_ => XS.iload A0.here hx rfl (hb hby d9_14) rfl k_) ?_
  show own_Go _ _ _ _ (T0.setTop (mkF m 16 #[.val (.ref r0), .val (.int (0 : Int32)), .val (.int (1 : Int32)), .val (.int (1 : Int32)), .val (.int (0 : Int32))] [(.int (0 : Int32)), (.ref r0)]))
  refine own_ldB A0 hx hZ V0 ⟨by decide, by decide⟩ rfl rfl (hb hby d9_16) ?_
  show own_Go _ _ _ _ (T0.setTop (mkF m 17 #[.val (.ref r0), .val (.int (0 : Int32)), .val (.int (1 : Int32)), .val (.int (1 : Int32)), .val (.int (0 : Int32))] [(.int (97 : Int32))]))
  have hc2 : ¬ ((97 : Int32) < (0 : Int32)) := (by decide)
  refine own_go (fun t_ k_ => XS.ifYes A0.here hx rfl (pc0 := 17) (pc' := 25) rfl (hb hby d9_17) rfl ((if0 _ _).trans (flt hc2).2.1) (by decide) (by decide) k_) ?_
  show own_Go _ _ _ _ (T0.setTop (mkF m 25 #[.val (.ref r0), .val (.int (0 : Int32)), .val (.int (1 : Int32)), .val (.int (1 : Int32)), .val (.int (0 : Int32))] []))
  refine own_go (fun t_ k_ => XS.iinc A0.here hx rfl (hb hby d9_25) rfl (l' := #[.val (.ref r0), .val (.int (0 : Int32)), .val (.int (1 : Int32)), .val (.int (1 : Int32)), .val (.int (1 : Int32))]) rfl k_) ?_
  show own_Go _ _ _ _ (T0.setTop (mkF m 28 #[.val (.ref r0), .val (.int (0 : Int32)), .val (.int (1 : Int32)), .val (.int (1 : Int32)), .val (.int (1 : Int32))] []))
  refine own_go (fun t_ k_ => XS.goto A0.here hx rfl (pc0 := 28) (pc' := 7) rfl (hb hby d9_28) (by decide) (by decide) k_) ?_
  show own_Go _ _ _ _ (T0.setTop (mkF m 7 #[.val (.ref r0), .val (.int (0 : Int32)), .val (.int (1 : Int32)), .val (.int (1 : Int32)), .val (.int (1 : Int32))] []))
  refine own_go (fun t_ k_ => XS.iload A0.here hx rfl (hb hby d9_7) rfl k_) ?_
  show own_Go _ _ _ _ (T0.setTop (mkF m 9 #[.val (.ref r0), .val (.int (0 : Int32)), .val (.int (1 : Int32)), .val (.int (1 : Int32)), .val (.int (1 : Int32))] [(.int (1 : Int32))]))
  refine own_go (fun t_ k_ => XS.iloadN A0.here hx rfl (hb hby d9_9) rfl k_) ?_
  show own_Go _ _ _ _ (T0.setTop (mkF m 10 #[.val (.ref r0), .val (.int (0 : Int32)), .val (.int (1 : Int32)), .val (.int (1 : Int32)), .val (.int (1 : Int32))] [(.int (1 : Int32)), (.int (1 : Int32))]))
  have hc3 : ¬ ((1 : Int32) < (1 : Int32)) := (by decide)
  refine own_go (fun t_ k_ => XS.icmpYes A0.here hx rfl (pc0 := 10) (pc' := 31) rfl (hb hby d9_10) rfl (flt hc3).2.1 (by decide) (by decide) k_) ?_
  show own_Go _ _ _ _ (T0.setTop (mkF m 31 #[.val (.ref r0), .val (.int (0 : Int32)), .val (.int (1 : Int32)), .val (.int (1 : Int32)), .val (.int (1 : Int32))] []))
  refine own_go (fun t_ k_ => XS.iloadN A0.here hx rfl (hb hby d9_31) rfl k_) ?_
  show own_Go _ _ _ _ (T0.setTop (mkF m 32 #[.val (.ref r0), .val (.int (0 : Int32)), .val (.int (1 : Int32)), .val (.int (1 : Int32)), .val (.int (1 : Int32))] [(.int (1 : Int32))]))
  refine own_retI A0 hx hret hlk (by decide) (by decide) (hb hby d9_32) ?_
  exact ⟨rfl, rfl⟩
set_option maxRecDepth 65536 in
set_option maxHeartbeats 40000000 in
theorem rm9_0_3 (l : Launch) (Z : State) (a0 : Array Value) (hw : ∀ d ∈ tables_1, d.before a0 Z = true) (r0 : Addr) (h0 : Heap) (n0 : Nat) (V0 : own_Arr Z h0 r0 .byte (3 : Int32) (fun j => ([97, 44, 98] : List Int32).getD j.toNatClampNeg 0)) :
    own_Met l Z n0 (⟨"java/lang/StringCoding", "countPositives", "([BII)I"⟩ : MethodName) jdk_123_method_3_code 5 (some .int) ({ frames := 0, cells := 0, slots := 0, locals := 0 } : Room) #[(.ref r0), (.int (0 : Int32)), (.int (3 : Int32))] h0 (fun v h => v = some (.int 3) ∧ h0 = h) := by
  refine own_met (plainFor_of_name pn_9) ?_
  intro p e s m below meth c T0 hx hby hml hown hnm hret hlk hZ A0
  rw [ef_9]
  show own_Go _ _ _ _ (T0.setTop (mkF m 0 #[.val (.ref r0), .val (.int (0 : Int32)), .val (.int (3 : Int32)), .unset, .unset] []))
  refine own_go (fun t_ k_ => XS.iloadN A0.here hx rfl (hb hby d9_0) rfl k_) ?_
  show own_Go _ _ _ _ (T0.setTop (mkF m 1 #[.val (.ref r0), .val (.int (0 : Int32)), .val (.int (3 : Int32)), .unset, .unset] [(.int (0 : Int32))]))
  refine own_go (fun t_ k_ => XS.iloadN A0.here hx rfl (hb hby d9_1) rfl k_) ?_
  show own_Go _ _ _ _ (T0.setTop (mkF m 2 #[.val (.ref r0), .val (.int (0 : Int32)), .val (.int (3 : Int32)), .unset, .unset] [(.int (3 : Int32)), (.int (0 : Int32))]))
  refine own_go (fun t_ k_ => XS.iadd A0.here hx rfl (hb hby d9_2) rfl k_) ?_
  show own_Go _ _ _ _ (T0.setTop (mkF m 3 #[.val (.ref r0), .val (.int (0 : Int32)), .val (.int (3 : Int32)), .unset, .unset] [(.int (3 : Int32))]))
  refine own_go (fun t_ k_ => XS.istoreN A0.here hx rfl (hb hby d9_3) rfl (l' := #[.val (.ref r0), .val (.int (0 : Int32)), .val (.int (3 : Int32)), .val (.int (3 : Int32)), .unset]) rfl k_) ?_
  show own_Go _ _ _ _ (T0.setTop (mkF m 4 #[.val (.ref r0), .val (.int (0 : Int32)), .val (.int (3 : Int32)), .val (.int (3 : Int32)), .unset] []))
  refine own_go (fun t_ k_ => XS.iloadN A0.here hx rfl (hb hby d9_4) rfl k_) ?_
  show own_Go _ _ _ _ (T0.setTop (mkF m 5 #[.val (.ref r0), .val (.int (0 : Int32)), .val (.int (3 : Int32)), .val (.int (3 : Int32)), .unset] [(.int (0 : Int32))]))
  refine own_go (fun t_ k_ => XS.istore A0.here hx rfl (hb hby d9_5) rfl (l' := #[.val (.ref r0), .val (.int (0 : Int32)), .val (.int (3 : Int32)), .val (.int (3 : Int32)), .val (.int (0 : Int32))]) rfl k_) ?_
  show own_Go _ _ _ _ (T0.setTop (mkF m 7 #[.val (.ref r0), .val (.int (0 : Int32)), .val (.int (3 : Int32)), .val (.int (3 : Int32)), .val (.int (0 : Int32))] []))
  refine own_go (fun t_ k_ => XS.iload A0.here hx rfl (hb hby d9_7) rfl k_) ?_
  show own_Go _ _ _ _ (T0.setTop (mkF m 9 #[.val (.ref r0), .val (.int (0 : Int32)), .val (.int (3 : Int32)), .val (.int (3 : Int32)), .val (.int (0 : Int32))] [(.int (0 : Int32))]))
  refine own_go (fun t_ k_ => XS.iloadN A0.here hx rfl (hb hby d9_9) rfl k_) ?_
  show own_Go _ _ _ _ (T0.setTop (mkF m 10 #[.val (.ref r0), .val (.int (0 : Int32)), .val (.int (3 : Int32)), .val (.int (3 : Int32)), .val (.int (0 : Int32))] [(.int (3 : Int32)), (.int (0 : Int32))]))
  have hc1 : (0 : Int32) < (3 : Int32) := (by decide)
  refine own_go (fun t_ k_ => XS.icmpNo A0.here hx rfl (hb hby d9_10) rfl (tlt hc1).2.1 k_) ?_
  show own_Go _ _ _ _ (T0.setTop (mkF m 13 #[.val (.ref r0), .val (.int (0 : Int32)), .val (.int (3 : Int32)), .val (.int (3 : Int32)), .val (.int (0 : Int32))] []))
  refine own_go (fun t_ k_ => XS.aloadN A0.here hx rfl (hb hby d9_13) rfl rfl k_) ?_
  show own_Go _ _ _ _ (T0.setTop (mkF m 14 #[.val (.ref r0), .val (.int (0 : Int32)), .val (.int (3 : Int32)), .val (.int (3 : Int32)), .val (.int (0 : Int32))] [(.ref r0)]))
  refine own_go (fun t_ k_ => XS.iload A0.here hx rfl (hb hby d9_14) rfl k_) ?_
  show own_Go _ _ _ _ (T0.setTop (mkF m 16 #[.val (.ref r0), .val (.int (0 : Int32)), .val (.int (3 : Int32)), .val (.int (3 : Int32)), .val (.int (0 : Int32))] [(.int (0 : Int32)), (.ref r0)]))
  refine own_ldB A0 hx hZ V0 ⟨by decide, by decide⟩ rfl rfl (hb hby d9_16) ?_
  show own_Go _ _ _ _ (T0.setTop (mkF m 17 #[.val (.ref r0), .val (.int (0 : Int32)), .val (.int (3 : Int32)), .val (.int (3 : Int32)), .val (.int (0 : Int32))] [(.int (97 : Int32))]))
  have hc2 : ¬ ((97 : Int32) < (0 : Int32)) := (by decide)
  refine own_go (fun t_ k_ => XS.ifYes A0.here hx rfl (pc0 := 17) (pc' := 25) rfl (hb hby d9_17) rfl ((if0 _ _).trans (flt hc2).2.1) (by decide) (by decide) k_) ?_
  show own_Go _ _ _ _ (T0.setTop (mkF m 25 #[.val (.ref r0), .val (.int (0 : Int32)), .val (.int (3 : Int32)), .val (.int (3 : Int32)), .val (.int (0 : Int32))] []))
  refine own_go (fun t_ k_ => XS.iinc A0.here hx rfl (hb hby d9_25) rfl (l' := #[.val (.ref r0), .val (.int (0 : Int32)), .val (.int (3 : Int32)), .val (.int (3 : Int32)), .val (.int (1 : Int32))]) rfl k_) ?_
  show own_Go _ _ _ _ (T0.setTop (mkF m 28 #[.val (.ref r0), .val (.int (0 : Int32)), .val (.int (3 : Int32)), .val (.int (3 : Int32)), .val (.int (1 : Int32))] []))
  refine own_go (fun t_ k_ => XS.goto A0.here hx rfl (pc0 := 28) (pc' := 7) rfl (hb hby d9_28) (by decide) (by decide) k_) ?_
  show own_Go _ _ _ _ (T0.setTop (mkF m 7 #[.val (.ref r0), .val (.int (0 : Int32)), .val (.int (3 : Int32)), .val (.int (3 : Int32)), .val (.int (1 : Int32))] []))
  refine own_go (fun t_ k_ => XS.iload A0.here hx rfl (hb hby d9_7) rfl k_) ?_
  show own_Go _ _ _ _ (T0.setTop (mkF m 9 #[.val (.ref r0), .val (.int (0 : Int32)), .val (.int (3 : Int32)), .val (.int (3 : Int32)), .val (.int (1 : Int32))] [(.int (1 : Int32))]))
  refine own_go (fun t_ k_ => XS.iloadN A0.here hx rfl (hb hby d9_9) rfl k_) ?_
  show own_Go _ _ _ _ (T0.setTop (mkF m 10 #[.val (.ref r0), .val (.int (0 : Int32)), .val (.int (3 : Int32)), .val (.int (3 : Int32)), .val (.int (1 : Int32))] [(.int (3 : Int32)), (.int (1 : Int32))]))
  have hc3 : (1 : Int32) < (3 : Int32) := (by decide)
  refine own_go (fun t_ k_ => XS.icmpNo A0.here hx rfl (hb hby d9_10) rfl (tlt hc3).2.1 k_) ?_
  show own_Go _ _ _ _ (T0.setTop (mkF m 13 #[.val (.ref r0), .val (.int (0 : Int32)), .val (.int (3 : Int32)), .val (.int (3 : Int32)), .val (.int (1 : Int32))] []))
  refine own_go (fun t_ k_ => XS.aloadN A0.here hx rfl (hb hby d9_13) rfl rfl k_) ?_
  show own_Go _ _ _ _ (T0.setTop (mkF m 14 #[.val (.ref r0), .val (.int (0 : Int32)), .val (.int (3 : Int32)), .val (.int (3 : Int32)), .val (.int (1 : Int32))] [(.ref r0)]))
  refine own_go (fun t_ k_ => XS.iload A0.here hx rfl (hb hby d9_14) rfl k_) ?_
  show own_Go _ _ _ _ (T0.setTop (mkF m 16 #[.val (.ref r0), .val (.int (0 : Int32)), .val (.int (3 : Int32)), .val (.int (3 : Int32)), .val (.int (1 : Int32))] [(.int (1 : Int32)), (.ref r0)]))
  refine own_ldB A0 hx hZ V0 ⟨by decide, by decide⟩ rfl rfl (hb hby d9_16) ?_
  show own_Go _ _ _ _ (T0.setTop (mkF m 17 #[.val (.ref r0), .val (.int (0 : Int32)), .val (.int (3 : Int32)), .val (.int (3 : Int32)), .val (.int (1 : Int32))] [(.int (44 : Int32))]))
  have hc4 : ¬ ((44 : Int32) < (0 : Int32)) := (by decide)
  refine own_go (fun t_ k_ => XS.ifYes A0.here hx rfl (pc0 := 17) (pc' := 25) rfl (hb hby d9_17) rfl ((if0 _ _).trans (flt hc4).2.1) (by decide) (by decide) k_) ?_
  show own_Go _ _ _ _ (T0.setTop (mkF m 25 #[.val (.ref r0), .val (.int (0 : Int32)), .val (.int (3 : Int32)), .val (.int (3 : Int32)), .val (.int (1 : Int32))] []))
  refine own_go (fun t_ k_ => XS.iinc A0.here hx rfl (hb hby d9_25) rfl (l' := #[.val (.ref r0), .val (.int (0 : Int32)), .val (.int (3 : Int32)), .val (.int (3 : Int32)), .val (.int (2 : Int32))]) rfl k_) ?_
  show own_Go _ _ _ _ (T0.setTop (mkF m 28 #[.val (.ref r0), .val (.int (0 : Int32)), .val (.int (3 : Int32)), .val (.int (3 : Int32)), .val (.int (2 : Int32))] []))
  refine own_go (fun t_ k_ => XS.goto A0.here hx rfl (pc0 := 28) (pc' := 7) rfl (hb hby d9_28) (by decide) (by decide) k_) ?_
  show own_Go _ _ _ _ (T0.setTop (mkF m 7 #[.val (.ref r0), .val (.int (0 : Int32)), .val (.int (3 : Int32)), .val (.int (3 : Int32)), .val (.int (2 : Int32))] []))
  refine own_go (fun t_ k_ => XS.iload A0.here hx rfl (hb hby d9_7) rfl k_) ?_
  show own_Go _ _ _ _ (T0.setTop (mkF m 9 #[.val (.ref r0), .val (.int (0 : Int32)), .val (.int (3 : Int32)), .val (.int (3 : Int32)), .val (.int (2 : Int32))] [(.int (2 : Int32))]))
  refine own_go (fun t_ k_ => XS.iloadN A0.here hx rfl (hb hby d9_9) rfl k_) ?_
  show own_Go _ _ _ _ (T0.setTop (mkF m 10 #[.val (.ref r0), .val (.int (0 : Int32)), .val (.int (3 : Int32)), .val (.int (3 : Int32)), .val (.int (2 : Int32))] [(.int (3 : Int32)), (.int (2 : Int32))]))
  have hc5 : (2 : Int32) < (3 : Int32) := (by decide)
  refine own_go (fun t_ k_ => XS.icmpNo A0.here hx rfl (hb hby d9_10) rfl (tlt hc5).2.1 k_) ?_
  show own_Go _ _ _ _ (T0.setTop (mkF m 13 #[.val (.ref r0), .val (.int (0 : Int32)), .val (.int (3 : Int32)), .val (.int (3 : Int32)), .val (.int (2 : Int32))] []))
  refine own_go (fun t_ k_ => XS.aloadN A0.here hx rfl (hb hby d9_13) rfl rfl k_) ?_
  show own_Go _ _ _ _ (T0.setTop (mkF m 14 #[.val (.ref r0), .val (.int (0 : Int32)), .val (.int (3 : Int32)), .val (.int (3 : Int32)), .val (.int (2 : Int32))] [(.ref r0)]))
  refine own_go (fun t_ k_ => XS.iload A0.here hx rfl (hb hby d9_14) rfl k_) ?_
  show own_Go _ _ _ _ (T0.setTop (mkF m 16 #[.val (.ref r0), .val (.int (0 : Int32)), .val (.int (3 : Int32)), .val (.int (3 : Int32)), .val (.int (2 : Int32))] [(.int (2 : Int32)), (.ref r0)]))
  refine own_ldB A0 hx hZ V0 ⟨by decide, by decide⟩ rfl rfl (hb hby d9_16) ?_
  show own_Go _ _ _ _ (T0.setTop (mkF m 17 #[.val (.ref r0), .val (.int (0 : Int32)), .val (.int (3 : Int32)), .val (.int (3 : Int32)), .val (.int (2 : Int32))] [(.int (98 : Int32))]))
  have hc6 : ¬ ((98 : Int32) < (0 : Int32)) := (by decide)
  refine own_go (fun t_ k_ => XS.ifYes A0.here hx rfl (pc0 := 17) (pc' := 25) rfl (hb hby d9_17) rfl ((if0 _ _).trans (flt hc6).2.1) (by decide) (by decide) k_) ?_
  show own_Go _ _ _ _ (T0.setTop (mkF m 25 #[.val (.ref r0), .val (.int (0 : Int32)), .val (.int (3 : Int32)), .val (.int (3 : Int32)), .val (.int (2 : Int32))] []))
  refine own_go (fun t_ k_ => XS.iinc A0.here hx rfl (hb hby d9_25) rfl (l' := #[.val (.ref r0), .val (.int (0 : Int32)), .val (.int (3 : Int32)), .val (.int (3 : Int32)), .val (.int (3 : Int32))]) rfl k_) ?_
  show own_Go _ _ _ _ (T0.setTop (mkF m 28 #[.val (.ref r0), .val (.int (0 : Int32)), .val (.int (3 : Int32)), .val (.int (3 : Int32)), .val (.int (3 : Int32))] []))
  refine own_go (fun t_ k_ => XS.goto A0.here hx rfl (pc0 := 28) (pc' := 7) rfl (hb hby d9_28) (by decide) (by decide) k_) ?_
  show own_Go _ _ _ _ (T0.setTop (mkF m 7 #[.val (.ref r0), .val (.int (0 : Int32)), .val (.int (3 : Int32)), .val (.int (3 : Int32)), .val (.int (3 : Int32))] []))
  refine own_go (fun t_ k_ => XS.iload A0.here hx rfl (hb hby d9_7) rfl k_) ?_
  show own_Go _ _ _ _ (T0.setTop (mkF m 9 #[.val (.ref r0), .val (.int (0 : Int32)), .val (.int (3 : Int32)), .val (.int (3 : Int32)), .val (.int (3 : Int32))] [(.int (3 : Int32))]))
  refine own_go (fun t_ k_ => XS.iloadN A0.here hx rfl (hb hby d9_9) rfl k_) ?_
  show own_Go _ _ _ _ (T0.setTop (mkF m 10 #[.val (.ref r0), .val (.int (0 : Int32)), .val (.int (3 : Int32)), .val (.int (3 : Int32)), .val (.int (3 : Int32))] [(.int (3 : Int32)), (.int (3 : Int32))]))
  have hc7 : ¬ ((3 : Int32) < (3 : Int32)) := (by decide)
  refine own_go (fun t_ k_ => XS.icmpYes A0.here hx rfl (pc0 := 10) (pc' := 31) rfl (hb hby d9_10) rfl (flt hc7).2.1 (by decide) (by decide) k_) ?_
  show own_Go _ _ _ _ (T0.setTop (mkF m 31 #[.val (.ref r0), .val (.int (0 : Int32)), .val (.int (3 : Int32)), .val (.int (3 : Int32)), .val (.int (3 : Int32))] []))
  refine own_go (fun t_ k_ => XS.iloadN A0.here hx rfl (hb hby d9_31) rfl k_) ?_
  show own_Go _ _ _ _ (T0.setTop (mkF m 32 #[.val (.ref r0), .val (.int (0 : Int32)), .val (.int (3 : Int32)), .val (.int (3 : Int32)), .val (.int (3 : Int32))] [(.int (3 : Int32))]))
  refine own_retI A0 hx hret hlk (by decide) (by decide) (hb hby d9_32) ?_
  exact ⟨rfl, rfl⟩
set_option maxRecDepth 65536 in
set_option maxHeartbeats 40000000 in
theorem rm9_2_1 (l : Launch) (Z : State) (a0 : Array Value) (hw : ∀ d ∈ tables_1, d.before a0 Z = true) (r0 : Addr) (h0 : Heap) (n0 : Nat) (V0 : own_Arr Z h0 r0 .byte (3 : Int32) (fun j => ([97, 44, 98] : List Int32).getD j.toNatClampNeg 0)) :
    own_Met l Z n0 (⟨"java/lang/StringCoding", "countPositives", "([BII)I"⟩ : MethodName) jdk_123_method_3_code 5 (some .int) ({ frames := 0, cells := 0, slots := 0, locals := 0 } : Room) #[(.ref r0), (.int (2 : Int32)), (.int (1 : Int32))] h0 (fun v h => v = some (.int 1) ∧ h0 = h) := by
  refine own_met (plainFor_of_name pn_9) ?_
  intro p e s m below meth c T0 hx hby hml hown hnm hret hlk hZ A0
  rw [ef_9]
  show own_Go _ _ _ _ (T0.setTop (mkF m 0 #[.val (.ref r0), .val (.int (2 : Int32)), .val (.int (1 : Int32)), .unset, .unset] []))
  refine own_go (fun t_ k_ => XS.iloadN A0.here hx rfl (hb hby d9_0) rfl k_) ?_
  show own_Go _ _ _ _ (T0.setTop (mkF m 1 #[.val (.ref r0), .val (.int (2 : Int32)), .val (.int (1 : Int32)), .unset, .unset] [(.int (2 : Int32))]))
  refine own_go (fun t_ k_ => XS.iloadN A0.here hx rfl (hb hby d9_1) rfl k_) ?_
  show own_Go _ _ _ _ (T0.setTop (mkF m 2 #[.val (.ref r0), .val (.int (2 : Int32)), .val (.int (1 : Int32)), .unset, .unset] [(.int (1 : Int32)), (.int (2 : Int32))]))
  refine own_go (fun t_ k_ => XS.iadd A0.here hx rfl (hb hby d9_2) rfl k_) ?_
  show own_Go _ _ _ _ (T0.setTop (mkF m 3 #[.val (.ref r0), .val (.int (2 : Int32)), .val (.int (1 : Int32)), .unset, .unset] [(.int (3 : Int32))]))
  refine own_go (fun t_ k_ => XS.istoreN A0.here hx rfl (hb hby d9_3) rfl (l' := #[.val (.ref r0), .val (.int (2 : Int32)), .val (.int (1 : Int32)), .val (.int (3 : Int32)), .unset]) rfl k_) ?_
  show own_Go _ _ _ _ (T0.setTop (mkF m 4 #[.val (.ref r0), .val (.int (2 : Int32)), .val (.int (1 : Int32)), .val (.int (3 : Int32)), .unset] []))
  refine own_go (fun t_ k_ => XS.iloadN A0.here hx rfl (hb hby d9_4) rfl k_) ?_
  show own_Go _ _ _ _ (T0.setTop (mkF m 5 #[.val (.ref r0), .val (.int (2 : Int32)), .val (.int (1 : Int32)), .val (.int (3 : Int32)), .unset] [(.int (2 : Int32))]))
  refine own_go (fun t_ k_ => XS.istore A0.here hx rfl (hb hby d9_5) rfl (l' := #[.val (.ref r0), .val (.int (2 : Int32)), .val (.int (1 : Int32)), .val (.int (3 : Int32)), .val (.int (2 : Int32))]) rfl k_) ?_
  show own_Go _ _ _ _ (T0.setTop (mkF m 7 #[.val (.ref r0), .val (.int (2 : Int32)), .val (.int (1 : Int32)), .val (.int (3 : Int32)), .val (.int (2 : Int32))] []))
  refine own_go (fun t_ k_ => XS.iload A0.here hx rfl (hb hby d9_7) rfl k_) ?_
  show own_Go _ _ _ _ (T0.setTop (mkF m 9 #[.val (.ref r0), .val (.int (2 : Int32)), .val (.int (1 : Int32)), .val (.int (3 : Int32)), .val (.int (2 : Int32))] [(.int (2 : Int32))]))
  refine own_go (fun t_ k_ => XS.iloadN A0.here hx rfl (hb hby d9_9) rfl k_) ?_
  show own_Go _ _ _ _ (T0.setTop (mkF m 10 #[.val (.ref r0), .val (.int (2 : Int32)), .val (.int (1 : Int32)), .val (.int (3 : Int32)), .val (.int (2 : Int32))] [(.int (3 : Int32)), (.int (2 : Int32))]))
  have hc1 : (2 : Int32) < (3 : Int32) := (by decide)
  refine own_go (fun t_ k_ => XS.icmpNo A0.here hx rfl (hb hby d9_10) rfl (tlt hc1).2.1 k_) ?_
  show own_Go _ _ _ _ (T0.setTop (mkF m 13 #[.val (.ref r0), .val (.int (2 : Int32)), .val (.int (1 : Int32)), .val (.int (3 : Int32)), .val (.int (2 : Int32))] []))
  refine own_go (fun t_ k_ => XS.aloadN A0.here hx rfl (hb hby d9_13) rfl rfl k_) ?_
  show own_Go _ _ _ _ (T0.setTop (mkF m 14 #[.val (.ref r0), .val (.int (2 : Int32)), .val (.int (1 : Int32)), .val (.int (3 : Int32)), .val (.int (2 : Int32))] [(.ref r0)]))
  refine own_go (fun t_ k_ => XS.iload A0.here hx rfl (hb hby d9_14) rfl k_) ?_
  show own_Go _ _ _ _ (T0.setTop (mkF m 16 #[.val (.ref r0), .val (.int (2 : Int32)), .val (.int (1 : Int32)), .val (.int (3 : Int32)), .val (.int (2 : Int32))] [(.int (2 : Int32)), (.ref r0)]))
  refine own_ldB A0 hx hZ V0 ⟨by decide, by decide⟩ rfl rfl (hb hby d9_16) ?_
  show own_Go _ _ _ _ (T0.setTop (mkF m 17 #[.val (.ref r0), .val (.int (2 : Int32)), .val (.int (1 : Int32)), .val (.int (3 : Int32)), .val (.int (2 : Int32))] [(.int (98 : Int32))]))
  have hc2 : ¬ ((98 : Int32) < (0 : Int32)) := (by decide)
  refine own_go (fun t_ k_ => XS.ifYes A0.here hx rfl (pc0 := 17) (pc' := 25) rfl (hb hby d9_17) rfl ((if0 _ _).trans (flt hc2).2.1) (by decide) (by decide) k_) ?_
  show own_Go _ _ _ _ (T0.setTop (mkF m 25 #[.val (.ref r0), .val (.int (2 : Int32)), .val (.int (1 : Int32)), .val (.int (3 : Int32)), .val (.int (2 : Int32))] []))
  refine own_go (fun t_ k_ => XS.iinc A0.here hx rfl (hb hby d9_25) rfl (l' := #[.val (.ref r0), .val (.int (2 : Int32)), .val (.int (1 : Int32)), .val (.int (3 : Int32)), .val (.int (3 : Int32))]) rfl k_) ?_
  show own_Go _ _ _ _ (T0.setTop (mkF m 28 #[.val (.ref r0), .val (.int (2 : Int32)), .val (.int (1 : Int32)), .val (.int (3 : Int32)), .val (.int (3 : Int32))] []))
  refine own_go (fun t_ k_ => XS.goto A0.here hx rfl (pc0 := 28) (pc' := 7) rfl (hb hby d9_28) (by decide) (by decide) k_) ?_
  show own_Go _ _ _ _ (T0.setTop (mkF m 7 #[.val (.ref r0), .val (.int (2 : Int32)), .val (.int (1 : Int32)), .val (.int (3 : Int32)), .val (.int (3 : Int32))] []))
  refine own_go (fun t_ k_ => XS.iload A0.here hx rfl (hb hby d9_7) rfl k_) ?_
  show own_Go _ _ _ _ (T0.setTop (mkF m 9 #[.val (.ref r0), .val (.int (2 : Int32)), .val (.int (1 : Int32)), .val (.int (3 : Int32)), .val (.int (3 : Int32))] [(.int (3 : Int32))]))
  refine own_go (fun t_ k_ => XS.iloadN A0.here hx rfl (hb hby d9_9) rfl k_) ?_
  show own_Go _ _ _ _ (T0.setTop (mkF m 10 #[.val (.ref r0), .val (.int (2 : Int32)), .val (.int (1 : Int32)), .val (.int (3 : Int32)), .val (.int (3 : Int32))] [(.int (3 : Int32)), (.int (3 : Int32))]))
  have hc3 : ¬ ((3 : Int32) < (3 : Int32)) := (by decide)
  refine own_go (fun t_ k_ => XS.icmpYes A0.here hx rfl (pc0 := 10) (pc' := 31) rfl (hb hby d9_10) rfl (flt hc3).2.1 (by decide) (by decide) k_) ?_
  show own_Go _ _ _ _ (T0.setTop (mkF m 31 #[.val (.ref r0), .val (.int (2 : Int32)), .val (.int (1 : Int32)), .val (.int (3 : Int32)), .val (.int (3 : Int32))] []))
  refine own_go (fun t_ k_ => XS.iloadN A0.here hx rfl (hb hby d9_31) rfl k_) ?_
  show own_Go _ _ _ _ (T0.setTop (mkF m 32 #[.val (.ref r0), .val (.int (2 : Int32)), .val (.int (1 : Int32)), .val (.int (3 : Int32)), .val (.int (3 : Int32))] [(.int (1 : Int32))]))
  refine own_retI A0 hx hret hlk (by decide) (by decide) (hb hby d9_32) ?_
  exact ⟨rfl, rfl⟩
theorem ef_8 (m : MethodId) (r0 : Addr) (y1 : Int32) (y2 : Int32) : entryFrame m #[(.ref r0), (.int y1), (.int y2)] 3 = mkF m 0 #[.val (.ref r0), .val (.int y1), .val (.int y2)] [] := by first | (simp [entryFrame, mkF, argsToLocals, Value.category]; done) | rfl
theorem d8_0 : decode jdk_123_method_2_code 0 = .ok (.aload_n 0, 1) := by decide +kernel
theorem d8_1 : decode jdk_123_method_2_code 1 = .ok (.iload_n 1, 1) := by decide +kernel
theorem d8_2 : decode jdk_123_method_2_code 2 = .ok (.iload_n 2, 1) := by decide +kernel
theorem d8_3 : decode jdk_123_method_2_code 3 = .ok (.invokestatic 7, 3) := by decide +kernel
theorem pd___BII_I : parseMethodDescriptor "([BII)I" = some ⟨[(.array .byte), .int, .int], some .int⟩ := by decide +kernel
theorem d8_6 : decode jdk_123_method_2_code 6 = .ok (.iload_n 2, 1) := by decide +kernel
theorem d8_7 : decode jdk_123_method_2_code 7 = .ok (.if_icmp .eq 7, 3) := by decide +kernel
theorem d8_14 : decode jdk_123_method_2_code 14 = .ok (.iconst 0, 1) := by decide +kernel
theorem d8_15 : decode jdk_123_method_2_code 15 = .ok (.ireturn, 1) := by decide +kernel
set_option maxRecDepth 65536 in
set_option maxHeartbeats 40000000 in
theorem rm8 (l : Launch) (Z : State) (a0 : Array Value) (hw : ∀ d ∈ tables_1, d.before a0 Z = true) (r0 : Addr) (h0 : Heap) (n0 : Nat) (V0 : own_Arr Z h0 r0 .byte (3 : Int32) (fun j => ([97, 44, 98] : List Int32).getD j.toNatClampNeg 0)) :
    own_Met l Z n0 (⟨"java/lang/StringCoding", "hasNegatives", "([BII)Z"⟩ : MethodName) jdk_123_method_2_code 3 (some .boolean) ({ frames := 1, cells := 0, slots := 0, locals := 16 } : Room) #[(.ref r0), (.int (0 : Int32)), (.int (3 : Int32))] h0 (fun v h => v = some (.int 0) ∧ h0 = h) := by
  refine own_met (plainFor_of_name pn_9) ?_
  intro p e s m below meth c T0 hx hby hml hown hnm hret hlk hZ A0
  rw [ef_8]
  show own_Go _ _ _ _ (T0.setTop (mkF m 0 #[.val (.ref r0), .val (.int (0 : Int32)), .val (.int (3 : Int32))] []))
  refine own_go (fun t_ k_ => XS.aloadN A0.here hx rfl (hb hby d8_0) rfl rfl k_) ?_
  show own_Go _ _ _ _ (T0.setTop (mkF m 1 #[.val (.ref r0), .val (.int (0 : Int32)), .val (.int (3 : Int32))] [(.ref r0)]))
  refine own_go (fun t_ k_ => XS.iloadN A0.here hx rfl (hb hby d8_1) rfl k_) ?_
  show own_Go _ _ _ _ (T0.setTop (mkF m 2 #[.val (.ref r0), .val (.int (0 : Int32)), .val (.int (3 : Int32))] [(.int (0 : Int32)), (.ref r0)]))
  refine own_go (fun t_ k_ => XS.iloadN A0.here hx rfl (hb hby d8_2) rfl k_) ?_
  show own_Go _ _ _ _ (T0.setTop (mkF m 3 #[.val (.ref r0), .val (.int (0 : Int32)), .val (.int (3 : Int32))] [(.int (3 : Int32)), (.int (0 : Int32)), (.ref r0)]))
  refine own_callS A0 hx hZ hown (y := (⟨"java/lang/StringCoding", "countPositives", "([BII)I"⟩ : MethodName)) (hw _ (List.mem_of_getElem? (i := 50) rfl)) (hw _ (List.mem_of_getElem? (i := 51) rfl)) (hw _ (List.mem_of_getElem? (i := 48) rfl)) (hw _ (List.mem_of_getElem? (i := 52) rfl)) (by decide) (argsL := [(.ref r0), (.int (0 : Int32)), (.int (3 : Int32))]) (rest := []) (rm9_0_3 l Z a0 hw r0 h0 n0 V0) 0 (by decide) (by decide) rfl (by rw [hml]; rfl) (lenOf pd___BII_I rfl) rfl (by show 2 * 0 + _ ≤ _; exact Nat.le_of_eq rfl) (hb hby d8_3) (by decide) (by decide) (fun v4 T1 h3 A2 hQ5 => ?_)
  obtain ⟨rfl, rfl⟩ := hQ5
  show own_Go _ _ _ _ (T1.setTop (mkF m 6 #[.val (.ref r0), .val (.int (0 : Int32)), .val (.int (3 : Int32))] [(.int (3 : Int32))]))
  refine own_go (fun t_ k_ => XS.iloadN A2.here hx rfl (hb hby d8_6) rfl k_) ?_
  show own_Go _ _ _ _ (T1.setTop (mkF m 7 #[.val (.ref r0), .val (.int (0 : Int32)), .val (.int (3 : Int32))] [(.int (3 : Int32)), (.int (3 : Int32))]))
  have hc6 : (3 : Int32) = (3 : Int32) := (by decide)
  refine own_go (fun t_ k_ => XS.icmpYes A2.here hx rfl (pc0 := 7) (pc' := 14) rfl (hb hby d8_7) rfl (teq hc6).1 (by decide) (by decide) k_) ?_
  show own_Go _ _ _ _ (T1.setTop (mkF m 14 #[.val (.ref r0), .val (.int (0 : Int32)), .val (.int (3 : Int32))] []))
  refine own_go (fun t_ k_ => XS.iconst A2.here hx rfl (hb hby d8_14) k_) ?_
  show own_Go _ _ _ _ (T1.setTop (mkF m 15 #[.val (.ref r0), .val (.int (0 : Int32)), .val (.int (3 : Int32))] [(.int (0 : Int32))]))
  refine own_retN A2 hx (t := .boolean) hret (by simp) hlk (by decide) (by decide) (hb hby d8_15) ?_
  exact ⟨rfl, rfl⟩
theorem ef_7 (m : MethodId) (y0 : Int32) (r1 : Addr) (y2 : Int32) : entryFrame m #[(.int y0), (.ref r1), (.int y2)] 9 = mkF m 0 #[.val (.int y0), .val (.ref r1), .val (.int y2), .unset, .unset, .unset, .unset, .unset, .unset] [] := by first | (simp [entryFrame, mkF, argsToLocals, Value.category]; done) | rfl
theorem d7_0 : decode jdk_42_method_46_code 0 = .ok (.iload_n 0, 1) := by decide +kernel
theorem d7_1 : decode jdk_42_method_46_code 1 = .ok (.iconst 1, 1) := by decide +kernel
theorem d7_2 : decode jdk_42_method_46_code 2 = .ok (.if_icmp .ne 9, 3) := by decide +kernel
theorem d7_11 : decode jdk_42_method_46_code 11 = .ok (.aload_n 1, 1) := by decide +kernel
theorem d7_12 : decode jdk_42_method_46_code 12 = .ok (.iconst 0, 1) := by decide +kernel
theorem d7_13 : decode jdk_42_method_46_code 13 = .ok (.aload_n 1, 1) := by decide +kernel
theorem d7_14 : decode jdk_42_method_46_code 14 = .ok (.arraylength, 1) := by decide +kernel
theorem d7_15 : decode jdk_42_method_46_code 15 = .ok (.invokestatic 128, 3) := by decide +kernel
theorem pd___BII_Z : parseMethodDescriptor "([BII)Z" = some ⟨[(.array .byte), .int, .int], some .boolean⟩ := by decide +kernel
theorem d7_18 : decode jdk_42_method_46_code 18 = .ok (.ifCond .ne 11, 3) := by decide +kernel
theorem d7_21 : decode jdk_42_method_46_code 21 = .ok (.aload_n 1, 1) := by decide +kernel
theorem d7_22 : decode jdk_42_method_46_code 22 = .ok (.invokevirtual 279, 3) := by decide +kernel
theorem d7_25 : decode jdk_42_method_46_code 25 = .ok (.checkcast 280, 3) := by decide +kernel
theorem d7_28 : decode jdk_42_method_46_code 28 = .ok (.areturn, 1) := by decide +kernel
set_option maxRecDepth 65536 in
set_option maxHeartbeats 40000000 in
theorem rm7 (l : Launch) (Z : State) (a0 : Array Value) (hw : ∀ d ∈ tables_1, d.before a0 Z = true) (r1 : Addr) (h0 : Heap) (n0 : Nat) (Z0 : n0 ≤ h0.size) (V1 : own_Arr Z h0 r1 .byte (3 : Int32) (fun j => ([97, 44, 98] : List Int32).getD j.toNatClampNeg 0)) (E1 : Exa Z h0 r1 "[B") :
    own_Met l Z n0 (⟨"java/lang/String", "encodeUTF8", "(B[BZ)[B"⟩ : MethodName) jdk_42_method_46_code 9 (some (.array .byte)) ({ frames := 2, cells := 1, slots := 3, locals := 30 } : Room) #[(.int (0 : Int32)), (.ref r1), (.int (1 : Int32))] h0 (fun v h => Keep h0 h [] ∧ ∃ t, v = some (.ref t) ∧ n0 ≤ t ∧ h0.size ≤ t ∧ own_Arr Z h t .byte (3 : Int32) (fun j => ([97, 44, 98] : List Int32).getD j.toNatClampNeg 0) ∧ Exa Z h t "[B") := by
  refine own_met (plainFor_of_name pn_5) ?_
  intro p e s m below meth c T0 hx hby hml hown hnm hret hlk hZ A0
  rw [ef_7]
  show own_Go _ _ _ _ (T0.setTop (mkF m 0 #[.val (.int (0 : Int32)), .val (.ref r1), .val (.int (1 : Int32)), .unset, .unset, .unset, .unset, .unset, .unset] []))
  refine own_go (fun t_ k_ => XS.iloadN A0.here hx rfl (hb hby d7_0) rfl k_) ?_
  show own_Go _ _ _ _ (T0.setTop (mkF m 1 #[.val (.int (0 : Int32)), .val (.ref r1), .val (.int (1 : Int32)), .unset, .unset, .unset, .unset, .unset, .unset] [(.int (0 : Int32))]))
  refine own_go (fun t_ k_ => XS.iconst A0.here hx rfl (hb hby d7_1) k_) ?_
  show own_Go _ _ _ _ (T0.setTop (mkF m 2 #[.val (.int (0 : Int32)), .val (.ref r1), .val (.int (1 : Int32)), .unset, .unset, .unset, .unset, .unset, .unset] [(.int (1 : Int32)), (.int (0 : Int32))]))
  have hc1 : ¬ ((0 : Int32) = (1 : Int32)) := (by decide)
  refine own_go (fun t_ k_ => XS.icmpYes A0.here hx rfl (pc0 := 2) (pc' := 11) rfl (hb hby d7_2) rfl (feq hc1).2 (by decide) (by decide) k_) ?_
  show own_Go _ _ _ _ (T0.setTop (mkF m 11 #[.val (.int (0 : Int32)), .val (.ref r1), .val (.int (1 : Int32)), .unset, .unset, .unset, .unset, .unset, .unset] []))
  refine own_go (fun t_ k_ => XS.aloadN A0.here hx rfl (hb hby d7_11) rfl rfl k_) ?_
  show own_Go _ _ _ _ (T0.setTop (mkF m 12 #[.val (.int (0 : Int32)), .val (.ref r1), .val (.int (1 : Int32)), .unset, .unset, .unset, .unset, .unset, .unset] [(.ref r1)]))
  refine own_go (fun t_ k_ => XS.iconst A0.here hx rfl (hb hby d7_12) k_) ?_
  show own_Go _ _ _ _ (T0.setTop (mkF m 13 #[.val (.int (0 : Int32)), .val (.ref r1), .val (.int (1 : Int32)), .unset, .unset, .unset, .unset, .unset, .unset] [(.int (0 : Int32)), (.ref r1)]))
  refine own_go (fun t_ k_ => XS.aloadN A0.here hx rfl (hb hby d7_13) rfl rfl k_) ?_
  show own_Go _ _ _ _ (T0.setTop (mkF m 14 #[.val (.int (0 : Int32)), .val (.ref r1), .val (.int (1 : Int32)), .unset, .unset, .unset, .unset, .unset, .unset] [(.ref r1), (.int (0 : Int32)), (.ref r1)]))
  refine own_len A0 hx hZ V1 rfl rfl (hb hby d7_14) ?_
  show own_Go _ _ _ _ (T0.setTop (mkF m 15 #[.val (.int (0 : Int32)), .val (.ref r1), .val (.int (1 : Int32)), .unset, .unset, .unset, .unset, .unset, .unset] [(.int (3 : Int32)), (.int (0 : Int32)), (.ref r1)]))
  refine own_callS A0 hx hZ hown (y := (⟨"java/lang/StringCoding", "hasNegatives", "([BII)Z"⟩ : MethodName)) (hw _ (List.mem_of_getElem? (i := 46) rfl)) (hw _ (List.mem_of_getElem? (i := 47) rfl)) (hw _ (List.mem_of_getElem? (i := 48) rfl)) (hw _ (List.mem_of_getElem? (i := 49) rfl)) (by decide) (argsL := [(.ref r1), (.int (0 : Int32)), (.int (3 : Int32))]) (rest := []) (rm8 l Z a0 hw r1 h0 n0 V1) 0 (by decide) (by decide) rfl (by rw [hml]; rfl) (lenOf pd___BII_Z rfl) rfl (by show 2 * 0 + _ ≤ _; exact Nat.le_of_eq rfl) (hb hby d7_15) (by decide) (by decide) (fun v5 T2 h4 A3 hQ6 => ?_)
  obtain ⟨rfl, rfl⟩ := hQ6
  show own_Go _ _ _ _ (T2.setTop (mkF m 18 #[.val (.int (0 : Int32)), .val (.ref r1), .val (.int (1 : Int32)), .unset, .unset, .unset, .unset, .unset, .unset] [(.int (0 : Int32))]))
  have hc7 : (0 : Int32) = (0 : Int32) := (by decide)
  refine own_go (fun t_ k_ => XS.ifNo A3.here hx rfl (hb hby d7_18) rfl ((if0 _ _).trans (teq hc7).2) k_) ?_
  show own_Go _ _ _ _ (T2.setTop (mkF m 21 #[.val (.int (0 : Int32)), .val (.ref r1), .val (.int (1 : Int32)), .unset, .unset, .unset, .unset, .unset, .unset] []))
  refine own_go (fun t_ k_ => XS.aloadN A3.here hx rfl (hb hby d7_21) rfl rfl k_) ?_
  show own_Go _ _ _ _ (T2.setTop (mkF m 22 #[.val (.int (0 : Int32)), .val (.ref r1), .val (.int (1 : Int32)), .unset, .unset, .unset, .unset, .unset, .unset] [(.ref r1)]))
  refine own_cloneB A3 hx hZ hown (hw _ (List.mem_of_getElem? (i := 53) rfl)) (hw _ (List.mem_of_getElem? (i := 54) rfl)) (hw _ (List.mem_of_getElem? (i := 58) rfl)) (hw _ (List.mem_of_getElem? (i := 56) rfl)) (hw _ (List.mem_of_getElem? (i := 57) rfl)) (hw _ (List.mem_of_getElem? (i := 59) rfl)) V1 E1 own_fitJ rfl (by rw [hml]; rfl) (rest := []) rfl (hb hby d7_22) (by decide) 0 (by show 2 * 0 + _ ≤ _; exact Nat.le_of_eq rfl) (by decide) 3 (by decide) (by decide) (by decide) (fun T8 h10 b11 ha_b11 A9 E12 V13 X14 => ?_)
  have ne_r1_b11 : r1 ≠ b11 := Nat.ne_of_lt (by rw [ha_b11]; exact V1.lt)
  have g_b11 : n0 ≤ b11 := by rw [ha_b11]; exact Z0
  have nw_b11 : h0.size ≤ b11 := by rw [ha_b11]; exact (Keep.refl h0 []).1
  have Z15 : n0 ≤ h10.size := Nat.le_trans Z0 E12.1
  have K16 : Keep h0 h10 [] := (Keep.refl h0 []).ext E12
  have V17 : own_Arr Z h10 r1 .byte (3 : Int32) (fun j => ([97, 44, 98] : List Int32).getD j.toNatClampNeg 0) := V1.ext E12
  have E18 : Exa Z h10 r1 "[B" := E1.ext E12
  show own_Go _ _ _ _ (T8.setTop (mkF m 25 #[.val (.int (0 : Int32)), .val (.ref r1), .val (.int (1 : Int32)), .unset, .unset, .unset, .unset, .unset, .unset] [(.ref b11)]))
  refine own_cast A9 hx hZ hown (hw _ (List.mem_of_getElem? (i := 60) rfl)) (Ins.of_exa X14 (hw _ (List.mem_of_getElem? (i := 61) rfl))) rfl rfl (hb hby d7_25) (fun T19 A20 => ?_)
  show own_Go _ _ _ _ (T19.setTop (mkF m 28 #[.val (.int (0 : Int32)), .val (.ref r1), .val (.int (1 : Int32)), .unset, .unset, .unset, .unset, .unset, .unset] [(.ref b11)]))
  refine own_retA A20 hx hret rfl hlk (by decide) (by decide) rfl (hb hby d7_28) ?_
  exact ⟨K16, b11, rfl, g_b11, nw_b11, V13, X14⟩
theorem ef_6 (m : MethodId) (u8 : Addr) (y1 : Int32) (r2 : Addr) : entryFrame m #[(.ref u8), (.int y1), (.ref r2)] 3 = mkF m 0 #[.val (.ref u8), .val (.int y1), .val (.ref r2)] [] := by first | (simp [entryFrame, mkF, argsToLocals, Value.category]; done) | rfl
theorem d6_0 : decode jdk_42_method_18_code 0 = .ok (.aload_n 0, 1) := by decide +kernel
theorem d6_1 : decode jdk_42_method_18_code 1 = .ok (.getstatic 86, 3) := by decide +kernel
theorem d6_4 : decode jdk_42_method_18_code 4 = .ok (.if_acmp .ne 10, 3) := by decide +kernel
theorem d6_7 : decode jdk_42_method_18_code 7 = .ok (.iload_n 1, 1) := by decide +kernel
theorem d6_8 : decode jdk_42_method_18_code 8 = .ok (.aload_n 2, 1) := by decide +kernel
theorem d6_9 : decode jdk_42_method_18_code 9 = .ok (.iconst 1, 1) := by decide +kernel
theorem d6_10 : decode jdk_42_method_18_code 10 = .ok (.invokestatic 252, 3) := by decide +kernel
theorem pd__B_BZ__B : parseMethodDescriptor "(B[BZ)[B" = some ⟨[.byte, (.array .byte), .boolean], some (.array .byte)⟩ := by decide +kernel
theorem d6_13 : decode jdk_42_method_18_code 13 = .ok (.areturn, 1) := by decide +kernel
set_option maxRecDepth 65536 in
set_option maxHeartbeats 40000000 in
theorem rm6 (l : Launch) (Z : State) (a0 : Array Value) (hw : ∀ d ∈ tables_1, d.before a0 Z = true) (u8 : Addr) (r2 : Addr) (u8 : Addr) (h0 : Heap) (n0 : Nat) (O0 : Old Z n0 h0) (Z0 : n0 ≤ h0.size) (V1 : own_Arr Z h0 r2 .byte (3 : Int32) (fun j => ([97, 44, 98] : List Int32).getD j.toNatClampNeg 0)) (E1 : Exa Z h0 r2 "[B") (S_INSTANCE : Sta Z Z.heap "sun/nio/cs/UTF_8" "INSTANCE" "Lsun/nio/cs/UTF_8;" (.ref u8)) :
    own_Met l Z n0 (⟨"java/lang/String", "encode", "(Ljava/nio/charset/Charset;B[B)[B"⟩ : MethodName) jdk_42_method_18_code 3 (some (.array .byte)) ({ frames := 3, cells := 1, slots := 3, locals := 50 } : Room) #[(.ref u8), (.int (0 : Int32)), (.ref r2)] h0 (fun v h => Keep h0 h [] ∧ ∃ t, v = some (.ref t) ∧ n0 ≤ t ∧ h0.size ≤ t ∧ own_Arr Z h t .byte (3 : Int32) (fun j => ([97, 44, 98] : List Int32).getD j.toNatClampNeg 0) ∧ Exa Z h t "[B") := by
  refine own_met (plainFor_of_name pn_5) ?_
  intro p e s m below meth c T0 hx hby hml hown hnm hret hlk hZ A0
  rw [ef_6]
  show own_Go _ _ _ _ (T0.setTop (mkF m 0 #[.val (.ref u8), .val (.int (0 : Int32)), .val (.ref r2)] []))
  refine own_go (fun t_ k_ => XS.aloadN A0.here hx rfl (hb hby d6_0) rfl rfl k_) ?_
  show own_Go _ _ _ _ (T0.setTop (mkF m 1 #[.val (.ref u8), .val (.int (0 : Int32)), .val (.ref r2)] [(.ref u8)]))
  refine own_getS A0 hx hZ hown (host := "") (Or.inl (hw _ (List.mem_of_getElem? (i := 41) rfl))) Via.refl (S_INSTANCE.ext O0.2) rfl (hb hby d6_1) (fun T1 A2 => ?_)
  show own_Go _ _ _ _ (T1.setTop (mkF m 4 #[.val (.ref u8), .val (.int (0 : Int32)), .val (.ref r2)] [(.ref u8), (.ref u8)]))
  have hc3 : u8 = u8 := rfl
  refine own_go (fun t_ k_ => XS.acmpNo A2.here hx rfl (hb hby d6_4) rfl (own_aeq hc3).2 k_) ?_
  show own_Go _ _ _ _ (T1.setTop (mkF m 7 #[.val (.ref u8), .val (.int (0 : Int32)), .val (.ref r2)] []))
  refine own_go (fun t_ k_ => XS.iloadN A2.here hx rfl (hb hby d6_7) rfl k_) ?_
  show own_Go _ _ _ _ (T1.setTop (mkF m 8 #[.val (.ref u8), .val (.int (0 : Int32)), .val (.ref r2)] [(.int (0 : Int32))]))
  refine own_go (fun t_ k_ => XS.aloadN A2.here hx rfl (hb hby d6_8) rfl rfl k_) ?_
  show own_Go _ _ _ _ (T1.setTop (mkF m 9 #[.val (.ref u8), .val (.int (0 : Int32)), .val (.ref r2)] [(.ref r2), (.int (0 : Int32))]))
  refine own_go (fun t_ k_ => XS.iconst A2.here hx rfl (hb hby d6_9) k_) ?_
  show own_Go _ _ _ _ (T1.setTop (mkF m 10 #[.val (.ref u8), .val (.int (0 : Int32)), .val (.ref r2)] [(.int (1 : Int32)), (.ref r2), (.int (0 : Int32))]))
  refine own_callS A2 hx hZ hown (y := (⟨"java/lang/String", "encodeUTF8", "(B[BZ)[B"⟩ : MethodName)) (hw _ (List.mem_of_getElem? (i := 43) rfl)) (hw _ (List.mem_of_getElem? (i := 44) rfl)) (hw _ (List.mem_of_getElem? (i := 10) rfl)) (hw _ (List.mem_of_getElem? (i := 45) rfl)) (by decide) (argsL := [(.int (0 : Int32)), (.ref r2), (.int (1 : Int32))]) (rest := []) (rm7 l Z a0 hw r2 h0 n0 Z0 V1 E1) 0 (by decide) (by decide) rfl (by rw [hml]; rfl) (lenOf pd__B_BZ__B rfl) rfl (by show 2 * 0 + _ ≤ _; exact Nat.le_of_eq rfl) (hb hby d6_10) (by decide) (by decide) (fun v7 T4 h6 A5 hQ8 => ?_)
  obtain ⟨K9, t10, rfl, gt11, nt12, V13, E14⟩ := hQ8
  have ne_r2_t10 : r2 ≠ t10 := Nat.ne_of_lt (Nat.lt_of_lt_of_le V1.lt nt12)
  have nw_t10 : h0.size ≤ t10 := Nat.le_trans (Keep.refl h0 []).1 nt12
  have O15 : Old Z n0 h6 := O0.keep K9 all0
  have Z16 : n0 ≤ h6.size := Nat.le_trans Z0 K9.1
  have K17 : Keep h0 h6 [] := (Keep.refl h0 []).trans K9 all0
  have V18 : own_Arr Z h6 r2 .byte (3 : Int32) (fun j => ([97, 44, 98] : List Int32).getD j.toNatClampNeg 0) := V1.keep K9 nin0
  have E19 : Exa Z h6 r2 "[B" := E1.keep K9
  show own_Go _ _ _ _ (T4.setTop (mkF m 13 #[.val (.ref u8), .val (.int (0 : Int32)), .val (.ref r2)] [(.ref t10)]))
  refine own_retA A5 hx hret rfl hlk (by decide) (by decide) rfl (hb hby d6_13) ?_
  exact ⟨K17, t10, rfl, gt11, nw_t10, V13, E14⟩
theorem ef_4 (m : MethodId) (r0 : Addr) (u8 : Addr) : entryFrame m #[(.ref r0), (.ref u8)] 2 = mkF m 0 #[.val (.ref r0), .val (.ref u8)] [] := by first | (simp [entryFrame, mkF, argsToLocals, Value.category]; done) | rfl
theorem d4_0 : decode jdk_42_method_64_code 0 = .ok (.aload_n 1, 1) := by decide +kernel
theorem d4_1 : decode jdk_42_method_64_code 1 = .ok (.ifnonnull 11, 3) := by decide +kernel
theorem d4_12 : decode jdk_42_method_64_code 12 = .ok (.aload_n 1, 1) := by decide +kernel
theorem d4_13 : decode jdk_42_method_64_code 13 = .ok (.aload_n 0, 1) := by decide +kernel
theorem d4_14 : decode jdk_42_method_64_code 14 = .ok (.invokevirtual 335, 3) := by decide +kernel
theorem pd___B : parseMethodDescriptor "()B" = some ⟨[], some .byte⟩ := by decide +kernel
theorem d4_17 : decode jdk_42_method_64_code 17 = .ok (.aload_n 0, 1) := by decide +kernel
theorem d4_18 : decode jdk_42_method_64_code 18 = .ok (.getfield 9, 3) := by decide +kernel
theorem d4_21 : decode jdk_42_method_64_code 21 = .ok (.invokestatic 535, 3) := by decide +kernel
theorem pd__Ljava_nio_charset_Charset_B_B__B : parseMethodDescriptor "(Ljava/nio/charset/Charset;B[B)[B" = some ⟨[(.object "java/nio/charset/Charset"), .byte, (.array .byte)], some (.array .byte)⟩ := by decide +kernel
theorem d4_24 : decode jdk_42_method_64_code 24 = .ok (.areturn, 1) := by decide +kernel
set_option maxRecDepth 65536 in
set_option maxHeartbeats 40000000 in
theorem rm4 (l : Launch) (Z : State) (a0 : Array Value) (hw : ∀ d ∈ tables_1, d.before a0 Z = true) (r0 : Addr) (u8 : Addr) (t0 : Addr) (z_C : Int32) (h0 : Heap) (n0 : Nat) (O0 : Old Z n0 h0) (Z0 : n0 ≤ h0.size) (hz : ¬ z_C = 0) (E0 : Exa Z h0 r0 "java/lang/String") (Fc : Fld Z h0 r0 "java/lang/String" "coder" "B" (.int (0 : Int32))) (Fv : Fld Z h0 r0 "java/lang/String" "value" "[B" (.ref t0)) (Vs : own_Arr Z h0 t0 .byte (3 : Int32) (fun j => ([97, 44, 98] : List Int32).getD j.toNatClampNeg 0)) (Es : Exa Z h0 t0 "[B") (S_COMPACT_STRINGS : Sta Z Z.heap "java/lang/String" "COMPACT_STRINGS" "Z" (.int z_C)) (S_INSTANCE : Sta Z Z.heap "sun/nio/cs/UTF_8" "INSTANCE" "Lsun/nio/cs/UTF_8;" (.ref u8)) :
    own_Met l Z n0 (⟨"java/lang/String", "getBytes", "(Ljava/nio/charset/Charset;)[B"⟩ : MethodName) jdk_42_method_64_code 2 (some (.array .byte)) ({ frames := 4, cells := 1, slots := 3, locals := 64 } : Room) #[(.ref r0), (.ref u8)] h0 (fun v h => Keep h0 h [] ∧ ∃ t, v = some (.ref t) ∧ n0 ≤ t ∧ h0.size ≤ t ∧ own_Arr Z h t .byte (3 : Int32) (fun j => ([97, 44, 98] : List Int32).getD j.toNatClampNeg 0) ∧ Exa Z h t "[B") := by
  refine own_met (plainFor_of_name pn_5) ?_
  intro p e s m below meth c T0 hx hby hml hown hnm hret hlk hZ A0
  rw [ef_4]
  show own_Go _ _ _ _ (T0.setTop (mkF m 0 #[.val (.ref r0), .val (.ref u8)] []))
  refine own_go (fun t_ k_ => XS.aloadN A0.here hx rfl (hb hby d4_0) rfl rfl k_) ?_
  show own_Go _ _ _ _ (T0.setTop (mkF m 1 #[.val (.ref r0), .val (.ref u8)] [(.ref u8)]))
  refine own_go (fun t_ k_ => XS.ifnonnullYes A0.here hx rfl (pc0 := 1) (pc' := 12) rfl (hb hby d4_1) rfl (by decide) (by decide) k_) ?_
  show own_Go _ _ _ _ (T0.setTop (mkF m 12 #[.val (.ref r0), .val (.ref u8)] []))
  refine own_go (fun t_ k_ => XS.aloadN A0.here hx rfl (hb hby d4_12) rfl rfl k_) ?_
  show own_Go _ _ _ _ (T0.setTop (mkF m 13 #[.val (.ref r0), .val (.ref u8)] [(.ref u8)]))
  refine own_go (fun t_ k_ => XS.aloadN A0.here hx rfl (hb hby d4_13) rfl rfl k_) ?_
  show own_Go _ _ _ _ (T0.setTop (mkF m 14 #[.val (.ref r0), .val (.ref u8)] [(.ref r0), (.ref u8)]))
  refine own_callV A0 hx hZ (y := (⟨"java/lang/String", "coder", "()B"⟩ : MethodName)) (z := (⟨"java/lang/String", "coder", "()B"⟩ : MethodName)) hown (hw _ (List.mem_of_getElem? (i := 30) rfl)) (hw _ (List.mem_of_getElem? (i := 31) rfl)) (hw _ (List.mem_of_getElem? (i := 33) rfl)) (hw _ (List.mem_of_getElem? (i := 32) rfl)) (hw _ (List.mem_of_getElem? (i := 10) rfl)) (hw _ (List.mem_of_getElem? (i := 34) rfl)) (notFace_of_selects (args := #[]) (mvT hZ (hw _ (List.mem_of_getElem? (i := 33) rfl)))) (by decide) (b := r0) (argsL := []) (rest := [(.ref u8)]) E0 (rm5 l Z a0 hw r0 z_C h0 n0 (S_COMPACT_STRINGS.ext O0.2) hz Fc) 1 (by decide) (by decide) rfl (by rw [hml]; rfl) (lenOf pd___B rfl) rfl (by show 2 * 0 + _ ≤ _; exact Nat.le_of_eq rfl) (hb hby d4_14) (by decide) (by decide) (fun v4 T1 h3 A2 hQ5 => ?_)
  obtain ⟨rfl, rfl⟩ := hQ5
  show own_Go _ _ _ _ (T1.setTop (mkF m 17 #[.val (.ref r0), .val (.ref u8)] [(.int (0 : Int32)), (.ref u8)]))
  refine own_go (fun t_ k_ => XS.aloadN A2.here hx rfl (hb hby d4_17) rfl rfl k_) ?_
  show own_Go _ _ _ _ (T1.setTop (mkF m 18 #[.val (.ref r0), .val (.ref u8)] [(.ref r0), (.int (0 : Int32)), (.ref u8)]))
  refine own_getF A2 hx hZ hown (host := "") (Or.inl (hw _ (List.mem_of_getElem? (i := 37) rfl))) Via.refl Fv rfl rfl (hb hby d4_18) (fun T6 A7 => ?_)
  show own_Go _ _ _ _ (T6.setTop (mkF m 21 #[.val (.ref r0), .val (.ref u8)] [(.ref t0), (.int (0 : Int32)), (.ref u8)]))
  refine own_callS A7 hx hZ hown (y := (⟨"java/lang/String", "encode", "(Ljava/nio/charset/Charset;B[B)[B"⟩ : MethodName)) (hw _ (List.mem_of_getElem? (i := 38) rfl)) (hw _ (List.mem_of_getElem? (i := 39) rfl)) (hw _ (List.mem_of_getElem? (i := 10) rfl)) (hw _ (List.mem_of_getElem? (i := 40) rfl)) (by decide) (argsL := [(.ref u8), (.int (0 : Int32)), (.ref t0)]) (rest := []) (rm6 l Z a0 hw u8 t0 u8 h0 n0 O0 Z0 Vs Es S_INSTANCE) 0 (by decide) (by decide) rfl (by rw [hml]; rfl) (lenOf pd__Ljava_nio_charset_Charset_B_B__B rfl) rfl (by show 2 * 0 + _ ≤ _; exact Nat.le_of_eq rfl) (hb hby d4_21) (by decide) (by decide) (fun v11 T8 h10 A9 hQ12 => ?_)
  obtain ⟨K13, t14, rfl, gt15, nt16, V17, E18⟩ := hQ12
  have ne_r0_t14 : r0 ≠ t14 := Nat.ne_of_lt (Nat.lt_of_lt_of_le E0.lt nt16)
  have ne_t0_t14 : t0 ≠ t14 := Nat.ne_of_lt (Nat.lt_of_lt_of_le Vs.lt nt16)
  have nw_t14 : h0.size ≤ t14 := Nat.le_trans (Keep.refl h0 []).1 nt16
  have O19 : Old Z n0 h10 := O0.keep K13 all0
  have Z20 : n0 ≤ h10.size := Nat.le_trans Z0 K13.1
  have K21 : Keep h0 h10 [] := (Keep.refl h0 []).trans K13 all0
  have E22 : Exa Z h10 r0 "java/lang/String" := E0.keep K13
  have F23 : Fld Z h10 r0 "java/lang/String" "coder" "B" (.int (0 : Int32)) := Fc.keep K13 nin0
  have F24 : Fld Z h10 r0 "java/lang/String" "value" "[B" (.ref t0) := Fv.keep K13 nin0
  have V25 : own_Arr Z h10 t0 .byte (3 : Int32) (fun j => ([97, 44, 98] : List Int32).getD j.toNatClampNeg 0) := Vs.keep K13 nin0
  have E26 : Exa Z h10 t0 "[B" := Es.keep K13
  show own_Go _ _ _ _ (T8.setTop (mkF m 24 #[.val (.ref r0), .val (.ref u8)] [(.ref t14)]))
  refine own_retA A9 hx hret rfl hlk (by decide) (by decide) rfl (hb hby d4_24) ?_
  exact ⟨K21, t14, rfl, gt15, nw_t14, V17, E18⟩
theorem ef_13 (m : MethodId) (r0 : Addr) : entryFrame m #[(.ref r0)] 1 = mkF m 0 #[.val (.ref r0)] [] := by first | (simp [entryFrame, mkF, argsToLocals, Value.category]; done) | rfl
theorem pn_13 : plainName "java/util/Objects" = true := by first | (simp [plainName, overriddenIn]; done) | decide +kernel
theorem d13_0 : decode jdk_31_method_10_code 0 = .ok (.aload_n 0, 1) := by decide +kernel
theorem d13_1 : decode jdk_31_method_10_code 1 = .ok (.ifnonnull 11, 3) := by decide +kernel
theorem d13_12 : decode jdk_31_method_10_code 12 = .ok (.aload_n 0, 1) := by decide +kernel
theorem d13_13 : decode jdk_31_method_10_code 13 = .ok (.areturn, 1) := by decide +kernel
set_option maxRecDepth 65536 in
set_option maxHeartbeats 40000000 in
theorem rm13 (l : Launch) (Z : State) (a0 : Array Value) (hw : ∀ d ∈ tables_1, d.before a0 Z = true) (r0 : Addr) (h0 : Heap) (n0 : Nat) :
    own_Met l Z n0 (⟨"java/util/Objects", "requireNonNull", "(Ljava/lang/Object;)Ljava/lang/Object;"⟩ : MethodName) jdk_31_method_10_code 1 (some (.object "java/lang/Object")) ({ frames := 0, cells := 0, slots := 0, locals := 0 } : Room) #[(.ref r0)] h0 (fun v h => v = some (.ref r0) ∧ h0 = h) := by
  refine own_met (plainFor_of_name pn_13) ?_
  intro p e s m below meth c T0 hx hby hml hown hnm hret hlk hZ A0
  rw [ef_13]
  show own_Go _ _ _ _ (T0.setTop (mkF m 0 #[.val (.ref r0)] []))
  refine own_go (fun t_ k_ => XS.aloadN A0.here hx rfl (hb hby d13_0) rfl rfl k_) ?_
  show own_Go _ _ _ _ (T0.setTop (mkF m 1 #[.val (.ref r0)] [(.ref r0)]))
  refine own_go (fun t_ k_ => XS.ifnonnullYes A0.here hx rfl (pc0 := 1) (pc' := 12) rfl (hb hby d13_1) rfl (by decide) (by decide) k_) ?_
  show own_Go _ _ _ _ (T0.setTop (mkF m 12 #[.val (.ref r0)] []))
  refine own_go (fun t_ k_ => XS.aloadN A0.here hx rfl (hb hby d13_12) rfl rfl k_) ?_
  show own_Go _ _ _ _ (T0.setTop (mkF m 13 #[.val (.ref r0)] [(.ref r0)]))
  refine own_retA A0 hx hret rfl hlk (by decide) (by decide) rfl (hb hby d13_13) ?_
  exact ⟨rfl, rfl⟩
theorem ef_15 (m : MethodId) (p0 : Int32) (p1 : Int32) (p2 : Int32) (u3 : Value) (hr_u3 : u3.isRef = true) : entryFrame m #[(.int p0), (.int p1), (.int p2), u3] 4 = mkF m 0 #[.val (.int p0), .val (.int p1), .val (.int p2), .val u3] [] := by
  cases u3 <;> first | rfl | contradiction
theorem pn_15 : plainName "jdk/internal/util/Preconditions" = true := by first | (simp [plainName, overriddenIn]; done) | decide +kernel
theorem d15_0 : decode jdk_41_method_13_code 0 = .ok (.iload_n 2, 1) := by decide +kernel
theorem d15_1 : decode jdk_41_method_13_code 1 = .ok (.iload_n 0, 1) := by decide +kernel
theorem d15_2 : decode jdk_41_method_13_code 2 = .ok (.ior, 1) := by decide +kernel
theorem d15_3 : decode jdk_41_method_13_code 3 = .ok (.iload_n 1, 1) := by decide +kernel
theorem d15_4 : decode jdk_41_method_13_code 4 = .ok (.ior, 1) := by decide +kernel
theorem d15_5 : decode jdk_41_method_13_code 5 = .ok (.ifCond .lt 10, 3) := by decide +kernel
theorem d15_8 : decode jdk_41_method_13_code 8 = .ok (.iload_n 1, 1) := by decide +kernel
theorem d15_9 : decode jdk_41_method_13_code 9 = .ok (.iload_n 2, 1) := by decide +kernel
theorem d15_10 : decode jdk_41_method_13_code 10 = .ok (.iload_n 0, 1) := by decide +kernel
theorem d15_11 : decode jdk_41_method_13_code 11 = .ok (.isub, 1) := by decide +kernel
theorem d15_12 : decode jdk_41_method_13_code 12 = .ok (.if_icmp .le 11, 3) := by decide +kernel
theorem d15_23 : decode jdk_41_method_13_code 23 = .ok (.iload_n 0, 1) := by decide +kernel
theorem d15_24 : decode jdk_41_method_13_code 24 = .ok (.ireturn, 1) := by decide +kernel
set_option maxRecDepth 65536 in
set_option maxHeartbeats 40000000 in
theorem rm15 (l : Launch) (Z : State) (a0 : Array Value) (hw : ∀ d ∈ tables_1, d.before a0 Z = true) (p0 : Int32) (p1 : Int32) (p2 : Int32) (u3 : Value) (h0 : Heap) (n0 : Nat) (hr_u3 : u3.isRef = true) (hA : ¬ ((p2 ||| p0) ||| p1) < 0) (hB : ¬ (p2 - p0) < p1) :
    own_Met l Z n0 (⟨"jdk/internal/util/Preconditions", "checkFromIndexSize", "(IIILjava/util/function/BiFunction;)I"⟩ : MethodName) jdk_41_method_13_code 4 (some .int) ({ frames := 0, cells := 0, slots := 0, locals := 0 } : Room) #[(.int p0), (.int p1), (.int p2), u3] h0 (fun v h => v = some (.int p0) ∧ h0 = h) := by
  refine own_met (plainFor_of_name pn_15) ?_
  intro p e s m below meth c T0 hx hby hml hown hnm hret hlk hZ A0
  rw [ef_15 m p0 p1 p2 u3 hr_u3]
  show own_Go _ _ _ _ (T0.setTop (mkF m 0 #[.val (.int p0), .val (.int p1), .val (.int p2), .val u3] []))
  refine own_go (fun t_ k_ => XS.iloadN A0.here hx rfl (hb hby d15_0) rfl k_) ?_
  show own_Go _ _ _ _ (T0.setTop (mkF m 1 #[.val (.int p0), .val (.int p1), .val (.int p2), .val u3] [(.int p2)]))
  refine own_go (fun t_ k_ => XS.iloadN A0.here hx rfl (hb hby d15_1) rfl k_) ?_
  show own_Go _ _ _ _ (T0.setTop (mkF m 2 #[.val (.int p0), .val (.int p1), .val (.int p2), .val u3] [(.int p0), (.int p2)]))
  refine own_go (fun t_ k_ => XS.ior A0.here hx rfl (hb hby d15_2) rfl k_) ?_
  show own_Go _ _ _ _ (T0.setTop (mkF m 3 #[.val (.int p0), .val (.int p1), .val (.int p2), .val u3] [(.int (p2 ||| p0))]))
  refine own_go (fun t_ k_ => XS.iloadN A0.here hx rfl (hb hby d15_3) rfl k_) ?_
  show own_Go _ _ _ _ (T0.setTop (mkF m 4 #[.val (.int p0), .val (.int p1), .val (.int p2), .val u3] [(.int p1), (.int (p2 ||| p0))]))
  refine own_go (fun t_ k_ => XS.ior A0.here hx rfl (hb hby d15_4) rfl k_) ?_
  show own_Go _ _ _ _ (T0.setTop (mkF m 5 #[.val (.int p0), .val (.int p1), .val (.int p2), .val u3] [(.int ((p2 ||| p0) ||| p1))]))
  have hc1 : ¬ (((p2 ||| p0) ||| p1) < (0 : Int32)) := hA
  refine own_go (fun t_ k_ => XS.ifNo A0.here hx rfl (hb hby d15_5) rfl ((if0 _ _).trans (flt hc1).1) k_) ?_
  show own_Go _ _ _ _ (T0.setTop (mkF m 8 #[.val (.int p0), .val (.int p1), .val (.int p2), .val u3] []))
  refine own_go (fun t_ k_ => XS.iloadN A0.here hx rfl (hb hby d15_8) rfl k_) ?_
  show own_Go _ _ _ _ (T0.setTop (mkF m 9 #[.val (.int p0), .val (.int p1), .val (.int p2), .val u3] [(.int p1)]))
  refine own_go (fun t_ k_ => XS.iloadN A0.here hx rfl (hb hby d15_9) rfl k_) ?_
  show own_Go _ _ _ _ (T0.setTop (mkF m 10 #[.val (.int p0), .val (.int p1), .val (.int p2), .val u3] [(.int p2), (.int p1)]))
  refine own_go (fun t_ k_ => XS.iloadN A0.here hx rfl (hb hby d15_10) rfl k_) ?_
  show own_Go _ _ _ _ (T0.setTop (mkF m 11 #[.val (.int p0), .val (.int p1), .val (.int p2), .val u3] [(.int p0), (.int p2), (.int p1)]))
  refine own_go (fun t_ k_ => XS.isub A0.here hx rfl (hb hby d15_11) rfl k_) ?_
  show own_Go _ _ _ _ (T0.setTop (mkF m 12 #[.val (.int p0), .val (.int p1), .val (.int p2), .val u3] [(.int (p2 - p0)), (.int p1)]))
  have hc2 : ¬ ((p2 - p0) < p1) := hB
  refine own_go (fun t_ k_ => XS.icmpYes A0.here hx rfl (pc0 := 12) (pc' := 23) rfl (hb hby d15_12) rfl (flt hc2).2.2.2 (by decide) (by decide) k_) ?_
  show own_Go _ _ _ _ (T0.setTop (mkF m 23 #[.val (.int p0), .val (.int p1), .val (.int p2), .val u3] []))
  refine own_go (fun t_ k_ => XS.iloadN A0.here hx rfl (hb hby d15_23) rfl k_) ?_
  show own_Go _ _ _ _ (T0.setTop (mkF m 24 #[.val (.int p0), .val (.int p1), .val (.int p2), .val u3] [(.int p0)]))
  refine own_retI A0 hx hret hlk (by decide) (by decide) (hb hby d15_24) ?_
  exact ⟨rfl, rfl⟩
theorem ef_14 (m : MethodId) (p0 : Int32) (p1 : Int32) (p2 : Int32) : entryFrame m #[(.int p0), (.int p1), (.int p2)] 3 = mkF m 0 #[.val (.int p0), .val (.int p1), .val (.int p2)] [] := by first | (simp [entryFrame, mkF, argsToLocals, Value.category]; done) | rfl
theorem d14_0 : decode jdk_42_method_157_code 0 = .ok (.iload_n 0, 1) := by decide +kernel
theorem d14_1 : decode jdk_42_method_157_code 1 = .ok (.iload_n 1, 1) := by decide +kernel
theorem d14_2 : decode jdk_42_method_157_code 2 = .ok (.iload_n 2, 1) := by decide +kernel
theorem d14_3 : decode jdk_42_method_157_code 3 = .ok (.getstatic 1053, 3) := by decide +kernel
theorem d14_6 : decode jdk_42_method_157_code 6 = .ok (.invokestatic 1065, 3) := by decide +kernel
theorem pd__IIILjava_util_function_BiFunction__I : parseMethodDescriptor "(IIILjava/util/function/BiFunction;)I" = some ⟨[.int, .int, .int, (.object "java/util/function/BiFunction")], some .int⟩ := by decide +kernel
theorem d14_9 : decode jdk_42_method_157_code 9 = .ok (.ireturn, 1) := by decide +kernel
set_option maxRecDepth 65536 in
set_option maxHeartbeats 40000000 in
theorem rm14 (l : Launch) (Z : State) (a0 : Array Value) (hw : ∀ d ∈ tables_1, d.before a0 Z = true) (p0 : Int32) (p1 : Int32) (p2 : Int32) (s_F : Value) (h0 : Heap) (n0 : Nat) (O0 : Old Z n0 h0) (hA : ¬ ((p2 ||| p0) ||| p1) < 0) (hB : ¬ (p2 - p0) < p1) (hr_F : s_F.isRef = true) (S_SIOOBE_FORMATTER : Sta Z Z.heap "jdk/internal/util/Preconditions" "SIOOBE_FORMATTER" "Ljava/util/function/BiFunction;" s_F) :
    own_Met l Z n0 (⟨"java/lang/String", "checkBoundsOffCount", "(III)I"⟩ : MethodName) jdk_42_method_157_code 3 (some .int) ({ frames := 1, cells := 0, slots := 0, locals := 15 } : Room) #[(.int p0), (.int p1), (.int p2)] h0 (fun v h => v = some (.int p0) ∧ h0 = h) := by
  refine own_met (plainFor_of_name pn_5) ?_
  intro p e s m below meth c T0 hx hby hml hown hnm hret hlk hZ A0
  rw [ef_14]
  show own_Go _ _ _ _ (T0.setTop (mkF m 0 #[.val (.int p0), .val (.int p1), .val (.int p2)] []))
  refine own_go (fun t_ k_ => XS.iloadN A0.here hx rfl (hb hby d14_0) rfl k_) ?_
  show own_Go _ _ _ _ (T0.setTop (mkF m 1 #[.val (.int p0), .val (.int p1), .val (.int p2)] [(.int p0)]))
  refine own_go (fun t_ k_ => XS.iloadN A0.here hx rfl (hb hby d14_1) rfl k_) ?_
  show own_Go _ _ _ _ (T0.setTop (mkF m 2 #[.val (.int p0), .val (.int p1), .val (.int p2)] [(.int p1), (.int p0)]))
  refine own_go (fun t_ k_ => XS.iloadN A0.here hx rfl (hb hby d14_2) rfl k_) ?_
  show own_Go _ _ _ _ (T0.setTop (mkF m 3 #[.val (.int p0), .val (.int p1), .val (.int p2)] [(.int p2), (.int p1), (.int p0)]))
  refine own_getS A0 hx hZ hown (host := "") (Or.inl (hw _ (List.mem_of_getElem? (i := 87) rfl))) Via.refl (S_SIOOBE_FORMATTER.ext O0.2) rfl (hb hby d14_3) (fun T1 A2 => ?_)
  show own_Go _ _ _ _ (T1.setTop (mkF m 6 #[.val (.int p0), .val (.int p1), .val (.int p2)] [s_F, (.int p2), (.int p1), (.int p0)]))
  refine own_callS A2 hx hZ hown (y := (⟨"jdk/internal/util/Preconditions", "checkFromIndexSize", "(IIILjava/util/function/BiFunction;)I"⟩ : MethodName)) (hw _ (List.mem_of_getElem? (i := 89) rfl)) (hw _ (List.mem_of_getElem? (i := 90) rfl)) (hw _ (List.mem_of_getElem? (i := 88) rfl)) (hw _ (List.mem_of_getElem? (i := 91) rfl)) (by decide) (argsL := [(.int p0), (.int p1), (.int p2), s_F]) (rest := []) (rm15 l Z a0 hw p0 p1 p2 s_F h0 n0 hr_F hA hB) 0 (by decide) (by decide) rfl (by rw [hml]; rfl) (lenOf pd__IIILjava_util_function_BiFunction__I rfl) rfl (by show 2 * 0 + _ ≤ _; exact Nat.le_of_eq rfl) (hb hby d14_6) (by decide) (by decide) (fun v6 T3 h5 A4 hQ7 => ?_)
  obtain ⟨rfl, rfl⟩ := hQ7
  show own_Go _ _ _ _ (T3.setTop (mkF m 9 #[.val (.int p0), .val (.int p1), .val (.int p2)] [(.int p0)]))
  refine own_retI A4 hx hret hlk (by decide) (by decide) (hb hby d14_9) ?_
  exact ⟨rfl, rfl⟩
theorem ef_19 (m : MethodId) (p0 : Int32) (p1 : Int32) : entryFrame m #[(.int p0), (.int p1)] 2 = mkF m 0 #[.val (.int p0), .val (.int p1)] [] := by first | (simp [entryFrame, mkF, argsToLocals, Value.category]; done) | rfl
theorem pn_19 : plainName "java/util/Arrays" = true := by first | (simp [plainName, overriddenIn]; done) | decide +kernel
theorem d19_0 : decode jdk_65_method_131_code 0 = .ok (.iload_n 1, 1) := by decide +kernel
theorem d19_1 : decode jdk_65_method_131_code 1 = .ok (.iload_n 0, 1) := by decide +kernel
theorem d19_2 : decode jdk_65_method_131_code 2 = .ok (.if_icmp .ge 35, 3) := by decide +kernel
theorem d19_37 : decode jdk_65_method_131_code 37 = .ok (.return_, 1) := by decide +kernel
set_option maxRecDepth 65536 in
set_option maxHeartbeats 40000000 in
theorem rm19 (l : Launch) (Z : State) (a0 : Array Value) (hw : ∀ d ∈ tables_1, d.before a0 Z = true) (p0 : Int32) (p1 : Int32) (h0 : Heap) (n0 : Nat) (hL : ¬ p1 < p0) :
    own_Met l Z n0 (⟨"java/util/Arrays", "checkLength", "(II)V"⟩ : MethodName) jdk_65_method_131_code 2 none ({ frames := 0, cells := 0, slots := 0, locals := 0 } : Room) #[(.int p0), (.int p1)] h0 (fun v h => v = none ∧ h0 = h) := by
  refine own_met (plainFor_of_name pn_19) ?_
  intro p e s m below meth c T0 hx hby hml hown hnm hret hlk hZ A0
  rw [ef_19]
  show own_Go _ _ _ _ (T0.setTop (mkF m 0 #[.val (.int p0), .val (.int p1)] []))
  refine own_go (fun t_ k_ => XS.iloadN A0.here hx rfl (hb hby d19_0) rfl k_) ?_
  show own_Go _ _ _ _ (T0.setTop (mkF m 1 #[.val (.int p0), .val (.int p1)] [(.int p1)]))
  refine own_go (fun t_ k_ => XS.iloadN A0.here hx rfl (hb hby d19_1) rfl k_) ?_
  show own_Go _ _ _ _ (T0.setTop (mkF m 2 #[.val (.int p0), .val (.int p1)] [(.int p0), (.int p1)]))
  have hc1 : ¬ (p1 < p0) := hL
  refine own_go (fun t_ k_ => XS.icmpYes A0.here hx rfl (pc0 := 2) (pc' := 37) rfl (hb hby d19_2) rfl (flt hc1).2.1 (by decide) (by decide) k_) ?_
  show own_Go _ _ _ _ (T0.setTop (mkF m 37 #[.val (.int p0), .val (.int p1)] []))
  refine own_retV A0 hx hret hlk (by decide) (by decide) (hb hby d19_37) ?_
  exact ⟨rfl, rfl⟩
theorem ef_20 (m : MethodId) (p0 : Int32) (p1 : Int32) : entryFrame m #[(.int p0), (.int p1)] 2 = mkF m 0 #[.val (.int p0), .val (.int p1)] [] := by first | (simp [entryFrame, mkF, argsToLocals, Value.category]; done) | rfl
theorem pf_20 : plainFor (⟨"java/lang/Math", "min", "(II)I"⟩ : MethodName) = true := by decide +kernel
theorem d20_0 : decode jdk_29_method_69_code 0 = .ok (.iload_n 0, 1) := by decide +kernel
theorem d20_1 : decode jdk_29_method_69_code 1 = .ok (.iload_n 1, 1) := by decide +kernel
theorem d20_2 : decode jdk_29_method_69_code 2 = .ok (.if_icmp .gt 7, 3) := by decide +kernel
theorem d20_9 : decode jdk_29_method_69_code 9 = .ok (.iload_n 1, 1) := by decide +kernel
theorem d20_5 : decode jdk_29_method_69_code 5 = .ok (.iload_n 0, 1) := by decide +kernel
theorem d20_6 : decode jdk_29_method_69_code 6 = .ok (.goto 4, 3) := by decide +kernel
theorem d20_10 : decode jdk_29_method_69_code 10 = .ok (.ireturn, 1) := by decide +kernel
def f20 (p0 : Int32) (p1 : Int32) : Int32 := (if p1 < p0 then p1 else p0)
set_option maxRecDepth 65536 in
set_option maxHeartbeats 40000000 in
theorem rm20 (l : Launch) (Z : State) (a0 : Array Value) (hw : ∀ d ∈ tables_1, d.before a0 Z = true) (p0 : Int32) (p1 : Int32) (h0 : Heap) (n0 : Nat) :
    own_Met l Z n0 (⟨"java/lang/Math", "min", "(II)I"⟩ : MethodName) jdk_29_method_69_code 2 (some .int) ({ frames := 0, cells := 0, slots := 0, locals := 0 } : Room) #[(.int p0), (.int p1)] h0 (fun v h => v = some (.int (f20 p0 p1)) ∧ h0 = h) := by
  refine own_met pf_20 ?_
  intro p e s m below meth c T0 hx hby hml hown hnm hret hlk hZ A0
  rw [ef_20]
  show own_Go _ _ _ _ (T0.setTop (mkF m 0 #[.val (.int p0), .val (.int p1)] []))
  refine own_go (fun t_ k_ => XS.iloadN A0.here hx rfl (hb hby d20_0) rfl k_) ?_
  show own_Go _ _ _ _ (T0.setTop (mkF m 1 #[.val (.int p0), .val (.int p1)] [(.int p0)]))
  refine own_go (fun t_ k_ => XS.iloadN A0.here hx rfl (hb hby d20_1) rfl k_) ?_
  show own_Go _ _ _ _ (T0.setTop (mkF m 2 #[.val (.int p0), .val (.int p1)] [(.int p1), (.int p0)]))
  have mg1 : ∀ t_, Steps p.tables e below (T0.setTop (mkF m 10 #[.val (.int p0), .val (.int p1)] [(.int (if p1 < p0 then p1 else p0))])) t_ → Steps p.tables e below (T0.setTop (mkF m 2 #[.val (.int p0), .val (.int p1)] [(.int p1), (.int p0)])) t_ := by
    intro t_ k_
    by_cases hm2_0 : p1 < p0
    ·
      simp only [if_pos hm2_0] at k_
      exact (XS.icmpYes A0.here hx rfl (pc0 := 2) (pc' := 9) rfl (hb hby d20_2) rfl (tlt hm2_0).2.2.1 (by decide) (by decide) (XS.iloadN A0.here hx rfl (hb hby d20_9) rfl k_))
    ·
      simp only [if_neg hm2_0] at k_
      exact (XS.icmpNo A0.here hx rfl (hb hby d20_2) rfl (flt hm2_0).2.2.1 (XS.iloadN A0.here hx rfl (hb hby d20_5) rfl (XS.goto A0.here hx rfl (pc0 := 6) (pc' := 10) rfl (hb hby d20_6) (by decide) (by decide) k_)))
  refine own_go mg1 ?_
  show own_Go _ _ _ _ (T0.setTop (mkF m 10 #[.val (.int p0), .val (.int p1)] [(.int (if p1 < p0 then p1 else p0))]))
  refine own_retI A0 hx hret hlk (by decide) (by decide) (hb hby d20_10) ?_
  exact ⟨rfl, rfl⟩
theorem ef_18 (m : MethodId) (r0 : Addr) (y1 : Int32) (y2 : Int32) : entryFrame m #[(.ref r0), (.int y1), (.int y2)] 5 = mkF m 0 #[.val (.ref r0), .val (.int y1), .val (.int y2), .unset, .unset] [] := by first | (simp [entryFrame, mkF, argsToLocals, Value.category]; done) | rfl
theorem d18_0 : decode jdk_65_method_133_code 0 = .ok (.iload_n 1, 1) := by decide +kernel
theorem d18_1 : decode jdk_65_method_133_code 1 = .ok (.iload_n 2, 1) := by decide +kernel
theorem d18_2 : decode jdk_65_method_133_code 2 = .ok (.invokestatic 343, 3) := by decide +kernel
theorem pd__II_V : parseMethodDescriptor "(II)V" = some ⟨[.int, .int], none⟩ := by decide +kernel
theorem d18_5 : decode jdk_65_method_133_code 5 = .ok (.iload_n 2, 1) := by decide +kernel
theorem d18_6 : decode jdk_65_method_133_code 6 = .ok (.iload_n 1, 1) := by decide +kernel
theorem d18_7 : decode jdk_65_method_133_code 7 = .ok (.isub, 1) := by decide +kernel
theorem d18_8 : decode jdk_65_method_133_code 8 = .ok (.istore_n 3, 1) := by decide +kernel
theorem d18_9 : decode jdk_65_method_133_code 9 = .ok (.iload_n 3, 1) := by decide +kernel
theorem d18_10 : decode jdk_65_method_133_code 10 = .ok (.newarray .byte, 2) := by decide +kernel
theorem d18_12 : decode jdk_65_method_133_code 12 = .ok (.astore 4, 2) := by decide +kernel
theorem d18_14 : decode jdk_65_method_133_code 14 = .ok (.aload_n 0, 1) := by decide +kernel
theorem d18_15 : decode jdk_65_method_133_code 15 = .ok (.iload_n 1, 1) := by decide +kernel
theorem d18_16 : decode jdk_65_method_133_code 16 = .ok (.aload 4, 2) := by decide +kernel
theorem d18_18 : decode jdk_65_method_133_code 18 = .ok (.iconst 0, 1) := by decide +kernel
theorem d18_19 : decode jdk_65_method_133_code 19 = .ok (.aload_n 0, 1) := by decide +kernel
theorem d18_20 : decode jdk_65_method_133_code 20 = .ok (.arraylength, 1) := by decide +kernel
theorem d18_21 : decode jdk_65_method_133_code 21 = .ok (.iload_n 1, 1) := by decide +kernel
theorem d18_22 : decode jdk_65_method_133_code 22 = .ok (.isub, 1) := by decide +kernel
theorem d18_23 : decode jdk_65_method_133_code 23 = .ok (.iload_n 3, 1) := by decide +kernel
theorem d18_24 : decode jdk_65_method_133_code 24 = .ok (.invokestatic 304, 3) := by decide +kernel
theorem pd__II_I : parseMethodDescriptor "(II)I" = some ⟨[.int, .int], some .int⟩ := by decide +kernel
theorem d18_27 : decode jdk_65_method_133_code 27 = .ok (.invokestatic 150, 3) := by decide +kernel
theorem d18_30 : decode jdk_65_method_133_code 30 = .ok (.aload 4, 2) := by decide +kernel
theorem d18_32 : decode jdk_65_method_133_code 32 = .ok (.areturn, 1) := by decide +kernel
set_option maxRecDepth 65536 in
set_option maxHeartbeats 40000000 in
theorem rm18_0_1 (l : Launch) (Z : State) (a0 : Array Value) (hw : ∀ d ∈ tables_1, d.before a0 Z = true) (r0 : Addr) (h0 : Heap) (n0 : Nat) (Z0 : n0 ≤ h0.size) (V0 : own_Arr Z h0 r0 .byte (3 : Int32) (fun j => ([97, 44, 98] : List Int32).getD j.toNatClampNeg 0)) :
    own_Met l Z n0 (⟨"java/util/Arrays", "copyOfRangeByte", "([BII)[B"⟩ : MethodName) jdk_65_method_133_code 5 (some (.array .byte)) ({ frames := 1, cells := 1, slots := 1, locals := 40 } : Room) #[(.ref r0), (.int (0 : Int32)), (.int (1 : Int32))] h0 (fun v h => Keep h0 h [] ∧ ∃ t, v = some (.ref t) ∧ n0 ≤ t ∧ h0.size ≤ t) := by
  refine own_met (plainFor_of_name pn_19) ?_
  intro p e s m below meth c T0 hx hby hml hown hnm hret hlk hZ A0
  rw [ef_18]
  show own_Go _ _ _ _ (T0.setTop (mkF m 0 #[.val (.ref r0), .val (.int (0 : Int32)), .val (.int (1 : Int32)), .unset, .unset] []))
  refine own_go (fun t_ k_ => XS.iloadN A0.here hx rfl (hb hby d18_0) rfl k_) ?_
  show own_Go _ _ _ _ (T0.setTop (mkF m 1 #[.val (.ref r0), .val (.int (0 : Int32)), .val (.int (1 : Int32)), .unset, .unset] [(.int (0 : Int32))]))
  refine own_go (fun t_ k_ => XS.iloadN A0.here hx rfl (hb hby d18_1) rfl k_) ?_
  show own_Go _ _ _ _ (T0.setTop (mkF m 2 #[.val (.ref r0), .val (.int (0 : Int32)), .val (.int (1 : Int32)), .unset, .unset] [(.int (1 : Int32)), (.int (0 : Int32))]))
  refine own_callS A0 hx hZ hown (y := (⟨"java/util/Arrays", "checkLength", "(II)V"⟩ : MethodName)) (hw _ (List.mem_of_getElem? (i := 105) rfl)) (hw _ (List.mem_of_getElem? (i := 106) rfl)) (hw _ (List.mem_of_getElem? (i := 100) rfl)) (hw _ (List.mem_of_getElem? (i := 107) rfl)) (by decide) (argsL := [(.int (0 : Int32)), (.int (1 : Int32))]) (rest := []) (rm19 l Z a0 hw (0 : Int32) (1 : Int32) h0 n0 (by decide)) 0 (by decide) (by decide) rfl (by rw [hml]; rfl) (lenOf pd__II_V rfl) rfl (by show 2 * 0 + _ ≤ _; exact Nat.le_of_eq rfl) (hb hby d18_2) (by decide) (by decide) (fun v4 T1 h3 A2 hQ5 => ?_)
  obtain ⟨rfl, rfl⟩ := hQ5
  show own_Go _ _ _ _ (T1.setTop (mkF m 5 #[.val (.ref r0), .val (.int (0 : Int32)), .val (.int (1 : Int32)), .unset, .unset] []))
  refine own_go (fun t_ k_ => XS.iloadN A2.here hx rfl (hb hby d18_5) rfl k_) ?_
  show own_Go _ _ _ _ (T1.setTop (mkF m 6 #[.val (.ref r0), .val (.int (0 : Int32)), .val (.int (1 : Int32)), .unset, .unset] [(.int (1 : Int32))]))
  refine own_go (fun t_ k_ => XS.iloadN A2.here hx rfl (hb hby d18_6) rfl k_) ?_
  show own_Go _ _ _ _ (T1.setTop (mkF m 7 #[.val (.ref r0), .val (.int (0 : Int32)), .val (.int (1 : Int32)), .unset, .unset] [(.int (0 : Int32)), (.int (1 : Int32))]))
  refine own_go (fun t_ k_ => XS.isub A2.here hx rfl (hb hby d18_7) rfl k_) ?_
  show own_Go _ _ _ _ (T1.setTop (mkF m 8 #[.val (.ref r0), .val (.int (0 : Int32)), .val (.int (1 : Int32)), .unset, .unset] [(.int (1 : Int32))]))
  refine own_go (fun t_ k_ => XS.istoreN A2.here hx rfl (hb hby d18_8) rfl (l' := #[.val (.ref r0), .val (.int (0 : Int32)), .val (.int (1 : Int32)), .val (.int (1 : Int32)), .unset]) rfl k_) ?_
  show own_Go _ _ _ _ (T1.setTop (mkF m 9 #[.val (.ref r0), .val (.int (0 : Int32)), .val (.int (1 : Int32)), .val (.int (1 : Int32)), .unset] []))
  refine own_go (fun t_ k_ => XS.iloadN A2.here hx rfl (hb hby d18_9) rfl k_) ?_
  show own_Go _ _ _ _ (T1.setTop (mkF m 10 #[.val (.ref r0), .val (.int (0 : Int32)), .val (.int (1 : Int32)), .val (.int (1 : Int32)), .unset] [(.int (1 : Int32))]))
  refine own_newP A2 hx hZ (hw _ (List.mem_of_getElem? (i := 1) rfl)) rfl rfl (hb hby d18_10) rfl (by decide) 1 (by decide) (by decide) (by decide) (by decide) (fun T6 h8 b9 ha_b9 A7 E10 V11 R12 => ?_)
  have ne_r0_b9 : r0 ≠ b9 := Nat.ne_of_lt (by rw [ha_b9]; exact V0.lt)
  have g_b9 : n0 ≤ b9 := by rw [ha_b9]; exact Z0
  have nw_b9 : h0.size ≤ b9 := by rw [ha_b9]; exact (Keep.refl h0 []).1
  have Z13 : n0 ≤ h8.size := Nat.le_trans Z0 E10.1
  have K14 : Keep h0 h8 [] := (Keep.refl h0 []).ext E10
  have V15 : own_Arr Z h8 r0 .byte (3 : Int32) (fun j => ([97, 44, 98] : List Int32).getD j.toNatClampNeg 0) := V0.ext E10
  show own_Go _ _ _ _ (T6.setTop (mkF m 12 #[.val (.ref r0), .val (.int (0 : Int32)), .val (.int (1 : Int32)), .val (.int (1 : Int32)), .unset] [(.ref b9)]))
  refine own_go (fun t_ k_ => XS.astore A7.here hx rfl (hb hby d18_12) rfl rfl (l' := #[.val (.ref r0), .val (.int (0 : Int32)), .val (.int (1 : Int32)), .val (.int (1 : Int32)), .val (.ref b9)]) rfl k_) ?_
  show own_Go _ _ _ _ (T6.setTop (mkF m 14 #[.val (.ref r0), .val (.int (0 : Int32)), .val (.int (1 : Int32)), .val (.int (1 : Int32)), .val (.ref b9)] []))
  refine own_go (fun t_ k_ => XS.aloadN A7.here hx rfl (hb hby d18_14) rfl rfl k_) ?_
  show own_Go _ _ _ _ (T6.setTop (mkF m 15 #[.val (.ref r0), .val (.int (0 : Int32)), .val (.int (1 : Int32)), .val (.int (1 : Int32)), .val (.ref b9)] [(.ref r0)]))
  refine own_go (fun t_ k_ => XS.iloadN A7.here hx rfl (hb hby d18_15) rfl k_) ?_
  show own_Go _ _ _ _ (T6.setTop (mkF m 16 #[.val (.ref r0), .val (.int (0 : Int32)), .val (.int (1 : Int32)), .val (.int (1 : Int32)), .val (.ref b9)] [(.int (0 : Int32)), (.ref r0)]))
  refine own_go (fun t_ k_ => XS.aload A7.here hx rfl (hb hby d18_16) rfl rfl k_) ?_
  show own_Go _ _ _ _ (T6.setTop (mkF m 18 #[.val (.ref r0), .val (.int (0 : Int32)), .val (.int (1 : Int32)), .val (.int (1 : Int32)), .val (.ref b9)] [(.ref b9), (.int (0 : Int32)), (.ref r0)]))
  refine own_go (fun t_ k_ => XS.iconst A7.here hx rfl (hb hby d18_18) k_) ?_
  show own_Go _ _ _ _ (T6.setTop (mkF m 19 #[.val (.ref r0), .val (.int (0 : Int32)), .val (.int (1 : Int32)), .val (.int (1 : Int32)), .val (.ref b9)] [(.int (0 : Int32)), (.ref b9), (.int (0 : Int32)), (.ref r0)]))
  refine own_go (fun t_ k_ => XS.aloadN A7.here hx rfl (hb hby d18_19) rfl rfl k_) ?_
  show own_Go _ _ _ _ (T6.setTop (mkF m 20 #[.val (.ref r0), .val (.int (0 : Int32)), .val (.int (1 : Int32)), .val (.int (1 : Int32)), .val (.ref b9)] [(.ref r0), (.int (0 : Int32)), (.ref b9), (.int (0 : Int32)), (.ref r0)]))
  refine own_len A7 hx hZ V15 rfl rfl (hb hby d18_20) ?_
  show own_Go _ _ _ _ (T6.setTop (mkF m 21 #[.val (.ref r0), .val (.int (0 : Int32)), .val (.int (1 : Int32)), .val (.int (1 : Int32)), .val (.ref b9)] [(.int (3 : Int32)), (.int (0 : Int32)), (.ref b9), (.int (0 : Int32)), (.ref r0)]))
  refine own_go (fun t_ k_ => XS.iloadN A7.here hx rfl (hb hby d18_21) rfl k_) ?_
  show own_Go _ _ _ _ (T6.setTop (mkF m 22 #[.val (.ref r0), .val (.int (0 : Int32)), .val (.int (1 : Int32)), .val (.int (1 : Int32)), .val (.ref b9)] [(.int (0 : Int32)), (.int (3 : Int32)), (.int (0 : Int32)), (.ref b9), (.int (0 : Int32)), (.ref r0)]))
  refine own_go (fun t_ k_ => XS.isub A7.here hx rfl (hb hby d18_22) rfl k_) ?_
  show own_Go _ _ _ _ (T6.setTop (mkF m 23 #[.val (.ref r0), .val (.int (0 : Int32)), .val (.int (1 : Int32)), .val (.int (1 : Int32)), .val (.ref b9)] [(.int (3 : Int32)), (.int (0 : Int32)), (.ref b9), (.int (0 : Int32)), (.ref r0)]))
  refine own_go (fun t_ k_ => XS.iloadN A7.here hx rfl (hb hby d18_23) rfl k_) ?_
  show own_Go _ _ _ _ (T6.setTop (mkF m 24 #[.val (.ref r0), .val (.int (0 : Int32)), .val (.int (1 : Int32)), .val (.int (1 : Int32)), .val (.ref b9)] [(.int (1 : Int32)), (.int (3 : Int32)), (.int (0 : Int32)), (.ref b9), (.int (0 : Int32)), (.ref r0)]))
  refine own_callS A7 hx hZ hown (y := (⟨"java/lang/Math", "min", "(II)I"⟩ : MethodName)) (hw _ (List.mem_of_getElem? (i := 108) rfl)) (hw _ (List.mem_of_getElem? (i := 109) rfl)) (hw _ (List.mem_of_getElem? (i := 110) rfl)) (hw _ (List.mem_of_getElem? (i := 111) rfl)) (by decide) (argsL := [(.int (3 : Int32)), (.int (1 : Int32))]) (rest := [(.int (0 : Int32)), (.ref b9), (.int (0 : Int32)), (.ref r0)]) (rm20 l Z a0 hw (3 : Int32) (1 : Int32) h8 n0 ) 4 (by decide) (by decide) rfl (by rw [hml]; rfl) (lenOf pd__II_I rfl) rfl (by show 2 * 0 + _ ≤ _; exact Nat.le_of_eq rfl) (hb hby d18_24) (by decide) (by decide) (fun v19 T16 h18 A17 hQ20 => ?_)
  obtain ⟨rfl, rfl⟩ := hQ20
  show own_Go _ _ _ _ (T16.setTop (mkF m 27 #[.val (.ref r0), .val (.int (0 : Int32)), .val (.int (1 : Int32)), .val (.int (1 : Int32)), .val (.ref b9)] [(.int (f20 (3 : Int32) (1 : Int32))), (.int (0 : Int32)), (.ref b9), (.int (0 : Int32)), (.ref r0)]))
  rw [show (f20 (3 : Int32) (1 : Int32)) = (1 : Int32) from by decide]
  show own_Go _ _ _ _ (T16.setTop (mkF m 27 #[.val (.ref r0), .val (.int (0 : Int32)), .val (.int (1 : Int32)), .val (.int (1 : Int32)), .val (.ref b9)] [(.int (1 : Int32)), (.int (0 : Int32)), (.ref b9), (.int (0 : Int32)), (.ref r0)]))
  refine own_cpB A17 hx hZ hown (hw _ (List.mem_of_getElem? (i := 112) rfl)) (hw _ (List.mem_of_getElem? (i := 115) rfl)) (hw _ (List.mem_of_getElem? (i := 113) rfl)) (hw _ (List.mem_of_getElem? (i := 114) rfl)) (na := 3) (nb := 1) V15 V11 (by decide) (by decide) own_fitL (own_fit0 _) (by decide) (by decide) (by decide) (by decide) (by decide) g_b9 rfl (by rw [hml]; rfl) (rest := []) rfl (hb hby d18_27) (by decide) 0 (by show 2 * 0 + _ ≤ _; exact Nat.le_of_eq rfl) (by decide +kernel) (fun T21 h23 A22 K24 => ?_)
  have Z25 : n0 ≤ h23.size := Nat.le_trans Z13 K24.1
  have K26 : Keep h0 h23 [] := K14.trans K24 (allS (Or.inr nw_b9) all0)
  have V27 : own_Arr Z h23 r0 .byte (3 : Int32) (fun j => ([97, 44, 98] : List Int32).getD j.toNatClampNeg 0) := V15.keep K24 (ninS ne_r0_b9 nin0)
  show own_Go _ _ _ _ (T21.setTop (mkF m 30 #[.val (.ref r0), .val (.int (0 : Int32)), .val (.int (1 : Int32)), .val (.int (1 : Int32)), .val (.ref b9)] []))
  refine own_go (fun t_ k_ => XS.aload A22.here hx rfl (hb hby d18_30) rfl rfl k_) ?_
  show own_Go _ _ _ _ (T21.setTop (mkF m 32 #[.val (.ref r0), .val (.int (0 : Int32)), .val (.int (1 : Int32)), .val (.int (1 : Int32)), .val (.ref b9)] [(.ref b9)]))
  refine own_retA A22 hx hret rfl hlk (by decide) (by decide) rfl (hb hby d18_32) ?_
  exact ⟨K26, b9, rfl, g_b9, nw_b9⟩
set_option maxRecDepth 65536 in
set_option maxHeartbeats 40000000 in
theorem rm18_2_3 (l : Launch) (Z : State) (a0 : Array Value) (hw : ∀ d ∈ tables_1, d.before a0 Z = true) (r0 : Addr) (h0 : Heap) (n0 : Nat) (Z0 : n0 ≤ h0.size) (V0 : own_Arr Z h0 r0 .byte (3 : Int32) (fun j => ([97, 44, 98] : List Int32).getD j.toNatClampNeg 0)) :
    own_Met l Z n0 (⟨"java/util/Arrays", "copyOfRangeByte", "([BII)[B"⟩ : MethodName) jdk_65_method_133_code 5 (some (.array .byte)) ({ frames := 1, cells := 1, slots := 1, locals := 40 } : Room) #[(.ref r0), (.int (2 : Int32)), (.int (3 : Int32))] h0 (fun v h => Keep h0 h [] ∧ ∃ t, v = some (.ref t) ∧ n0 ≤ t ∧ h0.size ≤ t) := by
  refine own_met (plainFor_of_name pn_19) ?_
  intro p e s m below meth c T0 hx hby hml hown hnm hret hlk hZ A0
  rw [ef_18]
  show own_Go _ _ _ _ (T0.setTop (mkF m 0 #[.val (.ref r0), .val (.int (2 : Int32)), .val (.int (3 : Int32)), .unset, .unset] []))
  refine own_go (fun t_ k_ => XS.iloadN A0.here hx rfl (hb hby d18_0) rfl k_) ?_
  show own_Go _ _ _ _ (T0.setTop (mkF m 1 #[.val (.ref r0), .val (.int (2 : Int32)), .val (.int (3 : Int32)), .unset, .unset] [(.int (2 : Int32))]))
  refine own_go (fun t_ k_ => XS.iloadN A0.here hx rfl (hb hby d18_1) rfl k_) ?_
  show own_Go _ _ _ _ (T0.setTop (mkF m 2 #[.val (.ref r0), .val (.int (2 : Int32)), .val (.int (3 : Int32)), .unset, .unset] [(.int (3 : Int32)), (.int (2 : Int32))]))
  refine own_callS A0 hx hZ hown (y := (⟨"java/util/Arrays", "checkLength", "(II)V"⟩ : MethodName)) (hw _ (List.mem_of_getElem? (i := 105) rfl)) (hw _ (List.mem_of_getElem? (i := 106) rfl)) (hw _ (List.mem_of_getElem? (i := 100) rfl)) (hw _ (List.mem_of_getElem? (i := 107) rfl)) (by decide) (argsL := [(.int (2 : Int32)), (.int (3 : Int32))]) (rest := []) (rm19 l Z a0 hw (2 : Int32) (3 : Int32) h0 n0 (by decide)) 0 (by decide) (by decide) rfl (by rw [hml]; rfl) (lenOf pd__II_V rfl) rfl (by show 2 * 0 + _ ≤ _; exact Nat.le_of_eq rfl) (hb hby d18_2) (by decide) (by decide) (fun v4 T1 h3 A2 hQ5 => ?_)
  obtain ⟨rfl, rfl⟩ := hQ5
  show own_Go _ _ _ _ (T1.setTop (mkF m 5 #[.val (.ref r0), .val (.int (2 : Int32)), .val (.int (3 : Int32)), .unset, .unset] []))
  refine own_go (fun t_ k_ => XS.iloadN A2.here hx rfl (hb hby d18_5) rfl k_) ?_
  show own_Go _ _ _ _ (T1.setTop (mkF m 6 #[.val (.ref r0), .val (.int (2 : Int32)), .val (.int (3 : Int32)), .unset, .unset] [(.int (3 : Int32))]))
  refine own_go (fun t_ k_ => XS.iloadN A2.here hx rfl (hb hby d18_6) rfl k_) ?_
  show own_Go _ _ _ _ (T1.setTop (mkF m 7 #[.val (.ref r0), .val (.int (2 : Int32)), .val (.int (3 : Int32)), .unset, .unset] [(.int (2 : Int32)), (.int (3 : Int32))]))
  refine own_go (fun t_ k_ => XS.isub A2.here hx rfl (hb hby d18_7) rfl k_) ?_
  show own_Go _ _ _ _ (T1.setTop (mkF m 8 #[.val (.ref r0), .val (.int (2 : Int32)), .val (.int (3 : Int32)), .unset, .unset] [(.int (1 : Int32))]))
  refine own_go (fun t_ k_ => XS.istoreN A2.here hx rfl (hb hby d18_8) rfl (l' := #[.val (.ref r0), .val (.int (2 : Int32)), .val (.int (3 : Int32)), .val (.int (1 : Int32)), .unset]) rfl k_) ?_
  show own_Go _ _ _ _ (T1.setTop (mkF m 9 #[.val (.ref r0), .val (.int (2 : Int32)), .val (.int (3 : Int32)), .val (.int (1 : Int32)), .unset] []))
  refine own_go (fun t_ k_ => XS.iloadN A2.here hx rfl (hb hby d18_9) rfl k_) ?_
  show own_Go _ _ _ _ (T1.setTop (mkF m 10 #[.val (.ref r0), .val (.int (2 : Int32)), .val (.int (3 : Int32)), .val (.int (1 : Int32)), .unset] [(.int (1 : Int32))]))
  refine own_newP A2 hx hZ (hw _ (List.mem_of_getElem? (i := 1) rfl)) rfl rfl (hb hby d18_10) rfl (by decide) 1 (by decide) (by decide) (by decide) (by decide) (fun T6 h8 b9 ha_b9 A7 E10 V11 R12 => ?_)
  have ne_r0_b9 : r0 ≠ b9 := Nat.ne_of_lt (by rw [ha_b9]; exact V0.lt)
  have g_b9 : n0 ≤ b9 := by rw [ha_b9]; exact Z0
  have nw_b9 : h0.size ≤ b9 := by rw [ha_b9]; exact (Keep.refl h0 []).1
  have Z13 : n0 ≤ h8.size := Nat.le_trans Z0 E10.1
  have K14 : Keep h0 h8 [] := (Keep.refl h0 []).ext E10
  have V15 : own_Arr Z h8 r0 .byte (3 : Int32) (fun j => ([97, 44, 98] : List Int32).getD j.toNatClampNeg 0) := V0.ext E10
  show own_Go _ _ _ _ (T6.setTop (mkF m 12 #[.val (.ref r0), .val (.int (2 : Int32)), .val (.int (3 : Int32)), .val (.int (1 : Int32)), .unset] [(.ref b9)]))
  refine own_go (fun t_ k_ => XS.astore A7.here hx rfl (hb hby d18_12) rfl rfl (l' := #[.val (.ref r0), .val (.int (2 : Int32)), .val (.int (3 : Int32)), .val (.int (1 : Int32)), .val (.ref b9)]) rfl k_) ?_
  show own_Go _ _ _ _ (T6.setTop (mkF m 14 #[.val (.ref r0), .val (.int (2 : Int32)), .val (.int (3 : Int32)), .val (.int (1 : Int32)), .val (.ref b9)] []))
  refine own_go (fun t_ k_ => XS.aloadN A7.here hx rfl (hb hby d18_14) rfl rfl k_) ?_
  show own_Go _ _ _ _ (T6.setTop (mkF m 15 #[.val (.ref r0), .val (.int (2 : Int32)), .val (.int (3 : Int32)), .val (.int (1 : Int32)), .val (.ref b9)] [(.ref r0)]))
  refine own_go (fun t_ k_ => XS.iloadN A7.here hx rfl (hb hby d18_15) rfl k_) ?_
  show own_Go _ _ _ _ (T6.setTop (mkF m 16 #[.val (.ref r0), .val (.int (2 : Int32)), .val (.int (3 : Int32)), .val (.int (1 : Int32)), .val (.ref b9)] [(.int (2 : Int32)), (.ref r0)]))
  refine own_go (fun t_ k_ => XS.aload A7.here hx rfl (hb hby d18_16) rfl rfl k_) ?_
  show own_Go _ _ _ _ (T6.setTop (mkF m 18 #[.val (.ref r0), .val (.int (2 : Int32)), .val (.int (3 : Int32)), .val (.int (1 : Int32)), .val (.ref b9)] [(.ref b9), (.int (2 : Int32)), (.ref r0)]))
  refine own_go (fun t_ k_ => XS.iconst A7.here hx rfl (hb hby d18_18) k_) ?_
  show own_Go _ _ _ _ (T6.setTop (mkF m 19 #[.val (.ref r0), .val (.int (2 : Int32)), .val (.int (3 : Int32)), .val (.int (1 : Int32)), .val (.ref b9)] [(.int (0 : Int32)), (.ref b9), (.int (2 : Int32)), (.ref r0)]))
  refine own_go (fun t_ k_ => XS.aloadN A7.here hx rfl (hb hby d18_19) rfl rfl k_) ?_
  show own_Go _ _ _ _ (T6.setTop (mkF m 20 #[.val (.ref r0), .val (.int (2 : Int32)), .val (.int (3 : Int32)), .val (.int (1 : Int32)), .val (.ref b9)] [(.ref r0), (.int (0 : Int32)), (.ref b9), (.int (2 : Int32)), (.ref r0)]))
  refine own_len A7 hx hZ V15 rfl rfl (hb hby d18_20) ?_
  show own_Go _ _ _ _ (T6.setTop (mkF m 21 #[.val (.ref r0), .val (.int (2 : Int32)), .val (.int (3 : Int32)), .val (.int (1 : Int32)), .val (.ref b9)] [(.int (3 : Int32)), (.int (0 : Int32)), (.ref b9), (.int (2 : Int32)), (.ref r0)]))
  refine own_go (fun t_ k_ => XS.iloadN A7.here hx rfl (hb hby d18_21) rfl k_) ?_
  show own_Go _ _ _ _ (T6.setTop (mkF m 22 #[.val (.ref r0), .val (.int (2 : Int32)), .val (.int (3 : Int32)), .val (.int (1 : Int32)), .val (.ref b9)] [(.int (2 : Int32)), (.int (3 : Int32)), (.int (0 : Int32)), (.ref b9), (.int (2 : Int32)), (.ref r0)]))
  refine own_go (fun t_ k_ => XS.isub A7.here hx rfl (hb hby d18_22) rfl k_) ?_
  show own_Go _ _ _ _ (T6.setTop (mkF m 23 #[.val (.ref r0), .val (.int (2 : Int32)), .val (.int (3 : Int32)), .val (.int (1 : Int32)), .val (.ref b9)] [(.int (1 : Int32)), (.int (0 : Int32)), (.ref b9), (.int (2 : Int32)), (.ref r0)]))
  refine own_go (fun t_ k_ => XS.iloadN A7.here hx rfl (hb hby d18_23) rfl k_) ?_
  show own_Go _ _ _ _ (T6.setTop (mkF m 24 #[.val (.ref r0), .val (.int (2 : Int32)), .val (.int (3 : Int32)), .val (.int (1 : Int32)), .val (.ref b9)] [(.int (1 : Int32)), (.int (1 : Int32)), (.int (0 : Int32)), (.ref b9), (.int (2 : Int32)), (.ref r0)]))
  refine own_callS A7 hx hZ hown (y := (⟨"java/lang/Math", "min", "(II)I"⟩ : MethodName)) (hw _ (List.mem_of_getElem? (i := 108) rfl)) (hw _ (List.mem_of_getElem? (i := 109) rfl)) (hw _ (List.mem_of_getElem? (i := 110) rfl)) (hw _ (List.mem_of_getElem? (i := 111) rfl)) (by decide) (argsL := [(.int (1 : Int32)), (.int (1 : Int32))]) (rest := [(.int (0 : Int32)), (.ref b9), (.int (2 : Int32)), (.ref r0)]) (rm20 l Z a0 hw (1 : Int32) (1 : Int32) h8 n0 ) 4 (by decide) (by decide) rfl (by rw [hml]; rfl) (lenOf pd__II_I rfl) rfl (by show 2 * 0 + _ ≤ _; exact Nat.le_of_eq rfl) (hb hby d18_24) (by decide) (by decide) (fun v19 T16 h18 A17 hQ20 => ?_)
  obtain ⟨rfl, rfl⟩ := hQ20
  show own_Go _ _ _ _ (T16.setTop (mkF m 27 #[.val (.ref r0), .val (.int (2 : Int32)), .val (.int (3 : Int32)), .val (.int (1 : Int32)), .val (.ref b9)] [(.int (f20 (1 : Int32) (1 : Int32))), (.int (0 : Int32)), (.ref b9), (.int (2 : Int32)), (.ref r0)]))
  rw [show (f20 (1 : Int32) (1 : Int32)) = (1 : Int32) from by decide]
  show own_Go _ _ _ _ (T16.setTop (mkF m 27 #[.val (.ref r0), .val (.int (2 : Int32)), .val (.int (3 : Int32)), .val (.int (1 : Int32)), .val (.ref b9)] [(.int (1 : Int32)), (.int (0 : Int32)), (.ref b9), (.int (2 : Int32)), (.ref r0)]))
  refine own_cpB A17 hx hZ hown (hw _ (List.mem_of_getElem? (i := 112) rfl)) (hw _ (List.mem_of_getElem? (i := 115) rfl)) (hw _ (List.mem_of_getElem? (i := 113) rfl)) (hw _ (List.mem_of_getElem? (i := 114) rfl)) (na := 3) (nb := 1) V15 V11 (by decide) (by decide) own_fitL (own_fit0 _) (by decide) (by decide) (by decide) (by decide) (by decide) g_b9 rfl (by rw [hml]; rfl) (rest := []) rfl (hb hby d18_27) (by decide) 0 (by show 2 * 0 + _ ≤ _; exact Nat.le_of_eq rfl) (by decide +kernel) (fun T21 h23 A22 K24 => ?_)
  have Z25 : n0 ≤ h23.size := Nat.le_trans Z13 K24.1
  have K26 : Keep h0 h23 [] := K14.trans K24 (allS (Or.inr nw_b9) all0)
  have V27 : own_Arr Z h23 r0 .byte (3 : Int32) (fun j => ([97, 44, 98] : List Int32).getD j.toNatClampNeg 0) := V15.keep K24 (ninS ne_r0_b9 nin0)
  show own_Go _ _ _ _ (T21.setTop (mkF m 30 #[.val (.ref r0), .val (.int (2 : Int32)), .val (.int (3 : Int32)), .val (.int (1 : Int32)), .val (.ref b9)] []))
  refine own_go (fun t_ k_ => XS.aload A22.here hx rfl (hb hby d18_30) rfl rfl k_) ?_
  show own_Go _ _ _ _ (T21.setTop (mkF m 32 #[.val (.ref r0), .val (.int (2 : Int32)), .val (.int (3 : Int32)), .val (.int (1 : Int32)), .val (.ref b9)] [(.ref b9)]))
  refine own_retA A22 hx hret rfl hlk (by decide) (by decide) rfl (hb hby d18_32) ?_
  exact ⟨K26, b9, rfl, g_b9, nw_b9⟩
theorem ef_17 (m : MethodId) (r0 : Addr) (y1 : Int32) (y2 : Int32) : entryFrame m #[(.ref r0), (.int y1), (.int y2)] 3 = mkF m 0 #[.val (.ref r0), .val (.int y1), .val (.int y2)] [] := by first | (simp [entryFrame, mkF, argsToLocals, Value.category]; done) | rfl
theorem d17_0 : decode jdk_65_method_132_code 0 = .ok (.iload_n 1, 1) := by decide +kernel
theorem d17_1 : decode jdk_65_method_132_code 1 = .ok (.ifCond .ne 9, 3) := by decide +kernel
theorem d17_4 : decode jdk_65_method_132_code 4 = .ok (.iload_n 2, 1) := by decide +kernel
theorem d17_5 : decode jdk_65_method_132_code 5 = .ok (.aload_n 0, 1) := by decide +kernel
theorem d17_6 : decode jdk_65_method_132_code 6 = .ok (.arraylength, 1) := by decide +kernel
theorem d17_7 : decode jdk_65_method_132_code 7 = .ok (.if_icmp .eq 10, 3) := by decide +kernel
theorem d17_10 : decode jdk_65_method_132_code 10 = .ok (.aload_n 0, 1) := by decide +kernel
theorem d17_11 : decode jdk_65_method_132_code 11 = .ok (.iload_n 1, 1) := by decide +kernel
theorem d17_12 : decode jdk_65_method_132_code 12 = .ok (.iload_n 2, 1) := by decide +kernel
theorem d17_13 : decode jdk_65_method_132_code 13 = .ok (.invokestatic 339, 3) := by decide +kernel
theorem pd___BII__B : parseMethodDescriptor "([BII)[B" = some ⟨[(.array .byte), .int, .int], some (.array .byte)⟩ := by decide +kernel
theorem d17_16 : decode jdk_65_method_132_code 16 = .ok (.areturn, 1) := by decide +kernel
set_option maxRecDepth 65536 in
set_option maxHeartbeats 40000000 in
theorem rm17_0_1 (l : Launch) (Z : State) (a0 : Array Value) (hw : ∀ d ∈ tables_1, d.before a0 Z = true) (r0 : Addr) (h0 : Heap) (n0 : Nat) (Z0 : n0 ≤ h0.size) (V0 : own_Arr Z h0 r0 .byte (3 : Int32) (fun j => ([97, 44, 98] : List Int32).getD j.toNatClampNeg 0)) (E1 : Exa Z h0 r0 "[B") :
    own_Met l Z n0 (⟨"java/util/Arrays", "copyOfRange", "([BII)[B"⟩ : MethodName) jdk_65_method_132_code 3 (some (.array .byte)) ({ frames := 2, cells := 1, slots := 1, locals := 56 } : Room) #[(.ref r0), (.int (0 : Int32)), (.int (1 : Int32))] h0 (fun v h => Keep h0 h [] ∧ ∃ t, v = some (.ref t) ∧ n0 ≤ t ∧ h0.size ≤ t) := by
  refine own_met (plainFor_of_name pn_19) ?_
  intro p e s m below meth c T0 hx hby hml hown hnm hret hlk hZ A0
  rw [ef_17]
  show own_Go _ _ _ _ (T0.setTop (mkF m 0 #[.val (.ref r0), .val (.int (0 : Int32)), .val (.int (1 : Int32))] []))
  refine own_go (fun t_ k_ => XS.iloadN A0.here hx rfl (hb hby d17_0) rfl k_) ?_
  show own_Go _ _ _ _ (T0.setTop (mkF m 1 #[.val (.ref r0), .val (.int (0 : Int32)), .val (.int (1 : Int32))] [(.int (0 : Int32))]))
  have hc1 : (0 : Int32) = (0 : Int32) := (by decide)
  refine own_go (fun t_ k_ => XS.ifNo A0.here hx rfl (hb hby d17_1) rfl ((if0 _ _).trans (teq hc1).2) k_) ?_
  show own_Go _ _ _ _ (T0.setTop (mkF m 4 #[.val (.ref r0), .val (.int (0 : Int32)), .val (.int (1 : Int32))] []))
  refine own_go (fun t_ k_ => XS.iloadN A0.here hx rfl (hb hby d17_4) rfl k_) ?_
  show own_Go _ _ _ _ (T0.setTop (mkF m 5 #[.val (.ref r0), .val (.int (0 : Int32)), .val (.int (1 : Int32))] [(.int (1 : Int32))]))
  refine own_go (fun t_ k_ => XS.aloadN A0.here hx rfl (hb hby d17_5) rfl rfl k_) ?_
  show own_Go _ _ _ _ (T0.setTop (mkF m 6 #[.val (.ref r0), .val (.int (0 : Int32)), .val (.int (1 : Int32))] [(.ref r0), (.int (1 : Int32))]))
  refine own_len A0 hx hZ V0 rfl rfl (hb hby d17_6) ?_
  show own_Go _ _ _ _ (T0.setTop (mkF m 7 #[.val (.ref r0), .val (.int (0 : Int32)), .val (.int (1 : Int32))] [(.int (3 : Int32)), (.int (1 : Int32))]))
  have hc2 : ¬ ((1 : Int32) = (3 : Int32)) := (by decide)
  refine own_go (fun t_ k_ => XS.icmpNo A0.here hx rfl (hb hby d17_7) rfl (feq hc2).1 k_) ?_
  show own_Go _ _ _ _ (T0.setTop (mkF m 10 #[.val (.ref r0), .val (.int (0 : Int32)), .val (.int (1 : Int32))] []))
  refine own_go (fun t_ k_ => XS.aloadN A0.here hx rfl (hb hby d17_10) rfl rfl k_) ?_
  show own_Go _ _ _ _ (T0.setTop (mkF m 11 #[.val (.ref r0), .val (.int (0 : Int32)), .val (.int (1 : Int32))] [(.ref r0)]))
  refine own_go (fun t_ k_ => XS.iloadN A0.here hx rfl (hb hby d17_11) rfl k_) ?_
  show own_Go _ _ _ _ (T0.setTop (mkF m 12 #[.val (.ref r0), .val (.int (0 : Int32)), .val (.int (1 : Int32))] [(.int (0 : Int32)), (.ref r0)]))
  refine own_go (fun t_ k_ => XS.iloadN A0.here hx rfl (hb hby d17_12) rfl k_) ?_
  show own_Go _ _ _ _ (T0.setTop (mkF m 13 #[.val (.ref r0), .val (.int (0 : Int32)), .val (.int (1 : Int32))] [(.int (1 : Int32)), (.int (0 : Int32)), (.ref r0)]))
  refine own_callS A0 hx hZ hown (y := (⟨"java/util/Arrays", "copyOfRangeByte", "([BII)[B"⟩ : MethodName)) (hw _ (List.mem_of_getElem? (i := 102) rfl)) (hw _ (List.mem_of_getElem? (i := 103) rfl)) (hw _ (List.mem_of_getElem? (i := 100) rfl)) (hw _ (List.mem_of_getElem? (i := 104) rfl)) (by decide) (argsL := [(.ref r0), (.int (0 : Int32)), (.int (1 : Int32))]) (rest := []) (rm18_0_1 l Z a0 hw r0 h0 n0 Z0 V0) 0 (by decide) (by decide) rfl (by rw [hml]; rfl) (lenOf pd___BII__B rfl) rfl (by show 2 * 0 + _ ≤ _; exact Nat.le_of_eq rfl) (hb hby d17_13) (by decide) (by decide) (fun v6 T3 h5 A4 hQ7 => ?_)
  obtain ⟨K8, t9, rfl, gt10, nt11⟩ := hQ7
  have ne_r0_t9 : r0 ≠ t9 := Nat.ne_of_lt (Nat.lt_of_lt_of_le V0.lt nt11)
  have nw_t9 : h0.size ≤ t9 := Nat.le_trans (Keep.refl h0 []).1 nt11
  have Z12 : n0 ≤ h5.size := Nat.le_trans Z0 K8.1
  have K13 : Keep h0 h5 [] := (Keep.refl h0 []).trans K8 all0
  have V14 : own_Arr Z h5 r0 .byte (3 : Int32) (fun j => ([97, 44, 98] : List Int32).getD j.toNatClampNeg 0) := V0.keep K8 nin0
  have E15 : Exa Z h5 r0 "[B" := E1.keep K8
  show own_Go _ _ _ _ (T3.setTop (mkF m 16 #[.val (.ref r0), .val (.int (0 : Int32)), .val (.int (1 : Int32))] [(.ref t9)]))
  refine own_retA A4 hx hret rfl hlk (by decide) (by decide) rfl (hb hby d17_16) ?_
  exact ⟨K13, t9, rfl, gt10, nw_t9⟩
set_option maxRecDepth 65536 in
set_option maxHeartbeats 40000000 in
theorem rm17_2_3 (l : Launch) (Z : State) (a0 : Array Value) (hw : ∀ d ∈ tables_1, d.before a0 Z = true) (r0 : Addr) (h0 : Heap) (n0 : Nat) (Z0 : n0 ≤ h0.size) (V0 : own_Arr Z h0 r0 .byte (3 : Int32) (fun j => ([97, 44, 98] : List Int32).getD j.toNatClampNeg 0)) (E1 : Exa Z h0 r0 "[B") :
    own_Met l Z n0 (⟨"java/util/Arrays", "copyOfRange", "([BII)[B"⟩ : MethodName) jdk_65_method_132_code 3 (some (.array .byte)) ({ frames := 2, cells := 1, slots := 1, locals := 56 } : Room) #[(.ref r0), (.int (2 : Int32)), (.int (3 : Int32))] h0 (fun v h => Keep h0 h [] ∧ ∃ t, v = some (.ref t) ∧ n0 ≤ t ∧ h0.size ≤ t) := by
  refine own_met (plainFor_of_name pn_19) ?_
  intro p e s m below meth c T0 hx hby hml hown hnm hret hlk hZ A0
  rw [ef_17]
  show own_Go _ _ _ _ (T0.setTop (mkF m 0 #[.val (.ref r0), .val (.int (2 : Int32)), .val (.int (3 : Int32))] []))
  refine own_go (fun t_ k_ => XS.iloadN A0.here hx rfl (hb hby d17_0) rfl k_) ?_
  show own_Go _ _ _ _ (T0.setTop (mkF m 1 #[.val (.ref r0), .val (.int (2 : Int32)), .val (.int (3 : Int32))] [(.int (2 : Int32))]))
  have hc1 : ¬ ((2 : Int32) = (0 : Int32)) := (by decide)
  refine own_go (fun t_ k_ => XS.ifYes A0.here hx rfl (pc0 := 1) (pc' := 10) rfl (hb hby d17_1) rfl ((if0 _ _).trans (feq hc1).2) (by decide) (by decide) k_) ?_
  show own_Go _ _ _ _ (T0.setTop (mkF m 10 #[.val (.ref r0), .val (.int (2 : Int32)), .val (.int (3 : Int32))] []))
  refine own_go (fun t_ k_ => XS.aloadN A0.here hx rfl (hb hby d17_10) rfl rfl k_) ?_
  show own_Go _ _ _ _ (T0.setTop (mkF m 11 #[.val (.ref r0), .val (.int (2 : Int32)), .val (.int (3 : Int32))] [(.ref r0)]))
  refine own_go (fun t_ k_ => XS.iloadN A0.here hx rfl (hb hby d17_11) rfl k_) ?_
  show own_Go _ _ _ _ (T0.setTop (mkF m 12 #[.val (.ref r0), .val (.int (2 : Int32)), .val (.int (3 : Int32))] [(.int (2 : Int32)), (.ref r0)]))
  refine own_go (fun t_ k_ => XS.iloadN A0.here hx rfl (hb hby d17_12) rfl k_) ?_
  show own_Go _ _ _ _ (T0.setTop (mkF m 13 #[.val (.ref r0), .val (.int (2 : Int32)), .val (.int (3 : Int32))] [(.int (3 : Int32)), (.int (2 : Int32)), (.ref r0)]))
  refine own_callS A0 hx hZ hown (y := (⟨"java/util/Arrays", "copyOfRangeByte", "([BII)[B"⟩ : MethodName)) (hw _ (List.mem_of_getElem? (i := 102) rfl)) (hw _ (List.mem_of_getElem? (i := 103) rfl)) (hw _ (List.mem_of_getElem? (i := 100) rfl)) (hw _ (List.mem_of_getElem? (i := 104) rfl)) (by decide) (argsL := [(.ref r0), (.int (2 : Int32)), (.int (3 : Int32))]) (rest := []) (rm18_2_3 l Z a0 hw r0 h0 n0 Z0 V0) 0 (by decide) (by decide) rfl (by rw [hml]; rfl) (lenOf pd___BII__B rfl) rfl (by show 2 * 0 + _ ≤ _; exact Nat.le_of_eq rfl) (hb hby d17_13) (by decide) (by decide) (fun v5 T2 h4 A3 hQ6 => ?_)
  obtain ⟨K7, t8, rfl, gt9, nt10⟩ := hQ6
  have ne_r0_t8 : r0 ≠ t8 := Nat.ne_of_lt (Nat.lt_of_lt_of_le V0.lt nt10)
  have nw_t8 : h0.size ≤ t8 := Nat.le_trans (Keep.refl h0 []).1 nt10
  have Z11 : n0 ≤ h4.size := Nat.le_trans Z0 K7.1
  have K12 : Keep h0 h4 [] := (Keep.refl h0 []).trans K7 all0
  have V13 : own_Arr Z h4 r0 .byte (3 : Int32) (fun j => ([97, 44, 98] : List Int32).getD j.toNatClampNeg 0) := V0.keep K7 nin0
  have E14 : Exa Z h4 r0 "[B" := E1.keep K7
  show own_Go _ _ _ _ (T2.setTop (mkF m 16 #[.val (.ref r0), .val (.int (2 : Int32)), .val (.int (3 : Int32))] [(.ref t8)]))
  refine own_retA A3 hx hret rfl hlk (by decide) (by decide) rfl (hb hby d17_16) ?_
  exact ⟨K12, t8, rfl, gt9, nw_t8⟩
theorem ef_16 (m : MethodId) (r0 : Addr) (u8 : Addr) (rb : Addr) (y3 : Int32) (y4 : Int32) : entryFrame m #[(.ref r0), (.ref u8), (.ref rb), (.int y3), (.int y4)] 11 = mkF m 0 #[.val (.ref r0), .val (.ref u8), .val (.ref rb), .val (.int y3), .val (.int y4), .unset, .unset, .unset, .unset, .unset, .unset] [] := by first | (simp [entryFrame, mkF, argsToLocals, Value.category]; done) | rfl
theorem d16_0 : decode jdk_42_method_11_code 0 = .ok (.aload_n 0, 1) := by decide +kernel
theorem d16_1 : decode jdk_42_method_11_code 1 = .ok (.invokespecial 1, 3) := by decide +kernel
theorem d16_4 : decode jdk_42_method_11_code 4 = .ok (.iload 4, 2) := by decide +kernel
theorem d16_6 : decode jdk_42_method_11_code 6 = .ok (.ifCond .ne 24, 3) := by decide +kernel
theorem d16_30 : decode jdk_42_method_11_code 30 = .ok (.aload_n 1, 1) := by decide +kernel
theorem d16_31 : decode jdk_42_method_11_code 31 = .ok (.getstatic 86, 3) := by decide +kernel
theorem d16_34 : decode jdk_42_method_11_code 34 = .ok (.if_acmp .ne 312, 3) := by decide +kernel
theorem d16_37 : decode jdk_42_method_11_code 37 = .ok (.getstatic 38, 3) := by decide +kernel
theorem d16_40 : decode jdk_42_method_11_code 40 = .ok (.ifCond .eq 252, 3) := by decide +kernel
theorem d16_43 : decode jdk_42_method_11_code 43 = .ok (.aload_n 2, 1) := by decide +kernel
theorem d16_44 : decode jdk_42_method_11_code 44 = .ok (.iload_n 3, 1) := by decide +kernel
theorem d16_45 : decode jdk_42_method_11_code 45 = .ok (.iload 4, 2) := by decide +kernel
theorem d16_47 : decode jdk_42_method_11_code 47 = .ok (.invokestatic 92, 3) := by decide +kernel
theorem d16_50 : decode jdk_42_method_11_code 50 = .ok (.istore 5, 2) := by decide +kernel
theorem d16_52 : decode jdk_42_method_11_code 52 = .ok (.iload 5, 2) := by decide +kernel
theorem d16_54 : decode jdk_42_method_11_code 54 = .ok (.iload 4, 2) := by decide +kernel
theorem d16_56 : decode jdk_42_method_11_code 56 = .ok (.if_icmp .ne 22, 3) := by decide +kernel
theorem d16_59 : decode jdk_42_method_11_code 59 = .ok (.aload_n 0, 1) := by decide +kernel
theorem d16_60 : decode jdk_42_method_11_code 60 = .ok (.aload_n 2, 1) := by decide +kernel
theorem d16_61 : decode jdk_42_method_11_code 61 = .ok (.iload_n 3, 1) := by decide +kernel
theorem d16_62 : decode jdk_42_method_11_code 62 = .ok (.iload_n 3, 1) := by decide +kernel
theorem d16_63 : decode jdk_42_method_11_code 63 = .ok (.iload 4, 2) := by decide +kernel
theorem d16_65 : decode jdk_42_method_11_code 65 = .ok (.iadd, 1) := by decide +kernel
theorem d16_66 : decode jdk_42_method_11_code 66 = .ok (.invokestatic 54, 3) := by decide +kernel
theorem d16_69 : decode jdk_42_method_11_code 69 = .ok (.putfield 9, 3) := by decide +kernel
theorem d16_72 : decode jdk_42_method_11_code 72 = .ok (.aload_n 0, 1) := by decide +kernel
theorem d16_73 : decode jdk_42_method_11_code 73 = .ok (.iconst 0, 1) := by decide +kernel
theorem d16_74 : decode jdk_42_method_11_code 74 = .ok (.putfield 15, 3) := by decide +kernel
theorem d16_77 : decode jdk_42_method_11_code 77 = .ok (.return_, 1) := by decide +kernel
set_option maxRecDepth 65536 in
set_option maxHeartbeats 40000000 in
theorem rm16_0_1 (l : Launch) (Z : State) (a0 : Array Value) (hw : ∀ d ∈ tables_1, d.before a0 Z = true) (r0 : Addr) (u8 : Addr) (rb : Addr) (z_C : Int32) (u8 : Addr) (h0 : Heap) (n0 : Nat) (O0 : Old Z n0 h0) (Z0 : n0 ≤ h0.size) (E0 : Exa Z h0 r0 "java/lang/String") (Fv0 : Fld Z h0 r0 "java/lang/String" "value" "[B" .null) (Fc0 : Fld Z h0 r0 "java/lang/String" "coder" "B" (.int (0 : Int32))) (g0 : n0 ≤ r0) (Vb : own_Arr Z h0 rb .byte (3 : Int32) (fun j => ([97, 44, 98] : List Int32).getD j.toNatClampNeg 0)) (Eb : Exa Z h0 rb "[B") (ne_r0_rb : r0 ≠ rb) (hz : ¬ z_C = 0) (S_COMPACT_STRINGS : Sta Z Z.heap "java/lang/String" "COMPACT_STRINGS" "Z" (.int z_C)) (S_INSTANCE : Sta Z Z.heap "sun/nio/cs/UTF_8" "INSTANCE" "Lsun/nio/cs/UTF_8;" (.ref u8)) :
    own_MetH l Z n0 (⟨"java/lang/String", "<init>", "(Ljava/nio/charset/Charset;[BII)V"⟩ : MethodName) jdk_42_method_11_code 11 none [((800 : Nat), (813 : Nat), (816 : Nat), (202 : Nat))] ({ frames := 3, cells := 1, slots := 1, locals := 71 } : Room) #[(.ref r0), (.ref u8), (.ref rb), (.int (0 : Int32)), (.int (1 : Int32))] h0 (fun v h => v = none ∧ Keep h0 h [r0]) := by
  refine own_metH (plainFor_of_name pn_5) ?_
  intro p e s m below meth c T0 hx hby hml hown hnm hret hlk hZ A0
  rw [ef_16]
  show own_Go _ _ _ _ (T0.setTop (mkF m 0 #[.val (.ref r0), .val (.ref u8), .val (.ref rb), .val (.int (0 : Int32)), .val (.int (1 : Int32)), .unset, .unset, .unset, .unset, .unset, .unset] []))
  refine own_go (fun t_ k_ => XS.aloadN A0.here hx rfl (hb hby d16_0) rfl rfl k_) ?_
  show own_Go _ _ _ _ (T0.setTop (mkF m 1 #[.val (.ref r0), .val (.ref u8), .val (.ref rb), .val (.int (0 : Int32)), .val (.int (1 : Int32)), .unset, .unset, .unset, .unset, .unset, .unset] [(.ref r0)]))
  refine own_initO A0 hx hZ hown (hw _ (List.mem_of_getElem? (i := 96) rfl)) (hw _ (List.mem_of_getElem? (i := 21) rfl)) (hw _ (List.mem_of_getElem? (i := 22) rfl)) rfl (by rw [hml]; rfl) rfl (hb hby d16_1) (by decide) 0 (by show 2 * 0 + _ ≤ _; exact Nat.le_of_eq rfl) (by decide) (fun T1 A2 => ?_)
  show own_Go _ _ _ _ (T1.setTop (mkF m 4 #[.val (.ref r0), .val (.ref u8), .val (.ref rb), .val (.int (0 : Int32)), .val (.int (1 : Int32)), .unset, .unset, .unset, .unset, .unset, .unset] []))
  refine own_go (fun t_ k_ => XS.iload A2.here hx rfl (hb hby d16_4) rfl k_) ?_
  show own_Go _ _ _ _ (T1.setTop (mkF m 6 #[.val (.ref r0), .val (.ref u8), .val (.ref rb), .val (.int (0 : Int32)), .val (.int (1 : Int32)), .unset, .unset, .unset, .unset, .unset, .unset] [(.int (1 : Int32))]))
  have hc3 : ¬ ((1 : Int32) = (0 : Int32)) := (by decide)
  refine own_go (fun t_ k_ => XS.ifYes A2.here hx rfl (pc0 := 6) (pc' := 30) rfl (hb hby d16_6) rfl ((if0 _ _).trans (feq hc3).2) (by decide) (by decide) k_) ?_
  show own_Go _ _ _ _ (T1.setTop (mkF m 30 #[.val (.ref r0), .val (.ref u8), .val (.ref rb), .val (.int (0 : Int32)), .val (.int (1 : Int32)), .unset, .unset, .unset, .unset, .unset, .unset] []))
  refine own_go (fun t_ k_ => XS.aloadN A2.here hx rfl (hb hby d16_30) rfl rfl k_) ?_
  show own_Go _ _ _ _ (T1.setTop (mkF m 31 #[.val (.ref r0), .val (.ref u8), .val (.ref rb), .val (.int (0 : Int32)), .val (.int (1 : Int32)), .unset, .unset, .unset, .unset, .unset, .unset] [(.ref u8)]))
  refine own_getS A2 hx hZ hown (host := "") (Or.inl (hw _ (List.mem_of_getElem? (i := 41) rfl))) Via.refl (S_INSTANCE.ext O0.2) rfl (hb hby d16_31) (fun T4 A5 => ?_)
  show own_Go _ _ _ _ (T4.setTop (mkF m 34 #[.val (.ref r0), .val (.ref u8), .val (.ref rb), .val (.int (0 : Int32)), .val (.int (1 : Int32)), .unset, .unset, .unset, .unset, .unset, .unset] [(.ref u8), (.ref u8)]))
  have hc6 : u8 = u8 := rfl
  refine own_go (fun t_ k_ => XS.acmpNo A5.here hx rfl (hb hby d16_34) rfl (own_aeq hc6).2 k_) ?_
  show own_Go _ _ _ _ (T4.setTop (mkF m 37 #[.val (.ref r0), .val (.ref u8), .val (.ref rb), .val (.int (0 : Int32)), .val (.int (1 : Int32)), .unset, .unset, .unset, .unset, .unset, .unset] []))
  refine own_getS A5 hx hZ hown (host := "") (Or.inl (hw _ (List.mem_of_getElem? (i := 35) rfl))) Via.refl (S_COMPACT_STRINGS.ext O0.2) rfl (hb hby d16_37) (fun T7 A8 => ?_)
  show own_Go _ _ _ _ (T7.setTop (mkF m 40 #[.val (.ref r0), .val (.ref u8), .val (.ref rb), .val (.int (0 : Int32)), .val (.int (1 : Int32)), .unset, .unset, .unset, .unset, .unset, .unset] [(.int z_C)]))
  have hc9 : ¬ (z_C = (0 : Int32)) := hz
  refine own_go (fun t_ k_ => XS.ifNo A8.here hx rfl (hb hby d16_40) rfl ((if0 _ _).trans (feq hc9).1) k_) ?_
  show own_Go _ _ _ _ (T7.setTop (mkF m 43 #[.val (.ref r0), .val (.ref u8), .val (.ref rb), .val (.int (0 : Int32)), .val (.int (1 : Int32)), .unset, .unset, .unset, .unset, .unset, .unset] []))
  refine own_go (fun t_ k_ => XS.aloadN A8.here hx rfl (hb hby d16_43) rfl rfl k_) ?_
  show own_Go _ _ _ _ (T7.setTop (mkF m 44 #[.val (.ref r0), .val (.ref u8), .val (.ref rb), .val (.int (0 : Int32)), .val (.int (1 : Int32)), .unset, .unset, .unset, .unset, .unset, .unset] [(.ref rb)]))
  refine own_go (fun t_ k_ => XS.iloadN A8.here hx rfl (hb hby d16_44) rfl k_) ?_
  show own_Go _ _ _ _ (T7.setTop (mkF m 45 #[.val (.ref r0), .val (.ref u8), .val (.ref rb), .val (.int (0 : Int32)), .val (.int (1 : Int32)), .unset, .unset, .unset, .unset, .unset, .unset] [(.int (0 : Int32)), (.ref rb)]))
  refine own_go (fun t_ k_ => XS.iload A8.here hx rfl (hb hby d16_45) rfl k_) ?_
  show own_Go _ _ _ _ (T7.setTop (mkF m 47 #[.val (.ref r0), .val (.ref u8), .val (.ref rb), .val (.int (0 : Int32)), .val (.int (1 : Int32)), .unset, .unset, .unset, .unset, .unset, .unset] [(.int (1 : Int32)), (.int (0 : Int32)), (.ref rb)]))
  refine own_callS A8 hx hZ hown (y := (⟨"java/lang/StringCoding", "countPositives", "([BII)I"⟩ : MethodName)) (hw _ (List.mem_of_getElem? (i := 97) rfl)) (hw _ (List.mem_of_getElem? (i := 51) rfl)) (hw _ (List.mem_of_getElem? (i := 48) rfl)) (hw _ (List.mem_of_getElem? (i := 52) rfl)) (by decide) (argsL := [(.ref rb), (.int (0 : Int32)), (.int (1 : Int32))]) (rest := []) (rm9_0_1 l Z a0 hw rb h0 n0 Vb) 0 (by decide) (by decide) rfl (by rw [hml]; rfl) (lenOf pd___BII_I rfl) rfl (by show 2 * 0 + _ ≤ _; exact Nat.le_of_eq rfl) (hb hby d16_47) (by decide) (by decide) (fun v13 T10 h12 A11 hQ14 => ?_)
  obtain ⟨rfl, rfl⟩ := hQ14
  show own_Go _ _ _ _ (T10.setTop (mkF m 50 #[.val (.ref r0), .val (.ref u8), .val (.ref rb), .val (.int (0 : Int32)), .val (.int (1 : Int32)), .unset, .unset, .unset, .unset, .unset, .unset] [(.int (1 : Int32))]))
  refine own_go (fun t_ k_ => XS.istore A11.here hx rfl (hb hby d16_50) rfl (l' := #[.val (.ref r0), .val (.ref u8), .val (.ref rb), .val (.int (0 : Int32)), .val (.int (1 : Int32)), .val (.int (1 : Int32)), .unset, .unset, .unset, .unset, .unset]) rfl k_) ?_
  show own_Go _ _ _ _ (T10.setTop (mkF m 52 #[.val (.ref r0), .val (.ref u8), .val (.ref rb), .val (.int (0 : Int32)), .val (.int (1 : Int32)), .val (.int (1 : Int32)), .unset, .unset, .unset, .unset, .unset] []))
  refine own_go (fun t_ k_ => XS.iload A11.here hx rfl (hb hby d16_52) rfl k_) ?_
  show own_Go _ _ _ _ (T10.setTop (mkF m 54 #[.val (.ref r0), .val (.ref u8), .val (.ref rb), .val (.int (0 : Int32)), .val (.int (1 : Int32)), .val (.int (1 : Int32)), .unset, .unset, .unset, .unset, .unset] [(.int (1 : Int32))]))
  refine own_go (fun t_ k_ => XS.iload A11.here hx rfl (hb hby d16_54) rfl k_) ?_
  show own_Go _ _ _ _ (T10.setTop (mkF m 56 #[.val (.ref r0), .val (.ref u8), .val (.ref rb), .val (.int (0 : Int32)), .val (.int (1 : Int32)), .val (.int (1 : Int32)), .unset, .unset, .unset, .unset, .unset] [(.int (1 : Int32)), (.int (1 : Int32))]))
  have hc15 : (1 : Int32) = (1 : Int32) := (by decide)
  refine own_go (fun t_ k_ => XS.icmpNo A11.here hx rfl (hb hby d16_56) rfl (teq hc15).2 k_) ?_
  show own_Go _ _ _ _ (T10.setTop (mkF m 59 #[.val (.ref r0), .val (.ref u8), .val (.ref rb), .val (.int (0 : Int32)), .val (.int (1 : Int32)), .val (.int (1 : Int32)), .unset, .unset, .unset, .unset, .unset] []))
  refine own_go (fun t_ k_ => XS.aloadN A11.here hx rfl (hb hby d16_59) rfl rfl k_) ?_
  show own_Go _ _ _ _ (T10.setTop (mkF m 60 #[.val (.ref r0), .val (.ref u8), .val (.ref rb), .val (.int (0 : Int32)), .val (.int (1 : Int32)), .val (.int (1 : Int32)), .unset, .unset, .unset, .unset, .unset] [(.ref r0)]))
  refine own_go (fun t_ k_ => XS.aloadN A11.here hx rfl (hb hby d16_60) rfl rfl k_) ?_
  show own_Go _ _ _ _ (T10.setTop (mkF m 61 #[.val (.ref r0), .val (.ref u8), .val (.ref rb), .val (.int (0 : Int32)), .val (.int (1 : Int32)), .val (.int (1 : Int32)), .unset, .unset, .unset, .unset, .unset] [(.ref rb), (.ref r0)]))
  refine own_go (fun t_ k_ => XS.iloadN A11.here hx rfl (hb hby d16_61) rfl k_) ?_
  show own_Go _ _ _ _ (T10.setTop (mkF m 62 #[.val (.ref r0), .val (.ref u8), .val (.ref rb), .val (.int (0 : Int32)), .val (.int (1 : Int32)), .val (.int (1 : Int32)), .unset, .unset, .unset, .unset, .unset] [(.int (0 : Int32)), (.ref rb), (.ref r0)]))
  refine own_go (fun t_ k_ => XS.iloadN A11.here hx rfl (hb hby d16_62) rfl k_) ?_
  show own_Go _ _ _ _ (T10.setTop (mkF m 63 #[.val (.ref r0), .val (.ref u8), .val (.ref rb), .val (.int (0 : Int32)), .val (.int (1 : Int32)), .val (.int (1 : Int32)), .unset, .unset, .unset, .unset, .unset] [(.int (0 : Int32)), (.int (0 : Int32)), (.ref rb), (.ref r0)]))
  refine own_go (fun t_ k_ => XS.iload A11.here hx rfl (hb hby d16_63) rfl k_) ?_
  show own_Go _ _ _ _ (T10.setTop (mkF m 65 #[.val (.ref r0), .val (.ref u8), .val (.ref rb), .val (.int (0 : Int32)), .val (.int (1 : Int32)), .val (.int (1 : Int32)), .unset, .unset, .unset, .unset, .unset] [(.int (1 : Int32)), (.int (0 : Int32)), (.int (0 : Int32)), (.ref rb), (.ref r0)]))
  refine own_go (fun t_ k_ => XS.iadd A11.here hx rfl (hb hby d16_65) rfl k_) ?_
  show own_Go _ _ _ _ (T10.setTop (mkF m 66 #[.val (.ref r0), .val (.ref u8), .val (.ref rb), .val (.int (0 : Int32)), .val (.int (1 : Int32)), .val (.int (1 : Int32)), .unset, .unset, .unset, .unset, .unset] [(.int (1 : Int32)), (.int (0 : Int32)), (.ref rb), (.ref r0)]))
  refine own_callS A11 hx hZ hown (y := (⟨"java/util/Arrays", "copyOfRange", "([BII)[B"⟩ : MethodName)) (hw _ (List.mem_of_getElem? (i := 98) rfl)) (hw _ (List.mem_of_getElem? (i := 99) rfl)) (hw _ (List.mem_of_getElem? (i := 100) rfl)) (hw _ (List.mem_of_getElem? (i := 101) rfl)) (by decide) (argsL := [(.ref rb), (.int (0 : Int32)), (.int (1 : Int32))]) (rest := [(.ref r0)]) (rm17_0_1 l Z a0 hw rb h0 n0 Z0 Vb Eb) 1 (by decide) (by decide) rfl (by rw [hml]; rfl) (lenOf pd___BII__B rfl) rfl (by show 2 * 0 + _ ≤ _; exact Nat.le_of_eq rfl) (hb hby d16_66) (by decide) (by decide) (fun v19 T16 h18 A17 hQ20 => ?_)
  obtain ⟨K21, t22, rfl, gt23, nt24⟩ := hQ20
  have ne_r0_t22 : r0 ≠ t22 := Nat.ne_of_lt (Nat.lt_of_lt_of_le E0.lt nt24)
  have ne_rb_t22 : rb ≠ t22 := Nat.ne_of_lt (Nat.lt_of_lt_of_le Vb.lt nt24)
  have nw_t22 : h0.size ≤ t22 := Nat.le_trans (Keep.refl h0 [r0]).1 nt24
  have O25 : Old Z n0 h18 := O0.keep K21 all0
  have Z26 : n0 ≤ h18.size := Nat.le_trans Z0 K21.1
  have E27 : Exa Z h18 r0 "java/lang/String" := E0.keep K21
  have F28 : Fld Z h18 r0 "java/lang/String" "value" "[B" .null := Fv0.keep K21 nin0
  have F29 : Fld Z h18 r0 "java/lang/String" "coder" "B" (.int (0 : Int32)) := Fc0.keep K21 nin0
  have K30 : Keep h0 h18 [r0] := (Keep.refl h0 [r0]).trans K21 all0
  have V31 : own_Arr Z h18 rb .byte (3 : Int32) (fun j => ([97, 44, 98] : List Int32).getD j.toNatClampNeg 0) := Vb.keep K21 nin0
  have E32 : Exa Z h18 rb "[B" := Eb.keep K21
  show own_Go _ _ _ _ (T16.setTop (mkF m 69 #[.val (.ref r0), .val (.ref u8), .val (.ref rb), .val (.int (0 : Int32)), .val (.int (1 : Int32)), .val (.int (1 : Int32)), .unset, .unset, .unset, .unset, .unset] [(.ref t22), (.ref r0)]))
  refine own_putF A17 hx hZ hown (host := "") (Or.inl (hw _ (List.mem_of_getElem? (i := 37) rfl))) Via.refl F28 E27 (Or.inr ⟨(hw _ (List.mem_of_getElem? (i := 12) rfl)), rfl, hnm⟩) (hw _ (List.mem_of_getElem? (i := 11) rfl)) (ty := (.array .byte)) (by decide) rfl rfl g0 rfl rfl (hb hby d16_69) (fun T33 h35 A34 W36 => ?_)
  have O37 : Old Z n0 h35 := O25.wr W36 g0
  have Z38 : n0 ≤ h35.size := Nat.le_trans Z26 (Nat.le_of_eq (Wr.size W36).symm)
  have E39 : Exa Z h35 r0 "java/lang/String" := E27.wr W36
  have F40 : Fld Z h35 r0 "java/lang/String" "value" "[B" (.ref t22) := F28.same W36
  have F41 : Fld Z h35 r0 "java/lang/String" "coder" "B" (.int (0 : Int32)) := F29.other W36 (Or.inr (slot_ne (Or.inr (hw _ (List.mem_of_getElem? (i := 13) rfl))) (Or.inr (hw _ (List.mem_of_getElem? (i := 12) rfl))) (by decide) (t := .byte) (t' := (.array .byte)) (by decide) (by decide)))
  have K42 : Keep h0 h35 [r0] := K30.wr W36 (Or.inl (List.mem_of_getElem? (i := 0) rfl))
  have V43 : own_Arr Z h35 rb .byte (3 : Int32) (fun j => ([97, 44, 98] : List Int32).getD j.toNatClampNeg 0) := V31.other W36 (Ne.symm ne_r0_rb)
  have E44 : Exa Z h35 rb "[B" := E32.wr W36
  show own_Go _ _ _ _ (T33.setTop (mkF m 72 #[.val (.ref r0), .val (.ref u8), .val (.ref rb), .val (.int (0 : Int32)), .val (.int (1 : Int32)), .val (.int (1 : Int32)), .unset, .unset, .unset, .unset, .unset] []))
  refine own_go (fun t_ k_ => XS.aloadN A34.here hx rfl (hb hby d16_72) rfl rfl k_) ?_
  show own_Go _ _ _ _ (T33.setTop (mkF m 73 #[.val (.ref r0), .val (.ref u8), .val (.ref rb), .val (.int (0 : Int32)), .val (.int (1 : Int32)), .val (.int (1 : Int32)), .unset, .unset, .unset, .unset, .unset] [(.ref r0)]))
  refine own_go (fun t_ k_ => XS.iconst A34.here hx rfl (hb hby d16_73) k_) ?_
  show own_Go _ _ _ _ (T33.setTop (mkF m 74 #[.val (.ref r0), .val (.ref u8), .val (.ref rb), .val (.int (0 : Int32)), .val (.int (1 : Int32)), .val (.int (1 : Int32)), .unset, .unset, .unset, .unset, .unset] [(.int (0 : Int32)), (.ref r0)]))
  refine own_putF A34 hx hZ hown (host := "") (Or.inl (hw _ (List.mem_of_getElem? (i := 36) rfl))) Via.refl F41 E39 (Or.inr ⟨(hw _ (List.mem_of_getElem? (i := 13) rfl)), rfl, hnm⟩) (hw _ (List.mem_of_getElem? (i := 11) rfl)) (ty := .byte) (by decide) rfl rfl g0 rfl rfl (hb hby d16_74) (fun T45 h47 A46 W48 => ?_)
  have O49 : Old Z n0 h47 := O37.wr W48 g0
  have Z50 : n0 ≤ h47.size := Nat.le_trans Z38 (Nat.le_of_eq (Wr.size W48).symm)
  have E51 : Exa Z h47 r0 "java/lang/String" := E39.wr W48
  have F52 : Fld Z h47 r0 "java/lang/String" "value" "[B" (.ref t22) := F40.other W48 (Or.inr (slot_ne (Or.inr (hw _ (List.mem_of_getElem? (i := 12) rfl))) (Or.inr (hw _ (List.mem_of_getElem? (i := 13) rfl))) (by decide) (t := (.array .byte)) (t' := .byte) (by decide) (by decide)))
  have F53 : Fld Z h47 r0 "java/lang/String" "coder" "B" (.int (0 : Int32)) := F41.same W48
  have K54 : Keep h0 h47 [r0] := K42.wr W48 (Or.inl (List.mem_of_getElem? (i := 0) rfl))
  have V55 : own_Arr Z h47 rb .byte (3 : Int32) (fun j => ([97, 44, 98] : List Int32).getD j.toNatClampNeg 0) := V43.other W48 (Ne.symm ne_r0_rb)
  have E56 : Exa Z h47 rb "[B" := E44.wr W48
  show own_Go _ _ _ _ (T45.setTop (mkF m 77 #[.val (.ref r0), .val (.ref u8), .val (.ref rb), .val (.int (0 : Int32)), .val (.int (1 : Int32)), .val (.int (1 : Int32)), .unset, .unset, .unset, .unset, .unset] []))
  refine own_retV A46 hx hret hlk (by decide) (by decide) (hb hby d16_77) ?_
  exact ⟨rfl, K54⟩
set_option maxRecDepth 65536 in
set_option maxHeartbeats 40000000 in
theorem rm16_2_1 (l : Launch) (Z : State) (a0 : Array Value) (hw : ∀ d ∈ tables_1, d.before a0 Z = true) (r0 : Addr) (u8 : Addr) (rb : Addr) (z_C : Int32) (u8 : Addr) (h0 : Heap) (n0 : Nat) (O0 : Old Z n0 h0) (Z0 : n0 ≤ h0.size) (E0 : Exa Z h0 r0 "java/lang/String") (Fv0 : Fld Z h0 r0 "java/lang/String" "value" "[B" .null) (Fc0 : Fld Z h0 r0 "java/lang/String" "coder" "B" (.int (0 : Int32))) (g0 : n0 ≤ r0) (Vb : own_Arr Z h0 rb .byte (3 : Int32) (fun j => ([97, 44, 98] : List Int32).getD j.toNatClampNeg 0)) (Eb : Exa Z h0 rb "[B") (ne_r0_rb : r0 ≠ rb) (hz : ¬ z_C = 0) (S_COMPACT_STRINGS : Sta Z Z.heap "java/lang/String" "COMPACT_STRINGS" "Z" (.int z_C)) (S_INSTANCE : Sta Z Z.heap "sun/nio/cs/UTF_8" "INSTANCE" "Lsun/nio/cs/UTF_8;" (.ref u8)) :
    own_MetH l Z n0 (⟨"java/lang/String", "<init>", "(Ljava/nio/charset/Charset;[BII)V"⟩ : MethodName) jdk_42_method_11_code 11 none [((800 : Nat), (813 : Nat), (816 : Nat), (202 : Nat))] ({ frames := 3, cells := 1, slots := 1, locals := 71 } : Room) #[(.ref r0), (.ref u8), (.ref rb), (.int (2 : Int32)), (.int (1 : Int32))] h0 (fun v h => v = none ∧ Keep h0 h [r0]) := by
  refine own_metH (plainFor_of_name pn_5) ?_
  intro p e s m below meth c T0 hx hby hml hown hnm hret hlk hZ A0
  rw [ef_16]
  show own_Go _ _ _ _ (T0.setTop (mkF m 0 #[.val (.ref r0), .val (.ref u8), .val (.ref rb), .val (.int (2 : Int32)), .val (.int (1 : Int32)), .unset, .unset, .unset, .unset, .unset, .unset] []))
  refine own_go (fun t_ k_ => XS.aloadN A0.here hx rfl (hb hby d16_0) rfl rfl k_) ?_
  show own_Go _ _ _ _ (T0.setTop (mkF m 1 #[.val (.ref r0), .val (.ref u8), .val (.ref rb), .val (.int (2 : Int32)), .val (.int (1 : Int32)), .unset, .unset, .unset, .unset, .unset, .unset] [(.ref r0)]))
  refine own_initO A0 hx hZ hown (hw _ (List.mem_of_getElem? (i := 96) rfl)) (hw _ (List.mem_of_getElem? (i := 21) rfl)) (hw _ (List.mem_of_getElem? (i := 22) rfl)) rfl (by rw [hml]; rfl) rfl (hb hby d16_1) (by decide) 0 (by show 2 * 0 + _ ≤ _; exact Nat.le_of_eq rfl) (by decide) (fun T1 A2 => ?_)
  show own_Go _ _ _ _ (T1.setTop (mkF m 4 #[.val (.ref r0), .val (.ref u8), .val (.ref rb), .val (.int (2 : Int32)), .val (.int (1 : Int32)), .unset, .unset, .unset, .unset, .unset, .unset] []))
  refine own_go (fun t_ k_ => XS.iload A2.here hx rfl (hb hby d16_4) rfl k_) ?_
  show own_Go _ _ _ _ (T1.setTop (mkF m 6 #[.val (.ref r0), .val (.ref u8), .val (.ref rb), .val (.int (2 : Int32)), .val (.int (1 : Int32)), .unset, .unset, .unset, .unset, .unset, .unset] [(.int (1 : Int32))]))
  have hc3 : ¬ ((1 : Int32) = (0 : Int32)) := (by decide)
  refine own_go (fun t_ k_ => XS.ifYes A2.here hx rfl (pc0 := 6) (pc' := 30) rfl (hb hby d16_6) rfl ((if0 _ _).trans (feq hc3).2) (by decide) (by decide) k_) ?_
  show own_Go _ _ _ _ (T1.setTop (mkF m 30 #[.val (.ref r0), .val (.ref u8), .val (.ref rb), .val (.int (2 : Int32)), .val (.int (1 : Int32)), .unset, .unset, .unset, .unset, .unset, .unset] []))
  refine own_go (fun t_ k_ => XS.aloadN A2.here hx rfl (hb hby d16_30) rfl rfl k_) ?_
  show own_Go _ _ _ _ (T1.setTop (mkF m 31 #[.val (.ref r0), .val (.ref u8), .val (.ref rb), .val (.int (2 : Int32)), .val (.int (1 : Int32)), .unset, .unset, .unset, .unset, .unset, .unset] [(.ref u8)]))
  refine own_getS A2 hx hZ hown (host := "") (Or.inl (hw _ (List.mem_of_getElem? (i := 41) rfl))) Via.refl (S_INSTANCE.ext O0.2) rfl (hb hby d16_31) (fun T4 A5 => ?_)
  show own_Go _ _ _ _ (T4.setTop (mkF m 34 #[.val (.ref r0), .val (.ref u8), .val (.ref rb), .val (.int (2 : Int32)), .val (.int (1 : Int32)), .unset, .unset, .unset, .unset, .unset, .unset] [(.ref u8), (.ref u8)]))
  have hc6 : u8 = u8 := rfl
  refine own_go (fun t_ k_ => XS.acmpNo A5.here hx rfl (hb hby d16_34) rfl (own_aeq hc6).2 k_) ?_
  show own_Go _ _ _ _ (T4.setTop (mkF m 37 #[.val (.ref r0), .val (.ref u8), .val (.ref rb), .val (.int (2 : Int32)), .val (.int (1 : Int32)), .unset, .unset, .unset, .unset, .unset, .unset] []))
  refine own_getS A5 hx hZ hown (host := "") (Or.inl (hw _ (List.mem_of_getElem? (i := 35) rfl))) Via.refl (S_COMPACT_STRINGS.ext O0.2) rfl (hb hby d16_37) (fun T7 A8 => ?_)
  show own_Go _ _ _ _ (T7.setTop (mkF m 40 #[.val (.ref r0), .val (.ref u8), .val (.ref rb), .val (.int (2 : Int32)), .val (.int (1 : Int32)), .unset, .unset, .unset, .unset, .unset, .unset] [(.int z_C)]))
  have hc9 : ¬ (z_C = (0 : Int32)) := hz
  refine own_go (fun t_ k_ => XS.ifNo A8.here hx rfl (hb hby d16_40) rfl ((if0 _ _).trans (feq hc9).1) k_) ?_
  show own_Go _ _ _ _ (T7.setTop (mkF m 43 #[.val (.ref r0), .val (.ref u8), .val (.ref rb), .val (.int (2 : Int32)), .val (.int (1 : Int32)), .unset, .unset, .unset, .unset, .unset, .unset] []))
  refine own_go (fun t_ k_ => XS.aloadN A8.here hx rfl (hb hby d16_43) rfl rfl k_) ?_
  show own_Go _ _ _ _ (T7.setTop (mkF m 44 #[.val (.ref r0), .val (.ref u8), .val (.ref rb), .val (.int (2 : Int32)), .val (.int (1 : Int32)), .unset, .unset, .unset, .unset, .unset, .unset] [(.ref rb)]))
  refine own_go (fun t_ k_ => XS.iloadN A8.here hx rfl (hb hby d16_44) rfl k_) ?_
  show own_Go _ _ _ _ (T7.setTop (mkF m 45 #[.val (.ref r0), .val (.ref u8), .val (.ref rb), .val (.int (2 : Int32)), .val (.int (1 : Int32)), .unset, .unset, .unset, .unset, .unset, .unset] [(.int (2 : Int32)), (.ref rb)]))
  refine own_go (fun t_ k_ => XS.iload A8.here hx rfl (hb hby d16_45) rfl k_) ?_
  show own_Go _ _ _ _ (T7.setTop (mkF m 47 #[.val (.ref r0), .val (.ref u8), .val (.ref rb), .val (.int (2 : Int32)), .val (.int (1 : Int32)), .unset, .unset, .unset, .unset, .unset, .unset] [(.int (1 : Int32)), (.int (2 : Int32)), (.ref rb)]))
  refine own_callS A8 hx hZ hown (y := (⟨"java/lang/StringCoding", "countPositives", "([BII)I"⟩ : MethodName)) (hw _ (List.mem_of_getElem? (i := 97) rfl)) (hw _ (List.mem_of_getElem? (i := 51) rfl)) (hw _ (List.mem_of_getElem? (i := 48) rfl)) (hw _ (List.mem_of_getElem? (i := 52) rfl)) (by decide) (argsL := [(.ref rb), (.int (2 : Int32)), (.int (1 : Int32))]) (rest := []) (rm9_2_1 l Z a0 hw rb h0 n0 Vb) 0 (by decide) (by decide) rfl (by rw [hml]; rfl) (lenOf pd___BII_I rfl) rfl (by show 2 * 0 + _ ≤ _; exact Nat.le_of_eq rfl) (hb hby d16_47) (by decide) (by decide) (fun v13 T10 h12 A11 hQ14 => ?_)
  obtain ⟨rfl, rfl⟩ := hQ14
  show own_Go _ _ _ _ (T10.setTop (mkF m 50 #[.val (.ref r0), .val (.ref u8), .val (.ref rb), .val (.int (2 : Int32)), .val (.int (1 : Int32)), .unset, .unset, .unset, .unset, .unset, .unset] [(.int (1 : Int32))]))
  refine own_go (fun t_ k_ => XS.istore A11.here hx rfl (hb hby d16_50) rfl (l' := #[.val (.ref r0), .val (.ref u8), .val (.ref rb), .val (.int (2 : Int32)), .val (.int (1 : Int32)), .val (.int (1 : Int32)), .unset, .unset, .unset, .unset, .unset]) rfl k_) ?_
  show own_Go _ _ _ _ (T10.setTop (mkF m 52 #[.val (.ref r0), .val (.ref u8), .val (.ref rb), .val (.int (2 : Int32)), .val (.int (1 : Int32)), .val (.int (1 : Int32)), .unset, .unset, .unset, .unset, .unset] []))
  refine own_go (fun t_ k_ => XS.iload A11.here hx rfl (hb hby d16_52) rfl k_) ?_
  show own_Go _ _ _ _ (T10.setTop (mkF m 54 #[.val (.ref r0), .val (.ref u8), .val (.ref rb), .val (.int (2 : Int32)), .val (.int (1 : Int32)), .val (.int (1 : Int32)), .unset, .unset, .unset, .unset, .unset] [(.int (1 : Int32))]))
  refine own_go (fun t_ k_ => XS.iload A11.here hx rfl (hb hby d16_54) rfl k_) ?_
  show own_Go _ _ _ _ (T10.setTop (mkF m 56 #[.val (.ref r0), .val (.ref u8), .val (.ref rb), .val (.int (2 : Int32)), .val (.int (1 : Int32)), .val (.int (1 : Int32)), .unset, .unset, .unset, .unset, .unset] [(.int (1 : Int32)), (.int (1 : Int32))]))
  have hc15 : (1 : Int32) = (1 : Int32) := (by decide)
  refine own_go (fun t_ k_ => XS.icmpNo A11.here hx rfl (hb hby d16_56) rfl (teq hc15).2 k_) ?_
  show own_Go _ _ _ _ (T10.setTop (mkF m 59 #[.val (.ref r0), .val (.ref u8), .val (.ref rb), .val (.int (2 : Int32)), .val (.int (1 : Int32)), .val (.int (1 : Int32)), .unset, .unset, .unset, .unset, .unset] []))
  refine own_go (fun t_ k_ => XS.aloadN A11.here hx rfl (hb hby d16_59) rfl rfl k_) ?_
  show own_Go _ _ _ _ (T10.setTop (mkF m 60 #[.val (.ref r0), .val (.ref u8), .val (.ref rb), .val (.int (2 : Int32)), .val (.int (1 : Int32)), .val (.int (1 : Int32)), .unset, .unset, .unset, .unset, .unset] [(.ref r0)]))
  refine own_go (fun t_ k_ => XS.aloadN A11.here hx rfl (hb hby d16_60) rfl rfl k_) ?_
  show own_Go _ _ _ _ (T10.setTop (mkF m 61 #[.val (.ref r0), .val (.ref u8), .val (.ref rb), .val (.int (2 : Int32)), .val (.int (1 : Int32)), .val (.int (1 : Int32)), .unset, .unset, .unset, .unset, .unset] [(.ref rb), (.ref r0)]))
  refine own_go (fun t_ k_ => XS.iloadN A11.here hx rfl (hb hby d16_61) rfl k_) ?_
  show own_Go _ _ _ _ (T10.setTop (mkF m 62 #[.val (.ref r0), .val (.ref u8), .val (.ref rb), .val (.int (2 : Int32)), .val (.int (1 : Int32)), .val (.int (1 : Int32)), .unset, .unset, .unset, .unset, .unset] [(.int (2 : Int32)), (.ref rb), (.ref r0)]))
  refine own_go (fun t_ k_ => XS.iloadN A11.here hx rfl (hb hby d16_62) rfl k_) ?_
  show own_Go _ _ _ _ (T10.setTop (mkF m 63 #[.val (.ref r0), .val (.ref u8), .val (.ref rb), .val (.int (2 : Int32)), .val (.int (1 : Int32)), .val (.int (1 : Int32)), .unset, .unset, .unset, .unset, .unset] [(.int (2 : Int32)), (.int (2 : Int32)), (.ref rb), (.ref r0)]))
  refine own_go (fun t_ k_ => XS.iload A11.here hx rfl (hb hby d16_63) rfl k_) ?_
  show own_Go _ _ _ _ (T10.setTop (mkF m 65 #[.val (.ref r0), .val (.ref u8), .val (.ref rb), .val (.int (2 : Int32)), .val (.int (1 : Int32)), .val (.int (1 : Int32)), .unset, .unset, .unset, .unset, .unset] [(.int (1 : Int32)), (.int (2 : Int32)), (.int (2 : Int32)), (.ref rb), (.ref r0)]))
  refine own_go (fun t_ k_ => XS.iadd A11.here hx rfl (hb hby d16_65) rfl k_) ?_
  show own_Go _ _ _ _ (T10.setTop (mkF m 66 #[.val (.ref r0), .val (.ref u8), .val (.ref rb), .val (.int (2 : Int32)), .val (.int (1 : Int32)), .val (.int (1 : Int32)), .unset, .unset, .unset, .unset, .unset] [(.int (3 : Int32)), (.int (2 : Int32)), (.ref rb), (.ref r0)]))
  refine own_callS A11 hx hZ hown (y := (⟨"java/util/Arrays", "copyOfRange", "([BII)[B"⟩ : MethodName)) (hw _ (List.mem_of_getElem? (i := 98) rfl)) (hw _ (List.mem_of_getElem? (i := 99) rfl)) (hw _ (List.mem_of_getElem? (i := 100) rfl)) (hw _ (List.mem_of_getElem? (i := 101) rfl)) (by decide) (argsL := [(.ref rb), (.int (2 : Int32)), (.int (3 : Int32))]) (rest := [(.ref r0)]) (rm17_2_3 l Z a0 hw rb h0 n0 Z0 Vb Eb) 1 (by decide) (by decide) rfl (by rw [hml]; rfl) (lenOf pd___BII__B rfl) rfl (by show 2 * 0 + _ ≤ _; exact Nat.le_of_eq rfl) (hb hby d16_66) (by decide) (by decide) (fun v19 T16 h18 A17 hQ20 => ?_)
  obtain ⟨K21, t22, rfl, gt23, nt24⟩ := hQ20
  have ne_r0_t22 : r0 ≠ t22 := Nat.ne_of_lt (Nat.lt_of_lt_of_le E0.lt nt24)
  have ne_rb_t22 : rb ≠ t22 := Nat.ne_of_lt (Nat.lt_of_lt_of_le Vb.lt nt24)
  have nw_t22 : h0.size ≤ t22 := Nat.le_trans (Keep.refl h0 [r0]).1 nt24
  have O25 : Old Z n0 h18 := O0.keep K21 all0
  have Z26 : n0 ≤ h18.size := Nat.le_trans Z0 K21.1
  have E27 : Exa Z h18 r0 "java/lang/String" := E0.keep K21
  have F28 : Fld Z h18 r0 "java/lang/String" "value" "[B" .null := Fv0.keep K21 nin0
  have F29 : Fld Z h18 r0 "java/lang/String" "coder" "B" (.int (0 : Int32)) := Fc0.keep K21 nin0
  have K30 : Keep h0 h18 [r0] := (Keep.refl h0 [r0]).trans K21 all0
  have V31 : own_Arr Z h18 rb .byte (3 : Int32) (fun j => ([97, 44, 98] : List Int32).getD j.toNatClampNeg 0) := Vb.keep K21 nin0
  have E32 : Exa Z h18 rb "[B" := Eb.keep K21
  show own_Go _ _ _ _ (T16.setTop (mkF m 69 #[.val (.ref r0), .val (.ref u8), .val (.ref rb), .val (.int (2 : Int32)), .val (.int (1 : Int32)), .val (.int (1 : Int32)), .unset, .unset, .unset, .unset, .unset] [(.ref t22), (.ref r0)]))
  refine own_putF A17 hx hZ hown (host := "") (Or.inl (hw _ (List.mem_of_getElem? (i := 37) rfl))) Via.refl F28 E27 (Or.inr ⟨(hw _ (List.mem_of_getElem? (i := 12) rfl)), rfl, hnm⟩) (hw _ (List.mem_of_getElem? (i := 11) rfl)) (ty := (.array .byte)) (by decide) rfl rfl g0 rfl rfl (hb hby d16_69) (fun T33 h35 A34 W36 => ?_)
  have O37 : Old Z n0 h35 := O25.wr W36 g0
  have Z38 : n0 ≤ h35.size := Nat.le_trans Z26 (Nat.le_of_eq (Wr.size W36).symm)
  have E39 : Exa Z h35 r0 "java/lang/String" := E27.wr W36
  have F40 : Fld Z h35 r0 "java/lang/String" "value" "[B" (.ref t22) := F28.same W36
  have F41 : Fld Z h35 r0 "java/lang/String" "coder" "B" (.int (0 : Int32)) := F29.other W36 (Or.inr (slot_ne (Or.inr (hw _ (List.mem_of_getElem? (i := 13) rfl))) (Or.inr (hw _ (List.mem_of_getElem? (i := 12) rfl))) (by decide) (t := .byte) (t' := (.array .byte)) (by decide) (by decide)))
  have K42 : Keep h0 h35 [r0] := K30.wr W36 (Or.inl (List.mem_of_getElem? (i := 0) rfl))
  have V43 : own_Arr Z h35 rb .byte (3 : Int32) (fun j => ([97, 44, 98] : List Int32).getD j.toNatClampNeg 0) := V31.other W36 (Ne.symm ne_r0_rb)
  have E44 : Exa Z h35 rb "[B" := E32.wr W36
  show own_Go _ _ _ _ (T33.setTop (mkF m 72 #[.val (.ref r0), .val (.ref u8), .val (.ref rb), .val (.int (2 : Int32)), .val (.int (1 : Int32)), .val (.int (1 : Int32)), .unset, .unset, .unset, .unset, .unset] []))
  refine own_go (fun t_ k_ => XS.aloadN A34.here hx rfl (hb hby d16_72) rfl rfl k_) ?_
  show own_Go _ _ _ _ (T33.setTop (mkF m 73 #[.val (.ref r0), .val (.ref u8), .val (.ref rb), .val (.int (2 : Int32)), .val (.int (1 : Int32)), .val (.int (1 : Int32)), .unset, .unset, .unset, .unset, .unset] [(.ref r0)]))
  refine own_go (fun t_ k_ => XS.iconst A34.here hx rfl (hb hby d16_73) k_) ?_
  show own_Go _ _ _ _ (T33.setTop (mkF m 74 #[.val (.ref r0), .val (.ref u8), .val (.ref rb), .val (.int (2 : Int32)), .val (.int (1 : Int32)), .val (.int (1 : Int32)), .unset, .unset, .unset, .unset, .unset] [(.int (0 : Int32)), (.ref r0)]))
  refine own_putF A34 hx hZ hown (host := "") (Or.inl (hw _ (List.mem_of_getElem? (i := 36) rfl))) Via.refl F41 E39 (Or.inr ⟨(hw _ (List.mem_of_getElem? (i := 13) rfl)), rfl, hnm⟩) (hw _ (List.mem_of_getElem? (i := 11) rfl)) (ty := .byte) (by decide) rfl rfl g0 rfl rfl (hb hby d16_74) (fun T45 h47 A46 W48 => ?_)
  have O49 : Old Z n0 h47 := O37.wr W48 g0
  have Z50 : n0 ≤ h47.size := Nat.le_trans Z38 (Nat.le_of_eq (Wr.size W48).symm)
  have E51 : Exa Z h47 r0 "java/lang/String" := E39.wr W48
  have F52 : Fld Z h47 r0 "java/lang/String" "value" "[B" (.ref t22) := F40.other W48 (Or.inr (slot_ne (Or.inr (hw _ (List.mem_of_getElem? (i := 12) rfl))) (Or.inr (hw _ (List.mem_of_getElem? (i := 13) rfl))) (by decide) (t := (.array .byte)) (t' := .byte) (by decide) (by decide)))
  have F53 : Fld Z h47 r0 "java/lang/String" "coder" "B" (.int (0 : Int32)) := F41.same W48
  have K54 : Keep h0 h47 [r0] := K42.wr W48 (Or.inl (List.mem_of_getElem? (i := 0) rfl))
  have V55 : own_Arr Z h47 rb .byte (3 : Int32) (fun j => ([97, 44, 98] : List Int32).getD j.toNatClampNeg 0) := V43.other W48 (Ne.symm ne_r0_rb)
  have E56 : Exa Z h47 rb "[B" := E44.wr W48
  show own_Go _ _ _ _ (T45.setTop (mkF m 77 #[.val (.ref r0), .val (.ref u8), .val (.ref rb), .val (.int (2 : Int32)), .val (.int (1 : Int32)), .val (.int (1 : Int32)), .unset, .unset, .unset, .unset, .unset] []))
  refine own_retV A46 hx hret hlk (by decide) (by decide) (hb hby d16_77) ?_
  exact ⟨rfl, K54⟩
theorem ef_12 (m : MethodId) (r0 : Addr) (rb : Addr) (y2 : Int32) (y3 : Int32) (u8 : Addr) : entryFrame m #[(.ref r0), (.ref rb), (.int y2), (.int y3), (.ref u8)] 5 = mkF m 0 #[.val (.ref r0), .val (.ref rb), .val (.int y2), .val (.int y3), .val (.ref u8)] [] := by first | (simp [entryFrame, mkF, argsToLocals, Value.category]; done) | rfl
theorem d12_0 : decode jdk_42_method_10_code 0 = .ok (.aload_n 0, 1) := by decide +kernel
theorem d12_1 : decode jdk_42_method_10_code 1 = .ok (.aload 4, 2) := by decide +kernel
theorem d12_3 : decode jdk_42_method_10_code 3 = .ok (.invokestatic 78, 3) := by decide +kernel
theorem pd__Ljava_lang_Object__Ljava_lang_Object_ : parseMethodDescriptor "(Ljava/lang/Object;)Ljava/lang/Object;" = some ⟨[(.object "java/lang/Object")], some (.object "java/lang/Object")⟩ := by decide +kernel
theorem d12_6 : decode jdk_42_method_10_code 6 = .ok (.checkcast 84, 3) := by decide +kernel
theorem d12_9 : decode jdk_42_method_10_code 9 = .ok (.aload_n 1, 1) := by decide +kernel
theorem d12_10 : decode jdk_42_method_10_code 10 = .ok (.iload_n 2, 1) := by decide +kernel
theorem d12_11 : decode jdk_42_method_10_code 11 = .ok (.iload_n 3, 1) := by decide +kernel
theorem d12_12 : decode jdk_42_method_10_code 12 = .ok (.aload_n 1, 1) := by decide +kernel
theorem d12_13 : decode jdk_42_method_10_code 13 = .ok (.arraylength, 1) := by decide +kernel
theorem d12_14 : decode jdk_42_method_10_code 14 = .ok (.invokestatic 34, 3) := by decide +kernel
theorem pd__III_I : parseMethodDescriptor "(III)I" = some ⟨[.int, .int, .int], some .int⟩ := by decide +kernel
theorem d12_17 : decode jdk_42_method_10_code 17 = .ok (.iload_n 3, 1) := by decide +kernel
theorem d12_18 : decode jdk_42_method_10_code 18 = .ok (.invokespecial 75, 3) := by decide +kernel
theorem pd__Ljava_nio_charset_Charset__BII_V : parseMethodDescriptor "(Ljava/nio/charset/Charset;[BII)V" = some ⟨[(.object "java/nio/charset/Charset"), (.array .byte), .int, .int], none⟩ := by decide +kernel
theorem d12_21 : decode jdk_42_method_10_code 21 = .ok (.return_, 1) := by decide +kernel
set_option maxRecDepth 65536 in
set_option maxHeartbeats 40000000 in
theorem rm12_0_1 (l : Launch) (Z : State) (a0 : Array Value) (hw : ∀ d ∈ tables_1, d.before a0 Z = true) (r0 : Addr) (rb : Addr) (u8 : Addr) (z_C : Int32) (s_F : Value) (h0 : Heap) (n0 : Nat) (O0 : Old Z n0 h0) (Z0 : n0 ≤ h0.size) (E0 : Exa Z h0 r0 "java/lang/String") (Fv0 : Fld Z h0 r0 "java/lang/String" "value" "[B" .null) (Fc0 : Fld Z h0 r0 "java/lang/String" "coder" "B" (.int (0 : Int32))) (g0 : n0 ≤ r0) (Vb : own_Arr Z h0 rb .byte (3 : Int32) (fun j => ([97, 44, 98] : List Int32).getD j.toNatClampNeg 0)) (Eb : Exa Z h0 rb "[B") (ne_r0_rb : r0 ≠ rb) (hz : ¬ z_C = 0) (hr_F : s_F.isRef = true) (E8 : Exa Z Z.heap u8 "sun/nio/cs/UTF_8") (S_COMPACT_STRINGS : Sta Z Z.heap "java/lang/String" "COMPACT_STRINGS" "Z" (.int z_C)) (S_INSTANCE : Sta Z Z.heap "sun/nio/cs/UTF_8" "INSTANCE" "Lsun/nio/cs/UTF_8;" (.ref u8)) (S_SIOOBE_FORMATTER : Sta Z Z.heap "jdk/internal/util/Preconditions" "SIOOBE_FORMATTER" "Ljava/util/function/BiFunction;" s_F) :
    own_Met l Z n0 (⟨"java/lang/String", "<init>", "([BIILjava/nio/charset/Charset;)V"⟩ : MethodName) jdk_42_method_10_code 5 none ({ frames := 4, cells := 1, slots := 1, locals := 93 } : Room) #[(.ref r0), (.ref rb), (.int (0 : Int32)), (.int (1 : Int32)), (.ref u8)] h0 (fun v h => v = none ∧ Keep h0 h [r0]) := by
  refine own_met (plainFor_of_name pn_5) ?_
  intro p e s m below meth c T0 hx hby hml hown hnm hret hlk hZ A0
  rw [ef_12]
  show own_Go _ _ _ _ (T0.setTop (mkF m 0 #[.val (.ref r0), .val (.ref rb), .val (.int (0 : Int32)), .val (.int (1 : Int32)), .val (.ref u8)] []))
  refine own_go (fun t_ k_ => XS.aloadN A0.here hx rfl (hb hby d12_0) rfl rfl k_) ?_
  show own_Go _ _ _ _ (T0.setTop (mkF m 1 #[.val (.ref r0), .val (.ref rb), .val (.int (0 : Int32)), .val (.int (1 : Int32)), .val (.ref u8)] [(.ref r0)]))
  refine own_go (fun t_ k_ => XS.aload A0.here hx rfl (hb hby d12_1) rfl rfl k_) ?_
  show own_Go _ _ _ _ (T0.setTop (mkF m 3 #[.val (.ref r0), .val (.ref rb), .val (.int (0 : Int32)), .val (.int (1 : Int32)), .val (.ref u8)] [(.ref u8), (.ref r0)]))
  refine own_callS A0 hx hZ hown (y := (⟨"java/util/Objects", "requireNonNull", "(Ljava/lang/Object;)Ljava/lang/Object;"⟩ : MethodName)) (hw _ (List.mem_of_getElem? (i := 78) rfl)) (hw _ (List.mem_of_getElem? (i := 79) rfl)) (hw _ (List.mem_of_getElem? (i := 80) rfl)) (hw _ (List.mem_of_getElem? (i := 81) rfl)) (by decide) (argsL := [(.ref u8)]) (rest := [(.ref r0)]) (rm13 l Z a0 hw u8 h0 n0 ) 1 (by decide) (by decide) rfl (by rw [hml]; rfl) (lenOf pd__Ljava_lang_Object__Ljava_lang_Object_ rfl) rfl (by show 2 * 0 + _ ≤ _; exact Nat.le_of_eq rfl) (hb hby d12_3) (by decide) (by decide) (fun v4 T1 h3 A2 hQ5 => ?_)
  obtain ⟨rfl, rfl⟩ := hQ5
  show own_Go _ _ _ _ (T1.setTop (mkF m 6 #[.val (.ref r0), .val (.ref rb), .val (.int (0 : Int32)), .val (.int (1 : Int32)), .val (.ref u8)] [(.ref u8), (.ref r0)]))
  refine own_cast A2 hx hZ hown (hw _ (List.mem_of_getElem? (i := 82) rfl)) (Ins.of_exa (E8.ext O0.2) (hw _ (List.mem_of_getElem? (i := 83) rfl))) rfl rfl (hb hby d12_6) (fun T6 A7 => ?_)
  show own_Go _ _ _ _ (T6.setTop (mkF m 9 #[.val (.ref r0), .val (.ref rb), .val (.int (0 : Int32)), .val (.int (1 : Int32)), .val (.ref u8)] [(.ref u8), (.ref r0)]))
  refine own_go (fun t_ k_ => XS.aloadN A7.here hx rfl (hb hby d12_9) rfl rfl k_) ?_
  show own_Go _ _ _ _ (T6.setTop (mkF m 10 #[.val (.ref r0), .val (.ref rb), .val (.int (0 : Int32)), .val (.int (1 : Int32)), .val (.ref u8)] [(.ref rb), (.ref u8), (.ref r0)]))
  refine own_go (fun t_ k_ => XS.iloadN A7.here hx rfl (hb hby d12_10) rfl k_) ?_
  show own_Go _ _ _ _ (T6.setTop (mkF m 11 #[.val (.ref r0), .val (.ref rb), .val (.int (0 : Int32)), .val (.int (1 : Int32)), .val (.ref u8)] [(.int (0 : Int32)), (.ref rb), (.ref u8), (.ref r0)]))
  refine own_go (fun t_ k_ => XS.iloadN A7.here hx rfl (hb hby d12_11) rfl k_) ?_
  show own_Go _ _ _ _ (T6.setTop (mkF m 12 #[.val (.ref r0), .val (.ref rb), .val (.int (0 : Int32)), .val (.int (1 : Int32)), .val (.ref u8)] [(.int (1 : Int32)), (.int (0 : Int32)), (.ref rb), (.ref u8), (.ref r0)]))
  refine own_go (fun t_ k_ => XS.aloadN A7.here hx rfl (hb hby d12_12) rfl rfl k_) ?_
  show own_Go _ _ _ _ (T6.setTop (mkF m 13 #[.val (.ref r0), .val (.ref rb), .val (.int (0 : Int32)), .val (.int (1 : Int32)), .val (.ref u8)] [(.ref rb), (.int (1 : Int32)), (.int (0 : Int32)), (.ref rb), (.ref u8), (.ref r0)]))
  refine own_len A7 hx hZ Vb rfl rfl (hb hby d12_13) ?_
  show own_Go _ _ _ _ (T6.setTop (mkF m 14 #[.val (.ref r0), .val (.ref rb), .val (.int (0 : Int32)), .val (.int (1 : Int32)), .val (.ref u8)] [(.int (3 : Int32)), (.int (1 : Int32)), (.int (0 : Int32)), (.ref rb), (.ref u8), (.ref r0)]))
  refine own_callS A7 hx hZ hown (y := (⟨"java/lang/String", "checkBoundsOffCount", "(III)I"⟩ : MethodName)) (hw _ (List.mem_of_getElem? (i := 84) rfl)) (hw _ (List.mem_of_getElem? (i := 85) rfl)) (hw _ (List.mem_of_getElem? (i := 10) rfl)) (hw _ (List.mem_of_getElem? (i := 86) rfl)) (by decide) (argsL := [(.int (0 : Int32)), (.int (1 : Int32)), (.int (3 : Int32))]) (rest := [(.ref rb), (.ref u8), (.ref r0)]) (rm14 l Z a0 hw (0 : Int32) (1 : Int32) (3 : Int32) s_F h0 n0 O0 (by decide) (by decide) hr_F S_SIOOBE_FORMATTER) 3 (by decide) (by decide) rfl (by rw [hml]; rfl) (lenOf pd__III_I rfl) rfl (by show 2 * 0 + _ ≤ _; exact Nat.le_of_eq rfl) (hb hby d12_14) (by decide) (by decide) (fun v11 T8 h10 A9 hQ12 => ?_)
  obtain ⟨rfl, rfl⟩ := hQ12
  show own_Go _ _ _ _ (T8.setTop (mkF m 17 #[.val (.ref r0), .val (.ref rb), .val (.int (0 : Int32)), .val (.int (1 : Int32)), .val (.ref u8)] [(.int (0 : Int32)), (.ref rb), (.ref u8), (.ref r0)]))
  refine own_go (fun t_ k_ => XS.iloadN A9.here hx rfl (hb hby d12_17) rfl k_) ?_
  show own_Go _ _ _ _ (T8.setTop (mkF m 18 #[.val (.ref r0), .val (.ref rb), .val (.int (0 : Int32)), .val (.int (1 : Int32)), .val (.ref u8)] [(.int (1 : Int32)), (.int (0 : Int32)), (.ref rb), (.ref u8), (.ref r0)]))
  refine own_callIH A9 hx hZ (y := (⟨"java/lang/String", "<init>", "(Ljava/nio/charset/Charset;[BII)V"⟩ : MethodName)) rfl hown (hw _ (List.mem_of_getElem? (i := 92) rfl)) (hw _ (List.mem_of_getElem? (i := 93) rfl)) (hw _ (List.mem_of_getElem? (i := 10) rfl)) (hw _ (List.mem_of_getElem? (i := 95) rfl)) (by decide) (b := r0) (argsL := [(.ref u8), (.ref rb), (.int (0 : Int32)), (.int (1 : Int32))]) (rest := []) (rm16_0_1 l Z a0 hw r0 u8 rb z_C u8 h0 n0 O0 Z0 E0 Fv0 Fc0 g0 Vb Eb ne_r0_rb hz S_COMPACT_STRINGS S_INSTANCE) 0 (by decide) (by decide) rfl (by rw [hml]; rfl) (lenOf pd__Ljava_nio_charset_Charset__BII_V rfl) rfl (by show 2 * 0 + _ ≤ _; exact Nat.le_of_eq rfl) (hb hby d12_18) (by decide) (by decide) (fun v16 T13 h15 A14 hQ17 => ?_)
  obtain ⟨rfl, K18⟩ := hQ17
  have O19 : Old Z n0 h15 := O0.keep K18 (allS g0 all0)
  have Z20 : n0 ≤ h15.size := Nat.le_trans Z0 K18.1
  have E21 : Exa Z h15 r0 "java/lang/String" := E0.keep K18
  have K22 : Keep h0 h15 [r0] := (Keep.refl h0 [r0]).trans K18 (allS (Or.inl (List.mem_of_getElem? (i := 0) rfl)) all0)
  have V23 : own_Arr Z h15 rb .byte (3 : Int32) (fun j => ([97, 44, 98] : List Int32).getD j.toNatClampNeg 0) := Vb.keep K18 (ninS (Ne.symm ne_r0_rb) nin0)
  have E24 : Exa Z h15 rb "[B" := Eb.keep K18
  show own_Go _ _ _ _ (T13.setTop (mkF m 21 #[.val (.ref r0), .val (.ref rb), .val (.int (0 : Int32)), .val (.int (1 : Int32)), .val (.ref u8)] []))
  refine own_retV A14 hx hret hlk (by decide) (by decide) (hb hby d12_21) ?_
  exact ⟨rfl, K22⟩
set_option maxRecDepth 65536 in
set_option maxHeartbeats 40000000 in
theorem rm12_2_1 (l : Launch) (Z : State) (a0 : Array Value) (hw : ∀ d ∈ tables_1, d.before a0 Z = true) (r0 : Addr) (rb : Addr) (u8 : Addr) (z_C : Int32) (s_F : Value) (h0 : Heap) (n0 : Nat) (O0 : Old Z n0 h0) (Z0 : n0 ≤ h0.size) (E0 : Exa Z h0 r0 "java/lang/String") (Fv0 : Fld Z h0 r0 "java/lang/String" "value" "[B" .null) (Fc0 : Fld Z h0 r0 "java/lang/String" "coder" "B" (.int (0 : Int32))) (g0 : n0 ≤ r0) (Vb : own_Arr Z h0 rb .byte (3 : Int32) (fun j => ([97, 44, 98] : List Int32).getD j.toNatClampNeg 0)) (Eb : Exa Z h0 rb "[B") (ne_r0_rb : r0 ≠ rb) (hz : ¬ z_C = 0) (hr_F : s_F.isRef = true) (E8 : Exa Z Z.heap u8 "sun/nio/cs/UTF_8") (S_COMPACT_STRINGS : Sta Z Z.heap "java/lang/String" "COMPACT_STRINGS" "Z" (.int z_C)) (S_INSTANCE : Sta Z Z.heap "sun/nio/cs/UTF_8" "INSTANCE" "Lsun/nio/cs/UTF_8;" (.ref u8)) (S_SIOOBE_FORMATTER : Sta Z Z.heap "jdk/internal/util/Preconditions" "SIOOBE_FORMATTER" "Ljava/util/function/BiFunction;" s_F) :
    own_Met l Z n0 (⟨"java/lang/String", "<init>", "([BIILjava/nio/charset/Charset;)V"⟩ : MethodName) jdk_42_method_10_code 5 none ({ frames := 4, cells := 1, slots := 1, locals := 93 } : Room) #[(.ref r0), (.ref rb), (.int (2 : Int32)), (.int (1 : Int32)), (.ref u8)] h0 (fun v h => v = none ∧ Keep h0 h [r0]) := by
  refine own_met (plainFor_of_name pn_5) ?_
  intro p e s m below meth c T0 hx hby hml hown hnm hret hlk hZ A0
  rw [ef_12]
  show own_Go _ _ _ _ (T0.setTop (mkF m 0 #[.val (.ref r0), .val (.ref rb), .val (.int (2 : Int32)), .val (.int (1 : Int32)), .val (.ref u8)] []))
  refine own_go (fun t_ k_ => XS.aloadN A0.here hx rfl (hb hby d12_0) rfl rfl k_) ?_
  show own_Go _ _ _ _ (T0.setTop (mkF m 1 #[.val (.ref r0), .val (.ref rb), .val (.int (2 : Int32)), .val (.int (1 : Int32)), .val (.ref u8)] [(.ref r0)]))
  refine own_go (fun t_ k_ => XS.aload A0.here hx rfl (hb hby d12_1) rfl rfl k_) ?_
  show own_Go _ _ _ _ (T0.setTop (mkF m 3 #[.val (.ref r0), .val (.ref rb), .val (.int (2 : Int32)), .val (.int (1 : Int32)), .val (.ref u8)] [(.ref u8), (.ref r0)]))
  refine own_callS A0 hx hZ hown (y := (⟨"java/util/Objects", "requireNonNull", "(Ljava/lang/Object;)Ljava/lang/Object;"⟩ : MethodName)) (hw _ (List.mem_of_getElem? (i := 78) rfl)) (hw _ (List.mem_of_getElem? (i := 79) rfl)) (hw _ (List.mem_of_getElem? (i := 80) rfl)) (hw _ (List.mem_of_getElem? (i := 81) rfl)) (by decide) (argsL := [(.ref u8)]) (rest := [(.ref r0)]) (rm13 l Z a0 hw u8 h0 n0 ) 1 (by decide) (by decide) rfl (by rw [hml]; rfl) (lenOf pd__Ljava_lang_Object__Ljava_lang_Object_ rfl) rfl (by show 2 * 0 + _ ≤ _; exact Nat.le_of_eq rfl) (hb hby d12_3) (by decide) (by decide) (fun v4 T1 h3 A2 hQ5 => ?_)
  obtain ⟨rfl, rfl⟩ := hQ5
  show own_Go _ _ _ _ (T1.setTop (mkF m 6 #[.val (.ref r0), .val (.ref rb), .val (.int (2 : Int32)), .val (.int (1 : Int32)), .val (.ref u8)] [(.ref u8), (.ref r0)]))
  refine own_cast A2 hx hZ hown (hw _ (List.mem_of_getElem? (i := 82) rfl)) (Ins.of_exa (E8.ext O0.2) (hw _ (List.mem_of_getElem? (i := 83) rfl))) rfl rfl (hb hby d12_6) (fun T6 A7 => ?_)
  show own_Go _ _ _ _ (T6.setTop (mkF m 9 #[.val (.ref r0), .val (.ref rb), .val (.int (2 : Int32)), .val (.int (1 : Int32)), .val (.ref u8)] [(.ref u8), (.ref r0)]))
  refine own_go (fun t_ k_ => XS.aloadN A7.here hx rfl (hb hby d12_9) rfl rfl k_) ?_
  show own_Go _ _ _ _ (T6.setTop (mkF m 10 #[.val (.ref r0), .val (.ref rb), .val (.int (2 : Int32)), .val (.int (1 : Int32)), .val (.ref u8)] [(.ref rb), (.ref u8), (.ref r0)]))
  refine own_go (fun t_ k_ => XS.iloadN A7.here hx rfl (hb hby d12_10) rfl k_) ?_
  show own_Go _ _ _ _ (T6.setTop (mkF m 11 #[.val (.ref r0), .val (.ref rb), .val (.int (2 : Int32)), .val (.int (1 : Int32)), .val (.ref u8)] [(.int (2 : Int32)), (.ref rb), (.ref u8), (.ref r0)]))
  refine own_go (fun t_ k_ => XS.iloadN A7.here hx rfl (hb hby d12_11) rfl k_) ?_
  show own_Go _ _ _ _ (T6.setTop (mkF m 12 #[.val (.ref r0), .val (.ref rb), .val (.int (2 : Int32)), .val (.int (1 : Int32)), .val (.ref u8)] [(.int (1 : Int32)), (.int (2 : Int32)), (.ref rb), (.ref u8), (.ref r0)]))
  refine own_go (fun t_ k_ => XS.aloadN A7.here hx rfl (hb hby d12_12) rfl rfl k_) ?_
  show own_Go _ _ _ _ (T6.setTop (mkF m 13 #[.val (.ref r0), .val (.ref rb), .val (.int (2 : Int32)), .val (.int (1 : Int32)), .val (.ref u8)] [(.ref rb), (.int (1 : Int32)), (.int (2 : Int32)), (.ref rb), (.ref u8), (.ref r0)]))
  refine own_len A7 hx hZ Vb rfl rfl (hb hby d12_13) ?_
  show own_Go _ _ _ _ (T6.setTop (mkF m 14 #[.val (.ref r0), .val (.ref rb), .val (.int (2 : Int32)), .val (.int (1 : Int32)), .val (.ref u8)] [(.int (3 : Int32)), (.int (1 : Int32)), (.int (2 : Int32)), (.ref rb), (.ref u8), (.ref r0)]))
  refine own_callS A7 hx hZ hown (y := (⟨"java/lang/String", "checkBoundsOffCount", "(III)I"⟩ : MethodName)) (hw _ (List.mem_of_getElem? (i := 84) rfl)) (hw _ (List.mem_of_getElem? (i := 85) rfl)) (hw _ (List.mem_of_getElem? (i := 10) rfl)) (hw _ (List.mem_of_getElem? (i := 86) rfl)) (by decide) (argsL := [(.int (2 : Int32)), (.int (1 : Int32)), (.int (3 : Int32))]) (rest := [(.ref rb), (.ref u8), (.ref r0)]) (rm14 l Z a0 hw (2 : Int32) (1 : Int32) (3 : Int32) s_F h0 n0 O0 (by decide) (by decide) hr_F S_SIOOBE_FORMATTER) 3 (by decide) (by decide) rfl (by rw [hml]; rfl) (lenOf pd__III_I rfl) rfl (by show 2 * 0 + _ ≤ _; exact Nat.le_of_eq rfl) (hb hby d12_14) (by decide) (by decide) (fun v11 T8 h10 A9 hQ12 => ?_)
  obtain ⟨rfl, rfl⟩ := hQ12
  show own_Go _ _ _ _ (T8.setTop (mkF m 17 #[.val (.ref r0), .val (.ref rb), .val (.int (2 : Int32)), .val (.int (1 : Int32)), .val (.ref u8)] [(.int (2 : Int32)), (.ref rb), (.ref u8), (.ref r0)]))
  refine own_go (fun t_ k_ => XS.iloadN A9.here hx rfl (hb hby d12_17) rfl k_) ?_
  show own_Go _ _ _ _ (T8.setTop (mkF m 18 #[.val (.ref r0), .val (.ref rb), .val (.int (2 : Int32)), .val (.int (1 : Int32)), .val (.ref u8)] [(.int (1 : Int32)), (.int (2 : Int32)), (.ref rb), (.ref u8), (.ref r0)]))
  refine own_callIH A9 hx hZ (y := (⟨"java/lang/String", "<init>", "(Ljava/nio/charset/Charset;[BII)V"⟩ : MethodName)) rfl hown (hw _ (List.mem_of_getElem? (i := 92) rfl)) (hw _ (List.mem_of_getElem? (i := 93) rfl)) (hw _ (List.mem_of_getElem? (i := 10) rfl)) (hw _ (List.mem_of_getElem? (i := 95) rfl)) (by decide) (b := r0) (argsL := [(.ref u8), (.ref rb), (.int (2 : Int32)), (.int (1 : Int32))]) (rest := []) (rm16_2_1 l Z a0 hw r0 u8 rb z_C u8 h0 n0 O0 Z0 E0 Fv0 Fc0 g0 Vb Eb ne_r0_rb hz S_COMPACT_STRINGS S_INSTANCE) 0 (by decide) (by decide) rfl (by rw [hml]; rfl) (lenOf pd__Ljava_nio_charset_Charset__BII_V rfl) rfl (by show 2 * 0 + _ ≤ _; exact Nat.le_of_eq rfl) (hb hby d12_18) (by decide) (by decide) (fun v16 T13 h15 A14 hQ17 => ?_)
  obtain ⟨rfl, K18⟩ := hQ17
  have O19 : Old Z n0 h15 := O0.keep K18 (allS g0 all0)
  have Z20 : n0 ≤ h15.size := Nat.le_trans Z0 K18.1
  have E21 : Exa Z h15 r0 "java/lang/String" := E0.keep K18
  have K22 : Keep h0 h15 [r0] := (Keep.refl h0 [r0]).trans K18 (allS (Or.inl (List.mem_of_getElem? (i := 0) rfl)) all0)
  have V23 : own_Arr Z h15 rb .byte (3 : Int32) (fun j => ([97, 44, 98] : List Int32).getD j.toNatClampNeg 0) := Vb.keep K18 (ninS (Ne.symm ne_r0_rb) nin0)
  have E24 : Exa Z h15 rb "[B" := Eb.keep K18
  show own_Go _ _ _ _ (T13.setTop (mkF m 21 #[.val (.ref r0), .val (.ref rb), .val (.int (2 : Int32)), .val (.int (1 : Int32)), .val (.ref u8)] []))
  refine own_retV A14 hx hret hlk (by decide) (by decide) (hb hby d12_21) ?_
  exact ⟨rfl, K22⟩
theorem ef_11 (m : MethodId) (p0 : Int32) : entryFrame m #[(.int p0)] 1 = mkF m 0 #[.val (.int p0)] [] := by first | (simp [entryFrame, mkF, argsToLocals, Value.category]; done) | rfl
theorem pn_11 : plainName "com/example/indexloom/indexloom/data/DataHeader" = true := by first | (simp [plainName, overriddenIn]; done) | decide +kernel
theorem d11_0 : decode prog_13_method_12_code 0 = .ok (.iload_n 0, 1) := by decide +kernel
theorem d11_1 : decode prog_13_method_12_code 1 = .ok (.bipush 32, 2) := by decide +kernel
theorem d11_3 : decode prog_13_method_12_code 3 = .ok (.if_icmp .eq 15, 3) := by decide +kernel
theorem d11_18 : decode prog_13_method_12_code 18 = .ok (.iconst 1, 1) := by decide +kernel
theorem d11_19 : decode prog_13_method_12_code 19 = .ok (.goto 4, 3) := by decide +kernel
theorem d11_6 : decode prog_13_method_12_code 6 = .ok (.iload_n 0, 1) := by decide +kernel
theorem d11_7 : decode prog_13_method_12_code 7 = .ok (.bipush 9, 2) := by decide +kernel
theorem d11_9 : decode prog_13_method_12_code 9 = .ok (.if_icmp .eq 9, 3) := by decide +kernel
theorem d11_12 : decode prog_13_method_12_code 12 = .ok (.iload_n 0, 1) := by decide +kernel
theorem d11_13 : decode prog_13_method_12_code 13 = .ok (.bipush 13, 2) := by decide +kernel
theorem d11_15 : decode prog_13_method_12_code 15 = .ok (.if_icmp .ne 7, 3) := by decide +kernel
theorem d11_22 : decode prog_13_method_12_code 22 = .ok (.iconst 0, 1) := by decide +kernel
theorem d11_23 : decode prog_13_method_12_code 23 = .ok (.ireturn, 1) := by decide +kernel
def f11 (p0 : Int32) : Int32 := (nar .boolean (if p0 = (32 : Int32) then (1 : Int32) else (if p0 = (9 : Int32) then (1 : Int32) else (if p0 = (13 : Int32) then (1 : Int32) else (0 : Int32)))))
set_option maxRecDepth 65536 in
set_option maxHeartbeats 40000000 in
theorem rm11 (l : Launch) (Z : State) (a0 : Array Value) (hw : ∀ d ∈ tables_1, d.before a0 Z = true) (p0 : Int32) (h0 : Heap) (n0 : Nat) :
    own_Met l Z n0 (⟨"com/example/indexloom/indexloom/data/DataHeader", "isBlank", "(B)Z"⟩ : MethodName) prog_13_method_12_code 1 (some .boolean) ({ frames := 0, cells := 0, slots := 0, locals := 0 } : Room) #[(.int p0)] h0 (fun v h => v = some (.int (f11 p0)) ∧ h0 = h) := by
  refine own_met (plainFor_of_name pn_11) ?_
  intro p e s m below meth c T0 hx hby hml hown hnm hret hlk hZ A0
  rw [ef_11]
  show own_Go _ _ _ _ (T0.setTop (mkF m 0 #[.val (.int p0)] []))
  refine own_go (fun t_ k_ => XS.iloadN A0.here hx rfl (hb hby d11_0) rfl k_) ?_
  show own_Go _ _ _ _ (T0.setTop (mkF m 1 #[.val (.int p0)] [(.int p0)]))
  refine own_go (fun t_ k_ => XS.bipush A0.here hx rfl (hb hby d11_1) k_) ?_
  show own_Go _ _ _ _ (T0.setTop (mkF m 3 #[.val (.int p0)] [(.int (32 : Int32)), (.int p0)]))
  have mg1 : ∀ t_, Steps p.tables e below (T0.setTop (mkF m 23 #[.val (.int p0)] [(.int (if p0 = (32 : Int32) then (1 : Int32) else (if p0 = (9 : Int32) then (1 : Int32) else (if p0 = (13 : Int32) then (1 : Int32) else (0 : Int32)))))])) t_ → Steps p.tables e below (T0.setTop (mkF m 3 #[.val (.int p0)] [(.int (32 : Int32)), (.int p0)])) t_ := by
    intro t_ k_
    by_cases hm3_0 : p0 = (32 : Int32)
    ·
      simp only [if_pos hm3_0] at k_
      exact (XS.icmpYes A0.here hx rfl (pc0 := 3) (pc' := 18) rfl (hb hby d11_3) rfl (teq hm3_0).1 (by decide) (by decide) (XS.iconst A0.here hx rfl (hb hby d11_18) (XS.goto A0.here hx rfl (pc0 := 19) (pc' := 23) rfl (hb hby d11_19) (by decide) (by decide) k_)))
    ·
      refine XS.icmpNo A0.here hx rfl (hb hby d11_3) rfl (feq hm3_0).1 (XS.iloadN A0.here hx rfl (hb hby d11_6) rfl (XS.bipush A0.here hx rfl (hb hby d11_7) ?_))
      by_cases hm9_1 : p0 = (9 : Int32)
      ·
        simp only [if_neg hm3_0, if_pos hm9_1] at k_
        exact (XS.icmpYes A0.here hx rfl (pc0 := 9) (pc' := 18) rfl (hb hby d11_9) rfl (teq hm9_1).1 (by decide) (by decide) (XS.iconst A0.here hx rfl (hb hby d11_18) (XS.goto A0.here hx rfl (pc0 := 19) (pc' := 23) rfl (hb hby d11_19) (by decide) (by decide) k_)))
      ·
        refine XS.icmpNo A0.here hx rfl (hb hby d11_9) rfl (feq hm9_1).1 (XS.iloadN A0.here hx rfl (hb hby d11_12) rfl (XS.bipush A0.here hx rfl (hb hby d11_13) ?_))
        by_cases hm15_2 : p0 = (13 : Int32)
        ·
          simp only [if_neg hm3_0, if_neg hm9_1, if_pos hm15_2] at k_
          exact (XS.icmpNo A0.here hx rfl (hb hby d11_15) rfl (teq hm15_2).2 (XS.iconst A0.here hx rfl (hb hby d11_18) (XS.goto A0.here hx rfl (pc0 := 19) (pc' := 23) rfl (hb hby d11_19) (by decide) (by decide) k_)))
        ·
          simp only [if_neg hm3_0, if_neg hm9_1, if_neg hm15_2] at k_
          exact (XS.icmpYes A0.here hx rfl (pc0 := 15) (pc' := 22) rfl (hb hby d11_15) rfl (feq hm15_2).2 (by decide) (by decide) (XS.iconst A0.here hx rfl (hb hby d11_22) k_))
  refine own_go mg1 ?_
  show own_Go _ _ _ _ (T0.setTop (mkF m 23 #[.val (.int p0)] [(.int (if p0 = (32 : Int32) then (1 : Int32) else (if p0 = (9 : Int32) then (1 : Int32) else (if p0 = (13 : Int32) then (1 : Int32) else (0 : Int32)))))]))
  generalize hx2 : (if p0 = (32 : Int32) then (1 : Int32) else (if p0 = (9 : Int32) then (1 : Int32) else (if p0 = (13 : Int32) then (1 : Int32) else (0 : Int32)))) = x2
  show own_Go _ _ _ _ (T0.setTop (mkF m 23 #[.val (.int p0)] [(.int x2)]))
  refine own_retN A0 hx (t := .boolean) hret (by simp) hlk (by decide) (by decide) (hb hby d11_23) ?_
  subst hx2
  exact ⟨rfl, rfl⟩
def own_end (cm : Nat → Bool) (t : Nat) : Nat → Nat → Nat
  | 0, i => i
  | k + 1, i => if cm i = true then i else own_end cm t k (i + 1)
def own_first (bl : Nat → Bool) : Nat → Nat → Nat
  | 0, i => i
  | k + 1, i => if bl i = true then own_first bl k (i + 1) else i
def own_last (bl : Nat → Bool) (fi : Nat) : Nat → Nat
  | 0 => fi
  | k + 1 => if bl (fi + k) = true then own_last bl fi k else fi + k + 1
/-- the fields of the bytes from st to t: of each the first place and the one behind the last -/
def own_fields (cm bl : Nat → Bool) (t : Nat) : Nat → Nat → List (Nat × Nat)
  | 0, _ => []
  | k + 1, st => (own_first bl (own_end cm t (t - st) st - st) st, own_last bl (own_first bl (own_end cm t (t - st) st - st) st) (own_end cm t (t - st) st - own_first bl (own_end cm t (t - st) st - st) st)) :: (if own_end cm t (t - st) st < t then own_fields cm bl t k (own_end cm t (t - st) st + 1) else [])
theorem own_end_le {cm : Nat → Bool} {t : Nat} : ∀ (k i : Nat), t - i = k → i ≤ t → i ≤ own_end cm t k i ∧ own_end cm t k i ≤ t := by
  intro k
  induction k with
  | zero => intro i h1 h2; exact ⟨Nat.le_refl _, h2⟩
  | succ k ih =>
    intro i h1 h2
    unfold own_end
    split
    · omega
    · have := ih (i + 1) (by omega) (by omega); omega
theorem own_first_le {bl : Nat → Bool} : ∀ (k i : Nat), i ≤ own_first bl k i ∧ own_first bl k i ≤ i + k := by
  intro k
  induction k with
  | zero => intro i; exact ⟨Nat.le_refl _, Nat.le_refl _⟩
  | succ k ih =>
    intro i
    unfold own_first
    split
    · have := ih (i + 1); omega
    · omega
theorem own_last_le {bl : Nat → Bool} {fi : Nat} : ∀ (k : Nat), fi ≤ own_last bl fi k ∧ own_last bl fi k ≤ fi + k := by
  intro k
  induction k with
  | zero => exact ⟨Nat.le_refl _, Nat.le_refl _⟩
  | succ k ih =>
    unfold own_last
    split
    · omega
    · omega
/-- the bounds' places 2 j and 2 j + 1 hold the j-th field, where there is one, else what they held -/
def own_Bd (q : Nat) (fs : List (Nat × Nat)) (fl c : Int32 → Int32) : Prop :=
  ∀ j, j < q → c (Int32.ofNat (2 * j)) = (if j < fs.length then Int32.ofNat (fs.getD j (0, 0)).1 else fl (Int32.ofNat (2 * j))) ∧ c (Int32.ofNat (2 * j + 1)) = (if j < fs.length then Int32.ofNat (fs.getD j (0, 0)).2 else fl (Int32.ofNat (2 * j + 1)))
theorem own_Bd.full {q : Nat} {fs : List (Nat × Nat)} {fl c : Int32 → Int32} (h : own_Bd q fs fl c) (hq : q ≤ fs.length) (x : Nat × Nat) : own_Bd q (fs ++ [x]) fl c := by
  intro j hj
  have h1 := h j hj
  have e : (fs ++ [x]).getD j (0, 0) = fs.getD j (0, 0) := by
    rw [List.getD_eq_getElem?_getD, List.getD_eq_getElem?_getD, List.getElem?_append_left (by omega)]
  rw [e, List.length_append, List.length_singleton, if_pos (show j < fs.length + 1 by omega), if_pos (show j < fs.length + 1 by omega)]
  rw [if_pos (show j < fs.length by omega), if_pos (show j < fs.length by omega)] at h1
  exact h1
theorem own_Bd.put {q : Nat} {fs : List (Nat × Nat)} {fl c : Int32 → Int32} (h : own_Bd q fs fl c) (hq : fs.length < q) (hb : 2 * q < 2 ^ 31) (a b : Nat) :
    own_Bd q (fs ++ [(a, b)]) fl (fun i => if i = Int32.ofNat (2 * fs.length) + (1 : Int32) then Int32.ofNat b else (fun i => if i = Int32.ofNat (2 * fs.length) then Int32.ofNat a else c i) i) := by
  intro j hj
  have h1 := h j hj
  simp only [own_succ, own_neq (show 2 * j < 2 ^ 31 by omega) (show 2 * fs.length + 1 < 2 ^ 31 by omega), own_neq (show 2 * j + 1 < 2 ^ 31 by omega) (show 2 * fs.length + 1 < 2 ^ 31 by omega), own_neq (show 2 * j < 2 ^ 31 by omega) (show 2 * fs.length < 2 ^ 31 by omega), own_neq (show 2 * j + 1 < 2 ^ 31 by omega) (show 2 * fs.length < 2 ^ 31 by omega)]
  rw [List.length_append, List.length_singleton]
  rcases Nat.lt_trichotomy j fs.length with hl | he | hg
  · have e : (fs ++ [(a, b)]).getD j (0, 0) = fs.getD j (0, 0) := by
      rw [List.getD_eq_getElem?_getD, List.getD_eq_getElem?_getD, List.getElem?_append_left hl]
    rw [if_pos hl, if_pos hl] at h1
    rw [e, if_neg (show ¬ 2 * j = 2 * fs.length + 1 by omega), if_neg (show ¬ 2 * j = 2 * fs.length by omega), if_neg (show ¬ 2 * j + 1 = 2 * fs.length + 1 by omega), if_neg (show ¬ 2 * j + 1 = 2 * fs.length by omega), if_pos (show j < fs.length + 1 by omega), if_pos (show j < fs.length + 1 by omega)]
    exact h1
  · have e : (fs ++ [(a, b)]).getD j (0, 0) = (a, b) := by
      rw [List.getD_eq_getElem?_getD, List.getElem?_append_right (by omega)]
      have : j - fs.length = 0 := by omega
      rw [this]
      rfl
    rw [e, if_neg (show ¬ 2 * j = 2 * fs.length + 1 by omega), if_pos (show 2 * j = 2 * fs.length by omega), if_pos (show 2 * j + 1 = 2 * fs.length + 1 by omega), if_pos (show j < fs.length + 1 by omega), if_pos (show j < fs.length + 1 by omega)]
    exact ⟨rfl, rfl⟩
  · rw [if_neg (show ¬ j < fs.length by omega), if_neg (show ¬ j < fs.length by omega)] at h1
    rw [if_neg (show ¬ 2 * j = 2 * fs.length + 1 by omega), if_neg (show ¬ 2 * j = 2 * fs.length by omega), if_neg (show ¬ 2 * j + 1 = 2 * fs.length + 1 by omega), if_neg (show ¬ 2 * j + 1 = 2 * fs.length by omega), if_neg (show ¬ j < fs.length + 1 by omega), if_neg (show ¬ j < fs.length + 1 by omega)]
    exact h1
theorem own_blank (b : Int32) : f11 b = (if b = 32 ∨ b = 9 ∨ b = 13 then 1 else 0) := by
  unfold f11
  by_cases h1 : b = 32
  · rw [if_pos h1, if_pos (Or.inl h1)]; rfl
  · by_cases h2 : b = 9
    · rw [if_neg h1, if_pos h2, if_pos (Or.inr (Or.inl h2))]; rfl
    · by_cases h3 : b = 13
      · rw [if_neg h1, if_neg h2, if_pos h3, if_pos (Or.inr (Or.inr h3))]; rfl
      · rw [if_neg h1, if_neg h2, if_neg h3, if_neg (by simp [h1, h2, h3])]; rfl
/-- which bytes are commas, which are blank -/
def own_Cls (cm bl : Nat → Bool) (t : Nat) (fb : Int32 → Int32) : Prop := ∀ i, i < t → (fb (Int32.ofNat i) = 44 ↔ cm i = true) ∧ ((fb (Int32.ofNat i) = 32 ∨ fb (Int32.ofNat i) = 9 ∨ fb (Int32.ofNat i) = 13) ↔ bl i = true)
theorem own_blank0 (b : Int32) : f11 b = 0 ↔ ¬ (b = 32 ∨ b = 9 ∨ b = 13) := by
  rw [own_blank]
  by_cases h : b = 32 ∨ b = 9 ∨ b = 13
  · rw [if_pos h]
    exact ⟨fun q => absurd q (by decide), fun q => absurd h q⟩
  · rw [if_neg h]
    exact ⟨fun _ => h, fun _ => rfl⟩
theorem d10_18 : decode prog_13_method_11_code 18 = .ok (.iload 7, 2) := by decide +kernel
theorem d10_20 : decode prog_13_method_11_code 20 = .ok (.iload_n 2, 1) := by decide +kernel
theorem d10_21 : decode prog_13_method_11_code 21 = .ok (.if_icmp .ge 18, 3) := by decide +kernel
theorem d10_24 : decode prog_13_method_11_code 24 = .ok (.aload_n 0, 1) := by decide +kernel
theorem d10_25 : decode prog_13_method_11_code 25 = .ok (.iload 7, 2) := by decide +kernel
theorem d10_27 : decode prog_13_method_11_code 27 = .ok (.baload, 1) := by decide +kernel
theorem d10_28 : decode prog_13_method_11_code 28 = .ok (.bipush 44, 2) := by decide +kernel
theorem d10_30 : decode prog_13_method_11_code 30 = .ok (.if_icmp .eq 9, 3) := by decide +kernel
theorem d10_33 : decode prog_13_method_11_code 33 = .ok (.iinc 7 1, 3) := by decide +kernel
theorem d10_36 : decode prog_13_method_11_code 36 = .ok (.goto (-18), 3) := by decide +kernel
set_option maxRecDepth 65536 in
set_option maxHeartbeats 40000000 in
theorem own_lpA {p : Program} {l : Launch} {e : Env} {s : State} {m : MethodId} {args : Array Value} {below : List Frame} {meth : Method} {c : Code} {Z : State} {a0 : Array Value} {n0 : Nat} (hx : p.tables.exec = Jvm.exec) (hby : c.code = prog_13_method_11_code) (hml : c.maxLocals = 10) (hown : s.vm.findClass "com/example/indexloom/indexloom/data/DataHeader" = some m.cls) (hret : meth.sig.returnType = some .int) (hlk : meth.locks = false) (hZ : Z.Warmed39 s.vm) (hw : ∀ d ∈ tables_1, d.before a0 Z = true) (r0 r3 : Addr) (p1 x4 x5 x6 : Int32) (t : Nat) (nb : Int32) (fb : Int32 → Int32) (cm bl : Nat → Bool) {h0 : Heap} {G : State → Outcome → Prop} (V0 : own_Arr Z h0 r0 .byte nb fb) (ht : (t : Int) ≤ nb.toInt) (HC : own_Cls cm bl t fb) {s8 s9 : Slot} {T0 : State} (A0 : own_At p l e ({ frames := 1, cells := 0, slots := 0, locals := 12 } : Room) s m args below meth c n0 T0 h0 0 0) :
    ∀ (k i : Nat), t - i = k → i ≤ t → own_Go p.tables e below G (T0.setTop (mkF m 39 #[.val (.ref r0), .val (.int p1), .val (.int (Int32.ofNat t)), .val (.ref r3), .val (.int x4), .val (.int x5), .val (.int x6), .val (.int (Int32.ofNat (own_end cm t k i))), s8, s9] [])) → own_Go p.tables e below G (T0.setTop (mkF m 18 #[.val (.ref r0), .val (.int p1), .val (.int (Int32.ofNat t)), .val (.ref r3), .val (.int x4), .val (.int x5), .val (.int x6), .val (.int (Int32.ofNat i)), s8, s9] [])) := by
  intro k
  induction k with
  | zero =>
    intro i h1 h2 K
    show own_Go _ _ _ _ (T0.setTop (mkF m 18 #[.val (.ref r0), .val (.int p1), .val (.int (Int32.ofNat t)), .val (.ref r3), .val (.int x4), .val (.int x5), .val (.int x6), .val (.int (Int32.ofNat i)), s8, s9] []))
    refine own_go (fun t_ k_ => XS.iload A0.here hx rfl (hb hby d10_18) rfl k_) ?_
    show own_Go _ _ _ _ (T0.setTop (mkF m 20 #[.val (.ref r0), .val (.int p1), .val (.int (Int32.ofNat t)), .val (.ref r3), .val (.int x4), .val (.int x5), .val (.int x6), .val (.int (Int32.ofNat i)), s8, s9] [(.int (Int32.ofNat i))]))
    refine own_go (fun t_ k_ => XS.iloadN A0.here hx rfl (hb hby d10_20) rfl k_) ?_
    show own_Go _ _ _ _ (T0.setTop (mkF m 21 #[.val (.ref r0), .val (.int p1), .val (.int (Int32.ofNat t)), .val (.ref r3), .val (.int x4), .val (.int x5), .val (.int x6), .val (.int (Int32.ofNat i)), s8, s9] [(.int (Int32.ofNat t)), (.int (Int32.ofNat i))]))
    have hc1 : ¬ ((Int32.ofNat i) < (Int32.ofNat t)) := fun q => absurd ((own_nlt (by have := nb.toInt_lt; omega) (by have := nb.toInt_lt; omega)).mp q) (by omega)
    refine own_go (fun t_ k_ => XS.icmpYes A0.here hx rfl (pc0 := 21) (pc' := 39) rfl (hb hby d10_21) rfl (flt hc1).2.1 (by decide) (by decide) k_) ?_
    show own_Go _ _ _ _ (T0.setTop (mkF m 39 #[.val (.ref r0), .val (.int p1), .val (.int (Int32.ofNat t)), .val (.ref r3), .val (.int x4), .val (.int x5), .val (.int x6), .val (.int (Int32.ofNat i)), s8, s9] []))
    exact K
  | succ k ih =>
    intro i h1 h2 K
    show own_Go _ _ _ _ (T0.setTop (mkF m 18 #[.val (.ref r0), .val (.int p1), .val (.int (Int32.ofNat t)), .val (.ref r3), .val (.int x4), .val (.int x5), .val (.int x6), .val (.int (Int32.ofNat i)), s8, s9] []))
    refine own_go (fun t_ k_ => XS.iload A0.here hx rfl (hb hby d10_18) rfl k_) ?_
    show own_Go _ _ _ _ (T0.setTop (mkF m 20 #[.val (.ref r0), .val (.int p1), .val (.int (Int32.ofNat t)), .val (.ref r3), .val (.int x4), .val (.int x5), .val (.int x6), .val (.int (Int32.ofNat i)), s8, s9] [(.int (Int32.ofNat i))]))
    refine own_go (fun t_ k_ => XS.iloadN A0.here hx rfl (hb hby d10_20) rfl k_) ?_
    show own_Go _ _ _ _ (T0.setTop (mkF m 21 #[.val (.ref r0), .val (.int p1), .val (.int (Int32.ofNat t)), .val (.ref r3), .val (.int x4), .val (.int x5), .val (.int x6), .val (.int (Int32.ofNat i)), s8, s9] [(.int (Int32.ofNat t)), (.int (Int32.ofNat i))]))
    have hc2 : (Int32.ofNat i) < (Int32.ofNat t) := (own_nlt (by have := nb.toInt_lt; omega) (by have := nb.toInt_lt; omega)).mpr (by omega)
    refine own_go (fun t_ k_ => XS.icmpNo A0.here hx rfl (hb hby d10_21) rfl (tlt hc2).2.1 k_) ?_
    show own_Go _ _ _ _ (T0.setTop (mkF m 24 #[.val (.ref r0), .val (.int p1), .val (.int (Int32.ofNat t)), .val (.ref r3), .val (.int x4), .val (.int x5), .val (.int x6), .val (.int (Int32.ofNat i)), s8, s9] []))
    refine own_go (fun t_ k_ => XS.aloadN A0.here hx rfl (hb hby d10_24) rfl rfl k_) ?_
    show own_Go _ _ _ _ (T0.setTop (mkF m 25 #[.val (.ref r0), .val (.int p1), .val (.int (Int32.ofNat t)), .val (.ref r3), .val (.int x4), .val (.int x5), .val (.int x6), .val (.int (Int32.ofNat i)), s8, s9] [(.ref r0)]))
    refine own_go (fun t_ k_ => XS.iload A0.here hx rfl (hb hby d10_25) rfl k_) ?_
    show own_Go _ _ _ _ (T0.setTop (mkF m 27 #[.val (.ref r0), .val (.int p1), .val (.int (Int32.ofNat t)), .val (.ref r3), .val (.int x4), .val (.int x5), .val (.int x6), .val (.int (Int32.ofNat i)), s8, s9] [(.int (Int32.ofNat i)), (.ref r0)]))
    refine own_ldB A0 hx hZ V0 ⟨own_nn (by have := nb.toInt_lt; omega), by rw [Int32.lt_iff_toInt_lt, own_nI (by have := nb.toInt_lt; omega)]; omega⟩ rfl rfl (hb hby d10_27) ?_
    show own_Go _ _ _ _ (T0.setTop (mkF m 28 #[.val (.ref r0), .val (.int p1), .val (.int (Int32.ofNat t)), .val (.ref r3), .val (.int x4), .val (.int x5), .val (.int x6), .val (.int (Int32.ofNat i)), s8, s9] [(.int (fb (Int32.ofNat i)))]))
    refine own_go (fun t_ k_ => XS.bipush A0.here hx rfl (hb hby d10_28) k_) ?_
    show own_Go _ _ _ _ (T0.setTop (mkF m 30 #[.val (.ref r0), .val (.int p1), .val (.int (Int32.ofNat t)), .val (.ref r3), .val (.int x4), .val (.int x5), .val (.int x6), .val (.int (Int32.ofNat i)), s8, s9] [(.int (44 : Int32)), (.int (fb (Int32.ofNat i)))]))
    by_cases hc3 : (fb (Int32.ofNat i)) = (44 : Int32)
    ·
      refine own_go (fun t_ k_ => XS.icmpYes A0.here hx rfl (pc0 := 30) (pc' := 39) rfl (hb hby d10_30) rfl (teq hc3).1 (by decide) (by decide) k_) ?_
      show own_Go _ _ _ _ (T0.setTop (mkF m 39 #[.val (.ref r0), .val (.int p1), .val (.int (Int32.ofNat t)), .val (.ref r3), .val (.int x4), .val (.int x5), .val (.int x6), .val (.int (Int32.ofNat i)), s8, s9] []))
      rw [show own_end cm t (k + 1) i = i by unfold own_end; rw [if_pos ((HC i (by omega)).1.mp hc3)]] at K
      exact K
    ·
      refine own_go (fun t_ k_ => XS.icmpNo A0.here hx rfl (hb hby d10_30) rfl (feq hc3).1 k_) ?_
      show own_Go _ _ _ _ (T0.setTop (mkF m 33 #[.val (.ref r0), .val (.int p1), .val (.int (Int32.ofNat t)), .val (.ref r3), .val (.int x4), .val (.int x5), .val (.int x6), .val (.int (Int32.ofNat i)), s8, s9] []))
      refine own_go (fun t_ k_ => XS.iinc A0.here hx rfl (hb hby d10_33) rfl (l' := #[.val (.ref r0), .val (.int p1), .val (.int (Int32.ofNat t)), .val (.ref r3), .val (.int x4), .val (.int x5), .val (.int x6), .val (.int ((Int32.ofNat i) + (1 : Int32))), s8, s9]) rfl k_) ?_
      show own_Go _ _ _ _ (T0.setTop (mkF m 36 #[.val (.ref r0), .val (.int p1), .val (.int (Int32.ofNat t)), .val (.ref r3), .val (.int x4), .val (.int x5), .val (.int x6), .val (.int ((Int32.ofNat i) + (1 : Int32))), s8, s9] []))
      refine own_go (fun t_ k_ => XS.goto A0.here hx rfl (pc0 := 36) (pc' := 18) rfl (hb hby d10_36) (by decide) (by decide) k_) ?_
      show own_Go _ _ _ _ (T0.setTop (mkF m 18 #[.val (.ref r0), .val (.int p1), .val (.int (Int32.ofNat t)), .val (.ref r3), .val (.int x4), .val (.int x5), .val (.int x6), .val (.int ((Int32.ofNat i) + (1 : Int32))), s8, s9] []))
      rw [show own_end cm t (k + 1) i = own_end cm t k (i + 1) by rw [own_end]; rw [if_neg (fun q => hc3 ((HC i (by omega)).1.mpr q))]] at K
      rw [own_succ]
      exact ih (i + 1) (by omega) (by omega) K
theorem d10_56 : decode prog_13_method_11_code 56 = .ok (.iload 8, 2) := by decide +kernel
theorem d10_58 : decode prog_13_method_11_code 58 = .ok (.iload 9, 2) := by decide +kernel
theorem d10_60 : decode prog_13_method_11_code 60 = .ok (.if_icmp .ge 19, 3) := by decide +kernel
theorem d10_63 : decode prog_13_method_11_code 63 = .ok (.aload_n 0, 1) := by decide +kernel
theorem d10_64 : decode prog_13_method_11_code 64 = .ok (.iload 8, 2) := by decide +kernel
theorem d10_66 : decode prog_13_method_11_code 66 = .ok (.baload, 1) := by decide +kernel
theorem d10_67 : decode prog_13_method_11_code 67 = .ok (.invokestatic 88, 3) := by decide +kernel
theorem pd__B_Z : parseMethodDescriptor "(B)Z" = some ⟨[.byte], some .boolean⟩ := by decide +kernel
theorem d10_70 : decode prog_13_method_11_code 70 = .ok (.ifCond .eq 9, 3) := by decide +kernel
theorem d10_73 : decode prog_13_method_11_code 73 = .ok (.iinc 8 1, 3) := by decide +kernel
theorem d10_76 : decode prog_13_method_11_code 76 = .ok (.goto (-20), 3) := by decide +kernel
set_option maxRecDepth 65536 in
set_option maxHeartbeats 40000000 in
theorem own_lpB {p : Program} {l : Launch} {e : Env} {s : State} {m : MethodId} {args : Array Value} {below : List Frame} {meth : Method} {c : Code} {Z : State} {a0 : Array Value} {n0 : Nat} (hx : p.tables.exec = Jvm.exec) (hby : c.code = prog_13_method_11_code) (hml : c.maxLocals = 10) (hown : s.vm.findClass "com/example/indexloom/indexloom/data/DataHeader" = some m.cls) (hret : meth.sig.returnType = some .int) (hlk : meth.locks = false) (hZ : Z.Warmed39 s.vm) (hw : ∀ d ∈ tables_1, d.before a0 Z = true) (r0 r3 : Addr) (p1 x4 x5 x6 : Int32) (t : Nat) (nb : Int32) (fb : Int32 → Int32) (cm bl : Nat → Bool) {h0 : Heap} {G : State → Outcome → Prop} (V0 : own_Arr Z h0 r0 .byte nb fb) (ht : (t : Int) ≤ nb.toInt) (HC : own_Cls cm bl t fb) (x7 : Int32) (la : Nat) (hla : la ≤ t) :
    ∀ (k i : Nat) (T0 : State), own_At p l e ({ frames := 1, cells := 0, slots := 0, locals := 12 } : Room) s m args below meth c n0 T0 h0 0 0 → la - i = k → i ≤ la → (∀ T0, own_At p l e ({ frames := 1, cells := 0, slots := 0, locals := 12 } : Room) s m args below meth c n0 T0 h0 0 0 → own_Go p.tables e below G (T0.setTop (mkF m 79 #[.val (.ref r0), .val (.int p1), .val (.int (Int32.ofNat t)), .val (.ref r3), .val (.int x4), .val (.int x5), .val (.int x6), .val (.int x7), .val (.int (Int32.ofNat (own_first bl k i))), .val (.int (Int32.ofNat la))] []))) → own_Go p.tables e below G (T0.setTop (mkF m 56 #[.val (.ref r0), .val (.int p1), .val (.int (Int32.ofNat t)), .val (.ref r3), .val (.int x4), .val (.int x5), .val (.int x6), .val (.int x7), .val (.int (Int32.ofNat i)), .val (.int (Int32.ofNat la))] [])) := by
  intro k
  induction k with
  | zero =>
    intro i T0 A0 h1 h2 K
    show own_Go _ _ _ _ (T0.setTop (mkF m 56 #[.val (.ref r0), .val (.int p1), .val (.int (Int32.ofNat t)), .val (.ref r3), .val (.int x4), .val (.int x5), .val (.int x6), .val (.int x7), .val (.int (Int32.ofNat i)), .val (.int (Int32.ofNat la))] []))
    refine own_go (fun t_ k_ => XS.iload A0.here hx rfl (hb hby d10_56) rfl k_) ?_
    show own_Go _ _ _ _ (T0.setTop (mkF m 58 #[.val (.ref r0), .val (.int p1), .val (.int (Int32.ofNat t)), .val (.ref r3), .val (.int x4), .val (.int x5), .val (.int x6), .val (.int x7), .val (.int (Int32.ofNat i)), .val (.int (Int32.ofNat la))] [(.int (Int32.ofNat i))]))
    refine own_go (fun t_ k_ => XS.iload A0.here hx rfl (hb hby d10_58) rfl k_) ?_
    show own_Go _ _ _ _ (T0.setTop (mkF m 60 #[.val (.ref r0), .val (.int p1), .val (.int (Int32.ofNat t)), .val (.ref r3), .val (.int x4), .val (.int x5), .val (.int x6), .val (.int x7), .val (.int (Int32.ofNat i)), .val (.int (Int32.ofNat la))] [(.int (Int32.ofNat la)), (.int (Int32.ofNat i))]))
    have hc4 : ¬ ((Int32.ofNat i) < (Int32.ofNat la)) := fun q => absurd ((own_nlt (by have := nb.toInt_lt; omega) (by have := nb.toInt_lt; omega)).mp q) (by omega)
    refine own_go (fun t_ k_ => XS.icmpYes A0.here hx rfl (pc0 := 60) (pc' := 79) rfl (hb hby d10_60) rfl (flt hc4).2.1 (by decide) (by decide) k_) ?_
    show own_Go _ _ _ _ (T0.setTop (mkF m 79 #[.val (.ref r0), .val (.int p1), .val (.int (Int32.ofNat t)), .val (.ref r3), .val (.int x4), .val (.int x5), .val (.int x6), .val (.int x7), .val (.int (Int32.ofNat i)), .val (.int (Int32.ofNat la))] []))
    exact K _ A0
  | succ k ih =>
    intro i T0 A0 h1 h2 K
    show own_Go _ _ _ _ (T0.setTop (mkF m 56 #[.val (.ref r0), .val (.int p1), .val (.int (Int32.ofNat t)), .val (.ref r3), .val (.int x4), .val (.int x5), .val (.int x6), .val (.int x7), .val (.int (Int32.ofNat i)), .val (.int (Int32.ofNat la))] []))
    refine own_go (fun t_ k_ => XS.iload A0.here hx rfl (hb hby d10_56) rfl k_) ?_
    show own_Go _ _ _ _ (T0.setTop (mkF m 58 #[.val (.ref r0), .val (.int p1), .val (.int (Int32.ofNat t)), .val (.ref r3), .val (.int x4), .val (.int x5), .val (.int x6), .val (.int x7), .val (.int (Int32.ofNat i)), .val (.int (Int32.ofNat la))] [(.int (Int32.ofNat i))]))
    refine own_go (fun t_ k_ => XS.iload A0.here hx rfl (hb hby d10_58) rfl k_) ?_
    show own_Go _ _ _ _ (T0.setTop (mkF m 60 #[.val (.ref r0), .val (.int p1), .val (.int (Int32.ofNat t)), .val (.ref r3), .val (.int x4), .val (.int x5), .val (.int x6), .val (.int x7), .val (.int (Int32.ofNat i)), .val (.int (Int32.ofNat la))] [(.int (Int32.ofNat la)), (.int (Int32.ofNat i))]))
    have hc5 : (Int32.ofNat i) < (Int32.ofNat la) := (own_nlt (by have := nb.toInt_lt; omega) (by have := nb.toInt_lt; omega)).mpr (by omega)
    refine own_go (fun t_ k_ => XS.icmpNo A0.here hx rfl (hb hby d10_60) rfl (tlt hc5).2.1 k_) ?_
    show own_Go _ _ _ _ (T0.setTop (mkF m 63 #[.val (.ref r0), .val (.int p1), .val (.int (Int32.ofNat t)), .val (.ref r3), .val (.int x4), .val (.int x5), .val (.int x6), .val (.int x7), .val (.int (Int32.ofNat i)), .val (.int (Int32.ofNat la))] []))
    refine own_go (fun t_ k_ => XS.aloadN A0.here hx rfl (hb hby d10_63) rfl rfl k_) ?_
    show own_Go _ _ _ _ (T0.setTop (mkF m 64 #[.val (.ref r0), .val (.int p1), .val (.int (Int32.ofNat t)), .val (.ref r3), .val (.int x4), .val (.int x5), .val (.int x6), .val (.int x7), .val (.int (Int32.ofNat i)), .val (.int (Int32.ofNat la))] [(.ref r0)]))
    refine own_go (fun t_ k_ => XS.iload A0.here hx rfl (hb hby d10_64) rfl k_) ?_
    show own_Go _ _ _ _ (T0.setTop (mkF m 66 #[.val (.ref r0), .val (.int p1), .val (.int (Int32.ofNat t)), .val (.ref r3), .val (.int x4), .val (.int x5), .val (.int x6), .val (.int x7), .val (.int (Int32.ofNat i)), .val (.int (Int32.ofNat la))] [(.int (Int32.ofNat i)), (.ref r0)]))
    refine own_ldB A0 hx hZ V0 ⟨own_nn (by have := nb.toInt_lt; omega), by rw [Int32.lt_iff_toInt_lt, own_nI (by have := nb.toInt_lt; omega)]; omega⟩ rfl rfl (hb hby d10_66) ?_
    show own_Go _ _ _ _ (T0.setTop (mkF m 67 #[.val (.ref r0), .val (.int p1), .val (.int (Int32.ofNat t)), .val (.ref r3), .val (.int x4), .val (.int x5), .val (.int x6), .val (.int x7), .val (.int (Int32.ofNat i)), .val (.int (Int32.ofNat la))] [(.int (fb (Int32.ofNat i)))]))
    refine own_callS A0 hx hZ hown (y := (⟨"com/example/indexloom/indexloom/data/DataHeader", "isBlank", "(B)Z"⟩ : MethodName)) (hw _ (List.mem_of_getElem? (i := 66) rfl)) (hw _ (List.mem_of_getElem? (i := 67) rfl)) (hw _ (List.mem_of_getElem? (i := 8) rfl)) (hw _ (List.mem_of_getElem? (i := 68) rfl)) (by decide) (argsL := [(.int (fb (Int32.ofNat i)))]) (rest := []) (rm11 l Z a0 hw (fb (Int32.ofNat i)) h0 n0 ) 0 (by decide) (by decide) rfl (by rw [hml]; rfl) (lenOf pd__B_Z rfl) rfl (by show 2 * 0 + _ ≤ _; exact Nat.le_of_eq rfl) (hb hby d10_67) (by decide) (by decide) (fun v9 T6 h8 A7 hQ10 => ?_)
    obtain ⟨rfl, rfl⟩ := hQ10
    show own_Go _ _ _ _ (T6.setTop (mkF m 70 #[.val (.ref r0), .val (.int p1), .val (.int (Int32.ofNat t)), .val (.ref r3), .val (.int x4), .val (.int x5), .val (.int x6), .val (.int x7), .val (.int (Int32.ofNat i)), .val (.int (Int32.ofNat la))] [(.int (f11 (fb (Int32.ofNat i))))]))
    by_cases hc11 : (f11 (fb (Int32.ofNat i))) = (0 : Int32)
    ·
      refine own_go (fun t_ k_ => XS.ifYes A7.here hx rfl (pc0 := 70) (pc' := 79) rfl (hb hby d10_70) rfl ((if0 _ _).trans (teq hc11).1) (by decide) (by decide) k_) ?_
      show own_Go _ _ _ _ (T6.setTop (mkF m 79 #[.val (.ref r0), .val (.int p1), .val (.int (Int32.ofNat t)), .val (.ref r3), .val (.int x4), .val (.int x5), .val (.int x6), .val (.int x7), .val (.int (Int32.ofNat i)), .val (.int (Int32.ofNat la))] []))
      rw [show own_first bl (k + 1) i = i by unfold own_first; rw [if_neg (fun q => (own_blank0 _).mp hc11 ((HC i (by omega)).2.mpr q))]] at K
      exact K _ A7
    ·
      refine own_go (fun t_ k_ => XS.ifNo A7.here hx rfl (hb hby d10_70) rfl ((if0 _ _).trans (feq hc11).1) k_) ?_
      show own_Go _ _ _ _ (T6.setTop (mkF m 73 #[.val (.ref r0), .val (.int p1), .val (.int (Int32.ofNat t)), .val (.ref r3), .val (.int x4), .val (.int x5), .val (.int x6), .val (.int x7), .val (.int (Int32.ofNat i)), .val (.int (Int32.ofNat la))] []))
      refine own_go (fun t_ k_ => XS.iinc A7.here hx rfl (hb hby d10_73) rfl (l' := #[.val (.ref r0), .val (.int p1), .val (.int (Int32.ofNat t)), .val (.ref r3), .val (.int x4), .val (.int x5), .val (.int x6), .val (.int x7), .val (.int ((Int32.ofNat i) + (1 : Int32))), .val (.int (Int32.ofNat la))]) rfl k_) ?_
      show own_Go _ _ _ _ (T6.setTop (mkF m 76 #[.val (.ref r0), .val (.int p1), .val (.int (Int32.ofNat t)), .val (.ref r3), .val (.int x4), .val (.int x5), .val (.int x6), .val (.int x7), .val (.int ((Int32.ofNat i) + (1 : Int32))), .val (.int (Int32.ofNat la))] []))
      refine own_go (fun t_ k_ => XS.goto A7.here hx rfl (pc0 := 76) (pc' := 56) rfl (hb hby d10_76) (by decide) (by decide) k_) ?_
      show own_Go _ _ _ _ (T6.setTop (mkF m 56 #[.val (.ref r0), .val (.int p1), .val (.int (Int32.ofNat t)), .val (.ref r3), .val (.int x4), .val (.int x5), .val (.int x6), .val (.int x7), .val (.int ((Int32.ofNat i) + (1 : Int32))), .val (.int (Int32.ofNat la))] []))
      rw [show own_first bl (k + 1) i = own_first bl k (i + 1) by rw [own_first]; rw [if_pos ((HC i (by omega)).2.mp (Classical.not_not.mp fun q => hc11 ((own_blank0 _).mpr q)))]] at K
      rw [own_succ]
      exact ih (i + 1) _ A7 (by omega) (by omega) K
theorem d10_79 : decode prog_13_method_11_code 79 = .ok (.iload 9, 2) := by decide +kernel
theorem d10_81 : decode prog_13_method_11_code 81 = .ok (.iload 8, 2) := by decide +kernel
theorem d10_83 : decode prog_13_method_11_code 83 = .ok (.if_icmp .le 21, 3) := by decide +kernel
theorem d10_86 : decode prog_13_method_11_code 86 = .ok (.aload_n 0, 1) := by decide +kernel
theorem d10_87 : decode prog_13_method_11_code 87 = .ok (.iload 9, 2) := by decide +kernel
theorem d10_89 : decode prog_13_method_11_code 89 = .ok (.iconst 1, 1) := by decide +kernel
theorem d10_90 : decode prog_13_method_11_code 90 = .ok (.isub, 1) := by decide +kernel
theorem d10_91 : decode prog_13_method_11_code 91 = .ok (.baload, 1) := by decide +kernel
theorem d10_92 : decode prog_13_method_11_code 92 = .ok (.invokestatic 88, 3) := by decide +kernel
theorem d10_95 : decode prog_13_method_11_code 95 = .ok (.ifCond .eq 9, 3) := by decide +kernel
theorem d10_98 : decode prog_13_method_11_code 98 = .ok (.iinc 9 (-1), 3) := by decide +kernel
theorem d10_101 : decode prog_13_method_11_code 101 = .ok (.goto (-22), 3) := by decide +kernel
set_option maxRecDepth 65536 in
set_option maxHeartbeats 40000000 in
theorem own_lpC {p : Program} {l : Launch} {e : Env} {s : State} {m : MethodId} {args : Array Value} {below : List Frame} {meth : Method} {c : Code} {Z : State} {a0 : Array Value} {n0 : Nat} (hx : p.tables.exec = Jvm.exec) (hby : c.code = prog_13_method_11_code) (hml : c.maxLocals = 10) (hown : s.vm.findClass "com/example/indexloom/indexloom/data/DataHeader" = some m.cls) (hret : meth.sig.returnType = some .int) (hlk : meth.locks = false) (hZ : Z.Warmed39 s.vm) (hw : ∀ d ∈ tables_1, d.before a0 Z = true) (r0 r3 : Addr) (p1 x4 x5 x6 : Int32) (t : Nat) (nb : Int32) (fb : Int32 → Int32) (cm bl : Nat → Bool) {h0 : Heap} {G : State → Outcome → Prop} (V0 : own_Arr Z h0 r0 .byte nb fb) (ht : (t : Int) ≤ nb.toInt) (HC : own_Cls cm bl t fb) (x7 : Int32) (fi : Nat) :
    ∀ (k : Nat) (T0 : State), own_At p l e ({ frames := 1, cells := 0, slots := 0, locals := 12 } : Room) s m args below meth c n0 T0 h0 0 0 → fi + k ≤ t → (∀ T0, own_At p l e ({ frames := 1, cells := 0, slots := 0, locals := 12 } : Room) s m args below meth c n0 T0 h0 0 0 → own_Go p.tables e below G (T0.setTop (mkF m 104 #[.val (.ref r0), .val (.int p1), .val (.int (Int32.ofNat t)), .val (.ref r3), .val (.int x4), .val (.int x5), .val (.int x6), .val (.int x7), .val (.int (Int32.ofNat fi)), .val (.int (Int32.ofNat (own_last bl fi k)))] []))) → own_Go p.tables e below G (T0.setTop (mkF m 79 #[.val (.ref r0), .val (.int p1), .val (.int (Int32.ofNat t)), .val (.ref r3), .val (.int x4), .val (.int x5), .val (.int x6), .val (.int x7), .val (.int (Int32.ofNat fi)), .val (.int (Int32.ofNat (fi + k)))] [])) := by
  intro k
  induction k with
  | zero =>
    intro T0 A0 h1 K
    show own_Go _ _ _ _ (T0.setTop (mkF m 79 #[.val (.ref r0), .val (.int p1), .val (.int (Int32.ofNat t)), .val (.ref r3), .val (.int x4), .val (.int x5), .val (.int x6), .val (.int x7), .val (.int (Int32.ofNat fi)), .val (.int (Int32.ofNat (fi + 0)))] []))
    refine own_go (fun t_ k_ => XS.iload A0.here hx rfl (hb hby d10_79) rfl k_) ?_
    show own_Go _ _ _ _ (T0.setTop (mkF m 81 #[.val (.ref r0), .val (.int p1), .val (.int (Int32.ofNat t)), .val (.ref r3), .val (.int x4), .val (.int x5), .val (.int x6), .val (.int x7), .val (.int (Int32.ofNat fi)), .val (.int (Int32.ofNat (fi + 0)))] [(.int (Int32.ofNat (fi + 0)))]))
    refine own_go (fun t_ k_ => XS.iload A0.here hx rfl (hb hby d10_81) rfl k_) ?_
    show own_Go _ _ _ _ (T0.setTop (mkF m 83 #[.val (.ref r0), .val (.int p1), .val (.int (Int32.ofNat t)), .val (.ref r3), .val (.int x4), .val (.int x5), .val (.int x6), .val (.int x7), .val (.int (Int32.ofNat fi)), .val (.int (Int32.ofNat (fi + 0)))] [(.int (Int32.ofNat fi)), (.int (Int32.ofNat (fi + 0)))]))
    have hc12 : ¬ ((Int32.ofNat fi) < (Int32.ofNat (fi + 0))) := fun q => absurd ((own_nlt (by have := nb.toInt_lt; omega) (by have := nb.toInt_lt; omega)).mp q) (by omega)
    refine own_go (fun t_ k_ => XS.icmpYes A0.here hx rfl (pc0 := 83) (pc' := 104) rfl (hb hby d10_83) rfl (flt hc12).2.2.2 (by decide) (by decide) k_) ?_
    show own_Go _ _ _ _ (T0.setTop (mkF m 104 #[.val (.ref r0), .val (.int p1), .val (.int (Int32.ofNat t)), .val (.ref r3), .val (.int x4), .val (.int x5), .val (.int x6), .val (.int x7), .val (.int (Int32.ofNat fi)), .val (.int (Int32.ofNat (fi + 0)))] []))
    exact K _ A0
  | succ k ih =>
    intro T0 A0 h1 K
    show own_Go _ _ _ _ (T0.setTop (mkF m 79 #[.val (.ref r0), .val (.int p1), .val (.int (Int32.ofNat t)), .val (.ref r3), .val (.int x4), .val (.int x5), .val (.int x6), .val (.int x7), .val (.int (Int32.ofNat fi)), .val (.int (Int32.ofNat (fi + k + 1)))] []))
    refine own_go (fun t_ k_ => XS.iload A0.here hx rfl (hb hby d10_79) rfl k_) ?_
    show own_Go _ _ _ _ (T0.setTop (mkF m 81 #[.val (.ref r0), .val (.int p1), .val (.int (Int32.ofNat t)), .val (.ref r3), .val (.int x4), .val (.int x5), .val (.int x6), .val (.int x7), .val (.int (Int32.ofNat fi)), .val (.int (Int32.ofNat (fi + k + 1)))] [(.int (Int32.ofNat (fi + k + 1)))]))
    refine own_go (fun t_ k_ => XS.iload A0.here hx rfl (hb hby d10_81) rfl k_) ?_
    show own_Go _ _ _ _ (T0.setTop (mkF m 83 #[.val (.ref r0), .val (.int p1), .val (.int (Int32.ofNat t)), .val (.ref r3), .val (.int x4), .val (.int x5), .val (.int x6), .val (.int x7), .val (.int (Int32.ofNat fi)), .val (.int (Int32.ofNat (fi + k + 1)))] [(.int (Int32.ofNat fi)), (.int (Int32.ofNat (fi + k + 1)))]))
    have hc13 : (Int32.ofNat fi) < (Int32.ofNat (fi + k + 1)) := (own_nlt (by have := nb.toInt_lt; omega) (by have := nb.toInt_lt; omega)).mpr (by omega)
    refine own_go (fun t_ k_ => XS.icmpNo A0.here hx rfl (hb hby d10_83) rfl (tlt hc13).2.2.2 k_) ?_
    show own_Go _ _ _ _ (T0.setTop (mkF m 86 #[.val (.ref r0), .val (.int p1), .val (.int (Int32.ofNat t)), .val (.ref r3), .val (.int x4), .val (.int x5), .val (.int x6), .val (.int x7), .val (.int (Int32.ofNat fi)), .val (.int (Int32.ofNat (fi + k + 1)))] []))
    refine own_go (fun t_ k_ => XS.aloadN A0.here hx rfl (hb hby d10_86) rfl rfl k_) ?_
    show own_Go _ _ _ _ (T0.setTop (mkF m 87 #[.val (.ref r0), .val (.int p1), .val (.int (Int32.ofNat t)), .val (.ref r3), .val (.int x4), .val (.int x5), .val (.int x6), .val (.int x7), .val (.int (Int32.ofNat fi)), .val (.int (Int32.ofNat (fi + k + 1)))] [(.ref r0)]))
    refine own_go (fun t_ k_ => XS.iload A0.here hx rfl (hb hby d10_87) rfl k_) ?_
    show own_Go _ _ _ _ (T0.setTop (mkF m 89 #[.val (.ref r0), .val (.int p1), .val (.int (Int32.ofNat t)), .val (.ref r3), .val (.int x4), .val (.int x5), .val (.int x6), .val (.int x7), .val (.int (Int32.ofNat fi)), .val (.int (Int32.ofNat (fi + k + 1)))] [(.int (Int32.ofNat (fi + k + 1))), (.ref r0)]))
    refine own_go (fun t_ k_ => XS.iconst A0.here hx rfl (hb hby d10_89) k_) ?_
    show own_Go _ _ _ _ (T0.setTop (mkF m 90 #[.val (.ref r0), .val (.int p1), .val (.int (Int32.ofNat t)), .val (.ref r3), .val (.int x4), .val (.int x5), .val (.int x6), .val (.int x7), .val (.int (Int32.ofNat fi)), .val (.int (Int32.ofNat (fi + k + 1)))] [(.int (1 : Int32)), (.int (Int32.ofNat (fi + k + 1))), (.ref r0)]))
    refine own_go (fun t_ k_ => XS.isub A0.here hx rfl (hb hby d10_90) rfl k_) ?_
    show own_Go _ _ _ _ (T0.setTop (mkF m 91 #[.val (.ref r0), .val (.int p1), .val (.int (Int32.ofNat t)), .val (.ref r3), .val (.int x4), .val (.int x5), .val (.int x6), .val (.int x7), .val (.int (Int32.ofNat fi)), .val (.int (Int32.ofNat (fi + k + 1)))] [(.int ((Int32.ofNat (fi + k + 1)) - (1 : Int32))), (.ref r0)]))
    rw [own_sub1 (fi + k)]
    show own_Go _ _ _ _ (T0.setTop (mkF m 91 #[.val (.ref r0), .val (.int p1), .val (.int (Int32.ofNat t)), .val (.ref r3), .val (.int x4), .val (.int x5), .val (.int x6), .val (.int x7), .val (.int (Int32.ofNat fi)), .val (.int (Int32.ofNat (fi + k + 1)))] [(.int (Int32.ofNat (fi + k))), (.ref r0)]))
    refine own_ldB A0 hx hZ V0 ⟨own_nn (by have := nb.toInt_lt; omega), by rw [Int32.lt_iff_toInt_lt, own_nI (by have := nb.toInt_lt; omega)]; omega⟩ rfl rfl (hb hby d10_91) ?_
    show own_Go _ _ _ _ (T0.setTop (mkF m 92 #[.val (.ref r0), .val (.int p1), .val (.int (Int32.ofNat t)), .val (.ref r3), .val (.int x4), .val (.int x5), .val (.int x6), .val (.int x7), .val (.int (Int32.ofNat fi)), .val (.int (Int32.ofNat (fi + k + 1)))] [(.int (fb (Int32.ofNat (fi + k))))]))
    refine own_callS A0 hx hZ hown (y := (⟨"com/example/indexloom/indexloom/data/DataHeader", "isBlank", "(B)Z"⟩ : MethodName)) (hw _ (List.mem_of_getElem? (i := 66) rfl)) (hw _ (List.mem_of_getElem? (i := 67) rfl)) (hw _ (List.mem_of_getElem? (i := 8) rfl)) (hw _ (List.mem_of_getElem? (i := 68) rfl)) (by decide) (argsL := [(.int (fb (Int32.ofNat (fi + k))))]) (rest := []) (rm11 l Z a0 hw (fb (Int32.ofNat (fi + k))) h0 n0 ) 0 (by decide) (by decide) rfl (by rw [hml]; rfl) (lenOf pd__B_Z rfl) rfl (by show 2 * 0 + _ ≤ _; exact Nat.le_of_eq rfl) (hb hby d10_92) (by decide) (by decide) (fun v17 T14 h16 A15 hQ18 => ?_)
    obtain ⟨rfl, rfl⟩ := hQ18
    show own_Go _ _ _ _ (T14.setTop (mkF m 95 #[.val (.ref r0), .val (.int p1), .val (.int (Int32.ofNat t)), .val (.ref r3), .val (.int x4), .val (.int x5), .val (.int x6), .val (.int x7), .val (.int (Int32.ofNat fi)), .val (.int (Int32.ofNat (fi + k + 1)))] [(.int (f11 (fb (Int32.ofNat (fi + k)))))]))
    by_cases hc19 : (f11 (fb (Int32.ofNat (fi + k)))) = (0 : Int32)
    ·
      refine own_go (fun t_ k_ => XS.ifYes A15.here hx rfl (pc0 := 95) (pc' := 104) rfl (hb hby d10_95) rfl ((if0 _ _).trans (teq hc19).1) (by decide) (by decide) k_) ?_
      show own_Go _ _ _ _ (T14.setTop (mkF m 104 #[.val (.ref r0), .val (.int p1), .val (.int (Int32.ofNat t)), .val (.ref r3), .val (.int x4), .val (.int x5), .val (.int x6), .val (.int x7), .val (.int (Int32.ofNat fi)), .val (.int (Int32.ofNat (fi + k + 1)))] []))
      rw [show own_last bl fi (k + 1) = fi + k + 1 by unfold own_last; rw [if_neg (fun q => (own_blank0 _).mp hc19 ((HC (fi + k) (by omega)).2.mpr q))]] at K
      exact K _ A15
    ·
      refine own_go (fun t_ k_ => XS.ifNo A15.here hx rfl (hb hby d10_95) rfl ((if0 _ _).trans (feq hc19).1) k_) ?_
      show own_Go _ _ _ _ (T14.setTop (mkF m 98 #[.val (.ref r0), .val (.int p1), .val (.int (Int32.ofNat t)), .val (.ref r3), .val (.int x4), .val (.int x5), .val (.int x6), .val (.int x7), .val (.int (Int32.ofNat fi)), .val (.int (Int32.ofNat (fi + k + 1)))] []))
      refine own_go (fun t_ k_ => XS.iinc A15.here hx rfl (hb hby d10_98) rfl (l' := #[.val (.ref r0), .val (.int p1), .val (.int (Int32.ofNat t)), .val (.ref r3), .val (.int x4), .val (.int x5), .val (.int x6), .val (.int x7), .val (.int (Int32.ofNat fi)), .val (.int ((Int32.ofNat (fi + k + 1)) + (-1 : Int32)))]) rfl k_) ?_
      show own_Go _ _ _ _ (T14.setTop (mkF m 101 #[.val (.ref r0), .val (.int p1), .val (.int (Int32.ofNat t)), .val (.ref r3), .val (.int x4), .val (.int x5), .val (.int x6), .val (.int x7), .val (.int (Int32.ofNat fi)), .val (.int ((Int32.ofNat (fi + k + 1)) + (-1 : Int32)))] []))
      refine own_go (fun t_ k_ => XS.goto A15.here hx rfl (pc0 := 101) (pc' := 79) rfl (hb hby d10_101) (by decide) (by decide) k_) ?_
      show own_Go _ _ _ _ (T14.setTop (mkF m 79 #[.val (.ref r0), .val (.int p1), .val (.int (Int32.ofNat t)), .val (.ref r3), .val (.int x4), .val (.int x5), .val (.int x6), .val (.int x7), .val (.int (Int32.ofNat fi)), .val (.int ((Int32.ofNat (fi + k + 1)) + (-1 : Int32)))] []))
      rw [show own_last bl fi (k + 1) = own_last bl fi k by rw [own_last]; rw [if_pos ((HC (fi + k) (by omega)).2.mp (Classical.not_not.mp fun q => hc19 ((own_blank0 _).mpr q)))]] at K
      rw [own_prd]
      exact ih _ A15 (by omega) K
theorem d10_122 : decode prog_13_method_11_code 122 = .ok (.iinc 4 1, 3) := by decide +kernel
theorem d10_125 : decode prog_13_method_11_code 125 = .ok (.iload 7, 2) := by decide +kernel
theorem d10_127 : decode prog_13_method_11_code 127 = .ok (.iload_n 2, 1) := by decide +kernel
theorem d10_128 : decode prog_13_method_11_code 128 = .ok (.if_icmp .ge 7, 3) := by decide +kernel
theorem d10_131 : decode prog_13_method_11_code 131 = .ok (.iconst 1, 1) := by decide +kernel
theorem d10_132 : decode prog_13_method_11_code 132 = .ok (.goto 4, 3) := by decide +kernel
theorem d10_136 : decode prog_13_method_11_code 136 = .ok (.istore 6, 2) := by decide +kernel
theorem d10_138 : decode prog_13_method_11_code 138 = .ok (.iload 7, 2) := by decide +kernel
theorem d10_140 : decode prog_13_method_11_code 140 = .ok (.iconst 1, 1) := by decide +kernel
theorem d10_141 : decode prog_13_method_11_code 141 = .ok (.iadd, 1) := by decide +kernel
theorem d10_142 : decode prog_13_method_11_code 142 = .ok (.istore 5, 2) := by decide +kernel
theorem d10_144 : decode prog_13_method_11_code 144 = .ok (.goto (-135), 3) := by decide +kernel
theorem d10_135 : decode prog_13_method_11_code 135 = .ok (.iconst 0, 1) := by decide +kernel
theorem d10_9 : decode prog_13_method_11_code 9 = .ok (.iload 6, 2) := by decide +kernel
theorem d10_11 : decode prog_13_method_11_code 11 = .ok (.ifCond .eq 136, 3) := by decide +kernel
theorem d10_147 : decode prog_13_method_11_code 147 = .ok (.iload 4, 2) := by decide +kernel
theorem d10_149 : decode prog_13_method_11_code 149 = .ok (.ireturn, 1) := by decide +kernel
theorem d10_14 : decode prog_13_method_11_code 14 = .ok (.iload 5, 2) := by decide +kernel
theorem d10_16 : decode prog_13_method_11_code 16 = .ok (.istore 7, 2) := by decide +kernel
theorem os10_16_vvvvvvvsss {z0 : Value} {z1 : Value} {z2 : Value} {z3 : Value} {z4 : Value} {z5 : Value} {z6 : Value} {s7 : Slot} {s8 : Slot} {s9 : Slot} {v : Int32} (h : One s7) : storeLocals #[.val z0, .val z1, .val z2, .val z3, .val z4, .val z5, .val z6, s7, s8, s9] 7 (.int v) = some #[.val z0, .val z1, .val z2, .val z3, .val z4, .val z5, .val z6, .val (.int v), s8, s9] := by
  rcases h with rfl | ⟨w, rfl, hw⟩
  · rfl
  · cases w <;> first | rfl | (simp [Value.category] at hw)
theorem d10_39 : decode prog_13_method_11_code 39 = .ok (.iconst 2, 1) := by decide +kernel
theorem d10_40 : decode prog_13_method_11_code 40 = .ok (.iload 4, 2) := by decide +kernel
theorem d10_42 : decode prog_13_method_11_code 42 = .ok (.imul, 1) := by decide +kernel
theorem d10_43 : decode prog_13_method_11_code 43 = .ok (.aload_n 3, 1) := by decide +kernel
theorem d10_44 : decode prog_13_method_11_code 44 = .ok (.arraylength, 1) := by decide +kernel
theorem d10_45 : decode prog_13_method_11_code 45 = .ok (.if_icmp .ge 77, 3) := by decide +kernel
theorem d10_48 : decode prog_13_method_11_code 48 = .ok (.iload 5, 2) := by decide +kernel
theorem d10_50 : decode prog_13_method_11_code 50 = .ok (.istore 8, 2) := by decide +kernel
theorem os10_50_vvvvvvvvss {z0 : Value} {z1 : Value} {z2 : Value} {z3 : Value} {z4 : Value} {z5 : Value} {z6 : Value} {z7 : Value} {s8 : Slot} {s9 : Slot} {v : Int32} (h : One s8) : storeLocals #[.val z0, .val z1, .val z2, .val z3, .val z4, .val z5, .val z6, .val z7, s8, s9] 8 (.int v) = some #[.val z0, .val z1, .val z2, .val z3, .val z4, .val z5, .val z6, .val z7, .val (.int v), s9] := by
  rcases h with rfl | ⟨w, rfl, hw⟩
  · rfl
  · cases w <;> first | rfl | (simp [Value.category] at hw)
theorem d10_52 : decode prog_13_method_11_code 52 = .ok (.iload 7, 2) := by decide +kernel
theorem d10_54 : decode prog_13_method_11_code 54 = .ok (.istore 9, 2) := by decide +kernel
theorem os10_54_vvvvvvvvvs {z0 : Value} {z1 : Value} {z2 : Value} {z3 : Value} {z4 : Value} {z5 : Value} {z6 : Value} {z7 : Value} {z8 : Value} {s9 : Slot} {v : Int32} (h : One s9) : storeLocals #[.val z0, .val z1, .val z2, .val z3, .val z4, .val z5, .val z6, .val z7, .val z8, s9] 9 (.int v) = some #[.val z0, .val z1, .val z2, .val z3, .val z4, .val z5, .val z6, .val z7, .val z8, .val (.int v)] := by
  rcases h with rfl | ⟨w, rfl, hw⟩
  · rfl
  · cases w <;> first | rfl | (simp [Value.category] at hw)
theorem d10_104 : decode prog_13_method_11_code 104 = .ok (.aload_n 3, 1) := by decide +kernel
theorem d10_105 : decode prog_13_method_11_code 105 = .ok (.iconst 2, 1) := by decide +kernel
theorem d10_106 : decode prog_13_method_11_code 106 = .ok (.iload 4, 2) := by decide +kernel
theorem d10_108 : decode prog_13_method_11_code 108 = .ok (.imul, 1) := by decide +kernel
theorem d10_109 : decode prog_13_method_11_code 109 = .ok (.iload 8, 2) := by decide +kernel
theorem d10_111 : decode prog_13_method_11_code 111 = .ok (.iastore, 1) := by decide +kernel
theorem d10_112 : decode prog_13_method_11_code 112 = .ok (.aload_n 3, 1) := by decide +kernel
theorem d10_113 : decode prog_13_method_11_code 113 = .ok (.iconst 2, 1) := by decide +kernel
theorem d10_114 : decode prog_13_method_11_code 114 = .ok (.iload 4, 2) := by decide +kernel
theorem d10_116 : decode prog_13_method_11_code 116 = .ok (.imul, 1) := by decide +kernel
theorem d10_117 : decode prog_13_method_11_code 117 = .ok (.iconst 1, 1) := by decide +kernel
theorem d10_118 : decode prog_13_method_11_code 118 = .ok (.iadd, 1) := by decide +kernel
theorem d10_119 : decode prog_13_method_11_code 119 = .ok (.iload 9, 2) := by decide +kernel
theorem d10_121 : decode prog_13_method_11_code 121 = .ok (.iastore, 1) := by decide +kernel
set_option maxRecDepth 65536 in
set_option maxHeartbeats 40000000 in
theorem own_lpO {p : Program} {l : Launch} {e : Env} {s : State} {m : MethodId} {args : Array Value} {below : List Frame} {meth : Method} {c : Code} {Z : State} {a0 : Array Value} {n0 : Nat} (hx : p.tables.exec = Jvm.exec) (hby : c.code = prog_13_method_11_code) (hml : c.maxLocals = 10) (hown : s.vm.findClass "com/example/indexloom/indexloom/data/DataHeader" = some m.cls) (hret : meth.sig.returnType = some .int) (hlk : meth.locks = false) (hZ : Z.Warmed39 s.vm) (hw : ∀ d ∈ tables_1, d.before a0 Z = true) (r0 r3 : Addr) (p1 : Int32) (t q : Nat) (nb : Int32) (fb fl : Int32 → Int32) (cm bl : Nat → Bool) {h0 : Heap} (ht : (t : Int) ≤ nb.toInt) (htb : t < 2 ^ 29) (HC : own_Cls cm bl t fb) (hq : 2 * q < 2 ^ 30) (ne : r0 ≠ r3) (g3 : n0 ≤ r3) :
    ∀ (k st : Nat) (fs : List (Nat × Nat)) (h : Heap) (cc : Int32 → Int32) (s7 s8 s9 : Slot) (T0 : State), own_At p l e ({ frames := 1, cells := 0, slots := 0, locals := 12 } : Room) s m args below meth c n0 T0 h 0 0 → t - st < k → st ≤ t → fs.length ≤ st → One s7 → One s8 → One s9 → own_Arr Z h r0 .byte nb fb → own_Arr Z h r3 .int (Int32.ofNat (2 * q)) cc → own_Bd q fs fl cc → Keep h0 h [r3] →
      own_Go p.tables e below (own_End n0 s 0 0 (fun v h => v = some (.int (Int32.ofNat (fs ++ own_fields cm bl t k st).length)) ∧ Keep h0 h [r3] ∧ ∃ c, own_Arr Z h r3 .int (Int32.ofNat (2 * q)) c ∧ own_Bd q (fs ++ own_fields cm bl t k st) fl c)) (T0.setTop (mkF m 9 #[.val (.ref r0), .val (.int p1), .val (.int (Int32.ofNat t)), .val (.ref r3), .val (.int (Int32.ofNat fs.length)), .val (.int (Int32.ofNat st)), .val (.int (1 : Int32)), s7, s8, s9] [])) := by
  intro k
  induction k with
  | zero => intro st fs h cc s7 s8 s9 T0 A0 h1; omega
  | succ k ih =>
    intro st fs h cc s7 s8 s9 T0 A0 h1 h2 h3 o7 o8 o9 V0 V3 B3 KP
    have htn := nb.toInt_lt
    have hen := own_end_le (cm := cm) (t - st) st rfl h2
    generalize hE : own_end cm t (t - st) st = en at hen
    have tail : ∀ (T0 : State) (h : Heap) (cc : Int32 → Int32) (x : Nat × Nat) (s8 s9 : Slot), own_At p l e ({ frames := 1, cells := 0, slots := 0, locals := 12 } : Room) s m args below meth c n0 T0 h 0 0 → One s8 → One s9 → own_Arr Z h r0 .byte nb fb → own_Arr Z h r3 .int (Int32.ofNat (2 * q)) cc → own_Bd q (fs ++ [x]) fl cc → Keep h0 h [r3] → own_fields cm bl t (k + 1) st = x :: (if en < t then own_fields cm bl t k (en + 1) else []) → own_Go p.tables e below (own_End n0 s 0 0 (fun v h => v = some (.int (Int32.ofNat (fs ++ own_fields cm bl t (k + 1) st).length)) ∧ Keep h0 h [r3] ∧ ∃ c, own_Arr Z h r3 .int (Int32.ofNat (2 * q)) c ∧ own_Bd q (fs ++ own_fields cm bl t (k + 1) st) fl c)) (T0.setTop (mkF m 122 #[.val (.ref r0), .val (.int p1), .val (.int (Int32.ofNat t)), .val (.ref r3), .val (.int (Int32.ofNat fs.length)), .val (.int (Int32.ofNat st)), .val (.int (1 : Int32)), .val (.int (Int32.ofNat en)), s8, s9] [])) := by
      intro T0 h cc x s8 s9 A0 o8 o9 V0 V3 B3 KP hx1
      rw [hx1]
      show own_Go _ _ _ _ (T0.setTop (mkF m 122 #[.val (.ref r0), .val (.int p1), .val (.int (Int32.ofNat t)), .val (.ref r3), .val (.int (Int32.ofNat fs.length)), .val (.int (Int32.ofNat st)), .val (.int (1 : Int32)), .val (.int (Int32.ofNat en)), s8, s9] []))
      by_cases hlt : en < t
      ·
        rw [if_pos hlt]
        refine own_go (fun t_ k_ => XS.iinc A0.here hx rfl (hb hby d10_122) rfl (l' := #[.val (.ref r0), .val (.int p1), .val (.int (Int32.ofNat t)), .val (.ref r3), .val (.int ((Int32.ofNat fs.length) + (1 : Int32))), .val (.int (Int32.ofNat st)), .val (.int (1 : Int32)), .val (.int (Int32.ofNat en)), s8, s9]) rfl k_) ?_
        show own_Go _ _ _ _ (T0.setTop (mkF m 125 #[.val (.ref r0), .val (.int p1), .val (.int (Int32.ofNat t)), .val (.ref r3), .val (.int ((Int32.ofNat fs.length) + (1 : Int32))), .val (.int (Int32.ofNat st)), .val (.int (1 : Int32)), .val (.int (Int32.ofNat en)), s8, s9] []))
        refine own_go (fun t_ k_ => XS.iload A0.here hx rfl (hb hby d10_125) rfl k_) ?_
        show own_Go _ _ _ _ (T0.setTop (mkF m 127 #[.val (.ref r0), .val (.int p1), .val (.int (Int32.ofNat t)), .val (.ref r3), .val (.int ((Int32.ofNat fs.length) + (1 : Int32))), .val (.int (Int32.ofNat st)), .val (.int (1 : Int32)), .val (.int (Int32.ofNat en)), s8, s9] [(.int (Int32.ofNat en))]))
        refine own_go (fun t_ k_ => XS.iloadN A0.here hx rfl (hb hby d10_127) rfl k_) ?_
        show own_Go _ _ _ _ (T0.setTop (mkF m 128 #[.val (.ref r0), .val (.int p1), .val (.int (Int32.ofNat t)), .val (.ref r3), .val (.int ((Int32.ofNat fs.length) + (1 : Int32))), .val (.int (Int32.ofNat st)), .val (.int (1 : Int32)), .val (.int (Int32.ofNat en)), s8, s9] [(.int (Int32.ofNat t)), (.int (Int32.ofNat en))]))
        have hc20 : (Int32.ofNat en) < (Int32.ofNat t) := (own_nlt (by omega) (by omega)).mpr hlt
        refine own_go (fun t_ k_ => XS.icmpNo A0.here hx rfl (hb hby d10_128) rfl (tlt hc20).2.1 k_) ?_
        show own_Go _ _ _ _ (T0.setTop (mkF m 131 #[.val (.ref r0), .val (.int p1), .val (.int (Int32.ofNat t)), .val (.ref r3), .val (.int ((Int32.ofNat fs.length) + (1 : Int32))), .val (.int (Int32.ofNat st)), .val (.int (1 : Int32)), .val (.int (Int32.ofNat en)), s8, s9] []))
        refine own_go (fun t_ k_ => XS.iconst A0.here hx rfl (hb hby d10_131) k_) ?_
        show own_Go _ _ _ _ (T0.setTop (mkF m 132 #[.val (.ref r0), .val (.int p1), .val (.int (Int32.ofNat t)), .val (.ref r3), .val (.int ((Int32.ofNat fs.length) + (1 : Int32))), .val (.int (Int32.ofNat st)), .val (.int (1 : Int32)), .val (.int (Int32.ofNat en)), s8, s9] [(.int (1 : Int32))]))
        refine own_go (fun t_ k_ => XS.goto A0.here hx rfl (pc0 := 132) (pc' := 136) rfl (hb hby d10_132) (by decide) (by decide) k_) ?_
        show own_Go _ _ _ _ (T0.setTop (mkF m 136 #[.val (.ref r0), .val (.int p1), .val (.int (Int32.ofNat t)), .val (.ref r3), .val (.int ((Int32.ofNat fs.length) + (1 : Int32))), .val (.int (Int32.ofNat st)), .val (.int (1 : Int32)), .val (.int (Int32.ofNat en)), s8, s9] [(.int (1 : Int32))]))
        refine own_go (fun t_ k_ => XS.istore A0.here hx rfl (hb hby d10_136) rfl (l' := #[.val (.ref r0), .val (.int p1), .val (.int (Int32.ofNat t)), .val (.ref r3), .val (.int ((Int32.ofNat fs.length) + (1 : Int32))), .val (.int (Int32.ofNat st)), .val (.int (1 : Int32)), .val (.int (Int32.ofNat en)), s8, s9]) rfl k_) ?_
        show own_Go _ _ _ _ (T0.setTop (mkF m 138 #[.val (.ref r0), .val (.int p1), .val (.int (Int32.ofNat t)), .val (.ref r3), .val (.int ((Int32.ofNat fs.length) + (1 : Int32))), .val (.int (Int32.ofNat st)), .val (.int (1 : Int32)), .val (.int (Int32.ofNat en)), s8, s9] []))
        refine own_go (fun t_ k_ => XS.iload A0.here hx rfl (hb hby d10_138) rfl k_) ?_
        show own_Go _ _ _ _ (T0.setTop (mkF m 140 #[.val (.ref r0), .val (.int p1), .val (.int (Int32.ofNat t)), .val (.ref r3), .val (.int ((Int32.ofNat fs.length) + (1 : Int32))), .val (.int (Int32.ofNat st)), .val (.int (1 : Int32)), .val (.int (Int32.ofNat en)), s8, s9] [(.int (Int32.ofNat en))]))
        refine own_go (fun t_ k_ => XS.iconst A0.here hx rfl (hb hby d10_140) k_) ?_
        show own_Go _ _ _ _ (T0.setTop (mkF m 141 #[.val (.ref r0), .val (.int p1), .val (.int (Int32.ofNat t)), .val (.ref r3), .val (.int ((Int32.ofNat fs.length) + (1 : Int32))), .val (.int (Int32.ofNat st)), .val (.int (1 : Int32)), .val (.int (Int32.ofNat en)), s8, s9] [(.int (1 : Int32)), (.int (Int32.ofNat en))]))
        refine own_go (fun t_ k_ => XS.iadd A0.here hx rfl (hb hby d10_141) rfl k_) ?_
        show own_Go _ _ _ _ (T0.setTop (mkF m 142 #[.val (.ref r0), .val (.int p1), .val (.int (Int32.ofNat t)), .val (.ref r3), .val (.int ((Int32.ofNat fs.length) + (1 : Int32))), .val (.int (Int32.ofNat st)), .val (.int (1 : Int32)), .val (.int (Int32.ofNat en)), s8, s9] [(.int ((Int32.ofNat en) + (1 : Int32)))]))
        refine own_go (fun t_ k_ => XS.istore A0.here hx rfl (hb hby d10_142) rfl (l' := #[.val (.ref r0), .val (.int p1), .val (.int (Int32.ofNat t)), .val (.ref r3), .val (.int ((Int32.ofNat fs.length) + (1 : Int32))), .val (.int ((Int32.ofNat en) + (1 : Int32))), .val (.int (1 : Int32)), .val (.int (Int32.ofNat en)), s8, s9]) rfl k_) ?_
        show own_Go _ _ _ _ (T0.setTop (mkF m 144 #[.val (.ref r0), .val (.int p1), .val (.int (Int32.ofNat t)), .val (.ref r3), .val (.int ((Int32.ofNat fs.length) + (1 : Int32))), .val (.int ((Int32.ofNat en) + (1 : Int32))), .val (.int (1 : Int32)), .val (.int (Int32.ofNat en)), s8, s9] []))
        refine own_go (fun t_ k_ => XS.goto A0.here hx rfl (pc0 := 144) (pc' := 9) rfl (hb hby d10_144) (by decide) (by decide) k_) ?_
        show own_Go _ _ _ _ (T0.setTop (mkF m 9 #[.val (.ref r0), .val (.int p1), .val (.int (Int32.ofNat t)), .val (.ref r3), .val (.int ((Int32.ofNat fs.length) + (1 : Int32))), .val (.int ((Int32.ofNat en) + (1 : Int32))), .val (.int (1 : Int32)), .val (.int (Int32.ofNat en)), s8, s9] []))
        rw [own_succ, own_succ]
        have e1 : fs ++ x :: own_fields cm bl t k (en + 1) = (fs ++ [x]) ++ own_fields cm bl t k (en + 1) := by simp
        have e2 : fs.length + 1 = (fs ++ [x]).length := by simp
        rw [e1, e2]
        exact ih (en + 1) (fs ++ [x]) h cc _ s8 s9 _ A0 (by omega) (by omega) (by simp; omega) (One.val rfl) o8 o9 V0 V3 B3 KP
      ·
        rw [if_neg hlt]
        refine own_go (fun t_ k_ => XS.iinc A0.here hx rfl (hb hby d10_122) rfl (l' := #[.val (.ref r0), .val (.int p1), .val (.int (Int32.ofNat t)), .val (.ref r3), .val (.int ((Int32.ofNat fs.length) + (1 : Int32))), .val (.int (Int32.ofNat st)), .val (.int (1 : Int32)), .val (.int (Int32.ofNat en)), s8, s9]) rfl k_) ?_
        show own_Go _ _ _ _ (T0.setTop (mkF m 125 #[.val (.ref r0), .val (.int p1), .val (.int (Int32.ofNat t)), .val (.ref r3), .val (.int ((Int32.ofNat fs.length) + (1 : Int32))), .val (.int (Int32.ofNat st)), .val (.int (1 : Int32)), .val (.int (Int32.ofNat en)), s8, s9] []))
        refine own_go (fun t_ k_ => XS.iload A0.here hx rfl (hb hby d10_125) rfl k_) ?_
        show own_Go _ _ _ _ (T0.setTop (mkF m 127 #[.val (.ref r0), .val (.int p1), .val (.int (Int32.ofNat t)), .val (.ref r3), .val (.int ((Int32.ofNat fs.length) + (1 : Int32))), .val (.int (Int32.ofNat st)), .val (.int (1 : Int32)), .val (.int (Int32.ofNat en)), s8, s9] [(.int (Int32.ofNat en))]))
        refine own_go (fun t_ k_ => XS.iloadN A0.here hx rfl (hb hby d10_127) rfl k_) ?_
        show own_Go _ _ _ _ (T0.setTop (mkF m 128 #[.val (.ref r0), .val (.int p1), .val (.int (Int32.ofNat t)), .val (.ref r3), .val (.int ((Int32.ofNat fs.length) + (1 : Int32))), .val (.int (Int32.ofNat st)), .val (.int (1 : Int32)), .val (.int (Int32.ofNat en)), s8, s9] [(.int (Int32.ofNat t)), (.int (Int32.ofNat en))]))
        have hc21 : ¬ ((Int32.ofNat en) < (Int32.ofNat t)) := fun q => hlt ((own_nlt (by omega) (by omega)).mp q)
        refine own_go (fun t_ k_ => XS.icmpYes A0.here hx rfl (pc0 := 128) (pc' := 135) rfl (hb hby d10_128) rfl (flt hc21).2.1 (by decide) (by decide) k_) ?_
        show own_Go _ _ _ _ (T0.setTop (mkF m 135 #[.val (.ref r0), .val (.int p1), .val (.int (Int32.ofNat t)), .val (.ref r3), .val (.int ((Int32.ofNat fs.length) + (1 : Int32))), .val (.int (Int32.ofNat st)), .val (.int (1 : Int32)), .val (.int (Int32.ofNat en)), s8, s9] []))
        refine own_go (fun t_ k_ => XS.iconst A0.here hx rfl (hb hby d10_135) k_) ?_
        show own_Go _ _ _ _ (T0.setTop (mkF m 136 #[.val (.ref r0), .val (.int p1), .val (.int (Int32.ofNat t)), .val (.ref r3), .val (.int ((Int32.ofNat fs.length) + (1 : Int32))), .val (.int (Int32.ofNat st)), .val (.int (1 : Int32)), .val (.int (Int32.ofNat en)), s8, s9] [(.int (0 : Int32))]))
        refine own_go (fun t_ k_ => XS.istore A0.here hx rfl (hb hby d10_136) rfl (l' := #[.val (.ref r0), .val (.int p1), .val (.int (Int32.ofNat t)), .val (.ref r3), .val (.int ((Int32.ofNat fs.length) + (1 : Int32))), .val (.int (Int32.ofNat st)), .val (.int (0 : Int32)), .val (.int (Int32.ofNat en)), s8, s9]) rfl k_) ?_
        show own_Go _ _ _ _ (T0.setTop (mkF m 138 #[.val (.ref r0), .val (.int p1), .val (.int (Int32.ofNat t)), .val (.ref r3), .val (.int ((Int32.ofNat fs.length) + (1 : Int32))), .val (.int (Int32.ofNat st)), .val (.int (0 : Int32)), .val (.int (Int32.ofNat en)), s8, s9] []))
        refine own_go (fun t_ k_ => XS.iload A0.here hx rfl (hb hby d10_138) rfl k_) ?_
        show own_Go _ _ _ _ (T0.setTop (mkF m 140 #[.val (.ref r0), .val (.int p1), .val (.int (Int32.ofNat t)), .val (.ref r3), .val (.int ((Int32.ofNat fs.length) + (1 : Int32))), .val (.int (Int32.ofNat st)), .val (.int (0 : Int32)), .val (.int (Int32.ofNat en)), s8, s9] [(.int (Int32.ofNat en))]))
        refine own_go (fun t_ k_ => XS.iconst A0.here hx rfl (hb hby d10_140) k_) ?_
        show own_Go _ _ _ _ (T0.setTop (mkF m 141 #[.val (.ref r0), .val (.int p1), .val (.int (Int32.ofNat t)), .val (.ref r3), .val (.int ((Int32.ofNat fs.length) + (1 : Int32))), .val (.int (Int32.ofNat st)), .val (.int (0 : Int32)), .val (.int (Int32.ofNat en)), s8, s9] [(.int (1 : Int32)), (.int (Int32.ofNat en))]))
        refine own_go (fun t_ k_ => XS.iadd A0.here hx rfl (hb hby d10_141) rfl k_) ?_
        show own_Go _ _ _ _ (T0.setTop (mkF m 142 #[.val (.ref r0), .val (.int p1), .val (.int (Int32.ofNat t)), .val (.ref r3), .val (.int ((Int32.ofNat fs.length) + (1 : Int32))), .val (.int (Int32.ofNat st)), .val (.int (0 : Int32)), .val (.int (Int32.ofNat en)), s8, s9] [(.int ((Int32.ofNat en) + (1 : Int32)))]))
        refine own_go (fun t_ k_ => XS.istore A0.here hx rfl (hb hby d10_142) rfl (l' := #[.val (.ref r0), .val (.int p1), .val (.int (Int32.ofNat t)), .val (.ref r3), .val (.int ((Int32.ofNat fs.length) + (1 : Int32))), .val (.int ((Int32.ofNat en) + (1 : Int32))), .val (.int (0 : Int32)), .val (.int (Int32.ofNat en)), s8, s9]) rfl k_) ?_
        show own_Go _ _ _ _ (T0.setTop (mkF m 144 #[.val (.ref r0), .val (.int p1), .val (.int (Int32.ofNat t)), .val (.ref r3), .val (.int ((Int32.ofNat fs.length) + (1 : Int32))), .val (.int ((Int32.ofNat en) + (1 : Int32))), .val (.int (0 : Int32)), .val (.int (Int32.ofNat en)), s8, s9] []))
        refine own_go (fun t_ k_ => XS.goto A0.here hx rfl (pc0 := 144) (pc' := 9) rfl (hb hby d10_144) (by decide) (by decide) k_) ?_
        show own_Go _ _ _ _ (T0.setTop (mkF m 9 #[.val (.ref r0), .val (.int p1), .val (.int (Int32.ofNat t)), .val (.ref r3), .val (.int ((Int32.ofNat fs.length) + (1 : Int32))), .val (.int ((Int32.ofNat en) + (1 : Int32))), .val (.int (0 : Int32)), .val (.int (Int32.ofNat en)), s8, s9] []))
        refine own_go (fun t_ k_ => XS.iload A0.here hx rfl (hb hby d10_9) rfl k_) ?_
        show own_Go _ _ _ _ (T0.setTop (mkF m 11 #[.val (.ref r0), .val (.int p1), .val (.int (Int32.ofNat t)), .val (.ref r3), .val (.int ((Int32.ofNat fs.length) + (1 : Int32))), .val (.int ((Int32.ofNat en) + (1 : Int32))), .val (.int (0 : Int32)), .val (.int (Int32.ofNat en)), s8, s9] [(.int (0 : Int32))]))
        have hc22 : (0 : Int32) = (0 : Int32) := rfl
        refine own_go (fun t_ k_ => XS.ifYes A0.here hx rfl (pc0 := 11) (pc' := 147) rfl (hb hby d10_11) rfl ((if0 _ _).trans (teq hc22).1) (by decide) (by decide) k_) ?_
        show own_Go _ _ _ _ (T0.setTop (mkF m 147 #[.val (.ref r0), .val (.int p1), .val (.int (Int32.ofNat t)), .val (.ref r3), .val (.int ((Int32.ofNat fs.length) + (1 : Int32))), .val (.int ((Int32.ofNat en) + (1 : Int32))), .val (.int (0 : Int32)), .val (.int (Int32.ofNat en)), s8, s9] []))
        refine own_go (fun t_ k_ => XS.iload A0.here hx rfl (hb hby d10_147) rfl k_) ?_
        show own_Go _ _ _ _ (T0.setTop (mkF m 149 #[.val (.ref r0), .val (.int p1), .val (.int (Int32.ofNat t)), .val (.ref r3), .val (.int ((Int32.ofNat fs.length) + (1 : Int32))), .val (.int ((Int32.ofNat en) + (1 : Int32))), .val (.int (0 : Int32)), .val (.int (Int32.ofNat en)), s8, s9] [(.int ((Int32.ofNat fs.length) + (1 : Int32)))]))
        refine own_retI A0 hx hret hlk (by decide) (by decide) (hb hby d10_149) ?_
        rw [own_succ]
        have e2 : fs.length + 1 = (fs ++ [x]).length := by simp
        rw [e2]
        exact ⟨rfl, KP, cc, V3, B3⟩
    show own_Go _ _ _ _ (T0.setTop (mkF m 9 #[.val (.ref r0), .val (.int p1), .val (.int (Int32.ofNat t)), .val (.ref r3), .val (.int (Int32.ofNat fs.length)), .val (.int (Int32.ofNat st)), .val (.int (1 : Int32)), s7, s8, s9] []))
    refine own_go (fun t_ k_ => XS.iload A0.here hx rfl (hb hby d10_9) rfl k_) ?_
    show own_Go _ _ _ _ (T0.setTop (mkF m 11 #[.val (.ref r0), .val (.int p1), .val (.int (Int32.ofNat t)), .val (.ref r3), .val (.int (Int32.ofNat fs.length)), .val (.int (Int32.ofNat st)), .val (.int (1 : Int32)), s7, s8, s9] [(.int (1 : Int32))]))
    have hc23 : ¬ ((1 : Int32) = (0 : Int32)) := (by decide)
    refine own_go (fun t_ k_ => XS.ifNo A0.here hx rfl (hb hby d10_11) rfl ((if0 _ _).trans (feq hc23).1) k_) ?_
    show own_Go _ _ _ _ (T0.setTop (mkF m 14 #[.val (.ref r0), .val (.int p1), .val (.int (Int32.ofNat t)), .val (.ref r3), .val (.int (Int32.ofNat fs.length)), .val (.int (Int32.ofNat st)), .val (.int (1 : Int32)), s7, s8, s9] []))
    refine own_go (fun t_ k_ => XS.iload A0.here hx rfl (hb hby d10_14) rfl k_) ?_
    show own_Go _ _ _ _ (T0.setTop (mkF m 16 #[.val (.ref r0), .val (.int p1), .val (.int (Int32.ofNat t)), .val (.ref r3), .val (.int (Int32.ofNat fs.length)), .val (.int (Int32.ofNat st)), .val (.int (1 : Int32)), s7, s8, s9] [(.int (Int32.ofNat st))]))
    refine own_go (fun t_ k_ => XS.istore A0.here hx rfl (hb hby d10_16) rfl (l' := #[.val (.ref r0), .val (.int p1), .val (.int (Int32.ofNat t)), .val (.ref r3), .val (.int (Int32.ofNat fs.length)), .val (.int (Int32.ofNat st)), .val (.int (1 : Int32)), .val (.int (Int32.ofNat st)), s8, s9]) (os10_16_vvvvvvvsss o7) k_) ?_
    show own_Go _ _ _ _ (T0.setTop (mkF m 18 #[.val (.ref r0), .val (.int p1), .val (.int (Int32.ofNat t)), .val (.ref r3), .val (.int (Int32.ofNat fs.length)), .val (.int (Int32.ofNat st)), .val (.int (1 : Int32)), .val (.int (Int32.ofNat st)), s8, s9] []))
    refine own_lpA hx hby hml hown hret hlk hZ hw r0 r3 p1 _ _ _ t nb fb cm bl V0 ht HC A0 (t - st) st rfl h2 ?_
    rw [hE]
    show own_Go _ _ _ _ (T0.setTop (mkF m 39 #[.val (.ref r0), .val (.int p1), .val (.int (Int32.ofNat t)), .val (.ref r3), .val (.int (Int32.ofNat fs.length)), .val (.int (Int32.ofNat st)), .val (.int (1 : Int32)), .val (.int (Int32.ofNat en)), s8, s9] []))
    refine own_go (fun t_ k_ => XS.iconst A0.here hx rfl (hb hby d10_39) k_) ?_
    show own_Go _ _ _ _ (T0.setTop (mkF m 40 #[.val (.ref r0), .val (.int p1), .val (.int (Int32.ofNat t)), .val (.ref r3), .val (.int (Int32.ofNat fs.length)), .val (.int (Int32.ofNat st)), .val (.int (1 : Int32)), .val (.int (Int32.ofNat en)), s8, s9] [(.int (2 : Int32))]))
    refine own_go (fun t_ k_ => XS.iload A0.here hx rfl (hb hby d10_40) rfl k_) ?_
    show own_Go _ _ _ _ (T0.setTop (mkF m 42 #[.val (.ref r0), .val (.int p1), .val (.int (Int32.ofNat t)), .val (.ref r3), .val (.int (Int32.ofNat fs.length)), .val (.int (Int32.ofNat st)), .val (.int (1 : Int32)), .val (.int (Int32.ofNat en)), s8, s9] [(.int (Int32.ofNat fs.length)), (.int (2 : Int32))]))
    refine own_go (fun t_ k_ => XS.imul A0.here hx rfl (hb hby d10_42) rfl k_) ?_
    show own_Go _ _ _ _ (T0.setTop (mkF m 43 #[.val (.ref r0), .val (.int p1), .val (.int (Int32.ofNat t)), .val (.ref r3), .val (.int (Int32.ofNat fs.length)), .val (.int (Int32.ofNat st)), .val (.int (1 : Int32)), .val (.int (Int32.ofNat en)), s8, s9] [(.int ((2 : Int32) * (Int32.ofNat fs.length)))]))
    refine own_go (fun t_ k_ => XS.aloadN A0.here hx rfl (hb hby d10_43) rfl rfl k_) ?_
    show own_Go _ _ _ _ (T0.setTop (mkF m 44 #[.val (.ref r0), .val (.int p1), .val (.int (Int32.ofNat t)), .val (.ref r3), .val (.int (Int32.ofNat fs.length)), .val (.int (Int32.ofNat st)), .val (.int (1 : Int32)), .val (.int (Int32.ofNat en)), s8, s9] [(.ref r3), (.int ((2 : Int32) * (Int32.ofNat fs.length)))]))
    refine own_len A0 hx hZ V3 rfl rfl (hb hby d10_44) ?_
    show own_Go _ _ _ _ (T0.setTop (mkF m 45 #[.val (.ref r0), .val (.int p1), .val (.int (Int32.ofNat t)), .val (.ref r3), .val (.int (Int32.ofNat fs.length)), .val (.int (Int32.ofNat st)), .val (.int (1 : Int32)), .val (.int (Int32.ofNat en)), s8, s9] [(.int (Int32.ofNat (2 * q))), (.int ((2 : Int32) * (Int32.ofNat fs.length)))]))
    rw [own_dbl]
    show own_Go _ _ _ _ (T0.setTop (mkF m 45 #[.val (.ref r0), .val (.int p1), .val (.int (Int32.ofNat t)), .val (.ref r3), .val (.int (Int32.ofNat fs.length)), .val (.int (Int32.ofNat st)), .val (.int (1 : Int32)), .val (.int (Int32.ofNat en)), s8, s9] [(.int (Int32.ofNat (2 * q))), (.int (Int32.ofNat (2 * fs.length)))]))
    by_cases hroom0 : (Int32.ofNat (2 * fs.length)) < (Int32.ofNat (2 * q))
    ·
      refine own_go (fun t_ k_ => XS.icmpNo A0.here hx rfl (hb hby d10_45) rfl (tlt hroom0).2.1 k_) ?_
      show own_Go _ _ _ _ (T0.setTop (mkF m 48 #[.val (.ref r0), .val (.int p1), .val (.int (Int32.ofNat t)), .val (.ref r3), .val (.int (Int32.ofNat fs.length)), .val (.int (Int32.ofNat st)), .val (.int (1 : Int32)), .val (.int (Int32.ofNat en)), s8, s9] []))
      refine own_go (fun t_ k_ => XS.iload A0.here hx rfl (hb hby d10_48) rfl k_) ?_
      show own_Go _ _ _ _ (T0.setTop (mkF m 50 #[.val (.ref r0), .val (.int p1), .val (.int (Int32.ofNat t)), .val (.ref r3), .val (.int (Int32.ofNat fs.length)), .val (.int (Int32.ofNat st)), .val (.int (1 : Int32)), .val (.int (Int32.ofNat en)), s8, s9] [(.int (Int32.ofNat st))]))
      refine own_go (fun t_ k_ => XS.istore A0.here hx rfl (hb hby d10_50) rfl (l' := #[.val (.ref r0), .val (.int p1), .val (.int (Int32.ofNat t)), .val (.ref r3), .val (.int (Int32.ofNat fs.length)), .val (.int (Int32.ofNat st)), .val (.int (1 : Int32)), .val (.int (Int32.ofNat en)), .val (.int (Int32.ofNat st)), s9]) (os10_50_vvvvvvvvss o8) k_) ?_
      show own_Go _ _ _ _ (T0.setTop (mkF m 52 #[.val (.ref r0), .val (.int p1), .val (.int (Int32.ofNat t)), .val (.ref r3), .val (.int (Int32.ofNat fs.length)), .val (.int (Int32.ofNat st)), .val (.int (1 : Int32)), .val (.int (Int32.ofNat en)), .val (.int (Int32.ofNat st)), s9] []))
      refine own_go (fun t_ k_ => XS.iload A0.here hx rfl (hb hby d10_52) rfl k_) ?_
      show own_Go _ _ _ _ (T0.setTop (mkF m 54 #[.val (.ref r0), .val (.int p1), .val (.int (Int32.ofNat t)), .val (.ref r3), .val (.int (Int32.ofNat fs.length)), .val (.int (Int32.ofNat st)), .val (.int (1 : Int32)), .val (.int (Int32.ofNat en)), .val (.int (Int32.ofNat st)), s9] [(.int (Int32.ofNat en))]))
      refine own_go (fun t_ k_ => XS.istore A0.here hx rfl (hb hby d10_54) rfl (l' := #[.val (.ref r0), .val (.int p1), .val (.int (Int32.ofNat t)), .val (.ref r3), .val (.int (Int32.ofNat fs.length)), .val (.int (Int32.ofNat st)), .val (.int (1 : Int32)), .val (.int (Int32.ofNat en)), .val (.int (Int32.ofNat st)), .val (.int (Int32.ofNat en))]) (os10_54_vvvvvvvvvs o9) k_) ?_
      show own_Go _ _ _ _ (T0.setTop (mkF m 56 #[.val (.ref r0), .val (.int p1), .val (.int (Int32.ofNat t)), .val (.ref r3), .val (.int (Int32.ofNat fs.length)), .val (.int (Int32.ofNat st)), .val (.int (1 : Int32)), .val (.int (Int32.ofNat en)), .val (.int (Int32.ofNat st)), .val (.int (Int32.ofNat en))] []))
      have hroom : fs.length < q := by have := (own_nlt (by omega) (by omega)).mp hroom0; omega
      have hfi := own_first_le (bl := bl) (en - st) st
      refine own_lpB hx hby hml hown hret hlk hZ hw r0 r3 p1 _ _ _ t nb fb cm bl V0 ht HC _ en hen.2 (en - st) st _ A0 rfl hen.1 (fun T4 A4 => ?_)
      generalize hF : own_first bl (en - st) st = fi at hfi
      show own_Go _ _ _ _ (T4.setTop (mkF m 79 #[.val (.ref r0), .val (.int p1), .val (.int (Int32.ofNat t)), .val (.ref r3), .val (.int (Int32.ofNat fs.length)), .val (.int (Int32.ofNat st)), .val (.int (1 : Int32)), .val (.int (Int32.ofNat en)), .val (.int (Int32.ofNat fi)), .val (.int (Int32.ofNat en))] []))
      have ela : fi + (en - fi) = en := by omega
      have hla := own_last_le (bl := bl) (fi := fi) (en - fi)
      suffices hs : own_Go p.tables e below (own_End n0 s 0 0 (fun v h => v = some (.int (Int32.ofNat (fs ++ own_fields cm bl t (k + 1) st).length)) ∧ Keep h0 h [r3] ∧ ∃ c, own_Arr Z h r3 .int (Int32.ofNat (2 * q)) c ∧ own_Bd q (fs ++ own_fields cm bl t (k + 1) st) fl c)) (T4.setTop (mkF m 79 #[.val (.ref r0), .val (.int p1), .val (.int (Int32.ofNat t)), .val (.ref r3), .val (.int (Int32.ofNat fs.length)), .val (.int (Int32.ofNat st)), .val (.int (1 : Int32)), .val (.int (Int32.ofNat en)), .val (.int (Int32.ofNat fi)), .val (.int (Int32.ofNat (fi + (en - fi))))] [])) by rw [ela] at hs; exact hs
      refine own_lpC hx hby hml hown hret hlk hZ hw r0 r3 p1 _ _ _ t nb fb cm bl V0 ht HC _ fi (en - fi) _ A4 (by omega) (fun T5 A5 => ?_)
      generalize hL : own_last bl fi (en - fi) = la at hla
      show own_Go _ _ _ _ (T5.setTop (mkF m 104 #[.val (.ref r0), .val (.int p1), .val (.int (Int32.ofNat t)), .val (.ref r3), .val (.int (Int32.ofNat fs.length)), .val (.int (Int32.ofNat st)), .val (.int (1 : Int32)), .val (.int (Int32.ofNat en)), .val (.int (Int32.ofNat fi)), .val (.int (Int32.ofNat la))] []))
      refine own_go (fun t_ k_ => XS.aloadN A5.here hx rfl (hb hby d10_104) rfl rfl k_) ?_
      show own_Go _ _ _ _ (T5.setTop (mkF m 105 #[.val (.ref r0), .val (.int p1), .val (.int (Int32.ofNat t)), .val (.ref r3), .val (.int (Int32.ofNat fs.length)), .val (.int (Int32.ofNat st)), .val (.int (1 : Int32)), .val (.int (Int32.ofNat en)), .val (.int (Int32.ofNat fi)), .val (.int (Int32.ofNat la))] [(.ref r3)]))
      refine own_go (fun t_ k_ => XS.iconst A5.here hx rfl (hb hby d10_105) k_) ?_
      show own_Go _ _ _ _ (T5.setTop (mkF m 106 #[.val (.ref r0), .val (.int p1), .val (.int (Int32.ofNat t)), .val (.ref r3), .val (.int (Int32.ofNat fs.length)), .val (.int (Int32.ofNat st)), .val (.int (1 : Int32)), .val (.int (Int32.ofNat en)), .val (.int (Int32.ofNat fi)), .val (.int (Int32.ofNat la))] [(.int (2 : Int32)), (.ref r3)]))
      refine own_go (fun t_ k_ => XS.iload A5.here hx rfl (hb hby d10_106) rfl k_) ?_
      show own_Go _ _ _ _ (T5.setTop (mkF m 108 #[.val (.ref r0), .val (.int p1), .val (.int (Int32.ofNat t)), .val (.ref r3), .val (.int (Int32.ofNat fs.length)), .val (.int (Int32.ofNat st)), .val (.int (1 : Int32)), .val (.int (Int32.ofNat en)), .val (.int (Int32.ofNat fi)), .val (.int (Int32.ofNat la))] [(.int (Int32.ofNat fs.length)), (.int (2 : Int32)), (.ref r3)]))
      refine own_go (fun t_ k_ => XS.imul A5.here hx rfl (hb hby d10_108) rfl k_) ?_
      show own_Go _ _ _ _ (T5.setTop (mkF m 109 #[.val (.ref r0), .val (.int p1), .val (.int (Int32.ofNat t)), .val (.ref r3), .val (.int (Int32.ofNat fs.length)), .val (.int (Int32.ofNat st)), .val (.int (1 : Int32)), .val (.int (Int32.ofNat en)), .val (.int (Int32.ofNat fi)), .val (.int (Int32.ofNat la))] [(.int ((2 : Int32) * (Int32.ofNat fs.length))), (.ref r3)]))
      refine own_go (fun t_ k_ => XS.iload A5.here hx rfl (hb hby d10_109) rfl k_) ?_
      show own_Go _ _ _ _ (T5.setTop (mkF m 111 #[.val (.ref r0), .val (.int p1), .val (.int (Int32.ofNat t)), .val (.ref r3), .val (.int (Int32.ofNat fs.length)), .val (.int (Int32.ofNat st)), .val (.int (1 : Int32)), .val (.int (Int32.ofNat en)), .val (.int (Int32.ofNat fi)), .val (.int (Int32.ofNat la))] [(.int (Int32.ofNat fi)), (.int ((2 : Int32) * (Int32.ofNat fs.length))), (.ref r3)]))
      rw [own_dbl]
      show own_Go _ _ _ _ (T5.setTop (mkF m 111 #[.val (.ref r0), .val (.int p1), .val (.int (Int32.ofNat t)), .val (.ref r3), .val (.int (Int32.ofNat fs.length)), .val (.int (Int32.ofNat st)), .val (.int (1 : Int32)), .val (.int (Int32.ofNat en)), .val (.int (Int32.ofNat fi)), .val (.int (Int32.ofNat la))] [(.int (Int32.ofNat fi)), (.int (Int32.ofNat (2 * fs.length))), (.ref r3)]))
      refine own_stI A5 hx hZ V3 ⟨own_nn (by omega), (own_nlt (by omega) (by omega)).mpr (by omega)⟩ g3 rfl rfl (hb hby d10_111) (fun T24 h26 A25 W27 V28 => ?_)
      have V29 : own_Arr Z h26 r0 .byte nb fb := V0.other W27 ne
      have V30 : own_Arr Z h26 r3 .int (Int32.ofNat (2 * q)) (fun i => if i = (Int32.ofNat (2 * fs.length)) then (Int32.ofNat fi) else cc i) := V28
      have K31 : Keep h0 h26 [r3] := KP.wr W27 (Or.inl (List.mem_of_getElem? (i := 0) rfl))
      show own_Go _ _ _ _ (T24.setTop (mkF m 112 #[.val (.ref r0), .val (.int p1), .val (.int (Int32.ofNat t)), .val (.ref r3), .val (.int (Int32.ofNat fs.length)), .val (.int (Int32.ofNat st)), .val (.int (1 : Int32)), .val (.int (Int32.ofNat en)), .val (.int (Int32.ofNat fi)), .val (.int (Int32.ofNat la))] []))
      refine own_go (fun t_ k_ => XS.aloadN A25.here hx rfl (hb hby d10_112) rfl rfl k_) ?_
      show own_Go _ _ _ _ (T24.setTop (mkF m 113 #[.val (.ref r0), .val (.int p1), .val (.int (Int32.ofNat t)), .val (.ref r3), .val (.int (Int32.ofNat fs.length)), .val (.int (Int32.ofNat st)), .val (.int (1 : Int32)), .val (.int (Int32.ofNat en)), .val (.int (Int32.ofNat fi)), .val (.int (Int32.ofNat la))] [(.ref r3)]))
      refine own_go (fun t_ k_ => XS.iconst A25.here hx rfl (hb hby d10_113) k_) ?_
      show own_Go _ _ _ _ (T24.setTop (mkF m 114 #[.val (.ref r0), .val (.int p1), .val (.int (Int32.ofNat t)), .val (.ref r3), .val (.int (Int32.ofNat fs.length)), .val (.int (Int32.ofNat st)), .val (.int (1 : Int32)), .val (.int (Int32.ofNat en)), .val (.int (Int32.ofNat fi)), .val (.int (Int32.ofNat la))] [(.int (2 : Int32)), (.ref r3)]))
      refine own_go (fun t_ k_ => XS.iload A25.here hx rfl (hb hby d10_114) rfl k_) ?_
      show own_Go _ _ _ _ (T24.setTop (mkF m 116 #[.val (.ref r0), .val (.int p1), .val (.int (Int32.ofNat t)), .val (.ref r3), .val (.int (Int32.ofNat fs.length)), .val (.int (Int32.ofNat st)), .val (.int (1 : Int32)), .val (.int (Int32.ofNat en)), .val (.int (Int32.ofNat fi)), .val (.int (Int32.ofNat la))] [(.int (Int32.ofNat fs.length)), (.int (2 : Int32)), (.ref r3)]))
      refine own_go (fun t_ k_ => XS.imul A25.here hx rfl (hb hby d10_116) rfl k_) ?_
      show own_Go _ _ _ _ (T24.setTop (mkF m 117 #[.val (.ref r0), .val (.int p1), .val (.int (Int32.ofNat t)), .val (.ref r3), .val (.int (Int32.ofNat fs.length)), .val (.int (Int32.ofNat st)), .val (.int (1 : Int32)), .val (.int (Int32.ofNat en)), .val (.int (Int32.ofNat fi)), .val (.int (Int32.ofNat la))] [(.int ((2 : Int32) * (Int32.ofNat fs.length))), (.ref r3)]))
      refine own_go (fun t_ k_ => XS.iconst A25.here hx rfl (hb hby d10_117) k_) ?_
      show own_Go _ _ _ _ (T24.setTop (mkF m 118 #[.val (.ref r0), .val (.int p1), .val (.int (Int32.ofNat t)), .val (.ref r3), .val (.int (Int32.ofNat fs.length)), .val (.int (Int32.ofNat st)), .val (.int (1 : Int32)), .val (.int (Int32.ofNat en)), .val (.int (Int32.ofNat fi)), .val (.int (Int32.ofNat la))] [(.int (1 : Int32)), (.int ((2 : Int32) * (Int32.ofNat fs.length))), (.ref r3)]))
      refine own_go (fun t_ k_ => XS.iadd A25.here hx rfl (hb hby d10_118) rfl k_) ?_
      show own_Go _ _ _ _ (T24.setTop (mkF m 119 #[.val (.ref r0), .val (.int p1), .val (.int (Int32.ofNat t)), .val (.ref r3), .val (.int (Int32.ofNat fs.length)), .val (.int (Int32.ofNat st)), .val (.int (1 : Int32)), .val (.int (Int32.ofNat en)), .val (.int (Int32.ofNat fi)), .val (.int (Int32.ofNat la))] [(.int (((2 : Int32) * (Int32.ofNat fs.length)) + (1 : Int32))), (.ref r3)]))
      refine own_go (fun t_ k_ => XS.iload A25.here hx rfl (hb hby d10_119) rfl k_) ?_
      show own_Go _ _ _ _ (T24.setTop (mkF m 121 #[.val (.ref r0), .val (.int p1), .val (.int (Int32.ofNat t)), .val (.ref r3), .val (.int (Int32.ofNat fs.length)), .val (.int (Int32.ofNat st)), .val (.int (1 : Int32)), .val (.int (Int32.ofNat en)), .val (.int (Int32.ofNat fi)), .val (.int (Int32.ofNat la))] [(.int (Int32.ofNat la)), (.int (((2 : Int32) * (Int32.ofNat fs.length)) + (1 : Int32))), (.ref r3)]))
      rw [own_dbl]
      show own_Go _ _ _ _ (T24.setTop (mkF m 121 #[.val (.ref r0), .val (.int p1), .val (.int (Int32.ofNat t)), .val (.ref r3), .val (.int (Int32.ofNat fs.length)), .val (.int (Int32.ofNat st)), .val (.int (1 : Int32)), .val (.int (Int32.ofNat en)), .val (.int (Int32.ofNat fi)), .val (.int (Int32.ofNat la))] [(.int (Int32.ofNat la)), (.int (Int32.ofNat (2 * fs.length) + (1 : Int32))), (.ref r3)]))
      refine own_stI A25 hx hZ V30 (by rw [own_succ]; exact ⟨own_nn (by omega), (own_nlt (by omega) (by omega)).mpr (by omega)⟩) g3 rfl rfl (hb hby d10_121) (fun T32 h34 A33 W35 V36 => ?_)
      have V37 : own_Arr Z h34 r0 .byte nb fb := V29.other W35 ne
      have V38 : own_Arr Z h34 r3 .int (Int32.ofNat (2 * q)) (fun i => if i = (Int32.ofNat (2 * fs.length) + (1 : Int32)) then (Int32.ofNat la) else (fun i => if i = (Int32.ofNat (2 * fs.length)) then (Int32.ofNat fi) else cc i) i) := V36
      have K39 : Keep h0 h34 [r3] := K31.wr W35 (Or.inl (List.mem_of_getElem? (i := 0) rfl))
      show own_Go _ _ _ _ (T32.setTop (mkF m 122 #[.val (.ref r0), .val (.int p1), .val (.int (Int32.ofNat t)), .val (.ref r3), .val (.int (Int32.ofNat fs.length)), .val (.int (Int32.ofNat st)), .val (.int (1 : Int32)), .val (.int (Int32.ofNat en)), .val (.int (Int32.ofNat fi)), .val (.int (Int32.ofNat la))] []))
      exact tail _ _ _ (fi, la) _ _ A33 (One.val rfl) (One.val rfl) V37 V38 (B3.put hroom (by omega) fi la) K39 (by rw [own_fields, hE, hF, hL])
    ·
      refine own_go (fun t_ k_ => XS.icmpYes A0.here hx rfl (pc0 := 45) (pc' := 122) rfl (hb hby d10_45) rfl (flt hroom0).2.1 (by decide) (by decide) k_) ?_
      show own_Go _ _ _ _ (T0.setTop (mkF m 122 #[.val (.ref r0), .val (.int p1), .val (.int (Int32.ofNat t)), .val (.ref r3), .val (.int (Int32.ofNat fs.length)), .val (.int (Int32.ofNat st)), .val (.int (1 : Int32)), .val (.int (Int32.ofNat en)), s8, s9] []))
      exact tail _ _ cc (own_first bl (en - st) st, own_last bl (own_first bl (en - st) st) (en - own_first bl (en - st) st)) _ _ A0 o8 o9 V0 V3 (B3.full (by have := own_nge (by omega) (by omega) hroom0; omega) _) KP (by rw [own_fields, hE])
theorem ef_10 (m : MethodId) (r0 : Addr) (p1 : Int32) (p2 : Int32) (r3 : Addr) : entryFrame m #[(.ref r0), (.int p1), (.int p2), (.ref r3)] 10 = mkF m 0 #[.val (.ref r0), .val (.int p1), .val (.int p2), .val (.ref r3), .unset, .unset, .unset, .unset, .unset, .unset] [] := by first | (simp [entryFrame, mkF, argsToLocals, Value.category]; done) | rfl
theorem d10_0 : decode prog_13_method_11_code 0 = .ok (.iconst 0, 1) := by decide +kernel
theorem d10_1 : decode prog_13_method_11_code 1 = .ok (.istore 4, 2) := by decide +kernel
theorem d10_3 : decode prog_13_method_11_code 3 = .ok (.iload_n 1, 1) := by decide +kernel
theorem d10_4 : decode prog_13_method_11_code 4 = .ok (.istore 5, 2) := by decide +kernel
theorem d10_6 : decode prog_13_method_11_code 6 = .ok (.iconst 1, 1) := by decide +kernel
theorem d10_7 : decode prog_13_method_11_code 7 = .ok (.istore 6, 2) := by decide +kernel
set_option maxRecDepth 65536 in
set_option maxHeartbeats 40000000 in
theorem rm10 (l : Launch) (Z : State) (a0 : Array Value) (hw : ∀ d ∈ tables_1, d.before a0 Z = true) (r0 r3 : Addr) (i0 t q : Nat) (nb : Int32) (fb fl : Int32 → Int32) (cm bl : Nat → Bool) (h0 : Heap) (n0 : Nat) (ht : (t : Int) ≤ nb.toInt) (htb : t < 2 ^ 29) (HC : own_Cls cm bl t fb) (hq : 2 * q < 2 ^ 30) (hi : i0 ≤ t) (V0 : own_Arr Z h0 r0 .byte nb fb) (V3 : own_Arr Z h0 r3 .int (Int32.ofNat (2 * q)) fl) (ne : r0 ≠ r3) (g3 : n0 ≤ r3) :
    own_Met l Z n0 (⟨"com/example/indexloom/indexloom/data/DataHeader", "split", "([BII[I)I"⟩ : MethodName) prog_13_method_11_code 10 (some .int) ({ frames := 1, cells := 0, slots := 0, locals := 12 } : Room) #[(.ref r0), (.int (Int32.ofNat i0)), (.int (Int32.ofNat t)), (.ref r3)] h0 (fun v h => v = some (.int (Int32.ofNat (own_fields cm bl t (t - i0 + 1) i0).length)) ∧ Keep h0 h [r3] ∧ ∃ c, own_Arr Z h r3 .int (Int32.ofNat (2 * q)) c ∧ own_Bd q (own_fields cm bl t (t - i0 + 1) i0) fl c) := by
  refine own_met (plainFor_of_name pn_11) ?_
  intro p e s m below meth c T0 hx hby hml hown hnm hret hlk hZ A0
  rw [ef_10]
  show own_Go _ _ _ _ (T0.setTop (mkF m 0 #[.val (.ref r0), .val (.int (Int32.ofNat i0)), .val (.int (Int32.ofNat t)), .val (.ref r3), .unset, .unset, .unset, .unset, .unset, .unset] []))
  refine own_go (fun t_ k_ => XS.iconst A0.here hx rfl (hb hby d10_0) k_) ?_
  show own_Go _ _ _ _ (T0.setTop (mkF m 1 #[.val (.ref r0), .val (.int (Int32.ofNat i0)), .val (.int (Int32.ofNat t)), .val (.ref r3), .unset, .unset, .unset, .unset, .unset, .unset] [(.int (0 : Int32))]))
  refine own_go (fun t_ k_ => XS.istore A0.here hx rfl (hb hby d10_1) rfl (l' := #[.val (.ref r0), .val (.int (Int32.ofNat i0)), .val (.int (Int32.ofNat t)), .val (.ref r3), .val (.int (0 : Int32)), .unset, .unset, .unset, .unset, .unset]) rfl k_) ?_
  show own_Go _ _ _ _ (T0.setTop (mkF m 3 #[.val (.ref r0), .val (.int (Int32.ofNat i0)), .val (.int (Int32.ofNat t)), .val (.ref r3), .val (.int (0 : Int32)), .unset, .unset, .unset, .unset, .unset] []))
  refine own_go (fun t_ k_ => XS.iloadN A0.here hx rfl (hb hby d10_3) rfl k_) ?_
  show own_Go _ _ _ _ (T0.setTop (mkF m 4 #[.val (.ref r0), .val (.int (Int32.ofNat i0)), .val (.int (Int32.ofNat t)), .val (.ref r3), .val (.int (0 : Int32)), .unset, .unset, .unset, .unset, .unset] [(.int (Int32.ofNat i0))]))
  refine own_go (fun t_ k_ => XS.istore A0.here hx rfl (hb hby d10_4) rfl (l' := #[.val (.ref r0), .val (.int (Int32.ofNat i0)), .val (.int (Int32.ofNat t)), .val (.ref r3), .val (.int (0 : Int32)), .val (.int (Int32.ofNat i0)), .unset, .unset, .unset, .unset]) rfl k_) ?_
  show own_Go _ _ _ _ (T0.setTop (mkF m 6 #[.val (.ref r0), .val (.int (Int32.ofNat i0)), .val (.int (Int32.ofNat t)), .val (.ref r3), .val (.int (0 : Int32)), .val (.int (Int32.ofNat i0)), .unset, .unset, .unset, .unset] []))
  refine own_go (fun t_ k_ => XS.iconst A0.here hx rfl (hb hby d10_6) k_) ?_
  show own_Go _ _ _ _ (T0.setTop (mkF m 7 #[.val (.ref r0), .val (.int (Int32.ofNat i0)), .val (.int (Int32.ofNat t)), .val (.ref r3), .val (.int (0 : Int32)), .val (.int (Int32.ofNat i0)), .unset, .unset, .unset, .unset] [(.int (1 : Int32))]))
  refine own_go (fun t_ k_ => XS.istore A0.here hx rfl (hb hby d10_7) rfl (l' := #[.val (.ref r0), .val (.int (Int32.ofNat i0)), .val (.int (Int32.ofNat t)), .val (.ref r3), .val (.int (0 : Int32)), .val (.int (Int32.ofNat i0)), .val (.int (1 : Int32)), .unset, .unset, .unset]) rfl k_) ?_
  show own_Go _ _ _ _ (T0.setTop (mkF m 9 #[.val (.ref r0), .val (.int (Int32.ofNat i0)), .val (.int (Int32.ofNat t)), .val (.ref r3), .val (.int (0 : Int32)), .val (.int (Int32.ofNat i0)), .val (.int (1 : Int32)), .unset, .unset, .unset] []))
  exact own_lpO hx hby hml hown hret hlk hZ hw r0 r3 _ t q nb fb fl cm bl ht htb HC hq ne g3 (t - i0 + 1) i0 [] h0 fl _ _ _ _ A0 (by omega) hi (Nat.zero_le _) One.u One.u One.u V0 V3 (fun j _ => ⟨rfl, rfl⟩) (Keep.refl _ _)
theorem own_clsH : own_Cls (fun i => decide (i = 1)) (fun _ => false) 3 (fun j => ([97, 44, 98] : List Int32).getD j.toNatClampNeg 0) := by
  intro i hi
  rcases (by omega : i = 0 ∨ i = 1 ∨ i = 2) with rfl | rfl | rfl <;> exact ⟨by decide +kernel, by decide +kernel⟩
theorem ef_2 (m : MethodId) (r0 : Addr) (r1 : Addr) (r2 : Addr) : entryFrame m #[(.ref r0), (.ref r1), (.ref r2)] 6 = mkF m 0 #[.val (.ref r0), .val (.ref r1), .val (.ref r2), .unset, .unset, .unset] [] := by first | (simp [entryFrame, mkF, argsToLocals, Value.category]; done) | rfl
theorem d2_0 : decode prog_13_method_1_code 0 = .ok (.aload_n 0, 1) := by decide +kernel
theorem d2_1 : decode prog_13_method_1_code 1 = .ok (.invokespecial 1, 3) := by decide +kernel
theorem d2_4 : decode prog_13_method_1_code 4 = .ok (.aload_n 2, 1) := by decide +kernel
theorem d2_5 : decode prog_13_method_1_code 5 = .ok (.getstatic 7, 3) := by decide +kernel
theorem d2_8 : decode prog_13_method_1_code 8 = .ok (.invokevirtual 13, 3) := by decide +kernel
theorem pd__Ljava_nio_charset_Charset___B : parseMethodDescriptor "(Ljava/nio/charset/Charset;)[B" = some ⟨[(.object "java/nio/charset/Charset")], some (.array .byte)⟩ := by decide +kernel
theorem d2_11 : decode prog_13_method_1_code 11 = .ok (.astore_n 3, 1) := by decide +kernel
theorem d2_12 : decode prog_13_method_1_code 12 = .ok (.iconst 2, 1) := by decide +kernel
theorem d2_13 : decode prog_13_method_1_code 13 = .ok (.aload_n 3, 1) := by decide +kernel
theorem d2_14 : decode prog_13_method_1_code 14 = .ok (.iconst 0, 1) := by decide +kernel
theorem d2_15 : decode prog_13_method_1_code 15 = .ok (.aload_n 3, 1) := by decide +kernel
theorem d2_16 : decode prog_13_method_1_code 16 = .ok (.arraylength, 1) := by decide +kernel
theorem d2_17 : decode prog_13_method_1_code 17 = .ok (.iconst 0, 1) := by decide +kernel
theorem d2_18 : decode prog_13_method_1_code 18 = .ok (.newarray .int, 2) := by decide +kernel
theorem d2_20 : decode prog_13_method_1_code 20 = .ok (.invokestatic 19, 3) := by decide +kernel
theorem pd___BII_I_I : parseMethodDescriptor "([BII[I)I" = some ⟨[(.array .byte), .int, .int, (.array .int)], some .int⟩ := by decide +kernel
theorem d2_23 : decode prog_13_method_1_code 23 = .ok (.imul, 1) := by decide +kernel
theorem d2_24 : decode prog_13_method_1_code 24 = .ok (.newarray .int, 2) := by decide +kernel
theorem d2_26 : decode prog_13_method_1_code 26 = .ok (.astore 4, 2) := by decide +kernel
theorem d2_28 : decode prog_13_method_1_code 28 = .ok (.aload_n 3, 1) := by decide +kernel
theorem d2_29 : decode prog_13_method_1_code 29 = .ok (.iconst 0, 1) := by decide +kernel
theorem d2_30 : decode prog_13_method_1_code 30 = .ok (.aload_n 3, 1) := by decide +kernel
theorem d2_31 : decode prog_13_method_1_code 31 = .ok (.arraylength, 1) := by decide +kernel
theorem d2_32 : decode prog_13_method_1_code 32 = .ok (.aload 4, 2) := by decide +kernel
theorem d2_34 : decode prog_13_method_1_code 34 = .ok (.invokestatic 19, 3) := by decide +kernel
theorem d2_37 : decode prog_13_method_1_code 37 = .ok (.pop, 1) := by decide +kernel
theorem d2_38 : decode prog_13_method_1_code 38 = .ok (.aload_n 0, 1) := by decide +kernel
theorem d2_39 : decode prog_13_method_1_code 39 = .ok (.aload_n 1, 1) := by decide +kernel
theorem d2_40 : decode prog_13_method_1_code 40 = .ok (.putfield 25, 3) := by decide +kernel
theorem d2_43 : decode prog_13_method_1_code 43 = .ok (.aload_n 0, 1) := by decide +kernel
theorem d2_44 : decode prog_13_method_1_code 44 = .ok (.aload 4, 2) := by decide +kernel
theorem d2_46 : decode prog_13_method_1_code 46 = .ok (.arraylength, 1) := by decide +kernel
theorem d2_47 : decode prog_13_method_1_code 47 = .ok (.iconst 2, 1) := by decide +kernel
theorem d2_48 : decode prog_13_method_1_code 48 = .ok (.idiv, 1) := by decide +kernel
theorem d2_49 : decode prog_13_method_1_code 49 = .ok (.anewarray 14, 3) := by decide +kernel
theorem d2_52 : decode prog_13_method_1_code 52 = .ok (.putfield 29, 3) := by decide +kernel
theorem d2_55 : decode prog_13_method_1_code 55 = .ok (.iconst 0, 1) := by decide +kernel
theorem d2_56 : decode prog_13_method_1_code 56 = .ok (.istore 5, 2) := by decide +kernel
theorem d2_58 : decode prog_13_method_1_code 58 = .ok (.iload 5, 2) := by decide +kernel
theorem d2_60 : decode prog_13_method_1_code 60 = .ok (.aload_n 0, 1) := by decide +kernel
theorem d2_61 : decode prog_13_method_1_code 61 = .ok (.getfield 29, 3) := by decide +kernel
theorem d2_64 : decode prog_13_method_1_code 64 = .ok (.arraylength, 1) := by decide +kernel
theorem d2_65 : decode prog_13_method_1_code 65 = .ok (.if_icmp .ge 51, 3) := by decide +kernel
theorem d2_68 : decode prog_13_method_1_code 68 = .ok (.aload_n 0, 1) := by decide +kernel
theorem d2_69 : decode prog_13_method_1_code 69 = .ok (.getfield 29, 3) := by decide +kernel
theorem d2_72 : decode prog_13_method_1_code 72 = .ok (.iload 5, 2) := by decide +kernel
theorem d2_74 : decode prog_13_method_1_code 74 = .ok (.new 14, 3) := by decide +kernel
theorem d2_77 : decode prog_13_method_1_code 77 = .ok (.dup, 1) := by decide +kernel
theorem d2_78 : decode prog_13_method_1_code 78 = .ok (.aload_n 3, 1) := by decide +kernel
theorem d2_79 : decode prog_13_method_1_code 79 = .ok (.aload 4, 2) := by decide +kernel
theorem d2_81 : decode prog_13_method_1_code 81 = .ok (.iconst 2, 1) := by decide +kernel
theorem d2_82 : decode prog_13_method_1_code 82 = .ok (.iload 5, 2) := by decide +kernel
theorem d2_84 : decode prog_13_method_1_code 84 = .ok (.imul, 1) := by decide +kernel
theorem d2_85 : decode prog_13_method_1_code 85 = .ok (.iaload, 1) := by decide +kernel
theorem d2_86 : decode prog_13_method_1_code 86 = .ok (.aload 4, 2) := by decide +kernel
theorem d2_88 : decode prog_13_method_1_code 88 = .ok (.iconst 2, 1) := by decide +kernel
theorem d2_89 : decode prog_13_method_1_code 89 = .ok (.iload 5, 2) := by decide +kernel
theorem d2_91 : decode prog_13_method_1_code 91 = .ok (.imul, 1) := by decide +kernel
theorem d2_92 : decode prog_13_method_1_code 92 = .ok (.iconst 1, 1) := by decide +kernel
theorem d2_93 : decode prog_13_method_1_code 93 = .ok (.iadd, 1) := by decide +kernel
theorem d2_94 : decode prog_13_method_1_code 94 = .ok (.iaload, 1) := by decide +kernel
theorem d2_95 : decode prog_13_method_1_code 95 = .ok (.aload 4, 2) := by decide +kernel
theorem d2_97 : decode prog_13_method_1_code 97 = .ok (.iconst 2, 1) := by decide +kernel
theorem d2_98 : decode prog_13_method_1_code 98 = .ok (.iload 5, 2) := by decide +kernel
theorem d2_100 : decode prog_13_method_1_code 100 = .ok (.imul, 1) := by decide +kernel
theorem d2_101 : decode prog_13_method_1_code 101 = .ok (.iaload, 1) := by decide +kernel
theorem d2_102 : decode prog_13_method_1_code 102 = .ok (.isub, 1) := by decide +kernel
theorem d2_103 : decode prog_13_method_1_code 103 = .ok (.getstatic 7, 3) := by decide +kernel
theorem d2_106 : decode prog_13_method_1_code 106 = .ok (.invokespecial 33, 3) := by decide +kernel
theorem pd___BIILjava_nio_charset_Charset__V : parseMethodDescriptor "([BIILjava/nio/charset/Charset;)V" = some ⟨[(.array .byte), .int, .int, (.object "java/nio/charset/Charset")], none⟩ := by decide +kernel
theorem d2_109 : decode prog_13_method_1_code 109 = .ok (.aastore, 1) := by decide +kernel
theorem d2_110 : decode prog_13_method_1_code 110 = .ok (.iinc 5 1, 3) := by decide +kernel
theorem d2_113 : decode prog_13_method_1_code 113 = .ok (.goto (-55), 3) := by decide +kernel
theorem d2_116 : decode prog_13_method_1_code 116 = .ok (.return_, 1) := by decide +kernel
set_option maxRecDepth 65536 in
set_option maxHeartbeats 40000000 in
theorem rm2 (l : Launch) (Z : State) (a0 : Array Value) (hw : ∀ d ∈ tables_1, d.before a0 Z = true) (r0 : Addr) (r1 : Addr) (r2 : Addr) (t2 : Addr) (u8 : Addr) (z_C : Int32) (s_F : Value) (h0 : Heap) (n0 : Nat) (O0 : Old Z n0 h0) (Z0 : n0 ≤ h0.size) (Eh : Exa Z h0 r0 "com/example/indexloom/indexloom/data/DataHeader") (Ff : Fld Z h0 r0 "com/example/indexloom/indexloom/data/DataHeader" "file" "Ljava/lang/String;" .null) (Fn : Fld Z h0 r0 "com/example/indexloom/indexloom/data/DataHeader" "names" "[Ljava/lang/String;" .null) (g0 : n0 ≤ r0) (E0 : Exa Z h0 r2 "java/lang/String") (Fc : Fld Z h0 r2 "java/lang/String" "coder" "B" (.int (0 : Int32))) (Fv : Fld Z h0 r2 "java/lang/String" "value" "[B" (.ref t2)) (Vs : own_Arr Z h0 t2 .byte (3 : Int32) (fun j => ([97, 44, 98] : List Int32).getD j.toNatClampNeg 0)) (Es : Exa Z h0 t2 "[B") (hz : ¬ z_C = 0) (hr_F : s_F.isRef = true) (E8 : Exa Z Z.heap u8 "sun/nio/cs/UTF_8") (S_UTF_8 : Sta Z Z.heap "java/nio/charset/StandardCharsets" "UTF_8" "Ljava/nio/charset/Charset;" (.ref u8)) (S_INSTANCE : Sta Z Z.heap "sun/nio/cs/UTF_8" "INSTANCE" "Lsun/nio/cs/UTF_8;" (.ref u8)) (S_COMPACT_STRINGS : Sta Z Z.heap "java/lang/String" "COMPACT_STRINGS" "Z" (.int z_C)) (S_SIOOBE_FORMATTER : Sta Z Z.heap "jdk/internal/util/Preconditions" "SIOOBE_FORMATTER" "Ljava/util/function/BiFunction;" s_F) :
    own_Met l Z n0 (⟨"com/example/indexloom/indexloom/data/DataHeader", "<init>", "(Ljava/lang/String;Ljava/lang/String;)V"⟩ : MethodName) prog_13_method_1_code 6 none ({ frames := 5, cells := 8, slots := 19, locals := 112 } : Room) #[(.ref r0), (.ref r1), (.ref r2)] h0 (fun v h => v = none ∧ Keep h0 h [r0] ∧ ∃ ar, n0 ≤ ar ∧ h0.size ≤ ar ∧ Fld Z h r0 "com/example/indexloom/indexloom/data/DataHeader" "names" "[Ljava/lang/String;" (.ref ar) ∧ own_ArrR Z h ar "java/lang/String" (2 : Int32)) := by
  refine own_met (plainFor_of_name pn_11) ?_
  intro p e s m below meth c T0 hx hby hml hown hnm hret hlk hZ A0
  rw [ef_2]
  show own_Go _ _ _ _ (T0.setTop (mkF m 0 #[.val (.ref r0), .val (.ref r1), .val (.ref r2), .unset, .unset, .unset] []))
  refine own_go (fun t_ k_ => XS.aloadN A0.here hx rfl (hb hby d2_0) rfl rfl k_) ?_
  show own_Go _ _ _ _ (T0.setTop (mkF m 1 #[.val (.ref r0), .val (.ref r1), .val (.ref r2), .unset, .unset, .unset] [(.ref r0)]))
  refine own_initO A0 hx hZ hown (hw _ (List.mem_of_getElem? (i := 20) rfl)) (hw _ (List.mem_of_getElem? (i := 21) rfl)) (hw _ (List.mem_of_getElem? (i := 22) rfl)) rfl (by rw [hml]; rfl) rfl (hb hby d2_1) (by decide) 0 (by show 2 * 0 + _ ≤ _; exact Nat.le_of_eq rfl) (by decide) (fun T1 A2 => ?_)
  show own_Go _ _ _ _ (T1.setTop (mkF m 4 #[.val (.ref r0), .val (.ref r1), .val (.ref r2), .unset, .unset, .unset] []))
  refine own_go (fun t_ k_ => XS.aloadN A2.here hx rfl (hb hby d2_4) rfl rfl k_) ?_
  show own_Go _ _ _ _ (T1.setTop (mkF m 5 #[.val (.ref r0), .val (.ref r1), .val (.ref r2), .unset, .unset, .unset] [(.ref r2)]))
  refine own_getS A2 hx hZ hown (host := "") (Or.inl (hw _ (List.mem_of_getElem? (i := 23) rfl))) Via.refl (S_UTF_8.ext O0.2) rfl (hb hby d2_5) (fun T3 A4 => ?_)
  show own_Go _ _ _ _ (T3.setTop (mkF m 8 #[.val (.ref r0), .val (.ref r1), .val (.ref r2), .unset, .unset, .unset] [(.ref u8), (.ref r2)]))
  refine own_callV A4 hx hZ (y := (⟨"java/lang/String", "getBytes", "(Ljava/nio/charset/Charset;)[B"⟩ : MethodName)) (z := (⟨"java/lang/String", "getBytes", "(Ljava/nio/charset/Charset;)[B"⟩ : MethodName)) hown (hw _ (List.mem_of_getElem? (i := 25) rfl)) (hw _ (List.mem_of_getElem? (i := 26) rfl)) (hw _ (List.mem_of_getElem? (i := 28) rfl)) (hw _ (List.mem_of_getElem? (i := 27) rfl)) (hw _ (List.mem_of_getElem? (i := 10) rfl)) (hw _ (List.mem_of_getElem? (i := 29) rfl)) (notFace_of_selects (args := #[]) (mvT hZ (hw _ (List.mem_of_getElem? (i := 28) rfl)))) (by decide) (b := r2) (argsL := [(.ref u8)]) (rest := []) E0 (rm4 l Z a0 hw r2 u8 t2 z_C h0 n0 O0 Z0 hz E0 Fc Fv Vs Es S_COMPACT_STRINGS S_INSTANCE) 0 (by decide) (by decide) rfl (by rw [hml]; rfl) (lenOf pd__Ljava_nio_charset_Charset___B rfl) rfl (by show 2 * 0 + _ ≤ _; exact Nat.le_of_eq rfl) (hb hby d2_8) (by decide) (by decide) (fun v8 T5 h7 A6 hQ9 => ?_)
  obtain ⟨K10, t11, rfl, gt12, nt13, V14, E15⟩ := hQ9
  have ne_r0_t11 : r0 ≠ t11 := Nat.ne_of_lt (Nat.lt_of_lt_of_le Eh.lt nt13)
  have ne_r2_t11 : r2 ≠ t11 := Nat.ne_of_lt (Nat.lt_of_lt_of_le E0.lt nt13)
  have ne_t2_t11 : t2 ≠ t11 := Nat.ne_of_lt (Nat.lt_of_lt_of_le Vs.lt nt13)
  have nw_t11 : h0.size ≤ t11 := Nat.le_trans (Keep.refl h0 [r0]).1 nt13
  have O16 : Old Z n0 h7 := O0.keep K10 all0
  have Z17 : n0 ≤ h7.size := Nat.le_trans Z0 K10.1
  have E18 : Exa Z h7 r0 "com/example/indexloom/indexloom/data/DataHeader" := Eh.keep K10
  have F19 : Fld Z h7 r0 "com/example/indexloom/indexloom/data/DataHeader" "file" "Ljava/lang/String;" .null := Ff.keep K10 nin0
  have F20 : Fld Z h7 r0 "com/example/indexloom/indexloom/data/DataHeader" "names" "[Ljava/lang/String;" .null := Fn.keep K10 nin0
  have K21 : Keep h0 h7 [r0] := (Keep.refl h0 [r0]).trans K10 all0
  have E22 : Exa Z h7 r2 "java/lang/String" := E0.keep K10
  have F23 : Fld Z h7 r2 "java/lang/String" "coder" "B" (.int (0 : Int32)) := Fc.keep K10 nin0
  have F24 : Fld Z h7 r2 "java/lang/String" "value" "[B" (.ref t2) := Fv.keep K10 nin0
  have V25 : own_Arr Z h7 t2 .byte (3 : Int32) (fun j => ([97, 44, 98] : List Int32).getD j.toNatClampNeg 0) := Vs.keep K10 nin0
  have E26 : Exa Z h7 t2 "[B" := Es.keep K10
  show own_Go _ _ _ _ (T5.setTop (mkF m 11 #[.val (.ref r0), .val (.ref r1), .val (.ref r2), .unset, .unset, .unset] [(.ref t11)]))
  refine own_go (fun t_ k_ => XS.astoreN A6.here hx rfl (hb hby d2_11) rfl rfl (l' := #[.val (.ref r0), .val (.ref r1), .val (.ref r2), .val (.ref t11), .unset, .unset]) rfl k_) ?_
  show own_Go _ _ _ _ (T5.setTop (mkF m 12 #[.val (.ref r0), .val (.ref r1), .val (.ref r2), .val (.ref t11), .unset, .unset] []))
  refine own_go (fun t_ k_ => XS.iconst A6.here hx rfl (hb hby d2_12) k_) ?_
  show own_Go _ _ _ _ (T5.setTop (mkF m 13 #[.val (.ref r0), .val (.ref r1), .val (.ref r2), .val (.ref t11), .unset, .unset] [(.int (2 : Int32))]))
  refine own_go (fun t_ k_ => XS.aloadN A6.here hx rfl (hb hby d2_13) rfl rfl k_) ?_
  show own_Go _ _ _ _ (T5.setTop (mkF m 14 #[.val (.ref r0), .val (.ref r1), .val (.ref r2), .val (.ref t11), .unset, .unset] [(.ref t11), (.int (2 : Int32))]))
  refine own_go (fun t_ k_ => XS.iconst A6.here hx rfl (hb hby d2_14) k_) ?_
  show own_Go _ _ _ _ (T5.setTop (mkF m 15 #[.val (.ref r0), .val (.ref r1), .val (.ref r2), .val (.ref t11), .unset, .unset] [(.int (0 : Int32)), (.ref t11), (.int (2 : Int32))]))
  refine own_go (fun t_ k_ => XS.aloadN A6.here hx rfl (hb hby d2_15) rfl rfl k_) ?_
  show own_Go _ _ _ _ (T5.setTop (mkF m 16 #[.val (.ref r0), .val (.ref r1), .val (.ref r2), .val (.ref t11), .unset, .unset] [(.ref t11), (.int (0 : Int32)), (.ref t11), (.int (2 : Int32))]))
  refine own_len A6 hx hZ V14 rfl rfl (hb hby d2_16) ?_
  show own_Go _ _ _ _ (T5.setTop (mkF m 17 #[.val (.ref r0), .val (.ref r1), .val (.ref r2), .val (.ref t11), .unset, .unset] [(.int (3 : Int32)), (.int (0 : Int32)), (.ref t11), (.int (2 : Int32))]))
  refine own_go (fun t_ k_ => XS.iconst A6.here hx rfl (hb hby d2_17) k_) ?_
  show own_Go _ _ _ _ (T5.setTop (mkF m 18 #[.val (.ref r0), .val (.ref r1), .val (.ref r2), .val (.ref t11), .unset, .unset] [(.int (0 : Int32)), (.int (3 : Int32)), (.int (0 : Int32)), (.ref t11), (.int (2 : Int32))]))
  refine own_newP A6 hx hZ (hw _ (List.mem_of_getElem? (i := 62) rfl)) rfl rfl (hb hby d2_18) rfl (by decide) 0 (by decide) (by decide) (by decide) (by decide) (fun T27 h29 b30 ha_b30 A28 E31 V32 R33 => ?_)
  have ne_r0_b30 : r0 ≠ b30 := Nat.ne_of_lt (by rw [ha_b30]; exact E18.lt)
  have ne_t11_b30 : t11 ≠ b30 := Nat.ne_of_lt (by rw [ha_b30]; exact V14.lt)
  have g_b30 : n0 ≤ b30 := by rw [ha_b30]; exact Z17
  have nw_b30 : h0.size ≤ b30 := by rw [ha_b30]; exact K21.1
  have O34 : Old Z n0 h29 := O16.ext E31
  have Z35 : n0 ≤ h29.size := Nat.le_trans Z17 E31.1
  have E36 : Exa Z h29 r0 "com/example/indexloom/indexloom/data/DataHeader" := E18.ext E31
  have F37 : Fld Z h29 r0 "com/example/indexloom/indexloom/data/DataHeader" "file" "Ljava/lang/String;" .null := F19.ext E31
  have F38 : Fld Z h29 r0 "com/example/indexloom/indexloom/data/DataHeader" "names" "[Ljava/lang/String;" .null := F20.ext E31
  have K39 : Keep h0 h29 [r0] := K21.ext E31
  have V40 : own_Arr Z h29 t11 .byte (3 : Int32) (fun j => ([97, 44, 98] : List Int32).getD j.toNatClampNeg 0) := V14.ext E31
  have E41 : Exa Z h29 t11 "[B" := E15.ext E31
  show own_Go _ _ _ _ (T27.setTop (mkF m 20 #[.val (.ref r0), .val (.ref r1), .val (.ref r2), .val (.ref t11), .unset, .unset] [(.ref b30), (.int (3 : Int32)), (.int (0 : Int32)), (.ref t11), (.int (2 : Int32))]))
  refine own_callS A28 hx hZ hown (y := (⟨"com/example/indexloom/indexloom/data/DataHeader", "split", "([BII[I)I"⟩ : MethodName)) (hw _ (List.mem_of_getElem? (i := 63) rfl)) (hw _ (List.mem_of_getElem? (i := 64) rfl)) (hw _ (List.mem_of_getElem? (i := 8) rfl)) (hw _ (List.mem_of_getElem? (i := 65) rfl)) (by decide) (argsL := [(.ref t11), (.int (0 : Int32)), (.int (3 : Int32)), (.ref b30)]) (rest := [(.int (2 : Int32))]) (rm10 l Z a0 hw t11 b30 0 3 0 (3 : Int32) (fun j => ([97, 44, 98] : List Int32).getD j.toNatClampNeg 0) (fun _ => 0) (fun i => decide (i = 1)) (fun _ => false) h29 n0 (by decide) (by decide) own_clsH (by decide) (by decide) V40 V32 ne_t11_b30 g_b30) 1 (by decide) (by decide) rfl (by rw [hml]; rfl) (lenOf pd___BII_I_I rfl) rfl (by show 2 * 0 + _ ≤ _; exact Nat.le_of_eq rfl) (hb hby d2_20) (by decide) (by decide) (fun v45 T42 h44 A43 hQ46 => ?_)
  obtain ⟨rfl, K47, c48, V49, B50⟩ := hQ46
  have O51 : Old Z n0 h44 := O34.keep K47 (allS g_b30 all0)
  have Z52 : n0 ≤ h44.size := Nat.le_trans Z35 K47.1
  have E53 : Exa Z h44 r0 "com/example/indexloom/indexloom/data/DataHeader" := E36.keep K47
  have F54 : Fld Z h44 r0 "com/example/indexloom/indexloom/data/DataHeader" "file" "Ljava/lang/String;" .null := F37.keep K47 (ninS ne_r0_b30 nin0)
  have F55 : Fld Z h44 r0 "com/example/indexloom/indexloom/data/DataHeader" "names" "[Ljava/lang/String;" .null := F38.keep K47 (ninS ne_r0_b30 nin0)
  have K56 : Keep h0 h44 [r0] := K39.trans K47 (allS (Or.inr nw_b30) all0)
  have V57 : own_Arr Z h44 t11 .byte (3 : Int32) (fun j => ([97, 44, 98] : List Int32).getD j.toNatClampNeg 0) := V40.keep K47 (ninS ne_t11_b30 nin0)
  have E58 : Exa Z h44 t11 "[B" := E41.keep K47
  rw [show Int32.ofNat (own_fields (fun i => decide (i = 1)) (fun _ => false) 3 (3 - 0 + 1) 0).length = (2 : Int32) from by decide +kernel]
  show own_Go _ _ _ _ (T42.setTop (mkF m 23 #[.val (.ref r0), .val (.ref r1), .val (.ref r2), .val (.ref t11), .unset, .unset] [(.int (2 : Int32)), (.int (2 : Int32))]))
  refine own_go (fun t_ k_ => XS.imul A43.here hx rfl (hb hby d2_23) rfl k_) ?_
  show own_Go _ _ _ _ (T42.setTop (mkF m 24 #[.val (.ref r0), .val (.ref r1), .val (.ref r2), .val (.ref t11), .unset, .unset] [(.int (4 : Int32))]))
  refine own_newP A43 hx hZ (hw _ (List.mem_of_getElem? (i := 62) rfl)) rfl rfl (hb hby d2_24) rfl (by decide) 4 (by decide) (by decide) (by decide) (by decide) (fun T59 h61 b62 ha_b62 A60 E63 V64 R65 => ?_)
  have ne_r0_b62 : r0 ≠ b62 := Nat.ne_of_lt (by rw [ha_b62]; exact E53.lt)
  have ne_t11_b62 : t11 ≠ b62 := Nat.ne_of_lt (by rw [ha_b62]; exact V57.lt)
  have ne_b30_b62 : b30 ≠ b62 := Nat.ne_of_lt (by rw [ha_b62]; exact V49.lt)
  have g_b62 : n0 ≤ b62 := by rw [ha_b62]; exact Z52
  have nw_b62 : h0.size ≤ b62 := by rw [ha_b62]; exact K56.1
  have O66 : Old Z n0 h61 := O51.ext E63
  have Z67 : n0 ≤ h61.size := Nat.le_trans Z52 E63.1
  have E68 : Exa Z h61 r0 "com/example/indexloom/indexloom/data/DataHeader" := E53.ext E63
  have F69 : Fld Z h61 r0 "com/example/indexloom/indexloom/data/DataHeader" "file" "Ljava/lang/String;" .null := F54.ext E63
  have F70 : Fld Z h61 r0 "com/example/indexloom/indexloom/data/DataHeader" "names" "[Ljava/lang/String;" .null := F55.ext E63
  have K71 : Keep h0 h61 [r0] := K56.ext E63
  have V72 : own_Arr Z h61 t11 .byte (3 : Int32) (fun j => ([97, 44, 98] : List Int32).getD j.toNatClampNeg 0) := V57.ext E63
  have E73 : Exa Z h61 t11 "[B" := E58.ext E63
  have V74 : own_Arr Z h61 b30 .int (0 : Int32) c48 := V49.ext E63
  show own_Go _ _ _ _ (T59.setTop (mkF m 26 #[.val (.ref r0), .val (.ref r1), .val (.ref r2), .val (.ref t11), .unset, .unset] [(.ref b62)]))
  refine own_go (fun t_ k_ => XS.astore A60.here hx rfl (hb hby d2_26) rfl rfl (l' := #[.val (.ref r0), .val (.ref r1), .val (.ref r2), .val (.ref t11), .val (.ref b62), .unset]) rfl k_) ?_
  show own_Go _ _ _ _ (T59.setTop (mkF m 28 #[.val (.ref r0), .val (.ref r1), .val (.ref r2), .val (.ref t11), .val (.ref b62), .unset] []))
  refine own_go (fun t_ k_ => XS.aloadN A60.here hx rfl (hb hby d2_28) rfl rfl k_) ?_
  show own_Go _ _ _ _ (T59.setTop (mkF m 29 #[.val (.ref r0), .val (.ref r1), .val (.ref r2), .val (.ref t11), .val (.ref b62), .unset] [(.ref t11)]))
  refine own_go (fun t_ k_ => XS.iconst A60.here hx rfl (hb hby d2_29) k_) ?_
  show own_Go _ _ _ _ (T59.setTop (mkF m 30 #[.val (.ref r0), .val (.ref r1), .val (.ref r2), .val (.ref t11), .val (.ref b62), .unset] [(.int (0 : Int32)), (.ref t11)]))
  refine own_go (fun t_ k_ => XS.aloadN A60.here hx rfl (hb hby d2_30) rfl rfl k_) ?_
  show own_Go _ _ _ _ (T59.setTop (mkF m 31 #[.val (.ref r0), .val (.ref r1), .val (.ref r2), .val (.ref t11), .val (.ref b62), .unset] [(.ref t11), (.int (0 : Int32)), (.ref t11)]))
  refine own_len A60 hx hZ V72 rfl rfl (hb hby d2_31) ?_
  show own_Go _ _ _ _ (T59.setTop (mkF m 32 #[.val (.ref r0), .val (.ref r1), .val (.ref r2), .val (.ref t11), .val (.ref b62), .unset] [(.int (3 : Int32)), (.int (0 : Int32)), (.ref t11)]))
  refine own_go (fun t_ k_ => XS.aload A60.here hx rfl (hb hby d2_32) rfl rfl k_) ?_
  show own_Go _ _ _ _ (T59.setTop (mkF m 34 #[.val (.ref r0), .val (.ref r1), .val (.ref r2), .val (.ref t11), .val (.ref b62), .unset] [(.ref b62), (.int (3 : Int32)), (.int (0 : Int32)), (.ref t11)]))
  refine own_callS A60 hx hZ hown (y := (⟨"com/example/indexloom/indexloom/data/DataHeader", "split", "([BII[I)I"⟩ : MethodName)) (hw _ (List.mem_of_getElem? (i := 63) rfl)) (hw _ (List.mem_of_getElem? (i := 64) rfl)) (hw _ (List.mem_of_getElem? (i := 8) rfl)) (hw _ (List.mem_of_getElem? (i := 65) rfl)) (by decide) (argsL := [(.ref t11), (.int (0 : Int32)), (.int (3 : Int32)), (.ref b62)]) (rest := []) (rm10 l Z a0 hw t11 b62 0 3 2 (3 : Int32) (fun j => ([97, 44, 98] : List Int32).getD j.toNatClampNeg 0) (fun _ => 0) (fun i => decide (i = 1)) (fun _ => false) h61 n0 (by decide) (by decide) own_clsH (by decide) (by decide) V72 V64 ne_t11_b62 g_b62) 0 (by decide) (by decide) rfl (by rw [hml]; rfl) (lenOf pd___BII_I_I rfl) rfl (by show 2 * 0 + _ ≤ _; exact Nat.le_of_eq rfl) (hb hby d2_34) (by decide) (by decide) (fun v78 T75 h77 A76 hQ79 => ?_)
  obtain ⟨rfl, K80, c81, V82, B83⟩ := hQ79
  have O84 : Old Z n0 h77 := O66.keep K80 (allS g_b62 all0)
  have Z85 : n0 ≤ h77.size := Nat.le_trans Z67 K80.1
  have E86 : Exa Z h77 r0 "com/example/indexloom/indexloom/data/DataHeader" := E68.keep K80
  have F87 : Fld Z h77 r0 "com/example/indexloom/indexloom/data/DataHeader" "file" "Ljava/lang/String;" .null := F69.keep K80 (ninS ne_r0_b62 nin0)
  have F88 : Fld Z h77 r0 "com/example/indexloom/indexloom/data/DataHeader" "names" "[Ljava/lang/String;" .null := F70.keep K80 (ninS ne_r0_b62 nin0)
  have K89 : Keep h0 h77 [r0] := K71.trans K80 (allS (Or.inr nw_b62) all0)
  have V90 : own_Arr Z h77 t11 .byte (3 : Int32) (fun j => ([97, 44, 98] : List Int32).getD j.toNatClampNeg 0) := V72.keep K80 (ninS ne_t11_b62 nin0)
  have E91 : Exa Z h77 t11 "[B" := E73.keep K80
  have V92 : own_Arr Z h77 b30 .int (0 : Int32) c48 := V74.keep K80 (ninS ne_b30_b62 nin0)
  rw [show Int32.ofNat (own_fields (fun i => decide (i = 1)) (fun _ => false) 3 (3 - 0 + 1) 0).length = (2 : Int32) from by decide +kernel]
  have hv93 : c81 (0 : Int32) = (0 : Int32) := (B83 0 (by decide)).1.trans (by decide +kernel)
  have hv94 : c81 (1 : Int32) = (1 : Int32) := (B83 0 (by decide)).2.trans (by decide +kernel)
  have hv95 : c81 (2 : Int32) = (2 : Int32) := (B83 1 (by decide)).1.trans (by decide +kernel)
  have hv96 : c81 (3 : Int32) = (3 : Int32) := (B83 1 (by decide)).2.trans (by decide +kernel)
  show own_Go _ _ _ _ (T75.setTop (mkF m 37 #[.val (.ref r0), .val (.ref r1), .val (.ref r2), .val (.ref t11), .val (.ref b62), .unset] [(.int (2 : Int32))]))
  refine own_go (fun t_ k_ => XS.pop A76.here hx rfl (hb hby d2_37) rfl rfl k_) ?_
  show own_Go _ _ _ _ (T75.setTop (mkF m 38 #[.val (.ref r0), .val (.ref r1), .val (.ref r2), .val (.ref t11), .val (.ref b62), .unset] []))
  refine own_go (fun t_ k_ => XS.aloadN A76.here hx rfl (hb hby d2_38) rfl rfl k_) ?_
  show own_Go _ _ _ _ (T75.setTop (mkF m 39 #[.val (.ref r0), .val (.ref r1), .val (.ref r2), .val (.ref t11), .val (.ref b62), .unset] [(.ref r0)]))
  refine own_go (fun t_ k_ => XS.aloadN A76.here hx rfl (hb hby d2_39) rfl rfl k_) ?_
  show own_Go _ _ _ _ (T75.setTop (mkF m 40 #[.val (.ref r0), .val (.ref r1), .val (.ref r2), .val (.ref t11), .val (.ref b62), .unset] [(.ref r1), (.ref r0)]))
  refine own_putF A76 hx hZ hown (host := "") (Or.inl (hw _ (List.mem_of_getElem? (i := 69) rfl))) Via.refl F87 E86 (Or.inr ⟨(hw _ (List.mem_of_getElem? (i := 70) rfl)), rfl, hnm⟩) (hw _ (List.mem_of_getElem? (i := 7) rfl)) (ty := (.object "java/lang/String")) (by decide) rfl rfl g0 rfl rfl (hb hby d2_40) (fun T97 h99 A98 W100 => ?_)
  have O101 : Old Z n0 h99 := O84.wr W100 g0
  have Z102 : n0 ≤ h99.size := Nat.le_trans Z85 (Nat.le_of_eq (Wr.size W100).symm)
  have E103 : Exa Z h99 r0 "com/example/indexloom/indexloom/data/DataHeader" := E86.wr W100
  have F104 : Fld Z h99 r0 "com/example/indexloom/indexloom/data/DataHeader" "file" "Ljava/lang/String;" (.ref r1) := F87.same W100
  have F105 : Fld Z h99 r0 "com/example/indexloom/indexloom/data/DataHeader" "names" "[Ljava/lang/String;" .null := F88.other W100 (Or.inr (slot_ne (Or.inr (hw _ (List.mem_of_getElem? (i := 74) rfl))) (Or.inr (hw _ (List.mem_of_getElem? (i := 70) rfl))) (by decide) (t := (.array (.object "java/lang/String"))) (t' := (.object "java/lang/String")) (by decide) (by decide)))
  have K106 : Keep h0 h99 [r0] := K89.wr W100 (Or.inl (List.mem_of_getElem? (i := 0) rfl))
  have V107 : own_Arr Z h99 t11 .byte (3 : Int32) (fun j => ([97, 44, 98] : List Int32).getD j.toNatClampNeg 0) := V90.other W100 (Ne.symm ne_r0_t11)
  have E108 : Exa Z h99 t11 "[B" := E91.wr W100
  have V109 : own_Arr Z h99 b30 .int (0 : Int32) c48 := V92.other W100 (Ne.symm ne_r0_b30)
  have V110 : own_Arr Z h99 b62 .int (4 : Int32) c81 := V82.other W100 (Ne.symm ne_r0_b62)
  show own_Go _ _ _ _ (T97.setTop (mkF m 43 #[.val (.ref r0), .val (.ref r1), .val (.ref r2), .val (.ref t11), .val (.ref b62), .unset] []))
  refine own_go (fun t_ k_ => XS.aloadN A98.here hx rfl (hb hby d2_43) rfl rfl k_) ?_
  show own_Go _ _ _ _ (T97.setTop (mkF m 44 #[.val (.ref r0), .val (.ref r1), .val (.ref r2), .val (.ref t11), .val (.ref b62), .unset] [(.ref r0)]))
  refine own_go (fun t_ k_ => XS.aload A98.here hx rfl (hb hby d2_44) rfl rfl k_) ?_
  show own_Go _ _ _ _ (T97.setTop (mkF m 46 #[.val (.ref r0), .val (.ref r1), .val (.ref r2), .val (.ref t11), .val (.ref b62), .unset] [(.ref b62), (.ref r0)]))
  refine own_len A98 hx hZ V110 rfl rfl (hb hby d2_46) ?_
  show own_Go _ _ _ _ (T97.setTop (mkF m 47 #[.val (.ref r0), .val (.ref r1), .val (.ref r2), .val (.ref t11), .val (.ref b62), .unset] [(.int (4 : Int32)), (.ref r0)]))
  refine own_go (fun t_ k_ => XS.iconst A98.here hx rfl (hb hby d2_47) k_) ?_
  show own_Go _ _ _ _ (T97.setTop (mkF m 48 #[.val (.ref r0), .val (.ref r1), .val (.ref r2), .val (.ref t11), .val (.ref b62), .unset] [(.int (2 : Int32)), (.int (4 : Int32)), (.ref r0)]))
  refine own_go (fun t_ k_ => XS.idiv A98.here hx rfl (hb hby d2_48) rfl (by decide) k_) ?_
  show own_Go _ _ _ _ (T97.setTop (mkF m 49 #[.val (.ref r0), .val (.ref r1), .val (.ref r2), .val (.ref t11), .val (.ref b62), .unset] [(.int (2 : Int32)), (.ref r0)]))
  refine own_newR A98 hx hZ hown (hw _ (List.mem_of_getElem? (i := 71) rfl)) (hw _ (List.mem_of_getElem? (i := 72) rfl)) rfl (hb hby d2_49) rfl (by decide) 2 (by decide) (by decide) (by decide) (by decide) (fun T111 h113 b114 ha_b114 A112 E115 V116 => ?_)
  have ne_r0_b114 : r0 ≠ b114 := Nat.ne_of_lt (by rw [ha_b114]; exact E103.lt)
  have ne_t11_b114 : t11 ≠ b114 := Nat.ne_of_lt (by rw [ha_b114]; exact V107.lt)
  have ne_b30_b114 : b30 ≠ b114 := Nat.ne_of_lt (by rw [ha_b114]; exact V109.lt)
  have ne_b62_b114 : b62 ≠ b114 := Nat.ne_of_lt (by rw [ha_b114]; exact V110.lt)
  have g_b114 : n0 ≤ b114 := by rw [ha_b114]; exact Z102
  have nw_b114 : h0.size ≤ b114 := by rw [ha_b114]; exact K106.1
  have O117 : Old Z n0 h113 := O101.ext E115
  have Z118 : n0 ≤ h113.size := Nat.le_trans Z102 E115.1
  have E119 : Exa Z h113 r0 "com/example/indexloom/indexloom/data/DataHeader" := E103.ext E115
  have F120 : Fld Z h113 r0 "com/example/indexloom/indexloom/data/DataHeader" "file" "Ljava/lang/String;" (.ref r1) := F104.ext E115
  have F121 : Fld Z h113 r0 "com/example/indexloom/indexloom/data/DataHeader" "names" "[Ljava/lang/String;" .null := F105.ext E115
  have K122 : Keep h0 h113 [r0] := K106.ext E115
  have V123 : own_Arr Z h113 t11 .byte (3 : Int32) (fun j => ([97, 44, 98] : List Int32).getD j.toNatClampNeg 0) := V107.ext E115
  have E124 : Exa Z h113 t11 "[B" := E108.ext E115
  have V125 : own_Arr Z h113 b30 .int (0 : Int32) c48 := V109.ext E115
  have V126 : own_Arr Z h113 b62 .int (4 : Int32) c81 := V110.ext E115
  show own_Go _ _ _ _ (T111.setTop (mkF m 52 #[.val (.ref r0), .val (.ref r1), .val (.ref r2), .val (.ref t11), .val (.ref b62), .unset] [(.ref b114), (.ref r0)]))
  refine own_putF A112 hx hZ hown (host := "") (Or.inl (hw _ (List.mem_of_getElem? (i := 73) rfl))) Via.refl F121 E119 (Or.inr ⟨(hw _ (List.mem_of_getElem? (i := 74) rfl)), rfl, hnm⟩) (hw _ (List.mem_of_getElem? (i := 7) rfl)) (ty := (.array (.object "java/lang/String"))) (by decide) rfl rfl g0 rfl rfl (hb hby d2_52) (fun T127 h129 A128 W130 => ?_)
  have O131 : Old Z n0 h129 := O117.wr W130 g0
  have Z132 : n0 ≤ h129.size := Nat.le_trans Z118 (Nat.le_of_eq (Wr.size W130).symm)
  have E133 : Exa Z h129 r0 "com/example/indexloom/indexloom/data/DataHeader" := E119.wr W130
  have F134 : Fld Z h129 r0 "com/example/indexloom/indexloom/data/DataHeader" "file" "Ljava/lang/String;" (.ref r1) := F120.other W130 (Or.inr (slot_ne (Or.inr (hw _ (List.mem_of_getElem? (i := 70) rfl))) (Or.inr (hw _ (List.mem_of_getElem? (i := 74) rfl))) (by decide) (t := (.object "java/lang/String")) (t' := (.array (.object "java/lang/String"))) (by decide) (by decide)))
  have F135 : Fld Z h129 r0 "com/example/indexloom/indexloom/data/DataHeader" "names" "[Ljava/lang/String;" (.ref b114) := F121.same W130
  have K136 : Keep h0 h129 [r0] := K122.wr W130 (Or.inl (List.mem_of_getElem? (i := 0) rfl))
  have V137 : own_Arr Z h129 t11 .byte (3 : Int32) (fun j => ([97, 44, 98] : List Int32).getD j.toNatClampNeg 0) := V123.other W130 (Ne.symm ne_r0_t11)
  have E138 : Exa Z h129 t11 "[B" := E124.wr W130
  have V139 : own_Arr Z h129 b30 .int (0 : Int32) c48 := V125.other W130 (Ne.symm ne_r0_b30)
  have V140 : own_Arr Z h129 b62 .int (4 : Int32) c81 := V126.other W130 (Ne.symm ne_r0_b62)
  have V141 : own_ArrR Z h129 b114 "java/lang/String" (2 : Int32) := V116.other W130 (Ne.symm ne_r0_b114)
  show own_Go _ _ _ _ (T127.setTop (mkF m 55 #[.val (.ref r0), .val (.ref r1), .val (.ref r2), .val (.ref t11), .val (.ref b62), .unset] []))
  refine own_go (fun t_ k_ => XS.iconst A128.here hx rfl (hb hby d2_55) k_) ?_
  show own_Go _ _ _ _ (T127.setTop (mkF m 56 #[.val (.ref r0), .val (.ref r1), .val (.ref r2), .val (.ref t11), .val (.ref b62), .unset] [(.int (0 : Int32))]))
  refine own_go (fun t_ k_ => XS.istore A128.here hx rfl (hb hby d2_56) rfl (l' := #[.val (.ref r0), .val (.ref r1), .val (.ref r2), .val (.ref t11), .val (.ref b62), .val (.int (0 : Int32))]) rfl k_) ?_
  show own_Go _ _ _ _ (T127.setTop (mkF m 58 #[.val (.ref r0), .val (.ref r1), .val (.ref r2), .val (.ref t11), .val (.ref b62), .val (.int (0 : Int32))] []))
  refine own_go (fun t_ k_ => XS.iload A128.here hx rfl (hb hby d2_58) rfl k_) ?_
  show own_Go _ _ _ _ (T127.setTop (mkF m 60 #[.val (.ref r0), .val (.ref r1), .val (.ref r2), .val (.ref t11), .val (.ref b62), .val (.int (0 : Int32))] [(.int (0 : Int32))]))
  refine own_go (fun t_ k_ => XS.aloadN A128.here hx rfl (hb hby d2_60) rfl rfl k_) ?_
  show own_Go _ _ _ _ (T127.setTop (mkF m 61 #[.val (.ref r0), .val (.ref r1), .val (.ref r2), .val (.ref t11), .val (.ref b62), .val (.int (0 : Int32))] [(.ref r0), (.int (0 : Int32))]))
  refine own_getF A128 hx hZ hown (host := "") (Or.inl (hw _ (List.mem_of_getElem? (i := 73) rfl))) Via.refl F135 rfl rfl (hb hby d2_61) (fun T142 A143 => ?_)
  show own_Go _ _ _ _ (T142.setTop (mkF m 64 #[.val (.ref r0), .val (.ref r1), .val (.ref r2), .val (.ref t11), .val (.ref b62), .val (.int (0 : Int32))] [(.ref b114), (.int (0 : Int32))]))
  refine own_lenR A143 hx hZ V141 rfl rfl (hb hby d2_64) ?_
  show own_Go _ _ _ _ (T142.setTop (mkF m 65 #[.val (.ref r0), .val (.ref r1), .val (.ref r2), .val (.ref t11), .val (.ref b62), .val (.int (0 : Int32))] [(.int (2 : Int32)), (.int (0 : Int32))]))
  have hc144 : (0 : Int32) < (2 : Int32) := (by decide)
  refine own_go (fun t_ k_ => XS.icmpNo A143.here hx rfl (hb hby d2_65) rfl (tlt hc144).2.1 k_) ?_
  show own_Go _ _ _ _ (T142.setTop (mkF m 68 #[.val (.ref r0), .val (.ref r1), .val (.ref r2), .val (.ref t11), .val (.ref b62), .val (.int (0 : Int32))] []))
  refine own_go (fun t_ k_ => XS.aloadN A143.here hx rfl (hb hby d2_68) rfl rfl k_) ?_
  show own_Go _ _ _ _ (T142.setTop (mkF m 69 #[.val (.ref r0), .val (.ref r1), .val (.ref r2), .val (.ref t11), .val (.ref b62), .val (.int (0 : Int32))] [(.ref r0)]))
  refine own_getF A143 hx hZ hown (host := "") (Or.inl (hw _ (List.mem_of_getElem? (i := 73) rfl))) Via.refl F135 rfl rfl (hb hby d2_69) (fun T145 A146 => ?_)
  show own_Go _ _ _ _ (T145.setTop (mkF m 72 #[.val (.ref r0), .val (.ref r1), .val (.ref r2), .val (.ref t11), .val (.ref b62), .val (.int (0 : Int32))] [(.ref b114)]))
  refine own_go (fun t_ k_ => XS.iload A146.here hx rfl (hb hby d2_72) rfl k_) ?_
  show own_Go _ _ _ _ (T145.setTop (mkF m 74 #[.val (.ref r0), .val (.ref r1), .val (.ref r2), .val (.ref t11), .val (.ref b62), .val (.int (0 : Int32))] [(.int (0 : Int32)), (.ref b114)]))
  refine own_newO A146 hx hZ hown (hw _ (List.mem_of_getElem? (i := 71) rfl)) (hw _ (List.mem_of_getElem? (i := 11) rfl)) (hw _ (List.mem_of_getElem? (i := 10) rfl)) rfl (hb hby d2_74) (by decide) (by decide) (fun T147 h149 b150 ha_b150 A148 E151 X152 D153 => ?_)
  have ne_r0_b150 : r0 ≠ b150 := Nat.ne_of_lt (by rw [ha_b150]; exact E133.lt)
  have ne_t11_b150 : t11 ≠ b150 := Nat.ne_of_lt (by rw [ha_b150]; exact V137.lt)
  have ne_b30_b150 : b30 ≠ b150 := Nat.ne_of_lt (by rw [ha_b150]; exact V139.lt)
  have ne_b62_b150 : b62 ≠ b150 := Nat.ne_of_lt (by rw [ha_b150]; exact V140.lt)
  have ne_b114_b150 : b114 ≠ b150 := Nat.ne_of_lt (by rw [ha_b150]; exact V141.lt)
  have g_b150 : n0 ≤ b150 := by rw [ha_b150]; exact Z132
  have nw_b150 : h0.size ≤ b150 := by rw [ha_b150]; exact K136.1
  have O154 : Old Z n0 h149 := O131.ext E151
  have Z155 : n0 ≤ h149.size := Nat.le_trans Z132 E151.1
  have E156 : Exa Z h149 r0 "com/example/indexloom/indexloom/data/DataHeader" := E133.ext E151
  have F157 : Fld Z h149 r0 "com/example/indexloom/indexloom/data/DataHeader" "file" "Ljava/lang/String;" (.ref r1) := F134.ext E151
  have F158 : Fld Z h149 r0 "com/example/indexloom/indexloom/data/DataHeader" "names" "[Ljava/lang/String;" (.ref b114) := F135.ext E151
  have K159 : Keep h0 h149 [r0] := K136.ext E151
  have V160 : own_Arr Z h149 t11 .byte (3 : Int32) (fun j => ([97, 44, 98] : List Int32).getD j.toNatClampNeg 0) := V137.ext E151
  have E161 : Exa Z h149 t11 "[B" := E138.ext E151
  have V162 : own_Arr Z h149 b30 .int (0 : Int32) c48 := V139.ext E151
  have V163 : own_Arr Z h149 b62 .int (4 : Int32) c81 := V140.ext E151
  have V164 : own_ArrR Z h149 b114 "java/lang/String" (2 : Int32) := V141.ext E151
  have F165 : Fld Z h149 b150 "java/lang/String" "value" "[B" .null := D153 (Or.inr (hw _ (List.mem_of_getElem? (i := 12) rfl))) (ty := (.array .byte)) (by decide)
  have F166 : Fld Z h149 b150 "java/lang/String" "coder" "B" (.int (0 : Int32)) := D153 (Or.inr (hw _ (List.mem_of_getElem? (i := 13) rfl))) (ty := .byte) (by decide)
  show own_Go _ _ _ _ (T147.setTop (mkF m 77 #[.val (.ref r0), .val (.ref r1), .val (.ref r2), .val (.ref t11), .val (.ref b62), .val (.int (0 : Int32))] [(.ref b150), (.int (0 : Int32)), (.ref b114)]))
  refine own_go (fun t_ k_ => XS.dup A148.here hx rfl (hb hby d2_77) rfl rfl k_) ?_
  show own_Go _ _ _ _ (T147.setTop (mkF m 78 #[.val (.ref r0), .val (.ref r1), .val (.ref r2), .val (.ref t11), .val (.ref b62), .val (.int (0 : Int32))] [(.ref b150), (.ref b150), (.int (0 : Int32)), (.ref b114)]))
  refine own_go (fun t_ k_ => XS.aloadN A148.here hx rfl (hb hby d2_78) rfl rfl k_) ?_
  show own_Go _ _ _ _ (T147.setTop (mkF m 79 #[.val (.ref r0), .val (.ref r1), .val (.ref r2), .val (.ref t11), .val (.ref b62), .val (.int (0 : Int32))] [(.ref t11), (.ref b150), (.ref b150), (.int (0 : Int32)), (.ref b114)]))
  refine own_go (fun t_ k_ => XS.aload A148.here hx rfl (hb hby d2_79) rfl rfl k_) ?_
  show own_Go _ _ _ _ (T147.setTop (mkF m 81 #[.val (.ref r0), .val (.ref r1), .val (.ref r2), .val (.ref t11), .val (.ref b62), .val (.int (0 : Int32))] [(.ref b62), (.ref t11), (.ref b150), (.ref b150), (.int (0 : Int32)), (.ref b114)]))
  refine own_go (fun t_ k_ => XS.iconst A148.here hx rfl (hb hby d2_81) k_) ?_
  show own_Go _ _ _ _ (T147.setTop (mkF m 82 #[.val (.ref r0), .val (.ref r1), .val (.ref r2), .val (.ref t11), .val (.ref b62), .val (.int (0 : Int32))] [(.int (2 : Int32)), (.ref b62), (.ref t11), (.ref b150), (.ref b150), (.int (0 : Int32)), (.ref b114)]))
  refine own_go (fun t_ k_ => XS.iload A148.here hx rfl (hb hby d2_82) rfl k_) ?_
  show own_Go _ _ _ _ (T147.setTop (mkF m 84 #[.val (.ref r0), .val (.ref r1), .val (.ref r2), .val (.ref t11), .val (.ref b62), .val (.int (0 : Int32))] [(.int (0 : Int32)), (.int (2 : Int32)), (.ref b62), (.ref t11), (.ref b150), (.ref b150), (.int (0 : Int32)), (.ref b114)]))
  refine own_go (fun t_ k_ => XS.imul A148.here hx rfl (hb hby d2_84) rfl k_) ?_
  show own_Go _ _ _ _ (T147.setTop (mkF m 85 #[.val (.ref r0), .val (.ref r1), .val (.ref r2), .val (.ref t11), .val (.ref b62), .val (.int (0 : Int32))] [(.int (0 : Int32)), (.ref b62), (.ref t11), (.ref b150), (.ref b150), (.int (0 : Int32)), (.ref b114)]))
  refine own_ldI A148 hx hZ V163 ⟨by decide, by decide⟩ rfl rfl (hb hby d2_85) ?_
  show own_Go _ _ _ _ (T147.setTop (mkF m 86 #[.val (.ref r0), .val (.ref r1), .val (.ref r2), .val (.ref t11), .val (.ref b62), .val (.int (0 : Int32))] [(.int (c81 (0 : Int32))), (.ref t11), (.ref b150), (.ref b150), (.int (0 : Int32)), (.ref b114)]))
  rw [hv93]
  show own_Go _ _ _ _ (T147.setTop (mkF m 86 #[.val (.ref r0), .val (.ref r1), .val (.ref r2), .val (.ref t11), .val (.ref b62), .val (.int (0 : Int32))] [(.int (0 : Int32)), (.ref t11), (.ref b150), (.ref b150), (.int (0 : Int32)), (.ref b114)]))
  refine own_go (fun t_ k_ => XS.aload A148.here hx rfl (hb hby d2_86) rfl rfl k_) ?_
  show own_Go _ _ _ _ (T147.setTop (mkF m 88 #[.val (.ref r0), .val (.ref r1), .val (.ref r2), .val (.ref t11), .val (.ref b62), .val (.int (0 : Int32))] [(.ref b62), (.int (0 : Int32)), (.ref t11), (.ref b150), (.ref b150), (.int (0 : Int32)), (.ref b114)]))
  refine own_go (fun t_ k_ => XS.iconst A148.here hx rfl (hb hby d2_88) k_) ?_
  show own_Go _ _ _ _ (T147.setTop (mkF m 89 #[.val (.ref r0), .val (.ref r1), .val (.ref r2), .val (.ref t11), .val (.ref b62), .val (.int (0 : Int32))] [(.int (2 : Int32)), (.ref b62), (.int (0 : Int32)), (.ref t11), (.ref b150), (.ref b150), (.int (0 : Int32)), (.ref b114)]))
  refine own_go (fun t_ k_ => XS.iload A148.here hx rfl (hb hby d2_89) rfl k_) ?_
  show own_Go _ _ _ _ (T147.setTop (mkF m 91 #[.val (.ref r0), .val (.ref r1), .val (.ref r2), .val (.ref t11), .val (.ref b62), .val (.int (0 : Int32))] [(.int (0 : Int32)), (.int (2 : Int32)), (.ref b62), (.int (0 : Int32)), (.ref t11), (.ref b150), (.ref b150), (.int (0 : Int32)), (.ref b114)]))
  refine own_go (fun t_ k_ => XS.imul A148.here hx rfl (hb hby d2_91) rfl k_) ?_
  show own_Go _ _ _ _ (T147.setTop (mkF m 92 #[.val (.ref r0), .val (.ref r1), .val (.ref r2), .val (.ref t11), .val (.ref b62), .val (.int (0 : Int32))] [(.int (0 : Int32)), (.ref b62), (.int (0 : Int32)), (.ref t11), (.ref b150), (.ref b150), (.int (0 : Int32)), (.ref b114)]))
  refine own_go (fun t_ k_ => XS.iconst A148.here hx rfl (hb hby d2_92) k_) ?_
  show own_Go _ _ _ _ (T147.setTop (mkF m 93 #[.val (.ref r0), .val (.ref r1), .val (.ref r2), .val (.ref t11), .val (.ref b62), .val (.int (0 : Int32))] [(.int (1 : Int32)), (.int (0 : Int32)), (.ref b62), (.int (0 : Int32)), (.ref t11), (.ref b150), (.ref b150), (.int (0 : Int32)), (.ref b114)]))
  refine own_go (fun t_ k_ => XS.iadd A148.here hx rfl (hb hby d2_93) rfl k_) ?_
  show own_Go _ _ _ _ (T147.setTop (mkF m 94 #[.val (.ref r0), .val (.ref r1), .val (.ref r2), .val (.ref t11), .val (.ref b62), .val (.int (0 : Int32))] [(.int (1 : Int32)), (.ref b62), (.int (0 : Int32)), (.ref t11), (.ref b150), (.ref b150), (.int (0 : Int32)), (.ref b114)]))
  refine own_ldI A148 hx hZ V163 ⟨by decide, by decide⟩ rfl rfl (hb hby d2_94) ?_
  show own_Go _ _ _ _ (T147.setTop (mkF m 95 #[.val (.ref r0), .val (.ref r1), .val (.ref r2), .val (.ref t11), .val (.ref b62), .val (.int (0 : Int32))] [(.int (c81 (1 : Int32))), (.int (0 : Int32)), (.ref t11), (.ref b150), (.ref b150), (.int (0 : Int32)), (.ref b114)]))
  rw [hv94]
  show own_Go _ _ _ _ (T147.setTop (mkF m 95 #[.val (.ref r0), .val (.ref r1), .val (.ref r2), .val (.ref t11), .val (.ref b62), .val (.int (0 : Int32))] [(.int (1 : Int32)), (.int (0 : Int32)), (.ref t11), (.ref b150), (.ref b150), (.int (0 : Int32)), (.ref b114)]))
  refine own_go (fun t_ k_ => XS.aload A148.here hx rfl (hb hby d2_95) rfl rfl k_) ?_
  show own_Go _ _ _ _ (T147.setTop (mkF m 97 #[.val (.ref r0), .val (.ref r1), .val (.ref r2), .val (.ref t11), .val (.ref b62), .val (.int (0 : Int32))] [(.ref b62), (.int (1 : Int32)), (.int (0 : Int32)), (.ref t11), (.ref b150), (.ref b150), (.int (0 : Int32)), (.ref b114)]))
  refine own_go (fun t_ k_ => XS.iconst A148.here hx rfl (hb hby d2_97) k_) ?_
  show own_Go _ _ _ _ (T147.setTop (mkF m 98 #[.val (.ref r0), .val (.ref r1), .val (.ref r2), .val (.ref t11), .val (.ref b62), .val (.int (0 : Int32))] [(.int (2 : Int32)), (.ref b62), (.int (1 : Int32)), (.int (0 : Int32)), (.ref t11), (.ref b150), (.ref b150), (.int (0 : Int32)), (.ref b114)]))
  refine own_go (fun t_ k_ => XS.iload A148.here hx rfl (hb hby d2_98) rfl k_) ?_
  show own_Go _ _ _ _ (T147.setTop (mkF m 100 #[.val (.ref r0), .val (.ref r1), .val (.ref r2), .val (.ref t11), .val (.ref b62), .val (.int (0 : Int32))] [(.int (0 : Int32)), (.int (2 : Int32)), (.ref b62), (.int (1 : Int32)), (.int (0 : Int32)), (.ref t11), (.ref b150), (.ref b150), (.int (0 : Int32)), (.ref b114)]))
  refine own_go (fun t_ k_ => XS.imul A148.here hx rfl (hb hby d2_100) rfl k_) ?_
  show own_Go _ _ _ _ (T147.setTop (mkF m 101 #[.val (.ref r0), .val (.ref r1), .val (.ref r2), .val (.ref t11), .val (.ref b62), .val (.int (0 : Int32))] [(.int (0 : Int32)), (.ref b62), (.int (1 : Int32)), (.int (0 : Int32)), (.ref t11), (.ref b150), (.ref b150), (.int (0 : Int32)), (.ref b114)]))
  refine own_ldI A148 hx hZ V163 ⟨by decide, by decide⟩ rfl rfl (hb hby d2_101) ?_
  show own_Go _ _ _ _ (T147.setTop (mkF m 102 #[.val (.ref r0), .val (.ref r1), .val (.ref r2), .val (.ref t11), .val (.ref b62), .val (.int (0 : Int32))] [(.int (c81 (0 : Int32))), (.int (1 : Int32)), (.int (0 : Int32)), (.ref t11), (.ref b150), (.ref b150), (.int (0 : Int32)), (.ref b114)]))
  rw [hv93]
  show own_Go _ _ _ _ (T147.setTop (mkF m 102 #[.val (.ref r0), .val (.ref r1), .val (.ref r2), .val (.ref t11), .val (.ref b62), .val (.int (0 : Int32))] [(.int (0 : Int32)), (.int (1 : Int32)), (.int (0 : Int32)), (.ref t11), (.ref b150), (.ref b150), (.int (0 : Int32)), (.ref b114)]))
  refine own_go (fun t_ k_ => XS.isub A148.here hx rfl (hb hby d2_102) rfl k_) ?_
  show own_Go _ _ _ _ (T147.setTop (mkF m 103 #[.val (.ref r0), .val (.ref r1), .val (.ref r2), .val (.ref t11), .val (.ref b62), .val (.int (0 : Int32))] [(.int (1 : Int32)), (.int (0 : Int32)), (.ref t11), (.ref b150), (.ref b150), (.int (0 : Int32)), (.ref b114)]))
  refine own_getS A148 hx hZ hown (host := "") (Or.inl (hw _ (List.mem_of_getElem? (i := 23) rfl))) Via.refl (S_UTF_8.ext O154.2) rfl (hb hby d2_103) (fun T167 A168 => ?_)
  show own_Go _ _ _ _ (T167.setTop (mkF m 106 #[.val (.ref r0), .val (.ref r1), .val (.ref r2), .val (.ref t11), .val (.ref b62), .val (.int (0 : Int32))] [(.ref u8), (.int (1 : Int32)), (.int (0 : Int32)), (.ref t11), (.ref b150), (.ref b150), (.int (0 : Int32)), (.ref b114)]))
  refine own_callI A168 hx hZ (y := (⟨"java/lang/String", "<init>", "([BIILjava/nio/charset/Charset;)V"⟩ : MethodName)) rfl hown (hw _ (List.mem_of_getElem? (i := 75) rfl)) (hw _ (List.mem_of_getElem? (i := 76) rfl)) (hw _ (List.mem_of_getElem? (i := 10) rfl)) (hw _ (List.mem_of_getElem? (i := 77) rfl)) (by decide) (b := b150) (argsL := [(.ref t11), (.int (0 : Int32)), (.int (1 : Int32)), (.ref u8)]) (rest := [(.ref b150), (.int (0 : Int32)), (.ref b114)]) (rm12_0_1 l Z a0 hw b150 t11 u8 z_C s_F h149 n0 O154 Z155 X152 F165 F166 g_b150 V160 E161 (Ne.symm ne_t11_b150) hz hr_F E8 S_COMPACT_STRINGS S_INSTANCE S_SIOOBE_FORMATTER) 3 (by decide) (by decide) rfl (by rw [hml]; rfl) (lenOf pd___BIILjava_nio_charset_Charset__V rfl) rfl (by show 2 * 0 + _ ≤ _; exact Nat.le_of_eq rfl) (hb hby d2_106) (by decide) (by decide) (fun v172 T169 h171 A170 hQ173 => ?_)
  obtain ⟨rfl, K174⟩ := hQ173
  have O175 : Old Z n0 h171 := O154.keep K174 (allS g_b150 all0)
  have Z176 : n0 ≤ h171.size := Nat.le_trans Z155 K174.1
  have E177 : Exa Z h171 r0 "com/example/indexloom/indexloom/data/DataHeader" := E156.keep K174
  have F178 : Fld Z h171 r0 "com/example/indexloom/indexloom/data/DataHeader" "file" "Ljava/lang/String;" (.ref r1) := F157.keep K174 (ninS ne_r0_b150 nin0)
  have F179 : Fld Z h171 r0 "com/example/indexloom/indexloom/data/DataHeader" "names" "[Ljava/lang/String;" (.ref b114) := F158.keep K174 (ninS ne_r0_b150 nin0)
  have K180 : Keep h0 h171 [r0] := K159.trans K174 (allS (Or.inr nw_b150) all0)
  have V181 : own_Arr Z h171 t11 .byte (3 : Int32) (fun j => ([97, 44, 98] : List Int32).getD j.toNatClampNeg 0) := V160.keep K174 (ninS ne_t11_b150 nin0)
  have E182 : Exa Z h171 t11 "[B" := E161.keep K174
  have V183 : own_Arr Z h171 b30 .int (0 : Int32) c48 := V162.keep K174 (ninS ne_b30_b150 nin0)
  have V184 : own_Arr Z h171 b62 .int (4 : Int32) c81 := V163.keep K174 (ninS ne_b62_b150 nin0)
  have V185 : own_ArrR Z h171 b114 "java/lang/String" (2 : Int32) := V164.keep K174 (ninS ne_b114_b150 nin0)
  have E186 : Exa Z h171 b150 "java/lang/String" := X152.keep K174
  show own_Go _ _ _ _ (T169.setTop (mkF m 109 #[.val (.ref r0), .val (.ref r1), .val (.ref r2), .val (.ref t11), .val (.ref b62), .val (.int (0 : Int32))] [(.ref b150), (.int (0 : Int32)), (.ref b114)]))
  refine own_stR A170 hx hZ V185 ⟨by decide, by decide⟩ (Ins.of_exa E186 (hw _ (List.mem_of_getElem? (i := 94) rfl))) g_b114 rfl rfl (hb hby d2_109) (fun T187 h189 A188 W190 V191 => ?_)
  have O192 : Old Z n0 h189 := O175.wr W190 g_b114
  have Z193 : n0 ≤ h189.size := Nat.le_trans Z176 (Nat.le_of_eq (Wr.size W190).symm)
  have E194 : Exa Z h189 r0 "com/example/indexloom/indexloom/data/DataHeader" := E177.wr W190
  have F195 : Fld Z h189 r0 "com/example/indexloom/indexloom/data/DataHeader" "file" "Ljava/lang/String;" (.ref r1) := F178.other W190 (Or.inl ne_r0_b114)
  have F196 : Fld Z h189 r0 "com/example/indexloom/indexloom/data/DataHeader" "names" "[Ljava/lang/String;" (.ref b114) := F179.other W190 (Or.inl ne_r0_b114)
  have K197 : Keep h0 h189 [r0] := K180.wr W190 (Or.inr nw_b114)
  have V198 : own_Arr Z h189 t11 .byte (3 : Int32) (fun j => ([97, 44, 98] : List Int32).getD j.toNatClampNeg 0) := V181.other W190 ne_t11_b114
  have E199 : Exa Z h189 t11 "[B" := E182.wr W190
  have V200 : own_Arr Z h189 b30 .int (0 : Int32) c48 := V183.other W190 ne_b30_b114
  have V201 : own_Arr Z h189 b62 .int (4 : Int32) c81 := V184.other W190 ne_b62_b114
  have V202 : own_ArrR Z h189 b114 "java/lang/String" (2 : Int32) := V191
  have E203 : Exa Z h189 b150 "java/lang/String" := E186.wr W190
  show own_Go _ _ _ _ (T187.setTop (mkF m 110 #[.val (.ref r0), .val (.ref r1), .val (.ref r2), .val (.ref t11), .val (.ref b62), .val (.int (0 : Int32))] []))
  refine own_go (fun t_ k_ => XS.iinc A188.here hx rfl (hb hby d2_110) rfl (l' := #[.val (.ref r0), .val (.ref r1), .val (.ref r2), .val (.ref t11), .val (.ref b62), .val (.int (1 : Int32))]) rfl k_) ?_
  show own_Go _ _ _ _ (T187.setTop (mkF m 113 #[.val (.ref r0), .val (.ref r1), .val (.ref r2), .val (.ref t11), .val (.ref b62), .val (.int (1 : Int32))] []))
  refine own_go (fun t_ k_ => XS.goto A188.here hx rfl (pc0 := 113) (pc' := 58) rfl (hb hby d2_113) (by decide) (by decide) k_) ?_
  show own_Go _ _ _ _ (T187.setTop (mkF m 58 #[.val (.ref r0), .val (.ref r1), .val (.ref r2), .val (.ref t11), .val (.ref b62), .val (.int (1 : Int32))] []))
  refine own_go (fun t_ k_ => XS.iload A188.here hx rfl (hb hby d2_58) rfl k_) ?_
  show own_Go _ _ _ _ (T187.setTop (mkF m 60 #[.val (.ref r0), .val (.ref r1), .val (.ref r2), .val (.ref t11), .val (.ref b62), .val (.int (1 : Int32))] [(.int (1 : Int32))]))
  refine own_go (fun t_ k_ => XS.aloadN A188.here hx rfl (hb hby d2_60) rfl rfl k_) ?_
  show own_Go _ _ _ _ (T187.setTop (mkF m 61 #[.val (.ref r0), .val (.ref r1), .val (.ref r2), .val (.ref t11), .val (.ref b62), .val (.int (1 : Int32))] [(.ref r0), (.int (1 : Int32))]))
  refine own_getF A188 hx hZ hown (host := "") (Or.inl (hw _ (List.mem_of_getElem? (i := 73) rfl))) Via.refl F196 rfl rfl (hb hby d2_61) (fun T204 A205 => ?_)
  show own_Go _ _ _ _ (T204.setTop (mkF m 64 #[.val (.ref r0), .val (.ref r1), .val (.ref r2), .val (.ref t11), .val (.ref b62), .val (.int (1 : Int32))] [(.ref b114), (.int (1 : Int32))]))
  refine own_lenR A205 hx hZ V202 rfl rfl (hb hby d2_64) ?_
  show own_Go _ _ _ _ (T204.setTop (mkF m 65 #[.val (.ref r0), .val (.ref r1), .val (.ref r2), .val (.ref t11), .val (.ref b62), .val (.int (1 : Int32))] [(.int (2 : Int32)), (.int (1 : Int32))]))
  have hc206 : (1 : Int32) < (2 : Int32) := (by decide)
  refine own_go (fun t_ k_ => XS.icmpNo A205.here hx rfl (hb hby d2_65) rfl (tlt hc206).2.1 k_) ?_
  show own_Go _ _ _ _ (T204.setTop (mkF m 68 #[.val (.ref r0), .val (.ref r1), .val (.ref r2), .val (.ref t11), .val (.ref b62), .val (.int (1 : Int32))] []))
  refine own_go (fun t_ k_ => XS.aloadN A205.here hx rfl (hb hby d2_68) rfl rfl k_) ?_
  show own_Go _ _ _ _ (T204.setTop (mkF m 69 #[.val (.ref r0), .val (.ref r1), .val (.ref r2), .val (.ref t11), .val (.ref b62), .val (.int (1 : Int32))] [(.ref r0)]))
  refine own_getF A205 hx hZ hown (host := "") (Or.inl (hw _ (List.mem_of_getElem? (i := 73) rfl))) Via.refl F196 rfl rfl (hb hby d2_69) (fun T207 A208 => ?_)
  show own_Go _ _ _ _ (T207.setTop (mkF m 72 #[.val (.ref r0), .val (.ref r1), .val (.ref r2), .val (.ref t11), .val (.ref b62), .val (.int (1 : Int32))] [(.ref b114)]))
  refine own_go (fun t_ k_ => XS.iload A208.here hx rfl (hb hby d2_72) rfl k_) ?_
  show own_Go _ _ _ _ (T207.setTop (mkF m 74 #[.val (.ref r0), .val (.ref r1), .val (.ref r2), .val (.ref t11), .val (.ref b62), .val (.int (1 : Int32))] [(.int (1 : Int32)), (.ref b114)]))
  refine own_newO A208 hx hZ hown (hw _ (List.mem_of_getElem? (i := 71) rfl)) (hw _ (List.mem_of_getElem? (i := 11) rfl)) (hw _ (List.mem_of_getElem? (i := 10) rfl)) rfl (hb hby d2_74) (by decide) (by decide) (fun T209 h211 b212 ha_b212 A210 E213 X214 D215 => ?_)
  have ne_r0_b212 : r0 ≠ b212 := Nat.ne_of_lt (by rw [ha_b212]; exact E194.lt)
  have ne_t11_b212 : t11 ≠ b212 := Nat.ne_of_lt (by rw [ha_b212]; exact V198.lt)
  have ne_b30_b212 : b30 ≠ b212 := Nat.ne_of_lt (by rw [ha_b212]; exact V200.lt)
  have ne_b62_b212 : b62 ≠ b212 := Nat.ne_of_lt (by rw [ha_b212]; exact V201.lt)
  have ne_b114_b212 : b114 ≠ b212 := Nat.ne_of_lt (by rw [ha_b212]; exact V202.lt)
  have ne_b150_b212 : b150 ≠ b212 := Nat.ne_of_lt (by rw [ha_b212]; exact E203.lt)
  have g_b212 : n0 ≤ b212 := by rw [ha_b212]; exact Z193
  have nw_b212 : h0.size ≤ b212 := by rw [ha_b212]; exact K197.1
  have O216 : Old Z n0 h211 := O192.ext E213
  have Z217 : n0 ≤ h211.size := Nat.le_trans Z193 E213.1
  have E218 : Exa Z h211 r0 "com/example/indexloom/indexloom/data/DataHeader" := E194.ext E213
  have F219 : Fld Z h211 r0 "com/example/indexloom/indexloom/data/DataHeader" "file" "Ljava/lang/String;" (.ref r1) := F195.ext E213
  have F220 : Fld Z h211 r0 "com/example/indexloom/indexloom/data/DataHeader" "names" "[Ljava/lang/String;" (.ref b114) := F196.ext E213
  have K221 : Keep h0 h211 [r0] := K197.ext E213
  have V222 : own_Arr Z h211 t11 .byte (3 : Int32) (fun j => ([97, 44, 98] : List Int32).getD j.toNatClampNeg 0) := V198.ext E213
  have E223 : Exa Z h211 t11 "[B" := E199.ext E213
  have V224 : own_Arr Z h211 b30 .int (0 : Int32) c48 := V200.ext E213
  have V225 : own_Arr Z h211 b62 .int (4 : Int32) c81 := V201.ext E213
  have V226 : own_ArrR Z h211 b114 "java/lang/String" (2 : Int32) := V202.ext E213
  have E227 : Exa Z h211 b150 "java/lang/String" := E203.ext E213
  have F228 : Fld Z h211 b212 "java/lang/String" "value" "[B" .null := D215 (Or.inr (hw _ (List.mem_of_getElem? (i := 12) rfl))) (ty := (.array .byte)) (by decide)
  have F229 : Fld Z h211 b212 "java/lang/String" "coder" "B" (.int (0 : Int32)) := D215 (Or.inr (hw _ (List.mem_of_getElem? (i := 13) rfl))) (ty := .byte) (by decide)
  show own_Go _ _ _ _ (T209.setTop (mkF m 77 #[.val (.ref r0), .val (.ref r1), .val (.ref r2), .val (.ref t11), .val (.ref b62), .val (.int (1 : Int32))] [(.ref b212), (.int (1 : Int32)), (.ref b114)]))
  refine own_go (fun t_ k_ => XS.dup A210.here hx rfl (hb hby d2_77) rfl rfl k_) ?_
  show own_Go _ _ _ _ (T209.setTop (mkF m 78 #[.val (.ref r0), .val (.ref r1), .val (.ref r2), .val (.ref t11), .val (.ref b62), .val (.int (1 : Int32))] [(.ref b212), (.ref b212), (.int (1 : Int32)), (.ref b114)]))
  refine own_go (fun t_ k_ => XS.aloadN A210.here hx rfl (hb hby d2_78) rfl rfl k_) ?_
  show own_Go _ _ _ _ (T209.setTop (mkF m 79 #[.val (.ref r0), .val (.ref r1), .val (.ref r2), .val (.ref t11), .val (.ref b62), .val (.int (1 : Int32))] [(.ref t11), (.ref b212), (.ref b212), (.int (1 : Int32)), (.ref b114)]))
  refine own_go (fun t_ k_ => XS.aload A210.here hx rfl (hb hby d2_79) rfl rfl k_) ?_
  show own_Go _ _ _ _ (T209.setTop (mkF m 81 #[.val (.ref r0), .val (.ref r1), .val (.ref r2), .val (.ref t11), .val (.ref b62), .val (.int (1 : Int32))] [(.ref b62), (.ref t11), (.ref b212), (.ref b212), (.int (1 : Int32)), (.ref b114)]))
  refine own_go (fun t_ k_ => XS.iconst A210.here hx rfl (hb hby d2_81) k_) ?_
  show own_Go _ _ _ _ (T209.setTop (mkF m 82 #[.val (.ref r0), .val (.ref r1), .val (.ref r2), .val (.ref t11), .val (.ref b62), .val (.int (1 : Int32))] [(.int (2 : Int32)), (.ref b62), (.ref t11), (.ref b212), (.ref b212), (.int (1 : Int32)), (.ref b114)]))
  refine own_go (fun t_ k_ => XS.iload A210.here hx rfl (hb hby d2_82) rfl k_) ?_
  show own_Go _ _ _ _ (T209.setTop (mkF m 84 #[.val (.ref r0), .val (.ref r1), .val (.ref r2), .val (.ref t11), .val (.ref b62), .val (.int (1 : Int32))] [(.int (1 : Int32)), (.int (2 : Int32)), (.ref b62), (.ref t11), (.ref b212), (.ref b212), (.int (1 : Int32)), (.ref b114)]))
  refine own_go (fun t_ k_ => XS.imul A210.here hx rfl (hb hby d2_84) rfl k_) ?_
  show own_Go _ _ _ _ (T209.setTop (mkF m 85 #[.val (.ref r0), .val (.ref r1), .val (.ref r2), .val (.ref t11), .val (.ref b62), .val (.int (1 : Int32))] [(.int (2 : Int32)), (.ref b62), (.ref t11), (.ref b212), (.ref b212), (.int (1 : Int32)), (.ref b114)]))
  refine own_ldI A210 hx hZ V225 ⟨by decide, by decide⟩ rfl rfl (hb hby d2_85) ?_
  show own_Go _ _ _ _ (T209.setTop (mkF m 86 #[.val (.ref r0), .val (.ref r1), .val (.ref r2), .val (.ref t11), .val (.ref b62), .val (.int (1 : Int32))] [(.int (c81 (2 : Int32))), (.ref t11), (.ref b212), (.ref b212), (.int (1 : Int32)), (.ref b114)]))
  rw [hv95]
  show own_Go _ _ _ _ (T209.setTop (mkF m 86 #[.val (.ref r0), .val (.ref r1), .val (.ref r2), .val (.ref t11), .val (.ref b62), .val (.int (1 : Int32))] [(.int (2 : Int32)), (.ref t11), (.ref b212), (.ref b212), (.int (1 : Int32)), (.ref b114)]))
  refine own_go (fun t_ k_ => XS.aload A210.here hx rfl (hb hby d2_86) rfl rfl k_) ?_
  show own_Go _ _ _ _ (T209.setTop (mkF m 88 #[.val (.ref r0), .val (.ref r1), .val (.ref r2), .val (.ref t11), .val (.ref b62), .val (.int (1 : Int32))] [(.ref b62), (.int (2 : Int32)), (.ref t11), (.ref b212), (.ref b212), (.int (1 : Int32)), (.ref b114)]))
  refine own_go (fun t_ k_ => XS.iconst A210.here hx rfl (hb hby d2_88) k_) ?_
  show own_Go _ _ _ _ (T209.setTop (mkF m 89 #[.val (.ref r0), .val (.ref r1), .val (.ref r2), .val (.ref t11), .val (.ref b62), .val (.int (1 : Int32))] [(.int (2 : Int32)), (.ref b62), (.int (2 : Int32)), (.ref t11), (.ref b212), (.ref b212), (.int (1 : Int32)), (.ref b114)]))
  refine own_go (fun t_ k_ => XS.iload A210.here hx rfl (hb hby d2_89) rfl k_) ?_
  show own_Go _ _ _ _ (T209.setTop (mkF m 91 #[.val (.ref r0), .val (.ref r1), .val (.ref r2), .val (.ref t11), .val (.ref b62), .val (.int (1 : Int32))] [(.int (1 : Int32)), (.int (2 : Int32)), (.ref b62), (.int (2 : Int32)), (.ref t11), (.ref b212), (.ref b212), (.int (1 : Int32)), (.ref b114)]))
  refine own_go (fun t_ k_ => XS.imul A210.here hx rfl (hb hby d2_91) rfl k_) ?_
  show own_Go _ _ _ _ (T209.setTop (mkF m 92 #[.val (.ref r0), .val (.ref r1), .val (.ref r2), .val (.ref t11), .val (.ref b62), .val (.int (1 : Int32))] [(.int (2 : Int32)), (.ref b62), (.int (2 : Int32)), (.ref t11), (.ref b212), (.ref b212), (.int (1 : Int32)), (.ref b114)]))
  refine own_go (fun t_ k_ => XS.iconst A210.here hx rfl (hb hby d2_92) k_) ?_
  show own_Go _ _ _ _ (T209.setTop (mkF m 93 #[.val (.ref r0), .val (.ref r1), .val (.ref r2), .val (.ref t11), .val (.ref b62), .val (.int (1 : Int32))] [(.int (1 : Int32)), (.int (2 : Int32)), (.ref b62), (.int (2 : Int32)), (.ref t11), (.ref b212), (.ref b212), (.int (1 : Int32)), (.ref b114)]))
  refine own_go (fun t_ k_ => XS.iadd A210.here hx rfl (hb hby d2_93) rfl k_) ?_
  show own_Go _ _ _ _ (T209.setTop (mkF m 94 #[.val (.ref r0), .val (.ref r1), .val (.ref r2), .val (.ref t11), .val (.ref b62), .val (.int (1 : Int32))] [(.int (3 : Int32)), (.ref b62), (.int (2 : Int32)), (.ref t11), (.ref b212), (.ref b212), (.int (1 : Int32)), (.ref b114)]))
  refine own_ldI A210 hx hZ V225 ⟨by decide, by decide⟩ rfl rfl (hb hby d2_94) ?_
  show own_Go _ _ _ _ (T209.setTop (mkF m 95 #[.val (.ref r0), .val (.ref r1), .val (.ref r2), .val (.ref t11), .val (.ref b62), .val (.int (1 : Int32))] [(.int (c81 (3 : Int32))), (.int (2 : Int32)), (.ref t11), (.ref b212), (.ref b212), (.int (1 : Int32)), (.ref b114)]))
  rw [hv96]
  show own_Go _ _ _ _ (T209.setTop (mkF m 95 #[.val (.ref r0), .val (.ref r1), .val (.ref r2), .val (.ref t11), .val (.ref b62), .val (.int (1 : Int32))] [(.int (3 : Int32)), (.int (2 : Int32)), (.ref t11), (.ref b212), (.ref b212), (.int (1 : Int32)), (.ref b114)]))
  refine own_go (fun t_ k_ => XS.aload A210.here hx rfl (hb hby d2_95) rfl rfl k_) ?_
  show own_Go _ _ _ _ (T209.setTop (mkF m 97 #[.val (.ref r0), .val (.ref r1), .val (.ref r2), .val (.ref t11), .val (.ref b62), .val (.int (1 : Int32))] [(.ref b62), (.int (3 : Int32)), (.int (2 : Int32)), (.ref t11), (.ref b212), (.ref b212), (.int (1 : Int32)), (.ref b114)]))
  refine own_go (fun t_ k_ => XS.iconst A210.here hx rfl (hb hby d2_97) k_) ?_
  show own_Go _ _ _ _ (T209.setTop (mkF m 98 #[.val (.ref r0), .val (.ref r1), .val (.ref r2), .val (.ref t11), .val (.ref b62), .val (.int (1 : Int32))] [(.int (2 : Int32)), (.ref b62), (.int (3 : Int32)), (.int (2 : Int32)), (.ref t11), (.ref b212), (.ref b212), (.int (1 : Int32)), (.ref b114)]))
  refine own_go (fun t_ k_ => XS.iload A210.here hx rfl (hb hby d2_98) rfl k_) ?_
  show own_Go _ _ _ _ (T209.setTop (mkF m 100 #[.val (.ref r0), .val (.ref r1), .val (.ref r2), .val (.ref t11), .val (.ref b62), .val (.int (1 : Int32))] [(.int (1 : Int32)), (.int (2 : Int32)), (.ref b62), (.int (3 : Int32)), (.int (2 : Int32)), (.ref t11), (.ref b212), (.ref b212), (.int (1 : Int32)), (.ref b114)]))
  refine own_go (fun t_ k_ => XS.imul A210.here hx rfl (hb hby d2_100) rfl k_) ?_
  show own_Go _ _ _ _ (T209.setTop (mkF m 101 #[.val (.ref r0), .val (.ref r1), .val (.ref r2), .val (.ref t11), .val (.ref b62), .val (.int (1 : Int32))] [(.int (2 : Int32)), (.ref b62), (.int (3 : Int32)), (.int (2 : Int32)), (.ref t11), (.ref b212), (.ref b212), (.int (1 : Int32)), (.ref b114)]))
  refine own_ldI A210 hx hZ V225 ⟨by decide, by decide⟩ rfl rfl (hb hby d2_101) ?_
  show own_Go _ _ _ _ (T209.setTop (mkF m 102 #[.val (.ref r0), .val (.ref r1), .val (.ref r2), .val (.ref t11), .val (.ref b62), .val (.int (1 : Int32))] [(.int (c81 (2 : Int32))), (.int (3 : Int32)), (.int (2 : Int32)), (.ref t11), (.ref b212), (.ref b212), (.int (1 : Int32)), (.ref b114)]))
  rw [hv95]
  show own_Go _ _ _ _ (T209.setTop (mkF m 102 #[.val (.ref r0), .val (.ref r1), .val (.ref r2), .val (.ref t11), .val (.ref b62), .val (.int (1 : Int32))] [(.int (2 : Int32)), (.int (3 : Int32)), (.int (2 : Int32)), (.ref t11), (.ref b212), (.ref b212), (.int (1 : Int32)), (.ref b114)]))
  refine own_go (fun t_ k_ => XS.isub A210.here hx rfl (hb hby d2_102) rfl k_) ?_
  show own_Go _ _ _ _ (T209.setTop (mkF m 103 #[.val (.ref r0), .val (.ref r1), .val (.ref r2), .val (.ref t11), .val (.ref b62), .val (.int (1 : Int32))] [(.int (1 : Int32)), (.int (2 : Int32)), (.ref t11), (.ref b212), (.ref b212), (.int (1 : Int32)), (.ref b114)]))
  refine own_getS A210 hx hZ hown (host := "") (Or.inl (hw _ (List.mem_of_getElem? (i := 23) rfl))) Via.refl (S_UTF_8.ext O216.2) rfl (hb hby d2_103) (fun T230 A231 => ?_)
  show own_Go _ _ _ _ (T230.setTop (mkF m 106 #[.val (.ref r0), .val (.ref r1), .val (.ref r2), .val (.ref t11), .val (.ref b62), .val (.int (1 : Int32))] [(.ref u8), (.int (1 : Int32)), (.int (2 : Int32)), (.ref t11), (.ref b212), (.ref b212), (.int (1 : Int32)), (.ref b114)]))
  refine own_callI A231 hx hZ (y := (⟨"java/lang/String", "<init>", "([BIILjava/nio/charset/Charset;)V"⟩ : MethodName)) rfl hown (hw _ (List.mem_of_getElem? (i := 75) rfl)) (hw _ (List.mem_of_getElem? (i := 76) rfl)) (hw _ (List.mem_of_getElem? (i := 10) rfl)) (hw _ (List.mem_of_getElem? (i := 77) rfl)) (by decide) (b := b212) (argsL := [(.ref t11), (.int (2 : Int32)), (.int (1 : Int32)), (.ref u8)]) (rest := [(.ref b212), (.int (1 : Int32)), (.ref b114)]) (rm12_2_1 l Z a0 hw b212 t11 u8 z_C s_F h211 n0 O216 Z217 X214 F228 F229 g_b212 V222 E223 (Ne.symm ne_t11_b212) hz hr_F E8 S_COMPACT_STRINGS S_INSTANCE S_SIOOBE_FORMATTER) 3 (by decide) (by decide) rfl (by rw [hml]; rfl) (lenOf pd___BIILjava_nio_charset_Charset__V rfl) rfl (by show 2 * 0 + _ ≤ _; exact Nat.le_of_eq rfl) (hb hby d2_106) (by decide) (by decide) (fun v235 T232 h234 A233 hQ236 => ?_)
  obtain ⟨rfl, K237⟩ := hQ236
  have O238 : Old Z n0 h234 := O216.keep K237 (allS g_b212 all0)
  have Z239 : n0 ≤ h234.size := Nat.le_trans Z217 K237.1
  have E240 : Exa Z h234 r0 "com/example/indexloom/indexloom/data/DataHeader" := E218.keep K237
  have F241 : Fld Z h234 r0 "com/example/indexloom/indexloom/data/DataHeader" "file" "Ljava/lang/String;" (.ref r1) := F219.keep K237 (ninS ne_r0_b212 nin0)
  have F242 : Fld Z h234 r0 "com/example/indexloom/indexloom/data/DataHeader" "names" "[Ljava/lang/String;" (.ref b114) := F220.keep K237 (ninS ne_r0_b212 nin0)
  have K243 : Keep h0 h234 [r0] := K221.trans K237 (allS (Or.inr nw_b212) all0)
  have V244 : own_Arr Z h234 t11 .byte (3 : Int32) (fun j => ([97, 44, 98] : List Int32).getD j.toNatClampNeg 0) := V222.keep K237 (ninS ne_t11_b212 nin0)
  have E245 : Exa Z h234 t11 "[B" := E223.keep K237
  have V246 : own_Arr Z h234 b30 .int (0 : Int32) c48 := V224.keep K237 (ninS ne_b30_b212 nin0)
  have V247 : own_Arr Z h234 b62 .int (4 : Int32) c81 := V225.keep K237 (ninS ne_b62_b212 nin0)
  have V248 : own_ArrR Z h234 b114 "java/lang/String" (2 : Int32) := V226.keep K237 (ninS ne_b114_b212 nin0)
  have E249 : Exa Z h234 b150 "java/lang/String" := E227.keep K237
  have E250 : Exa Z h234 b212 "java/lang/String" := X214.keep K237
  show own_Go _ _ _ _ (T232.setTop (mkF m 109 #[.val (.ref r0), .val (.ref r1), .val (.ref r2), .val (.ref t11), .val (.ref b62), .val (.int (1 : Int32))] [(.ref b212), (.int (1 : Int32)), (.ref b114)]))
  refine own_stR A233 hx hZ V248 ⟨by decide, by decide⟩ (Ins.of_exa E250 (hw _ (List.mem_of_getElem? (i := 94) rfl))) g_b114 rfl rfl (hb hby d2_109) (fun T251 h253 A252 W254 V255 => ?_)
  have O256 : Old Z n0 h253 := O238.wr W254 g_b114
  have Z257 : n0 ≤ h253.size := Nat.le_trans Z239 (Nat.le_of_eq (Wr.size W254).symm)
  have E258 : Exa Z h253 r0 "com/example/indexloom/indexloom/data/DataHeader" := E240.wr W254
  have F259 : Fld Z h253 r0 "com/example/indexloom/indexloom/data/DataHeader" "file" "Ljava/lang/String;" (.ref r1) := F241.other W254 (Or.inl ne_r0_b114)
  have F260 : Fld Z h253 r0 "com/example/indexloom/indexloom/data/DataHeader" "names" "[Ljava/lang/String;" (.ref b114) := F242.other W254 (Or.inl ne_r0_b114)
  have K261 : Keep h0 h253 [r0] := K243.wr W254 (Or.inr nw_b114)
  have V262 : own_Arr Z h253 t11 .byte (3 : Int32) (fun j => ([97, 44, 98] : List Int32).getD j.toNatClampNeg 0) := V244.other W254 ne_t11_b114
  have E263 : Exa Z h253 t11 "[B" := E245.wr W254
  have V264 : own_Arr Z h253 b30 .int (0 : Int32) c48 := V246.other W254 ne_b30_b114
  have V265 : own_Arr Z h253 b62 .int (4 : Int32) c81 := V247.other W254 ne_b62_b114
  have V266 : own_ArrR Z h253 b114 "java/lang/String" (2 : Int32) := V255
  have E267 : Exa Z h253 b150 "java/lang/String" := E249.wr W254
  have E268 : Exa Z h253 b212 "java/lang/String" := E250.wr W254
  show own_Go _ _ _ _ (T251.setTop (mkF m 110 #[.val (.ref r0), .val (.ref r1), .val (.ref r2), .val (.ref t11), .val (.ref b62), .val (.int (1 : Int32))] []))
  refine own_go (fun t_ k_ => XS.iinc A252.here hx rfl (hb hby d2_110) rfl (l' := #[.val (.ref r0), .val (.ref r1), .val (.ref r2), .val (.ref t11), .val (.ref b62), .val (.int (2 : Int32))]) rfl k_) ?_
  show own_Go _ _ _ _ (T251.setTop (mkF m 113 #[.val (.ref r0), .val (.ref r1), .val (.ref r2), .val (.ref t11), .val (.ref b62), .val (.int (2 : Int32))] []))
  refine own_go (fun t_ k_ => XS.goto A252.here hx rfl (pc0 := 113) (pc' := 58) rfl (hb hby d2_113) (by decide) (by decide) k_) ?_
  show own_Go _ _ _ _ (T251.setTop (mkF m 58 #[.val (.ref r0), .val (.ref r1), .val (.ref r2), .val (.ref t11), .val (.ref b62), .val (.int (2 : Int32))] []))
  refine own_go (fun t_ k_ => XS.iload A252.here hx rfl (hb hby d2_58) rfl k_) ?_
  show own_Go _ _ _ _ (T251.setTop (mkF m 60 #[.val (.ref r0), .val (.ref r1), .val (.ref r2), .val (.ref t11), .val (.ref b62), .val (.int (2 : Int32))] [(.int (2 : Int32))]))
  refine own_go (fun t_ k_ => XS.aloadN A252.here hx rfl (hb hby d2_60) rfl rfl k_) ?_
  show own_Go _ _ _ _ (T251.setTop (mkF m 61 #[.val (.ref r0), .val (.ref r1), .val (.ref r2), .val (.ref t11), .val (.ref b62), .val (.int (2 : Int32))] [(.ref r0), (.int (2 : Int32))]))
  refine own_getF A252 hx hZ hown (host := "") (Or.inl (hw _ (List.mem_of_getElem? (i := 73) rfl))) Via.refl F260 rfl rfl (hb hby d2_61) (fun T269 A270 => ?_)
  show own_Go _ _ _ _ (T269.setTop (mkF m 64 #[.val (.ref r0), .val (.ref r1), .val (.ref r2), .val (.ref t11), .val (.ref b62), .val (.int (2 : Int32))] [(.ref b114), (.int (2 : Int32))]))
  refine own_lenR A270 hx hZ V266 rfl rfl (hb hby d2_64) ?_
  show own_Go _ _ _ _ (T269.setTop (mkF m 65 #[.val (.ref r0), .val (.ref r1), .val (.ref r2), .val (.ref t11), .val (.ref b62), .val (.int (2 : Int32))] [(.int (2 : Int32)), (.int (2 : Int32))]))
  have hc271 : ¬ ((2 : Int32) < (2 : Int32)) := (by decide)
  refine own_go (fun t_ k_ => XS.icmpYes A270.here hx rfl (pc0 := 65) (pc' := 116) rfl (hb hby d2_65) rfl (flt hc271).2.1 (by decide) (by decide) k_) ?_
  show own_Go _ _ _ _ (T269.setTop (mkF m 116 #[.val (.ref r0), .val (.ref r1), .val (.ref r2), .val (.ref t11), .val (.ref b62), .val (.int (2 : Int32))] []))
  refine own_retV A270 hx hret hlk (by decide) (by decide) (hb hby d2_116) ?_
  exact ⟨rfl, K261, b114, g_b114, nw_b114, F260, V266⟩
theorem ef_22 (m : MethodId) (r0 : Addr) : entryFrame m #[(.ref r0)] 1 = mkF m 0 #[.val (.ref r0)] [] := by first | (simp [entryFrame, mkF, argsToLocals, Value.category]; done) | rfl
theorem d22_0 : decode prog_13_method_3_code 0 = .ok (.aload_n 0, 1) := by decide +kernel
theorem d22_1 : decode prog_13_method_3_code 1 = .ok (.getfield 29, 3) := by decide +kernel
theorem d22_4 : decode prog_13_method_3_code 4 = .ok (.arraylength, 1) := by decide +kernel
theorem d22_5 : decode prog_13_method_3_code 5 = .ok (.ireturn, 1) := by decide +kernel
set_option maxRecDepth 65536 in
set_option maxHeartbeats 40000000 in
theorem rm22 (l : Launch) (Z : State) (a0 : Array Value) (hw : ∀ d ∈ tables_1, d.before a0 Z = true) (r0 : Addr) (t0 : Addr) (h0 : Heap) (n0 : Nat) (Fn : Fld Z h0 r0 "com/example/indexloom/indexloom/data/DataHeader" "names" "[Ljava/lang/String;" (.ref t0)) (Vn : own_ArrR Z h0 t0 "java/lang/String" (2 : Int32)) :
    own_Met l Z n0 (⟨"com/example/indexloom/indexloom/data/DataHeader", "size", "()I"⟩ : MethodName) prog_13_method_3_code 1 (some .int) ({ frames := 0, cells := 0, slots := 0, locals := 0 } : Room) #[(.ref r0)] h0 (fun v h => v = some (.int 2) ∧ h0 = h) := by
  refine own_met (plainFor_of_name pn_11) ?_
  intro p e s m below meth c T0 hx hby hml hown hnm hret hlk hZ A0
  rw [ef_22]
  show own_Go _ _ _ _ (T0.setTop (mkF m 0 #[.val (.ref r0)] []))
  refine own_go (fun t_ k_ => XS.aloadN A0.here hx rfl (hb hby d22_0) rfl rfl k_) ?_
  show own_Go _ _ _ _ (T0.setTop (mkF m 1 #[.val (.ref r0)] [(.ref r0)]))
  refine own_getF A0 hx hZ hown (host := "") (Or.inl (hw _ (List.mem_of_getElem? (i := 73) rfl))) Via.refl Fn rfl rfl (hb hby d22_1) (fun T1 A2 => ?_)
  show own_Go _ _ _ _ (T1.setTop (mkF m 4 #[.val (.ref r0)] [(.ref t0)]))
  refine own_lenR A2 hx hZ Vn rfl rfl (hb hby d22_4) ?_
  show own_Go _ _ _ _ (T1.setTop (mkF m 5 #[.val (.ref r0)] [(.int (2 : Int32))]))
  refine own_retI A2 hx hret hlk (by decide) (by decide) (hb hby d22_5) ?_
  exact ⟨rfl, rfl⟩
theorem ef_21 (m : MethodId) (r0 : Addr) (r1 : Addr) : entryFrame m #[(.ref r0), (.ref r1)] 2 = mkF m 0 #[.val (.ref r0), .val (.ref r1)] [] := by first | (simp [entryFrame, mkF, argsToLocals, Value.category]; done) | rfl
theorem pn_21 : plainName "com/example/indexloom/indexloom/data/DataLine" = true := by first | (simp [plainName, overriddenIn]; done) | decide +kernel
theorem d21_0 : decode prog_14_method_1_code 0 = .ok (.aload_n 0, 1) := by decide +kernel
theorem d21_1 : decode prog_14_method_1_code 1 = .ok (.invokespecial 3, 3) := by decide +kernel
theorem d21_4 : decode prog_14_method_1_code 4 = .ok (.aload_n 0, 1) := by decide +kernel
theorem d21_5 : decode prog_14_method_1_code 5 = .ok (.aload_n 1, 1) := by decide +kernel
theorem d21_6 : decode prog_14_method_1_code 6 = .ok (.putfield 9, 3) := by decide +kernel
theorem d21_9 : decode prog_14_method_1_code 9 = .ok (.aload_n 0, 1) := by decide +kernel
theorem d21_10 : decode prog_14_method_1_code 10 = .ok (.iconst 2, 1) := by decide +kernel
theorem d21_11 : decode prog_14_method_1_code 11 = .ok (.aload_n 1, 1) := by decide +kernel
theorem d21_12 : decode prog_14_method_1_code 12 = .ok (.invokevirtual 15, 3) := by decide +kernel
theorem pd___I : parseMethodDescriptor "()I" = some ⟨[], some .int⟩ := by decide +kernel
theorem d21_15 : decode prog_14_method_1_code 15 = .ok (.imul, 1) := by decide +kernel
theorem d21_16 : decode prog_14_method_1_code 16 = .ok (.newarray .int, 2) := by decide +kernel
theorem d21_18 : decode prog_14_method_1_code 18 = .ok (.putfield 21, 3) := by decide +kernel
theorem d21_21 : decode prog_14_method_1_code 21 = .ok (.return_, 1) := by decide +kernel
set_option maxRecDepth 65536 in
set_option maxHeartbeats 40000000 in
theorem rm21 (l : Launch) (Z : State) (a0 : Array Value) (hw : ∀ d ∈ tables_1, d.before a0 Z = true) (r0 : Addr) (r1 : Addr) (t1 : Addr) (h0 : Heap) (n0 : Nat) (Z0 : n0 ≤ h0.size) (E0 : Exa Z h0 r0 "com/example/indexloom/indexloom/data/DataLine") (F0_header : Fld Z h0 r0 "com/example/indexloom/indexloom/data/DataLine" "header" "Lcom/example/indexloom/indexloom/data/DataHeader;" .null) (F0_bounds : Fld Z h0 r0 "com/example/indexloom/indexloom/data/DataLine" "bounds" "[I" .null) (F0_number : Fld Z h0 r0 "com/example/indexloom/indexloom/data/DataLine" "number" "I" (.int (0 : Int32))) (F0_bytes : Fld Z h0 r0 "com/example/indexloom/indexloom/data/DataLine" "bytes" "[B" .null) (g0 : n0 ≤ r0) (Eh : Exa Z h0 r1 "com/example/indexloom/indexloom/data/DataHeader") (Fn : Fld Z h0 r1 "com/example/indexloom/indexloom/data/DataHeader" "names" "[Ljava/lang/String;" (.ref t1)) (Vn : own_ArrR Z h0 t1 "java/lang/String" (2 : Int32)) (ne_r0_r1 : r0 ≠ r1) (ne_r0_t1 : r0 ≠ t1) :
    own_Met l Z n0 (⟨"com/example/indexloom/indexloom/data/DataLine", "<init>", "(Lcom/example/indexloom/indexloom/data/DataHeader;)V"⟩ : MethodName) prog_14_method_1_code 2 none ({ frames := 1, cells := 1, slots := 4, locals := 14 } : Room) #[(.ref r0), (.ref r1)] h0 (fun v h => v = none ∧ Keep h0 h [r0] ∧ Fld Z h r0 "com/example/indexloom/indexloom/data/DataLine" "header" "Lcom/example/indexloom/indexloom/data/DataHeader;" (.ref r1) ∧ Fld Z h r0 "com/example/indexloom/indexloom/data/DataLine" "number" "I" (.int (0 : Int32)) ∧ Fld Z h r0 "com/example/indexloom/indexloom/data/DataLine" "bytes" "[B" .null ∧ ∃ bo, n0 ≤ bo ∧ h0.size ≤ bo ∧ Fld Z h r0 "com/example/indexloom/indexloom/data/DataLine" "bounds" "[I" (.ref bo) ∧ own_Arr Z h bo .int (4 : Int32) (fun _ => 0)) := by
  refine own_met (plainFor_of_name pn_21) ?_
  intro p e s m below meth c T0 hx hby hml hown hnm hret hlk hZ A0
  rw [ef_21]
  show own_Go _ _ _ _ (T0.setTop (mkF m 0 #[.val (.ref r0), .val (.ref r1)] []))
  refine own_go (fun t_ k_ => XS.aloadN A0.here hx rfl (hb hby d21_0) rfl rfl k_) ?_
  show own_Go _ _ _ _ (T0.setTop (mkF m 1 #[.val (.ref r0), .val (.ref r1)] [(.ref r0)]))
  refine own_initO A0 hx hZ hown (hw _ (List.mem_of_getElem? (i := 122) rfl)) (hw _ (List.mem_of_getElem? (i := 21) rfl)) (hw _ (List.mem_of_getElem? (i := 22) rfl)) rfl (by rw [hml]; rfl) rfl (hb hby d21_1) (by decide) 0 (by show 2 * 0 + _ ≤ _; exact Nat.le_of_eq rfl) (by decide) (fun T1 A2 => ?_)
  show own_Go _ _ _ _ (T1.setTop (mkF m 4 #[.val (.ref r0), .val (.ref r1)] []))
  refine own_go (fun t_ k_ => XS.aloadN A2.here hx rfl (hb hby d21_4) rfl rfl k_) ?_
  show own_Go _ _ _ _ (T1.setTop (mkF m 5 #[.val (.ref r0), .val (.ref r1)] [(.ref r0)]))
  refine own_go (fun t_ k_ => XS.aloadN A2.here hx rfl (hb hby d21_5) rfl rfl k_) ?_
  show own_Go _ _ _ _ (T1.setTop (mkF m 6 #[.val (.ref r0), .val (.ref r1)] [(.ref r1), (.ref r0)]))
  refine own_putF A2 hx hZ hown (host := "") (Or.inl (hw _ (List.mem_of_getElem? (i := 123) rfl))) Via.refl F0_header E0 (Or.inr ⟨(hw _ (List.mem_of_getElem? (i := 124) rfl)), rfl, hnm⟩) (hw _ (List.mem_of_getElem? (i := 117) rfl)) (ty := (.object "com/example/indexloom/indexloom/data/DataHeader")) (by decide) rfl rfl g0 rfl rfl (hb hby d21_6) (fun T3 h5 A4 W6 => ?_)
  have Z7 : n0 ≤ h5.size := Nat.le_trans Z0 (Nat.le_of_eq (Wr.size W6).symm)
  have E8 : Exa Z h5 r0 "com/example/indexloom/indexloom/data/DataLine" := E0.wr W6
  have F9 : Fld Z h5 r0 "com/example/indexloom/indexloom/data/DataLine" "header" "Lcom/example/indexloom/indexloom/data/DataHeader;" (.ref r1) := F0_header.same W6
  have F10 : Fld Z h5 r0 "com/example/indexloom/indexloom/data/DataLine" "bounds" "[I" .null := F0_bounds.other W6 (Or.inr (slot_ne (Or.inr (hw _ (List.mem_of_getElem? (i := 131) rfl))) (Or.inr (hw _ (List.mem_of_getElem? (i := 124) rfl))) (by decide) (t := (.array .int)) (t' := (.object "com/example/indexloom/indexloom/data/DataHeader")) (by decide) (by decide)))
  have F11 : Fld Z h5 r0 "com/example/indexloom/indexloom/data/DataLine" "number" "I" (.int (0 : Int32)) := F0_number.other W6 (Or.inr (slot_ne (Or.inl (hw _ (List.mem_of_getElem? (i := 139) rfl))) (Or.inr (hw _ (List.mem_of_getElem? (i := 124) rfl))) (by decide) (t := .int) (t' := (.object "com/example/indexloom/indexloom/data/DataHeader")) (by decide) (by decide)))
  have F12 : Fld Z h5 r0 "com/example/indexloom/indexloom/data/DataLine" "bytes" "[B" .null := F0_bytes.other W6 (Or.inr (slot_ne (Or.inl (hw _ (List.mem_of_getElem? (i := 141) rfl))) (Or.inr (hw _ (List.mem_of_getElem? (i := 124) rfl))) (by decide) (t := (.array .byte)) (t' := (.object "com/example/indexloom/indexloom/data/DataHeader")) (by decide) (by decide)))
  have K13 : Keep h0 h5 [r0] := (Keep.refl h0 [r0]).wr W6 (Or.inl (List.mem_of_getElem? (i := 0) rfl))
  have E14 : Exa Z h5 r1 "com/example/indexloom/indexloom/data/DataHeader" := Eh.wr W6
  have F15 : Fld Z h5 r1 "com/example/indexloom/indexloom/data/DataHeader" "names" "[Ljava/lang/String;" (.ref t1) := Fn.other W6 (Or.inl (Ne.symm ne_r0_r1))
  have V16 : own_ArrR Z h5 t1 "java/lang/String" (2 : Int32) := Vn.other W6 (Ne.symm ne_r0_t1)
  show own_Go _ _ _ _ (T3.setTop (mkF m 9 #[.val (.ref r0), .val (.ref r1)] []))
  refine own_go (fun t_ k_ => XS.aloadN A4.here hx rfl (hb hby d21_9) rfl rfl k_) ?_
  show own_Go _ _ _ _ (T3.setTop (mkF m 10 #[.val (.ref r0), .val (.ref r1)] [(.ref r0)]))
  refine own_go (fun t_ k_ => XS.iconst A4.here hx rfl (hb hby d21_10) k_) ?_
  show own_Go _ _ _ _ (T3.setTop (mkF m 11 #[.val (.ref r0), .val (.ref r1)] [(.int (2 : Int32)), (.ref r0)]))
  refine own_go (fun t_ k_ => XS.aloadN A4.here hx rfl (hb hby d21_11) rfl rfl k_) ?_
  show own_Go _ _ _ _ (T3.setTop (mkF m 12 #[.val (.ref r0), .val (.ref r1)] [(.ref r1), (.int (2 : Int32)), (.ref r0)]))
  refine own_callV A4 hx hZ (y := (⟨"com/example/indexloom/indexloom/data/DataHeader", "size", "()I"⟩ : MethodName)) (z := (⟨"com/example/indexloom/indexloom/data/DataHeader", "size", "()I"⟩ : MethodName)) hown (hw _ (List.mem_of_getElem? (i := 125) rfl)) (hw _ (List.mem_of_getElem? (i := 126) rfl)) (hw _ (List.mem_of_getElem? (i := 128) rfl)) (hw _ (List.mem_of_getElem? (i := 127) rfl)) (hw _ (List.mem_of_getElem? (i := 8) rfl)) (hw _ (List.mem_of_getElem? (i := 129) rfl)) (notFace_of_selects (args := #[]) (mvT hZ (hw _ (List.mem_of_getElem? (i := 128) rfl)))) (by decide) (b := r1) (argsL := []) (rest := [(.int (2 : Int32)), (.ref r0)]) E14 (rm22 l Z a0 hw r1 t1 h5 n0 F15 V16) 2 (by decide) (by decide) rfl (by rw [hml]; rfl) (lenOf pd___I rfl) rfl (by show 2 * 0 + _ ≤ _; exact Nat.le_of_eq rfl) (hb hby d21_12) (by decide) (by decide) (fun v20 T17 h19 A18 hQ21 => ?_)
  obtain ⟨rfl, rfl⟩ := hQ21
  show own_Go _ _ _ _ (T17.setTop (mkF m 15 #[.val (.ref r0), .val (.ref r1)] [(.int (2 : Int32)), (.int (2 : Int32)), (.ref r0)]))
  refine own_go (fun t_ k_ => XS.imul A18.here hx rfl (hb hby d21_15) rfl k_) ?_
  show own_Go _ _ _ _ (T17.setTop (mkF m 16 #[.val (.ref r0), .val (.ref r1)] [(.int (4 : Int32)), (.ref r0)]))
  refine own_newP A18 hx hZ (hw _ (List.mem_of_getElem? (i := 62) rfl)) rfl rfl (hb hby d21_16) rfl (by decide) 4 (by decide) (by decide) (by decide) (by decide) (fun T22 h24 b25 ha_b25 A23 E26 V27 R28 => ?_)
  have ne_r0_b25 : r0 ≠ b25 := Nat.ne_of_lt (by rw [ha_b25]; exact E8.lt)
  have ne_r1_b25 : r1 ≠ b25 := Nat.ne_of_lt (by rw [ha_b25]; exact E14.lt)
  have ne_t1_b25 : t1 ≠ b25 := Nat.ne_of_lt (by rw [ha_b25]; exact V16.lt)
  have g_b25 : n0 ≤ b25 := by rw [ha_b25]; exact Z7
  have nw_b25 : h0.size ≤ b25 := by rw [ha_b25]; exact K13.1
  have Z29 : n0 ≤ h24.size := Nat.le_trans Z7 E26.1
  have E30 : Exa Z h24 r0 "com/example/indexloom/indexloom/data/DataLine" := E8.ext E26
  have F31 : Fld Z h24 r0 "com/example/indexloom/indexloom/data/DataLine" "header" "Lcom/example/indexloom/indexloom/data/DataHeader;" (.ref r1) := F9.ext E26
  have F32 : Fld Z h24 r0 "com/example/indexloom/indexloom/data/DataLine" "bounds" "[I" .null := F10.ext E26
  have F33 : Fld Z h24 r0 "com/example/indexloom/indexloom/data/DataLine" "number" "I" (.int (0 : Int32)) := F11.ext E26
  have F34 : Fld Z h24 r0 "com/example/indexloom/indexloom/data/DataLine" "bytes" "[B" .null := F12.ext E26
  have K35 : Keep h0 h24 [r0] := K13.ext E26
  have E36 : Exa Z h24 r1 "com/example/indexloom/indexloom/data/DataHeader" := E14.ext E26
  have F37 : Fld Z h24 r1 "com/example/indexloom/indexloom/data/DataHeader" "names" "[Ljava/lang/String;" (.ref t1) := F15.ext E26
  have V38 : own_ArrR Z h24 t1 "java/lang/String" (2 : Int32) := V16.ext E26
  show own_Go _ _ _ _ (T22.setTop (mkF m 18 #[.val (.ref r0), .val (.ref r1)] [(.ref b25), (.ref r0)]))
  refine own_putF A23 hx hZ hown (host := "") (Or.inl (hw _ (List.mem_of_getElem? (i := 130) rfl))) Via.refl F32 E30 (Or.inr ⟨(hw _ (List.mem_of_getElem? (i := 131) rfl)), rfl, hnm⟩) (hw _ (List.mem_of_getElem? (i := 117) rfl)) (ty := (.array .int)) (by decide) rfl rfl g0 rfl rfl (hb hby d21_18) (fun T39 h41 A40 W42 => ?_)
  have Z43 : n0 ≤ h41.size := Nat.le_trans Z29 (Nat.le_of_eq (Wr.size W42).symm)
  have E44 : Exa Z h41 r0 "com/example/indexloom/indexloom/data/DataLine" := E30.wr W42
  have F45 : Fld Z h41 r0 "com/example/indexloom/indexloom/data/DataLine" "header" "Lcom/example/indexloom/indexloom/data/DataHeader;" (.ref r1) := F31.other W42 (Or.inr (slot_ne (Or.inr (hw _ (List.mem_of_getElem? (i := 124) rfl))) (Or.inr (hw _ (List.mem_of_getElem? (i := 131) rfl))) (by decide) (t := (.object "com/example/indexloom/indexloom/data/DataHeader")) (t' := (.array .int)) (by decide) (by decide)))
  have F46 : Fld Z h41 r0 "com/example/indexloom/indexloom/data/DataLine" "bounds" "[I" (.ref b25) := F32.same W42
  have F47 : Fld Z h41 r0 "com/example/indexloom/indexloom/data/DataLine" "number" "I" (.int (0 : Int32)) := F33.other W42 (Or.inr (slot_ne (Or.inl (hw _ (List.mem_of_getElem? (i := 139) rfl))) (Or.inr (hw _ (List.mem_of_getElem? (i := 131) rfl))) (by decide) (t := .int) (t' := (.array .int)) (by decide) (by decide)))
  have F48 : Fld Z h41 r0 "com/example/indexloom/indexloom/data/DataLine" "bytes" "[B" .null := F34.other W42 (Or.inr (slot_ne (Or.inl (hw _ (List.mem_of_getElem? (i := 141) rfl))) (Or.inr (hw _ (List.mem_of_getElem? (i := 131) rfl))) (by decide) (t := (.array .byte)) (t' := (.array .int)) (by decide) (by decide)))
  have K49 : Keep h0 h41 [r0] := K35.wr W42 (Or.inl (List.mem_of_getElem? (i := 0) rfl))
  have E50 : Exa Z h41 r1 "com/example/indexloom/indexloom/data/DataHeader" := E36.wr W42
  have F51 : Fld Z h41 r1 "com/example/indexloom/indexloom/data/DataHeader" "names" "[Ljava/lang/String;" (.ref t1) := F37.other W42 (Or.inl (Ne.symm ne_r0_r1))
  have V52 : own_ArrR Z h41 t1 "java/lang/String" (2 : Int32) := V38.other W42 (Ne.symm ne_r0_t1)
  have V53 : own_Arr Z h41 b25 .int (4 : Int32) (fun _ => 0) := V27.other W42 (Ne.symm ne_r0_b25)
  show own_Go _ _ _ _ (T39.setTop (mkF m 21 #[.val (.ref r0), .val (.ref r1)] []))
  refine own_retV A40 hx hret hlk (by decide) (by decide) (hb hby d21_21) ?_
  exact ⟨rfl, K49, F45, F47, F48, b25, g_b25, nw_b25, F46, V53⟩
theorem ef_23 (m : MethodId) (r0 : Addr) (p1 : Int32) (r2 : Addr) (y3 : Int32) (y4 : Int32) : entryFrame m #[(.ref r0), (.int p1), (.ref r2), (.int y3), (.int y4)] 6 = mkF m 0 #[.val (.ref r0), .val (.int p1), .val (.ref r2), .val (.int y3), .val (.int y4), .unset] [] := by first | (simp [entryFrame, mkF, argsToLocals, Value.category]; done) | rfl
theorem d23_0 : decode prog_14_method_2_code 0 = .ok (.aload_n 2, 1) := by decide +kernel
theorem d23_1 : decode prog_14_method_2_code 1 = .ok (.iload_n 3, 1) := by decide +kernel
theorem d23_2 : decode prog_14_method_2_code 2 = .ok (.iload 4, 2) := by decide +kernel
theorem d23_4 : decode prog_14_method_2_code 4 = .ok (.aload_n 0, 1) := by decide +kernel
theorem d23_5 : decode prog_14_method_2_code 5 = .ok (.getfield 21, 3) := by decide +kernel
theorem d23_8 : decode prog_14_method_2_code 8 = .ok (.invokestatic 25, 3) := by decide +kernel
theorem d23_11 : decode prog_14_method_2_code 11 = .ok (.istore 5, 2) := by decide +kernel
theorem d23_13 : decode prog_14_method_2_code 13 = .ok (.iload 5, 2) := by decide +kernel
theorem d23_15 : decode prog_14_method_2_code 15 = .ok (.aload_n 0, 1) := by decide +kernel
theorem d23_16 : decode prog_14_method_2_code 16 = .ok (.getfield 9, 3) := by decide +kernel
theorem d23_19 : decode prog_14_method_2_code 19 = .ok (.invokevirtual 15, 3) := by decide +kernel
theorem d23_22 : decode prog_14_method_2_code 22 = .ok (.if_icmp .eq 14, 3) := by decide +kernel
theorem d23_36 : decode prog_14_method_2_code 36 = .ok (.aload_n 0, 1) := by decide +kernel
theorem d23_37 : decode prog_14_method_2_code 37 = .ok (.iload_n 1, 1) := by decide +kernel
theorem d23_38 : decode prog_14_method_2_code 38 = .ok (.putfield 33, 3) := by decide +kernel
theorem d23_41 : decode prog_14_method_2_code 41 = .ok (.aload_n 0, 1) := by decide +kernel
theorem d23_42 : decode prog_14_method_2_code 42 = .ok (.aload_n 2, 1) := by decide +kernel
theorem d23_43 : decode prog_14_method_2_code 43 = .ok (.putfield 37, 3) := by decide +kernel
theorem d23_46 : decode prog_14_method_2_code 46 = .ok (.return_, 1) := by decide +kernel
set_option maxRecDepth 65536 in
set_option maxHeartbeats 40000000 in
theorem rm23 (l : Launch) (Z : State) (a0 : Array Value) (hw : ∀ d ∈ tables_1, d.before a0 Z = true) (r0 : Addr) (p1 : Int32) (r2 : Addr) (i0 : Nat) (t : Nat) (r1 : Addr) (t1 : Addr) (bo : Addr) (nb : Int32) (fb : Int32 → Int32) (cm : Nat → Bool) (bl : Nat → Bool) (h0 : Heap) (n0 : Nat) (E0 : Exa Z h0 r0 "com/example/indexloom/indexloom/data/DataLine") (F0_header : Fld Z h0 r0 "com/example/indexloom/indexloom/data/DataLine" "header" "Lcom/example/indexloom/indexloom/data/DataHeader;" (.ref r1)) (F0_bounds : Fld Z h0 r0 "com/example/indexloom/indexloom/data/DataLine" "bounds" "[I" (.ref bo)) (F0_number : Fld Z h0 r0 "com/example/indexloom/indexloom/data/DataLine" "number" "I" (.int (0 : Int32))) (F0_bytes : Fld Z h0 r0 "com/example/indexloom/indexloom/data/DataLine" "bytes" "[B" .null) (g0 : n0 ≤ r0) (gb : n0 ≤ bo) (Eh : Exa Z h0 r1 "com/example/indexloom/indexloom/data/DataHeader") (Fn : Fld Z h0 r1 "com/example/indexloom/indexloom/data/DataHeader" "names" "[Ljava/lang/String;" (.ref t1)) (Vn : own_ArrR Z h0 t1 "java/lang/String" (2 : Int32)) (V2 : own_Arr Z h0 r2 .byte nb fb) (Vb : own_Arr Z h0 bo .int (4 : Int32) (fun _ => 0)) (ne_r0_r1 : r0 ≠ r1) (ne_r0_t1 : r0 ≠ t1) (ne_r0_r2 : r0 ≠ r2) (ne_r0_bo : r0 ≠ bo) (ne_bo_r1 : bo ≠ r1) (ne_bo_t1 : bo ≠ t1) (ne_bo_r2 : bo ≠ r2) (ht : (t : Int) ≤ nb.toInt) (htb : t < 2 ^ 29) (HC : own_Cls cm bl t fb) (hi : i0 ≤ t) (hcnt : Int32.ofNat (own_fields cm bl t (t - i0 + 1) i0).length = (2 : Int32)) :
    own_Met l Z n0 (⟨"com/example/indexloom/indexloom/data/DataLine", "set", "(I[BII)V"⟩ : MethodName) prog_14_method_2_code 6 none ({ frames := 2, cells := 0, slots := 0, locals := 33 } : Room) #[(.ref r0), (.int p1), (.ref r2), (.int (Int32.ofNat i0)), (.int (Int32.ofNat t))] h0 (fun v h => v = none ∧ Keep h0 h [r0, bo] ∧ Fld Z h r0 "com/example/indexloom/indexloom/data/DataLine" "bounds" "[I" (.ref bo) ∧ Fld Z h r0 "com/example/indexloom/indexloom/data/DataLine" "bytes" "[B" (.ref r2) ∧ ∃ c, own_Arr Z h bo .int (4 : Int32) c ∧ own_Bd 2 (own_fields cm bl t (t - i0 + 1) i0) (fun _ => 0) c) := by
  refine own_met (plainFor_of_name pn_21) ?_
  intro p e s m below meth c T0 hx hby hml hown hnm hret hlk hZ A0
  rw [ef_23]
  show own_Go _ _ _ _ (T0.setTop (mkF m 0 #[.val (.ref r0), .val (.int p1), .val (.ref r2), .val (.int (Int32.ofNat i0)), .val (.int (Int32.ofNat t)), .unset] []))
  refine own_go (fun t_ k_ => XS.aloadN A0.here hx rfl (hb hby d23_0) rfl rfl k_) ?_
  show own_Go _ _ _ _ (T0.setTop (mkF m 1 #[.val (.ref r0), .val (.int p1), .val (.ref r2), .val (.int (Int32.ofNat i0)), .val (.int (Int32.ofNat t)), .unset] [(.ref r2)]))
  refine own_go (fun t_ k_ => XS.iloadN A0.here hx rfl (hb hby d23_1) rfl k_) ?_
  show own_Go _ _ _ _ (T0.setTop (mkF m 2 #[.val (.ref r0), .val (.int p1), .val (.ref r2), .val (.int (Int32.ofNat i0)), .val (.int (Int32.ofNat t)), .unset] [(.int (Int32.ofNat i0)), (.ref r2)]))
  refine own_go (fun t_ k_ => XS.iload A0.here hx rfl (hb hby d23_2) rfl k_) ?_
  show own_Go _ _ _ _ (T0.setTop (mkF m 4 #[.val (.ref r0), .val (.int p1), .val (.ref r2), .val (.int (Int32.ofNat i0)), .val (.int (Int32.ofNat t)), .unset] [(.int (Int32.ofNat t)), (.int (Int32.ofNat i0)), (.ref r2)]))
  refine own_go (fun t_ k_ => XS.aloadN A0.here hx rfl (hb hby d23_4) rfl rfl k_) ?_
  show own_Go _ _ _ _ (T0.setTop (mkF m 5 #[.val (.ref r0), .val (.int p1), .val (.ref r2), .val (.int (Int32.ofNat i0)), .val (.int (Int32.ofNat t)), .unset] [(.ref r0), (.int (Int32.ofNat t)), (.int (Int32.ofNat i0)), (.ref r2)]))
  refine own_getF A0 hx hZ hown (host := "") (Or.inl (hw _ (List.mem_of_getElem? (i := 130) rfl))) Via.refl F0_bounds rfl rfl (hb hby d23_5) (fun T1 A2 => ?_)
  show own_Go _ _ _ _ (T1.setTop (mkF m 8 #[.val (.ref r0), .val (.int p1), .val (.ref r2), .val (.int (Int32.ofNat i0)), .val (.int (Int32.ofNat t)), .unset] [(.ref bo), (.int (Int32.ofNat t)), (.int (Int32.ofNat i0)), (.ref r2)]))
  refine own_callS A2 hx hZ hown (y := (⟨"com/example/indexloom/indexloom/data/DataHeader", "split", "([BII[I)I"⟩ : MethodName)) (hw _ (List.mem_of_getElem? (i := 137) rfl)) (hw _ (List.mem_of_getElem? (i := 64) rfl)) (hw _ (List.mem_of_getElem? (i := 8) rfl)) (hw _ (List.mem_of_getElem? (i := 65) rfl)) (by decide) (argsL := [(.ref r2), (.int (Int32.ofNat i0)), (.int (Int32.ofNat t)), (.ref bo)]) (rest := []) (rm10 l Z a0 hw r2 bo i0 t 2 nb fb (fun _ => 0) cm bl h0 n0 ht htb HC (by decide) hi V2 Vb (Ne.symm ne_bo_r2) gb) 0 (by decide) (by decide) rfl (by rw [hml]; rfl) (lenOf pd___BII_I_I rfl) rfl (by show 2 * 0 + _ ≤ _; exact Nat.le_of_eq rfl) (hb hby d23_8) (by decide) (by decide) (fun v6 T3 h5 A4 hQ7 => ?_)
  obtain ⟨rfl, K8, c9, V10, B11⟩ := hQ7
  have E12 : Exa Z h5 r0 "com/example/indexloom/indexloom/data/DataLine" := E0.keep K8
  have F13 : Fld Z h5 r0 "com/example/indexloom/indexloom/data/DataLine" "header" "Lcom/example/indexloom/indexloom/data/DataHeader;" (.ref r1) := F0_header.keep K8 (ninS ne_r0_bo nin0)
  have F14 : Fld Z h5 r0 "com/example/indexloom/indexloom/data/DataLine" "bounds" "[I" (.ref bo) := F0_bounds.keep K8 (ninS ne_r0_bo nin0)
  have F15 : Fld Z h5 r0 "com/example/indexloom/indexloom/data/DataLine" "number" "I" (.int (0 : Int32)) := F0_number.keep K8 (ninS ne_r0_bo nin0)
  have F16 : Fld Z h5 r0 "com/example/indexloom/indexloom/data/DataLine" "bytes" "[B" .null := F0_bytes.keep K8 (ninS ne_r0_bo nin0)
  have K17 : Keep h0 h5 [r0, bo] := (Keep.refl h0 [r0, bo]).trans K8 (allS (Or.inl (List.mem_of_getElem? (i := 1) rfl)) all0)
  have E18 : Exa Z h5 r1 "com/example/indexloom/indexloom/data/DataHeader" := Eh.keep K8
  have F19 : Fld Z h5 r1 "com/example/indexloom/indexloom/data/DataHeader" "names" "[Ljava/lang/String;" (.ref t1) := Fn.keep K8 (ninS (Ne.symm ne_bo_r1) nin0)
  have V20 : own_ArrR Z h5 t1 "java/lang/String" (2 : Int32) := Vn.keep K8 (ninS (Ne.symm ne_bo_t1) nin0)
  have V21 : own_Arr Z h5 r2 .byte nb fb := V2.keep K8 (ninS (Ne.symm ne_bo_r2) nin0)
  rw [hcnt]
  show own_Go _ _ _ _ (T3.setTop (mkF m 11 #[.val (.ref r0), .val (.int p1), .val (.ref r2), .val (.int (Int32.ofNat i0)), .val (.int (Int32.ofNat t)), .unset] [(.int (2 : Int32))]))
  refine own_go (fun t_ k_ => XS.istore A4.here hx rfl (hb hby d23_11) rfl (l' := #[.val (.ref r0), .val (.int p1), .val (.ref r2), .val (.int (Int32.ofNat i0)), .val (.int (Int32.ofNat t)), .val (.int (2 : Int32))]) rfl k_) ?_
  show own_Go _ _ _ _ (T3.setTop (mkF m 13 #[.val (.ref r0), .val (.int p1), .val (.ref r2), .val (.int (Int32.ofNat i0)), .val (.int (Int32.ofNat t)), .val (.int (2 : Int32))] []))
  refine own_go (fun t_ k_ => XS.iload A4.here hx rfl (hb hby d23_13) rfl k_) ?_
  show own_Go _ _ _ _ (T3.setTop (mkF m 15 #[.val (.ref r0), .val (.int p1), .val (.ref r2), .val (.int (Int32.ofNat i0)), .val (.int (Int32.ofNat t)), .val (.int (2 : Int32))] [(.int (2 : Int32))]))
  refine own_go (fun t_ k_ => XS.aloadN A4.here hx rfl (hb hby d23_15) rfl rfl k_) ?_
  show own_Go _ _ _ _ (T3.setTop (mkF m 16 #[.val (.ref r0), .val (.int p1), .val (.ref r2), .val (.int (Int32.ofNat i0)), .val (.int (Int32.ofNat t)), .val (.int (2 : Int32))] [(.ref r0), (.int (2 : Int32))]))
  refine own_getF A4 hx hZ hown (host := "") (Or.inl (hw _ (List.mem_of_getElem? (i := 123) rfl))) Via.refl F13 rfl rfl (hb hby d23_16) (fun T22 A23 => ?_)
  show own_Go _ _ _ _ (T22.setTop (mkF m 19 #[.val (.ref r0), .val (.int p1), .val (.ref r2), .val (.int (Int32.ofNat i0)), .val (.int (Int32.ofNat t)), .val (.int (2 : Int32))] [(.ref r1), (.int (2 : Int32))]))
  refine own_callV A23 hx hZ (y := (⟨"com/example/indexloom/indexloom/data/DataHeader", "size", "()I"⟩ : MethodName)) (z := (⟨"com/example/indexloom/indexloom/data/DataHeader", "size", "()I"⟩ : MethodName)) hown (hw _ (List.mem_of_getElem? (i := 125) rfl)) (hw _ (List.mem_of_getElem? (i := 126) rfl)) (hw _ (List.mem_of_getElem? (i := 128) rfl)) (hw _ (List.mem_of_getElem? (i := 127) rfl)) (hw _ (List.mem_of_getElem? (i := 8) rfl)) (hw _ (List.mem_of_getElem? (i := 129) rfl)) (notFace_of_selects (args := #[]) (mvT hZ (hw _ (List.mem_of_getElem? (i := 128) rfl)))) (by decide) (b := r1) (argsL := []) (rest := [(.int (2 : Int32))]) E18 (rm22 l Z a0 hw r1 t1 h5 n0 F19 V20) 1 (by decide) (by decide) rfl (by rw [hml]; rfl) (lenOf pd___I rfl) rfl (by show 2 * 0 + _ ≤ _; exact Nat.le_of_eq rfl) (hb hby d23_19) (by decide) (by decide) (fun v27 T24 h26 A25 hQ28 => ?_)
  obtain ⟨rfl, rfl⟩ := hQ28
  show own_Go _ _ _ _ (T24.setTop (mkF m 22 #[.val (.ref r0), .val (.int p1), .val (.ref r2), .val (.int (Int32.ofNat i0)), .val (.int (Int32.ofNat t)), .val (.int (2 : Int32))] [(.int (2 : Int32)), (.int (2 : Int32))]))
  have hc29 : (2 : Int32) = (2 : Int32) := (by decide)
  refine own_go (fun t_ k_ => XS.icmpYes A25.here hx rfl (pc0 := 22) (pc' := 36) rfl (hb hby d23_22) rfl (teq hc29).1 (by decide) (by decide) k_) ?_
  show own_Go _ _ _ _ (T24.setTop (mkF m 36 #[.val (.ref r0), .val (.int p1), .val (.ref r2), .val (.int (Int32.ofNat i0)), .val (.int (Int32.ofNat t)), .val (.int (2 : Int32))] []))
  refine own_go (fun t_ k_ => XS.aloadN A25.here hx rfl (hb hby d23_36) rfl rfl k_) ?_
  show own_Go _ _ _ _ (T24.setTop (mkF m 37 #[.val (.ref r0), .val (.int p1), .val (.ref r2), .val (.int (Int32.ofNat i0)), .val (.int (Int32.ofNat t)), .val (.int (2 : Int32))] [(.ref r0)]))
  refine own_go (fun t_ k_ => XS.iloadN A25.here hx rfl (hb hby d23_37) rfl k_) ?_
  show own_Go _ _ _ _ (T24.setTop (mkF m 38 #[.val (.ref r0), .val (.int p1), .val (.ref r2), .val (.int (Int32.ofNat i0)), .val (.int (Int32.ofNat t)), .val (.int (2 : Int32))] [(.int p1), (.ref r0)]))
  refine own_putF A25 hx hZ hown (host := "") (Or.inl (hw _ (List.mem_of_getElem? (i := 138) rfl))) Via.refl F15 E12 (Or.inl (hw _ (List.mem_of_getElem? (i := 139) rfl))) (hw _ (List.mem_of_getElem? (i := 117) rfl)) (ty := .int) (by decide) rfl rfl g0 rfl rfl (hb hby d23_38) (fun T30 h32 A31 W33 => ?_)
  have E34 : Exa Z h32 r0 "com/example/indexloom/indexloom/data/DataLine" := E12.wr W33
  have F35 : Fld Z h32 r0 "com/example/indexloom/indexloom/data/DataLine" "header" "Lcom/example/indexloom/indexloom/data/DataHeader;" (.ref r1) := F13.other W33 (Or.inr (slot_ne (Or.inr (hw _ (List.mem_of_getElem? (i := 124) rfl))) (Or.inl (hw _ (List.mem_of_getElem? (i := 139) rfl))) (by decide) (t := (.object "com/example/indexloom/indexloom/data/DataHeader")) (t' := .int) (by decide) (by decide)))
  have F36 : Fld Z h32 r0 "com/example/indexloom/indexloom/data/DataLine" "bounds" "[I" (.ref bo) := F14.other W33 (Or.inr (slot_ne (Or.inr (hw _ (List.mem_of_getElem? (i := 131) rfl))) (Or.inl (hw _ (List.mem_of_getElem? (i := 139) rfl))) (by decide) (t := (.array .int)) (t' := .int) (by decide) (by decide)))
  have F37 : Fld Z h32 r0 "com/example/indexloom/indexloom/data/DataLine" "number" "I" (.int p1) := F15.same W33
  have F38 : Fld Z h32 r0 "com/example/indexloom/indexloom/data/DataLine" "bytes" "[B" .null := F16.other W33 (Or.inr (slot_ne (Or.inl (hw _ (List.mem_of_getElem? (i := 141) rfl))) (Or.inl (hw _ (List.mem_of_getElem? (i := 139) rfl))) (by decide) (t := (.array .byte)) (t' := .int) (by decide) (by decide)))
  have K39 : Keep h0 h32 [r0, bo] := K17.wr W33 (Or.inl (List.mem_of_getElem? (i := 0) rfl))
  have E40 : Exa Z h32 r1 "com/example/indexloom/indexloom/data/DataHeader" := E18.wr W33
  have F41 : Fld Z h32 r1 "com/example/indexloom/indexloom/data/DataHeader" "names" "[Ljava/lang/String;" (.ref t1) := F19.other W33 (Or.inl (Ne.symm ne_r0_r1))
  have V42 : own_ArrR Z h32 t1 "java/lang/String" (2 : Int32) := V20.other W33 (Ne.symm ne_r0_t1)
  have V43 : own_Arr Z h32 r2 .byte nb fb := V21.other W33 (Ne.symm ne_r0_r2)
  have V44 : own_Arr Z h32 bo .int (4 : Int32) c9 := V10.other W33 (Ne.symm ne_r0_bo)
  show own_Go _ _ _ _ (T30.setTop (mkF m 41 #[.val (.ref r0), .val (.int p1), .val (.ref r2), .val (.int (Int32.ofNat i0)), .val (.int (Int32.ofNat t)), .val (.int (2 : Int32))] []))
  refine own_go (fun t_ k_ => XS.aloadN A31.here hx rfl (hb hby d23_41) rfl rfl k_) ?_
  show own_Go _ _ _ _ (T30.setTop (mkF m 42 #[.val (.ref r0), .val (.int p1), .val (.ref r2), .val (.int (Int32.ofNat i0)), .val (.int (Int32.ofNat t)), .val (.int (2 : Int32))] [(.ref r0)]))
  refine own_go (fun t_ k_ => XS.aloadN A31.here hx rfl (hb hby d23_42) rfl rfl k_) ?_
  show own_Go _ _ _ _ (T30.setTop (mkF m 43 #[.val (.ref r0), .val (.int p1), .val (.ref r2), .val (.int (Int32.ofNat i0)), .val (.int (Int32.ofNat t)), .val (.int (2 : Int32))] [(.ref r2), (.ref r0)]))
  refine own_putF A31 hx hZ hown (host := "") (Or.inl (hw _ (List.mem_of_getElem? (i := 140) rfl))) Via.refl F38 E34 (Or.inl (hw _ (List.mem_of_getElem? (i := 141) rfl))) (hw _ (List.mem_of_getElem? (i := 117) rfl)) (ty := (.array .byte)) (by decide) rfl rfl g0 rfl rfl (hb hby d23_43) (fun T45 h47 A46 W48 => ?_)
  have E49 : Exa Z h47 r0 "com/example/indexloom/indexloom/data/DataLine" := E34.wr W48
  have F50 : Fld Z h47 r0 "com/example/indexloom/indexloom/data/DataLine" "header" "Lcom/example/indexloom/indexloom/data/DataHeader;" (.ref r1) := F35.other W48 (Or.inr (slot_ne (Or.inr (hw _ (List.mem_of_getElem? (i := 124) rfl))) (Or.inl (hw _ (List.mem_of_getElem? (i := 141) rfl))) (by decide) (t := (.object "com/example/indexloom/indexloom/data/DataHeader")) (t' := (.array .byte)) (by decide) (by decide)))
  have F51 : Fld Z h47 r0 "com/example/indexloom/indexloom/data/DataLine" "bounds" "[I" (.ref bo) := F36.other W48 (Or.inr (slot_ne (Or.inr (hw _ (List.mem_of_getElem? (i := 131) rfl))) (Or.inl (hw _ (List.mem_of_getElem? (i := 141) rfl))) (by decide) (t := (.array .int)) (t' := (.array .byte)) (by decide) (by decide)))
  have F52 : Fld Z h47 r0 "com/example/indexloom/indexloom/data/DataLine" "number" "I" (.int p1) := F37.other W48 (Or.inr (slot_ne (Or.inl (hw _ (List.mem_of_getElem? (i := 139) rfl))) (Or.inl (hw _ (List.mem_of_getElem? (i := 141) rfl))) (by decide) (t := .int) (t' := (.array .byte)) (by decide) (by decide)))
  have F53 : Fld Z h47 r0 "com/example/indexloom/indexloom/data/DataLine" "bytes" "[B" (.ref r2) := F38.same W48
  have K54 : Keep h0 h47 [r0, bo] := K39.wr W48 (Or.inl (List.mem_of_getElem? (i := 0) rfl))
  have E55 : Exa Z h47 r1 "com/example/indexloom/indexloom/data/DataHeader" := E40.wr W48
  have F56 : Fld Z h47 r1 "com/example/indexloom/indexloom/data/DataHeader" "names" "[Ljava/lang/String;" (.ref t1) := F41.other W48 (Or.inl (Ne.symm ne_r0_r1))
  have V57 : own_ArrR Z h47 t1 "java/lang/String" (2 : Int32) := V42.other W48 (Ne.symm ne_r0_t1)
  have V58 : own_Arr Z h47 r2 .byte nb fb := V43.other W48 (Ne.symm ne_r0_r2)
  have V59 : own_Arr Z h47 bo .int (4 : Int32) c9 := V44.other W48 (Ne.symm ne_r0_bo)
  show own_Go _ _ _ _ (T45.setTop (mkF m 46 #[.val (.ref r0), .val (.int p1), .val (.ref r2), .val (.int (Int32.ofNat i0)), .val (.int (Int32.ofNat t)), .val (.int (2 : Int32))] []))
  refine own_retV A46 hx hret hlk (by decide) (by decide) (hb hby d23_46) ?_
  exact ⟨rfl, K54, F51, F53, _, V59, B11⟩
theorem ef_27 (m : MethodId) (r0 : Addr) (p1 : Int32) : entryFrame m #[(.ref r0), (.int p1)] 2 = mkF m 0 #[.val (.ref r0), .val (.int p1)] [] := by first | (simp [entryFrame, mkF, argsToLocals, Value.category]; done) | rfl
theorem d27_0 : decode prog_14_method_15_code 0 = .ok (.aload_n 0, 1) := by decide +kernel
theorem d27_1 : decode prog_14_method_15_code 1 = .ok (.getfield 21, 3) := by decide +kernel
theorem d27_4 : decode prog_14_method_15_code 4 = .ok (.iconst 2, 1) := by decide +kernel
theorem d27_5 : decode prog_14_method_15_code 5 = .ok (.iload_n 1, 1) := by decide +kernel
theorem d27_6 : decode prog_14_method_15_code 6 = .ok (.imul, 1) := by decide +kernel
theorem d27_7 : decode prog_14_method_15_code 7 = .ok (.iaload, 1) := by decide +kernel
theorem d27_8 : decode prog_14_method_15_code 8 = .ok (.ireturn, 1) := by decide +kernel
def f27 (p1 : Int32) (c_ : Int32 → Int32) : Int32 := (c_ ((2 : Int32) * p1))
set_option maxRecDepth 65536 in
set_option maxHeartbeats 40000000 in
theorem rm27 (l : Launch) (Z : State) (a0 : Array Value) (hw : ∀ d ∈ tables_1, d.before a0 Z = true) (r0 : Addr) (p1 : Int32) (t0 : Addr) (c_ : Int32 → Int32) (h0 : Heap) (n0 : Nat) (Fb : Fld Z h0 r0 "com/example/indexloom/indexloom/data/DataLine" "bounds" "[I" (.ref t0)) (Vb : own_Arr Z h0 t0 .int (4 : Int32) c_) (hin : ¬ ((2 : Int32) * p1) < 0 ∧ ((2 : Int32) * p1) < 4) :
    own_Met l Z n0 (⟨"com/example/indexloom/indexloom/data/DataLine", "start", "(I)I"⟩ : MethodName) prog_14_method_15_code 2 (some .int) ({ frames := 0, cells := 0, slots := 0, locals := 0 } : Room) #[(.ref r0), (.int p1)] h0 (fun v h => v = some (.int (f27 p1 c_)) ∧ h0 = h) := by
  refine own_met (plainFor_of_name pn_21) ?_
  intro p e s m below meth c T0 hx hby hml hown hnm hret hlk hZ A0
  rw [ef_27]
  show own_Go _ _ _ _ (T0.setTop (mkF m 0 #[.val (.ref r0), .val (.int p1)] []))
  refine own_go (fun t_ k_ => XS.aloadN A0.here hx rfl (hb hby d27_0) rfl rfl k_) ?_
  show own_Go _ _ _ _ (T0.setTop (mkF m 1 #[.val (.ref r0), .val (.int p1)] [(.ref r0)]))
  refine own_getF A0 hx hZ hown (host := "") (Or.inl (hw _ (List.mem_of_getElem? (i := 130) rfl))) Via.refl Fb rfl rfl (hb hby d27_1) (fun T1 A2 => ?_)
  show own_Go _ _ _ _ (T1.setTop (mkF m 4 #[.val (.ref r0), .val (.int p1)] [(.ref t0)]))
  refine own_go (fun t_ k_ => XS.iconst A2.here hx rfl (hb hby d27_4) k_) ?_
  show own_Go _ _ _ _ (T1.setTop (mkF m 5 #[.val (.ref r0), .val (.int p1)] [(.int (2 : Int32)), (.ref t0)]))
  refine own_go (fun t_ k_ => XS.iloadN A2.here hx rfl (hb hby d27_5) rfl k_) ?_
  show own_Go _ _ _ _ (T1.setTop (mkF m 6 #[.val (.ref r0), .val (.int p1)] [(.int p1), (.int (2 : Int32)), (.ref t0)]))
  refine own_go (fun t_ k_ => XS.imul A2.here hx rfl (hb hby d27_6) rfl k_) ?_
  show own_Go _ _ _ _ (T1.setTop (mkF m 7 #[.val (.ref r0), .val (.int p1)] [(.int ((2 : Int32) * p1)), (.ref t0)]))
  refine own_ldI A2 hx hZ Vb hin rfl rfl (hb hby d27_7) ?_
  show own_Go _ _ _ _ (T1.setTop (mkF m 8 #[.val (.ref r0), .val (.int p1)] [(.int (c_ ((2 : Int32) * p1)))]))
  refine own_retI A2 hx hret hlk (by decide) (by decide) (hb hby d27_8) ?_
  exact ⟨rfl, rfl⟩
theorem ef_28 (m : MethodId) (r0 : Addr) (p1 : Int32) : entryFrame m #[(.ref r0), (.int p1)] 2 = mkF m 0 #[.val (.ref r0), .val (.int p1)] [] := by first | (simp [entryFrame, mkF, argsToLocals, Value.category]; done) | rfl
theorem d28_0 : decode prog_14_method_16_code 0 = .ok (.aload_n 0, 1) := by decide +kernel
theorem d28_1 : decode prog_14_method_16_code 1 = .ok (.getfield 21, 3) := by decide +kernel
theorem d28_4 : decode prog_14_method_16_code 4 = .ok (.iconst 2, 1) := by decide +kernel
theorem d28_5 : decode prog_14_method_16_code 5 = .ok (.iload_n 1, 1) := by decide +kernel
theorem d28_6 : decode prog_14_method_16_code 6 = .ok (.imul, 1) := by decide +kernel
theorem d28_7 : decode prog_14_method_16_code 7 = .ok (.iconst 1, 1) := by decide +kernel
theorem d28_8 : decode prog_14_method_16_code 8 = .ok (.iadd, 1) := by decide +kernel
theorem d28_9 : decode prog_14_method_16_code 9 = .ok (.iaload, 1) := by decide +kernel
theorem d28_10 : decode prog_14_method_16_code 10 = .ok (.ireturn, 1) := by decide +kernel
def f28 (p1 : Int32) (c_ : Int32 → Int32) : Int32 := (c_ (((2 : Int32) * p1) + (1 : Int32)))
set_option maxRecDepth 65536 in
set_option maxHeartbeats 40000000 in
theorem rm28 (l : Launch) (Z : State) (a0 : Array Value) (hw : ∀ d ∈ tables_1, d.before a0 Z = true) (r0 : Addr) (p1 : Int32) (t0 : Addr) (c_ : Int32 → Int32) (h0 : Heap) (n0 : Nat) (Fb : Fld Z h0 r0 "com/example/indexloom/indexloom/data/DataLine" "bounds" "[I" (.ref t0)) (Vb : own_Arr Z h0 t0 .int (4 : Int32) c_) (hin : ¬ (((2 : Int32) * p1) + (1 : Int32)) < 0 ∧ (((2 : Int32) * p1) + (1 : Int32)) < 4) :
    own_Met l Z n0 (⟨"com/example/indexloom/indexloom/data/DataLine", "end", "(I)I"⟩ : MethodName) prog_14_method_16_code 2 (some .int) ({ frames := 0, cells := 0, slots := 0, locals := 0 } : Room) #[(.ref r0), (.int p1)] h0 (fun v h => v = some (.int (f28 p1 c_)) ∧ h0 = h) := by
  refine own_met (plainFor_of_name pn_21) ?_
  intro p e s m below meth c T0 hx hby hml hown hnm hret hlk hZ A0
  rw [ef_28]
  show own_Go _ _ _ _ (T0.setTop (mkF m 0 #[.val (.ref r0), .val (.int p1)] []))
  refine own_go (fun t_ k_ => XS.aloadN A0.here hx rfl (hb hby d28_0) rfl rfl k_) ?_
  show own_Go _ _ _ _ (T0.setTop (mkF m 1 #[.val (.ref r0), .val (.int p1)] [(.ref r0)]))
  refine own_getF A0 hx hZ hown (host := "") (Or.inl (hw _ (List.mem_of_getElem? (i := 130) rfl))) Via.refl Fb rfl rfl (hb hby d28_1) (fun T1 A2 => ?_)
  show own_Go _ _ _ _ (T1.setTop (mkF m 4 #[.val (.ref r0), .val (.int p1)] [(.ref t0)]))
  refine own_go (fun t_ k_ => XS.iconst A2.here hx rfl (hb hby d28_4) k_) ?_
  show own_Go _ _ _ _ (T1.setTop (mkF m 5 #[.val (.ref r0), .val (.int p1)] [(.int (2 : Int32)), (.ref t0)]))
  refine own_go (fun t_ k_ => XS.iloadN A2.here hx rfl (hb hby d28_5) rfl k_) ?_
  show own_Go _ _ _ _ (T1.setTop (mkF m 6 #[.val (.ref r0), .val (.int p1)] [(.int p1), (.int (2 : Int32)), (.ref t0)]))
  refine own_go (fun t_ k_ => XS.imul A2.here hx rfl (hb hby d28_6) rfl k_) ?_
  show own_Go _ _ _ _ (T1.setTop (mkF m 7 #[.val (.ref r0), .val (.int p1)] [(.int ((2 : Int32) * p1)), (.ref t0)]))
  refine own_go (fun t_ k_ => XS.iconst A2.here hx rfl (hb hby d28_7) k_) ?_
  show own_Go _ _ _ _ (T1.setTop (mkF m 8 #[.val (.ref r0), .val (.int p1)] [(.int (1 : Int32)), (.int ((2 : Int32) * p1)), (.ref t0)]))
  refine own_go (fun t_ k_ => XS.iadd A2.here hx rfl (hb hby d28_8) rfl k_) ?_
  show own_Go _ _ _ _ (T1.setTop (mkF m 9 #[.val (.ref r0), .val (.int p1)] [(.int (((2 : Int32) * p1) + (1 : Int32))), (.ref t0)]))
  refine own_ldI A2 hx hZ Vb hin rfl rfl (hb hby d28_9) ?_
  show own_Go _ _ _ _ (T1.setTop (mkF m 10 #[.val (.ref r0), .val (.int p1)] [(.int (c_ (((2 : Int32) * p1) + (1 : Int32))))]))
  refine own_retI A2 hx hret hlk (by decide) (by decide) (hb hby d28_10) ?_
  exact ⟨rfl, rfl⟩
theorem ef_1 (m : MethodId) (p0 : Int32) (p1 : Int32) : entryFrame m #[(.int p0), (.int p1)] 3 = mkF m 0 #[.val (.int p0), .val (.int p1), .unset] [] := by first | (simp [entryFrame, mkF, argsToLocals, Value.category]; done) | rfl
theorem pn_1 : plainName "com/example/indexloom/indexloom/data/DataLineIsEmptyPinLaw" = true := by first | (simp [plainName, overriddenIn]; done) | decide +kernel
theorem d1_0 : decode method_2_code 0 = .ok (.iload_n 0, 1) := by decide +kernel
theorem d1_1 : decode method_2_code 1 = .ok (.iload_n 1, 1) := by decide +kernel
theorem d1_2 : decode method_2_code 2 = .ok (.iushr, 1) := by decide +kernel
theorem d1_3 : decode method_2_code 3 = .ok (.bipush 7, 2) := by decide +kernel
theorem d1_5 : decode method_2_code 5 = .ok (.iand, 1) := by decide +kernel
theorem d1_6 : decode method_2_code 6 = .ok (.istore_n 2, 1) := by decide +kernel
theorem d1_7 : decode method_2_code 7 = .ok (.iload_n 2, 1) := by decide +kernel
theorem d1_8 : decode method_2_code 8 = .ok (.ifCond .ne 6, 3) := by decide +kernel
theorem d1_11 : decode method_2_code 11 = .ok (.bipush 32, 2) := by decide +kernel
theorem d1_13 : decode method_2_code 13 = .ok (.ireturn, 1) := by decide +kernel
theorem d1_14 : decode method_2_code 14 = .ok (.iload_n 2, 1) := by decide +kernel
theorem d1_15 : decode method_2_code 15 = .ok (.iconst 1, 1) := by decide +kernel
theorem d1_16 : decode method_2_code 16 = .ok (.if_icmp .ne 6, 3) := by decide +kernel
theorem d1_19 : decode method_2_code 19 = .ok (.bipush 9, 2) := by decide +kernel
theorem d1_21 : decode method_2_code 21 = .ok (.ireturn, 1) := by decide +kernel
theorem d1_22 : decode method_2_code 22 = .ok (.iload_n 2, 1) := by decide +kernel
theorem d1_23 : decode method_2_code 23 = .ok (.iconst 2, 1) := by decide +kernel
theorem d1_24 : decode method_2_code 24 = .ok (.if_icmp .ne 6, 3) := by decide +kernel
theorem d1_27 : decode method_2_code 27 = .ok (.bipush 13, 2) := by decide +kernel
theorem d1_29 : decode method_2_code 29 = .ok (.ireturn, 1) := by decide +kernel
theorem d1_30 : decode method_2_code 30 = .ok (.iload_n 2, 1) := by decide +kernel
theorem d1_31 : decode method_2_code 31 = .ok (.iconst 3, 1) := by decide +kernel
theorem d1_32 : decode method_2_code 32 = .ok (.if_icmp .ne 6, 3) := by decide +kernel
theorem d1_35 : decode method_2_code 35 = .ok (.bipush 97, 2) := by decide +kernel
theorem d1_37 : decode method_2_code 37 = .ok (.ireturn, 1) := by decide +kernel
theorem d1_38 : decode method_2_code 38 = .ok (.iload_n 2, 1) := by decide +kernel
theorem d1_39 : decode method_2_code 39 = .ok (.iconst 4, 1) := by decide +kernel
theorem d1_40 : decode method_2_code 40 = .ok (.if_icmp .ne 6, 3) := by decide +kernel
theorem d1_43 : decode method_2_code 43 = .ok (.bipush 10, 2) := by decide +kernel
theorem d1_45 : decode method_2_code 45 = .ok (.ireturn, 1) := by decide +kernel
theorem d1_46 : decode method_2_code 46 = .ok (.iload_n 2, 1) := by decide +kernel
theorem d1_47 : decode method_2_code 47 = .ok (.iconst 5, 1) := by decide +kernel
theorem d1_48 : decode method_2_code 48 = .ok (.if_icmp .ne 6, 3) := by decide +kernel
theorem d1_51 : decode method_2_code 51 = .ok (.bipush 11, 2) := by decide +kernel
theorem d1_53 : decode method_2_code 53 = .ok (.ireturn, 1) := by decide +kernel
theorem d1_54 : decode method_2_code 54 = .ok (.iload_n 2, 1) := by decide +kernel
theorem d1_55 : decode method_2_code 55 = .ok (.bipush 6, 2) := by decide +kernel
theorem d1_57 : decode method_2_code 57 = .ok (.if_icmp .ne 5, 3) := by decide +kernel
theorem d1_60 : decode method_2_code 60 = .ok (.iconst 0, 1) := by decide +kernel
theorem d1_61 : decode method_2_code 61 = .ok (.ireturn, 1) := by decide +kernel
theorem d1_62 : decode method_2_code 62 = .ok (.bipush (-96), 2) := by decide +kernel
theorem d1_64 : decode method_2_code 64 = .ok (.ireturn, 1) := by decide +kernel
def f1 (p0 : Int32) (p1 : Int32) : Int32 := (if (((p0.toUInt32 >>> (p1 &&& 31).toUInt32).toInt32) &&& (7 : Int32)) = (0 : Int32) then (32 : Int32) else (if (((p0.toUInt32 >>> (p1 &&& 31).toUInt32).toInt32) &&& (7 : Int32)) = (1 : Int32) then (9 : Int32) else (if (((p0.toUInt32 >>> (p1 &&& 31).toUInt32).toInt32) &&& (7 : Int32)) = (2 : Int32) then (13 : Int32) else (if (((p0.toUInt32 >>> (p1 &&& 31).toUInt32).toInt32) &&& (7 : Int32)) = (3 : Int32) then (97 : Int32) else (if (((p0.toUInt32 >>> (p1 &&& 31).toUInt32).toInt32) &&& (7 : Int32)) = (4 : Int32) then (10 : Int32) else (if (((p0.toUInt32 >>> (p1 &&& 31).toUInt32).toInt32) &&& (7 : Int32)) = (5 : Int32) then (11 : Int32) else (if (((p0.toUInt32 >>> (p1 &&& 31).toUInt32).toInt32) &&& (7 : Int32)) = (6 : Int32) then (0 : Int32) else (-96 : Int32))))))))
set_option maxRecDepth 65536 in
set_option maxHeartbeats 40000000 in
theorem rm1 (l : Launch) (Z : State) (a0 : Array Value) (hw : ∀ d ∈ tables_1, d.before a0 Z = true) (p0 : Int32) (p1 : Int32) (h0 : Heap) (n0 : Nat) :
    own_Met l Z n0 (⟨"com/example/indexloom/indexloom/data/DataLineIsEmptyPinLaw", "pick", "(II)B"⟩ : MethodName) method_2_code 3 (some .byte) ({ frames := 0, cells := 0, slots := 0, locals := 0 } : Room) #[(.int p0), (.int p1)] h0 (fun v h => v = some (.int (f1 p0 p1)) ∧ h0 = h) := by
  refine own_met (plainFor_of_name pn_1) ?_
  intro p e s m below meth c T0 hx hby hml hown hnm hret hlk hZ A0
  rw [ef_1]
  show own_Go _ _ _ _ (T0.setTop (mkF m 0 #[.val (.int p0), .val (.int p1), .unset] []))
  refine own_go (fun t_ k_ => XS.iloadN A0.here hx rfl (hb hby d1_0) rfl k_) ?_
  show own_Go _ _ _ _ (T0.setTop (mkF m 1 #[.val (.int p0), .val (.int p1), .unset] [(.int p0)]))
  refine own_go (fun t_ k_ => XS.iloadN A0.here hx rfl (hb hby d1_1) rfl k_) ?_
  show own_Go _ _ _ _ (T0.setTop (mkF m 2 #[.val (.int p0), .val (.int p1), .unset] [(.int p1), (.int p0)]))
  refine own_go (fun t_ k_ => XS.iushr A0.here hx rfl (hb hby d1_2) rfl k_) ?_
  show own_Go _ _ _ _ (T0.setTop (mkF m 3 #[.val (.int p0), .val (.int p1), .unset] [(.int ((p0.toUInt32 >>> (p1 &&& 31).toUInt32).toInt32))]))
  refine own_go (fun t_ k_ => XS.bipush A0.here hx rfl (hb hby d1_3) k_) ?_
  show own_Go _ _ _ _ (T0.setTop (mkF m 5 #[.val (.int p0), .val (.int p1), .unset] [(.int (7 : Int32)), (.int ((p0.toUInt32 >>> (p1 &&& 31).toUInt32).toInt32))]))
  refine own_go (fun t_ k_ => XS.iand A0.here hx rfl (hb hby d1_5) rfl k_) ?_
  show own_Go _ _ _ _ (T0.setTop (mkF m 6 #[.val (.int p0), .val (.int p1), .unset] [(.int (((p0.toUInt32 >>> (p1 &&& 31).toUInt32).toInt32) &&& (7 : Int32)))]))
  refine own_go (fun t_ k_ => XS.istoreN A0.here hx rfl (hb hby d1_6) rfl (l' := #[.val (.int p0), .val (.int p1), .val (.int (((p0.toUInt32 >>> (p1 &&& 31).toUInt32).toInt32) &&& (7 : Int32)))]) rfl k_) ?_
  show own_Go _ _ _ _ (T0.setTop (mkF m 7 #[.val (.int p0), .val (.int p1), .val (.int (((p0.toUInt32 >>> (p1 &&& 31).toUInt32).toInt32) &&& (7 : Int32)))] []))
  refine own_go (fun t_ k_ => XS.iloadN A0.here hx rfl (hb hby d1_7) rfl k_) ?_
  show own_Go _ _ _ _ (T0.setTop (mkF m 8 #[.val (.int p0), .val (.int p1), .val (.int (((p0.toUInt32 >>> (p1 &&& 31).toUInt32).toInt32) &&& (7 : Int32)))] [(.int (((p0.toUInt32 >>> (p1 &&& 31).toUInt32).toInt32) &&& (7 : Int32)))]))
  by_cases hc1 : (((p0.toUInt32 >>> (p1 &&& 31).toUInt32).toInt32) &&& (7 : Int32)) = (0 : Int32)
  ·
    refine own_go (fun t_ k_ => XS.ifNo A0.here hx rfl (hb hby d1_8) rfl ((if0 _ _).trans (teq hc1).2) k_) ?_
    show own_Go _ _ _ _ (T0.setTop (mkF m 11 #[.val (.int p0), .val (.int p1), .val (.int (((p0.toUInt32 >>> (p1 &&& 31).toUInt32).toInt32) &&& (7 : Int32)))] []))
    refine own_go (fun t_ k_ => XS.bipush A0.here hx rfl (hb hby d1_11) k_) ?_
    show own_Go _ _ _ _ (T0.setTop (mkF m 13 #[.val (.int p0), .val (.int p1), .val (.int (((p0.toUInt32 >>> (p1 &&& 31).toUInt32).toInt32) &&& (7 : Int32)))] [(.int (32 : Int32))]))
    refine own_retN A0 hx (t := .byte) hret (by simp) hlk (by decide) (by decide) (hb hby d1_13) ?_
    exact ⟨congrArg (fun z => some (Value.int z)) (by simp only [f1, if_pos hc1] <;> rfl), rfl⟩
  ·
    refine own_go (fun t_ k_ => XS.ifYes A0.here hx rfl (pc0 := 8) (pc' := 14) rfl (hb hby d1_8) rfl ((if0 _ _).trans (feq hc1).2) (by decide) (by decide) k_) ?_
    show own_Go _ _ _ _ (T0.setTop (mkF m 14 #[.val (.int p0), .val (.int p1), .val (.int (((p0.toUInt32 >>> (p1 &&& 31).toUInt32).toInt32) &&& (7 : Int32)))] []))
    refine own_go (fun t_ k_ => XS.iloadN A0.here hx rfl (hb hby d1_14) rfl k_) ?_
    show own_Go _ _ _ _ (T0.setTop (mkF m 15 #[.val (.int p0), .val (.int p1), .val (.int (((p0.toUInt32 >>> (p1 &&& 31).toUInt32).toInt32) &&& (7 : Int32)))] [(.int (((p0.toUInt32 >>> (p1 &&& 31).toUInt32).toInt32) &&& (7 : Int32)))]))
    refine own_go (fun t_ k_ => XS.iconst A0.here hx rfl (hb hby d1_15) k_) ?_
    show own_Go _ _ _ _ (T0.setTop (mkF m 16 #[.val (.int p0), .val (.int p1), .val (.int (((p0.toUInt32 >>> (p1 &&& 31).toUInt32).toInt32) &&& (7 : Int32)))] [(.int (1 : Int32)), (.int (((p0.toUInt32 >>> (p1 &&& 31).toUInt32).toInt32) &&& (7 : Int32)))]))
    by_cases hc2 : (((p0.toUInt32 >>> (p1 &&& 31).toUInt32).toInt32) &&& (7 : Int32)) = (1 : Int32)
    ·
      refine own_go (fun t_ k_ => XS.icmpNo A0.here hx rfl (hb hby d1_16) rfl (teq hc2).2 k_) ?_
      show own_Go _ _ _ _ (T0.setTop (mkF m 19 #[.val (.int p0), .val (.int p1), .val (.int (((p0.toUInt32 >>> (p1 &&& 31).toUInt32).toInt32) &&& (7 : Int32)))] []))
      refine own_go (fun t_ k_ => XS.bipush A0.here hx rfl (hb hby d1_19) k_) ?_
      show own_Go _ _ _ _ (T0.setTop (mkF m 21 #[.val (.int p0), .val (.int p1), .val (.int (((p0.toUInt32 >>> (p1 &&& 31).toUInt32).toInt32) &&& (7 : Int32)))] [(.int (9 : Int32))]))
      refine own_retN A0 hx (t := .byte) hret (by simp) hlk (by decide) (by decide) (hb hby d1_21) ?_
      exact ⟨congrArg (fun z => some (Value.int z)) (by simp only [f1, if_neg hc1, if_pos hc2] <;> rfl), rfl⟩
    ·
      refine own_go (fun t_ k_ => XS.icmpYes A0.here hx rfl (pc0 := 16) (pc' := 22) rfl (hb hby d1_16) rfl (feq hc2).2 (by decide) (by decide) k_) ?_
      show own_Go _ _ _ _ (T0.setTop (mkF m 22 #[.val (.int p0), .val (.int p1), .val (.int (((p0.toUInt32 >>> (p1 &&& 31).toUInt32).toInt32) &&& (7 : Int32)))] []))
      refine own_go (fun t_ k_ => XS.iloadN A0.here hx rfl (hb hby d1_22) rfl k_) ?_
      show own_Go _ _ _ _ (T0.setTop (mkF m 23 #[.val (.int p0), .val (.int p1), .val (.int (((p0.toUInt32 >>> (p1 &&& 31).toUInt32).toInt32) &&& (7 : Int32)))] [(.int (((p0.toUInt32 >>> (p1 &&& 31).toUInt32).toInt32) &&& (7 : Int32)))]))
      refine own_go (fun t_ k_ => XS.iconst A0.here hx rfl (hb hby d1_23) k_) ?_
      show own_Go _ _ _ _ (T0.setTop (mkF m 24 #[.val (.int p0), .val (.int p1), .val (.int (((p0.toUInt32 >>> (p1 &&& 31).toUInt32).toInt32) &&& (7 : Int32)))] [(.int (2 : Int32)), (.int (((p0.toUInt32 >>> (p1 &&& 31).toUInt32).toInt32) &&& (7 : Int32)))]))
      by_cases hc3 : (((p0.toUInt32 >>> (p1 &&& 31).toUInt32).toInt32) &&& (7 : Int32)) = (2 : Int32)
      ·
        refine own_go (fun t_ k_ => XS.icmpNo A0.here hx rfl (hb hby d1_24) rfl (teq hc3).2 k_) ?_
        show own_Go _ _ _ _ (T0.setTop (mkF m 27 #[.val (.int p0), .val (.int p1), .val (.int (((p0.toUInt32 >>> (p1 &&& 31).toUInt32).toInt32) &&& (7 : Int32)))] []))
        refine own_go (fun t_ k_ => XS.bipush A0.here hx rfl (hb hby d1_27) k_) ?_
        show own_Go _ _ _ _ (T0.setTop (mkF m 29 #[.val (.int p0), .val (.int p1), .val (.int (((p0.toUInt32 >>> (p1 &&& 31).toUInt32).toInt32) &&& (7 : Int32)))] [(.int (13 : Int32))]))
        refine own_retN A0 hx (t := .byte) hret (by simp) hlk (by decide) (by decide) (hb hby d1_29) ?_
        exact ⟨congrArg (fun z => some (Value.int z)) (by simp only [f1, if_neg hc1, if_neg hc2, if_pos hc3] <;> rfl), rfl⟩
      ·
        refine own_go (fun t_ k_ => XS.icmpYes A0.here hx rfl (pc0 := 24) (pc' := 30) rfl (hb hby d1_24) rfl (feq hc3).2 (by decide) (by decide) k_) ?_
        show own_Go _ _ _ _ (T0.setTop (mkF m 30 #[.val (.int p0), .val (.int p1), .val (.int (((p0.toUInt32 >>> (p1 &&& 31).toUInt32).toInt32) &&& (7 : Int32)))] []))
        refine own_go (fun t_ k_ => XS.iloadN A0.here hx rfl (hb hby d1_30) rfl k_) ?_
        show own_Go _ _ _ _ (T0.setTop (mkF m 31 #[.val (.int p0), .val (.int p1), .val (.int (((p0.toUInt32 >>> (p1 &&& 31).toUInt32).toInt32) &&& (7 : Int32)))] [(.int (((p0.toUInt32 >>> (p1 &&& 31).toUInt32).toInt32) &&& (7 : Int32)))]))
        refine own_go (fun t_ k_ => XS.iconst A0.here hx rfl (hb hby d1_31) k_) ?_
        show own_Go _ _ _ _ (T0.setTop (mkF m 32 #[.val (.int p0), .val (.int p1), .val (.int (((p0.toUInt32 >>> (p1 &&& 31).toUInt32).toInt32) &&& (7 : Int32)))] [(.int (3 : Int32)), (.int (((p0.toUInt32 >>> (p1 &&& 31).toUInt32).toInt32) &&& (7 : Int32)))]))
        by_cases hc4 : (((p0.toUInt32 >>> (p1 &&& 31).toUInt32).toInt32) &&& (7 : Int32)) = (3 : Int32)
        ·
          refine own_go (fun t_ k_ => XS.icmpNo A0.here hx rfl (hb hby d1_32) rfl (teq hc4).2 k_) ?_
          show own_Go _ _ _ _ (T0.setTop (mkF m 35 #[.val (.int p0), .val (.int p1), .val (.int (((p0.toUInt32 >>> (p1 &&& 31).toUInt32).toInt32) &&& (7 : Int32)))] []))
          refine own_go (fun t_ k_ => XS.bipush A0.here hx rfl (hb hby d1_35) k_) ?_
          show own_Go _ _ _ _ (T0.setTop (mkF m 37 #[.val (.int p0), .val (.int p1), .val (.int (((p0.toUInt32 >>> (p1 &&& 31).toUInt32).toInt32) &&& (7 : Int32)))] [(.int (97 : Int32))]))
          refine own_retN A0 hx (t := .byte) hret (by simp) hlk (by decide) (by decide) (hb hby d1_37) ?_
          exact ⟨congrArg (fun z => some (Value.int z)) (by simp only [f1, if_neg hc1, if_neg hc2, if_neg hc3, if_pos hc4] <;> rfl), rfl⟩
        ·
          refine own_go (fun t_ k_ => XS.icmpYes A0.here hx rfl (pc0 := 32) (pc' := 38) rfl (hb hby d1_32) rfl (feq hc4).2 (by decide) (by decide) k_) ?_
          show own_Go _ _ _ _ (T0.setTop (mkF m 38 #[.val (.int p0), .val (.int p1), .val (.int (((p0.toUInt32 >>> (p1 &&& 31).toUInt32).toInt32) &&& (7 : Int32)))] []))
          refine own_go (fun t_ k_ => XS.iloadN A0.here hx rfl (hb hby d1_38) rfl k_) ?_
          show own_Go _ _ _ _ (T0.setTop (mkF m 39 #[.val (.int p0), .val (.int p1), .val (.int (((p0.toUInt32 >>> (p1 &&& 31).toUInt32).toInt32) &&& (7 : Int32)))] [(.int (((p0.toUInt32 >>> (p1 &&& 31).toUInt32).toInt32) &&& (7 : Int32)))]))
          refine own_go (fun t_ k_ => XS.iconst A0.here hx rfl (hb hby d1_39) k_) ?_
          show own_Go _ _ _ _ (T0.setTop (mkF m 40 #[.val (.int p0), .val (.int p1), .val (.int (((p0.toUInt32 >>> (p1 &&& 31).toUInt32).toInt32) &&& (7 : Int32)))] [(.int (4 : Int32)), (.int (((p0.toUInt32 >>> (p1 &&& 31).toUInt32).toInt32) &&& (7 : Int32)))]))
          by_cases hc5 : (((p0.toUInt32 >>> (p1 &&& 31).toUInt32).toInt32) &&& (7 : Int32)) = (4 : Int32)
          ·
            refine own_go (fun t_ k_ => XS.icmpNo A0.here hx rfl (hb hby d1_40) rfl (teq hc5).2 k_) ?_
            show own_Go _ _ _ _ (T0.setTop (mkF m 43 #[.val (.int p0), .val (.int p1), .val (.int (((p0.toUInt32 >>> (p1 &&& 31).toUInt32).toInt32) &&& (7 : Int32)))] []))
            refine own_go (fun t_ k_ => XS.bipush A0.here hx rfl (hb hby d1_43) k_) ?_
            show own_Go _ _ _ _ (T0.setTop (mkF m 45 #[.val (.int p0), .val (.int p1), .val (.int (((p0.toUInt32 >>> (p1 &&& 31).toUInt32).toInt32) &&& (7 : Int32)))] [(.int (10 : Int32))]))
            refine own_retN A0 hx (t := .byte) hret (by simp) hlk (by decide) (by decide) (hb hby d1_45) ?_
            exact ⟨congrArg (fun z => some (Value.int z)) (by simp only [f1, if_neg hc1, if_neg hc2, if_neg hc3, if_neg hc4, if_pos hc5] <;> rfl), rfl⟩
          ·
            refine own_go (fun t_ k_ => XS.icmpYes A0.here hx rfl (pc0 := 40) (pc' := 46) rfl (hb hby d1_40) rfl (feq hc5).2 (by decide) (by decide) k_) ?_
            show own_Go _ _ _ _ (T0.setTop (mkF m 46 #[.val (.int p0), .val (.int p1), .val (.int (((p0.toUInt32 >>> (p1 &&& 31).toUInt32).toInt32) &&& (7 : Int32)))] []))
            refine own_go (fun t_ k_ => XS.iloadN A0.here hx rfl (hb hby d1_46) rfl k_) ?_
            show own_Go _ _ _ _ (T0.setTop (mkF m 47 #[.val (.int p0), .val (.int p1), .val (.int (((p0.toUInt32 >>> (p1 &&& 31).toUInt32).toInt32) &&& (7 : Int32)))] [(.int (((p0.toUInt32 >>> (p1 &&& 31).toUInt32).toInt32) &&& (7 : Int32)))]))
            refine own_go (fun t_ k_ => XS.iconst A0.here hx rfl (hb hby d1_47) k_) ?_
            show own_Go _ _ _ _ (T0.setTop (mkF m 48 #[.val (.int p0), .val (.int p1), .val (.int (((p0.toUInt32 >>> (p1 &&& 31).toUInt32).toInt32) &&& (7 : Int32)))] [(.int (5 : Int32)), (.int (((p0.toUInt32 >>> (p1 &&& 31).toUInt32).toInt32) &&& (7 : Int32)))]))
            by_cases hc6 : (((p0.toUInt32 >>> (p1 &&& 31).toUInt32).toInt32) &&& (7 : Int32)) = (5 : Int32)
            ·
              refine own_go (fun t_ k_ => XS.icmpNo A0.here hx rfl (hb hby d1_48) rfl (teq hc6).2 k_) ?_
              show own_Go _ _ _ _ (T0.setTop (mkF m 51 #[.val (.int p0), .val (.int p1), .val (.int (((p0.toUInt32 >>> (p1 &&& 31).toUInt32).toInt32) &&& (7 : Int32)))] []))
              refine own_go (fun t_ k_ => XS.bipush A0.here hx rfl (hb hby d1_51) k_) ?_
              show own_Go _ _ _ _ (T0.setTop (mkF m 53 #[.val (.int p0), .val (.int p1), .val (.int (((p0.toUInt32 >>> (p1 &&& 31).toUInt32).toInt32) &&& (7 : Int32)))] [(.int (11 : Int32))]))
              refine own_retN A0 hx (t := .byte) hret (by simp) hlk (by decide) (by decide) (hb hby d1_53) ?_
              exact ⟨congrArg (fun z => some (Value.int z)) (by simp only [f1, if_neg hc1, if_neg hc2, if_neg hc3, if_neg hc4, if_neg hc5, if_pos hc6] <;> rfl), rfl⟩
            ·
              refine own_go (fun t_ k_ => XS.icmpYes A0.here hx rfl (pc0 := 48) (pc' := 54) rfl (hb hby d1_48) rfl (feq hc6).2 (by decide) (by decide) k_) ?_
              show own_Go _ _ _ _ (T0.setTop (mkF m 54 #[.val (.int p0), .val (.int p1), .val (.int (((p0.toUInt32 >>> (p1 &&& 31).toUInt32).toInt32) &&& (7 : Int32)))] []))
              refine own_go (fun t_ k_ => XS.iloadN A0.here hx rfl (hb hby d1_54) rfl k_) ?_
              show own_Go _ _ _ _ (T0.setTop (mkF m 55 #[.val (.int p0), .val (.int p1), .val (.int (((p0.toUInt32 >>> (p1 &&& 31).toUInt32).toInt32) &&& (7 : Int32)))] [(.int (((p0.toUInt32 >>> (p1 &&& 31).toUInt32).toInt32) &&& (7 : Int32)))]))
              refine own_go (fun t_ k_ => XS.bipush A0.here hx rfl (hb hby d1_55) k_) ?_
              show own_Go _ _ _ _ (T0.setTop (mkF m 57 #[.val (.int p0), .val (.int p1), .val (.int (((p0.toUInt32 >>> (p1 &&& 31).toUInt32).toInt32) &&& (7 : Int32)))] [(.int (6 : Int32)), (.int (((p0.toUInt32 >>> (p1 &&& 31).toUInt32).toInt32) &&& (7 : Int32)))]))
              by_cases hc7 : (((p0.toUInt32 >>> (p1 &&& 31).toUInt32).toInt32) &&& (7 : Int32)) = (6 : Int32)
              ·
                refine own_go (fun t_ k_ => XS.icmpNo A0.here hx rfl (hb hby d1_57) rfl (teq hc7).2 k_) ?_
                show own_Go _ _ _ _ (T0.setTop (mkF m 60 #[.val (.int p0), .val (.int p1), .val (.int (((p0.toUInt32 >>> (p1 &&& 31).toUInt32).toInt32) &&& (7 : Int32)))] []))
                refine own_go (fun t_ k_ => XS.iconst A0.here hx rfl (hb hby d1_60) k_) ?_
                show own_Go _ _ _ _ (T0.setTop (mkF m 61 #[.val (.int p0), .val (.int p1), .val (.int (((p0.toUInt32 >>> (p1 &&& 31).toUInt32).toInt32) &&& (7 : Int32)))] [(.int (0 : Int32))]))
                refine own_retN A0 hx (t := .byte) hret (by simp) hlk (by decide) (by decide) (hb hby d1_61) ?_
                exact ⟨congrArg (fun z => some (Value.int z)) (by simp only [f1, if_neg hc1, if_neg hc2, if_neg hc3, if_neg hc4, if_neg hc5, if_neg hc6, if_pos hc7] <;> rfl), rfl⟩
              ·
                refine own_go (fun t_ k_ => XS.icmpYes A0.here hx rfl (pc0 := 57) (pc' := 62) rfl (hb hby d1_57) rfl (feq hc7).2 (by decide) (by decide) k_) ?_
                show own_Go _ _ _ _ (T0.setTop (mkF m 62 #[.val (.int p0), .val (.int p1), .val (.int (((p0.toUInt32 >>> (p1 &&& 31).toUInt32).toInt32) &&& (7 : Int32)))] []))
                refine own_go (fun t_ k_ => XS.bipush A0.here hx rfl (hb hby d1_62) k_) ?_
                show own_Go _ _ _ _ (T0.setTop (mkF m 64 #[.val (.int p0), .val (.int p1), .val (.int (((p0.toUInt32 >>> (p1 &&& 31).toUInt32).toInt32) &&& (7 : Int32)))] [(.int (-96 : Int32))]))
                refine own_retN A0 hx (t := .byte) hret (by simp) hlk (by decide) (by decide) (hb hby d1_64) ?_
                exact ⟨congrArg (fun z => some (Value.int z)) (by simp only [f1, if_neg hc1, if_neg hc2, if_neg hc3, if_neg hc4, if_neg hc5, if_neg hc6, if_neg hc7] <;> rfl), rfl⟩
theorem ef_25 (m : MethodId) (p0 : Int32) : entryFrame m #[(.int p0)] 1 = mkF m 0 #[.val (.int p0)] [] := by first | (simp [entryFrame, mkF, argsToLocals, Value.category]; done) | rfl
theorem d25_0 : decode method_3_code 0 = .ok (.iload_n 0, 1) := by decide +kernel
theorem d25_1 : decode method_3_code 1 = .ok (.bipush 32, 2) := by decide +kernel
theorem d25_3 : decode method_3_code 3 = .ok (.if_icmp .eq 15, 3) := by decide +kernel
theorem d25_18 : decode method_3_code 18 = .ok (.iconst 1, 1) := by decide +kernel
theorem d25_19 : decode method_3_code 19 = .ok (.goto 4, 3) := by decide +kernel
theorem d25_6 : decode method_3_code 6 = .ok (.iload_n 0, 1) := by decide +kernel
theorem d25_7 : decode method_3_code 7 = .ok (.bipush 9, 2) := by decide +kernel
theorem d25_9 : decode method_3_code 9 = .ok (.if_icmp .eq 9, 3) := by decide +kernel
theorem d25_12 : decode method_3_code 12 = .ok (.iload_n 0, 1) := by decide +kernel
theorem d25_13 : decode method_3_code 13 = .ok (.bipush 13, 2) := by decide +kernel
theorem d25_15 : decode method_3_code 15 = .ok (.if_icmp .ne 7, 3) := by decide +kernel
theorem d25_22 : decode method_3_code 22 = .ok (.iconst 0, 1) := by decide +kernel
theorem d25_23 : decode method_3_code 23 = .ok (.ireturn, 1) := by decide +kernel
def f25 (p0 : Int32) : Int32 := (nar .boolean (if p0 = (32 : Int32) then (1 : Int32) else (if p0 = (9 : Int32) then (1 : Int32) else (if p0 = (13 : Int32) then (1 : Int32) else (0 : Int32)))))
set_option maxRecDepth 65536 in
set_option maxHeartbeats 40000000 in
theorem rm25 (l : Launch) (Z : State) (a0 : Array Value) (hw : ∀ d ∈ tables_1, d.before a0 Z = true) (p0 : Int32) (h0 : Heap) (n0 : Nat) :
    own_Met l Z n0 (⟨"com/example/indexloom/indexloom/data/DataLineIsEmptyPinLaw", "blank", "(B)Z"⟩ : MethodName) method_3_code 1 (some .boolean) ({ frames := 0, cells := 0, slots := 0, locals := 0 } : Room) #[(.int p0)] h0 (fun v h => v = some (.int (f25 p0)) ∧ h0 = h) := by
  refine own_met (plainFor_of_name pn_1) ?_
  intro p e s m below meth c T0 hx hby hml hown hnm hret hlk hZ A0
  rw [ef_25]
  show own_Go _ _ _ _ (T0.setTop (mkF m 0 #[.val (.int p0)] []))
  refine own_go (fun t_ k_ => XS.iloadN A0.here hx rfl (hb hby d25_0) rfl k_) ?_
  show own_Go _ _ _ _ (T0.setTop (mkF m 1 #[.val (.int p0)] [(.int p0)]))
  refine own_go (fun t_ k_ => XS.bipush A0.here hx rfl (hb hby d25_1) k_) ?_
  show own_Go _ _ _ _ (T0.setTop (mkF m 3 #[.val (.int p0)] [(.int (32 : Int32)), (.int p0)]))
  have mg1 : ∀ t_, Steps p.tables e below (T0.setTop (mkF m 23 #[.val (.int p0)] [(.int (if p0 = (32 : Int32) then (1 : Int32) else (if p0 = (9 : Int32) then (1 : Int32) else (if p0 = (13 : Int32) then (1 : Int32) else (0 : Int32)))))])) t_ → Steps p.tables e below (T0.setTop (mkF m 3 #[.val (.int p0)] [(.int (32 : Int32)), (.int p0)])) t_ := by
    intro t_ k_
    by_cases hm3_0 : p0 = (32 : Int32)
    ·
      simp only [if_pos hm3_0] at k_
      exact (XS.icmpYes A0.here hx rfl (pc0 := 3) (pc' := 18) rfl (hb hby d25_3) rfl (teq hm3_0).1 (by decide) (by decide) (XS.iconst A0.here hx rfl (hb hby d25_18) (XS.goto A0.here hx rfl (pc0 := 19) (pc' := 23) rfl (hb hby d25_19) (by decide) (by decide) k_)))
    ·
      refine XS.icmpNo A0.here hx rfl (hb hby d25_3) rfl (feq hm3_0).1 (XS.iloadN A0.here hx rfl (hb hby d25_6) rfl (XS.bipush A0.here hx rfl (hb hby d25_7) ?_))
      by_cases hm9_1 : p0 = (9 : Int32)
      ·
        simp only [if_neg hm3_0, if_pos hm9_1] at k_
        exact (XS.icmpYes A0.here hx rfl (pc0 := 9) (pc' := 18) rfl (hb hby d25_9) rfl (teq hm9_1).1 (by decide) (by decide) (XS.iconst A0.here hx rfl (hb hby d25_18) (XS.goto A0.here hx rfl (pc0 := 19) (pc' := 23) rfl (hb hby d25_19) (by decide) (by decide) k_)))
      ·
        refine XS.icmpNo A0.here hx rfl (hb hby d25_9) rfl (feq hm9_1).1 (XS.iloadN A0.here hx rfl (hb hby d25_12) rfl (XS.bipush A0.here hx rfl (hb hby d25_13) ?_))
        by_cases hm15_2 : p0 = (13 : Int32)
        ·
          simp only [if_neg hm3_0, if_neg hm9_1, if_pos hm15_2] at k_
          exact (XS.icmpNo A0.here hx rfl (hb hby d25_15) rfl (teq hm15_2).2 (XS.iconst A0.here hx rfl (hb hby d25_18) (XS.goto A0.here hx rfl (pc0 := 19) (pc' := 23) rfl (hb hby d25_19) (by decide) (by decide) k_)))
        ·
          simp only [if_neg hm3_0, if_neg hm9_1, if_neg hm15_2] at k_
          exact (XS.icmpYes A0.here hx rfl (pc0 := 15) (pc' := 22) rfl (hb hby d25_15) rfl (feq hm15_2).2 (by decide) (by decide) (XS.iconst A0.here hx rfl (hb hby d25_22) k_))
  refine own_go mg1 ?_
  show own_Go _ _ _ _ (T0.setTop (mkF m 23 #[.val (.int p0)] [(.int (if p0 = (32 : Int32) then (1 : Int32) else (if p0 = (9 : Int32) then (1 : Int32) else (if p0 = (13 : Int32) then (1 : Int32) else (0 : Int32)))))]))
  generalize hx2 : (if p0 = (32 : Int32) then (1 : Int32) else (if p0 = (9 : Int32) then (1 : Int32) else (if p0 = (13 : Int32) then (1 : Int32) else (0 : Int32)))) = x2
  show own_Go _ _ _ _ (T0.setTop (mkF m 23 #[.val (.int p0)] [(.int x2)]))
  refine own_retN A0 hx (t := .boolean) hret (by simp) hlk (by decide) (by decide) (hb hby d25_23) ?_
  subst hx2
  exact ⟨rfl, rfl⟩
theorem ef_24 (m : MethodId) (r0 : Addr) (p1 : Int32) (p2 : Int32) (p3 : Int32) : entryFrame m #[(.ref r0), (.int p1), (.int p2), (.int p3)] 5 = mkF m 0 #[.val (.ref r0), .val (.int p1), .val (.int p2), .val (.int p3), .unset] [] := by first | (simp [entryFrame, mkF, argsToLocals, Value.category]; done) | rfl
theorem d24_0 : decode method_4_code 0 = .ok (.iload_n 3, 1) := by decide +kernel
theorem d24_1 : decode method_4_code 1 = .ok (.ifCond .eq 16, 3) := by decide +kernel
theorem d24_17 : decode method_4_code 17 = .ok (.iload_n 1, 1) := by decide +kernel
theorem d24_18 : decode method_4_code 18 = .ok (.iload_n 2, 1) := by decide +kernel
theorem d24_19 : decode method_4_code 19 = .ok (.if_icmp .le 7, 3) := by decide +kernel
theorem d24_22 : decode method_4_code 22 = .ok (.iconst 1, 1) := by decide +kernel
theorem d24_23 : decode method_4_code 23 = .ok (.goto 4, 3) := by decide +kernel
theorem d24_27 : decode method_4_code 27 = .ok (.istore 4, 2) := by decide +kernel
theorem d24_29 : decode method_4_code 29 = .ok (.iload 4, 2) := by decide +kernel
theorem d24_31 : decode method_4_code 31 = .ok (.ifCond .eq 12, 3) := by decide +kernel
theorem d24_34 : decode method_4_code 34 = .ok (.aload_n 0, 1) := by decide +kernel
theorem d24_35 : decode method_4_code 35 = .ok (.iload_n 1, 1) := by decide +kernel
theorem d24_36 : decode method_4_code 36 = .ok (.baload, 1) := by decide +kernel
theorem d24_37 : decode method_4_code 37 = .ok (.invokestatic 7, 3) := by decide +kernel
theorem d24_40 : decode method_4_code 40 = .ok (.ifCond .eq 7, 3) := by decide +kernel
theorem d24_47 : decode method_4_code 47 = .ok (.iconst 0, 1) := by decide +kernel
theorem d24_43 : decode method_4_code 43 = .ok (.iconst 1, 1) := by decide +kernel
theorem d24_44 : decode method_4_code 44 = .ok (.goto 4, 3) := by decide +kernel
theorem d24_48 : decode method_4_code 48 = .ok (.ireturn, 1) := by decide +kernel
theorem d24_26 : decode method_4_code 26 = .ok (.iconst 0, 1) := by decide +kernel
theorem d24_4 : decode method_4_code 4 = .ok (.iload_n 1, 1) := by decide +kernel
theorem d24_5 : decode method_4_code 5 = .ok (.iload_n 2, 1) := by decide +kernel
theorem d24_6 : decode method_4_code 6 = .ok (.if_icmp .ge 7, 3) := by decide +kernel
theorem d24_9 : decode method_4_code 9 = .ok (.iconst 1, 1) := by decide +kernel
theorem d24_10 : decode method_4_code 10 = .ok (.goto 17, 3) := by decide +kernel
theorem d24_13 : decode method_4_code 13 = .ok (.iconst 0, 1) := by decide +kernel
theorem d24_14 : decode method_4_code 14 = .ok (.goto 13, 3) := by decide +kernel
def f24 (p1 : Int32) (p2 : Int32) (p3 : Int32) (fb : Int32 → Int32) : Int32 := (if p3 = (0 : Int32) then (if p2 < p1 then (nar .boolean (if (f25 (fb p1)) = (0 : Int32) then (0 : Int32) else (1 : Int32))) else (1 : Int32)) else (if p1 < p2 then (nar .boolean (if (f25 (fb p1)) = (0 : Int32) then (0 : Int32) else (1 : Int32))) else (1 : Int32)))
set_option maxRecDepth 65536 in
set_option maxHeartbeats 40000000 in
theorem rm24 (l : Launch) (Z : State) (a0 : Array Value) (hw : ∀ d ∈ tables_1, d.before a0 Z = true) (r0 : Addr) (p1 : Int32) (p2 : Int32) (p3 : Int32) (fb : Int32 → Int32) (h0 : Heap) (n0 : Nat) (V0 : own_Arr Z h0 r0 .byte (7 : Int32) fb) (hin : ¬ p1 < 0 ∧ p1 < (7 : Int32)) :
    own_Met l Z n0 (⟨"com/example/indexloom/indexloom/data/DataLineIsEmptyPinLaw", "fine", "([BIIZ)Z"⟩ : MethodName) method_4_code 5 (some .boolean) ({ frames := 1, cells := 0, slots := 0, locals := 12 } : Room) #[(.ref r0), (.int p1), (.int p2), (.int p3)] h0 (fun v h => v = some (.int (f24 p1 p2 p3 fb)) ∧ h0 = h) := by
  refine own_met (plainFor_of_name pn_1) ?_
  intro p e s m below meth c T0 hx hby hml hown hnm hret hlk hZ A0
  rw [ef_24]
  show own_Go _ _ _ _ (T0.setTop (mkF m 0 #[.val (.ref r0), .val (.int p1), .val (.int p2), .val (.int p3), .unset] []))
  refine own_go (fun t_ k_ => XS.iloadN A0.here hx rfl (hb hby d24_0) rfl k_) ?_
  show own_Go _ _ _ _ (T0.setTop (mkF m 1 #[.val (.ref r0), .val (.int p1), .val (.int p2), .val (.int p3), .unset] [(.int p3)]))
  by_cases hc1 : p3 = (0 : Int32)
  ·
    refine own_go (fun t_ k_ => XS.ifYes A0.here hx rfl (pc0 := 1) (pc' := 17) rfl (hb hby d24_1) rfl ((if0 _ _).trans (teq hc1).1) (by decide) (by decide) k_) ?_
    show own_Go _ _ _ _ (T0.setTop (mkF m 17 #[.val (.ref r0), .val (.int p1), .val (.int p2), .val (.int p3), .unset] []))
    refine own_go (fun t_ k_ => XS.iloadN A0.here hx rfl (hb hby d24_17) rfl k_) ?_
    show own_Go _ _ _ _ (T0.setTop (mkF m 18 #[.val (.ref r0), .val (.int p1), .val (.int p2), .val (.int p3), .unset] [(.int p1)]))
    refine own_go (fun t_ k_ => XS.iloadN A0.here hx rfl (hb hby d24_18) rfl k_) ?_
    show own_Go _ _ _ _ (T0.setTop (mkF m 19 #[.val (.ref r0), .val (.int p1), .val (.int p2), .val (.int p3), .unset] [(.int p2), (.int p1)]))
    by_cases hc2 : p2 < p1
    ·
      refine own_go (fun t_ k_ => XS.icmpNo A0.here hx rfl (hb hby d24_19) rfl (tlt hc2).2.2.2 k_) ?_
      show own_Go _ _ _ _ (T0.setTop (mkF m 22 #[.val (.ref r0), .val (.int p1), .val (.int p2), .val (.int p3), .unset] []))
      refine own_go (fun t_ k_ => XS.iconst A0.here hx rfl (hb hby d24_22) k_) ?_
      show own_Go _ _ _ _ (T0.setTop (mkF m 23 #[.val (.ref r0), .val (.int p1), .val (.int p2), .val (.int p3), .unset] [(.int (1 : Int32))]))
      refine own_go (fun t_ k_ => XS.goto A0.here hx rfl (pc0 := 23) (pc' := 27) rfl (hb hby d24_23) (by decide) (by decide) k_) ?_
      show own_Go _ _ _ _ (T0.setTop (mkF m 27 #[.val (.ref r0), .val (.int p1), .val (.int p2), .val (.int p3), .unset] [(.int (1 : Int32))]))
      refine own_go (fun t_ k_ => XS.istore A0.here hx rfl (hb hby d24_27) rfl (l' := #[.val (.ref r0), .val (.int p1), .val (.int p2), .val (.int p3), .val (.int (1 : Int32))]) rfl k_) ?_
      show own_Go _ _ _ _ (T0.setTop (mkF m 29 #[.val (.ref r0), .val (.int p1), .val (.int p2), .val (.int p3), .val (.int (1 : Int32))] []))
      refine own_go (fun t_ k_ => XS.iload A0.here hx rfl (hb hby d24_29) rfl k_) ?_
      show own_Go _ _ _ _ (T0.setTop (mkF m 31 #[.val (.ref r0), .val (.int p1), .val (.int p2), .val (.int p3), .val (.int (1 : Int32))] [(.int (1 : Int32))]))
      have hc3 : ¬ ((1 : Int32) = (0 : Int32)) := (by decide)
      refine own_go (fun t_ k_ => XS.ifNo A0.here hx rfl (hb hby d24_31) rfl ((if0 _ _).trans (feq hc3).1) k_) ?_
      show own_Go _ _ _ _ (T0.setTop (mkF m 34 #[.val (.ref r0), .val (.int p1), .val (.int p2), .val (.int p3), .val (.int (1 : Int32))] []))
      refine own_go (fun t_ k_ => XS.aloadN A0.here hx rfl (hb hby d24_34) rfl rfl k_) ?_
      show own_Go _ _ _ _ (T0.setTop (mkF m 35 #[.val (.ref r0), .val (.int p1), .val (.int p2), .val (.int p3), .val (.int (1 : Int32))] [(.ref r0)]))
      refine own_go (fun t_ k_ => XS.iloadN A0.here hx rfl (hb hby d24_35) rfl k_) ?_
      show own_Go _ _ _ _ (T0.setTop (mkF m 36 #[.val (.ref r0), .val (.int p1), .val (.int p2), .val (.int p3), .val (.int (1 : Int32))] [(.int p1), (.ref r0)]))
      refine own_ldB A0 hx hZ V0 hin rfl rfl (hb hby d24_36) ?_
      show own_Go _ _ _ _ (T0.setTop (mkF m 37 #[.val (.ref r0), .val (.int p1), .val (.int p2), .val (.int p3), .val (.int (1 : Int32))] [(.int (fb p1))]))
      refine own_callS A0 hx hZ hown (y := (⟨"com/example/indexloom/indexloom/data/DataLineIsEmptyPinLaw", "blank", "(B)Z"⟩ : MethodName)) (hw _ (List.mem_of_getElem? (i := 145) rfl)) (hw _ (List.mem_of_getElem? (i := 146) rfl)) (hw _ (List.mem_of_getElem? (i := 4) rfl)) (hw _ (List.mem_of_getElem? (i := 147) rfl)) (by decide) (argsL := [(.int (fb p1))]) (rest := []) (rm25 l Z a0 hw (fb p1) h0 n0 ) 0 (by decide) (by decide) rfl (by rw [hml]; rfl) (lenOf pd__B_Z rfl) rfl (by show 2 * 0 + _ ≤ _; exact Nat.le_of_eq rfl) (hb hby d24_37) (by decide) (by decide) (fun v7 T4 h6 A5 hQ8 => ?_)
      obtain ⟨rfl, rfl⟩ := hQ8
      show own_Go _ _ _ _ (T4.setTop (mkF m 40 #[.val (.ref r0), .val (.int p1), .val (.int p2), .val (.int p3), .val (.int (1 : Int32))] [(.int (f25 (fb p1)))]))
      have mg9 : ∀ t_, Steps p.tables e below (T4.setTop (mkF m 48 #[.val (.ref r0), .val (.int p1), .val (.int p2), .val (.int p3), .val (.int (1 : Int32))] [(.int (if (f25 (fb p1)) = (0 : Int32) then (0 : Int32) else (1 : Int32)))])) t_ → Steps p.tables e below (T4.setTop (mkF m 40 #[.val (.ref r0), .val (.int p1), .val (.int p2), .val (.int p3), .val (.int (1 : Int32))] [(.int (f25 (fb p1)))])) t_ := by
        intro t_ k_
        by_cases hm40_0 : (f25 (fb p1)) = (0 : Int32)
        ·
          simp only [if_pos hm40_0] at k_
          exact (XS.ifYes A5.here hx rfl (pc0 := 40) (pc' := 47) rfl (hb hby d24_40) rfl ((if0 _ _).trans (teq hm40_0).1) (by decide) (by decide) (XS.iconst A5.here hx rfl (hb hby d24_47) k_))
        ·
          simp only [if_neg hm40_0] at k_
          exact (XS.ifNo A5.here hx rfl (hb hby d24_40) rfl ((if0 _ _).trans (feq hm40_0).1) (XS.iconst A5.here hx rfl (hb hby d24_43) (XS.goto A5.here hx rfl (pc0 := 44) (pc' := 48) rfl (hb hby d24_44) (by decide) (by decide) k_)))
      refine own_go mg9 ?_
      show own_Go _ _ _ _ (T4.setTop (mkF m 48 #[.val (.ref r0), .val (.int p1), .val (.int p2), .val (.int p3), .val (.int (1 : Int32))] [(.int (if (f25 (fb p1)) = (0 : Int32) then (0 : Int32) else (1 : Int32)))]))
      refine own_retN A5 hx (t := .boolean) hret (by simp) hlk (by decide) (by decide) (hb hby d24_48) ?_
      exact ⟨congrArg (fun z => some (Value.int z)) (by simp only [f24, if_pos hc1, if_pos hc2]), rfl⟩
    ·
      refine own_go (fun t_ k_ => XS.icmpYes A0.here hx rfl (pc0 := 19) (pc' := 26) rfl (hb hby d24_19) rfl (flt hc2).2.2.2 (by decide) (by decide) k_) ?_
      show own_Go _ _ _ _ (T0.setTop (mkF m 26 #[.val (.ref r0), .val (.int p1), .val (.int p2), .val (.int p3), .unset] []))
      refine own_go (fun t_ k_ => XS.iconst A0.here hx rfl (hb hby d24_26) k_) ?_
      show own_Go _ _ _ _ (T0.setTop (mkF m 27 #[.val (.ref r0), .val (.int p1), .val (.int p2), .val (.int p3), .unset] [(.int (0 : Int32))]))
      refine own_go (fun t_ k_ => XS.istore A0.here hx rfl (hb hby d24_27) rfl (l' := #[.val (.ref r0), .val (.int p1), .val (.int p2), .val (.int p3), .val (.int (0 : Int32))]) rfl k_) ?_
      show own_Go _ _ _ _ (T0.setTop (mkF m 29 #[.val (.ref r0), .val (.int p1), .val (.int p2), .val (.int p3), .val (.int (0 : Int32))] []))
      refine own_go (fun t_ k_ => XS.iload A0.here hx rfl (hb hby d24_29) rfl k_) ?_
      show own_Go _ _ _ _ (T0.setTop (mkF m 31 #[.val (.ref r0), .val (.int p1), .val (.int p2), .val (.int p3), .val (.int (0 : Int32))] [(.int (0 : Int32))]))
      have hc10 : (0 : Int32) = (0 : Int32) := (by decide)
      refine own_go (fun t_ k_ => XS.ifYes A0.here hx rfl (pc0 := 31) (pc' := 43) rfl (hb hby d24_31) rfl ((if0 _ _).trans (teq hc10).1) (by decide) (by decide) k_) ?_
      show own_Go _ _ _ _ (T0.setTop (mkF m 43 #[.val (.ref r0), .val (.int p1), .val (.int p2), .val (.int p3), .val (.int (0 : Int32))] []))
      refine own_go (fun t_ k_ => XS.iconst A0.here hx rfl (hb hby d24_43) k_) ?_
      show own_Go _ _ _ _ (T0.setTop (mkF m 44 #[.val (.ref r0), .val (.int p1), .val (.int p2), .val (.int p3), .val (.int (0 : Int32))] [(.int (1 : Int32))]))
      refine own_go (fun t_ k_ => XS.goto A0.here hx rfl (pc0 := 44) (pc' := 48) rfl (hb hby d24_44) (by decide) (by decide) k_) ?_
      show own_Go _ _ _ _ (T0.setTop (mkF m 48 #[.val (.ref r0), .val (.int p1), .val (.int p2), .val (.int p3), .val (.int (0 : Int32))] [(.int (1 : Int32))]))
      refine own_retN A0 hx (t := .boolean) hret (by simp) hlk (by decide) (by decide) (hb hby d24_48) ?_
      exact ⟨congrArg (fun z => some (Value.int z)) (by simp only [f24, if_pos hc1, if_neg hc2] <;> rfl), rfl⟩
  ·
    refine own_go (fun t_ k_ => XS.ifNo A0.here hx rfl (hb hby d24_1) rfl ((if0 _ _).trans (feq hc1).1) k_) ?_
    show own_Go _ _ _ _ (T0.setTop (mkF m 4 #[.val (.ref r0), .val (.int p1), .val (.int p2), .val (.int p3), .unset] []))
    refine own_go (fun t_ k_ => XS.iloadN A0.here hx rfl (hb hby d24_4) rfl k_) ?_
    show own_Go _ _ _ _ (T0.setTop (mkF m 5 #[.val (.ref r0), .val (.int p1), .val (.int p2), .val (.int p3), .unset] [(.int p1)]))
    refine own_go (fun t_ k_ => XS.iloadN A0.here hx rfl (hb hby d24_5) rfl k_) ?_
    show own_Go _ _ _ _ (T0.setTop (mkF m 6 #[.val (.ref r0), .val (.int p1), .val (.int p2), .val (.int p3), .unset] [(.int p2), (.int p1)]))
    by_cases hc11 : p1 < p2
    ·
      refine own_go (fun t_ k_ => XS.icmpNo A0.here hx rfl (hb hby d24_6) rfl (tlt hc11).2.1 k_) ?_
      show own_Go _ _ _ _ (T0.setTop (mkF m 9 #[.val (.ref r0), .val (.int p1), .val (.int p2), .val (.int p3), .unset] []))
      refine own_go (fun t_ k_ => XS.iconst A0.here hx rfl (hb hby d24_9) k_) ?_
      show own_Go _ _ _ _ (T0.setTop (mkF m 10 #[.val (.ref r0), .val (.int p1), .val (.int p2), .val (.int p3), .unset] [(.int (1 : Int32))]))
      refine own_go (fun t_ k_ => XS.goto A0.here hx rfl (pc0 := 10) (pc' := 27) rfl (hb hby d24_10) (by decide) (by decide) k_) ?_
      show own_Go _ _ _ _ (T0.setTop (mkF m 27 #[.val (.ref r0), .val (.int p1), .val (.int p2), .val (.int p3), .unset] [(.int (1 : Int32))]))
      refine own_go (fun t_ k_ => XS.istore A0.here hx rfl (hb hby d24_27) rfl (l' := #[.val (.ref r0), .val (.int p1), .val (.int p2), .val (.int p3), .val (.int (1 : Int32))]) rfl k_) ?_
      show own_Go _ _ _ _ (T0.setTop (mkF m 29 #[.val (.ref r0), .val (.int p1), .val (.int p2), .val (.int p3), .val (.int (1 : Int32))] []))
      refine own_go (fun t_ k_ => XS.iload A0.here hx rfl (hb hby d24_29) rfl k_) ?_
      show own_Go _ _ _ _ (T0.setTop (mkF m 31 #[.val (.ref r0), .val (.int p1), .val (.int p2), .val (.int p3), .val (.int (1 : Int32))] [(.int (1 : Int32))]))
      have hc12 : ¬ ((1 : Int32) = (0 : Int32)) := (by decide)
      refine own_go (fun t_ k_ => XS.ifNo A0.here hx rfl (hb hby d24_31) rfl ((if0 _ _).trans (feq hc12).1) k_) ?_
      show own_Go _ _ _ _ (T0.setTop (mkF m 34 #[.val (.ref r0), .val (.int p1), .val (.int p2), .val (.int p3), .val (.int (1 : Int32))] []))
      refine own_go (fun t_ k_ => XS.aloadN A0.here hx rfl (hb hby d24_34) rfl rfl k_) ?_
      show own_Go _ _ _ _ (T0.setTop (mkF m 35 #[.val (.ref r0), .val (.int p1), .val (.int p2), .val (.int p3), .val (.int (1 : Int32))] [(.ref r0)]))
      refine own_go (fun t_ k_ => XS.iloadN A0.here hx rfl (hb hby d24_35) rfl k_) ?_
      show own_Go _ _ _ _ (T0.setTop (mkF m 36 #[.val (.ref r0), .val (.int p1), .val (.int p2), .val (.int p3), .val (.int (1 : Int32))] [(.int p1), (.ref r0)]))
      refine own_ldB A0 hx hZ V0 hin rfl rfl (hb hby d24_36) ?_
      show own_Go _ _ _ _ (T0.setTop (mkF m 37 #[.val (.ref r0), .val (.int p1), .val (.int p2), .val (.int p3), .val (.int (1 : Int32))] [(.int (fb p1))]))
      refine own_callS A0 hx hZ hown (y := (⟨"com/example/indexloom/indexloom/data/DataLineIsEmptyPinLaw", "blank", "(B)Z"⟩ : MethodName)) (hw _ (List.mem_of_getElem? (i := 145) rfl)) (hw _ (List.mem_of_getElem? (i := 146) rfl)) (hw _ (List.mem_of_getElem? (i := 4) rfl)) (hw _ (List.mem_of_getElem? (i := 147) rfl)) (by decide) (argsL := [(.int (fb p1))]) (rest := []) (rm25 l Z a0 hw (fb p1) h0 n0 ) 0 (by decide) (by decide) rfl (by rw [hml]; rfl) (lenOf pd__B_Z rfl) rfl (by show 2 * 0 + _ ≤ _; exact Nat.le_of_eq rfl) (hb hby d24_37) (by decide) (by decide) (fun v16 T13 h15 A14 hQ17 => ?_)
      obtain ⟨rfl, rfl⟩ := hQ17
      show own_Go _ _ _ _ (T13.setTop (mkF m 40 #[.val (.ref r0), .val (.int p1), .val (.int p2), .val (.int p3), .val (.int (1 : Int32))] [(.int (f25 (fb p1)))]))
      have mg18 : ∀ t_, Steps p.tables e below (T13.setTop (mkF m 48 #[.val (.ref r0), .val (.int p1), .val (.int p2), .val (.int p3), .val (.int (1 : Int32))] [(.int (if (f25 (fb p1)) = (0 : Int32) then (0 : Int32) else (1 : Int32)))])) t_ → Steps p.tables e below (T13.setTop (mkF m 40 #[.val (.ref r0), .val (.int p1), .val (.int p2), .val (.int p3), .val (.int (1 : Int32))] [(.int (f25 (fb p1)))])) t_ := by
        intro t_ k_
        by_cases hm40_0 : (f25 (fb p1)) = (0 : Int32)
        ·
          simp only [if_pos hm40_0] at k_
          exact (XS.ifYes A14.here hx rfl (pc0 := 40) (pc' := 47) rfl (hb hby d24_40) rfl ((if0 _ _).trans (teq hm40_0).1) (by decide) (by decide) (XS.iconst A14.here hx rfl (hb hby d24_47) k_))
        ·
          simp only [if_neg hm40_0] at k_
          exact (XS.ifNo A14.here hx rfl (hb hby d24_40) rfl ((if0 _ _).trans (feq hm40_0).1) (XS.iconst A14.here hx rfl (hb hby d24_43) (XS.goto A14.here hx rfl (pc0 := 44) (pc' := 48) rfl (hb hby d24_44) (by decide) (by decide) k_)))
      refine own_go mg18 ?_
      show own_Go _ _ _ _ (T13.setTop (mkF m 48 #[.val (.ref r0), .val (.int p1), .val (.int p2), .val (.int p3), .val (.int (1 : Int32))] [(.int (if (f25 (fb p1)) = (0 : Int32) then (0 : Int32) else (1 : Int32)))]))
      refine own_retN A14 hx (t := .boolean) hret (by simp) hlk (by decide) (by decide) (hb hby d24_48) ?_
      exact ⟨congrArg (fun z => some (Value.int z)) (by simp only [f24, if_neg hc1, if_pos hc11]), rfl⟩
    ·
      refine own_go (fun t_ k_ => XS.icmpYes A0.here hx rfl (pc0 := 6) (pc' := 13) rfl (hb hby d24_6) rfl (flt hc11).2.1 (by decide) (by decide) k_) ?_
      show own_Go _ _ _ _ (T0.setTop (mkF m 13 #[.val (.ref r0), .val (.int p1), .val (.int p2), .val (.int p3), .unset] []))
      refine own_go (fun t_ k_ => XS.iconst A0.here hx rfl (hb hby d24_13) k_) ?_
      show own_Go _ _ _ _ (T0.setTop (mkF m 14 #[.val (.ref r0), .val (.int p1), .val (.int p2), .val (.int p3), .unset] [(.int (0 : Int32))]))
      refine own_go (fun t_ k_ => XS.goto A0.here hx rfl (pc0 := 14) (pc' := 27) rfl (hb hby d24_14) (by decide) (by decide) k_) ?_
      show own_Go _ _ _ _ (T0.setTop (mkF m 27 #[.val (.ref r0), .val (.int p1), .val (.int p2), .val (.int p3), .unset] [(.int (0 : Int32))]))
      refine own_go (fun t_ k_ => XS.istore A0.here hx rfl (hb hby d24_27) rfl (l' := #[.val (.ref r0), .val (.int p1), .val (.int p2), .val (.int p3), .val (.int (0 : Int32))]) rfl k_) ?_
      show own_Go _ _ _ _ (T0.setTop (mkF m 29 #[.val (.ref r0), .val (.int p1), .val (.int p2), .val (.int p3), .val (.int (0 : Int32))] []))
      refine own_go (fun t_ k_ => XS.iload A0.here hx rfl (hb hby d24_29) rfl k_) ?_
      show own_Go _ _ _ _ (T0.setTop (mkF m 31 #[.val (.ref r0), .val (.int p1), .val (.int p2), .val (.int p3), .val (.int (0 : Int32))] [(.int (0 : Int32))]))
      have hc19 : (0 : Int32) = (0 : Int32) := (by decide)
      refine own_go (fun t_ k_ => XS.ifYes A0.here hx rfl (pc0 := 31) (pc' := 43) rfl (hb hby d24_31) rfl ((if0 _ _).trans (teq hc19).1) (by decide) (by decide) k_) ?_
      show own_Go _ _ _ _ (T0.setTop (mkF m 43 #[.val (.ref r0), .val (.int p1), .val (.int p2), .val (.int p3), .val (.int (0 : Int32))] []))
      refine own_go (fun t_ k_ => XS.iconst A0.here hx rfl (hb hby d24_43) k_) ?_
      show own_Go _ _ _ _ (T0.setTop (mkF m 44 #[.val (.ref r0), .val (.int p1), .val (.int p2), .val (.int p3), .val (.int (0 : Int32))] [(.int (1 : Int32))]))
      refine own_go (fun t_ k_ => XS.goto A0.here hx rfl (pc0 := 44) (pc' := 48) rfl (hb hby d24_44) (by decide) (by decide) k_) ?_
      show own_Go _ _ _ _ (T0.setTop (mkF m 48 #[.val (.ref r0), .val (.int p1), .val (.int p2), .val (.int p3), .val (.int (0 : Int32))] [(.int (1 : Int32))]))
      refine own_retN A0 hx (t := .boolean) hret (by simp) hlk (by decide) (by decide) (hb hby d24_48) ?_
      exact ⟨congrArg (fun z => some (Value.int z)) (by simp only [f24, if_neg hc1, if_neg hc11] <;> rfl), rfl⟩
theorem ef_26 (m : MethodId) (r0 : Addr) (p1 : Int32) : entryFrame m #[(.ref r0), (.int p1)] 2 = mkF m 0 #[.val (.ref r0), .val (.int p1)] [] := by first | (simp [entryFrame, mkF, argsToLocals, Value.category]; done) | rfl
theorem d26_0 : decode prog_14_method_5_code 0 = .ok (.aload_n 0, 1) := by decide +kernel
theorem d26_1 : decode prog_14_method_5_code 1 = .ok (.iload_n 1, 1) := by decide +kernel
theorem d26_2 : decode prog_14_method_5_code 2 = .ok (.invokevirtual 41, 3) := by decide +kernel
theorem pd__I_I : parseMethodDescriptor "(I)I" = some ⟨[.int], some .int⟩ := by decide +kernel
theorem d26_5 : decode prog_14_method_5_code 5 = .ok (.aload_n 0, 1) := by decide +kernel
theorem d26_6 : decode prog_14_method_5_code 6 = .ok (.iload_n 1, 1) := by decide +kernel
theorem d26_7 : decode prog_14_method_5_code 7 = .ok (.invokevirtual 45, 3) := by decide +kernel
theorem d26_10 : decode prog_14_method_5_code 10 = .ok (.if_icmp .ne 7, 3) := by decide +kernel
theorem d26_13 : decode prog_14_method_5_code 13 = .ok (.iconst 1, 1) := by decide +kernel
theorem d26_14 : decode prog_14_method_5_code 14 = .ok (.goto 4, 3) := by decide +kernel
theorem d26_17 : decode prog_14_method_5_code 17 = .ok (.iconst 0, 1) := by decide +kernel
theorem d26_18 : decode prog_14_method_5_code 18 = .ok (.ireturn, 1) := by decide +kernel
def f26 (p1 : Int32) (c_ : Int32 → Int32) : Int32 := (nar .boolean (if (f27 p1 c_) = (f28 p1 c_) then (1 : Int32) else (0 : Int32)))
set_option maxRecDepth 65536 in
set_option maxHeartbeats 40000000 in
theorem rm26 (l : Launch) (Z : State) (a0 : Array Value) (hw : ∀ d ∈ tables_1, d.before a0 Z = true) (r0 : Addr) (p1 : Int32) (t0 : Addr) (c_ : Int32 → Int32) (h0 : Heap) (n0 : Nat) (E0 : Exa Z h0 r0 "com/example/indexloom/indexloom/data/DataLine") (Fb : Fld Z h0 r0 "com/example/indexloom/indexloom/data/DataLine" "bounds" "[I" (.ref t0)) (Vb : own_Arr Z h0 t0 .int (4 : Int32) c_) (hs : ¬ ((2 : Int32) * p1) < 0 ∧ ((2 : Int32) * p1) < 4) (he : ¬ (((2 : Int32) * p1) + (1 : Int32)) < 0 ∧ (((2 : Int32) * p1) + (1 : Int32)) < 4) :
    own_Met l Z n0 (⟨"com/example/indexloom/indexloom/data/DataLine", "isEmpty", "(I)Z"⟩ : MethodName) prog_14_method_5_code 2 (some .boolean) ({ frames := 1, cells := 0, slots := 0, locals := 14 } : Room) #[(.ref r0), (.int p1)] h0 (fun v h => v = some (.int (f26 p1 c_)) ∧ h0 = h) := by
  refine own_met (plainFor_of_name pn_21) ?_
  intro p e s m below meth c T0 hx hby hml hown hnm hret hlk hZ A0
  rw [ef_26]
  show own_Go _ _ _ _ (T0.setTop (mkF m 0 #[.val (.ref r0), .val (.int p1)] []))
  refine own_go (fun t_ k_ => XS.aloadN A0.here hx rfl (hb hby d26_0) rfl rfl k_) ?_
  show own_Go _ _ _ _ (T0.setTop (mkF m 1 #[.val (.ref r0), .val (.int p1)] [(.ref r0)]))
  refine own_go (fun t_ k_ => XS.iloadN A0.here hx rfl (hb hby d26_1) rfl k_) ?_
  show own_Go _ _ _ _ (T0.setTop (mkF m 2 #[.val (.ref r0), .val (.int p1)] [(.int p1), (.ref r0)]))
  refine own_callP A0 hx hZ (y := (⟨"com/example/indexloom/indexloom/data/DataLine", "start", "(I)I"⟩ : MethodName)) hown (hw _ (List.mem_of_getElem? (i := 153) rfl)) (hw _ (List.mem_of_getElem? (i := 154) rfl)) (hw _ (List.mem_of_getElem? (i := 155) rfl)) (hw _ (List.mem_of_getElem? (i := 135) rfl)) rfl (hw _ (List.mem_of_getElem? (i := 118) rfl)) (hw _ (List.mem_of_getElem? (i := 156) rfl)) (by decide) (b := r0) (argsL := [(.int p1)]) (rest := []) E0 (rm27 l Z a0 hw r0 p1 t0 c_ h0 n0 Fb Vb hs) 0 (by decide) (by decide) rfl (by rw [hml]; rfl) (lenOf pd__I_I rfl) rfl (by show 2 * 0 + _ ≤ _; exact Nat.le_of_eq rfl) (hb hby d26_2) (by decide) (by decide) (fun v4 T1 h3 A2 hQ5 => ?_)
  obtain ⟨rfl, rfl⟩ := hQ5
  show own_Go _ _ _ _ (T1.setTop (mkF m 5 #[.val (.ref r0), .val (.int p1)] [(.int (f27 p1 c_))]))
  refine own_go (fun t_ k_ => XS.aloadN A2.here hx rfl (hb hby d26_5) rfl rfl k_) ?_
  show own_Go _ _ _ _ (T1.setTop (mkF m 6 #[.val (.ref r0), .val (.int p1)] [(.ref r0), (.int (f27 p1 c_))]))
  refine own_go (fun t_ k_ => XS.iloadN A2.here hx rfl (hb hby d26_6) rfl k_) ?_
  show own_Go _ _ _ _ (T1.setTop (mkF m 7 #[.val (.ref r0), .val (.int p1)] [(.int p1), (.ref r0), (.int (f27 p1 c_))]))
  refine own_callP A2 hx hZ (y := (⟨"com/example/indexloom/indexloom/data/DataLine", "end", "(I)I"⟩ : MethodName)) hown (hw _ (List.mem_of_getElem? (i := 157) rfl)) (hw _ (List.mem_of_getElem? (i := 158) rfl)) (hw _ (List.mem_of_getElem? (i := 159) rfl)) (hw _ (List.mem_of_getElem? (i := 135) rfl)) rfl (hw _ (List.mem_of_getElem? (i := 118) rfl)) (hw _ (List.mem_of_getElem? (i := 160) rfl)) (by decide) (b := r0) (argsL := [(.int p1)]) (rest := [(.int (f27 p1 c_))]) E0 (rm28 l Z a0 hw r0 p1 t0 c_ h0 n0 Fb Vb he) 1 (by decide) (by decide) rfl (by rw [hml]; rfl) (lenOf pd__I_I rfl) rfl (by show 2 * 0 + _ ≤ _; exact Nat.le_of_eq rfl) (hb hby d26_7) (by decide) (by decide) (fun v9 T6 h8 A7 hQ10 => ?_)
  obtain ⟨rfl, rfl⟩ := hQ10
  show own_Go _ _ _ _ (T6.setTop (mkF m 10 #[.val (.ref r0), .val (.int p1)] [(.int (f28 p1 c_)), (.int (f27 p1 c_))]))
  have mg11 : ∀ t_, Steps p.tables e below (T6.setTop (mkF m 18 #[.val (.ref r0), .val (.int p1)] [(.int (if (f27 p1 c_) = (f28 p1 c_) then (1 : Int32) else (0 : Int32)))])) t_ → Steps p.tables e below (T6.setTop (mkF m 10 #[.val (.ref r0), .val (.int p1)] [(.int (f28 p1 c_)), (.int (f27 p1 c_))])) t_ := by
    intro t_ k_
    by_cases hm10_0 : (f27 p1 c_) = (f28 p1 c_)
    ·
      simp only [if_pos hm10_0] at k_
      exact (XS.icmpNo A7.here hx rfl (hb hby d26_10) rfl (teq hm10_0).2 (XS.iconst A7.here hx rfl (hb hby d26_13) (XS.goto A7.here hx rfl (pc0 := 14) (pc' := 18) rfl (hb hby d26_14) (by decide) (by decide) k_)))
    ·
      simp only [if_neg hm10_0] at k_
      exact (XS.icmpYes A7.here hx rfl (pc0 := 10) (pc' := 17) rfl (hb hby d26_10) rfl (feq hm10_0).2 (by decide) (by decide) (XS.iconst A7.here hx rfl (hb hby d26_17) k_))
  refine own_go mg11 ?_
  show own_Go _ _ _ _ (T6.setTop (mkF m 18 #[.val (.ref r0), .val (.int p1)] [(.int (if (f27 p1 c_) = (f28 p1 c_) then (1 : Int32) else (0 : Int32)))]))
  refine own_retN A7 hx (t := .boolean) hret (by simp) hlk (by decide) (by decide) (hb hby d26_18) ?_
  exact ⟨rfl, rfl⟩
def own_and7 (a b c d e f g : Int32) : Int32 := if a = 0 then 0 else if b = 0 then 0 else if c = 0 then 0 else if d = 0 then 0 else if e = 0 then 0 else if f = 0 then 0 else if g = 0 then 0 else 1
theorem own_from7 (p : Int32) : ∃ i : Nat, i < 7 ∧ (p &&& (2147483647 : Int32)) % (7 : Int32) = Int32.ofNat i := by
  have h0 : 0 ≤ (p &&& (2147483647 : Int32)).toInt := (c_and p 2147483647 (by decide)).1
  have h1 := (c_irem (p &&& (2147483647 : Int32)) 7 7 rfl).1 h0
  refine ⟨((p &&& (2147483647 : Int32)) % (7 : Int32)).toInt.toNat, by omega, Int32.toInt_inj.mp ?_⟩
  rw [own_nI (by omega)]
  omega
def own_cm (p i : Nat) : Bool := decide (i = p)
def own_bl (code i : Nat) : Bool := decide (code / 2 ^ i % 2 = 1)
/-- a byte is blank: 1 -/
def own_kb (b : Int32) : Nat := if b = 32 ∨ b = 9 ∨ b = 13 then 1 else 0
theorem own_kb_lt (b : Int32) : own_kb b < 2 := by unfold own_kb; split <;> omega
def own_cd (fb : Int32 → Int32) : Nat := own_kb (fb (Int32.ofNat 0)) + 2 * own_kb (fb (Int32.ofNat 1)) + 4 * own_kb (fb (Int32.ofNat 2)) + 8 * own_kb (fb (Int32.ofNat 3)) + 16 * own_kb (fb (Int32.ofNat 4)) + 32 * own_kb (fb (Int32.ofNat 5)) + 64 * own_kb (fb (Int32.ofNat 6))
theorem own_cd_lt (fb : Int32 → Int32) : own_cd fb < 128 := by
  unfold own_cd
  have h0 := own_kb_lt (fb (Int32.ofNat 0))
  have h1 := own_kb_lt (fb (Int32.ofNat 1))
  have h2 := own_kb_lt (fb (Int32.ofNat 2))
  have h3 := own_kb_lt (fb (Int32.ofNat 3))
  have h4 := own_kb_lt (fb (Int32.ofNat 4))
  have h5 := own_kb_lt (fb (Int32.ofNat 5))
  have h6 := own_kb_lt (fb (Int32.ofNat 6))
  omega
theorem own_cd_at (fb : Int32 → Int32) (i : Nat) (hi : i < 7) : own_cd fb / 2 ^ i % 2 = own_kb (fb (Int32.ofNat i)) := by
  unfold own_cd
  have h0 := own_kb_lt (fb (Int32.ofNat 0))
  have h1 := own_kb_lt (fb (Int32.ofNat 1))
  have h2 := own_kb_lt (fb (Int32.ofNat 2))
  have h3 := own_kb_lt (fb (Int32.ofNat 3))
  have h4 := own_kb_lt (fb (Int32.ofNat 4))
  have h5 := own_kb_lt (fb (Int32.ofNat 5))
  have h6 := own_kb_lt (fb (Int32.ofNat 6))
  rcases (by omega : i = 0 ∨ i = 1 ∨ i = 2 ∨ i = 3 ∨ i = 4 ∨ i = 5 ∨ i = 6) with rfl | rfl | rfl | rfl | rfl | rfl | rfl
  all_goals (simp only [Nat.pow_zero, Nat.pow_one, Nat.reducePow]; omega)
theorem own_bl_iff (fb : Int32 → Int32) (i : Nat) (hi : i < 7) : own_bl (own_cd fb) i = true ↔ (fb (Int32.ofNat i) = 32 ∨ fb (Int32.ofNat i) = 9 ∨ fb (Int32.ofNat i) = 13) := by
  unfold own_bl
  rw [own_cd_at fb i hi, decide_eq_true_iff]
  unfold own_kb
  by_cases h : fb (Int32.ofNat i) = 32 ∨ fb (Int32.ofNat i) = 9 ∨ fb (Int32.ofNat i) = 13
  · rw [if_pos h]; exact ⟨fun _ => h, fun _ => rfl⟩
  · rw [if_neg h]; exact ⟨fun z => absurd z (by decide), fun z => absurd z h⟩
theorem own_cls7 (p : Nat) (fb : Int32 → Int32) (hcm : ∀ i, i < 7 → (fb (Int32.ofNat i) = 44 ↔ i = p)) : own_Cls (own_cm p) (own_bl (own_cd fb)) 7 fb := by
  intro i hi
  refine ⟨(hcm i hi).trans ?_, (own_bl_iff fb i hi).symm⟩
  unfold own_cm
  rw [decide_eq_true_iff]
theorem own_npick (x z : Int32) : nar .byte (f1 x z) ≠ 44 := by
  unfold f1
  repeat' split
  all_goals decide
theorem own_comma (p : Nat) (hp : p < 7) (fb : Int32 → Int32) {x : Int32} (hfb : fb = (fun i => if i = (Int32.ofNat p) then nar .byte (44 : Int32) else (fun i => if i = (6 : Int32) then nar .byte (f1 x (18 : Int32)) else (fun i => if i = (5 : Int32) then nar .byte (f1 x (15 : Int32)) else (fun i => if i = (4 : Int32) then nar .byte (f1 x (12 : Int32)) else (fun i => if i = (3 : Int32) then nar .byte (f1 x (9 : Int32)) else (fun i => if i = (2 : Int32) then nar .byte (f1 x (6 : Int32)) else (fun i => if i = (1 : Int32) then nar .byte (f1 x (3 : Int32)) else (fun i => if i = (0 : Int32) then nar .byte (f1 x (0 : Int32)) else (fun _ => 0) i) i) i) i) i) i) i) i)) : ∀ i, i < 7 → (fb (Int32.ofNat i) = 44 ↔ i = p) := by
  intro i hi
  subst hfb
  dsimp only
  by_cases h : Int32.ofNat i = Int32.ofNat p
  · rw [if_pos h]
    exact ⟨fun _ => (own_neq (by omega) (by omega)).mp h, fun _ => by decide⟩
  · rw [if_neg h]
    refine ⟨fun z => ?_, fun z => absurd (by rw [z]) h⟩
    repeat' split at z
    all_goals first | exact absurd z (own_npick _ _) | exact absurd z (by decide)
def own_fs (p code : Nat) : List (Nat × Nat) := own_fields (own_cm p) (own_bl code) 7 (7 - 0 + 1) 0
def own_g (first : Bool) (p code i : Nat) : Int32 := if (if first then decide (i < p) else decide (p < i)) && !(own_bl code i) then 0 else 1
def own_e (first : Bool) (p code : Nat) : Int32 := own_and7 (own_g first p code 0) (own_g first p code 1) (own_g first p code 2) (own_g first p code 3) (own_g first p code 4) (own_g first p code 5) (own_g first p code 6)
def own_chk (p code : Nat) : Bool := decide ((own_fs p code).length = 2) && decide ((if Int32.ofNat ((own_fs p code).getD 0 (0, 0)).1 = Int32.ofNat ((own_fs p code).getD 0 (0, 0)).2 then (1 : Int32) else 0) = own_e true p code) && decide ((if Int32.ofNat ((own_fs p code).getD 1 (0, 0)).1 = Int32.ofNat ((own_fs p code).getD 1 (0, 0)).2 then (1 : Int32) else 0) = own_e false p code)
set_option maxRecDepth 100000 in
theorem own_chk_all : (List.range 7).all (fun p => (List.range 128).all (fun c => decide (own_bl c p = true) || own_chk p c)) = true := by decide +kernel
theorem own_plain0 (p code : Nat) (hp : p < 7) (hc : code < 128) (hb : ¬ own_bl code p = true) : (own_fs p code).length = 2 ∧ (if Int32.ofNat ((own_fs p code).getD 0 (0, 0)).1 = Int32.ofNat ((own_fs p code).getD 0 (0, 0)).2 then (1 : Int32) else 0) = own_e true p code ∧ (if Int32.ofNat ((own_fs p code).getD 1 (0, 0)).1 = Int32.ofNat ((own_fs p code).getD 1 (0, 0)).2 then (1 : Int32) else 0) = own_e false p code := by
  have h := List.all_eq_true.mp (List.all_eq_true.mp own_chk_all p (List.mem_range.mpr hp)) code (List.mem_range.mpr hc)
  rcases (Bool.or_eq_true _ _).mp h with h | h
  · exact absurd (of_decide_eq_true h) hb
  · unfold own_chk at h
    rw [Bool.and_eq_true, Bool.and_eq_true] at h
    exact ⟨of_decide_eq_true h.1.1, of_decide_eq_true h.1.2, of_decide_eq_true h.2⟩
theorem own_nbl (p : Nat) (hp : p < 7) (fb : Int32 → Int32) (hcm : ∀ i, i < 7 → (fb (Int32.ofNat i) = 44 ↔ i = p)) : ¬ own_bl (own_cd fb) p = true := by
  rw [own_bl_iff fb p hp, (hcm p hp).mpr rfl]
  decide
theorem own_plain (p : Nat) (fb : Int32 → Int32) (hp : p < 7) (hcm : ∀ i, i < 7 → (fb (Int32.ofNat i) = 44 ↔ i = p)) : Int32.ofNat (own_fields (own_cm p) (own_bl (own_cd fb)) 7 (7 - 0 + 1) 0).length = (2 : Int32) := by
  have h := (own_plain0 p (own_cd fb) hp (own_cd_lt fb) (own_nbl p hp fb hcm)).1
  unfold own_fs at h
  rw [h]
  rfl
theorem own_fine0 (i p : Nat) (hi : i < 7) (hp : p < 7) (fb : Int32 → Int32) : f24 (Int32.ofNat i) (Int32.ofNat p) (1 : Int32) fb = own_g true p (own_cd fb) i := by
  unfold f24 own_g
  rw [if_neg (by decide)]
  have hb := own_bl_iff fb i hi
  by_cases h : i < p
  · rw [if_pos ((own_nlt (by omega) (by omega)).mpr h)]
    by_cases q : own_bl (own_cd fb) i = true
    · have e : f25 (fb (Int32.ofNat i)) = 1 := by
        unfold f25
        rcases hb.mp q with z | z | z <;> rw [z] <;> rfl
      rw [e, q]
      simp
      rfl
    · have e : f25 (fb (Int32.ofNat i)) = 0 := by
        have n := fun z => q (hb.mpr z)
        unfold f25
        rw [if_neg (fun z => n (Or.inl z)), if_neg (fun z => n (Or.inr (Or.inl z))), if_neg (fun z => n (Or.inr (Or.inr z)))]
        rfl
      rw [e, show own_bl (own_cd fb) i = false from by simpa using q]
      simp [h]
      rfl
  · rw [if_neg (fun z => h ((own_nlt (by omega) (by omega)).mp z))]
    simp [h]
theorem own_fine1 (i p : Nat) (hi : i < 7) (hp : p < 7) (fb : Int32 → Int32) : f24 (Int32.ofNat i) (Int32.ofNat p) (0 : Int32) fb = own_g false p (own_cd fb) i := by
  unfold f24 own_g
  rw [if_pos rfl]
  have hb := own_bl_iff fb i hi
  by_cases h : p < i
  · rw [if_pos ((own_nlt (by omega) (by omega)).mpr h)]
    by_cases q : own_bl (own_cd fb) i = true
    · have e : f25 (fb (Int32.ofNat i)) = 1 := by
        unfold f25
        rcases hb.mp q with z | z | z <;> rw [z] <;> rfl
      rw [e, q]
      simp
      rfl
    · have e : f25 (fb (Int32.ofNat i)) = 0 := by
        have n := fun z => q (hb.mpr z)
        unfold f25
        rw [if_neg (fun z => n (Or.inl z)), if_neg (fun z => n (Or.inr (Or.inl z))), if_neg (fun z => n (Or.inr (Or.inr z)))]
        rfl
      rw [e, show own_bl (own_cd fb) i = false from by simpa using q]
      simp [h]
      rfl
  · rw [if_neg (fun z => h ((own_nlt (by omega) (by omega)).mp z))]
    simp [h]
theorem own_bd2 {p : Nat} {fb c : Int32 → Int32} {j : Nat} (hj : j < 2) (hl : (own_fs p (own_cd fb)).length = 2) (B : own_Bd 2 (own_fields (own_cm p) (own_bl (own_cd fb)) 7 (7 - 0 + 1) 0) (fun _ => 0) c) : c (Int32.ofNat (2 * j)) = Int32.ofNat ((own_fs p (own_cd fb)).getD j (0, 0)).1 ∧ c (Int32.ofNat (2 * j + 1)) = Int32.ofNat ((own_fs p (own_cd fb)).getD j (0, 0)).2 := by
  have b := B j hj
  have hl' : j < (own_fields (own_cm p) (own_bl (own_cd fb)) 7 (7 - 0 + 1) 0).length := by
    have : (own_fields (own_cm p) (own_bl (own_cd fb)) 7 (7 - 0 + 1) 0).length = 2 := hl
    omega
  rw [if_pos hl', if_pos hl'] at b
  exact b
theorem own_law0 (p : Nat) (fb c : Int32 → Int32) (hp : p < 7) (hcm : ∀ i, i < 7 → (fb (Int32.ofNat i) = 44 ↔ i = p)) (B : own_Bd 2 (own_fields (own_cm p) (own_bl (own_cd fb)) 7 (7 - 0 + 1) 0) (fun _ => 0) c) :
    f26 (0 : Int32) c = own_and7 (f24 (0 : Int32) (Int32.ofNat p) (1 : Int32) fb) (f24 (1 : Int32) (Int32.ofNat p) (1 : Int32) fb) (f24 (2 : Int32) (Int32.ofNat p) (1 : Int32) fb) (f24 (3 : Int32) (Int32.ofNat p) (1 : Int32) fb) (f24 (4 : Int32) (Int32.ofNat p) (1 : Int32) fb) (f24 (5 : Int32) (Int32.ofNat p) (1 : Int32) fb) (f24 (6 : Int32) (Int32.ofNat p) (1 : Int32) fb) := by
  obtain ⟨h1, h2, h3⟩ := own_plain0 p (own_cd fb) hp (own_cd_lt fb) (own_nbl p hp fb hcm)
  have b := own_bd2 (j := 0) (by decide) h1 B
  have f := fun i hi => own_fine0 i p hi hp fb
  refine Eq.trans ?_ (Eq.trans h2 ?_)
  · have b1 : f27 (0 : Int32) c = Int32.ofNat ((own_fs p (own_cd fb)).getD 0 (0, 0)).1 := b.1
    have b2 : f28 (0 : Int32) c = Int32.ofNat ((own_fs p (own_cd fb)).getD 0 (0, 0)).2 := b.2
    unfold f26
    rw [b1, b2]
    split <;> rfl
  · unfold own_e
    rw [← f 0 (by decide), ← f 1 (by decide), ← f 2 (by decide), ← f 3 (by decide), ← f 4 (by decide), ← f 5 (by decide), ← f 6 (by decide)]
    rfl
theorem own_law1 (p : Nat) (fb c : Int32 → Int32) (hp : p < 7) (hcm : ∀ i, i < 7 → (fb (Int32.ofNat i) = 44 ↔ i = p)) (B : own_Bd 2 (own_fields (own_cm p) (own_bl (own_cd fb)) 7 (7 - 0 + 1) 0) (fun _ => 0) c) :
    f26 (1 : Int32) c = own_and7 (f24 (0 : Int32) (Int32.ofNat p) (0 : Int32) fb) (f24 (1 : Int32) (Int32.ofNat p) (0 : Int32) fb) (f24 (2 : Int32) (Int32.ofNat p) (0 : Int32) fb) (f24 (3 : Int32) (Int32.ofNat p) (0 : Int32) fb) (f24 (4 : Int32) (Int32.ofNat p) (0 : Int32) fb) (f24 (5 : Int32) (Int32.ofNat p) (0 : Int32) fb) (f24 (6 : Int32) (Int32.ofNat p) (0 : Int32) fb) := by
  obtain ⟨h1, h2, h3⟩ := own_plain0 p (own_cd fb) hp (own_cd_lt fb) (own_nbl p hp fb hcm)
  have b := own_bd2 (j := 1) (by decide) h1 B
  have f := fun i hi => own_fine1 i p hi hp fb
  refine Eq.trans ?_ (Eq.trans h3 ?_)
  · have b1 : f27 (1 : Int32) c = Int32.ofNat ((own_fs p (own_cd fb)).getD 1 (0, 0)).1 := b.1
    have b2 : f28 (1 : Int32) c = Int32.ofNat ((own_fs p (own_cd fb)).getD 1 (0, 0)).2 := b.2
    unfold f26
    rw [b1, b2]
    split <;> rfl
  · unfold own_e
    rw [← f 0 (by decide), ← f 1 (by decide), ← f 2 (by decide), ← f 3 (by decide), ← f 4 (by decide), ← f 5 (by decide), ← f 6 (by decide)]
    rfl
theorem ef_0 (m : MethodId) (p0 : Int32) (p1 : Int32) (p2 : Int32) : entryFrame m #[(.int p0), (.int p1), (.int p2)] maxLocals = mkF m 0 #[.val (.int p0), .val (.int p1), .val (.int p2), .unset, .unset, .unset, .unset, .unset, .unset] [] := by first | (simp [entryFrame, mkF, argsToLocals, Value.category, maxLocals]; done) | rfl
theorem pd__II_B : parseMethodDescriptor "(II)B" = some ⟨[.int, .int], some .byte⟩ := by decide +kernel
theorem own_wS {Z : State} {a0 : Array Value} (hw : ∀ d ∈ tables_1, d.before a0 Z = true) : ∀ a ∈ Bundle.stringAtoms, a.before a0 Z = true := fun d hd => hw d ((by decide +kernel : ∀ d ∈ Bundle.stringAtoms, d ∈ tables_1) d hd)
theorem pd__Ljava_lang_String_Ljava_lang_String__V : parseMethodDescriptor "(Ljava/lang/String;Ljava/lang/String;)V" = some ⟨[(.object "java/lang/String"), (.object "java/lang/String")], none⟩ := by decide +kernel
theorem pd__Lcom_example_indexloom_indexloom_data_DataHeader__V : parseMethodDescriptor "(Lcom/example/indexloom/indexloom/data/DataHeader;)V" = some ⟨[(.object "com/example/indexloom/indexloom/data/DataHeader")], none⟩ := by decide +kernel
theorem pd__I_BII_V : parseMethodDescriptor "(I[BII)V" = some ⟨[.int, (.array .byte), .int, .int], none⟩ := by decide +kernel
theorem pd__I_Z : parseMethodDescriptor "(I)Z" = some ⟨[.int], some .boolean⟩ := by decide +kernel
theorem pd___BIIZ_Z : parseMethodDescriptor "([BIIZ)Z" = some ⟨[(.array .byte), .int, .int, .boolean], some .boolean⟩ := by decide +kernel
set_option maxRecDepth 65536 in
set_option maxHeartbeats 40000000 in
theorem rm0 (l : Launch) (Z : State) (a0 : Array Value) (hw : ∀ d ∈ tables_1, d.before a0 Z = true) (p0 : Int32) (p1 : Int32) (p2 : Int32) (u8 : Addr) (z_C : Int32) (s_F : Value) (h0 : Heap) (n0 : Nat) (O0 : Old Z n0 h0) (hN : h0.size ≤ n0) (hcw : Jvm.Lit.compactW.before a0 Z = true) (hH : Jvm.D.constsHeld consts_1 Z) (Z0 : n0 ≤ h0.size) (hz : ¬ z_C = 0) (hr_F : s_F.isRef = true) (E8 : Exa Z Z.heap u8 "sun/nio/cs/UTF_8") (S_UTF_8 : Sta Z Z.heap "java/nio/charset/StandardCharsets" "UTF_8" "Ljava/nio/charset/Charset;" (.ref u8)) (S_INSTANCE : Sta Z Z.heap "sun/nio/cs/UTF_8" "INSTANCE" "Lsun/nio/cs/UTF_8;" (.ref u8)) (S_COMPACT_STRINGS : Sta Z Z.heap "java/lang/String" "COMPACT_STRINGS" "Z" (.int z_C)) (S_SIOOBE_FORMATTER : Sta Z Z.heap "jdk/internal/util/Preconditions" "SIOOBE_FORMATTER" "Ljava/util/function/BiFunction;" s_F) :
    own_MetW l Z n0 x code maxLocals ret room_1 #[(.int p0), (.int p1), (.int p2)] h0 [] (fun v h => v = some (.int 1) ∧ True) := by
  refine own_metW (plainFor_of_name pn_1) ?_
  intro p e s m below meth c T0 hx hby hml hown hnm hret hlk hZ A0 hs0 hS hI
  have hkeep : ∀ (b : Addr) (cl : Cell), Z.heap[b]? = some cl → s.heap[b]? = some cl := by rw [hs0]; exact O0.2.2
  have hn0 : s.heap.size ≤ n0 := by rw [hs0]; exact hN
  have hret : meth.sig.returnType = some .boolean := hret
  rw [ef_0]
  show own_Go _ _ _ _ (T0.setTop (mkF m 0 #[.val (.int p0), .val (.int p1), .val (.int p2), .unset, .unset, .unset, .unset, .unset, .unset] []))
  refine own_go (fun t_ k_ => XS.iloadN A0.here hx rfl (hb hby at_0) rfl k_) ?_
  show own_Go _ _ _ _ (T0.setTop (mkF m 1 #[.val (.int p0), .val (.int p1), .val (.int p2), .unset, .unset, .unset, .unset, .unset, .unset] [(.int p1)]))
  refine own_ldcI A0 hx hZ hown (hw _ (List.mem_of_getElem? (i := 0) rfl)) rfl (hb hby at_1) ?_
  show own_Go _ _ _ _ (T0.setTop (mkF m 3 #[.val (.int p0), .val (.int p1), .val (.int p2), .unset, .unset, .unset, .unset, .unset, .unset] [(.int (2147483647 : Int32)), (.int p1)]))
  refine own_go (fun t_ k_ => XS.iand A0.here hx rfl (hb hby at_3) rfl k_) ?_
  show own_Go _ _ _ _ (T0.setTop (mkF m 4 #[.val (.int p0), .val (.int p1), .val (.int p2), .unset, .unset, .unset, .unset, .unset, .unset] [(.int (p1 &&& (2147483647 : Int32)))]))
  refine own_go (fun t_ k_ => XS.bipush A0.here hx rfl (hb hby at_4) k_) ?_
  show own_Go _ _ _ _ (T0.setTop (mkF m 6 #[.val (.int p0), .val (.int p1), .val (.int p2), .unset, .unset, .unset, .unset, .unset, .unset] [(.int (7 : Int32)), (.int (p1 &&& (2147483647 : Int32)))]))
  refine own_go (fun t_ k_ => own_irem A0.here hx rfl (hb hby at_6) rfl (by decide) k_) ?_
  show own_Go _ _ _ _ (T0.setTop (mkF m 7 #[.val (.int p0), .val (.int p1), .val (.int p2), .unset, .unset, .unset, .unset, .unset, .unset] [(.int ((p1 &&& (2147483647 : Int32)) % (7 : Int32)))]))
  obtain ⟨pn, hpn, epn⟩ := own_from7 p1
  rw [epn]
  show own_Go _ _ _ _ (T0.setTop (mkF m 7 #[.val (.int p0), .val (.int p1), .val (.int p2), .unset, .unset, .unset, .unset, .unset, .unset] [(.int (Int32.ofNat pn))]))
  refine own_go (fun t_ k_ => XS.istoreN A0.here hx rfl (hb hby at_7) rfl (l' := #[.val (.int p0), .val (.int p1), .val (.int p2), .val (.int (Int32.ofNat pn)), .unset, .unset, .unset, .unset, .unset]) rfl k_) ?_
  show own_Go _ _ _ _ (T0.setTop (mkF m 8 #[.val (.int p0), .val (.int p1), .val (.int p2), .val (.int (Int32.ofNat pn)), .unset, .unset, .unset, .unset, .unset] []))
  refine own_go (fun t_ k_ => XS.bipush A0.here hx rfl (hb hby at_8) k_) ?_
  show own_Go _ _ _ _ (T0.setTop (mkF m 10 #[.val (.int p0), .val (.int p1), .val (.int p2), .val (.int (Int32.ofNat pn)), .unset, .unset, .unset, .unset, .unset] [(.int (7 : Int32))]))
  refine own_newP A0 hx hZ (hw _ (List.mem_of_getElem? (i := 1) rfl)) rfl rfl (hb hby at_10) rfl (by decide) 7 (by decide) (by decide) (by decide) (by decide) (fun T1 h3 b4 ha_b4 A2 E5 V6 R7 => ?_)
  have g_b4 : n0 ≤ b4 := by rw [ha_b4]; exact Z0
  have Y8 : 0 ≤ h3.size := Nat.le_trans (Nat.zero_le _) E5.1
  have O9 : Old Z n0 h3 := O0.ext E5
  have Z10 : n0 ≤ h3.size := Nat.le_trans Z0 E5.1
  show own_Go _ _ _ _ (T1.setTop (mkF m 12 #[.val (.int p0), .val (.int p1), .val (.int p2), .val (.int (Int32.ofNat pn)), .unset, .unset, .unset, .unset, .unset] [(.ref b4)]))
  refine own_go (fun t_ k_ => XS.astore A2.here hx rfl (hb hby at_12) rfl rfl (l' := #[.val (.int p0), .val (.int p1), .val (.int p2), .val (.int (Int32.ofNat pn)), .val (.ref b4), .unset, .unset, .unset, .unset]) rfl k_) ?_
  show own_Go _ _ _ _ (T1.setTop (mkF m 14 #[.val (.int p0), .val (.int p1), .val (.int p2), .val (.int (Int32.ofNat pn)), .val (.ref b4), .unset, .unset, .unset, .unset] []))
  refine own_go (fun t_ k_ => XS.aload A2.here hx rfl (hb hby at_14) rfl rfl k_) ?_
  show own_Go _ _ _ _ (T1.setTop (mkF m 16 #[.val (.int p0), .val (.int p1), .val (.int p2), .val (.int (Int32.ofNat pn)), .val (.ref b4), .unset, .unset, .unset, .unset] [(.ref b4)]))
  refine own_go (fun t_ k_ => XS.iconst A2.here hx rfl (hb hby at_16) k_) ?_
  show own_Go _ _ _ _ (T1.setTop (mkF m 17 #[.val (.int p0), .val (.int p1), .val (.int p2), .val (.int (Int32.ofNat pn)), .val (.ref b4), .unset, .unset, .unset, .unset] [(.int (0 : Int32)), (.ref b4)]))
  refine own_go (fun t_ k_ => XS.iloadN A2.here hx rfl (hb hby at_17) rfl k_) ?_
  show own_Go _ _ _ _ (T1.setTop (mkF m 18 #[.val (.int p0), .val (.int p1), .val (.int p2), .val (.int (Int32.ofNat pn)), .val (.ref b4), .unset, .unset, .unset, .unset] [(.int p0), (.int (0 : Int32)), (.ref b4)]))
  refine own_go (fun t_ k_ => XS.iconst A2.here hx rfl (hb hby at_18) k_) ?_
  show own_Go _ _ _ _ (T1.setTop (mkF m 19 #[.val (.int p0), .val (.int p1), .val (.int p2), .val (.int (Int32.ofNat pn)), .val (.ref b4), .unset, .unset, .unset, .unset] [(.int (0 : Int32)), (.int p0), (.int (0 : Int32)), (.ref b4)]))
  refine own_callS A2 hx hZ hown (y := (⟨"com/example/indexloom/indexloom/data/DataLineIsEmptyPinLaw", "pick", "(II)B"⟩ : MethodName)) (hw _ (List.mem_of_getElem? (i := 2) rfl)) (hw _ (List.mem_of_getElem? (i := 3) rfl)) (hw _ (List.mem_of_getElem? (i := 4) rfl)) (hw _ (List.mem_of_getElem? (i := 5) rfl)) (by decide) (argsL := [(.int p0), (.int (0 : Int32))]) (rest := [(.int (0 : Int32)), (.ref b4)]) (rm1 l Z a0 hw p0 (0 : Int32) h3 n0 ) 2 (by decide) (by decide) rfl (by rw [hml]; rfl) (lenOf pd__II_B rfl) rfl (by show 2 * 0 + _ ≤ _; exact Nat.le_of_eq rfl) (hb hby at_19) (by decide) (by decide) (fun v14 T11 h13 A12 hQ15 => ?_)
  obtain ⟨rfl, rfl⟩ := hQ15
  show own_Go _ _ _ _ (T11.setTop (mkF m 22 #[.val (.int p0), .val (.int p1), .val (.int p2), .val (.int (Int32.ofNat pn)), .val (.ref b4), .unset, .unset, .unset, .unset] [(.int (f1 p0 (0 : Int32))), (.int (0 : Int32)), (.ref b4)]))
  refine own_stB A12 hx hZ V6 ⟨by decide, by decide⟩ g_b4 rfl rfl (hb hby at_22) (fun T16 h18 A17 W19 V20 => ?_)
  have Y21 : 0 ≤ h18.size := Nat.le_trans Y8 (Nat.le_of_eq (Wr.size W19).symm)
  have O22 : Old Z n0 h18 := O9.wr W19 g_b4
  have Z23 : n0 ≤ h18.size := Nat.le_trans Z10 (Nat.le_of_eq (Wr.size W19).symm)
  have V24 : own_Arr Z h18 b4 .byte (7 : Int32) (fun i => if i = (0 : Int32) then nar .byte (f1 p0 (0 : Int32)) else (fun _ => 0) i) := V20
  show own_Go _ _ _ _ (T16.setTop (mkF m 23 #[.val (.int p0), .val (.int p1), .val (.int p2), .val (.int (Int32.ofNat pn)), .val (.ref b4), .unset, .unset, .unset, .unset] []))
  refine own_go (fun t_ k_ => XS.aload A17.here hx rfl (hb hby at_23) rfl rfl k_) ?_
  show own_Go _ _ _ _ (T16.setTop (mkF m 25 #[.val (.int p0), .val (.int p1), .val (.int p2), .val (.int (Int32.ofNat pn)), .val (.ref b4), .unset, .unset, .unset, .unset] [(.ref b4)]))
  refine own_go (fun t_ k_ => XS.iconst A17.here hx rfl (hb hby at_25) k_) ?_
  show own_Go _ _ _ _ (T16.setTop (mkF m 26 #[.val (.int p0), .val (.int p1), .val (.int p2), .val (.int (Int32.ofNat pn)), .val (.ref b4), .unset, .unset, .unset, .unset] [(.int (1 : Int32)), (.ref b4)]))
  refine own_go (fun t_ k_ => XS.iloadN A17.here hx rfl (hb hby at_26) rfl k_) ?_
  show own_Go _ _ _ _ (T16.setTop (mkF m 27 #[.val (.int p0), .val (.int p1), .val (.int p2), .val (.int (Int32.ofNat pn)), .val (.ref b4), .unset, .unset, .unset, .unset] [(.int p0), (.int (1 : Int32)), (.ref b4)]))
  refine own_go (fun t_ k_ => XS.iconst A17.here hx rfl (hb hby at_27) k_) ?_
  show own_Go _ _ _ _ (T16.setTop (mkF m 28 #[.val (.int p0), .val (.int p1), .val (.int p2), .val (.int (Int32.ofNat pn)), .val (.ref b4), .unset, .unset, .unset, .unset] [(.int (3 : Int32)), (.int p0), (.int (1 : Int32)), (.ref b4)]))
  refine own_callS A17 hx hZ hown (y := (⟨"com/example/indexloom/indexloom/data/DataLineIsEmptyPinLaw", "pick", "(II)B"⟩ : MethodName)) (hw _ (List.mem_of_getElem? (i := 2) rfl)) (hw _ (List.mem_of_getElem? (i := 3) rfl)) (hw _ (List.mem_of_getElem? (i := 4) rfl)) (hw _ (List.mem_of_getElem? (i := 5) rfl)) (by decide) (argsL := [(.int p0), (.int (3 : Int32))]) (rest := [(.int (1 : Int32)), (.ref b4)]) (rm1 l Z a0 hw p0 (3 : Int32) h18 n0 ) 2 (by decide) (by decide) rfl (by rw [hml]; rfl) (lenOf pd__II_B rfl) rfl (by show 2 * 0 + _ ≤ _; exact Nat.le_of_eq rfl) (hb hby at_28) (by decide) (by decide) (fun v28 T25 h27 A26 hQ29 => ?_)
  obtain ⟨rfl, rfl⟩ := hQ29
  show own_Go _ _ _ _ (T25.setTop (mkF m 31 #[.val (.int p0), .val (.int p1), .val (.int p2), .val (.int (Int32.ofNat pn)), .val (.ref b4), .unset, .unset, .unset, .unset] [(.int (f1 p0 (3 : Int32))), (.int (1 : Int32)), (.ref b4)]))
  refine own_stB A26 hx hZ V24 ⟨by decide, by decide⟩ g_b4 rfl rfl (hb hby at_31) (fun T30 h32 A31 W33 V34 => ?_)
  have Y35 : 0 ≤ h32.size := Nat.le_trans Y21 (Nat.le_of_eq (Wr.size W33).symm)
  have O36 : Old Z n0 h32 := O22.wr W33 g_b4
  have Z37 : n0 ≤ h32.size := Nat.le_trans Z23 (Nat.le_of_eq (Wr.size W33).symm)
  have V38 : own_Arr Z h32 b4 .byte (7 : Int32) (fun i => if i = (1 : Int32) then nar .byte (f1 p0 (3 : Int32)) else (fun i => if i = (0 : Int32) then nar .byte (f1 p0 (0 : Int32)) else (fun _ => 0) i) i) := V34
  show own_Go _ _ _ _ (T30.setTop (mkF m 32 #[.val (.int p0), .val (.int p1), .val (.int p2), .val (.int (Int32.ofNat pn)), .val (.ref b4), .unset, .unset, .unset, .unset] []))
  refine own_go (fun t_ k_ => XS.aload A31.here hx rfl (hb hby at_32) rfl rfl k_) ?_
  show own_Go _ _ _ _ (T30.setTop (mkF m 34 #[.val (.int p0), .val (.int p1), .val (.int p2), .val (.int (Int32.ofNat pn)), .val (.ref b4), .unset, .unset, .unset, .unset] [(.ref b4)]))
  refine own_go (fun t_ k_ => XS.iconst A31.here hx rfl (hb hby at_34) k_) ?_
  show own_Go _ _ _ _ (T30.setTop (mkF m 35 #[.val (.int p0), .val (.int p1), .val (.int p2), .val (.int (Int32.ofNat pn)), .val (.ref b4), .unset, .unset, .unset, .unset] [(.int (2 : Int32)), (.ref b4)]))
  refine own_go (fun t_ k_ => XS.iloadN A31.here hx rfl (hb hby at_35) rfl k_) ?_
  show own_Go _ _ _ _ (T30.setTop (mkF m 36 #[.val (.int p0), .val (.int p1), .val (.int p2), .val (.int (Int32.ofNat pn)), .val (.ref b4), .unset, .unset, .unset, .unset] [(.int p0), (.int (2 : Int32)), (.ref b4)]))
  refine own_go (fun t_ k_ => XS.bipush A31.here hx rfl (hb hby at_36) k_) ?_
  show own_Go _ _ _ _ (T30.setTop (mkF m 38 #[.val (.int p0), .val (.int p1), .val (.int p2), .val (.int (Int32.ofNat pn)), .val (.ref b4), .unset, .unset, .unset, .unset] [(.int (6 : Int32)), (.int p0), (.int (2 : Int32)), (.ref b4)]))
  refine own_callS A31 hx hZ hown (y := (⟨"com/example/indexloom/indexloom/data/DataLineIsEmptyPinLaw", "pick", "(II)B"⟩ : MethodName)) (hw _ (List.mem_of_getElem? (i := 2) rfl)) (hw _ (List.mem_of_getElem? (i := 3) rfl)) (hw _ (List.mem_of_getElem? (i := 4) rfl)) (hw _ (List.mem_of_getElem? (i := 5) rfl)) (by decide) (argsL := [(.int p0), (.int (6 : Int32))]) (rest := [(.int (2 : Int32)), (.ref b4)]) (rm1 l Z a0 hw p0 (6 : Int32) h32 n0 ) 2 (by decide) (by decide) rfl (by rw [hml]; rfl) (lenOf pd__II_B rfl) rfl (by show 2 * 0 + _ ≤ _; exact Nat.le_of_eq rfl) (hb hby at_38) (by decide) (by decide) (fun v42 T39 h41 A40 hQ43 => ?_)
  obtain ⟨rfl, rfl⟩ := hQ43
  show own_Go _ _ _ _ (T39.setTop (mkF m 41 #[.val (.int p0), .val (.int p1), .val (.int p2), .val (.int (Int32.ofNat pn)), .val (.ref b4), .unset, .unset, .unset, .unset] [(.int (f1 p0 (6 : Int32))), (.int (2 : Int32)), (.ref b4)]))
  refine own_stB A40 hx hZ V38 ⟨by decide, by decide⟩ g_b4 rfl rfl (hb hby at_41) (fun T44 h46 A45 W47 V48 => ?_)
  have Y49 : 0 ≤ h46.size := Nat.le_trans Y35 (Nat.le_of_eq (Wr.size W47).symm)
  have O50 : Old Z n0 h46 := O36.wr W47 g_b4
  have Z51 : n0 ≤ h46.size := Nat.le_trans Z37 (Nat.le_of_eq (Wr.size W47).symm)
  have V52 : own_Arr Z h46 b4 .byte (7 : Int32) (fun i => if i = (2 : Int32) then nar .byte (f1 p0 (6 : Int32)) else (fun i => if i = (1 : Int32) then nar .byte (f1 p0 (3 : Int32)) else (fun i => if i = (0 : Int32) then nar .byte (f1 p0 (0 : Int32)) else (fun _ => 0) i) i) i) := V48
  show own_Go _ _ _ _ (T44.setTop (mkF m 42 #[.val (.int p0), .val (.int p1), .val (.int p2), .val (.int (Int32.ofNat pn)), .val (.ref b4), .unset, .unset, .unset, .unset] []))
  refine own_go (fun t_ k_ => XS.aload A45.here hx rfl (hb hby at_42) rfl rfl k_) ?_
  show own_Go _ _ _ _ (T44.setTop (mkF m 44 #[.val (.int p0), .val (.int p1), .val (.int p2), .val (.int (Int32.ofNat pn)), .val (.ref b4), .unset, .unset, .unset, .unset] [(.ref b4)]))
  refine own_go (fun t_ k_ => XS.iconst A45.here hx rfl (hb hby at_44) k_) ?_
  show own_Go _ _ _ _ (T44.setTop (mkF m 45 #[.val (.int p0), .val (.int p1), .val (.int p2), .val (.int (Int32.ofNat pn)), .val (.ref b4), .unset, .unset, .unset, .unset] [(.int (3 : Int32)), (.ref b4)]))
  refine own_go (fun t_ k_ => XS.iloadN A45.here hx rfl (hb hby at_45) rfl k_) ?_
  show own_Go _ _ _ _ (T44.setTop (mkF m 46 #[.val (.int p0), .val (.int p1), .val (.int p2), .val (.int (Int32.ofNat pn)), .val (.ref b4), .unset, .unset, .unset, .unset] [(.int p0), (.int (3 : Int32)), (.ref b4)]))
  refine own_go (fun t_ k_ => XS.bipush A45.here hx rfl (hb hby at_46) k_) ?_
  show own_Go _ _ _ _ (T44.setTop (mkF m 48 #[.val (.int p0), .val (.int p1), .val (.int p2), .val (.int (Int32.ofNat pn)), .val (.ref b4), .unset, .unset, .unset, .unset] [(.int (9 : Int32)), (.int p0), (.int (3 : Int32)), (.ref b4)]))
  refine own_callS A45 hx hZ hown (y := (⟨"com/example/indexloom/indexloom/data/DataLineIsEmptyPinLaw", "pick", "(II)B"⟩ : MethodName)) (hw _ (List.mem_of_getElem? (i := 2) rfl)) (hw _ (List.mem_of_getElem? (i := 3) rfl)) (hw _ (List.mem_of_getElem? (i := 4) rfl)) (hw _ (List.mem_of_getElem? (i := 5) rfl)) (by decide) (argsL := [(.int p0), (.int (9 : Int32))]) (rest := [(.int (3 : Int32)), (.ref b4)]) (rm1 l Z a0 hw p0 (9 : Int32) h46 n0 ) 2 (by decide) (by decide) rfl (by rw [hml]; rfl) (lenOf pd__II_B rfl) rfl (by show 2 * 0 + _ ≤ _; exact Nat.le_of_eq rfl) (hb hby at_48) (by decide) (by decide) (fun v56 T53 h55 A54 hQ57 => ?_)
  obtain ⟨rfl, rfl⟩ := hQ57
  show own_Go _ _ _ _ (T53.setTop (mkF m 51 #[.val (.int p0), .val (.int p1), .val (.int p2), .val (.int (Int32.ofNat pn)), .val (.ref b4), .unset, .unset, .unset, .unset] [(.int (f1 p0 (9 : Int32))), (.int (3 : Int32)), (.ref b4)]))
  refine own_stB A54 hx hZ V52 ⟨by decide, by decide⟩ g_b4 rfl rfl (hb hby at_51) (fun T58 h60 A59 W61 V62 => ?_)
  have Y63 : 0 ≤ h60.size := Nat.le_trans Y49 (Nat.le_of_eq (Wr.size W61).symm)
  have O64 : Old Z n0 h60 := O50.wr W61 g_b4
  have Z65 : n0 ≤ h60.size := Nat.le_trans Z51 (Nat.le_of_eq (Wr.size W61).symm)
  have V66 : own_Arr Z h60 b4 .byte (7 : Int32) (fun i => if i = (3 : Int32) then nar .byte (f1 p0 (9 : Int32)) else (fun i => if i = (2 : Int32) then nar .byte (f1 p0 (6 : Int32)) else (fun i => if i = (1 : Int32) then nar .byte (f1 p0 (3 : Int32)) else (fun i => if i = (0 : Int32) then nar .byte (f1 p0 (0 : Int32)) else (fun _ => 0) i) i) i) i) := V62
  show own_Go _ _ _ _ (T58.setTop (mkF m 52 #[.val (.int p0), .val (.int p1), .val (.int p2), .val (.int (Int32.ofNat pn)), .val (.ref b4), .unset, .unset, .unset, .unset] []))
  refine own_go (fun t_ k_ => XS.aload A59.here hx rfl (hb hby at_52) rfl rfl k_) ?_
  show own_Go _ _ _ _ (T58.setTop (mkF m 54 #[.val (.int p0), .val (.int p1), .val (.int p2), .val (.int (Int32.ofNat pn)), .val (.ref b4), .unset, .unset, .unset, .unset] [(.ref b4)]))
  refine own_go (fun t_ k_ => XS.iconst A59.here hx rfl (hb hby at_54) k_) ?_
  show own_Go _ _ _ _ (T58.setTop (mkF m 55 #[.val (.int p0), .val (.int p1), .val (.int p2), .val (.int (Int32.ofNat pn)), .val (.ref b4), .unset, .unset, .unset, .unset] [(.int (4 : Int32)), (.ref b4)]))
  refine own_go (fun t_ k_ => XS.iloadN A59.here hx rfl (hb hby at_55) rfl k_) ?_
  show own_Go _ _ _ _ (T58.setTop (mkF m 56 #[.val (.int p0), .val (.int p1), .val (.int p2), .val (.int (Int32.ofNat pn)), .val (.ref b4), .unset, .unset, .unset, .unset] [(.int p0), (.int (4 : Int32)), (.ref b4)]))
  refine own_go (fun t_ k_ => XS.bipush A59.here hx rfl (hb hby at_56) k_) ?_
  show own_Go _ _ _ _ (T58.setTop (mkF m 58 #[.val (.int p0), .val (.int p1), .val (.int p2), .val (.int (Int32.ofNat pn)), .val (.ref b4), .unset, .unset, .unset, .unset] [(.int (12 : Int32)), (.int p0), (.int (4 : Int32)), (.ref b4)]))
  refine own_callS A59 hx hZ hown (y := (⟨"com/example/indexloom/indexloom/data/DataLineIsEmptyPinLaw", "pick", "(II)B"⟩ : MethodName)) (hw _ (List.mem_of_getElem? (i := 2) rfl)) (hw _ (List.mem_of_getElem? (i := 3) rfl)) (hw _ (List.mem_of_getElem? (i := 4) rfl)) (hw _ (List.mem_of_getElem? (i := 5) rfl)) (by decide) (argsL := [(.int p0), (.int (12 : Int32))]) (rest := [(.int (4 : Int32)), (.ref b4)]) (rm1 l Z a0 hw p0 (12 : Int32) h60 n0 ) 2 (by decide) (by decide) rfl (by rw [hml]; rfl) (lenOf pd__II_B rfl) rfl (by show 2 * 0 + _ ≤ _; exact Nat.le_of_eq rfl) (hb hby at_58) (by decide) (by decide) (fun v70 T67 h69 A68 hQ71 => ?_)
  obtain ⟨rfl, rfl⟩ := hQ71
  show own_Go _ _ _ _ (T67.setTop (mkF m 61 #[.val (.int p0), .val (.int p1), .val (.int p2), .val (.int (Int32.ofNat pn)), .val (.ref b4), .unset, .unset, .unset, .unset] [(.int (f1 p0 (12 : Int32))), (.int (4 : Int32)), (.ref b4)]))
  refine own_stB A68 hx hZ V66 ⟨by decide, by decide⟩ g_b4 rfl rfl (hb hby at_61) (fun T72 h74 A73 W75 V76 => ?_)
  have Y77 : 0 ≤ h74.size := Nat.le_trans Y63 (Nat.le_of_eq (Wr.size W75).symm)
  have O78 : Old Z n0 h74 := O64.wr W75 g_b4
  have Z79 : n0 ≤ h74.size := Nat.le_trans Z65 (Nat.le_of_eq (Wr.size W75).symm)
  have V80 : own_Arr Z h74 b4 .byte (7 : Int32) (fun i => if i = (4 : Int32) then nar .byte (f1 p0 (12 : Int32)) else (fun i => if i = (3 : Int32) then nar .byte (f1 p0 (9 : Int32)) else (fun i => if i = (2 : Int32) then nar .byte (f1 p0 (6 : Int32)) else (fun i => if i = (1 : Int32) then nar .byte (f1 p0 (3 : Int32)) else (fun i => if i = (0 : Int32) then nar .byte (f1 p0 (0 : Int32)) else (fun _ => 0) i) i) i) i) i) := V76
  show own_Go _ _ _ _ (T72.setTop (mkF m 62 #[.val (.int p0), .val (.int p1), .val (.int p2), .val (.int (Int32.ofNat pn)), .val (.ref b4), .unset, .unset, .unset, .unset] []))
  refine own_go (fun t_ k_ => XS.aload A73.here hx rfl (hb hby at_62) rfl rfl k_) ?_
  show own_Go _ _ _ _ (T72.setTop (mkF m 64 #[.val (.int p0), .val (.int p1), .val (.int p2), .val (.int (Int32.ofNat pn)), .val (.ref b4), .unset, .unset, .unset, .unset] [(.ref b4)]))
  refine own_go (fun t_ k_ => XS.iconst A73.here hx rfl (hb hby at_64) k_) ?_
  show own_Go _ _ _ _ (T72.setTop (mkF m 65 #[.val (.int p0), .val (.int p1), .val (.int p2), .val (.int (Int32.ofNat pn)), .val (.ref b4), .unset, .unset, .unset, .unset] [(.int (5 : Int32)), (.ref b4)]))
  refine own_go (fun t_ k_ => XS.iloadN A73.here hx rfl (hb hby at_65) rfl k_) ?_
  show own_Go _ _ _ _ (T72.setTop (mkF m 66 #[.val (.int p0), .val (.int p1), .val (.int p2), .val (.int (Int32.ofNat pn)), .val (.ref b4), .unset, .unset, .unset, .unset] [(.int p0), (.int (5 : Int32)), (.ref b4)]))
  refine own_go (fun t_ k_ => XS.bipush A73.here hx rfl (hb hby at_66) k_) ?_
  show own_Go _ _ _ _ (T72.setTop (mkF m 68 #[.val (.int p0), .val (.int p1), .val (.int p2), .val (.int (Int32.ofNat pn)), .val (.ref b4), .unset, .unset, .unset, .unset] [(.int (15 : Int32)), (.int p0), (.int (5 : Int32)), (.ref b4)]))
  refine own_callS A73 hx hZ hown (y := (⟨"com/example/indexloom/indexloom/data/DataLineIsEmptyPinLaw", "pick", "(II)B"⟩ : MethodName)) (hw _ (List.mem_of_getElem? (i := 2) rfl)) (hw _ (List.mem_of_getElem? (i := 3) rfl)) (hw _ (List.mem_of_getElem? (i := 4) rfl)) (hw _ (List.mem_of_getElem? (i := 5) rfl)) (by decide) (argsL := [(.int p0), (.int (15 : Int32))]) (rest := [(.int (5 : Int32)), (.ref b4)]) (rm1 l Z a0 hw p0 (15 : Int32) h74 n0 ) 2 (by decide) (by decide) rfl (by rw [hml]; rfl) (lenOf pd__II_B rfl) rfl (by show 2 * 0 + _ ≤ _; exact Nat.le_of_eq rfl) (hb hby at_68) (by decide) (by decide) (fun v84 T81 h83 A82 hQ85 => ?_)
  obtain ⟨rfl, rfl⟩ := hQ85
  show own_Go _ _ _ _ (T81.setTop (mkF m 71 #[.val (.int p0), .val (.int p1), .val (.int p2), .val (.int (Int32.ofNat pn)), .val (.ref b4), .unset, .unset, .unset, .unset] [(.int (f1 p0 (15 : Int32))), (.int (5 : Int32)), (.ref b4)]))
  refine own_stB A82 hx hZ V80 ⟨by decide, by decide⟩ g_b4 rfl rfl (hb hby at_71) (fun T86 h88 A87 W89 V90 => ?_)
  have Y91 : 0 ≤ h88.size := Nat.le_trans Y77 (Nat.le_of_eq (Wr.size W89).symm)
  have O92 : Old Z n0 h88 := O78.wr W89 g_b4
  have Z93 : n0 ≤ h88.size := Nat.le_trans Z79 (Nat.le_of_eq (Wr.size W89).symm)
  have V94 : own_Arr Z h88 b4 .byte (7 : Int32) (fun i => if i = (5 : Int32) then nar .byte (f1 p0 (15 : Int32)) else (fun i => if i = (4 : Int32) then nar .byte (f1 p0 (12 : Int32)) else (fun i => if i = (3 : Int32) then nar .byte (f1 p0 (9 : Int32)) else (fun i => if i = (2 : Int32) then nar .byte (f1 p0 (6 : Int32)) else (fun i => if i = (1 : Int32) then nar .byte (f1 p0 (3 : Int32)) else (fun i => if i = (0 : Int32) then nar .byte (f1 p0 (0 : Int32)) else (fun _ => 0) i) i) i) i) i) i) := V90
  show own_Go _ _ _ _ (T86.setTop (mkF m 72 #[.val (.int p0), .val (.int p1), .val (.int p2), .val (.int (Int32.ofNat pn)), .val (.ref b4), .unset, .unset, .unset, .unset] []))
  refine own_go (fun t_ k_ => XS.aload A87.here hx rfl (hb hby at_72) rfl rfl k_) ?_
  show own_Go _ _ _ _ (T86.setTop (mkF m 74 #[.val (.int p0), .val (.int p1), .val (.int p2), .val (.int (Int32.ofNat pn)), .val (.ref b4), .unset, .unset, .unset, .unset] [(.ref b4)]))
  refine own_go (fun t_ k_ => XS.bipush A87.here hx rfl (hb hby at_74) k_) ?_
  show own_Go _ _ _ _ (T86.setTop (mkF m 76 #[.val (.int p0), .val (.int p1), .val (.int p2), .val (.int (Int32.ofNat pn)), .val (.ref b4), .unset, .unset, .unset, .unset] [(.int (6 : Int32)), (.ref b4)]))
  refine own_go (fun t_ k_ => XS.iloadN A87.here hx rfl (hb hby at_76) rfl k_) ?_
  show own_Go _ _ _ _ (T86.setTop (mkF m 77 #[.val (.int p0), .val (.int p1), .val (.int p2), .val (.int (Int32.ofNat pn)), .val (.ref b4), .unset, .unset, .unset, .unset] [(.int p0), (.int (6 : Int32)), (.ref b4)]))
  refine own_go (fun t_ k_ => XS.bipush A87.here hx rfl (hb hby at_77) k_) ?_
  show own_Go _ _ _ _ (T86.setTop (mkF m 79 #[.val (.int p0), .val (.int p1), .val (.int p2), .val (.int (Int32.ofNat pn)), .val (.ref b4), .unset, .unset, .unset, .unset] [(.int (18 : Int32)), (.int p0), (.int (6 : Int32)), (.ref b4)]))
  refine own_callS A87 hx hZ hown (y := (⟨"com/example/indexloom/indexloom/data/DataLineIsEmptyPinLaw", "pick", "(II)B"⟩ : MethodName)) (hw _ (List.mem_of_getElem? (i := 2) rfl)) (hw _ (List.mem_of_getElem? (i := 3) rfl)) (hw _ (List.mem_of_getElem? (i := 4) rfl)) (hw _ (List.mem_of_getElem? (i := 5) rfl)) (by decide) (argsL := [(.int p0), (.int (18 : Int32))]) (rest := [(.int (6 : Int32)), (.ref b4)]) (rm1 l Z a0 hw p0 (18 : Int32) h88 n0 ) 2 (by decide) (by decide) rfl (by rw [hml]; rfl) (lenOf pd__II_B rfl) rfl (by show 2 * 0 + _ ≤ _; exact Nat.le_of_eq rfl) (hb hby at_79) (by decide) (by decide) (fun v98 T95 h97 A96 hQ99 => ?_)
  obtain ⟨rfl, rfl⟩ := hQ99
  show own_Go _ _ _ _ (T95.setTop (mkF m 82 #[.val (.int p0), .val (.int p1), .val (.int p2), .val (.int (Int32.ofNat pn)), .val (.ref b4), .unset, .unset, .unset, .unset] [(.int (f1 p0 (18 : Int32))), (.int (6 : Int32)), (.ref b4)]))
  refine own_stB A96 hx hZ V94 ⟨by decide, by decide⟩ g_b4 rfl rfl (hb hby at_82) (fun T100 h102 A101 W103 V104 => ?_)
  have Y105 : 0 ≤ h102.size := Nat.le_trans Y91 (Nat.le_of_eq (Wr.size W103).symm)
  have O106 : Old Z n0 h102 := O92.wr W103 g_b4
  have Z107 : n0 ≤ h102.size := Nat.le_trans Z93 (Nat.le_of_eq (Wr.size W103).symm)
  have V108 : own_Arr Z h102 b4 .byte (7 : Int32) (fun i => if i = (6 : Int32) then nar .byte (f1 p0 (18 : Int32)) else (fun i => if i = (5 : Int32) then nar .byte (f1 p0 (15 : Int32)) else (fun i => if i = (4 : Int32) then nar .byte (f1 p0 (12 : Int32)) else (fun i => if i = (3 : Int32) then nar .byte (f1 p0 (9 : Int32)) else (fun i => if i = (2 : Int32) then nar .byte (f1 p0 (6 : Int32)) else (fun i => if i = (1 : Int32) then nar .byte (f1 p0 (3 : Int32)) else (fun i => if i = (0 : Int32) then nar .byte (f1 p0 (0 : Int32)) else (fun _ => 0) i) i) i) i) i) i) i) := V104
  show own_Go _ _ _ _ (T100.setTop (mkF m 83 #[.val (.int p0), .val (.int p1), .val (.int p2), .val (.int (Int32.ofNat pn)), .val (.ref b4), .unset, .unset, .unset, .unset] []))
  refine own_go (fun t_ k_ => XS.aload A101.here hx rfl (hb hby at_83) rfl rfl k_) ?_
  show own_Go _ _ _ _ (T100.setTop (mkF m 85 #[.val (.int p0), .val (.int p1), .val (.int p2), .val (.int (Int32.ofNat pn)), .val (.ref b4), .unset, .unset, .unset, .unset] [(.ref b4)]))
  refine own_go (fun t_ k_ => XS.iloadN A101.here hx rfl (hb hby at_85) rfl k_) ?_
  show own_Go _ _ _ _ (T100.setTop (mkF m 86 #[.val (.int p0), .val (.int p1), .val (.int p2), .val (.int (Int32.ofNat pn)), .val (.ref b4), .unset, .unset, .unset, .unset] [(.int (Int32.ofNat pn)), (.ref b4)]))
  refine own_go (fun t_ k_ => XS.bipush A101.here hx rfl (hb hby at_86) k_) ?_
  show own_Go _ _ _ _ (T100.setTop (mkF m 88 #[.val (.int p0), .val (.int p1), .val (.int p2), .val (.int (Int32.ofNat pn)), .val (.ref b4), .unset, .unset, .unset, .unset] [(.int (44 : Int32)), (.int (Int32.ofNat pn)), (.ref b4)]))
  refine own_stB A101 hx hZ V108 ⟨own_nn (by omega), (own_nlt (j := 7) (by omega) (by decide)).mpr (by omega)⟩ g_b4 rfl rfl (hb hby at_88) (fun T109 h111 A110 W112 V113 => ?_)
  have Y114 : 0 ≤ h111.size := Nat.le_trans Y105 (Nat.le_of_eq (Wr.size W112).symm)
  have O115 : Old Z n0 h111 := O106.wr W112 g_b4
  have Z116 : n0 ≤ h111.size := Nat.le_trans Z107 (Nat.le_of_eq (Wr.size W112).symm)
  have V117 : own_Arr Z h111 b4 .byte (7 : Int32) (fun i => if i = (Int32.ofNat pn) then nar .byte (44 : Int32) else (fun i => if i = (6 : Int32) then nar .byte (f1 p0 (18 : Int32)) else (fun i => if i = (5 : Int32) then nar .byte (f1 p0 (15 : Int32)) else (fun i => if i = (4 : Int32) then nar .byte (f1 p0 (12 : Int32)) else (fun i => if i = (3 : Int32) then nar .byte (f1 p0 (9 : Int32)) else (fun i => if i = (2 : Int32) then nar .byte (f1 p0 (6 : Int32)) else (fun i => if i = (1 : Int32) then nar .byte (f1 p0 (3 : Int32)) else (fun i => if i = (0 : Int32) then nar .byte (f1 p0 (0 : Int32)) else (fun _ => 0) i) i) i) i) i) i) i) i) := V113
  show own_Go _ _ _ _ (T109.setTop (mkF m 89 #[.val (.int p0), .val (.int p1), .val (.int p2), .val (.int (Int32.ofNat pn)), .val (.ref b4), .unset, .unset, .unset, .unset] []))
  obtain ⟨fb, hfb⟩ : ∃ fb : Int32 → Int32, fb = (fun i => if i = (Int32.ofNat pn) then nar .byte (44 : Int32) else (fun i => if i = (6 : Int32) then nar .byte (f1 p0 (18 : Int32)) else (fun i => if i = (5 : Int32) then nar .byte (f1 p0 (15 : Int32)) else (fun i => if i = (4 : Int32) then nar .byte (f1 p0 (12 : Int32)) else (fun i => if i = (3 : Int32) then nar .byte (f1 p0 (9 : Int32)) else (fun i => if i = (2 : Int32) then nar .byte (f1 p0 (6 : Int32)) else (fun i => if i = (1 : Int32) then nar .byte (f1 p0 (3 : Int32)) else (fun i => if i = (0 : Int32) then nar .byte (f1 p0 (0 : Int32)) else (fun _ => 0) i) i) i) i) i) i) i) i) := ⟨_, rfl⟩
  rw [← hfb] at V117
  have hcm := own_comma pn hpn fb hfb
  have HP := own_plain pn fb hpn hcm
  refine own_newO A110 hx hZ hown (hw _ (List.mem_of_getElem? (i := 6) rfl)) (hw _ (List.mem_of_getElem? (i := 7) rfl)) (hw _ (List.mem_of_getElem? (i := 8) rfl)) rfl (hb hby at_89) (by decide) (by decide) (fun T118 h120 b121 ha_b121 A119 E122 X123 D124 => ?_)
  have ne_b4_b121 : b4 ≠ b121 := Nat.ne_of_lt (by rw [ha_b121]; exact V117.lt)
  have g_b121 : n0 ≤ b121 := by rw [ha_b121]; exact Z116
  have Y125 : 0 ≤ h120.size := Nat.le_trans Y114 E122.1
  have O126 : Old Z n0 h120 := O115.ext E122
  have Z127 : n0 ≤ h120.size := Nat.le_trans Z116 E122.1
  have V128 : own_Arr Z h120 b4 .byte (7 : Int32) fb := V117.ext E122
  have F129 : Fld Z h120 b121 "com/example/indexloom/indexloom/data/DataHeader" "file" "Ljava/lang/String;" .null := D124 (Or.inr (hw _ (List.mem_of_getElem? (i := 70) rfl))) (ty := (.object "java/lang/String")) (by decide)
  have F130 : Fld Z h120 b121 "com/example/indexloom/indexloom/data/DataHeader" "names" "[Ljava/lang/String;" .null := D124 (Or.inr (hw _ (List.mem_of_getElem? (i := 74) rfl))) (ty := (.array (.object "java/lang/String"))) (by decide)
  show own_Go _ _ _ _ (T118.setTop (mkF m 92 #[.val (.int p0), .val (.int p1), .val (.int p2), .val (.int (Int32.ofNat pn)), .val (.ref b4), .unset, .unset, .unset, .unset] [(.ref b121)]))
  refine own_go (fun t_ k_ => XS.dup A119.here hx rfl (hb hby at_92) rfl rfl k_) ?_
  show own_Go _ _ _ _ (T118.setTop (mkF m 93 #[.val (.int p0), .val (.int p1), .val (.int p2), .val (.int (Int32.ofNat pn)), .val (.ref b4), .unset, .unset, .unset, .unset] [(.ref b121), (.ref b121)]))
  refine own_ldcB A119 hx hZ hown (hw _ (List.mem_of_getElem? (i := 9) rfl)) (own_wS hw) hS Y125 hn0 hkeep hI (by decide) (show Jvm.Lit.constHeld Z "com/example/indexloom/indexloom/data/DataLineIsEmptyPinLaw" 20 from hH ("com/example/indexloom/indexloom/data/DataLineIsEmptyPinLaw", 20) (by decide)) hcw (xs := [102]) (z := (1 : Int32)) ⟨by decide +kernel, by decide +kernel⟩ (by decide) rfl rfl (hb hby at_93) 4 (by decide +kernel) (by decide) (by decide) (by decide) (fun T131 h133 b134 b135 vm136 k137 A132 E138 hS139 hk140 hZ hown hI141 X142 F143 F144 X146 V145 => ?_)
  have O147 : Old Z n0 h133 := O126.ext E138
  have Z148 : n0 ≤ h133.size := Nat.le_trans Z127 E138.1
  have V149 : own_Arr Z h133 b4 .byte (7 : Int32) fb := V128.ext E138
  have E150 : Exa Z h133 b121 "com/example/indexloom/indexloom/data/DataHeader" := X123.ext E138
  have F151 : Fld Z h133 b121 "com/example/indexloom/indexloom/data/DataHeader" "file" "Ljava/lang/String;" .null := F129.ext E138
  have F152 : Fld Z h133 b121 "com/example/indexloom/indexloom/data/DataHeader" "names" "[Ljava/lang/String;" .null := F130.ext E138
  show own_Go _ _ _ _ (T131.setTop (mkF m 95 #[.val (.int p0), .val (.int p1), .val (.int p2), .val (.int (Int32.ofNat pn)), .val (.ref b4), .unset, .unset, .unset, .unset] [(.ref b134), (.ref b121), (.ref b121)]))
  refine own_ldcB A132 hx hZ hown (hw _ (List.mem_of_getElem? (i := 16) rfl)) (own_wS hw) hS139 hk140 hn0 hkeep hI141 (by decide) (show Jvm.Lit.constHeld Z "com/example/indexloom/indexloom/data/DataLineIsEmptyPinLaw" 22 from hH ("com/example/indexloom/indexloom/data/DataLineIsEmptyPinLaw", 22) (by decide)) hcw (xs := [97, 44, 98]) (z := (3 : Int32)) ⟨by decide +kernel, by decide +kernel⟩ (by decide) rfl rfl (hb hby at_95) 12 (by decide +kernel) (by decide) (by decide) (by decide) (fun T153 h155 b156 b157 vm158 k159 A154 E160 hS161 hk162 hZ hown hI163 X164 F165 F166 X168 V167 => ?_)
  have O169 : Old Z n0 h155 := O147.ext E160
  have Z170 : n0 ≤ h155.size := Nat.le_trans Z148 E160.1
  have V171 : own_Arr Z h155 b4 .byte (7 : Int32) fb := V149.ext E160
  have E172 : Exa Z h155 b121 "com/example/indexloom/indexloom/data/DataHeader" := E150.ext E160
  have F173 : Fld Z h155 b121 "com/example/indexloom/indexloom/data/DataHeader" "file" "Ljava/lang/String;" .null := F151.ext E160
  have F174 : Fld Z h155 b121 "com/example/indexloom/indexloom/data/DataHeader" "names" "[Ljava/lang/String;" .null := F152.ext E160
  have E175 : Exa Z h155 b135 "[B" := X146.ext E160
  have E176 : Exa Z h155 b134 "java/lang/String" := X142.ext E160
  have F177 : Fld Z h155 b134 "java/lang/String" "coder" "B" (.int (0 : Int32)) := F143.ext E160
  have F178 : Fld Z h155 b134 "java/lang/String" "value" "[B" (.ref b135) := F144.ext E160
  have V179 : own_Arr Z h155 b135 .byte (1 : Int32) (fun j => ([102] : List Int32).getD j.toNatClampNeg 0) := V145.ext E160
  show own_Go _ _ _ _ (T153.setTop (mkF m 97 #[.val (.int p0), .val (.int p1), .val (.int p2), .val (.int (Int32.ofNat pn)), .val (.ref b4), .unset, .unset, .unset, .unset] [(.ref b156), (.ref b134), (.ref b121), (.ref b121)]))
  refine own_callI A154 hx hZ (y := (⟨"com/example/indexloom/indexloom/data/DataHeader", "<init>", "(Ljava/lang/String;Ljava/lang/String;)V"⟩ : MethodName)) rfl hown (hw _ (List.mem_of_getElem? (i := 17) rfl)) (hw _ (List.mem_of_getElem? (i := 18) rfl)) (hw _ (List.mem_of_getElem? (i := 8) rfl)) (hw _ (List.mem_of_getElem? (i := 19) rfl)) (by decide) (b := b121) (argsL := [(.ref b134), (.ref b156)]) (rest := [(.ref b121)]) (rm2 l Z a0 hw b121 b134 b156 b157 u8 z_C s_F h155 n0 O169 Z170 E172 F173 F174 g_b121 X164 F165 F166 V167 X168 hz hr_F E8 S_UTF_8 S_INSTANCE S_COMPACT_STRINGS S_SIOOBE_FORMATTER) 1 (by decide) (by decide) rfl (by rw [hml]; rfl) (lenOf pd__Ljava_lang_String_Ljava_lang_String__V rfl) rfl (by show 2 * 0 + _ ≤ _; exact Nat.le_of_eq rfl) (hb hby at_97) (by decide) (by decide) (fun v183 T180 h182 A181 hQ184 => ?_)
  obtain ⟨rfl, K185, t186, gt187, nt188, F189, V190⟩ := hQ184
  have ne_b4_t186 : b4 ≠ t186 := Nat.ne_of_lt (Nat.lt_of_lt_of_le V171.lt nt188)
  have ne_b121_t186 : b121 ≠ t186 := Nat.ne_of_lt (Nat.lt_of_lt_of_le E172.lt nt188)
  have O191 : Old Z n0 h182 := O169.keep K185 (allS g_b121 all0)
  have Z192 : n0 ≤ h182.size := Nat.le_trans Z170 K185.1
  have V193 : own_Arr Z h182 b4 .byte (7 : Int32) fb := V171.keep K185 (ninS ne_b4_b121 nin0)
  have E194 : Exa Z h182 b121 "com/example/indexloom/indexloom/data/DataHeader" := E172.keep K185
  have Y195 : k159 ≤ h182.size := Nat.le_trans hk162 K185.1
  show own_Go _ _ _ _ (T180.setTop (mkF m 100 #[.val (.int p0), .val (.int p1), .val (.int p2), .val (.int (Int32.ofNat pn)), .val (.ref b4), .unset, .unset, .unset, .unset] [(.ref b121)]))
  refine own_go (fun t_ k_ => XS.astore A181.here hx rfl (hb hby at_100) rfl rfl (l' := #[.val (.int p0), .val (.int p1), .val (.int p2), .val (.int (Int32.ofNat pn)), .val (.ref b4), .val (.ref b121), .unset, .unset, .unset]) rfl k_) ?_
  show own_Go _ _ _ _ (T180.setTop (mkF m 102 #[.val (.int p0), .val (.int p1), .val (.int p2), .val (.int (Int32.ofNat pn)), .val (.ref b4), .val (.ref b121), .unset, .unset, .unset] []))
  refine own_newO A181 hx hZ hown (hw _ (List.mem_of_getElem? (i := 116) rfl)) (hw _ (List.mem_of_getElem? (i := 117) rfl)) (hw _ (List.mem_of_getElem? (i := 118) rfl)) rfl (hb hby at_102) (by decide) (by decide) (fun T196 h198 b199 ha_b199 A197 E200 X201 D202 => ?_)
  have ne_b4_b199 : b4 ≠ b199 := Nat.ne_of_lt (by rw [ha_b199]; exact V193.lt)
  have ne_b121_b199 : b121 ≠ b199 := Nat.ne_of_lt (by rw [ha_b199]; exact E194.lt)
  have ne_t186_b199 : t186 ≠ b199 := Nat.ne_of_lt (by rw [ha_b199]; exact V190.lt)
  have g_b199 : n0 ≤ b199 := by rw [ha_b199]; exact Z192
  have O203 : Old Z n0 h198 := O191.ext E200
  have Z204 : n0 ≤ h198.size := Nat.le_trans Z192 E200.1
  have V205 : own_Arr Z h198 b4 .byte (7 : Int32) fb := V193.ext E200
  have E206 : Exa Z h198 b121 "com/example/indexloom/indexloom/data/DataHeader" := E194.ext E200
  have Y207 : k159 ≤ h198.size := Nat.le_trans Y195 E200.1
  have F208 : Fld Z h198 b121 "com/example/indexloom/indexloom/data/DataHeader" "names" "[Ljava/lang/String;" (.ref t186) := F189.ext E200
  have V209 : own_ArrR Z h198 t186 "java/lang/String" (2 : Int32) := V190.ext E200
  have F210 : Fld Z h198 b199 "com/example/indexloom/indexloom/data/DataLine" "header" "Lcom/example/indexloom/indexloom/data/DataHeader;" .null := D202 (Or.inr (hw _ (List.mem_of_getElem? (i := 124) rfl))) (ty := (.object "com/example/indexloom/indexloom/data/DataHeader")) (by decide)
  have F211 : Fld Z h198 b199 "com/example/indexloom/indexloom/data/DataLine" "bounds" "[I" .null := D202 (Or.inr (hw _ (List.mem_of_getElem? (i := 131) rfl))) (ty := (.array .int)) (by decide)
  have F212 : Fld Z h198 b199 "com/example/indexloom/indexloom/data/DataLine" "number" "I" (.int (0 : Int32)) := D202 (Or.inl (hw _ (List.mem_of_getElem? (i := 139) rfl))) (ty := .int) (by decide)
  have F213 : Fld Z h198 b199 "com/example/indexloom/indexloom/data/DataLine" "bytes" "[B" .null := D202 (Or.inl (hw _ (List.mem_of_getElem? (i := 141) rfl))) (ty := (.array .byte)) (by decide)
  show own_Go _ _ _ _ (T196.setTop (mkF m 105 #[.val (.int p0), .val (.int p1), .val (.int p2), .val (.int (Int32.ofNat pn)), .val (.ref b4), .val (.ref b121), .unset, .unset, .unset] [(.ref b199)]))
  refine own_go (fun t_ k_ => XS.dup A197.here hx rfl (hb hby at_105) rfl rfl k_) ?_
  show own_Go _ _ _ _ (T196.setTop (mkF m 106 #[.val (.int p0), .val (.int p1), .val (.int p2), .val (.int (Int32.ofNat pn)), .val (.ref b4), .val (.ref b121), .unset, .unset, .unset] [(.ref b199), (.ref b199)]))
  refine own_go (fun t_ k_ => XS.aload A197.here hx rfl (hb hby at_106) rfl rfl k_) ?_
  show own_Go _ _ _ _ (T196.setTop (mkF m 108 #[.val (.int p0), .val (.int p1), .val (.int p2), .val (.int (Int32.ofNat pn)), .val (.ref b4), .val (.ref b121), .unset, .unset, .unset] [(.ref b121), (.ref b199), (.ref b199)]))
  refine own_callI A197 hx hZ (y := (⟨"com/example/indexloom/indexloom/data/DataLine", "<init>", "(Lcom/example/indexloom/indexloom/data/DataHeader;)V"⟩ : MethodName)) rfl hown (hw _ (List.mem_of_getElem? (i := 119) rfl)) (hw _ (List.mem_of_getElem? (i := 120) rfl)) (hw _ (List.mem_of_getElem? (i := 118) rfl)) (hw _ (List.mem_of_getElem? (i := 121) rfl)) (by decide) (b := b199) (argsL := [(.ref b121)]) (rest := [(.ref b199)]) (rm21 l Z a0 hw b199 b121 t186 h198 n0 Z204 X201 F210 F211 F212 F213 g_b199 E206 F208 V209 (Ne.symm ne_b121_b199) (Ne.symm ne_t186_b199)) 1 (by decide) (by decide) rfl (by rw [hml]; rfl) (lenOf pd__Lcom_example_indexloom_indexloom_data_DataHeader__V rfl) rfl (by show 2 * 0 + _ ≤ _; exact Nat.le_of_eq rfl) (hb hby at_108) (by decide) (by decide) (fun v217 T214 h216 A215 hQ218 => ?_)
  obtain ⟨rfl, K219, F220, F221, F222, t223, gt224, nt225, F226, V227⟩ := hQ218
  have ne_b4_t223 : b4 ≠ t223 := Nat.ne_of_lt (Nat.lt_of_lt_of_le V205.lt nt225)
  have ne_b121_t223 : b121 ≠ t223 := Nat.ne_of_lt (Nat.lt_of_lt_of_le E206.lt nt225)
  have ne_t186_t223 : t186 ≠ t223 := Nat.ne_of_lt (Nat.lt_of_lt_of_le V209.lt nt225)
  have ne_b199_t223 : b199 ≠ t223 := Nat.ne_of_lt (Nat.lt_of_lt_of_le X201.lt nt225)
  have O228 : Old Z n0 h216 := O203.keep K219 (allS g_b199 all0)
  have Z229 : n0 ≤ h216.size := Nat.le_trans Z204 K219.1
  have V230 : own_Arr Z h216 b4 .byte (7 : Int32) fb := V205.keep K219 (ninS ne_b4_b199 nin0)
  have E231 : Exa Z h216 b121 "com/example/indexloom/indexloom/data/DataHeader" := E206.keep K219
  have Y232 : k159 ≤ h216.size := Nat.le_trans Y207 K219.1
  have F233 : Fld Z h216 b121 "com/example/indexloom/indexloom/data/DataHeader" "names" "[Ljava/lang/String;" (.ref t186) := F208.keep K219 (ninS ne_b121_b199 nin0)
  have V234 : own_ArrR Z h216 t186 "java/lang/String" (2 : Int32) := V209.keep K219 (ninS ne_t186_b199 nin0)
  have E235 : Exa Z h216 b199 "com/example/indexloom/indexloom/data/DataLine" := X201.keep K219
  show own_Go _ _ _ _ (T214.setTop (mkF m 111 #[.val (.int p0), .val (.int p1), .val (.int p2), .val (.int (Int32.ofNat pn)), .val (.ref b4), .val (.ref b121), .unset, .unset, .unset] [(.ref b199)]))
  refine own_go (fun t_ k_ => XS.astore A215.here hx rfl (hb hby at_111) rfl rfl (l' := #[.val (.int p0), .val (.int p1), .val (.int p2), .val (.int (Int32.ofNat pn)), .val (.ref b4), .val (.ref b121), .val (.ref b199), .unset, .unset]) rfl k_) ?_
  show own_Go _ _ _ _ (T214.setTop (mkF m 113 #[.val (.int p0), .val (.int p1), .val (.int p2), .val (.int (Int32.ofNat pn)), .val (.ref b4), .val (.ref b121), .val (.ref b199), .unset, .unset] []))
  refine own_go (fun t_ k_ => XS.aload A215.here hx rfl (hb hby at_113) rfl rfl k_) ?_
  show own_Go _ _ _ _ (T214.setTop (mkF m 115 #[.val (.int p0), .val (.int p1), .val (.int p2), .val (.int (Int32.ofNat pn)), .val (.ref b4), .val (.ref b121), .val (.ref b199), .unset, .unset] [(.ref b199)]))
  refine own_go (fun t_ k_ => XS.iloadN A215.here hx rfl (hb hby at_115) rfl k_) ?_
  show own_Go _ _ _ _ (T214.setTop (mkF m 116 #[.val (.int p0), .val (.int p1), .val (.int p2), .val (.int (Int32.ofNat pn)), .val (.ref b4), .val (.ref b121), .val (.ref b199), .unset, .unset] [(.int p2), (.ref b199)]))
  refine own_go (fun t_ k_ => XS.aload A215.here hx rfl (hb hby at_116) rfl rfl k_) ?_
  show own_Go _ _ _ _ (T214.setTop (mkF m 118 #[.val (.int p0), .val (.int p1), .val (.int p2), .val (.int (Int32.ofNat pn)), .val (.ref b4), .val (.ref b121), .val (.ref b199), .unset, .unset] [(.ref b4), (.int p2), (.ref b199)]))
  refine own_go (fun t_ k_ => XS.iconst A215.here hx rfl (hb hby at_118) k_) ?_
  show own_Go _ _ _ _ (T214.setTop (mkF m 119 #[.val (.int p0), .val (.int p1), .val (.int p2), .val (.int (Int32.ofNat pn)), .val (.ref b4), .val (.ref b121), .val (.ref b199), .unset, .unset] [(.int (0 : Int32)), (.ref b4), (.int p2), (.ref b199)]))
  refine own_go (fun t_ k_ => XS.bipush A215.here hx rfl (hb hby at_119) k_) ?_
  show own_Go _ _ _ _ (T214.setTop (mkF m 121 #[.val (.int p0), .val (.int p1), .val (.int p2), .val (.int (Int32.ofNat pn)), .val (.ref b4), .val (.ref b121), .val (.ref b199), .unset, .unset] [(.int (7 : Int32)), (.int (0 : Int32)), (.ref b4), (.int p2), (.ref b199)]))
  refine own_callV A215 hx hZ (y := (⟨"com/example/indexloom/indexloom/data/DataLine", "set", "(I[BII)V"⟩ : MethodName)) (z := (⟨"com/example/indexloom/indexloom/data/DataLine", "set", "(I[BII)V"⟩ : MethodName)) hown (hw _ (List.mem_of_getElem? (i := 132) rfl)) (hw _ (List.mem_of_getElem? (i := 133) rfl)) (hw _ (List.mem_of_getElem? (i := 135) rfl)) (hw _ (List.mem_of_getElem? (i := 134) rfl)) (hw _ (List.mem_of_getElem? (i := 118) rfl)) (hw _ (List.mem_of_getElem? (i := 136) rfl)) (notFace_of_selects (args := #[]) (mvT hZ (hw _ (List.mem_of_getElem? (i := 135) rfl)))) (by decide) (b := b199) (argsL := [(.int p2), (.ref b4), (.int (0 : Int32)), (.int (7 : Int32))]) (rest := []) E235 (rm23 l Z a0 hw b199 p2 b4 0 7 b121 t186 t223 (7 : Int32) fb (own_cm pn) (own_bl (own_cd fb)) h216 n0 E235 F220 F226 F221 F222 g_b199 gt224 E231 F233 V234 V230 V227 (Ne.symm ne_b121_b199) (Ne.symm ne_t186_b199) (Ne.symm ne_b4_b199) ne_b199_t223 (Ne.symm ne_b121_t223) (Ne.symm ne_t186_t223) (Ne.symm ne_b4_t223) (by decide) (by decide) (own_cls7 pn fb hcm) (by decide) HP) 0 (by decide) (by decide) rfl (by rw [hml]; rfl) (lenOf pd__I_BII_V rfl) rfl (by show 2 * 0 + _ ≤ _; exact Nat.le_of_eq rfl) (hb hby at_121) (by decide) (by decide) (fun v239 T236 h238 A237 hQ240 => ?_)
  obtain ⟨rfl, K241, F242, F243, c244, V245, B246⟩ := hQ240
  have O247 : Old Z n0 h238 := O228.keep K241 (allS g_b199 (allS gt224 all0))
  have Z248 : n0 ≤ h238.size := Nat.le_trans Z229 K241.1
  have V249 : own_Arr Z h238 b4 .byte (7 : Int32) fb := V230.keep K241 (ninS ne_b4_b199 (ninS ne_b4_t223 nin0))
  have E250 : Exa Z h238 b121 "com/example/indexloom/indexloom/data/DataHeader" := E231.keep K241
  have Y251 : k159 ≤ h238.size := Nat.le_trans Y232 K241.1
  have F252 : Fld Z h238 b121 "com/example/indexloom/indexloom/data/DataHeader" "names" "[Ljava/lang/String;" (.ref t186) := F233.keep K241 (ninS ne_b121_b199 (ninS ne_b121_t223 nin0))
  have V253 : own_ArrR Z h238 t186 "java/lang/String" (2 : Int32) := V234.keep K241 (ninS ne_t186_b199 (ninS ne_t186_t223 nin0))
  have E254 : Exa Z h238 b199 "com/example/indexloom/indexloom/data/DataLine" := E235.keep K241
  show own_Go _ _ _ _ (T236.setTop (mkF m 124 #[.val (.int p0), .val (.int p1), .val (.int p2), .val (.int (Int32.ofNat pn)), .val (.ref b4), .val (.ref b121), .val (.ref b199), .unset, .unset] []))
  have L0 := own_law0 pn fb c244 hpn hcm B246
  have L1 := own_law1 pn fb c244 hpn hcm B246
  have tB : ∀ (T' : State) (z7 z8 : Int32), z7 = own_and7 (f24 (0 : Int32) (Int32.ofNat pn) (1 : Int32) fb) (f24 (1 : Int32) (Int32.ofNat pn) (1 : Int32) fb) (f24 (2 : Int32) (Int32.ofNat pn) (1 : Int32) fb) (f24 (3 : Int32) (Int32.ofNat pn) (1 : Int32) fb) (f24 (4 : Int32) (Int32.ofNat pn) (1 : Int32) fb) (f24 (5 : Int32) (Int32.ofNat pn) (1 : Int32) fb) (f24 (6 : Int32) (Int32.ofNat pn) (1 : Int32) fb) → z8 = own_and7 (f24 (0 : Int32) (Int32.ofNat pn) (0 : Int32) fb) (f24 (1 : Int32) (Int32.ofNat pn) (0 : Int32) fb) (f24 (2 : Int32) (Int32.ofNat pn) (0 : Int32) fb) (f24 (3 : Int32) (Int32.ofNat pn) (0 : Int32) fb) (f24 (4 : Int32) (Int32.ofNat pn) (0 : Int32) fb) (f24 (5 : Int32) (Int32.ofNat pn) (0 : Int32) fb) (f24 (6 : Int32) (Int32.ofNat pn) (0 : Int32) fb) → own_At p l e room_1 (s.setVm vm158) m #[.int p0, .int p1, .int p2] below meth c n0 T' h238 16 60 → own_Go p.tables e below (own_EndW n0 s room_1.cells room_1.slots (fun v h => v = some (.int 1) ∧ True)) (T'.setTop (mkF m 292 #[.val (.int p0), .val (.int p1), .val (.int p2), .val (.int (Int32.ofNat pn)), .val (.ref b4), .val (.ref b121), .val (.ref b199), .val (.int z7), .unset] [(.int z8)])) := by
    intro T' z7 z8 h7 h8 A'
    show own_Go _ _ _ _ (T'.setTop (mkF m 292 #[.val (.int p0), .val (.int p1), .val (.int p2), .val (.int (Int32.ofNat pn)), .val (.ref b4), .val (.ref b121), .val (.ref b199), .val (.int z7), .unset] [(.int z8)]))
    refine own_go (fun t_ k_ => XS.istore A'.here hx rfl (hb hby at_292) rfl (l' := #[.val (.int p0), .val (.int p1), .val (.int p2), .val (.int (Int32.ofNat pn)), .val (.ref b4), .val (.ref b121), .val (.ref b199), .val (.int z7), .val (.int z8)]) rfl k_) ?_
    show own_Go _ _ _ _ (T'.setTop (mkF m 294 #[.val (.int p0), .val (.int p1), .val (.int p2), .val (.int (Int32.ofNat pn)), .val (.ref b4), .val (.ref b121), .val (.ref b199), .val (.int z7), .val (.int z8)] []))
    refine own_go (fun t_ k_ => XS.aload A'.here hx rfl (hb hby at_294) rfl rfl k_) ?_
    show own_Go _ _ _ _ (T'.setTop (mkF m 296 #[.val (.int p0), .val (.int p1), .val (.int p2), .val (.int (Int32.ofNat pn)), .val (.ref b4), .val (.ref b121), .val (.ref b199), .val (.int z7), .val (.int z8)] [(.ref b199)]))
    refine own_go (fun t_ k_ => XS.iconst A'.here hx rfl (hb hby at_296) k_) ?_
    show own_Go _ _ _ _ (T'.setTop (mkF m 297 #[.val (.int p0), .val (.int p1), .val (.int p2), .val (.int (Int32.ofNat pn)), .val (.ref b4), .val (.ref b121), .val (.ref b199), .val (.int z7), .val (.int z8)] [(.int (0 : Int32)), (.ref b199)]))
    refine own_callV A' hx hZ (y := (⟨"com/example/indexloom/indexloom/data/DataLine", "isEmpty", "(I)Z"⟩ : MethodName)) (z := (⟨"com/example/indexloom/indexloom/data/DataLine", "isEmpty", "(I)Z"⟩ : MethodName)) hown (hw _ (List.mem_of_getElem? (i := 148) rfl)) (hw _ (List.mem_of_getElem? (i := 149) rfl)) (hw _ (List.mem_of_getElem? (i := 151) rfl)) (hw _ (List.mem_of_getElem? (i := 150) rfl)) (hw _ (List.mem_of_getElem? (i := 118) rfl)) (hw _ (List.mem_of_getElem? (i := 152) rfl)) (notFace_of_selects (args := #[]) (mvT hZ (hw _ (List.mem_of_getElem? (i := 151) rfl)))) (by decide) (b := b199) (argsL := [(.int (0 : Int32))]) (rest := []) E254 (rm26 l Z a0 hw b199 (0 : Int32) t223 c244 h238 n0 E254 F242 V245 ⟨by decide, by decide⟩ ⟨by decide, by decide⟩) 0 (by decide) (by decide) rfl (by rw [hml]; rfl) (lenOf pd__I_Z rfl) rfl (by show 2 * 0 + _ ≤ _; exact Nat.le_of_eq rfl) (hb hby at_297) (by decide) (by decide) (fun v258 T255 h257 A256 hQ259 => ?_)
    obtain ⟨rfl, rfl⟩ := hQ259
    show own_Go _ _ _ _ (T255.setTop (mkF m 300 #[.val (.int p0), .val (.int p1), .val (.int p2), .val (.int (Int32.ofNat pn)), .val (.ref b4), .val (.ref b121), .val (.ref b199), .val (.int z7), .val (.int z8)] [(.int (f26 (0 : Int32) c244))]))
    refine own_go (fun t_ k_ => XS.iload A256.here hx rfl (hb hby at_300) rfl k_) ?_
    show own_Go _ _ _ _ (T255.setTop (mkF m 302 #[.val (.int p0), .val (.int p1), .val (.int p2), .val (.int (Int32.ofNat pn)), .val (.ref b4), .val (.ref b121), .val (.ref b199), .val (.int z7), .val (.int z8)] [(.int z7), (.int (f26 (0 : Int32) c244))]))
    have hc260 : (f26 (0 : Int32) c244) = z7 := (h7.trans L0.symm).symm
    refine own_go (fun t_ k_ => XS.icmpNo A256.here hx rfl (hb hby at_302) rfl (teq hc260).2 k_) ?_
    show own_Go _ _ _ _ (T255.setTop (mkF m 305 #[.val (.int p0), .val (.int p1), .val (.int p2), .val (.int (Int32.ofNat pn)), .val (.ref b4), .val (.ref b121), .val (.ref b199), .val (.int z7), .val (.int z8)] []))
    refine own_go (fun t_ k_ => XS.aload A256.here hx rfl (hb hby at_305) rfl rfl k_) ?_
    show own_Go _ _ _ _ (T255.setTop (mkF m 307 #[.val (.int p0), .val (.int p1), .val (.int p2), .val (.int (Int32.ofNat pn)), .val (.ref b4), .val (.ref b121), .val (.ref b199), .val (.int z7), .val (.int z8)] [(.ref b199)]))
    refine own_go (fun t_ k_ => XS.iconst A256.here hx rfl (hb hby at_307) k_) ?_
    show own_Go _ _ _ _ (T255.setTop (mkF m 308 #[.val (.int p0), .val (.int p1), .val (.int p2), .val (.int (Int32.ofNat pn)), .val (.ref b4), .val (.ref b121), .val (.ref b199), .val (.int z7), .val (.int z8)] [(.int (1 : Int32)), (.ref b199)]))
    refine own_callV A256 hx hZ (y := (⟨"com/example/indexloom/indexloom/data/DataLine", "isEmpty", "(I)Z"⟩ : MethodName)) (z := (⟨"com/example/indexloom/indexloom/data/DataLine", "isEmpty", "(I)Z"⟩ : MethodName)) hown (hw _ (List.mem_of_getElem? (i := 148) rfl)) (hw _ (List.mem_of_getElem? (i := 149) rfl)) (hw _ (List.mem_of_getElem? (i := 151) rfl)) (hw _ (List.mem_of_getElem? (i := 150) rfl)) (hw _ (List.mem_of_getElem? (i := 118) rfl)) (hw _ (List.mem_of_getElem? (i := 152) rfl)) (notFace_of_selects (args := #[]) (mvT hZ (hw _ (List.mem_of_getElem? (i := 151) rfl)))) (by decide) (b := b199) (argsL := [(.int (1 : Int32))]) (rest := []) E254 (rm26 l Z a0 hw b199 (1 : Int32) t223 c244 h238 n0 E254 F242 V245 ⟨by decide, by decide⟩ ⟨by decide, by decide⟩) 0 (by decide) (by decide) rfl (by rw [hml]; rfl) (lenOf pd__I_Z rfl) rfl (by show 2 * 0 + _ ≤ _; exact Nat.le_of_eq rfl) (hb hby at_308) (by decide) (by decide) (fun v264 T261 h263 A262 hQ265 => ?_)
    obtain ⟨rfl, rfl⟩ := hQ265
    show own_Go _ _ _ _ (T261.setTop (mkF m 311 #[.val (.int p0), .val (.int p1), .val (.int p2), .val (.int (Int32.ofNat pn)), .val (.ref b4), .val (.ref b121), .val (.ref b199), .val (.int z7), .val (.int z8)] [(.int (f26 (1 : Int32) c244))]))
    refine own_go (fun t_ k_ => XS.iload A262.here hx rfl (hb hby at_311) rfl k_) ?_
    show own_Go _ _ _ _ (T261.setTop (mkF m 313 #[.val (.int p0), .val (.int p1), .val (.int p2), .val (.int (Int32.ofNat pn)), .val (.ref b4), .val (.ref b121), .val (.ref b199), .val (.int z7), .val (.int z8)] [(.int z8), (.int (f26 (1 : Int32) c244))]))
    have hc266 : (f26 (1 : Int32) c244) = z8 := (h8.trans L1.symm).symm
    refine own_go (fun t_ k_ => XS.icmpNo A262.here hx rfl (hb hby at_313) rfl (teq hc266).2 k_) ?_
    show own_Go _ _ _ _ (T261.setTop (mkF m 316 #[.val (.int p0), .val (.int p1), .val (.int p2), .val (.int (Int32.ofNat pn)), .val (.ref b4), .val (.ref b121), .val (.ref b199), .val (.int z7), .val (.int z8)] []))
    refine own_go (fun t_ k_ => XS.iconst A262.here hx rfl (hb hby at_316) k_) ?_
    show own_Go _ _ _ _ (T261.setTop (mkF m 317 #[.val (.int p0), .val (.int p1), .val (.int p2), .val (.int (Int32.ofNat pn)), .val (.ref b4), .val (.ref b121), .val (.ref b199), .val (.int z7), .val (.int z8)] [(.int (1 : Int32))]))
    refine own_go (fun t_ k_ => XS.goto A262.here hx rfl (pc0 := 317) (pc' := 321) rfl (hb hby at_317) (by decide) (by decide) k_) ?_
    show own_Go _ _ _ _ (T261.setTop (mkF m 321 #[.val (.int p0), .val (.int p1), .val (.int p2), .val (.int (Int32.ofNat pn)), .val (.ref b4), .val (.ref b121), .val (.ref b199), .val (.int z7), .val (.int z8)] [(.int (1 : Int32))]))
    refine own_retNW A262 hx (t := .boolean) hret (by simp) hlk (by decide) (by decide) hS161 Y251 (hb hby at_321) ?_
    exact ⟨rfl, trivial⟩
  have tA : ∀ (T' : State) (z7 : Int32), z7 = own_and7 (f24 (0 : Int32) (Int32.ofNat pn) (1 : Int32) fb) (f24 (1 : Int32) (Int32.ofNat pn) (1 : Int32) fb) (f24 (2 : Int32) (Int32.ofNat pn) (1 : Int32) fb) (f24 (3 : Int32) (Int32.ofNat pn) (1 : Int32) fb) (f24 (4 : Int32) (Int32.ofNat pn) (1 : Int32) fb) (f24 (5 : Int32) (Int32.ofNat pn) (1 : Int32) fb) (f24 (6 : Int32) (Int32.ofNat pn) (1 : Int32) fb) → own_At p l e room_1 (s.setVm vm158) m #[.int p0, .int p1, .int p2] below meth c n0 T' h238 16 60 → own_Go p.tables e below (own_EndW n0 s room_1.cells room_1.slots (fun v h => v = some (.int 1) ∧ True)) (T'.setTop (mkF m 207 #[.val (.int p0), .val (.int p1), .val (.int p2), .val (.int (Int32.ofNat pn)), .val (.ref b4), .val (.ref b121), .val (.ref b199), .unset, .unset] [(.int z7)])) := by
    intro T' z7 h7 A'
    show own_Go _ _ _ _ (T'.setTop (mkF m 207 #[.val (.int p0), .val (.int p1), .val (.int p2), .val (.int (Int32.ofNat pn)), .val (.ref b4), .val (.ref b121), .val (.ref b199), .unset, .unset] [(.int z7)]))
    refine own_go (fun t_ k_ => XS.istore A'.here hx rfl (hb hby at_207) rfl (l' := #[.val (.int p0), .val (.int p1), .val (.int p2), .val (.int (Int32.ofNat pn)), .val (.ref b4), .val (.ref b121), .val (.ref b199), .val (.int z7), .unset]) rfl k_) ?_
    show own_Go _ _ _ _ (T'.setTop (mkF m 209 #[.val (.int p0), .val (.int p1), .val (.int p2), .val (.int (Int32.ofNat pn)), .val (.ref b4), .val (.ref b121), .val (.ref b199), .val (.int z7), .unset] []))
    refine own_go (fun t_ k_ => XS.aload A'.here hx rfl (hb hby at_209) rfl rfl k_) ?_
    show own_Go _ _ _ _ (T'.setTop (mkF m 211 #[.val (.int p0), .val (.int p1), .val (.int p2), .val (.int (Int32.ofNat pn)), .val (.ref b4), .val (.ref b121), .val (.ref b199), .val (.int z7), .unset] [(.ref b4)]))
    refine own_go (fun t_ k_ => XS.iconst A'.here hx rfl (hb hby at_211) k_) ?_
    show own_Go _ _ _ _ (T'.setTop (mkF m 212 #[.val (.int p0), .val (.int p1), .val (.int p2), .val (.int (Int32.ofNat pn)), .val (.ref b4), .val (.ref b121), .val (.ref b199), .val (.int z7), .unset] [(.int (0 : Int32)), (.ref b4)]))
    refine own_go (fun t_ k_ => XS.iloadN A'.here hx rfl (hb hby at_212) rfl k_) ?_
    show own_Go _ _ _ _ (T'.setTop (mkF m 213 #[.val (.int p0), .val (.int p1), .val (.int p2), .val (.int (Int32.ofNat pn)), .val (.ref b4), .val (.ref b121), .val (.ref b199), .val (.int z7), .unset] [(.int (Int32.ofNat pn)), (.int (0 : Int32)), (.ref b4)]))
    refine own_go (fun t_ k_ => XS.iconst A'.here hx rfl (hb hby at_213) k_) ?_
    show own_Go _ _ _ _ (T'.setTop (mkF m 214 #[.val (.int p0), .val (.int p1), .val (.int p2), .val (.int (Int32.ofNat pn)), .val (.ref b4), .val (.ref b121), .val (.ref b199), .val (.int z7), .unset] [(.int (0 : Int32)), (.int (Int32.ofNat pn)), (.int (0 : Int32)), (.ref b4)]))
    refine own_callS A' hx hZ hown (y := (⟨"com/example/indexloom/indexloom/data/DataLineIsEmptyPinLaw", "fine", "([BIIZ)Z"⟩ : MethodName)) (hw _ (List.mem_of_getElem? (i := 142) rfl)) (hw _ (List.mem_of_getElem? (i := 143) rfl)) (hw _ (List.mem_of_getElem? (i := 4) rfl)) (hw _ (List.mem_of_getElem? (i := 144) rfl)) (by decide) (argsL := [(.ref b4), (.int (0 : Int32)), (.int (Int32.ofNat pn)), (.int (0 : Int32))]) (rest := []) (rm24 l Z a0 hw b4 (0 : Int32) (Int32.ofNat pn) (0 : Int32) fb h238 n0 V249 ⟨by decide, by decide⟩) 0 (by decide) (by decide) rfl (by rw [hml]; rfl) (lenOf pd___BIIZ_Z rfl) rfl (by show 2 * 0 + _ ≤ _; exact Nat.le_of_eq rfl) (hb hby at_214) (by decide) (by decide) (fun v270 T267 h269 A268 hQ271 => ?_)
    obtain ⟨rfl, rfl⟩ := hQ271
    show own_Go _ _ _ _ (T267.setTop (mkF m 217 #[.val (.int p0), .val (.int p1), .val (.int p2), .val (.int (Int32.ofNat pn)), .val (.ref b4), .val (.ref b121), .val (.ref b199), .val (.int z7), .unset] [(.int (f24 (0 : Int32) (Int32.ofNat pn) (0 : Int32) fb))]))
    by_cases hc272 : (f24 (0 : Int32) (Int32.ofNat pn) (0 : Int32) fb) = (0 : Int32)
    ·
      refine own_go (fun t_ k_ => XS.ifYes A268.here hx rfl (pc0 := 217) (pc' := 291) rfl (hb hby at_217) rfl ((if0 _ _).trans (teq hc272).1) (by decide) (by decide) k_) ?_
      show own_Go _ _ _ _ (T267.setTop (mkF m 291 #[.val (.int p0), .val (.int p1), .val (.int p2), .val (.int (Int32.ofNat pn)), .val (.ref b4), .val (.ref b121), .val (.ref b199), .val (.int z7), .unset] []))
      refine own_go (fun t_ k_ => XS.iconst A268.here hx rfl (hb hby at_291) k_) ?_
      show own_Go _ _ _ _ (T267.setTop (mkF m 292 #[.val (.int p0), .val (.int p1), .val (.int p2), .val (.int (Int32.ofNat pn)), .val (.ref b4), .val (.ref b121), .val (.ref b199), .val (.int z7), .unset] [(.int (0 : Int32))]))
      exact tB _ _ _ h7 (by rw [own_and7, if_pos hc272]) A268
    ·
      refine own_go (fun t_ k_ => XS.ifNo A268.here hx rfl (hb hby at_217) rfl ((if0 _ _).trans (feq hc272).1) k_) ?_
      show own_Go _ _ _ _ (T267.setTop (mkF m 220 #[.val (.int p0), .val (.int p1), .val (.int p2), .val (.int (Int32.ofNat pn)), .val (.ref b4), .val (.ref b121), .val (.ref b199), .val (.int z7), .unset] []))
      refine own_go (fun t_ k_ => XS.aload A268.here hx rfl (hb hby at_220) rfl rfl k_) ?_
      show own_Go _ _ _ _ (T267.setTop (mkF m 222 #[.val (.int p0), .val (.int p1), .val (.int p2), .val (.int (Int32.ofNat pn)), .val (.ref b4), .val (.ref b121), .val (.ref b199), .val (.int z7), .unset] [(.ref b4)]))
      refine own_go (fun t_ k_ => XS.iconst A268.here hx rfl (hb hby at_222) k_) ?_
      show own_Go _ _ _ _ (T267.setTop (mkF m 223 #[.val (.int p0), .val (.int p1), .val (.int p2), .val (.int (Int32.ofNat pn)), .val (.ref b4), .val (.ref b121), .val (.ref b199), .val (.int z7), .unset] [(.int (1 : Int32)), (.ref b4)]))
      refine own_go (fun t_ k_ => XS.iloadN A268.here hx rfl (hb hby at_223) rfl k_) ?_
      show own_Go _ _ _ _ (T267.setTop (mkF m 224 #[.val (.int p0), .val (.int p1), .val (.int p2), .val (.int (Int32.ofNat pn)), .val (.ref b4), .val (.ref b121), .val (.ref b199), .val (.int z7), .unset] [(.int (Int32.ofNat pn)), (.int (1 : Int32)), (.ref b4)]))
      refine own_go (fun t_ k_ => XS.iconst A268.here hx rfl (hb hby at_224) k_) ?_
      show own_Go _ _ _ _ (T267.setTop (mkF m 225 #[.val (.int p0), .val (.int p1), .val (.int p2), .val (.int (Int32.ofNat pn)), .val (.ref b4), .val (.ref b121), .val (.ref b199), .val (.int z7), .unset] [(.int (0 : Int32)), (.int (Int32.ofNat pn)), (.int (1 : Int32)), (.ref b4)]))
      refine own_callS A268 hx hZ hown (y := (⟨"com/example/indexloom/indexloom/data/DataLineIsEmptyPinLaw", "fine", "([BIIZ)Z"⟩ : MethodName)) (hw _ (List.mem_of_getElem? (i := 142) rfl)) (hw _ (List.mem_of_getElem? (i := 143) rfl)) (hw _ (List.mem_of_getElem? (i := 4) rfl)) (hw _ (List.mem_of_getElem? (i := 144) rfl)) (by decide) (argsL := [(.ref b4), (.int (1 : Int32)), (.int (Int32.ofNat pn)), (.int (0 : Int32))]) (rest := []) (rm24 l Z a0 hw b4 (1 : Int32) (Int32.ofNat pn) (0 : Int32) fb h238 n0 V249 ⟨by decide, by decide⟩) 0 (by decide) (by decide) rfl (by rw [hml]; rfl) (lenOf pd___BIIZ_Z rfl) rfl (by show 2 * 0 + _ ≤ _; exact Nat.le_of_eq rfl) (hb hby at_225) (by decide) (by decide) (fun v276 T273 h275 A274 hQ277 => ?_)
      obtain ⟨rfl, rfl⟩ := hQ277
      show own_Go _ _ _ _ (T273.setTop (mkF m 228 #[.val (.int p0), .val (.int p1), .val (.int p2), .val (.int (Int32.ofNat pn)), .val (.ref b4), .val (.ref b121), .val (.ref b199), .val (.int z7), .unset] [(.int (f24 (1 : Int32) (Int32.ofNat pn) (0 : Int32) fb))]))
      by_cases hc278 : (f24 (1 : Int32) (Int32.ofNat pn) (0 : Int32) fb) = (0 : Int32)
      ·
        refine own_go (fun t_ k_ => XS.ifYes A274.here hx rfl (pc0 := 228) (pc' := 291) rfl (hb hby at_228) rfl ((if0 _ _).trans (teq hc278).1) (by decide) (by decide) k_) ?_
        show own_Go _ _ _ _ (T273.setTop (mkF m 291 #[.val (.int p0), .val (.int p1), .val (.int p2), .val (.int (Int32.ofNat pn)), .val (.ref b4), .val (.ref b121), .val (.ref b199), .val (.int z7), .unset] []))
        refine own_go (fun t_ k_ => XS.iconst A274.here hx rfl (hb hby at_291) k_) ?_
        show own_Go _ _ _ _ (T273.setTop (mkF m 292 #[.val (.int p0), .val (.int p1), .val (.int p2), .val (.int (Int32.ofNat pn)), .val (.ref b4), .val (.ref b121), .val (.ref b199), .val (.int z7), .unset] [(.int (0 : Int32))]))
        exact tB _ _ _ h7 (by rw [own_and7, if_neg hc272, if_pos hc278]) A274
      ·
        refine own_go (fun t_ k_ => XS.ifNo A274.here hx rfl (hb hby at_228) rfl ((if0 _ _).trans (feq hc278).1) k_) ?_
        show own_Go _ _ _ _ (T273.setTop (mkF m 231 #[.val (.int p0), .val (.int p1), .val (.int p2), .val (.int (Int32.ofNat pn)), .val (.ref b4), .val (.ref b121), .val (.ref b199), .val (.int z7), .unset] []))
        refine own_go (fun t_ k_ => XS.aload A274.here hx rfl (hb hby at_231) rfl rfl k_) ?_
        show own_Go _ _ _ _ (T273.setTop (mkF m 233 #[.val (.int p0), .val (.int p1), .val (.int p2), .val (.int (Int32.ofNat pn)), .val (.ref b4), .val (.ref b121), .val (.ref b199), .val (.int z7), .unset] [(.ref b4)]))
        refine own_go (fun t_ k_ => XS.iconst A274.here hx rfl (hb hby at_233) k_) ?_
        show own_Go _ _ _ _ (T273.setTop (mkF m 234 #[.val (.int p0), .val (.int p1), .val (.int p2), .val (.int (Int32.ofNat pn)), .val (.ref b4), .val (.ref b121), .val (.ref b199), .val (.int z7), .unset] [(.int (2 : Int32)), (.ref b4)]))
        refine own_go (fun t_ k_ => XS.iloadN A274.here hx rfl (hb hby at_234) rfl k_) ?_
        show own_Go _ _ _ _ (T273.setTop (mkF m 235 #[.val (.int p0), .val (.int p1), .val (.int p2), .val (.int (Int32.ofNat pn)), .val (.ref b4), .val (.ref b121), .val (.ref b199), .val (.int z7), .unset] [(.int (Int32.ofNat pn)), (.int (2 : Int32)), (.ref b4)]))
        refine own_go (fun t_ k_ => XS.iconst A274.here hx rfl (hb hby at_235) k_) ?_
        show own_Go _ _ _ _ (T273.setTop (mkF m 236 #[.val (.int p0), .val (.int p1), .val (.int p2), .val (.int (Int32.ofNat pn)), .val (.ref b4), .val (.ref b121), .val (.ref b199), .val (.int z7), .unset] [(.int (0 : Int32)), (.int (Int32.ofNat pn)), (.int (2 : Int32)), (.ref b4)]))
        refine own_callS A274 hx hZ hown (y := (⟨"com/example/indexloom/indexloom/data/DataLineIsEmptyPinLaw", "fine", "([BIIZ)Z"⟩ : MethodName)) (hw _ (List.mem_of_getElem? (i := 142) rfl)) (hw _ (List.mem_of_getElem? (i := 143) rfl)) (hw _ (List.mem_of_getElem? (i := 4) rfl)) (hw _ (List.mem_of_getElem? (i := 144) rfl)) (by decide) (argsL := [(.ref b4), (.int (2 : Int32)), (.int (Int32.ofNat pn)), (.int (0 : Int32))]) (rest := []) (rm24 l Z a0 hw b4 (2 : Int32) (Int32.ofNat pn) (0 : Int32) fb h238 n0 V249 ⟨by decide, by decide⟩) 0 (by decide) (by decide) rfl (by rw [hml]; rfl) (lenOf pd___BIIZ_Z rfl) rfl (by show 2 * 0 + _ ≤ _; exact Nat.le_of_eq rfl) (hb hby at_236) (by decide) (by decide) (fun v282 T279 h281 A280 hQ283 => ?_)
        obtain ⟨rfl, rfl⟩ := hQ283
        show own_Go _ _ _ _ (T279.setTop (mkF m 239 #[.val (.int p0), .val (.int p1), .val (.int p2), .val (.int (Int32.ofNat pn)), .val (.ref b4), .val (.ref b121), .val (.ref b199), .val (.int z7), .unset] [(.int (f24 (2 : Int32) (Int32.ofNat pn) (0 : Int32) fb))]))
        by_cases hc284 : (f24 (2 : Int32) (Int32.ofNat pn) (0 : Int32) fb) = (0 : Int32)
        ·
          refine own_go (fun t_ k_ => XS.ifYes A280.here hx rfl (pc0 := 239) (pc' := 291) rfl (hb hby at_239) rfl ((if0 _ _).trans (teq hc284).1) (by decide) (by decide) k_) ?_
          show own_Go _ _ _ _ (T279.setTop (mkF m 291 #[.val (.int p0), .val (.int p1), .val (.int p2), .val (.int (Int32.ofNat pn)), .val (.ref b4), .val (.ref b121), .val (.ref b199), .val (.int z7), .unset] []))
          refine own_go (fun t_ k_ => XS.iconst A280.here hx rfl (hb hby at_291) k_) ?_
          show own_Go _ _ _ _ (T279.setTop (mkF m 292 #[.val (.int p0), .val (.int p1), .val (.int p2), .val (.int (Int32.ofNat pn)), .val (.ref b4), .val (.ref b121), .val (.ref b199), .val (.int z7), .unset] [(.int (0 : Int32))]))
          exact tB _ _ _ h7 (by rw [own_and7, if_neg hc272, if_neg hc278, if_pos hc284]) A280
        ·
          refine own_go (fun t_ k_ => XS.ifNo A280.here hx rfl (hb hby at_239) rfl ((if0 _ _).trans (feq hc284).1) k_) ?_
          show own_Go _ _ _ _ (T279.setTop (mkF m 242 #[.val (.int p0), .val (.int p1), .val (.int p2), .val (.int (Int32.ofNat pn)), .val (.ref b4), .val (.ref b121), .val (.ref b199), .val (.int z7), .unset] []))
          refine own_go (fun t_ k_ => XS.aload A280.here hx rfl (hb hby at_242) rfl rfl k_) ?_
          show own_Go _ _ _ _ (T279.setTop (mkF m 244 #[.val (.int p0), .val (.int p1), .val (.int p2), .val (.int (Int32.ofNat pn)), .val (.ref b4), .val (.ref b121), .val (.ref b199), .val (.int z7), .unset] [(.ref b4)]))
          refine own_go (fun t_ k_ => XS.iconst A280.here hx rfl (hb hby at_244) k_) ?_
          show own_Go _ _ _ _ (T279.setTop (mkF m 245 #[.val (.int p0), .val (.int p1), .val (.int p2), .val (.int (Int32.ofNat pn)), .val (.ref b4), .val (.ref b121), .val (.ref b199), .val (.int z7), .unset] [(.int (3 : Int32)), (.ref b4)]))
          refine own_go (fun t_ k_ => XS.iloadN A280.here hx rfl (hb hby at_245) rfl k_) ?_
          show own_Go _ _ _ _ (T279.setTop (mkF m 246 #[.val (.int p0), .val (.int p1), .val (.int p2), .val (.int (Int32.ofNat pn)), .val (.ref b4), .val (.ref b121), .val (.ref b199), .val (.int z7), .unset] [(.int (Int32.ofNat pn)), (.int (3 : Int32)), (.ref b4)]))
          refine own_go (fun t_ k_ => XS.iconst A280.here hx rfl (hb hby at_246) k_) ?_
          show own_Go _ _ _ _ (T279.setTop (mkF m 247 #[.val (.int p0), .val (.int p1), .val (.int p2), .val (.int (Int32.ofNat pn)), .val (.ref b4), .val (.ref b121), .val (.ref b199), .val (.int z7), .unset] [(.int (0 : Int32)), (.int (Int32.ofNat pn)), (.int (3 : Int32)), (.ref b4)]))
          refine own_callS A280 hx hZ hown (y := (⟨"com/example/indexloom/indexloom/data/DataLineIsEmptyPinLaw", "fine", "([BIIZ)Z"⟩ : MethodName)) (hw _ (List.mem_of_getElem? (i := 142) rfl)) (hw _ (List.mem_of_getElem? (i := 143) rfl)) (hw _ (List.mem_of_getElem? (i := 4) rfl)) (hw _ (List.mem_of_getElem? (i := 144) rfl)) (by decide) (argsL := [(.ref b4), (.int (3 : Int32)), (.int (Int32.ofNat pn)), (.int (0 : Int32))]) (rest := []) (rm24 l Z a0 hw b4 (3 : Int32) (Int32.ofNat pn) (0 : Int32) fb h238 n0 V249 ⟨by decide, by decide⟩) 0 (by decide) (by decide) rfl (by rw [hml]; rfl) (lenOf pd___BIIZ_Z rfl) rfl (by show 2 * 0 + _ ≤ _; exact Nat.le_of_eq rfl) (hb hby at_247) (by decide) (by decide) (fun v288 T285 h287 A286 hQ289 => ?_)
          obtain ⟨rfl, rfl⟩ := hQ289
          show own_Go _ _ _ _ (T285.setTop (mkF m 250 #[.val (.int p0), .val (.int p1), .val (.int p2), .val (.int (Int32.ofNat pn)), .val (.ref b4), .val (.ref b121), .val (.ref b199), .val (.int z7), .unset] [(.int (f24 (3 : Int32) (Int32.ofNat pn) (0 : Int32) fb))]))
          by_cases hc290 : (f24 (3 : Int32) (Int32.ofNat pn) (0 : Int32) fb) = (0 : Int32)
          ·
            refine own_go (fun t_ k_ => XS.ifYes A286.here hx rfl (pc0 := 250) (pc' := 291) rfl (hb hby at_250) rfl ((if0 _ _).trans (teq hc290).1) (by decide) (by decide) k_) ?_
            show own_Go _ _ _ _ (T285.setTop (mkF m 291 #[.val (.int p0), .val (.int p1), .val (.int p2), .val (.int (Int32.ofNat pn)), .val (.ref b4), .val (.ref b121), .val (.ref b199), .val (.int z7), .unset] []))
            refine own_go (fun t_ k_ => XS.iconst A286.here hx rfl (hb hby at_291) k_) ?_
            show own_Go _ _ _ _ (T285.setTop (mkF m 292 #[.val (.int p0), .val (.int p1), .val (.int p2), .val (.int (Int32.ofNat pn)), .val (.ref b4), .val (.ref b121), .val (.ref b199), .val (.int z7), .unset] [(.int (0 : Int32))]))
            exact tB _ _ _ h7 (by rw [own_and7, if_neg hc272, if_neg hc278, if_neg hc284, if_pos hc290]) A286
          ·
            refine own_go (fun t_ k_ => XS.ifNo A286.here hx rfl (hb hby at_250) rfl ((if0 _ _).trans (feq hc290).1) k_) ?_
            show own_Go _ _ _ _ (T285.setTop (mkF m 253 #[.val (.int p0), .val (.int p1), .val (.int p2), .val (.int (Int32.ofNat pn)), .val (.ref b4), .val (.ref b121), .val (.ref b199), .val (.int z7), .unset] []))
            refine own_go (fun t_ k_ => XS.aload A286.here hx rfl (hb hby at_253) rfl rfl k_) ?_
            show own_Go _ _ _ _ (T285.setTop (mkF m 255 #[.val (.int p0), .val (.int p1), .val (.int p2), .val (.int (Int32.ofNat pn)), .val (.ref b4), .val (.ref b121), .val (.ref b199), .val (.int z7), .unset] [(.ref b4)]))
            refine own_go (fun t_ k_ => XS.iconst A286.here hx rfl (hb hby at_255) k_) ?_
            show own_Go _ _ _ _ (T285.setTop (mkF m 256 #[.val (.int p0), .val (.int p1), .val (.int p2), .val (.int (Int32.ofNat pn)), .val (.ref b4), .val (.ref b121), .val (.ref b199), .val (.int z7), .unset] [(.int (4 : Int32)), (.ref b4)]))
            refine own_go (fun t_ k_ => XS.iloadN A286.here hx rfl (hb hby at_256) rfl k_) ?_
            show own_Go _ _ _ _ (T285.setTop (mkF m 257 #[.val (.int p0), .val (.int p1), .val (.int p2), .val (.int (Int32.ofNat pn)), .val (.ref b4), .val (.ref b121), .val (.ref b199), .val (.int z7), .unset] [(.int (Int32.ofNat pn)), (.int (4 : Int32)), (.ref b4)]))
            refine own_go (fun t_ k_ => XS.iconst A286.here hx rfl (hb hby at_257) k_) ?_
            show own_Go _ _ _ _ (T285.setTop (mkF m 258 #[.val (.int p0), .val (.int p1), .val (.int p2), .val (.int (Int32.ofNat pn)), .val (.ref b4), .val (.ref b121), .val (.ref b199), .val (.int z7), .unset] [(.int (0 : Int32)), (.int (Int32.ofNat pn)), (.int (4 : Int32)), (.ref b4)]))
            refine own_callS A286 hx hZ hown (y := (⟨"com/example/indexloom/indexloom/data/DataLineIsEmptyPinLaw", "fine", "([BIIZ)Z"⟩ : MethodName)) (hw _ (List.mem_of_getElem? (i := 142) rfl)) (hw _ (List.mem_of_getElem? (i := 143) rfl)) (hw _ (List.mem_of_getElem? (i := 4) rfl)) (hw _ (List.mem_of_getElem? (i := 144) rfl)) (by decide) (argsL := [(.ref b4), (.int (4 : Int32)), (.int (Int32.ofNat pn)), (.int (0 : Int32))]) (rest := []) (rm24 l Z a0 hw b4 (4 : Int32) (Int32.ofNat pn) (0 : Int32) fb h238 n0 V249 ⟨by decide, by decide⟩) 0 (by decide) (by decide) rfl (by rw [hml]; rfl) (lenOf pd___BIIZ_Z rfl) rfl (by show 2 * 0 + _ ≤ _; exact Nat.le_of_eq rfl) (hb hby at_258) (by decide) (by decide) (fun v294 T291 h293 A292 hQ295 => ?_)
            obtain ⟨rfl, rfl⟩ := hQ295
            show own_Go _ _ _ _ (T291.setTop (mkF m 261 #[.val (.int p0), .val (.int p1), .val (.int p2), .val (.int (Int32.ofNat pn)), .val (.ref b4), .val (.ref b121), .val (.ref b199), .val (.int z7), .unset] [(.int (f24 (4 : Int32) (Int32.ofNat pn) (0 : Int32) fb))]))
            by_cases hc296 : (f24 (4 : Int32) (Int32.ofNat pn) (0 : Int32) fb) = (0 : Int32)
            ·
              refine own_go (fun t_ k_ => XS.ifYes A292.here hx rfl (pc0 := 261) (pc' := 291) rfl (hb hby at_261) rfl ((if0 _ _).trans (teq hc296).1) (by decide) (by decide) k_) ?_
              show own_Go _ _ _ _ (T291.setTop (mkF m 291 #[.val (.int p0), .val (.int p1), .val (.int p2), .val (.int (Int32.ofNat pn)), .val (.ref b4), .val (.ref b121), .val (.ref b199), .val (.int z7), .unset] []))
              refine own_go (fun t_ k_ => XS.iconst A292.here hx rfl (hb hby at_291) k_) ?_
              show own_Go _ _ _ _ (T291.setTop (mkF m 292 #[.val (.int p0), .val (.int p1), .val (.int p2), .val (.int (Int32.ofNat pn)), .val (.ref b4), .val (.ref b121), .val (.ref b199), .val (.int z7), .unset] [(.int (0 : Int32))]))
              exact tB _ _ _ h7 (by rw [own_and7, if_neg hc272, if_neg hc278, if_neg hc284, if_neg hc290, if_pos hc296]) A292
            ·
              refine own_go (fun t_ k_ => XS.ifNo A292.here hx rfl (hb hby at_261) rfl ((if0 _ _).trans (feq hc296).1) k_) ?_
              show own_Go _ _ _ _ (T291.setTop (mkF m 264 #[.val (.int p0), .val (.int p1), .val (.int p2), .val (.int (Int32.ofNat pn)), .val (.ref b4), .val (.ref b121), .val (.ref b199), .val (.int z7), .unset] []))
              refine own_go (fun t_ k_ => XS.aload A292.here hx rfl (hb hby at_264) rfl rfl k_) ?_
              show own_Go _ _ _ _ (T291.setTop (mkF m 266 #[.val (.int p0), .val (.int p1), .val (.int p2), .val (.int (Int32.ofNat pn)), .val (.ref b4), .val (.ref b121), .val (.ref b199), .val (.int z7), .unset] [(.ref b4)]))
              refine own_go (fun t_ k_ => XS.iconst A292.here hx rfl (hb hby at_266) k_) ?_
              show own_Go _ _ _ _ (T291.setTop (mkF m 267 #[.val (.int p0), .val (.int p1), .val (.int p2), .val (.int (Int32.ofNat pn)), .val (.ref b4), .val (.ref b121), .val (.ref b199), .val (.int z7), .unset] [(.int (5 : Int32)), (.ref b4)]))
              refine own_go (fun t_ k_ => XS.iloadN A292.here hx rfl (hb hby at_267) rfl k_) ?_
              show own_Go _ _ _ _ (T291.setTop (mkF m 268 #[.val (.int p0), .val (.int p1), .val (.int p2), .val (.int (Int32.ofNat pn)), .val (.ref b4), .val (.ref b121), .val (.ref b199), .val (.int z7), .unset] [(.int (Int32.ofNat pn)), (.int (5 : Int32)), (.ref b4)]))
              refine own_go (fun t_ k_ => XS.iconst A292.here hx rfl (hb hby at_268) k_) ?_
              show own_Go _ _ _ _ (T291.setTop (mkF m 269 #[.val (.int p0), .val (.int p1), .val (.int p2), .val (.int (Int32.ofNat pn)), .val (.ref b4), .val (.ref b121), .val (.ref b199), .val (.int z7), .unset] [(.int (0 : Int32)), (.int (Int32.ofNat pn)), (.int (5 : Int32)), (.ref b4)]))
              refine own_callS A292 hx hZ hown (y := (⟨"com/example/indexloom/indexloom/data/DataLineIsEmptyPinLaw", "fine", "([BIIZ)Z"⟩ : MethodName)) (hw _ (List.mem_of_getElem? (i := 142) rfl)) (hw _ (List.mem_of_getElem? (i := 143) rfl)) (hw _ (List.mem_of_getElem? (i := 4) rfl)) (hw _ (List.mem_of_getElem? (i := 144) rfl)) (by decide) (argsL := [(.ref b4), (.int (5 : Int32)), (.int (Int32.ofNat pn)), (.int (0 : Int32))]) (rest := []) (rm24 l Z a0 hw b4 (5 : Int32) (Int32.ofNat pn) (0 : Int32) fb h238 n0 V249 ⟨by decide, by decide⟩) 0 (by decide) (by decide) rfl (by rw [hml]; rfl) (lenOf pd___BIIZ_Z rfl) rfl (by show 2 * 0 + _ ≤ _; exact Nat.le_of_eq rfl) (hb hby at_269) (by decide) (by decide) (fun v300 T297 h299 A298 hQ301 => ?_)
              obtain ⟨rfl, rfl⟩ := hQ301
              show own_Go _ _ _ _ (T297.setTop (mkF m 272 #[.val (.int p0), .val (.int p1), .val (.int p2), .val (.int (Int32.ofNat pn)), .val (.ref b4), .val (.ref b121), .val (.ref b199), .val (.int z7), .unset] [(.int (f24 (5 : Int32) (Int32.ofNat pn) (0 : Int32) fb))]))
              by_cases hc302 : (f24 (5 : Int32) (Int32.ofNat pn) (0 : Int32) fb) = (0 : Int32)
              ·
                refine own_go (fun t_ k_ => XS.ifYes A298.here hx rfl (pc0 := 272) (pc' := 291) rfl (hb hby at_272) rfl ((if0 _ _).trans (teq hc302).1) (by decide) (by decide) k_) ?_
                show own_Go _ _ _ _ (T297.setTop (mkF m 291 #[.val (.int p0), .val (.int p1), .val (.int p2), .val (.int (Int32.ofNat pn)), .val (.ref b4), .val (.ref b121), .val (.ref b199), .val (.int z7), .unset] []))
                refine own_go (fun t_ k_ => XS.iconst A298.here hx rfl (hb hby at_291) k_) ?_
                show own_Go _ _ _ _ (T297.setTop (mkF m 292 #[.val (.int p0), .val (.int p1), .val (.int p2), .val (.int (Int32.ofNat pn)), .val (.ref b4), .val (.ref b121), .val (.ref b199), .val (.int z7), .unset] [(.int (0 : Int32))]))
                exact tB _ _ _ h7 (by rw [own_and7, if_neg hc272, if_neg hc278, if_neg hc284, if_neg hc290, if_neg hc296, if_pos hc302]) A298
              ·
                refine own_go (fun t_ k_ => XS.ifNo A298.here hx rfl (hb hby at_272) rfl ((if0 _ _).trans (feq hc302).1) k_) ?_
                show own_Go _ _ _ _ (T297.setTop (mkF m 275 #[.val (.int p0), .val (.int p1), .val (.int p2), .val (.int (Int32.ofNat pn)), .val (.ref b4), .val (.ref b121), .val (.ref b199), .val (.int z7), .unset] []))
                refine own_go (fun t_ k_ => XS.aload A298.here hx rfl (hb hby at_275) rfl rfl k_) ?_
                show own_Go _ _ _ _ (T297.setTop (mkF m 277 #[.val (.int p0), .val (.int p1), .val (.int p2), .val (.int (Int32.ofNat pn)), .val (.ref b4), .val (.ref b121), .val (.ref b199), .val (.int z7), .unset] [(.ref b4)]))
                refine own_go (fun t_ k_ => XS.bipush A298.here hx rfl (hb hby at_277) k_) ?_
                show own_Go _ _ _ _ (T297.setTop (mkF m 279 #[.val (.int p0), .val (.int p1), .val (.int p2), .val (.int (Int32.ofNat pn)), .val (.ref b4), .val (.ref b121), .val (.ref b199), .val (.int z7), .unset] [(.int (6 : Int32)), (.ref b4)]))
                refine own_go (fun t_ k_ => XS.iloadN A298.here hx rfl (hb hby at_279) rfl k_) ?_
                show own_Go _ _ _ _ (T297.setTop (mkF m 280 #[.val (.int p0), .val (.int p1), .val (.int p2), .val (.int (Int32.ofNat pn)), .val (.ref b4), .val (.ref b121), .val (.ref b199), .val (.int z7), .unset] [(.int (Int32.ofNat pn)), (.int (6 : Int32)), (.ref b4)]))
                refine own_go (fun t_ k_ => XS.iconst A298.here hx rfl (hb hby at_280) k_) ?_
                show own_Go _ _ _ _ (T297.setTop (mkF m 281 #[.val (.int p0), .val (.int p1), .val (.int p2), .val (.int (Int32.ofNat pn)), .val (.ref b4), .val (.ref b121), .val (.ref b199), .val (.int z7), .unset] [(.int (0 : Int32)), (.int (Int32.ofNat pn)), (.int (6 : Int32)), (.ref b4)]))
                refine own_callS A298 hx hZ hown (y := (⟨"com/example/indexloom/indexloom/data/DataLineIsEmptyPinLaw", "fine", "([BIIZ)Z"⟩ : MethodName)) (hw _ (List.mem_of_getElem? (i := 142) rfl)) (hw _ (List.mem_of_getElem? (i := 143) rfl)) (hw _ (List.mem_of_getElem? (i := 4) rfl)) (hw _ (List.mem_of_getElem? (i := 144) rfl)) (by decide) (argsL := [(.ref b4), (.int (6 : Int32)), (.int (Int32.ofNat pn)), (.int (0 : Int32))]) (rest := []) (rm24 l Z a0 hw b4 (6 : Int32) (Int32.ofNat pn) (0 : Int32) fb h238 n0 V249 ⟨by decide, by decide⟩) 0 (by decide) (by decide) rfl (by rw [hml]; rfl) (lenOf pd___BIIZ_Z rfl) rfl (by show 2 * 0 + _ ≤ _; exact Nat.le_of_eq rfl) (hb hby at_281) (by decide) (by decide) (fun v306 T303 h305 A304 hQ307 => ?_)
                obtain ⟨rfl, rfl⟩ := hQ307
                show own_Go _ _ _ _ (T303.setTop (mkF m 284 #[.val (.int p0), .val (.int p1), .val (.int p2), .val (.int (Int32.ofNat pn)), .val (.ref b4), .val (.ref b121), .val (.ref b199), .val (.int z7), .unset] [(.int (f24 (6 : Int32) (Int32.ofNat pn) (0 : Int32) fb))]))
                have mg308 : ∀ t_, Steps p.tables e below (T303.setTop (mkF m 292 #[.val (.int p0), .val (.int p1), .val (.int p2), .val (.int (Int32.ofNat pn)), .val (.ref b4), .val (.ref b121), .val (.ref b199), .val (.int z7), .unset] [(.int (if (f24 (6 : Int32) (Int32.ofNat pn) (0 : Int32) fb) = (0 : Int32) then (0 : Int32) else (1 : Int32)))])) t_ → Steps p.tables e below (T303.setTop (mkF m 284 #[.val (.int p0), .val (.int p1), .val (.int p2), .val (.int (Int32.ofNat pn)), .val (.ref b4), .val (.ref b121), .val (.ref b199), .val (.int z7), .unset] [(.int (f24 (6 : Int32) (Int32.ofNat pn) (0 : Int32) fb))])) t_ := by
                  intro t_ k_
                  by_cases hm284_0 : (f24 (6 : Int32) (Int32.ofNat pn) (0 : Int32) fb) = (0 : Int32)
                  ·
                    simp only [if_pos hm284_0] at k_
                    exact (XS.ifYes A304.here hx rfl (pc0 := 284) (pc' := 291) rfl (hb hby at_284) rfl ((if0 _ _).trans (teq hm284_0).1) (by decide) (by decide) (XS.iconst A304.here hx rfl (hb hby at_291) k_))
                  ·
                    simp only [if_neg hm284_0] at k_
                    exact (XS.ifNo A304.here hx rfl (hb hby at_284) rfl ((if0 _ _).trans (feq hm284_0).1) (XS.iconst A304.here hx rfl (hb hby at_287) (XS.goto A304.here hx rfl (pc0 := 288) (pc' := 292) rfl (hb hby at_288) (by decide) (by decide) k_)))
                refine own_go mg308 ?_
                show own_Go _ _ _ _ (T303.setTop (mkF m 292 #[.val (.int p0), .val (.int p1), .val (.int p2), .val (.int (Int32.ofNat pn)), .val (.ref b4), .val (.ref b121), .val (.ref b199), .val (.int z7), .unset] [(.int (if (f24 (6 : Int32) (Int32.ofNat pn) (0 : Int32) fb) = (0 : Int32) then (0 : Int32) else (1 : Int32)))]))
                exact tB _ _ _ h7 (by rw [own_and7, if_neg hc272, if_neg hc278, if_neg hc284, if_neg hc290, if_neg hc296, if_neg hc302]) A304
  refine own_go (fun t_ k_ => XS.aload A237.here hx rfl (hb hby at_124) rfl rfl k_) ?_
  show own_Go _ _ _ _ (T236.setTop (mkF m 126 #[.val (.int p0), .val (.int p1), .val (.int p2), .val (.int (Int32.ofNat pn)), .val (.ref b4), .val (.ref b121), .val (.ref b199), .unset, .unset] [(.ref b4)]))
  refine own_go (fun t_ k_ => XS.iconst A237.here hx rfl (hb hby at_126) k_) ?_
  show own_Go _ _ _ _ (T236.setTop (mkF m 127 #[.val (.int p0), .val (.int p1), .val (.int p2), .val (.int (Int32.ofNat pn)), .val (.ref b4), .val (.ref b121), .val (.ref b199), .unset, .unset] [(.int (0 : Int32)), (.ref b4)]))
  refine own_go (fun t_ k_ => XS.iloadN A237.here hx rfl (hb hby at_127) rfl k_) ?_
  show own_Go _ _ _ _ (T236.setTop (mkF m 128 #[.val (.int p0), .val (.int p1), .val (.int p2), .val (.int (Int32.ofNat pn)), .val (.ref b4), .val (.ref b121), .val (.ref b199), .unset, .unset] [(.int (Int32.ofNat pn)), (.int (0 : Int32)), (.ref b4)]))
  refine own_go (fun t_ k_ => XS.iconst A237.here hx rfl (hb hby at_128) k_) ?_
  show own_Go _ _ _ _ (T236.setTop (mkF m 129 #[.val (.int p0), .val (.int p1), .val (.int p2), .val (.int (Int32.ofNat pn)), .val (.ref b4), .val (.ref b121), .val (.ref b199), .unset, .unset] [(.int (1 : Int32)), (.int (Int32.ofNat pn)), (.int (0 : Int32)), (.ref b4)]))
  refine own_callS A237 hx hZ hown (y := (⟨"com/example/indexloom/indexloom/data/DataLineIsEmptyPinLaw", "fine", "([BIIZ)Z"⟩ : MethodName)) (hw _ (List.mem_of_getElem? (i := 142) rfl)) (hw _ (List.mem_of_getElem? (i := 143) rfl)) (hw _ (List.mem_of_getElem? (i := 4) rfl)) (hw _ (List.mem_of_getElem? (i := 144) rfl)) (by decide) (argsL := [(.ref b4), (.int (0 : Int32)), (.int (Int32.ofNat pn)), (.int (1 : Int32))]) (rest := []) (rm24 l Z a0 hw b4 (0 : Int32) (Int32.ofNat pn) (1 : Int32) fb h238 n0 V249 ⟨by decide, by decide⟩) 0 (by decide) (by decide) rfl (by rw [hml]; rfl) (lenOf pd___BIIZ_Z rfl) rfl (by show 2 * 0 + _ ≤ _; exact Nat.le_of_eq rfl) (hb hby at_129) (by decide) (by decide) (fun v312 T309 h311 A310 hQ313 => ?_)
  obtain ⟨rfl, rfl⟩ := hQ313
  show own_Go _ _ _ _ (T309.setTop (mkF m 132 #[.val (.int p0), .val (.int p1), .val (.int p2), .val (.int (Int32.ofNat pn)), .val (.ref b4), .val (.ref b121), .val (.ref b199), .unset, .unset] [(.int (f24 (0 : Int32) (Int32.ofNat pn) (1 : Int32) fb))]))
  by_cases hc314 : (f24 (0 : Int32) (Int32.ofNat pn) (1 : Int32) fb) = (0 : Int32)
  ·
    refine own_go (fun t_ k_ => XS.ifYes A310.here hx rfl (pc0 := 132) (pc' := 206) rfl (hb hby at_132) rfl ((if0 _ _).trans (teq hc314).1) (by decide) (by decide) k_) ?_
    show own_Go _ _ _ _ (T309.setTop (mkF m 206 #[.val (.int p0), .val (.int p1), .val (.int p2), .val (.int (Int32.ofNat pn)), .val (.ref b4), .val (.ref b121), .val (.ref b199), .unset, .unset] []))
    refine own_go (fun t_ k_ => XS.iconst A310.here hx rfl (hb hby at_206) k_) ?_
    show own_Go _ _ _ _ (T309.setTop (mkF m 207 #[.val (.int p0), .val (.int p1), .val (.int p2), .val (.int (Int32.ofNat pn)), .val (.ref b4), .val (.ref b121), .val (.ref b199), .unset, .unset] [(.int (0 : Int32))]))
    exact tA _ _ (by rw [own_and7, if_pos hc314]) A310
  ·
    refine own_go (fun t_ k_ => XS.ifNo A310.here hx rfl (hb hby at_132) rfl ((if0 _ _).trans (feq hc314).1) k_) ?_
    show own_Go _ _ _ _ (T309.setTop (mkF m 135 #[.val (.int p0), .val (.int p1), .val (.int p2), .val (.int (Int32.ofNat pn)), .val (.ref b4), .val (.ref b121), .val (.ref b199), .unset, .unset] []))
    refine own_go (fun t_ k_ => XS.aload A310.here hx rfl (hb hby at_135) rfl rfl k_) ?_
    show own_Go _ _ _ _ (T309.setTop (mkF m 137 #[.val (.int p0), .val (.int p1), .val (.int p2), .val (.int (Int32.ofNat pn)), .val (.ref b4), .val (.ref b121), .val (.ref b199), .unset, .unset] [(.ref b4)]))
    refine own_go (fun t_ k_ => XS.iconst A310.here hx rfl (hb hby at_137) k_) ?_
    show own_Go _ _ _ _ (T309.setTop (mkF m 138 #[.val (.int p0), .val (.int p1), .val (.int p2), .val (.int (Int32.ofNat pn)), .val (.ref b4), .val (.ref b121), .val (.ref b199), .unset, .unset] [(.int (1 : Int32)), (.ref b4)]))
    refine own_go (fun t_ k_ => XS.iloadN A310.here hx rfl (hb hby at_138) rfl k_) ?_
    show own_Go _ _ _ _ (T309.setTop (mkF m 139 #[.val (.int p0), .val (.int p1), .val (.int p2), .val (.int (Int32.ofNat pn)), .val (.ref b4), .val (.ref b121), .val (.ref b199), .unset, .unset] [(.int (Int32.ofNat pn)), (.int (1 : Int32)), (.ref b4)]))
    refine own_go (fun t_ k_ => XS.iconst A310.here hx rfl (hb hby at_139) k_) ?_
    show own_Go _ _ _ _ (T309.setTop (mkF m 140 #[.val (.int p0), .val (.int p1), .val (.int p2), .val (.int (Int32.ofNat pn)), .val (.ref b4), .val (.ref b121), .val (.ref b199), .unset, .unset] [(.int (1 : Int32)), (.int (Int32.ofNat pn)), (.int (1 : Int32)), (.ref b4)]))
    refine own_callS A310 hx hZ hown (y := (⟨"com/example/indexloom/indexloom/data/DataLineIsEmptyPinLaw", "fine", "([BIIZ)Z"⟩ : MethodName)) (hw _ (List.mem_of_getElem? (i := 142) rfl)) (hw _ (List.mem_of_getElem? (i := 143) rfl)) (hw _ (List.mem_of_getElem? (i := 4) rfl)) (hw _ (List.mem_of_getElem? (i := 144) rfl)) (by decide) (argsL := [(.ref b4), (.int (1 : Int32)), (.int (Int32.ofNat pn)), (.int (1 : Int32))]) (rest := []) (rm24 l Z a0 hw b4 (1 : Int32) (Int32.ofNat pn) (1 : Int32) fb h238 n0 V249 ⟨by decide, by decide⟩) 0 (by decide) (by decide) rfl (by rw [hml]; rfl) (lenOf pd___BIIZ_Z rfl) rfl (by show 2 * 0 + _ ≤ _; exact Nat.le_of_eq rfl) (hb hby at_140) (by decide) (by decide) (fun v318 T315 h317 A316 hQ319 => ?_)
    obtain ⟨rfl, rfl⟩ := hQ319
    show own_Go _ _ _ _ (T315.setTop (mkF m 143 #[.val (.int p0), .val (.int p1), .val (.int p2), .val (.int (Int32.ofNat pn)), .val (.ref b4), .val (.ref b121), .val (.ref b199), .unset, .unset] [(.int (f24 (1 : Int32) (Int32.ofNat pn) (1 : Int32) fb))]))
    by_cases hc320 : (f24 (1 : Int32) (Int32.ofNat pn) (1 : Int32) fb) = (0 : Int32)
    ·
      refine own_go (fun t_ k_ => XS.ifYes A316.here hx rfl (pc0 := 143) (pc' := 206) rfl (hb hby at_143) rfl ((if0 _ _).trans (teq hc320).1) (by decide) (by decide) k_) ?_
      show own_Go _ _ _ _ (T315.setTop (mkF m 206 #[.val (.int p0), .val (.int p1), .val (.int p2), .val (.int (Int32.ofNat pn)), .val (.ref b4), .val (.ref b121), .val (.ref b199), .unset, .unset] []))
      refine own_go (fun t_ k_ => XS.iconst A316.here hx rfl (hb hby at_206) k_) ?_
      show own_Go _ _ _ _ (T315.setTop (mkF m 207 #[.val (.int p0), .val (.int p1), .val (.int p2), .val (.int (Int32.ofNat pn)), .val (.ref b4), .val (.ref b121), .val (.ref b199), .unset, .unset] [(.int (0 : Int32))]))
      exact tA _ _ (by rw [own_and7, if_neg hc314, if_pos hc320]) A316
    ·
      refine own_go (fun t_ k_ => XS.ifNo A316.here hx rfl (hb hby at_143) rfl ((if0 _ _).trans (feq hc320).1) k_) ?_
      show own_Go _ _ _ _ (T315.setTop (mkF m 146 #[.val (.int p0), .val (.int p1), .val (.int p2), .val (.int (Int32.ofNat pn)), .val (.ref b4), .val (.ref b121), .val (.ref b199), .unset, .unset] []))
      refine own_go (fun t_ k_ => XS.aload A316.here hx rfl (hb hby at_146) rfl rfl k_) ?_
      show own_Go _ _ _ _ (T315.setTop (mkF m 148 #[.val (.int p0), .val (.int p1), .val (.int p2), .val (.int (Int32.ofNat pn)), .val (.ref b4), .val (.ref b121), .val (.ref b199), .unset, .unset] [(.ref b4)]))
      refine own_go (fun t_ k_ => XS.iconst A316.here hx rfl (hb hby at_148) k_) ?_
      show own_Go _ _ _ _ (T315.setTop (mkF m 149 #[.val (.int p0), .val (.int p1), .val (.int p2), .val (.int (Int32.ofNat pn)), .val (.ref b4), .val (.ref b121), .val (.ref b199), .unset, .unset] [(.int (2 : Int32)), (.ref b4)]))
      refine own_go (fun t_ k_ => XS.iloadN A316.here hx rfl (hb hby at_149) rfl k_) ?_
      show own_Go _ _ _ _ (T315.setTop (mkF m 150 #[.val (.int p0), .val (.int p1), .val (.int p2), .val (.int (Int32.ofNat pn)), .val (.ref b4), .val (.ref b121), .val (.ref b199), .unset, .unset] [(.int (Int32.ofNat pn)), (.int (2 : Int32)), (.ref b4)]))
      refine own_go (fun t_ k_ => XS.iconst A316.here hx rfl (hb hby at_150) k_) ?_
      show own_Go _ _ _ _ (T315.setTop (mkF m 151 #[.val (.int p0), .val (.int p1), .val (.int p2), .val (.int (Int32.ofNat pn)), .val (.ref b4), .val (.ref b121), .val (.ref b199), .unset, .unset] [(.int (1 : Int32)), (.int (Int32.ofNat pn)), (.int (2 : Int32)), (.ref b4)]))
      refine own_callS A316 hx hZ hown (y := (⟨"com/example/indexloom/indexloom/data/DataLineIsEmptyPinLaw", "fine", "([BIIZ)Z"⟩ : MethodName)) (hw _ (List.mem_of_getElem? (i := 142) rfl)) (hw _ (List.mem_of_getElem? (i := 143) rfl)) (hw _ (List.mem_of_getElem? (i := 4) rfl)) (hw _ (List.mem_of_getElem? (i := 144) rfl)) (by decide) (argsL := [(.ref b4), (.int (2 : Int32)), (.int (Int32.ofNat pn)), (.int (1 : Int32))]) (rest := []) (rm24 l Z a0 hw b4 (2 : Int32) (Int32.ofNat pn) (1 : Int32) fb h238 n0 V249 ⟨by decide, by decide⟩) 0 (by decide) (by decide) rfl (by rw [hml]; rfl) (lenOf pd___BIIZ_Z rfl) rfl (by show 2 * 0 + _ ≤ _; exact Nat.le_of_eq rfl) (hb hby at_151) (by decide) (by decide) (fun v324 T321 h323 A322 hQ325 => ?_)
      obtain ⟨rfl, rfl⟩ := hQ325
      show own_Go _ _ _ _ (T321.setTop (mkF m 154 #[.val (.int p0), .val (.int p1), .val (.int p2), .val (.int (Int32.ofNat pn)), .val (.ref b4), .val (.ref b121), .val (.ref b199), .unset, .unset] [(.int (f24 (2 : Int32) (Int32.ofNat pn) (1 : Int32) fb))]))
      by_cases hc326 : (f24 (2 : Int32) (Int32.ofNat pn) (1 : Int32) fb) = (0 : Int32)
      ·
        refine own_go (fun t_ k_ => XS.ifYes A322.here hx rfl (pc0 := 154) (pc' := 206) rfl (hb hby at_154) rfl ((if0 _ _).trans (teq hc326).1) (by decide) (by decide) k_) ?_
        show own_Go _ _ _ _ (T321.setTop (mkF m 206 #[.val (.int p0), .val (.int p1), .val (.int p2), .val (.int (Int32.ofNat pn)), .val (.ref b4), .val (.ref b121), .val (.ref b199), .unset, .unset] []))
        refine own_go (fun t_ k_ => XS.iconst A322.here hx rfl (hb hby at_206) k_) ?_
        show own_Go _ _ _ _ (T321.setTop (mkF m 207 #[.val (.int p0), .val (.int p1), .val (.int p2), .val (.int (Int32.ofNat pn)), .val (.ref b4), .val (.ref b121), .val (.ref b199), .unset, .unset] [(.int (0 : Int32))]))
        exact tA _ _ (by rw [own_and7, if_neg hc314, if_neg hc320, if_pos hc326]) A322
      ·
        refine own_go (fun t_ k_ => XS.ifNo A322.here hx rfl (hb hby at_154) rfl ((if0 _ _).trans (feq hc326).1) k_) ?_
        show own_Go _ _ _ _ (T321.setTop (mkF m 157 #[.val (.int p0), .val (.int p1), .val (.int p2), .val (.int (Int32.ofNat pn)), .val (.ref b4), .val (.ref b121), .val (.ref b199), .unset, .unset] []))
        refine own_go (fun t_ k_ => XS.aload A322.here hx rfl (hb hby at_157) rfl rfl k_) ?_
        show own_Go _ _ _ _ (T321.setTop (mkF m 159 #[.val (.int p0), .val (.int p1), .val (.int p2), .val (.int (Int32.ofNat pn)), .val (.ref b4), .val (.ref b121), .val (.ref b199), .unset, .unset] [(.ref b4)]))
        refine own_go (fun t_ k_ => XS.iconst A322.here hx rfl (hb hby at_159) k_) ?_
        show own_Go _ _ _ _ (T321.setTop (mkF m 160 #[.val (.int p0), .val (.int p1), .val (.int p2), .val (.int (Int32.ofNat pn)), .val (.ref b4), .val (.ref b121), .val (.ref b199), .unset, .unset] [(.int (3 : Int32)), (.ref b4)]))
        refine own_go (fun t_ k_ => XS.iloadN A322.here hx rfl (hb hby at_160) rfl k_) ?_
        show own_Go _ _ _ _ (T321.setTop (mkF m 161 #[.val (.int p0), .val (.int p1), .val (.int p2), .val (.int (Int32.ofNat pn)), .val (.ref b4), .val (.ref b121), .val (.ref b199), .unset, .unset] [(.int (Int32.ofNat pn)), (.int (3 : Int32)), (.ref b4)]))
        refine own_go (fun t_ k_ => XS.iconst A322.here hx rfl (hb hby at_161) k_) ?_
        show own_Go _ _ _ _ (T321.setTop (mkF m 162 #[.val (.int p0), .val (.int p1), .val (.int p2), .val (.int (Int32.ofNat pn)), .val (.ref b4), .val (.ref b121), .val (.ref b199), .unset, .unset] [(.int (1 : Int32)), (.int (Int32.ofNat pn)), (.int (3 : Int32)), (.ref b4)]))
        refine own_callS A322 hx hZ hown (y := (⟨"com/example/indexloom/indexloom/data/DataLineIsEmptyPinLaw", "fine", "([BIIZ)Z"⟩ : MethodName)) (hw _ (List.mem_of_getElem? (i := 142) rfl)) (hw _ (List.mem_of_getElem? (i := 143) rfl)) (hw _ (List.mem_of_getElem? (i := 4) rfl)) (hw _ (List.mem_of_getElem? (i := 144) rfl)) (by decide) (argsL := [(.ref b4), (.int (3 : Int32)), (.int (Int32.ofNat pn)), (.int (1 : Int32))]) (rest := []) (rm24 l Z a0 hw b4 (3 : Int32) (Int32.ofNat pn) (1 : Int32) fb h238 n0 V249 ⟨by decide, by decide⟩) 0 (by decide) (by decide) rfl (by rw [hml]; rfl) (lenOf pd___BIIZ_Z rfl) rfl (by show 2 * 0 + _ ≤ _; exact Nat.le_of_eq rfl) (hb hby at_162) (by decide) (by decide) (fun v330 T327 h329 A328 hQ331 => ?_)
        obtain ⟨rfl, rfl⟩ := hQ331
        show own_Go _ _ _ _ (T327.setTop (mkF m 165 #[.val (.int p0), .val (.int p1), .val (.int p2), .val (.int (Int32.ofNat pn)), .val (.ref b4), .val (.ref b121), .val (.ref b199), .unset, .unset] [(.int (f24 (3 : Int32) (Int32.ofNat pn) (1 : Int32) fb))]))
        by_cases hc332 : (f24 (3 : Int32) (Int32.ofNat pn) (1 : Int32) fb) = (0 : Int32)
        ·
          refine own_go (fun t_ k_ => XS.ifYes A328.here hx rfl (pc0 := 165) (pc' := 206) rfl (hb hby at_165) rfl ((if0 _ _).trans (teq hc332).1) (by decide) (by decide) k_) ?_
          show own_Go _ _ _ _ (T327.setTop (mkF m 206 #[.val (.int p0), .val (.int p1), .val (.int p2), .val (.int (Int32.ofNat pn)), .val (.ref b4), .val (.ref b121), .val (.ref b199), .unset, .unset] []))
          refine own_go (fun t_ k_ => XS.iconst A328.here hx rfl (hb hby at_206) k_) ?_
          show own_Go _ _ _ _ (T327.setTop (mkF m 207 #[.val (.int p0), .val (.int p1), .val (.int p2), .val (.int (Int32.ofNat pn)), .val (.ref b4), .val (.ref b121), .val (.ref b199), .unset, .unset] [(.int (0 : Int32))]))
          exact tA _ _ (by rw [own_and7, if_neg hc314, if_neg hc320, if_neg hc326, if_pos hc332]) A328
        ·
          refine own_go (fun t_ k_ => XS.ifNo A328.here hx rfl (hb hby at_165) rfl ((if0 _ _).trans (feq hc332).1) k_) ?_
          show own_Go _ _ _ _ (T327.setTop (mkF m 168 #[.val (.int p0), .val (.int p1), .val (.int p2), .val (.int (Int32.ofNat pn)), .val (.ref b4), .val (.ref b121), .val (.ref b199), .unset, .unset] []))
          refine own_go (fun t_ k_ => XS.aload A328.here hx rfl (hb hby at_168) rfl rfl k_) ?_
          show own_Go _ _ _ _ (T327.setTop (mkF m 170 #[.val (.int p0), .val (.int p1), .val (.int p2), .val (.int (Int32.ofNat pn)), .val (.ref b4), .val (.ref b121), .val (.ref b199), .unset, .unset] [(.ref b4)]))
          refine own_go (fun t_ k_ => XS.iconst A328.here hx rfl (hb hby at_170) k_) ?_
          show own_Go _ _ _ _ (T327.setTop (mkF m 171 #[.val (.int p0), .val (.int p1), .val (.int p2), .val (.int (Int32.ofNat pn)), .val (.ref b4), .val (.ref b121), .val (.ref b199), .unset, .unset] [(.int (4 : Int32)), (.ref b4)]))
          refine own_go (fun t_ k_ => XS.iloadN A328.here hx rfl (hb hby at_171) rfl k_) ?_
          show own_Go _ _ _ _ (T327.setTop (mkF m 172 #[.val (.int p0), .val (.int p1), .val (.int p2), .val (.int (Int32.ofNat pn)), .val (.ref b4), .val (.ref b121), .val (.ref b199), .unset, .unset] [(.int (Int32.ofNat pn)), (.int (4 : Int32)), (.ref b4)]))
          refine own_go (fun t_ k_ => XS.iconst A328.here hx rfl (hb hby at_172) k_) ?_
          show own_Go _ _ _ _ (T327.setTop (mkF m 173 #[.val (.int p0), .val (.int p1), .val (.int p2), .val (.int (Int32.ofNat pn)), .val (.ref b4), .val (.ref b121), .val (.ref b199), .unset, .unset] [(.int (1 : Int32)), (.int (Int32.ofNat pn)), (.int (4 : Int32)), (.ref b4)]))
          refine own_callS A328 hx hZ hown (y := (⟨"com/example/indexloom/indexloom/data/DataLineIsEmptyPinLaw", "fine", "([BIIZ)Z"⟩ : MethodName)) (hw _ (List.mem_of_getElem? (i := 142) rfl)) (hw _ (List.mem_of_getElem? (i := 143) rfl)) (hw _ (List.mem_of_getElem? (i := 4) rfl)) (hw _ (List.mem_of_getElem? (i := 144) rfl)) (by decide) (argsL := [(.ref b4), (.int (4 : Int32)), (.int (Int32.ofNat pn)), (.int (1 : Int32))]) (rest := []) (rm24 l Z a0 hw b4 (4 : Int32) (Int32.ofNat pn) (1 : Int32) fb h238 n0 V249 ⟨by decide, by decide⟩) 0 (by decide) (by decide) rfl (by rw [hml]; rfl) (lenOf pd___BIIZ_Z rfl) rfl (by show 2 * 0 + _ ≤ _; exact Nat.le_of_eq rfl) (hb hby at_173) (by decide) (by decide) (fun v336 T333 h335 A334 hQ337 => ?_)
          obtain ⟨rfl, rfl⟩ := hQ337
          show own_Go _ _ _ _ (T333.setTop (mkF m 176 #[.val (.int p0), .val (.int p1), .val (.int p2), .val (.int (Int32.ofNat pn)), .val (.ref b4), .val (.ref b121), .val (.ref b199), .unset, .unset] [(.int (f24 (4 : Int32) (Int32.ofNat pn) (1 : Int32) fb))]))
          by_cases hc338 : (f24 (4 : Int32) (Int32.ofNat pn) (1 : Int32) fb) = (0 : Int32)
          ·
            refine own_go (fun t_ k_ => XS.ifYes A334.here hx rfl (pc0 := 176) (pc' := 206) rfl (hb hby at_176) rfl ((if0 _ _).trans (teq hc338).1) (by decide) (by decide) k_) ?_
            show own_Go _ _ _ _ (T333.setTop (mkF m 206 #[.val (.int p0), .val (.int p1), .val (.int p2), .val (.int (Int32.ofNat pn)), .val (.ref b4), .val (.ref b121), .val (.ref b199), .unset, .unset] []))
            refine own_go (fun t_ k_ => XS.iconst A334.here hx rfl (hb hby at_206) k_) ?_
            show own_Go _ _ _ _ (T333.setTop (mkF m 207 #[.val (.int p0), .val (.int p1), .val (.int p2), .val (.int (Int32.ofNat pn)), .val (.ref b4), .val (.ref b121), .val (.ref b199), .unset, .unset] [(.int (0 : Int32))]))
            exact tA _ _ (by rw [own_and7, if_neg hc314, if_neg hc320, if_neg hc326, if_neg hc332, if_pos hc338]) A334
          ·
            refine own_go (fun t_ k_ => XS.ifNo A334.here hx rfl (hb hby at_176) rfl ((if0 _ _).trans (feq hc338).1) k_) ?_
            show own_Go _ _ _ _ (T333.setTop (mkF m 179 #[.val (.int p0), .val (.int p1), .val (.int p2), .val (.int (Int32.ofNat pn)), .val (.ref b4), .val (.ref b121), .val (.ref b199), .unset, .unset] []))
            refine own_go (fun t_ k_ => XS.aload A334.here hx rfl (hb hby at_179) rfl rfl k_) ?_
            show own_Go _ _ _ _ (T333.setTop (mkF m 181 #[.val (.int p0), .val (.int p1), .val (.int p2), .val (.int (Int32.ofNat pn)), .val (.ref b4), .val (.ref b121), .val (.ref b199), .unset, .unset] [(.ref b4)]))
            refine own_go (fun t_ k_ => XS.iconst A334.here hx rfl (hb hby at_181) k_) ?_
            show own_Go _ _ _ _ (T333.setTop (mkF m 182 #[.val (.int p0), .val (.int p1), .val (.int p2), .val (.int (Int32.ofNat pn)), .val (.ref b4), .val (.ref b121), .val (.ref b199), .unset, .unset] [(.int (5 : Int32)), (.ref b4)]))
            refine own_go (fun t_ k_ => XS.iloadN A334.here hx rfl (hb hby at_182) rfl k_) ?_
            show own_Go _ _ _ _ (T333.setTop (mkF m 183 #[.val (.int p0), .val (.int p1), .val (.int p2), .val (.int (Int32.ofNat pn)), .val (.ref b4), .val (.ref b121), .val (.ref b199), .unset, .unset] [(.int (Int32.ofNat pn)), (.int (5 : Int32)), (.ref b4)]))
            refine own_go (fun t_ k_ => XS.iconst A334.here hx rfl (hb hby at_183) k_) ?_
            show own_Go _ _ _ _ (T333.setTop (mkF m 184 #[.val (.int p0), .val (.int p1), .val (.int p2), .val (.int (Int32.ofNat pn)), .val (.ref b4), .val (.ref b121), .val (.ref b199), .unset, .unset] [(.int (1 : Int32)), (.int (Int32.ofNat pn)), (.int (5 : Int32)), (.ref b4)]))
            refine own_callS A334 hx hZ hown (y := (⟨"com/example/indexloom/indexloom/data/DataLineIsEmptyPinLaw", "fine", "([BIIZ)Z"⟩ : MethodName)) (hw _ (List.mem_of_getElem? (i := 142) rfl)) (hw _ (List.mem_of_getElem? (i := 143) rfl)) (hw _ (List.mem_of_getElem? (i := 4) rfl)) (hw _ (List.mem_of_getElem? (i := 144) rfl)) (by decide) (argsL := [(.ref b4), (.int (5 : Int32)), (.int (Int32.ofNat pn)), (.int (1 : Int32))]) (rest := []) (rm24 l Z a0 hw b4 (5 : Int32) (Int32.ofNat pn) (1 : Int32) fb h238 n0 V249 ⟨by decide, by decide⟩) 0 (by decide) (by decide) rfl (by rw [hml]; rfl) (lenOf pd___BIIZ_Z rfl) rfl (by show 2 * 0 + _ ≤ _; exact Nat.le_of_eq rfl) (hb hby at_184) (by decide) (by decide) (fun v342 T339 h341 A340 hQ343 => ?_)
            obtain ⟨rfl, rfl⟩ := hQ343
            show own_Go _ _ _ _ (T339.setTop (mkF m 187 #[.val (.int p0), .val (.int p1), .val (.int p2), .val (.int (Int32.ofNat pn)), .val (.ref b4), .val (.ref b121), .val (.ref b199), .unset, .unset] [(.int (f24 (5 : Int32) (Int32.ofNat pn) (1 : Int32) fb))]))
            by_cases hc344 : (f24 (5 : Int32) (Int32.ofNat pn) (1 : Int32) fb) = (0 : Int32)
            ·
              refine own_go (fun t_ k_ => XS.ifYes A340.here hx rfl (pc0 := 187) (pc' := 206) rfl (hb hby at_187) rfl ((if0 _ _).trans (teq hc344).1) (by decide) (by decide) k_) ?_
              show own_Go _ _ _ _ (T339.setTop (mkF m 206 #[.val (.int p0), .val (.int p1), .val (.int p2), .val (.int (Int32.ofNat pn)), .val (.ref b4), .val (.ref b121), .val (.ref b199), .unset, .unset] []))
              refine own_go (fun t_ k_ => XS.iconst A340.here hx rfl (hb hby at_206) k_) ?_
              show own_Go _ _ _ _ (T339.setTop (mkF m 207 #[.val (.int p0), .val (.int p1), .val (.int p2), .val (.int (Int32.ofNat pn)), .val (.ref b4), .val (.ref b121), .val (.ref b199), .unset, .unset] [(.int (0 : Int32))]))
              exact tA _ _ (by rw [own_and7, if_neg hc314, if_neg hc320, if_neg hc326, if_neg hc332, if_neg hc338, if_pos hc344]) A340
            ·
              refine own_go (fun t_ k_ => XS.ifNo A340.here hx rfl (hb hby at_187) rfl ((if0 _ _).trans (feq hc344).1) k_) ?_
              show own_Go _ _ _ _ (T339.setTop (mkF m 190 #[.val (.int p0), .val (.int p1), .val (.int p2), .val (.int (Int32.ofNat pn)), .val (.ref b4), .val (.ref b121), .val (.ref b199), .unset, .unset] []))
              refine own_go (fun t_ k_ => XS.aload A340.here hx rfl (hb hby at_190) rfl rfl k_) ?_
              show own_Go _ _ _ _ (T339.setTop (mkF m 192 #[.val (.int p0), .val (.int p1), .val (.int p2), .val (.int (Int32.ofNat pn)), .val (.ref b4), .val (.ref b121), .val (.ref b199), .unset, .unset] [(.ref b4)]))
              refine own_go (fun t_ k_ => XS.bipush A340.here hx rfl (hb hby at_192) k_) ?_
              show own_Go _ _ _ _ (T339.setTop (mkF m 194 #[.val (.int p0), .val (.int p1), .val (.int p2), .val (.int (Int32.ofNat pn)), .val (.ref b4), .val (.ref b121), .val (.ref b199), .unset, .unset] [(.int (6 : Int32)), (.ref b4)]))
              refine own_go (fun t_ k_ => XS.iloadN A340.here hx rfl (hb hby at_194) rfl k_) ?_
              show own_Go _ _ _ _ (T339.setTop (mkF m 195 #[.val (.int p0), .val (.int p1), .val (.int p2), .val (.int (Int32.ofNat pn)), .val (.ref b4), .val (.ref b121), .val (.ref b199), .unset, .unset] [(.int (Int32.ofNat pn)), (.int (6 : Int32)), (.ref b4)]))
              refine own_go (fun t_ k_ => XS.iconst A340.here hx rfl (hb hby at_195) k_) ?_
              show own_Go _ _ _ _ (T339.setTop (mkF m 196 #[.val (.int p0), .val (.int p1), .val (.int p2), .val (.int (Int32.ofNat pn)), .val (.ref b4), .val (.ref b121), .val (.ref b199), .unset, .unset] [(.int (1 : Int32)), (.int (Int32.ofNat pn)), (.int (6 : Int32)), (.ref b4)]))
              refine own_callS A340 hx hZ hown (y := (⟨"com/example/indexloom/indexloom/data/DataLineIsEmptyPinLaw", "fine", "([BIIZ)Z"⟩ : MethodName)) (hw _ (List.mem_of_getElem? (i := 142) rfl)) (hw _ (List.mem_of_getElem? (i := 143) rfl)) (hw _ (List.mem_of_getElem? (i := 4) rfl)) (hw _ (List.mem_of_getElem? (i := 144) rfl)) (by decide) (argsL := [(.ref b4), (.int (6 : Int32)), (.int (Int32.ofNat pn)), (.int (1 : Int32))]) (rest := []) (rm24 l Z a0 hw b4 (6 : Int32) (Int32.ofNat pn) (1 : Int32) fb h238 n0 V249 ⟨by decide, by decide⟩) 0 (by decide) (by decide) rfl (by rw [hml]; rfl) (lenOf pd___BIIZ_Z rfl) rfl (by show 2 * 0 + _ ≤ _; exact Nat.le_of_eq rfl) (hb hby at_196) (by decide) (by decide) (fun v348 T345 h347 A346 hQ349 => ?_)
              obtain ⟨rfl, rfl⟩ := hQ349
              show own_Go _ _ _ _ (T345.setTop (mkF m 199 #[.val (.int p0), .val (.int p1), .val (.int p2), .val (.int (Int32.ofNat pn)), .val (.ref b4), .val (.ref b121), .val (.ref b199), .unset, .unset] [(.int (f24 (6 : Int32) (Int32.ofNat pn) (1 : Int32) fb))]))
              have mg350 : ∀ t_, Steps p.tables e below (T345.setTop (mkF m 207 #[.val (.int p0), .val (.int p1), .val (.int p2), .val (.int (Int32.ofNat pn)), .val (.ref b4), .val (.ref b121), .val (.ref b199), .unset, .unset] [(.int (if (f24 (6 : Int32) (Int32.ofNat pn) (1 : Int32) fb) = (0 : Int32) then (0 : Int32) else (1 : Int32)))])) t_ → Steps p.tables e below (T345.setTop (mkF m 199 #[.val (.int p0), .val (.int p1), .val (.int p2), .val (.int (Int32.ofNat pn)), .val (.ref b4), .val (.ref b121), .val (.ref b199), .unset, .unset] [(.int (f24 (6 : Int32) (Int32.ofNat pn) (1 : Int32) fb))])) t_ := by
                intro t_ k_
                by_cases hm199_0 : (f24 (6 : Int32) (Int32.ofNat pn) (1 : Int32) fb) = (0 : Int32)
                ·
                  simp only [if_pos hm199_0] at k_
                  exact (XS.ifYes A346.here hx rfl (pc0 := 199) (pc' := 206) rfl (hb hby at_199) rfl ((if0 _ _).trans (teq hm199_0).1) (by decide) (by decide) (XS.iconst A346.here hx rfl (hb hby at_206) k_))
                ·
                  simp only [if_neg hm199_0] at k_
                  exact (XS.ifNo A346.here hx rfl (hb hby at_199) rfl ((if0 _ _).trans (feq hm199_0).1) (XS.iconst A346.here hx rfl (hb hby at_202) (XS.goto A346.here hx rfl (pc0 := 203) (pc' := 207) rfl (hb hby at_203) (by decide) (by decide) k_)))
              refine own_go mg350 ?_
              show own_Go _ _ _ _ (T345.setTop (mkF m 207 #[.val (.int p0), .val (.int p1), .val (.int p2), .val (.int (Int32.ofNat pn)), .val (.ref b4), .val (.ref b121), .val (.ref b199), .unset, .unset] [(.int (if (f24 (6 : Int32) (Int32.ofNat pn) (1 : Int32) fb) = (0 : Int32) then (0 : Int32) else (1 : Int32)))]))
              exact tA _ _ (by rw [own_and7, if_neg hc314, if_neg hc320, if_neg hc326, if_neg hc332, if_neg hc338, if_neg hc344]) A346
set_option maxRecDepth 65536 in
set_option maxHeartbeats 40000000 in
theorem comes_1 {Post : Tables → Env → Array Value → State → Outcome → State → Prop} (hpost : ∀ tb e args s v u, (limb_1_1.after args s (.returned v) u = true ∧ limb_1_2.after args s (.returned v) u = true ∧ True) → ReturnedEndW s (.returned v) u (Jvm.fieldLocs frame_1_writes args s ++ Jvm.arrayLocs frame_1_arrays args s ++ Jvm.staticLocs frame_1_statics s) 40 2240 → Post tb e args s (.returned v) u) :
    ArmFor flags0 classFile x code maxLocals ret World_1 tables_1 room_1 Calls_1 rest_1 Pre_1 Post := by
  intro l hfl _ _ p e ha hc hk s m args below hf hA hF happ hP
  obtain ⟨hcalls, hrest, hpre⟩ := hP
  obtain ⟨-, -, -, hnamed, -, -, -, hat⟩ := (Spec.applies_iff hf).mp happ
  obtain ⟨hg, hn⟩ := and_e (Cond.before_iff.mp (show (Jvm.Cond.and given_1 narrow_1).before args s = true from hpre))
  obtain ⟨gc, gr⟩ := and_e hg
  obtain ⟨w0, w1, w2, rfl⟩ : ∃ w0 w1 w2 : Value, args = #[w0, w1, w2] := by
    have hs : args.size = 3 := by simpa [Cond.value, given_1] using gc
    obtain ⟨L⟩ := args
    match L, hs with
    | [w0, w1, w2], _ => exact ⟨w0, w1, w2, rfl⟩
  have hw := fun d (hd : d ∈ tables_1) => atoms_spec (ws := Jvm.Cond.code x code maxLocals ret :: tables_1) hat d (List.mem_cons_of_mem _ hd)
  have hfit : Fit s := fun {y c} hc i hi => by
    obtain ⟨ha, rfl⟩ := Array.getElem?_eq_some_iff.mp hc
    have q := List.all_eq_true.mp ((Array.all_eq_true_iff_forall_mem.mp hF) _ (Array.getElem_mem ha)) i (List.mem_range.mpr hi)
    simpa [Array.getElem?_eq_getElem hi] using q
  obtain ⟨q0, gr0⟩ := and_e gr
  obtain ⟨i0, ei0⟩ := is_v q0
  obtain rfl : w0 = (.int i0) := Option.some.inj ei0
  obtain ⟨q1, gr1⟩ := and_e gr0
  obtain ⟨i1, ei1⟩ := is_v q1
  obtain rfl : w1 = (.int i1) := Option.some.inj ei1
  obtain ⟨i2, ei2⟩ := is_v gr1
  obtain rfl : w2 = (.int i2) := Option.some.inj ei2
  obtain ⟨hsets, hown0⟩ := atoms_of _ (rest_1_c_eq ▸ (show rest_1_c.before _ s = true from hrest))
  obtain ⟨u8, ev8⟩ := exa_v (Cond.before_iff.mp (hsets _ (List.mem_of_getElem? (i := 5) rfl)))
  have E8 : Exa s s.heap u8 "sun/nio/cs/UTF_8" := Exa.start ev8 (Cond.before_iff.mp (hsets _ (List.mem_of_getElem? (i := 5) rfl)))
  have S_UTF_8 : Sta s s.heap "java/nio/charset/StandardCharsets" "UTF_8" "Ljava/nio/charset/Charset;" (.ref u8) := Sta.start ev8 (Or.inl (hsets _ (List.mem_of_getElem? (i := 1) rfl)))
  obtain ⟨u9, ev9⟩ := exa_v (Cond.before_iff.mp (hsets _ (List.mem_of_getElem? (i := 17) rfl)))
  obtain rfl : u9 = u8 := Value.ref.inj (Option.some.inj ((own_eqV (Cond.before_iff.mp (hsets _ (List.mem_of_getElem? (i := 4) rfl))) ev9).symm.trans ev8))
  have S_INSTANCE : Sta s s.heap "sun/nio/cs/UTF_8" "INSTANCE" "Lsun/nio/cs/UTF_8;" (.ref u9) := Sta.start ev9 (Or.inl (hsets _ (List.mem_of_getElem? (i := 3) rfl)))
  obtain ⟨z_C, e_C⟩ := is_v (Cond.before_iff.mp (hsets _ (List.mem_of_getElem? (i := 7) rfl)))
  have S_COMPACT_STRINGS : Sta s s.heap "java/lang/String" "COMPACT_STRINGS" "Z" (.int z_C) := Sta.start e_C (Or.inl (hsets _ (List.mem_of_getElem? (i := 6) rfl)))
  have hcw : Jvm.Lit.compactW.before _ s = true := (hsets _ (List.mem_of_getElem? (i := 8) rfl))
  have hz : ¬ (z_C = (0 : Int32)) := gotF (Cond.eq_ints e_C (Term.int_eval (0))) (not_v (Cond.before_iff.mp (hsets _ (List.mem_of_getElem? (i := 8) rfl))))
  obtain ⟨s_F, e_F, hr_F⟩ := isR_v (Cond.before_iff.mp (hsets _ (List.mem_of_getElem? (i := 14) rfl)))
  have S_SIOOBE_FORMATTER : Sta s s.heap "jdk/internal/util/Preconditions" "SIOOBE_FORMATTER" "Ljava/util/function/BiFunction;" s_F := Sta.start e_F (Or.inl (hsets _ (List.mem_of_getElem? (i := 13) rfl)))
  obtain ⟨n, o, h1, h2, h3, _, L, rfl, ⟨⟨rfl, hQ⟩, N⟩, hq⟩ := rm0 l s _ hw i0 i1 i2 u9 z_C s_F s.heap s.heap.size (Old.start s) (Nat.le_refl _) hcw hcalls.1 (Nat.le_refl _) hz hr_F E8 S_UTF_8 S_INSTANCE S_COMPACT_STRINGS S_SIOOBE_FORMATTER tables_1 p e ha hc hk s m _ below hf ((Spec.applies_iff_loose hf).mp happ).1 ⟨rfl, State.Warmed39.refl s, rfl, IB.start⟩ trivial
  refine ⟨n, _, h1, h2, h3, hpost _ _ _ _ _ _ ⟨Cond.after_iff.mpr rfl, Cond.after_iff.mpr (eq_i res_at (Term.int_eval (1)) rfl), trivial⟩ ⟨hq.1, hq.2.1, hq.2.2.1, (hq.2.2.2.sift fun y hy => Or.inr (N y hy)).mono (by decide) (by decide)⟩⟩
theorem main_1_1 : Claimed_1_1 := comes_1 fun _ _ _ _ _ _ h hF => ⟨h.1, hF⟩
theorem main_1_2 : Claimed_1_2 := comes_1 fun _ _ _ _ _ _ h hF => ⟨h.2.1, hF⟩
end Jvm.Pilot.@@N@@
namespace Jvm.Pilot.@@N@@
open Jvm Jvm.ClassFile Sem Op Lib Jvm.Free Jvm.Stand Jvm.Pilot.@@N@@.Jvm.D
/-! MADE BY PROGRAM (witnessworld.py) out of the Statement's table words and the real class files: 29 classes; the members and pool entries that the words name. The judged class is class 1, her method 4. -/
namespace start1
open Jvm.ClassFile
def u (s : String) : CpInfo := .utf8 (stringToUtf16 s)
/-- a pool by its gaps: so many unusable entries, then the entry; so many at the end -/
def gap : Nat → List CpInfo → List CpInfo
  | 0, r => r
  | n + 1, r => .unusable :: gap n r
def poolList (es : List (Nat × CpInfo)) (last : Nat) : List CpInfo := es.foldr (fun e r => gap e.1 (e.2 :: r)) (gap last [])
def pool (es : List (Nat × CpInfo)) (last : Nat) : Array CpInfo := ⟨poolList es last⟩
def fileOf (pool : Array CpInfo) (this : Nat) (attrs : Array Attribute := #[]) (ms : Array MethodInfo := #[]) (fl : Nat := 33) (sup : Nat := 0) (ifs : Array Nat := #[]) (fds : Array FieldInfo := #[]) : ClassFile where
  minorVersion := 0
  majorVersion := 65
  constantPool := pool
  accessFlags := fl
  thisClass := this
  superClass := sup
  interfaces := ifs
  fields := fds
  methods := ms
  attributes := attrs
def plain (name : String) (sup : Option ClassId) : Class where
  name := name
  kind := .ordinary
  loader := none
  accessFlags := 33
  super := sup
  interfaces := #[]
  cf := none
  fields := #[]
  methods := #[]
  instanceTypes := #[]
  staticTypes := #[]
  resolved := #[]
  callSites := []
  init := .initialized
  statics := none
  mirror := none

def pool0 : Array CpInfo := pool [(5, u "<init>"), (0, u "()V"), (1, .class_ 10), (1, u "java/lang/Object"), (85, u "clone"), (0, u "()Ljava/lang/Object;")] 26

def k0c0 : Code := { maxStack := 0, maxLocals := 1, code := object_method_1_code, exceptionTable := #[], attributes := #[] }
def k0m0 : Method := { name := "<init>", desc := "()V", sig := { parameters := [], returnType := none }, accessFlags := 1, code := some k0c0 }
def k0m1 : Method := { name := "clone", desc := "()Ljava/lang/Object;", sig := { parameters := [], returnType := some (.object "java/lang/Object") }, accessFlags := 260, code := none }
/-- java/lang/Object -/
def k0 : Class := { plain "java/lang/Object" none with
  accessFlags := 33
  interfaces := #[]
  cf := some (fileOf pool0 8 #[] #[{ accessFlags := 1, nameIndex := 5, descriptorIndex := 6, attributes := #[] }, { accessFlags := 260, nameIndex := 96, descriptorIndex := 97, attributes := #[] }] 33 0 #[] #[])
  fields := #[]
  methods := #[k0m0, k0m1]
  instanceTypes := #[]
  staticTypes := #[]
  resolved := Array.replicate 124 none
  statics := none }

def pool1 : Array CpInfo := pool [(2, .class_ 4), (1, u "java/lang/Object"), (0, u "<init>"), (0, u "()V"), (0, .methodref 8 9), (0, .class_ 10), (0, .nameAndType 11 12), (0, u "com/example/indexloom/indexloom/data/DataLineIsEmptyPinLaw"), (0, u "blank"), (0, u "(B)Z"), (0, .integer 2147483647), (0, .methodref 8 15), (0, .nameAndType 16 17), (0, u "pick"), (0, u "(II)B"), (0, .class_ 19), (0, u "com/example/indexloom/indexloom/data/DataHeader"), (0, .string 21), (0, u "f"), (0, .string 23), (0, u "a,b"), (0, .methodref 18 25), (0, .nameAndType 5 26), (0, u "(Ljava/lang/String;Ljava/lang/String;)V"), (0, .class_ 28), (0, u "com/example/indexloom/indexloom/data/DataLine"), (0, .methodref 27 30), (0, .nameAndType 5 31), (0, u "(Lcom/example/indexloom/indexloom/data/DataHeader;)V"), (0, .methodref 27 33), (0, .nameAndType 34 35), (0, u "set"), (0, u "(I[BII)V"), (0, .methodref 8 37), (0, .nameAndType 38 39), (0, u "fine"), (0, u "([BIIZ)Z"), (0, .methodref 27 41), (0, .nameAndType 42 43), (0, u "isEmpty"), (0, u "(I)Z"), (3, u "law"), (0, u "(III)Z")] 7

def k1m0 : Method := { name := "<init>", desc := "()V", sig := { parameters := [], returnType := none }, accessFlags := 1, code := none }
def k1c1 : Code := { maxStack := 2, maxLocals := 3, code := method_2_code, exceptionTable := #[], attributes := #[] }
def k1m1 : Method := { name := "pick", desc := "(II)B", sig := { parameters := [.int, .int], returnType := some .byte }, accessFlags := 10, code := some k1c1 }
def k1c2 : Code := { maxStack := 2, maxLocals := 1, code := method_3_code, exceptionTable := #[], attributes := #[] }
def k1m2 : Method := { name := "blank", desc := "(B)Z", sig := { parameters := [.byte], returnType := some .boolean }, accessFlags := 10, code := some k1c2 }
def k1c3 : Code := { maxStack := 2, maxLocals := 5, code := method_4_code, exceptionTable := #[], attributes := #[] }
def k1m3 : Method := { name := "fine", desc := "([BIIZ)Z", sig := { parameters := [(.array .byte), .int, .int, .boolean], returnType := some .boolean }, accessFlags := 10, code := some k1c3 }
def k1c4 : Code := { maxStack := 5, maxLocals := 9, code := code, exceptionTable := #[], attributes := #[] }
def k1m4 : Method := { name := "law", desc := "(III)Z", sig := { parameters := [.int, .int, .int], returnType := some .boolean }, accessFlags := 9, code := some k1c4 }
/-- com/example/indexloom/indexloom/data/DataLineIsEmptyPinLaw -/
def k1 : Class := { plain "com/example/indexloom/indexloom/data/DataLineIsEmptyPinLaw" (some 0) with
  accessFlags := 49
  interfaces := #[]
  cf := some (fileOf pool1 8 #[] #[{ accessFlags := 1, nameIndex := 5, descriptorIndex := 6, attributes := #[] }, { accessFlags := 10, nameIndex := 16, descriptorIndex := 17, attributes := #[] }, { accessFlags := 10, nameIndex := 11, descriptorIndex := 12, attributes := #[] }, { accessFlags := 10, nameIndex := 38, descriptorIndex := 39, attributes := #[] }, { accessFlags := 9, nameIndex := 47, descriptorIndex := 48, attributes := #[] }] 49 2 #[] #[])
  fields := #[]
  methods := #[k1m0, k1m1, k1m2, k1m3, k1m4]
  instanceTypes := #[]
  staticTypes := #[]
  resolved := Array.replicate 56 none
  statics := none }

def pool2 : Array CpInfo := pool [(1, .methodref 2 3), (0, .class_ 4), (0, .nameAndType 5 6), (0, u "java/lang/Object"), (0, u "<init>"), (0, u "()V"), (0, .fieldref 8 9), (0, .class_ 10), (0, .nameAndType 11 12), (0, u "java/nio/charset/StandardCharsets"), (0, u "UTF_8"), (0, u "Ljava/nio/charset/Charset;"), (0, .methodref 14 15), (0, .class_ 16), (0, .nameAndType 17 18), (0, u "java/lang/String"), (0, u "getBytes"), (0, u "(Ljava/nio/charset/Charset;)[B"), (0, .methodref 20 21), (0, .class_ 22), (0, .nameAndType 23 24), (0, u "com/example/indexloom/indexloom/data/DataHeader"), (0, u "split"), (0, u "([BII[I)I"), (0, .fieldref 20 26), (0, .nameAndType 27 28), (0, u "file"), (0, u "Ljava/lang/String;"), (0, .fieldref 20 30), (0, .nameAndType 31 32), (0, u "names"), (0, u "[Ljava/lang/String;"), (0, .methodref 14 34), (0, .nameAndType 5 35), (0, u "([BIILjava/nio/charset/Charset;)V"), (52, .methodref 20 89), (0, .nameAndType 90 91), (0, u "isBlank"), (0, u "(B)Z"), (0, u "(Ljava/lang/String;Ljava/lang/String;)V"), (9, u "size"), (0, u "()I")] 34

def k2c0 : Code := { maxStack := 10, maxLocals := 6, code := prog_13_method_1_code, exceptionTable := #[], attributes := #[] }
def k2m0 : Method := { name := "<init>", desc := "(Ljava/lang/String;Ljava/lang/String;)V", sig := { parameters := [(.object "java/lang/String"), (.object "java/lang/String")], returnType := none }, accessFlags := 1, code := some k2c0 }
def k2c1 : Code := { maxStack := 1, maxLocals := 1, code := prog_13_method_3_code, exceptionTable := #[], attributes := #[] }
def k2m1 : Method := { name := "size", desc := "()I", sig := { parameters := [], returnType := some .int }, accessFlags := 1, code := some k2c1 }
def k2c2 : Code := { maxStack := 3, maxLocals := 10, code := prog_13_method_11_code, exceptionTable := #[], attributes := #[] }
def k2m2 : Method := { name := "split", desc := "([BII[I)I", sig := { parameters := [(.array .byte), .int, .int, (.array .int)], returnType := some .int }, accessFlags := 8, code := some k2c2 }
def k2c3 : Code := { maxStack := 2, maxLocals := 1, code := prog_13_method_12_code, exceptionTable := #[], attributes := #[] }
def k2m3 : Method := { name := "isBlank", desc := "(B)Z", sig := { parameters := [.byte], returnType := some .boolean }, accessFlags := 10, code := some k2c3 }
/-- com/example/indexloom/indexloom/data/DataHeader -/
def k2 : Class := { plain "com/example/indexloom/indexloom/data/DataHeader" (some 0) with
  accessFlags := 49
  interfaces := #[]
  cf := some (fileOf pool2 20 #[] #[{ accessFlags := 1, nameIndex := 5, descriptorIndex := 92, attributes := #[] }, { accessFlags := 1, nameIndex := 102, descriptorIndex := 103, attributes := #[] }, { accessFlags := 8, nameIndex := 23, descriptorIndex := 24, attributes := #[] }, { accessFlags := 10, nameIndex := 90, descriptorIndex := 91, attributes := #[] }] 49 2 #[] #[{ accessFlags := 18, nameIndex := 27, descriptorIndex := 28, attributes := #[] }, { accessFlags := 18, nameIndex := 31, descriptorIndex := 32, attributes := #[] }])
  fields := #[{ name := "file", type := (.object "java/lang/String"), accessFlags := 18, slot := 0, constantValue := 0 }, { name := "names", type := (.array (.object "java/lang/String")), accessFlags := 18, slot := 1, constantValue := 0 }]
  methods := #[k2m0, k2m1, k2m2, k2m3]
  instanceTypes := #[(.object "java/lang/String"), (.array (.object "java/lang/String"))]
  staticTypes := #[]
  resolved := Array.replicate 138 none
  statics := none }

def pool3 : Array CpInfo := pool [(1, .class_ 2), (0, u "java/io/Serializable"), (0, .class_ 4), (0, u "java/lang/Object")] 2

/-- java/io/Serializable -/
def k3 : Class := { plain "java/io/Serializable" (some 0) with
  accessFlags := 1537
  interfaces := #[]
  cf := some (fileOf pool3 1 #[] #[] 1537 3 #[] #[])
  fields := #[]
  methods := #[]
  instanceTypes := #[]
  staticTypes := #[]
  resolved := Array.replicate 7 none
  statics := none }

def pool4 : Array CpInfo := pool [(1, .class_ 2), (0, u "java/lang/Comparable"), (0, .class_ 4), (0, u "java/lang/Object")] 7

/-- java/lang/Comparable -/
def k4 : Class := { plain "java/lang/Comparable" (some 0) with
  accessFlags := 1537
  interfaces := #[]
  cf := some (fileOf pool4 1 #[] #[] 1537 3 #[] #[])
  fields := #[]
  methods := #[]
  instanceTypes := #[]
  staticTypes := #[]
  resolved := Array.replicate 12 none
  statics := none }

def pool5 : Array CpInfo := pool [(2, .class_ 4), (1, u "java/lang/CharSequence"), (42, .class_ 48), (0, u "java/lang/CharSequence$1CodePointIterator"), (10, .class_ 60), (0, u "java/lang/CharSequence$1CharIterator"), (5, .class_ 67), (0, u "java/lang/Object")] 63

/-- java/lang/CharSequence -/
def k5 : Class := { plain "java/lang/CharSequence" (some 0) with
  accessFlags := 1537
  interfaces := #[]
  cf := some (fileOf pool5 2 #[.nestMembers #[47, 59]] #[] 1537 66 #[] #[])
  fields := #[]
  methods := #[]
  instanceTypes := #[]
  staticTypes := #[]
  resolved := Array.replicate 131 none
  statics := none }

def pool6 : Array CpInfo := pool [(1, .class_ 2), (0, u "java/lang/constant/Constable"), (0, .class_ 4), (0, u "java/lang/Object")] 6

/-- java/lang/constant/Constable -/
def k6 : Class := { plain "java/lang/constant/Constable" (some 0) with
  accessFlags := 1537
  interfaces := #[]
  cf := some (fileOf pool6 1 #[] #[] 1537 3 #[] #[])
  fields := #[]
  methods := #[]
  instanceTypes := #[]
  staticTypes := #[]
  resolved := Array.replicate 11 none
  statics := none }

def pool7 : Array CpInfo := pool [(1, .class_ 2), (0, u "java/lang/constant/ConstantDesc"), (0, .class_ 4), (0, u "java/lang/Object")] 32

/-- java/lang/constant/ConstantDesc -/
def k7 : Class := { plain "java/lang/constant/ConstantDesc" (some 0) with
  accessFlags := 1537
  interfaces := #[]
  cf := some (fileOf pool7 1 #[] #[] 1537 3 #[] #[])
  fields := #[]
  methods := #[]
  instanceTypes := #[]
  staticTypes := #[]
  resolved := Array.replicate 37 none
  statics := none }

def pool8 : Array CpInfo := pool [(1, .methodref 2 3), (0, .class_ 4), (0, .nameAndType 5 6), (0, u "java/lang/Object"), (0, u "<init>"), (0, u "()V"), (2, .fieldref 10 11), (0, .class_ 12), (0, .nameAndType 13 14), (0, u "java/lang/String"), (0, u "value"), (0, u "[B"), (0, .fieldref 10 16), (0, .nameAndType 17 18), (0, u "coder"), (0, u "B"), (2, u "hash"), (0, u "I"), (2, u "hashIsZero"), (0, u "Z"), (7, .methodref 10 35), (0, .nameAndType 36 37), (0, u "checkBoundsOffCount"), (0, u "(III)I"), (0, .fieldref 10 39), (0, .nameAndType 40 26), (0, u "COMPACT_STRINGS"), (13, .methodref 55 56), (0, .class_ 57), (0, .nameAndType 58 59), (0, u "java/util/Arrays"), (0, u "copyOfRange"), (0, u "([BII)[B"), (15, .methodref 10 76), (0, .nameAndType 5 77), (0, u "(Ljava/nio/charset/Charset;[BII)V"), (0, .methodref 79 80), (0, .class_ 81), (0, .nameAndType 82 83), (0, u "java/util/Objects"), (0, u "requireNonNull"), (0, u "(Ljava/lang/Object;)Ljava/lang/Object;"), (0, .class_ 85), (0, u "java/nio/charset/Charset"), (0, .fieldref 87 88), (0, .class_ 89), (0, .nameAndType 90 91), (0, u "sun/nio/cs/UTF_8"), (0, u "INSTANCE"), (0, u "Lsun/nio/cs/UTF_8;"), (0, .methodref 93 94), (0, .class_ 95), (0, .nameAndType 96 97), (0, u "java/lang/StringCoding"), (0, u "countPositives"), (0, u "([BII)I"), (30, .methodref 93 129), (0, .nameAndType 130 131), (0, u "hasNegatives"), (0, u "([BII)Z"), (106, u "([BIILjava/nio/charset/Charset;)V"), (13, .methodref 10 253), (0, .nameAndType 254 255), (0, u "encodeUTF8"), (0, u "(B[BZ)[B"), (23, .methodref 280 281), (0, .class_ 14), (0, .nameAndType 282 283), (0, u "clone"), (0, u "()Ljava/lang/Object;"), (33, u "encode"), (17, .methodref 10 336), (0, .nameAndType 17 337), (0, u "()B"), (194, u "getBytes"), (2, .methodref 10 536), (0, .nameAndType 317 537), (0, u "(Ljava/nio/charset/Charset;B[B)[B"), (37, .class_ 576), (0, u "java/lang/CharSequence"), (22, u "CASE_INSENSITIVE_ORDER"), (0, u "Ljava/util/Comparator;"), (452, .fieldref 1054 1055), (0, .class_ 1056), (0, .nameAndType 1057 1058), (0, u "jdk/internal/util/Preconditions"), (0, u "SIOOBE_FORMATTER"), (0, u "Ljava/util/function/BiFunction;"), (5, u "(IIILjava/util/function/BiFunction;)I"), (0, .methodref 1054 1066), (0, .nameAndType 1067 1064), (0, u "checkFromIndexSize"), (33, u "serialPersistentFields"), (0, u "[Ljava/io/ObjectStreamField;"), (0, .class_ 1104), (0, u "java/lang/String$CaseInsensitiveComparator"), (1, .class_ 1107), (0, u "java/io/Serializable"), (0, .class_ 1109), (0, u "java/lang/Comparable"), (0, .class_ 1111), (0, u "java/lang/constant/Constable"), (0, .class_ 1113), (0, u "java/lang/constant/ConstantDesc"), (2, u "serialVersionUID"), (0, u "J"), (3, u "REPL"), (0, u "C"), (2, u "LATIN1"), (1, u "UTF16"), (117, u "(Ljava/nio/charset/Charset;)[B")] 205

def k8m0 : Method := { name := "<init>", desc := "()V", sig := { parameters := [], returnType := none }, accessFlags := 1, code := none }
def k8c1 : Code := { maxStack := 6, maxLocals := 5, code := jdk_42_method_10_code, exceptionTable := #[], attributes := #[] }
def k8m1 : Method := { name := "<init>", desc := "([BIILjava/nio/charset/Charset;)V", sig := { parameters := [(.array .byte), .int, .int, (.object "java/nio/charset/Charset")], returnType := none }, accessFlags := 1, code := some k8c1 }
def k8c2 : Code := { maxStack := 6, maxLocals := 11, code := jdk_42_method_11_code, exceptionTable := #[{ startPc := 800, endPc := 813, handlerPc := 816, catchType := 202 }], attributes := #[] }
def k8m2 : Method := { name := "<init>", desc := "(Ljava/nio/charset/Charset;[BII)V", sig := { parameters := [(.object "java/nio/charset/Charset"), (.array .byte), .int, .int], returnType := none }, accessFlags := 2, code := some k8c2 }
def k8c3 : Code := { maxStack := 4, maxLocals := 3, code := jdk_42_method_18_code, exceptionTable := #[], attributes := #[] }
def k8m3 : Method := { name := "encode", desc := "(Ljava/nio/charset/Charset;B[B)[B", sig := { parameters := [(.object "java/nio/charset/Charset"), .byte, (.array .byte)], returnType := some (.array .byte) }, accessFlags := 10, code := some k8c3 }
def k8c4 : Code := { maxStack := 5, maxLocals := 9, code := jdk_42_method_46_code, exceptionTable := #[], attributes := #[] }
def k8m4 : Method := { name := "encodeUTF8", desc := "(B[BZ)[B", sig := { parameters := [.byte, (.array .byte), .boolean], returnType := some (.array .byte) }, accessFlags := 10, code := some k8c4 }
def k8c5 : Code := { maxStack := 3, maxLocals := 2, code := jdk_42_method_64_code, exceptionTable := #[], attributes := #[] }
def k8m5 : Method := { name := "getBytes", desc := "(Ljava/nio/charset/Charset;)[B", sig := { parameters := [(.object "java/nio/charset/Charset")], returnType := some (.array .byte) }, accessFlags := 1, code := some k8c5 }
def k8c6 : Code := { maxStack := 1, maxLocals := 1, code := jdk_42_method_152_code, exceptionTable := #[], attributes := #[] }
def k8m6 : Method := { name := "coder", desc := "()B", sig := { parameters := [], returnType := some .byte }, accessFlags := 0, code := some k8c6 }
def k8c7 : Code := { maxStack := 4, maxLocals := 3, code := jdk_42_method_157_code, exceptionTable := #[], attributes := #[] }
def k8m7 : Method := { name := "checkBoundsOffCount", desc := "(III)I", sig := { parameters := [.int, .int, .int], returnType := some .int }, accessFlags := 8, code := some k8c7 }
/-- java/lang/String -/
def k8 : Class := { plain "java/lang/String" (some 0) with
  accessFlags := 49
  interfaces := #[3, 4, 5, 6, 7]
  cf := some (fileOf pool8 10 #[.nestMembers #[1103]] #[{ accessFlags := 1, nameIndex := 5, descriptorIndex := 6, attributes := #[] }, { accessFlags := 1, nameIndex := 5, descriptorIndex := 238, attributes := #[] }, { accessFlags := 2, nameIndex := 5, descriptorIndex := 77, attributes := #[] }, { accessFlags := 10, nameIndex := 317, descriptorIndex := 537, attributes := #[] }, { accessFlags := 10, nameIndex := 254, descriptorIndex := 255, attributes := #[] }, { accessFlags := 1, nameIndex := 532, descriptorIndex := 1245, attributes := #[] }, { accessFlags := 0, nameIndex := 17, descriptorIndex := 337, attributes := #[] }, { accessFlags := 8, nameIndex := 36, descriptorIndex := 37, attributes := #[] }] 49 2 #[1106, 1108, 575, 1110, 1112] #[{ accessFlags := 18, nameIndex := 13, descriptorIndex := 14, attributes := #[] }, { accessFlags := 18, nameIndex := 17, descriptorIndex := 18, attributes := #[] }, { accessFlags := 2, nameIndex := 21, descriptorIndex := 22, attributes := #[] }, { accessFlags := 2, nameIndex := 25, descriptorIndex := 26, attributes := #[] }, { accessFlags := 26, nameIndex := 1116, descriptorIndex := 1117, attributes := #[] }, { accessFlags := 24, nameIndex := 40, descriptorIndex := 26, attributes := #[] }, { accessFlags := 26, nameIndex := 1101, descriptorIndex := 1102, attributes := #[] }, { accessFlags := 26, nameIndex := 1121, descriptorIndex := 1122, attributes := #[] }, { accessFlags := 25, nameIndex := 599, descriptorIndex := 600, attributes := #[] }, { accessFlags := 24, nameIndex := 1125, descriptorIndex := 18, attributes := #[] }, { accessFlags := 24, nameIndex := 1127, descriptorIndex := 18, attributes := #[] }])
  fields := #[{ name := "value", type := (.array .byte), accessFlags := 18, slot := 0, constantValue := 0 }, { name := "coder", type := .byte, accessFlags := 18, slot := 1, constantValue := 0 }, { name := "hash", type := .int, accessFlags := 2, slot := 2, constantValue := 0 }, { name := "hashIsZero", type := .boolean, accessFlags := 2, slot := 3, constantValue := 0 }, { name := "serialVersionUID", type := .long, accessFlags := 26, slot := 0, constantValue := 0 }, { name := "COMPACT_STRINGS", type := .boolean, accessFlags := 24, slot := 1, constantValue := 0 }, { name := "serialPersistentFields", type := (.array (.object "java/io/ObjectStreamField")), accessFlags := 26, slot := 2, constantValue := 0 }, { name := "REPL", type := .char, accessFlags := 26, slot := 3, constantValue := 0 }, { name := "CASE_INSENSITIVE_ORDER", type := (.object "java/util/Comparator"), accessFlags := 25, slot := 4, constantValue := 0 }, { name := "LATIN1", type := .byte, accessFlags := 24, slot := 5, constantValue := 0 }, { name := "UTF16", type := .byte, accessFlags := 24, slot := 6, constantValue := 0 }]
  methods := #[k8m0, k8m1, k8m2, k8m3, k8m4, k8m5, k8m6, k8m7]
  instanceTypes := #[(.array .byte), .byte, .int, .boolean]
  staticTypes := #[.long, .boolean, (.array (.object "java/io/ObjectStreamField")), .char, (.object "java/util/Comparator"), .byte, .byte]
  resolved := Array.replicate 1451 none
  statics := some 0 }

def pool9 : Array CpInfo := pool [(2, .class_ 4), (1, u "java/lang/Object"), (0, u "<init>"), (0, u "()V"), (14, .class_ 23), (1, u "java/nio/charset/StandardCharsets"), (0, u "US_ASCII"), (0, u "Ljava/nio/charset/Charset;"), (7, u "ISO_8859_1"), (7, u "UTF_8"), (5, u "UTF_16BE"), (5, u "UTF_16LE"), (5, u "UTF_16")] 8

def k9m0 : Method := { name := "<init>", desc := "()V", sig := { parameters := [], returnType := none }, accessFlags := 2, code := none }
/-- java/nio/charset/StandardCharsets -/
def k9 : Class := { plain "java/nio/charset/StandardCharsets" (some 0) with
  accessFlags := 49
  interfaces := #[]
  cf := some (fileOf pool9 21 #[] #[{ accessFlags := 2, nameIndex := 5, descriptorIndex := 6, attributes := #[] }] 49 2 #[] #[{ accessFlags := 25, nameIndex := 24, descriptorIndex := 25, attributes := #[] }, { accessFlags := 25, nameIndex := 33, descriptorIndex := 25, attributes := #[] }, { accessFlags := 25, nameIndex := 41, descriptorIndex := 25, attributes := #[] }, { accessFlags := 25, nameIndex := 47, descriptorIndex := 25, attributes := #[] }, { accessFlags := 25, nameIndex := 53, descriptorIndex := 25, attributes := #[] }, { accessFlags := 25, nameIndex := 59, descriptorIndex := 25, attributes := #[] }])
  fields := #[{ name := "US_ASCII", type := (.object "java/nio/charset/Charset"), accessFlags := 25, slot := 0, constantValue := 0 }, { name := "ISO_8859_1", type := (.object "java/nio/charset/Charset"), accessFlags := 25, slot := 1, constantValue := 0 }, { name := "UTF_8", type := (.object "java/nio/charset/Charset"), accessFlags := 25, slot := 2, constantValue := 0 }, { name := "UTF_16BE", type := (.object "java/nio/charset/Charset"), accessFlags := 25, slot := 3, constantValue := 0 }, { name := "UTF_16LE", type := (.object "java/nio/charset/Charset"), accessFlags := 25, slot := 4, constantValue := 0 }, { name := "UTF_16", type := (.object "java/nio/charset/Charset"), accessFlags := 25, slot := 5, constantValue := 0 }]
  methods := #[k9m0]
  instanceTypes := #[]
  staticTypes := #[(.object "java/nio/charset/Charset"), (.object "java/nio/charset/Charset"), (.object "java/nio/charset/Charset"), (.object "java/nio/charset/Charset"), (.object "java/nio/charset/Charset"), (.object "java/nio/charset/Charset")]
  resolved := Array.replicate 68 none
  statics := some 1 }

def pool10 : Array CpInfo := pool [(18, .class_ 20), (1, u "java/nio/charset/Charset"), (0, u "cache1"), (0, u "[Ljava/lang/Object;"), (2, u "cache2"), (0, .class_ 27), (0, u "java/lang/Object"), (0, .class_ 29), (0, u "java/nio/charset/Charset$1"), (4, .class_ 36), (1, u "java/nio/charset/Charset$ThreadTrackHolder"), (21, .class_ 59), (0, u "java/nio/charset/Charset$2"), (11, .class_ 73), (1, u "java/nio/charset/Charset$ExtendedProviderHolder"), (22, u "standardProvider"), (0, u "Ljava/nio/charset/spi/CharsetProvider;"), (29, u "name"), (7, .class_ 136), (0, u "java/nio/charset/Charset$3"), (5, u "defaultCharset"), (0, u "Ljava/nio/charset/Charset;"), (14, u "zeroAliases"), (0, u "[Ljava/lang/String;"), (29, u "Ljava/lang/String;"), (2, u "aliases"), (2, u "aliasSet"), (0, u "Ljava/util/Set;"), (82, .class_ 280), (0, u "java/lang/Comparable"), (84, .class_ 366), (0, u "java/nio/charset/Charset$ExtendedProviderHolder$1")] 3

/-- java/nio/charset/Charset -/
def k10 : Class := { plain "java/nio/charset/Charset" (some 0) with
  accessFlags := 1057
  interfaces := #[4]
  cf := some (fileOf pool10 18 #[.nestMembers #[71, 365, 34, 135, 58, 28]] #[] 1057 26 #[279] #[{ accessFlags := 26, nameIndex := 96, descriptorIndex := 97, attributes := #[] }, { accessFlags := 26, nameIndex := 158, descriptorIndex := 159, attributes := #[] }, { accessFlags := 74, nameIndex := 21, descriptorIndex := 22, attributes := #[] }, { accessFlags := 74, nameIndex := 25, descriptorIndex := 22, attributes := #[] }, { accessFlags := 10, nameIndex := 142, descriptorIndex := 143, attributes := #[] }, { accessFlags := 18, nameIndex := 127, descriptorIndex := 189, attributes := #[] }, { accessFlags := 18, nameIndex := 192, descriptorIndex := 159, attributes := #[] }, { accessFlags := 2, nameIndex := 195, descriptorIndex := 196, attributes := #[] }])
  fields := #[{ name := "standardProvider", type := (.object "java/nio/charset/spi/CharsetProvider"), accessFlags := 26, slot := 0, constantValue := 0 }, { name := "zeroAliases", type := (.array (.object "java/lang/String")), accessFlags := 26, slot := 1, constantValue := 0 }, { name := "cache1", type := (.array (.object "java/lang/Object")), accessFlags := 74, slot := 2, constantValue := 0 }, { name := "cache2", type := (.array (.object "java/lang/Object")), accessFlags := 74, slot := 3, constantValue := 0 }, { name := "defaultCharset", type := (.object "java/nio/charset/Charset"), accessFlags := 10, slot := 4, constantValue := 0 }, { name := "name", type := (.object "java/lang/String"), accessFlags := 18, slot := 0, constantValue := 0 }, { name := "aliases", type := (.array (.object "java/lang/String")), accessFlags := 18, slot := 1, constantValue := 0 }, { name := "aliasSet", type := (.object "java/util/Set"), accessFlags := 2, slot := 2, constantValue := 0 }]
  methods := #[]
  instanceTypes := #[(.object "java/lang/String"), (.array (.object "java/lang/String")), (.object "java/util/Set")]
  staticTypes := #[(.object "java/nio/charset/spi/CharsetProvider"), (.array (.object "java/lang/String")), (.array (.object "java/lang/Object")), (.array (.object "java/lang/Object")), (.object "java/nio/charset/Charset")]
  resolved := Array.replicate 370 none
  statics := none }

def pool11 : Array CpInfo := pool [(1, .class_ 2), (0, u "sun/nio/cs/HistoricallyNamedCharset"), (0, .class_ 4), (0, u "java/lang/Object")] 4

/-- sun/nio/cs/HistoricallyNamedCharset -/
def k11 : Class := { plain "sun/nio/cs/HistoricallyNamedCharset" (some 0) with
  accessFlags := 1537
  interfaces := #[]
  cf := some (fileOf pool11 1 #[] #[] 1537 3 #[] #[])
  fields := #[]
  methods := #[]
  instanceTypes := #[]
  staticTypes := #[]
  resolved := Array.replicate 9 none
  statics := none }

def pool12 : Array CpInfo := pool [(2, .class_ 4), (1, u "java/nio/charset/Charset"), (130, .class_ 136), (0, u "sun/nio/cs/Unicode"), (0, .class_ 138), (0, u "sun/nio/cs/HistoricallyNamedCharset")] 15

/-- sun/nio/cs/Unicode -/
def k12 : Class := { plain "sun/nio/cs/Unicode" (some 10) with
  accessFlags := 1056
  interfaces := #[11]
  cf := some (fileOf pool12 135 #[] #[] 1056 2 #[137] #[])
  fields := #[]
  methods := #[]
  instanceTypes := #[(.object "java/lang/String"), (.array (.object "java/lang/String")), (.object "java/util/Set")]
  staticTypes := #[]
  resolved := Array.replicate 154 none
  statics := none }

def pool13 : Array CpInfo := pool [(10, .class_ 12), (1, u "sun/nio/cs/Unicode"), (0, u "<init>"), (3, .class_ 18), (0, u "sun/nio/cs/UTF_8$Decoder"), (3, .class_ 23), (0, u "sun/nio/cs/UTF_8$Encoder"), (15, .class_ 40), (0, u "sun/nio/cs/UTF_8"), (2, u "()V"), (2, u "INSTANCE"), (0, u "Lsun/nio/cs/UTF_8;"), (8, u "JLA"), (0, u "Ljdk/internal/access/JavaLangAccess;")] 26

def k13m0 : Method := { name := "<init>", desc := "()V", sig := { parameters := [], returnType := none }, accessFlags := 1, code := none }
/-- sun/nio/cs/UTF_8 -/
def k13 : Class := { plain "sun/nio/cs/UTF_8" (some 12) with
  accessFlags := 49
  interfaces := #[]
  cf := some (fileOf pool13 39 #[.nestMembers #[22, 17]] #[{ accessFlags := 1, nameIndex := 13, descriptorIndex := 43, attributes := #[] }] 49 10 #[] #[{ accessFlags := 25, nameIndex := 46, descriptorIndex := 47, attributes := #[] }, { accessFlags := 26, nameIndex := 56, descriptorIndex := 57, attributes := #[] }])
  fields := #[{ name := "INSTANCE", type := (.object "sun/nio/cs/UTF_8"), accessFlags := 25, slot := 0, constantValue := 0 }, { name := "JLA", type := (.object "jdk/internal/access/JavaLangAccess"), accessFlags := 26, slot := 1, constantValue := 0 }]
  methods := #[k13m0]
  instanceTypes := #[(.object "java/lang/String"), (.array (.object "java/lang/String")), (.object "java/util/Set")]
  staticTypes := #[(.object "sun/nio/cs/UTF_8"), (.object "jdk/internal/access/JavaLangAccess")]
  resolved := Array.replicate 84 none
  statics := some 2 }

def pool14 : Array CpInfo := pool [(2, .class_ 4), (1, u "java/lang/Object"), (0, u "<init>"), (0, u "()V"), (0, .methodref 8 9), (0, .class_ 10), (0, .nameAndType 11 12), (0, u "java/lang/StringCoding"), (0, u "countPositives"), (0, u "([BII)I"), (11, u "hasNegatives"), (0, u "([BII)Z")] 23

def k14m0 : Method := { name := "<init>", desc := "()V", sig := { parameters := [], returnType := none }, accessFlags := 2, code := none }
def k14c1 : Code := { maxStack := 3, maxLocals := 3, code := jdk_123_method_2_code, exceptionTable := #[], attributes := #[] }
def k14m1 : Method := { name := "hasNegatives", desc := "([BII)Z", sig := { parameters := [(.array .byte), .int, .int], returnType := some .boolean }, accessFlags := 9, code := some k14c1 }
def k14c2 : Code := { maxStack := 2, maxLocals := 5, code := jdk_123_method_3_code, exceptionTable := #[], attributes := #[] }
def k14m2 : Method := { name := "countPositives", desc := "([BII)I", sig := { parameters := [(.array .byte), .int, .int], returnType := some .int }, accessFlags := 9, code := some k14c2 }
/-- java/lang/StringCoding -/
def k14 : Class := { plain "java/lang/StringCoding" (some 0) with
  accessFlags := 32
  interfaces := #[]
  cf := some (fileOf pool14 8 #[] #[{ accessFlags := 2, nameIndex := 5, descriptorIndex := 6, attributes := #[] }, { accessFlags := 9, nameIndex := 24, descriptorIndex := 25, attributes := #[] }, { accessFlags := 9, nameIndex := 11, descriptorIndex := 12, attributes := #[] }] 32 2 #[] #[])
  fields := #[]
  methods := #[k14m0, k14m1, k14m2]
  instanceTypes := #[]
  staticTypes := #[]
  resolved := Array.replicate 49 none
  statics := none }

def pool15 : Array CpInfo := pool [(1, .class_ 2), (0, u "java/lang/Cloneable"), (0, .class_ 4), (0, u "java/lang/Object")] 2

/-- java/lang/Cloneable -/
def k15 : Class := { plain "java/lang/Cloneable" (some 0) with
  accessFlags := 1537
  interfaces := #[]
  cf := some (fileOf pool15 1 #[] #[] 1537 3 #[] #[])
  fields := #[]
  methods := #[]
  instanceTypes := #[]
  staticTypes := #[]
  resolved := Array.replicate 7 none
  statics := none }

def pool16 : Array CpInfo := pool [(2, .class_ 4), (1, u "java/lang/Object"), (0, u "<init>"), (0, u "()V"), (35, .class_ 44), (1, u "java/util/Objects"), (0, u "requireNonNull"), (0, u "(Ljava/lang/Object;)Ljava/lang/Object;")] 137

def k16m0 : Method := { name := "<init>", desc := "()V", sig := { parameters := [], returnType := none }, accessFlags := 2, code := none }
def k16c1 : Code := { maxStack := 2, maxLocals := 1, code := jdk_31_method_10_code, exceptionTable := #[], attributes := #[] }
def k16m1 : Method := { name := "requireNonNull", desc := "(Ljava/lang/Object;)Ljava/lang/Object;", sig := { parameters := [(.object "java/lang/Object")], returnType := some (.object "java/lang/Object") }, accessFlags := 9, code := some k16c1 }
/-- java/util/Objects -/
def k16 : Class := { plain "java/util/Objects" (some 0) with
  accessFlags := 49
  interfaces := #[]
  cf := some (fileOf pool16 42 #[] #[{ accessFlags := 2, nameIndex := 5, descriptorIndex := 6, attributes := #[] }, { accessFlags := 9, nameIndex := 45, descriptorIndex := 46, attributes := #[] }] 49 2 #[] #[])
  fields := #[]
  methods := #[k16m0, k16m1]
  instanceTypes := #[]
  staticTypes := #[]
  resolved := Array.replicate 184 none
  statics := none }

def pool17 : Array CpInfo := pool [(2, .class_ 4), (1, u "java/lang/Object"), (0, u "<init>"), (0, u "()V"), (17, .class_ 26), (1, u "jdk/internal/util/Preconditions"), (22, u "checkFromIndexSize"), (5, .class_ 56), (0, u "jdk/internal/util/Preconditions$4"), (57, .class_ 115), (0, u "jdk/internal/util/Preconditions$1"), (7, u "SIOOBE_FORMATTER"), (0, u "Ljava/util/function/BiFunction;"), (0, .class_ 126), (0, u "jdk/internal/util/Preconditions$2"), (3, u "AIOOBE_FORMATTER"), (0, .class_ 132), (0, u "jdk/internal/util/Preconditions$3"), (3, u "IOOBE_FORMATTER"), (46, u "(IIILjava/util/function/BiFunction;)I")] 10

def k17m0 : Method := { name := "<init>", desc := "()V", sig := { parameters := [], returnType := none }, accessFlags := 1, code := none }
def k17c1 : Code := { maxStack := 4, maxLocals := 4, code := jdk_41_method_13_code, exceptionTable := #[], attributes := #[] }
def k17m1 : Method := { name := "checkFromIndexSize", desc := "(IIILjava/util/function/BiFunction;)I", sig := { parameters := [.int, .int, .int, (.object "java/util/function/BiFunction")], returnType := some .int }, accessFlags := 9, code := some k17c1 }
/-- jdk/internal/util/Preconditions -/
def k17 : Class := { plain "jdk/internal/util/Preconditions" (some 0) with
  accessFlags := 33
  interfaces := #[]
  cf := some (fileOf pool17 24 #[.nestMembers #[55, 131, 125, 114]] #[{ accessFlags := 1, nameIndex := 5, descriptorIndex := 6, attributes := #[] }, { accessFlags := 9, nameIndex := 49, descriptorIndex := 183, attributes := #[] }] 33 2 #[] #[{ accessFlags := 25, nameIndex := 123, descriptorIndex := 124, attributes := #[] }, { accessFlags := 25, nameIndex := 130, descriptorIndex := 124, attributes := #[] }, { accessFlags := 25, nameIndex := 136, descriptorIndex := 124, attributes := #[] }])
  fields := #[{ name := "SIOOBE_FORMATTER", type := (.object "java/util/function/BiFunction"), accessFlags := 25, slot := 0, constantValue := 0 }, { name := "AIOOBE_FORMATTER", type := (.object "java/util/function/BiFunction"), accessFlags := 25, slot := 1, constantValue := 0 }, { name := "IOOBE_FORMATTER", type := (.object "java/util/function/BiFunction"), accessFlags := 25, slot := 2, constantValue := 0 }]
  methods := #[k17m0, k17m1]
  instanceTypes := #[]
  staticTypes := #[(.object "java/util/function/BiFunction"), (.object "java/util/function/BiFunction"), (.object "java/util/function/BiFunction")]
  resolved := Array.replicate 194 none
  statics := some 3 }

def pool18 : Array CpInfo := pool [(2, .class_ 4), (1, u "java/lang/Object"), (0, u "<init>"), (0, u "()V"), (7, .class_ 16), (1, u "java/util/Arrays"), (57, .class_ 76), (1, u "java/util/Arrays$NaturalOrder"), (36, .class_ 115), (1, u "java/util/Arrays$LegacyMergeSort"), (1, u "Z"), (21, u "copyOfRange"), (10, .methodref 151 152), (0, .class_ 153), (0, .nameAndType 154 155), (0, u "java/lang/System"), (0, u "arraycopy"), (0, u "(Ljava/lang/Object;ILjava/lang/Object;II)V"), (148, .methodref 305 306), (0, .class_ 307), (0, .nameAndType 308 309), (0, u "java/lang/Math"), (0, u "min"), (0, u "(II)I"), (29, .methodref 14 340), (0, .nameAndType 341 342), (0, u "copyOfRangeByte"), (0, u "([BII)[B"), (0, .methodref 14 344), (0, .nameAndType 345 346), (0, u "checkLength"), (0, u "(II)V"), (28, .class_ 376), (0, u "java/util/Arrays$ArrayList"), (68, u "$assertionsDisabled"), (269, u "MIN_ARRAY_SORT_GRAN"), (0, u "I"), (2, u "INSERTIONSORT_THRESHOLD"), (255, .class_ 976), (0, u "java/util/Arrays$ArrayItr")] 52

def k18m0 : Method := { name := "<init>", desc := "()V", sig := { parameters := [], returnType := none }, accessFlags := 2, code := none }
def k18c1 : Code := { maxStack := 4, maxLocals := 2, code := jdk_65_method_131_code, exceptionTable := #[], attributes := #[] }
def k18m1 : Method := { name := "checkLength", desc := "(II)V", sig := { parameters := [.int, .int], returnType := none }, accessFlags := 10, code := some k18c1 }
def k18c2 : Code := { maxStack := 3, maxLocals := 3, code := jdk_65_method_132_code, exceptionTable := #[], attributes := #[] }
def k18m2 : Method := { name := "copyOfRange", desc := "([BII)[B", sig := { parameters := [(.array .byte), .int, .int], returnType := some (.array .byte) }, accessFlags := 9, code := some k18c2 }
def k18c3 : Code := { maxStack := 6, maxLocals := 5, code := jdk_65_method_133_code, exceptionTable := #[], attributes := #[] }
def k18m3 : Method := { name := "copyOfRangeByte", desc := "([BII)[B", sig := { parameters := [(.array .byte), .int, .int], returnType := some (.array .byte) }, accessFlags := 10, code := some k18c3 }
/-- java/util/Arrays -/
def k18 : Class := { plain "java/util/Arrays" (some 0) with
  accessFlags := 49
  interfaces := #[]
  cf := some (fileOf pool18 14 #[.nestMembers #[975, 375, 113, 74]] #[{ accessFlags := 2, nameIndex := 5, descriptorIndex := 6, attributes := #[] }, { accessFlags := 10, nameIndex := 345, descriptorIndex := 346, attributes := #[] }, { accessFlags := 9, nameIndex := 139, descriptorIndex := 342, attributes := #[] }, { accessFlags := 10, nameIndex := 341, descriptorIndex := 342, attributes := #[] }] 49 2 #[] #[{ accessFlags := 26, nameIndex := 715, descriptorIndex := 716, attributes := #[] }, { accessFlags := 26, nameIndex := 719, descriptorIndex := 716, attributes := #[] }, { accessFlags := 4120, nameIndex := 445, descriptorIndex := 117, attributes := #[] }])
  fields := #[{ name := "MIN_ARRAY_SORT_GRAN", type := .int, accessFlags := 26, slot := 0, constantValue := 0 }, { name := "INSERTIONSORT_THRESHOLD", type := .int, accessFlags := 26, slot := 1, constantValue := 0 }, { name := "$assertionsDisabled", type := .boolean, accessFlags := 4120, slot := 2, constantValue := 0 }]
  methods := #[k18m0, k18m1, k18m2, k18m3]
  instanceTypes := #[]
  staticTypes := #[.int, .int, .boolean]
  resolved := Array.replicate 1029 none
  statics := none }

def pool19 : Array CpInfo := pool [(1, .class_ 2), (0, u "java/lang/Math"), (1, .class_ 6), (1, u "java/lang/Object"), (0, u "<init>"), (0, u "()V"), (89, .class_ 100), (1, u "java/lang/Math$RandomNumberGeneratorHolder"), (71, u "negativeZeroFloatBits"), (0, u "J"), (2, u "negativeZeroDoubleBits"), (24, u "min"), (43, u "$assertionsDisabled"), (0, u "Z"), (88, u "(II)I"), (2, u "twoToTheDoubleScaleDown"), (0, u "D"), (4, u "twoToTheDoubleScaleUp"), (9, u "E"), (3, u "PI"), (2, u "TAU"), (2, u "DEGREES_TO_RADIANS"), (0, u "RADIANS_TO_DEGREES")] 94

def k19m0 : Method := { name := "<init>", desc := "()V", sig := { parameters := [], returnType := none }, accessFlags := 2, code := none }
def k19c1 : Code := { maxStack := 2, maxLocals := 2, code := jdk_29_method_69_code, exceptionTable := #[], attributes := #[] }
def k19m1 : Method := { name := "min", desc := "(II)I", sig := { parameters := [.int, .int], returnType := some .int }, accessFlags := 9, code := some k19c1 }
/-- java/lang/Math -/
def k19 : Class := { plain "java/lang/Math" (some 0) with
  accessFlags := 49
  interfaces := #[]
  cf := some (fileOf pool19 1 #[.nestMembers #[98]] #[{ accessFlags := 2, nameIndex := 7, descriptorIndex := 8, attributes := #[] }, { accessFlags := 9, nameIndex := 201, descriptorIndex := 335, attributes := #[] }] 49 4 #[] #[{ accessFlags := 25, nameIndex := 354, descriptorIndex := 339, attributes := #[] }, { accessFlags := 25, nameIndex := 358, descriptorIndex := 339, attributes := #[] }, { accessFlags := 25, nameIndex := 361, descriptorIndex := 339, attributes := #[] }, { accessFlags := 26, nameIndex := 364, descriptorIndex := 339, attributes := #[] }, { accessFlags := 26, nameIndex := 365, descriptorIndex := 339, attributes := #[] }, { accessFlags := 26, nameIndex := 172, descriptorIndex := 173, attributes := #[] }, { accessFlags := 26, nameIndex := 176, descriptorIndex := 173, attributes := #[] }, { accessFlags := 8, nameIndex := 344, descriptorIndex := 339, attributes := #[] }, { accessFlags := 8, nameIndex := 338, descriptorIndex := 339, attributes := #[] }, { accessFlags := 4120, nameIndex := 245, descriptorIndex := 246, attributes := #[] }])
  fields := #[{ name := "E", type := .double, accessFlags := 25, slot := 0, constantValue := 0 }, { name := "PI", type := .double, accessFlags := 25, slot := 1, constantValue := 0 }, { name := "TAU", type := .double, accessFlags := 25, slot := 2, constantValue := 0 }, { name := "DEGREES_TO_RADIANS", type := .double, accessFlags := 26, slot := 3, constantValue := 0 }, { name := "RADIANS_TO_DEGREES", type := .double, accessFlags := 26, slot := 4, constantValue := 0 }, { name := "negativeZeroFloatBits", type := .long, accessFlags := 26, slot := 5, constantValue := 0 }, { name := "negativeZeroDoubleBits", type := .long, accessFlags := 26, slot := 6, constantValue := 0 }, { name := "twoToTheDoubleScaleUp", type := .double, accessFlags := 8, slot := 7, constantValue := 0 }, { name := "twoToTheDoubleScaleDown", type := .double, accessFlags := 8, slot := 8, constantValue := 0 }, { name := "$assertionsDisabled", type := .boolean, accessFlags := 4120, slot := 9, constantValue := 0 }]
  methods := #[k19m0, k19m1]
  instanceTypes := #[]
  staticTypes := #[.double, .double, .double, .double, .double, .long, .long, .double, .double, .boolean]
  resolved := Array.replicate 460 none
  statics := none }

def pool20 : Array CpInfo := pool [(2, .class_ 4), (1, u "java/lang/Object"), (0, u "<init>"), (0, u "()V"), (1, .class_ 10), (1, u "java/lang/System"), (0, u "allowSecurityManager"), (0, u "I"), (16, u "cons"), (0, u "Ljava/io/Console;"), (77, .class_ 110), (1, u "java/lang/System$CallersHolder"), (43, u "initialErrStream"), (0, u "Ljava/io/PrintStream;"), (19, u "security"), (0, u "Ljava/lang/SecurityManager;"), (31, .class_ 209), (0, u "java/lang/System$1"), (7, u "props"), (0, u "Ljava/util/Properties;"), (2, u "lineSeparator"), (0, u "Ljava/lang/String;"), (96, .class_ 321), (1, u "java/lang/System$LoggerFinder"), (5, .class_ 328), (0, u "java/lang/System$Logger"), (67, u "err"), (2, u "out"), (91, u "notSupportedJnuEncoding"), (15, u "in"), (17, u "initialIn"), (0, u "Ljava/io/InputStream;"), (35, u "bootLayer"), (0, u "Ljava/lang/ModuleLayer;"), (99, .class_ 664), (0, u "java/lang/System$2"), (9, u "NEVER"), (2, u "MAYBE"), (49, u "arraycopy"), (0, u "(Ljava/lang/Object;ILjava/lang/Object;II)V"), (72, .class_ 802), (0, u "java/lang/System$Logger$Level")] 31

def k20m0 : Method := { name := "<init>", desc := "()V", sig := { parameters := [], returnType := none }, accessFlags := 2, code := none }
def k20m1 : Method := { name := "arraycopy", desc := "(Ljava/lang/Object;ILjava/lang/Object;II)V", sig := { parameters := [(.object "java/lang/Object"), .int, (.object "java/lang/Object"), .int, .int], returnType := none }, accessFlags := 265, code := none }
/-- java/lang/System -/
def k20 : Class := { plain "java/lang/System" (some 0) with
  accessFlags := 49
  interfaces := #[]
  cf := some (fileOf pool20 8 #[.nestMembers #[319, 327, 801, 108, 663, 208]] #[{ accessFlags := 2, nameIndex := 5, descriptorIndex := 6, attributes := #[] }, { accessFlags := 265, nameIndex := 727, descriptorIndex := 728, attributes := #[] }] 49 2 #[] #[{ accessFlags := 25, nameIndex := 507, descriptorIndex := 526, attributes := #[] }, { accessFlags := 25, nameIndex := 399, descriptorIndex := 155, attributes := #[] }, { accessFlags := 25, nameIndex := 396, descriptorIndex := 155, attributes := #[] }, { accessFlags := 10, nameIndex := 525, descriptorIndex := 526, attributes := #[] }, { accessFlags := 26, nameIndex := 674, descriptorIndex := 12, attributes := #[] }, { accessFlags := 26, nameIndex := 677, descriptorIndex := 12, attributes := #[] }, { accessFlags := 10, nameIndex := 11, descriptorIndex := 12, attributes := #[] }, { accessFlags := 74, nameIndex := 175, descriptorIndex := 176, attributes := #[] }, { accessFlags := 10, nameIndex := 491, descriptorIndex := 222, attributes := #[] }, { accessFlags := 74, nameIndex := 29, descriptorIndex := 30, attributes := #[] }, { accessFlags := 74, nameIndex := 154, descriptorIndex := 155, attributes := #[] }, { accessFlags := 10, nameIndex := 217, descriptorIndex := 218, attributes := #[] }, { accessFlags := 10, nameIndex := 221, descriptorIndex := 222, attributes := #[] }, { accessFlags := 8, nameIndex := 562, descriptorIndex := 563, attributes := #[] }])
  fields := #[{ name := "in", type := (.object "java/io/InputStream"), accessFlags := 25, slot := 0, constantValue := 0 }, { name := "out", type := (.object "java/io/PrintStream"), accessFlags := 25, slot := 1, constantValue := 0 }, { name := "err", type := (.object "java/io/PrintStream"), accessFlags := 25, slot := 2, constantValue := 0 }, { name := "initialIn", type := (.object "java/io/InputStream"), accessFlags := 10, slot := 3, constantValue := 0 }, { name := "NEVER", type := .int, accessFlags := 26, slot := 4, constantValue := 0 }, { name := "MAYBE", type := .int, accessFlags := 26, slot := 5, constantValue := 0 }, { name := "allowSecurityManager", type := .int, accessFlags := 10, slot := 6, constantValue := 0 }, { name := "security", type := (.object "java/lang/SecurityManager"), accessFlags := 74, slot := 7, constantValue := 0 }, { name := "notSupportedJnuEncoding", type := (.object "java/lang/String"), accessFlags := 10, slot := 8, constantValue := 0 }, { name := "cons", type := (.object "java/io/Console"), accessFlags := 74, slot := 9, constantValue := 0 }, { name := "initialErrStream", type := (.object "java/io/PrintStream"), accessFlags := 74, slot := 10, constantValue := 0 }, { name := "props", type := (.object "java/util/Properties"), accessFlags := 10, slot := 11, constantValue := 0 }, { name := "lineSeparator", type := (.object "java/lang/String"), accessFlags := 10, slot := 12, constantValue := 0 }, { name := "bootLayer", type := (.object "java/lang/ModuleLayer"), accessFlags := 8, slot := 13, constantValue := 0 }]
  methods := #[k20m0, k20m1]
  instanceTypes := #[]
  staticTypes := #[(.object "java/io/InputStream"), (.object "java/io/PrintStream"), (.object "java/io/PrintStream"), (.object "java/io/InputStream"), .int, .int, .int, (.object "java/lang/SecurityManager"), (.object "java/lang/String"), (.object "java/io/Console"), (.object "java/io/PrintStream"), (.object "java/util/Properties"), (.object "java/lang/String"), (.object "java/lang/ModuleLayer")]
  resolved := Array.replicate 834 none
  statics := none }

def pool21 : Array CpInfo := pool [(3, .methodref 4 5), (0, .class_ 6), (0, .nameAndType 7 8), (0, u "java/lang/Object"), (0, u "<init>"), (0, u "()V"), (0, .fieldref 10 11), (0, .class_ 12), (0, .nameAndType 13 14), (0, u "com/example/indexloom/indexloom/data/DataLine"), (0, u "header"), (0, u "Lcom/example/indexloom/indexloom/data/DataHeader;"), (0, .methodref 16 17), (0, .class_ 18), (0, .nameAndType 19 20), (0, u "com/example/indexloom/indexloom/data/DataHeader"), (0, u "size"), (0, u "()I"), (0, .fieldref 10 22), (0, .nameAndType 23 24), (0, u "bounds"), (0, u "[I"), (0, .methodref 16 26), (0, .nameAndType 27 28), (0, u "split"), (0, u "([BII[I)I"), (4, .fieldref 10 34), (0, .nameAndType 35 36), (0, u "number"), (0, u "I"), (0, .fieldref 10 38), (0, .nameAndType 39 40), (0, u "bytes"), (0, u "[B"), (0, .methodref 10 42), (0, .nameAndType 43 44), (0, u "start"), (0, u "(I)I"), (0, .methodref 10 46), (0, .nameAndType 47 44), (0, u "end"), (2, u "isEmpty"), (0, u "(I)Z"), (64, u "DATE"), (0, u "Ljava/lang/String;"), (1, u "DECIMAL"), (0, u "WIDE"), (0, u "J"), (0, u "LONG_DIGITS"), (1, u "(Lcom/example/indexloom/indexloom/data/DataHeader;)V"), (2, u "set"), (0, u "(I[BII)V")] 19

def k21c0 : Code := { maxStack := 3, maxLocals := 2, code := prog_14_method_1_code, exceptionTable := #[], attributes := #[] }
def k21m0 : Method := { name := "<init>", desc := "(Lcom/example/indexloom/indexloom/data/DataHeader;)V", sig := { parameters := [(.object "com/example/indexloom/indexloom/data/DataHeader")], returnType := none }, accessFlags := 0, code := some k21c0 }
def k21c1 : Code := { maxStack := 4, maxLocals := 6, code := prog_14_method_2_code, exceptionTable := #[], attributes := #[] }
def k21m1 : Method := { name := "set", desc := "(I[BII)V", sig := { parameters := [.int, (.array .byte), .int, .int], returnType := none }, accessFlags := 0, code := some k21c1 }
def k21c2 : Code := { maxStack := 3, maxLocals := 2, code := prog_14_method_5_code, exceptionTable := #[], attributes := #[] }
def k21m2 : Method := { name := "isEmpty", desc := "(I)Z", sig := { parameters := [.int], returnType := some .boolean }, accessFlags := 1, code := some k21c2 }
def k21c3 : Code := { maxStack := 3, maxLocals := 2, code := prog_14_method_15_code, exceptionTable := #[], attributes := #[] }
def k21m3 : Method := { name := "start", desc := "(I)I", sig := { parameters := [.int], returnType := some .int }, accessFlags := 2, code := some k21c3 }
def k21c4 : Code := { maxStack := 3, maxLocals := 2, code := prog_14_method_16_code, exceptionTable := #[], attributes := #[] }
def k21m4 : Method := { name := "end", desc := "(I)I", sig := { parameters := [.int], returnType := some .int }, accessFlags := 2, code := some k21c4 }
/-- com/example/indexloom/indexloom/data/DataLine -/
def k21 : Class := { plain "com/example/indexloom/indexloom/data/DataLine" (some 0) with
  accessFlags := 49
  interfaces := #[]
  cf := some (fileOf pool21 10 #[] #[{ accessFlags := 0, nameIndex := 7, descriptorIndex := 124, attributes := #[] }, { accessFlags := 0, nameIndex := 127, descriptorIndex := 128, attributes := #[] }, { accessFlags := 1, nameIndex := 50, descriptorIndex := 51, attributes := #[] }, { accessFlags := 2, nameIndex := 43, descriptorIndex := 44, attributes := #[] }, { accessFlags := 2, nameIndex := 47, descriptorIndex := 44, attributes := #[] }] 49 4 #[] #[{ accessFlags := 26, nameIndex := 116, descriptorIndex := 117, attributes := #[] }, { accessFlags := 26, nameIndex := 119, descriptorIndex := 117, attributes := #[] }, { accessFlags := 24, nameIndex := 120, descriptorIndex := 121, attributes := #[] }, { accessFlags := 26, nameIndex := 122, descriptorIndex := 36, attributes := #[] }, { accessFlags := 18, nameIndex := 13, descriptorIndex := 14, attributes := #[] }, { accessFlags := 18, nameIndex := 23, descriptorIndex := 24, attributes := #[] }, { accessFlags := 2, nameIndex := 35, descriptorIndex := 36, attributes := #[] }, { accessFlags := 2, nameIndex := 39, descriptorIndex := 40, attributes := #[] }])
  fields := #[{ name := "DATE", type := (.object "java/lang/String"), accessFlags := 26, slot := 0, constantValue := 0 }, { name := "DECIMAL", type := (.object "java/lang/String"), accessFlags := 26, slot := 1, constantValue := 0 }, { name := "WIDE", type := .long, accessFlags := 24, slot := 2, constantValue := 0 }, { name := "LONG_DIGITS", type := .int, accessFlags := 26, slot := 3, constantValue := 0 }, { name := "header", type := (.object "com/example/indexloom/indexloom/data/DataHeader"), accessFlags := 18, slot := 0, constantValue := 0 }, { name := "bounds", type := (.array .int), accessFlags := 18, slot := 1, constantValue := 0 }, { name := "number", type := .int, accessFlags := 2, slot := 2, constantValue := 0 }, { name := "bytes", type := (.array .byte), accessFlags := 2, slot := 3, constantValue := 0 }]
  methods := #[k21m0, k21m1, k21m2, k21m3, k21m4]
  instanceTypes := #[(.object "com/example/indexloom/indexloom/data/DataHeader"), (.array .int), .int, (.array .byte)]
  staticTypes := #[(.object "java/lang/String"), (.object "java/lang/String"), .long, .int]
  resolved := Array.replicate 148 none
  statics := none }

def pool22 : Array CpInfo := pool [(4, .class_ 6), (1, u "java/lang/Object"), (0, u "<init>"), (0, u "()V"), (5, .class_ 16), (1, u "java/lang/StringLatin1"), (104, u "$assertionsDisabled"), (0, u "Z"), (98, .class_ 223), (1, u "java/lang/StringLatin1$LinesSpliterator"), (166, .class_ 391), (0, u "java/lang/StringLatin1$CharsSpliterator")] 3

def k22m0 : Method := { name := "<init>", desc := "()V", sig := { parameters := [], returnType := none }, accessFlags := 0, code := none }
/-- java/lang/StringLatin1 -/
def k22 : Class := { plain "java/lang/StringLatin1" (some 0) with
  accessFlags := 48
  interfaces := #[]
  cf := some (fileOf pool22 14 #[.nestMembers #[390, 221]] #[{ accessFlags := 0, nameIndex := 7, descriptorIndex := 8, attributes := #[] }] 48 4 #[] #[{ accessFlags := 4120, nameIndex := 121, descriptorIndex := 122, attributes := #[] }])
  fields := #[{ name := "$assertionsDisabled", type := .boolean, accessFlags := 4120, slot := 0, constantValue := 0 }]
  methods := #[k22m0]
  instanceTypes := #[]
  staticTypes := #[.boolean]
  resolved := Array.replicate 395 none
  statics := none }

def pool23 : Array CpInfo := pool [(9, u "<init>"), (6, .class_ 18), (1, u "java/lang/Object"), (0, u "()V"), (1, .class_ 23), (1, u "jdk/internal/util/ArraysSupport"), (0, u "LOG2_ARRAY_LONG_INDEX_SCALE"), (0, u "I"), (2, u "U"), (0, u "Ljdk/internal/misc/Unsafe;"), (8, u "BIG_ENDIAN"), (0, u "Z"), (8, u "LOG2_BYTE_BIT_SIZE"), (4, u "LOG2_ARRAY_INT_INDEX_SCALE"), (54, u "JLA"), (0, u "Ljdk/internal/access/JavaLangAccess;"), (11, u "LOG2_ARRAY_BOOLEAN_INDEX_SCALE"), (9, u "LOG2_ARRAY_BYTE_INDEX_SCALE"), (5, u "LOG2_ARRAY_CHAR_INDEX_SCALE"), (5, u "LOG2_ARRAY_SHORT_INDEX_SCALE"), (18, u "LOG2_ARRAY_FLOAT_INDEX_SCALE"), (24, u "LOG2_ARRAY_DOUBLE_INDEX_SCALE"), (89, u "T_BOOLEAN"), (2, u "T_CHAR"), (1, u "T_FLOAT"), (1, u "T_DOUBLE"), (1, u "T_BYTE"), (1, u "T_SHORT"), (1, u "T_INT"), (1, u "T_LONG"), (1, u "SOFT_MAX_ARRAY_LENGTH")] 83

def k23m0 : Method := { name := "<init>", desc := "()V", sig := { parameters := [], returnType := none }, accessFlags := 2, code := none }
/-- jdk/internal/util/ArraysSupport -/
def k23 : Class := { plain "jdk/internal/util/ArraysSupport" (some 0) with
  accessFlags := 33
  interfaces := #[]
  cf := some (fileOf pool23 21 #[] #[{ accessFlags := 2, nameIndex := 9, descriptorIndex := 19, attributes := #[] }] 33 16 #[] #[{ accessFlags := 24, nameIndex := 28, descriptorIndex := 29, attributes := #[] }, { accessFlags := 26, nameIndex := 38, descriptorIndex := 39, attributes := #[] }, { accessFlags := 25, nameIndex := 121, descriptorIndex := 25, attributes := #[] }, { accessFlags := 25, nameIndex := 131, descriptorIndex := 25, attributes := #[] }, { accessFlags := 25, nameIndex := 137, descriptorIndex := 25, attributes := #[] }, { accessFlags := 25, nameIndex := 143, descriptorIndex := 25, attributes := #[] }, { accessFlags := 25, nameIndex := 53, descriptorIndex := 25, attributes := #[] }, { accessFlags := 25, nameIndex := 24, descriptorIndex := 25, attributes := #[] }, { accessFlags := 25, nameIndex := 162, descriptorIndex := 25, attributes := #[] }, { accessFlags := 25, nameIndex := 187, descriptorIndex := 25, attributes := #[] }, { accessFlags := 26, nameIndex := 48, descriptorIndex := 25, attributes := #[] }, { accessFlags := 25, nameIndex := 277, descriptorIndex := 25, attributes := #[] }, { accessFlags := 25, nameIndex := 280, descriptorIndex := 25, attributes := #[] }, { accessFlags := 25, nameIndex := 282, descriptorIndex := 25, attributes := #[] }, { accessFlags := 25, nameIndex := 284, descriptorIndex := 25, attributes := #[] }, { accessFlags := 25, nameIndex := 286, descriptorIndex := 25, attributes := #[] }, { accessFlags := 25, nameIndex := 288, descriptorIndex := 25, attributes := #[] }, { accessFlags := 25, nameIndex := 290, descriptorIndex := 25, attributes := #[] }, { accessFlags := 25, nameIndex := 292, descriptorIndex := 25, attributes := #[] }, { accessFlags := 26, nameIndex := 108, descriptorIndex := 109, attributes := #[] }, { accessFlags := 25, nameIndex := 294, descriptorIndex := 25, attributes := #[] }])
  fields := #[{ name := "U", type := (.object "jdk/internal/misc/Unsafe"), accessFlags := 24, slot := 0, constantValue := 0 }, { name := "BIG_ENDIAN", type := .boolean, accessFlags := 26, slot := 1, constantValue := 0 }, { name := "LOG2_ARRAY_BOOLEAN_INDEX_SCALE", type := .int, accessFlags := 25, slot := 2, constantValue := 0 }, { name := "LOG2_ARRAY_BYTE_INDEX_SCALE", type := .int, accessFlags := 25, slot := 3, constantValue := 0 }, { name := "LOG2_ARRAY_CHAR_INDEX_SCALE", type := .int, accessFlags := 25, slot := 4, constantValue := 0 }, { name := "LOG2_ARRAY_SHORT_INDEX_SCALE", type := .int, accessFlags := 25, slot := 5, constantValue := 0 }, { name := "LOG2_ARRAY_INT_INDEX_SCALE", type := .int, accessFlags := 25, slot := 6, constantValue := 0 }, { name := "LOG2_ARRAY_LONG_INDEX_SCALE", type := .int, accessFlags := 25, slot := 7, constantValue := 0 }, { name := "LOG2_ARRAY_FLOAT_INDEX_SCALE", type := .int, accessFlags := 25, slot := 8, constantValue := 0 }, { name := "LOG2_ARRAY_DOUBLE_INDEX_SCALE", type := .int, accessFlags := 25, slot := 9, constantValue := 0 }, { name := "LOG2_BYTE_BIT_SIZE", type := .int, accessFlags := 26, slot := 10, constantValue := 0 }, { name := "T_BOOLEAN", type := .int, accessFlags := 25, slot := 11, constantValue := 0 }, { name := "T_CHAR", type := .int, accessFlags := 25, slot := 12, constantValue := 0 }, { name := "T_FLOAT", type := .int, accessFlags := 25, slot := 13, constantValue := 0 }, { name := "T_DOUBLE", type := .int, accessFlags := 25, slot := 14, constantValue := 0 }, { name := "T_BYTE", type := .int, accessFlags := 25, slot := 15, constantValue := 0 }, { name := "T_SHORT", type := .int, accessFlags := 25, slot := 16, constantValue := 0 }, { name := "T_INT", type := .int, accessFlags := 25, slot := 17, constantValue := 0 }, { name := "T_LONG", type := .int, accessFlags := 25, slot := 18, constantValue := 0 }, { name := "JLA", type := (.object "jdk/internal/access/JavaLangAccess"), accessFlags := 26, slot := 19, constantValue := 0 }, { name := "SOFT_MAX_ARRAY_LENGTH", type := .int, accessFlags := 25, slot := 20, constantValue := 0 }]
  methods := #[k23m0]
  instanceTypes := #[]
  staticTypes := #[(.object "jdk/internal/misc/Unsafe"), .boolean, .int, .int, .int, .int, .int, .int, .int, .int, .int, .int, .int, .int, .int, .int, .int, .int, .int, (.object "jdk/internal/access/JavaLangAccess"), .int]
  resolved := Array.replicate 378 none
  statics := none }

/-- the primitive byte -/
def k24 : Class := { plain "byte" none with kind := .primitive 'B', accessFlags := 0x411 }
/-- [B -/
def k25 : Class := { plain "[B" (some 0) with kind := .array 24 .byte, interfaces := #[15, 3], accessFlags := 1041 }

/-- the primitive int -/
def k26 : Class := { plain "int" none with kind := .primitive 'I', accessFlags := 0x411 }
/-- [I -/
def k27 : Class := { plain "[I" (some 0) with kind := .array 26 .int, interfaces := #[15, 3], accessFlags := 1041 }

/-- [Ljava/lang/String; -/
def k28 : Class := { plain "[Ljava/lang/String;" (some 0) with kind := .array 8 (.object "java/lang/String"), interfaces := #[15, 3], accessFlags := 1041 }

def heap : Heap := #[{ cls := 8, slots := #[.long 0, .int 1, .null, .int 0, .null, .int 0, .int 0], vm := .statics 8 },
  { cls := 9, slots := #[.null, .null, .ref 4, .null, .null, .null], vm := .statics 9 },
  { cls := 13, slots := #[.ref 4, .null], vm := .statics 13 },
  { cls := 17, slots := #[.null, .null, .null], vm := .statics 17 },
  { cls := 13, slots := #[.null, .null, .null], vm := .none }]
def classes : Array Class := #[k0, k1, k2, k3, k4, k5, k6, k7, k8, k9, k10, k11, k12, k13, k14, k15, k16, k17, k18, k19, k20, k21, k22, k23, k24, k25, k26, k27, k28]
def interned : List (Array UInt16 × Addr) := []
def slotsUsed : Nat := 21
def theMethod : MethodId := ⟨1, 4⟩
def args0 : Array Value := #[.int 5, .int 3, .int 7]
def aboutOver (below : List Frame) : State where
  vm := { classes := classes, interned := interned.toArray }
  heap := heap
  slotsUsed := slotsUsed
  threads := #[{ frames := .invoking theMethod args0 :: below }]
def below0 : List Frame := [.native { method := ⟨0, 0⟩, args := #[] }]
def about1 : State := aboutOver below0
def p0 : Program := .bare "" "" ""
def e0 : Env := launch0.env 0 0 0
theorem w_frames : about1.frames = Frame.invoking theMethod args0 :: below0 := rfl
set_option maxRecDepth 65536 in
theorem w_args : argsFit about1.vm theMethod args0 = true := by decide +kernel
set_option maxRecDepth 65536 in
theorem w_heap : heapFits about1 = true := by decide +kernel
set_option maxRecDepth 65536 in
theorem w_runnable : about1.curStatus? = some .runnable := by decide +kernel
set_option maxRecDepth 65536 in
theorem w_alone : about1.alone = true := by decide +kernel
set_option maxRecDepth 65536 in
theorem w_named : about1.methodNamed? x = some theMethod := by decide +kernel
set_option maxRecDepth 65536 in
theorem w_hears : about1.hears theMethod below0 = true := by decide +kernel
set_option maxRecDepth 65536 in
theorem w_ripe : about1.ripe theMethod args0 below0 = true := by decide +kernel
theorem w_running : about1.status = .running := rfl
set_option maxRecDepth 65536 in
theorem w_room : about1.hasRoom e0.platform room_1 = true :=
  launch0.hasRoom_least _ room_1 (by decide +kernel) (by decide +kernel) (by decide +kernel) (by decide +kernel) (by decide +kernel) (by decide +kernel)
theorem allAtoms_all (ts : List Jvm.Cond) (a : Array Jvm.Value) (st : Jvm.State) : (allAtoms ts).before a st = ts.all (fun c => c.before a st) := by
  induction ts with
  | nil => rfl
  | cons c t ih =>
    show (Jvm.Cond.and c (allAtoms t)).before a st = _
    rw [Jvm.Cond.before_and, ih, List.all_cons]
def words1 : List Jvm.Cond := Jvm.Cond.code x code maxLocals ret :: tables_1
/-- a 'code' word, met by the world's own term for the bytes: nothing is compared byte by byte -/
theorem code_word {y : MethodName} {bytes : ByteArray} {mx : Nat} {rt : Option FieldType} {a : Array Value} {s : State} {m : MethodId} {meth : Method} {c : Code} (h1 : s.methodNamed? y = some m) (h2 : s.vm.method? m = some meth) (h3 : meth.code = some c) (h4 : c.code = bytes)
    (h5 : (c.maxLocals == mx && c.exceptionTable.isEmpty && decide (c.maxStack ≤ mostOperands) && decide (meth.sig.returnType = rt) && !meth.locks && decide (parseMethodDescriptor y.desc = some meth.sig)) = true) : (Jvm.Cond.code y bytes mx rt).before a s = true := by
  simp only [Bool.and_eq_true, beq_iff_eq, Bool.not_eq_true', decide_eq_true_eq] at h5
  obtain ⟨⟨⟨⟨⟨g1, g2⟩, g3⟩, g4⟩, g5⟩, g6⟩ := h5
  simp [Cond.before, Cond.holds, Cond.value, h1, h2, h3, h4, g1, g2, g3, g4, g5, g6]
theorem codeWith_word {y : MethodName} {bytes : ByteArray} {mx : Nat} {rt : Option FieldType} {hs : List (Nat × Nat × Nat × Nat)} {a : Array Value} {s : State} {m : MethodId} {meth : Method} {c : Code} (h1 : s.methodNamed? y = some m) (h2 : s.vm.method? m = some meth) (h3 : meth.code = some c) (h4 : c.code = bytes)
    (h5 : (c.maxLocals == mx && decide (c.exceptionTable.toList.map (fun h => (h.startPc, h.endPc, h.handlerPc, h.catchType)) = hs) && decide (c.maxStack ≤ mostOperands) && decide (meth.sig.returnType = rt) && !meth.locks && decide (parseMethodDescriptor y.desc = some meth.sig)) = true) : (Jvm.Cond.codeWith y bytes mx rt hs).before a s = true := by
  simp only [Bool.and_eq_true, beq_iff_eq, Bool.not_eq_true', decide_eq_true_eq] at h5
  obtain ⟨⟨⟨⟨⟨g1, g2⟩, g3⟩, g4⟩, g5⟩, g6⟩ := h5
  subst g2
  simp [Cond.before, Cond.holds, Cond.value, h1, h2, h3, h4, g1, g3, g4, g5, g6]
def isCode : Jvm.Cond → Bool
  | .code _ _ _ _ => true
  | .codeWith _ _ _ _ _ => true
  | _ => false
theorem all_split {L : List Jvm.Cond} {P : Jvm.Cond → Bool} (h1 : L.all (fun c => isCode c || P c) = true) (h2 : ∀ c ∈ L.filter isCode, P c = true) : L.all P = true := by
  refine List.all_eq_true.mpr fun c hc => ?_
  have h := List.all_eq_true.mp h1 c hc
  rcases Bool.eq_false_or_eq_true (isCode c) with hi | hi
  · exact h2 c (List.mem_filter.mpr ⟨hc, hi⟩)
  · simpa [hi] using h
set_option maxRecDepth 65536 in
theorem w_c0 : (Jvm.Cond.code x code maxLocals ret).before args0 about1 = true := code_word (m := ⟨1, 4⟩) (meth := k1m4) (c := k1c4) (by decide +kernel) rfl rfl rfl (by decide +kernel)
set_option maxRecDepth 65536 in
theorem w_c1 : (Jvm.Cond.code ({ cls := "com/example/indexloom/indexloom/data/DataLineIsEmptyPinLaw", name := "pick", desc := "(II)B" } : Jvm.MethodName) method_2_code (3 : Nat) (Option.some Jvm.ClassFile.FieldType.byte)).before args0 about1 = true := code_word (m := ⟨1, 1⟩) (meth := k1m1) (c := k1c1) (by decide +kernel) rfl rfl rfl (by decide +kernel)
set_option maxRecDepth 65536 in
theorem w_c2 : (Jvm.Cond.code ({ cls := "com/example/indexloom/indexloom/data/DataHeader", name := "<init>", desc := "(Ljava/lang/String;Ljava/lang/String;)V" } : Jvm.MethodName) prog_13_method_1_code (6 : Nat) (Option.none : Option Jvm.ClassFile.FieldType)).before args0 about1 = true := code_word (m := ⟨2, 0⟩) (meth := k2m0) (c := k2c0) (by decide +kernel) rfl rfl rfl (by decide +kernel)
set_option maxRecDepth 65536 in
theorem w_c3 : (Jvm.Cond.code ({ cls := "java/lang/Object", name := "<init>", desc := "()V" } : Jvm.MethodName) object_method_1_code (1 : Nat) (Option.none : Option Jvm.ClassFile.FieldType)).before args0 about1 = true := code_word (m := ⟨0, 0⟩) (meth := k0m0) (c := k0c0) (by decide +kernel) rfl rfl rfl (by decide +kernel)
set_option maxRecDepth 65536 in
theorem w_c4 : (Jvm.Cond.code ({ cls := "java/lang/String", name := "getBytes", desc := "(Ljava/nio/charset/Charset;)[B" } : Jvm.MethodName) jdk_42_method_64_code (2 : Nat) (Option.some (Jvm.ClassFile.FieldType.array Jvm.ClassFile.FieldType.byte))).before args0 about1 = true := code_word (m := ⟨8, 5⟩) (meth := k8m5) (c := k8c5) (by decide +kernel) rfl rfl rfl (by decide +kernel)
set_option maxRecDepth 65536 in
theorem w_c5 : (Jvm.Cond.code ({ cls := "java/lang/String", name := "coder", desc := "()B" } : Jvm.MethodName) jdk_42_method_152_code (1 : Nat) (Option.some Jvm.ClassFile.FieldType.byte)).before args0 about1 = true := code_word (m := ⟨8, 6⟩) (meth := k8m6) (c := k8c6) (by decide +kernel) rfl rfl rfl (by decide +kernel)
set_option maxRecDepth 65536 in
theorem w_c6 : (Jvm.Cond.code ({ cls := "java/lang/String", name := "encode", desc := "(Ljava/nio/charset/Charset;B[B)[B" } : Jvm.MethodName) jdk_42_method_18_code (3 : Nat) (Option.some (Jvm.ClassFile.FieldType.array Jvm.ClassFile.FieldType.byte))).before args0 about1 = true := code_word (m := ⟨8, 3⟩) (meth := k8m3) (c := k8c3) (by decide +kernel) rfl rfl rfl (by decide +kernel)
set_option maxRecDepth 65536 in
theorem w_c7 : (Jvm.Cond.code ({ cls := "java/lang/String", name := "encodeUTF8", desc := "(B[BZ)[B" } : Jvm.MethodName) jdk_42_method_46_code (9 : Nat) (Option.some (Jvm.ClassFile.FieldType.array Jvm.ClassFile.FieldType.byte))).before args0 about1 = true := code_word (m := ⟨8, 4⟩) (meth := k8m4) (c := k8c4) (by decide +kernel) rfl rfl rfl (by decide +kernel)
set_option maxRecDepth 65536 in
theorem w_c8 : (Jvm.Cond.code ({ cls := "java/lang/StringCoding", name := "hasNegatives", desc := "([BII)Z" } : Jvm.MethodName) jdk_123_method_2_code (3 : Nat) (Option.some Jvm.ClassFile.FieldType.boolean)).before args0 about1 = true := code_word (m := ⟨14, 1⟩) (meth := k14m1) (c := k14c1) (by decide +kernel) rfl rfl rfl (by decide +kernel)
set_option maxRecDepth 65536 in
theorem w_c9 : (Jvm.Cond.code ({ cls := "java/lang/StringCoding", name := "countPositives", desc := "([BII)I" } : Jvm.MethodName) jdk_123_method_3_code (5 : Nat) (Option.some Jvm.ClassFile.FieldType.int)).before args0 about1 = true := code_word (m := ⟨14, 2⟩) (meth := k14m2) (c := k14c2) (by decide +kernel) rfl rfl rfl (by decide +kernel)
set_option maxRecDepth 65536 in
theorem w_c10 : (Jvm.Cond.code ({ cls := "com/example/indexloom/indexloom/data/DataHeader", name := "split", desc := "([BII[I)I" } : Jvm.MethodName) prog_13_method_11_code (10 : Nat) (Option.some Jvm.ClassFile.FieldType.int)).before args0 about1 = true := code_word (m := ⟨2, 2⟩) (meth := k2m2) (c := k2c2) (by decide +kernel) rfl rfl rfl (by decide +kernel)
set_option maxRecDepth 65536 in
theorem w_c11 : (Jvm.Cond.code ({ cls := "com/example/indexloom/indexloom/data/DataHeader", name := "isBlank", desc := "(B)Z" } : Jvm.MethodName) prog_13_method_12_code (1 : Nat) (Option.some Jvm.ClassFile.FieldType.boolean)).before args0 about1 = true := code_word (m := ⟨2, 3⟩) (meth := k2m3) (c := k2c3) (by decide +kernel) rfl rfl rfl (by decide +kernel)
set_option maxRecDepth 65536 in
theorem w_c12 : (Jvm.Cond.code ({ cls := "java/lang/String", name := "<init>", desc := "([BIILjava/nio/charset/Charset;)V" } : Jvm.MethodName) jdk_42_method_10_code (5 : Nat) (Option.none : Option Jvm.ClassFile.FieldType)).before args0 about1 = true := code_word (m := ⟨8, 1⟩) (meth := k8m1) (c := k8c1) (by decide +kernel) rfl rfl rfl (by decide +kernel)
set_option maxRecDepth 65536 in
theorem w_c13 : (Jvm.Cond.code ({ cls := "java/util/Objects", name := "requireNonNull", desc := "(Ljava/lang/Object;)Ljava/lang/Object;" } : Jvm.MethodName) jdk_31_method_10_code (1 : Nat) (Option.some (Jvm.ClassFile.FieldType.object "java/lang/Object"))).before args0 about1 = true := code_word (m := ⟨16, 1⟩) (meth := k16m1) (c := k16c1) (by decide +kernel) rfl rfl rfl (by decide +kernel)
set_option maxRecDepth 65536 in
theorem w_c14 : (Jvm.Cond.code ({ cls := "java/lang/String", name := "checkBoundsOffCount", desc := "(III)I" } : Jvm.MethodName) jdk_42_method_157_code (3 : Nat) (Option.some Jvm.ClassFile.FieldType.int)).before args0 about1 = true := code_word (m := ⟨8, 7⟩) (meth := k8m7) (c := k8c7) (by decide +kernel) rfl rfl rfl (by decide +kernel)
set_option maxRecDepth 65536 in
theorem w_c15 : (Jvm.Cond.code ({ cls := "jdk/internal/util/Preconditions", name := "checkFromIndexSize", desc := "(IIILjava/util/function/BiFunction;)I" } : Jvm.MethodName) jdk_41_method_13_code (4 : Nat) (Option.some Jvm.ClassFile.FieldType.int)).before args0 about1 = true := code_word (m := ⟨17, 1⟩) (meth := k17m1) (c := k17c1) (by decide +kernel) rfl rfl rfl (by decide +kernel)
set_option maxRecDepth 65536 in
theorem w_c16 : (Jvm.Cond.code ({ cls := "java/util/Arrays", name := "copyOfRange", desc := "([BII)[B" } : Jvm.MethodName) jdk_65_method_132_code (3 : Nat) (Option.some (Jvm.ClassFile.FieldType.array Jvm.ClassFile.FieldType.byte))).before args0 about1 = true := code_word (m := ⟨18, 2⟩) (meth := k18m2) (c := k18c2) (by decide +kernel) rfl rfl rfl (by decide +kernel)
set_option maxRecDepth 65536 in
theorem w_c17 : (Jvm.Cond.code ({ cls := "java/util/Arrays", name := "copyOfRangeByte", desc := "([BII)[B" } : Jvm.MethodName) jdk_65_method_133_code (5 : Nat) (Option.some (Jvm.ClassFile.FieldType.array Jvm.ClassFile.FieldType.byte))).before args0 about1 = true := code_word (m := ⟨18, 3⟩) (meth := k18m3) (c := k18c3) (by decide +kernel) rfl rfl rfl (by decide +kernel)
set_option maxRecDepth 65536 in
theorem w_c18 : (Jvm.Cond.code ({ cls := "java/util/Arrays", name := "checkLength", desc := "(II)V" } : Jvm.MethodName) jdk_65_method_131_code (2 : Nat) (Option.none : Option Jvm.ClassFile.FieldType)).before args0 about1 = true := code_word (m := ⟨18, 1⟩) (meth := k18m1) (c := k18c1) (by decide +kernel) rfl rfl rfl (by decide +kernel)
set_option maxRecDepth 65536 in
theorem w_c19 : (Jvm.Cond.code ({ cls := "java/lang/Math", name := "min", desc := "(II)I" } : Jvm.MethodName) jdk_29_method_69_code (2 : Nat) (Option.some Jvm.ClassFile.FieldType.int)).before args0 about1 = true := code_word (m := ⟨19, 1⟩) (meth := k19m1) (c := k19c1) (by decide +kernel) rfl rfl rfl (by decide +kernel)
set_option maxRecDepth 65536 in
theorem w_c20 : (Jvm.Cond.code ({ cls := "com/example/indexloom/indexloom/data/DataLine", name := "<init>", desc := "(Lcom/example/indexloom/indexloom/data/DataHeader;)V" } : Jvm.MethodName) prog_14_method_1_code (2 : Nat) (Option.none : Option Jvm.ClassFile.FieldType)).before args0 about1 = true := code_word (m := ⟨21, 0⟩) (meth := k21m0) (c := k21c0) (by decide +kernel) rfl rfl rfl (by decide +kernel)
set_option maxRecDepth 65536 in
theorem w_c21 : (Jvm.Cond.code ({ cls := "com/example/indexloom/indexloom/data/DataHeader", name := "size", desc := "()I" } : Jvm.MethodName) prog_13_method_3_code (1 : Nat) (Option.some Jvm.ClassFile.FieldType.int)).before args0 about1 = true := code_word (m := ⟨2, 1⟩) (meth := k2m1) (c := k2c1) (by decide +kernel) rfl rfl rfl (by decide +kernel)
set_option maxRecDepth 65536 in
theorem w_c22 : (Jvm.Cond.code ({ cls := "com/example/indexloom/indexloom/data/DataLine", name := "set", desc := "(I[BII)V" } : Jvm.MethodName) prog_14_method_2_code (6 : Nat) (Option.none : Option Jvm.ClassFile.FieldType)).before args0 about1 = true := code_word (m := ⟨21, 1⟩) (meth := k21m1) (c := k21c1) (by decide +kernel) rfl rfl rfl (by decide +kernel)
set_option maxRecDepth 65536 in
theorem w_c23 : (Jvm.Cond.code ({ cls := "com/example/indexloom/indexloom/data/DataLineIsEmptyPinLaw", name := "fine", desc := "([BIIZ)Z" } : Jvm.MethodName) method_4_code (5 : Nat) (Option.some Jvm.ClassFile.FieldType.boolean)).before args0 about1 = true := code_word (m := ⟨1, 3⟩) (meth := k1m3) (c := k1c3) (by decide +kernel) rfl rfl rfl (by decide +kernel)
set_option maxRecDepth 65536 in
theorem w_c24 : (Jvm.Cond.code ({ cls := "com/example/indexloom/indexloom/data/DataLineIsEmptyPinLaw", name := "blank", desc := "(B)Z" } : Jvm.MethodName) method_3_code (1 : Nat) (Option.some Jvm.ClassFile.FieldType.boolean)).before args0 about1 = true := code_word (m := ⟨1, 2⟩) (meth := k1m2) (c := k1c2) (by decide +kernel) rfl rfl rfl (by decide +kernel)
set_option maxRecDepth 65536 in
theorem w_c25 : (Jvm.Cond.code ({ cls := "com/example/indexloom/indexloom/data/DataLine", name := "isEmpty", desc := "(I)Z" } : Jvm.MethodName) prog_14_method_5_code (2 : Nat) (Option.some Jvm.ClassFile.FieldType.boolean)).before args0 about1 = true := code_word (m := ⟨21, 2⟩) (meth := k21m2) (c := k21c2) (by decide +kernel) rfl rfl rfl (by decide +kernel)
set_option maxRecDepth 65536 in
theorem w_c26 : (Jvm.Cond.code ({ cls := "com/example/indexloom/indexloom/data/DataLine", name := "start", desc := "(I)I" } : Jvm.MethodName) prog_14_method_15_code (2 : Nat) (Option.some Jvm.ClassFile.FieldType.int)).before args0 about1 = true := code_word (m := ⟨21, 3⟩) (meth := k21m3) (c := k21c3) (by decide +kernel) rfl rfl rfl (by decide +kernel)
set_option maxRecDepth 65536 in
theorem w_c27 : (Jvm.Cond.code ({ cls := "com/example/indexloom/indexloom/data/DataLine", name := "end", desc := "(I)I" } : Jvm.MethodName) prog_14_method_16_code (2 : Nat) (Option.some Jvm.ClassFile.FieldType.int)).before args0 about1 = true := code_word (m := ⟨21, 4⟩) (meth := k21m4) (c := k21c4) (by decide +kernel) rfl rfl rfl (by decide +kernel)
set_option maxRecDepth 65536 in
theorem w_h0 : (Jvm.Cond.codeWith ({ cls := "java/lang/String", name := "<init>", desc := "(Ljava/nio/charset/Charset;[BII)V" } : Jvm.MethodName) jdk_42_method_11_code (11 : Nat) (Option.none : Option Jvm.ClassFile.FieldType) [((800 : Nat), (813 : Nat), (816 : Nat), (202 : Nat))]).before args0 about1 = true := codeWith_word (m := ⟨8, 2⟩) (meth := k8m2) (c := k8c2) (by decide +kernel) rfl rfl rfl (by decide +kernel)
def codes1 : List Jvm.Cond := [Jvm.Cond.code x code maxLocals ret, Jvm.Cond.code ({ cls := "com/example/indexloom/indexloom/data/DataLineIsEmptyPinLaw", name := "pick", desc := "(II)B" } : Jvm.MethodName) method_2_code (3 : Nat) (Option.some Jvm.ClassFile.FieldType.byte), Jvm.Cond.code ({ cls := "com/example/indexloom/indexloom/data/DataHeader", name := "<init>", desc := "(Ljava/lang/String;Ljava/lang/String;)V" } : Jvm.MethodName) prog_13_method_1_code (6 : Nat) (Option.none : Option Jvm.ClassFile.FieldType), Jvm.Cond.code ({ cls := "java/lang/Object", name := "<init>", desc := "()V" } : Jvm.MethodName) object_method_1_code (1 : Nat) (Option.none : Option Jvm.ClassFile.FieldType), Jvm.Cond.code ({ cls := "java/lang/String", name := "getBytes", desc := "(Ljava/nio/charset/Charset;)[B" } : Jvm.MethodName) jdk_42_method_64_code (2 : Nat) (Option.some (Jvm.ClassFile.FieldType.array Jvm.ClassFile.FieldType.byte)), Jvm.Cond.code ({ cls := "java/lang/String", name := "coder", desc := "()B" } : Jvm.MethodName) jdk_42_method_152_code (1 : Nat) (Option.some Jvm.ClassFile.FieldType.byte), Jvm.Cond.code ({ cls := "java/lang/String", name := "encode", desc := "(Ljava/nio/charset/Charset;B[B)[B" } : Jvm.MethodName) jdk_42_method_18_code (3 : Nat) (Option.some (Jvm.ClassFile.FieldType.array Jvm.ClassFile.FieldType.byte)), Jvm.Cond.code ({ cls := "java/lang/String", name := "encodeUTF8", desc := "(B[BZ)[B" } : Jvm.MethodName) jdk_42_method_46_code (9 : Nat) (Option.some (Jvm.ClassFile.FieldType.array Jvm.ClassFile.FieldType.byte)), Jvm.Cond.code ({ cls := "java/lang/StringCoding", name := "hasNegatives", desc := "([BII)Z" } : Jvm.MethodName) jdk_123_method_2_code (3 : Nat) (Option.some Jvm.ClassFile.FieldType.boolean), Jvm.Cond.code ({ cls := "java/lang/StringCoding", name := "countPositives", desc := "([BII)I" } : Jvm.MethodName) jdk_123_method_3_code (5 : Nat) (Option.some Jvm.ClassFile.FieldType.int), Jvm.Cond.code ({ cls := "com/example/indexloom/indexloom/data/DataHeader", name := "split", desc := "([BII[I)I" } : Jvm.MethodName) prog_13_method_11_code (10 : Nat) (Option.some Jvm.ClassFile.FieldType.int), Jvm.Cond.code ({ cls := "com/example/indexloom/indexloom/data/DataHeader", name := "isBlank", desc := "(B)Z" } : Jvm.MethodName) prog_13_method_12_code (1 : Nat) (Option.some Jvm.ClassFile.FieldType.boolean), Jvm.Cond.code ({ cls := "java/lang/String", name := "<init>", desc := "([BIILjava/nio/charset/Charset;)V" } : Jvm.MethodName) jdk_42_method_10_code (5 : Nat) (Option.none : Option Jvm.ClassFile.FieldType), Jvm.Cond.code ({ cls := "java/util/Objects", name := "requireNonNull", desc := "(Ljava/lang/Object;)Ljava/lang/Object;" } : Jvm.MethodName) jdk_31_method_10_code (1 : Nat) (Option.some (Jvm.ClassFile.FieldType.object "java/lang/Object")), Jvm.Cond.code ({ cls := "java/lang/String", name := "checkBoundsOffCount", desc := "(III)I" } : Jvm.MethodName) jdk_42_method_157_code (3 : Nat) (Option.some Jvm.ClassFile.FieldType.int), Jvm.Cond.code ({ cls := "jdk/internal/util/Preconditions", name := "checkFromIndexSize", desc := "(IIILjava/util/function/BiFunction;)I" } : Jvm.MethodName) jdk_41_method_13_code (4 : Nat) (Option.some Jvm.ClassFile.FieldType.int), Jvm.Cond.codeWith ({ cls := "java/lang/String", name := "<init>", desc := "(Ljava/nio/charset/Charset;[BII)V" } : Jvm.MethodName) jdk_42_method_11_code (11 : Nat) (Option.none : Option Jvm.ClassFile.FieldType) [((800 : Nat), (813 : Nat), (816 : Nat), (202 : Nat))], Jvm.Cond.code ({ cls := "java/util/Arrays", name := "copyOfRange", desc := "([BII)[B" } : Jvm.MethodName) jdk_65_method_132_code (3 : Nat) (Option.some (Jvm.ClassFile.FieldType.array Jvm.ClassFile.FieldType.byte)), Jvm.Cond.code ({ cls := "java/util/Arrays", name := "copyOfRangeByte", desc := "([BII)[B" } : Jvm.MethodName) jdk_65_method_133_code (5 : Nat) (Option.some (Jvm.ClassFile.FieldType.array Jvm.ClassFile.FieldType.byte)), Jvm.Cond.code ({ cls := "java/util/Arrays", name := "checkLength", desc := "(II)V" } : Jvm.MethodName) jdk_65_method_131_code (2 : Nat) (Option.none : Option Jvm.ClassFile.FieldType), Jvm.Cond.code ({ cls := "java/lang/Math", name := "min", desc := "(II)I" } : Jvm.MethodName) jdk_29_method_69_code (2 : Nat) (Option.some Jvm.ClassFile.FieldType.int), Jvm.Cond.code ({ cls := "com/example/indexloom/indexloom/data/DataLine", name := "<init>", desc := "(Lcom/example/indexloom/indexloom/data/DataHeader;)V" } : Jvm.MethodName) prog_14_method_1_code (2 : Nat) (Option.none : Option Jvm.ClassFile.FieldType), Jvm.Cond.code ({ cls := "com/example/indexloom/indexloom/data/DataHeader", name := "size", desc := "()I" } : Jvm.MethodName) prog_13_method_3_code (1 : Nat) (Option.some Jvm.ClassFile.FieldType.int), Jvm.Cond.code ({ cls := "com/example/indexloom/indexloom/data/DataLine", name := "set", desc := "(I[BII)V" } : Jvm.MethodName) prog_14_method_2_code (6 : Nat) (Option.none : Option Jvm.ClassFile.FieldType), Jvm.Cond.code ({ cls := "com/example/indexloom/indexloom/data/DataLineIsEmptyPinLaw", name := "fine", desc := "([BIIZ)Z" } : Jvm.MethodName) method_4_code (5 : Nat) (Option.some Jvm.ClassFile.FieldType.boolean), Jvm.Cond.code ({ cls := "com/example/indexloom/indexloom/data/DataLineIsEmptyPinLaw", name := "blank", desc := "(B)Z" } : Jvm.MethodName) method_3_code (1 : Nat) (Option.some Jvm.ClassFile.FieldType.boolean), Jvm.Cond.code ({ cls := "com/example/indexloom/indexloom/data/DataLine", name := "isEmpty", desc := "(I)Z" } : Jvm.MethodName) prog_14_method_5_code (2 : Nat) (Option.some Jvm.ClassFile.FieldType.boolean), Jvm.Cond.code ({ cls := "com/example/indexloom/indexloom/data/DataLine", name := "start", desc := "(I)I" } : Jvm.MethodName) prog_14_method_15_code (2 : Nat) (Option.some Jvm.ClassFile.FieldType.int), Jvm.Cond.code ({ cls := "com/example/indexloom/indexloom/data/DataLine", name := "end", desc := "(I)I" } : Jvm.MethodName) prog_14_method_16_code (2 : Nat) (Option.some Jvm.ClassFile.FieldType.int)]
set_option maxRecDepth 65536 in
theorem codes_eq : words1.filter isCode = codes1 := rfl
theorem w_codes : ∀ c ∈ words1.filter isCode, c.before args0 about1 = true := by
  rw [codes_eq]
  intro c hc
  simp only [codes1, List.mem_cons, List.not_mem_nil, or_false] at hc
  rcases hc with rfl | rfl | rfl | rfl | rfl | rfl | rfl | rfl | rfl | rfl | rfl | rfl | rfl | rfl | rfl | rfl | rfl | rfl | rfl | rfl | rfl | rfl | rfl | rfl | rfl | rfl | rfl | rfl | rfl
  · exact w_c0
  · exact w_c1
  · exact w_c2
  · exact w_c3
  · exact w_c4
  · exact w_c5
  · exact w_c6
  · exact w_c7
  · exact w_c8
  · exact w_c9
  · exact w_c10
  · exact w_c11
  · exact w_c12
  · exact w_c13
  · exact w_c14
  · exact w_c15
  · exact w_h0
  · exact w_c16
  · exact w_c17
  · exact w_c18
  · exact w_c19
  · exact w_c20
  · exact w_c21
  · exact w_c22
  · exact w_c23
  · exact w_c24
  · exact w_c25
  · exact w_c26
  · exact w_c27
set_option maxRecDepth 65536 in
theorem w_t1 : (words1.take 24).all (fun c => isCode c || c.before args0 about1) = true := by decide +kernel
set_option maxRecDepth 65536 in
theorem w_t2 : ((words1.drop 24).take 24).all (fun c => isCode c || c.before args0 about1) = true := by decide +kernel
set_option maxRecDepth 65536 in
theorem w_t3 : (((words1.drop 24).drop 24).take 24).all (fun c => isCode c || c.before args0 about1) = true := by decide +kernel
set_option maxRecDepth 65536 in
theorem w_t4 : ((((words1.drop 24).drop 24).drop 24).take 24).all (fun c => isCode c || c.before args0 about1) = true := by decide +kernel
set_option maxRecDepth 65536 in
theorem w_t5 : (((((words1.drop 24).drop 24).drop 24).drop 24).take 24).all (fun c => isCode c || c.before args0 about1) = true := by decide +kernel
set_option maxRecDepth 65536 in
theorem w_t6 : ((((((words1.drop 24).drop 24).drop 24).drop 24).drop 24).take 24).all (fun c => isCode c || c.before args0 about1) = true := by decide +kernel
set_option maxRecDepth 65536 in
theorem w_t7 : ((((((words1.drop 24).drop 24).drop 24).drop 24).drop 24).drop 24).all (fun c => isCode c || c.before args0 about1) = true := by decide +kernel
theorem w_tables : (allAtoms (Jvm.Cond.code x code maxLocals ret :: tables_1)).before args0 about1 = true := by
  rw [allAtoms_all]
  show words1.all (fun c => c.before args0 about1) = true
  refine all_split ?_ w_codes
  rw [← List.take_append_drop 24 words1, List.all_append, w_t1, ← List.take_append_drop 24 (words1.drop 24), List.all_append, w_t2, ← List.take_append_drop 24 ((words1.drop 24).drop 24), List.all_append, w_t3, ← List.take_append_drop 24 (((words1.drop 24).drop 24).drop 24), List.all_append, w_t4, ← List.take_append_drop 24 ((((words1.drop 24).drop 24).drop 24).drop 24), List.all_append, w_t5, ← List.take_append_drop 24 (((((words1.drop 24).drop 24).drop 24).drop 24).drop 24), List.all_append, w_t6, w_t7]
  rfl
set_option maxRecDepth 65536 in
theorem w_rest : rest_1_c.before args0 about1 = true := by decide +kernel
set_option maxRecDepth 65536 in
theorem w_case : (Jvm.Cond.and given_1 narrow_1).before args0 about1 = true := by decide +kernel
set_option maxRecDepth 65536 in
theorem w_consts : constsHeld consts_1 about1 := Jvm.Lit.constsHeldB_iff.mp (by decide +kernel)
theorem w_applies : (headSpec (Jvm.Cond.code x code maxLocals ret :: tables_1) room_1).applies x e0.platform about1 = true :=
  (Spec.applies_iff w_frames).mpr ⟨w_running, w_runnable, w_alone, w_named, w_hears, w_ripe, w_room, w_tables⟩
theorem atStart : AtStart classFile x code maxLocals ret World_1 tables_1 room_1 Calls_1 rest_1 Pre_1 launch0 p0 e0 about1 theMethod args0 below0 :=
  ⟨lists_1, trivial, launch0.admits_env _ _ _, launch0.least_env, fairChoices_fair.cas, fairChoices_fair.clock, w_frames, w_args, w_heap, w_applies, ⟨w_consts, trivial⟩, w_rest, w_case⟩
end start1
theorem witness_1 : WitnessClaimed_1 := ⟨start1.p0, start1.e0, start1.about1, start1.theMethod, start1.args0, start1.below0, start1.atStart⟩
end Jvm.Pilot.@@N@@
