import JvmDerived
import JvmDerived.Pilot.@@N@@Statement
import JvmDerived.Pilot.@@N@@Code
set_option linter.unusedVariables false
set_option linter.unusedSimpArgs false
namespace Jvm.Pilot.@@N@@
open Jvm Jvm.ClassFile Sem Op Lib Jvm.Free Jvm.Stand Jvm.LawKit Jvm.RoadKit Bundle Jvm.Pilot.@@N@@.Jvm.D
section OwnKit
variable {p : Program} {l : Launch} {e : Env} {R : Room} {s : State} {m : MethodId} {args : Array Value} {below : List Frame} {meth : Method} {c : Code} {T : State} {locs : List Loc} {cells slots : Nat} {Z : State} {a0 : Array Value} {h : Heap} {n0 : Nat} {G : State → Outcome → Prop} {kc ks : Nat} {Q : Option Value → Heap → Prop}
/-- what is left of a walk: from U the body comes to an end of which G holds -/
def own_Go (tb : Tables) (e : Env) (below : List Frame) (G : State → Outcome → Prop) (U : State) : Prop := ∃ s₂ o, Steps tb e below U s₂ ∧ s₂.status = .running ∧ Ended s₂ below o ∧ G s₂ o
theorem own_go {tb : Tables} {U U' : State} (f : ∀ t, Steps tb e below U' t → Steps tb e below U t) (k : own_Go tb e below G U') : own_Go tb e below G U := by
  obtain ⟨a, b, c, d⟩ := k
  exact ⟨a, b, f _ c, d⟩
/-- where the run stands: its heap is h, nothing below n0 has been written -/
def own_At (p : Program) (l : Launch) (e : Env) (R : Room) (s : State) (m : MethodId) (args : Array Value) (below : List Frame) (meth : Method) (c : Code) (n0 : Nat) (T : State) (h : Heap) (cells slots : Nat) : Prop :=
  ∃ locs, Stand p l e R s m args below meth c T locs cells slots ∧ T.heap = h ∧ Fr n0 locs
theorem own_At.here (A : own_At p l e R s m args below meth c n0 T h cells slots) : At T m c below := by obtain ⟨_, X, -, -⟩ := A; exact X.here
theorem own_At.heap (A : own_At p l e R s m args below meth c n0 T h cells slots) : T.heap = h := by obtain ⟨_, -, q, -⟩ := A; exact q
/-- the end of a body: it returns v, Q holds of v and the heap -/
def own_End (n0 : Nat) (s : State) (kc ks : Nat) (Q : Option Value → Heap → Prop) : State → Outcome → Prop := fun s₂ o => ∃ v L, o = .returned v ∧ (Q v s₂.heap ∧ Fr n0 L) ∧ FrameEnd s o s₂ L kc ks
theorem own_leave (A : own_At p l e R s m args below meth c n0 T h cells slots) {v : Option Value} (hv : meth.sig.returnType = none → v = none) (hlk : meth.locks = false) (hc : cells ≤ kc) (hs : slots ≤ ks) (q : Q v h) {U : State}
    (st : ∀ locs, Stand p l e R s m args below meth c T locs cells slots → ∀ fs, (∀ (f : JFrame) (acts : List Action), f.method = m → f.locked = none → f.entered = [] → (doReturn e (T.setTop f) acts v).1 = T.setFrames fs) → Steps p.tables e below U (T.setFrames fs)) : own_Go p.tables e below (own_End n0 s kc ks Q) U := by
  obtain ⟨locs, X, rfl, N⟩ := A
  obtain ⟨fs, hr, hrun, hended, hW, hsame⟩ := X.leave hv hlk
  exact ⟨_, _, st locs X fs hr, hrun, hended, _, _, rfl, ⟨q, N⟩, ⟨_, rfl⟩, hW, hsame.mono hc hs⟩
theorem own_retI (A : own_At p l e R s m args below meth c n0 T h cells slots) (hx : p.tables.exec = Jvm.exec) (hret : meth.sig.returnType = some .int) (hlk : meth.locks = false) (hc : cells ≤ kc) (hs : slots ≤ ks) {pc : Nat} {Ls : Array Slot} {z : Int32} {rest : List Value} (hd : decode c.code pc = .ok (.ireturn, 1)) (q : Q (some (.int z)) h) :
    own_Go p.tables e below (own_End n0 s kc ks Q) (T.setTop (mkF m pc Ls (.int z :: rest))) :=
  own_leave A (fun q => by rw [hret] at q; cases q) hlk hc hs q fun _ X _ hr => retOut X hx hret rfl (Or.inl ⟨rfl, Or.inl rfl, _, rfl⟩) hd hr
theorem own_retN (A : own_At p l e R s m args below meth c n0 T h cells slots) (hx : p.tables.exec = Jvm.exec) {t : FieldType} (hret : meth.sig.returnType = some t) (ht : t = .boolean ∨ t = .byte ∨ t = .char ∨ t = .short) (hlk : meth.locks = false) (hc : cells ≤ kc) (hs : slots ≤ ks) {pc : Nat} {Ls : Array Slot} {z : Int32} {rest : List Value} (hd : decode c.code pc = .ok (.ireturn, 1)) (q : Q (some (.int (nar t z))) h) :
    own_Go p.tables e below (own_End n0 s kc ks Q) (T.setTop (mkF m pc Ls (.int z :: rest))) :=
  own_leave A (fun q => by rw [hret] at q; cases q) hlk hc hs q fun _ X _ hr => retN X hx hret ht hd hr
theorem own_retJ (A : own_At p l e R s m args below meth c n0 T h cells slots) (hx : p.tables.exec = Jvm.exec) (hret : meth.sig.returnType = some .long) (hlk : meth.locks = false) (hc : cells ≤ kc) (hs : slots ≤ ks) {pc : Nat} {Ls : Array Slot} {z : Int64} {rest : List Value} (hd : decode c.code pc = .ok (.lreturn, 1)) (q : Q (some (.long z)) h) :
    own_Go p.tables e below (own_End n0 s kc ks Q) (T.setTop (mkF m pc Ls (.long z :: rest))) :=
  own_leave A (fun q => by rw [hret] at q; cases q) hlk hc hs q fun _ X _ hr => retOut X hx hret rfl (Or.inr (Or.inl ⟨rfl, rfl, _, rfl⟩)) hd hr
theorem own_retD (A : own_At p l e R s m args below meth c n0 T h cells slots) (hx : p.tables.exec = Jvm.exec) (hret : meth.sig.returnType = some .double) (hlk : meth.locks = false) (hc : cells ≤ kc) (hs : slots ≤ ks) {pc : Nat} {Ls : Array Slot} {z : UInt64} {rest : List Value} (hd : decode c.code pc = .ok (.dreturn, 1)) (q : Q (some (.double z)) h) :
    own_Go p.tables e below (own_End n0 s kc ks Q) (T.setTop (mkF m pc Ls (.double z :: rest))) :=
  own_leave A (fun q => by rw [hret] at q; cases q) hlk hc hs q fun _ X _ hr => retOut X hx hret rfl (Or.inr (Or.inr (Or.inl ⟨rfl, rfl, _, rfl⟩))) hd hr
theorem own_retA (A : own_At p l e R s m args below meth c n0 T h cells slots) (hx : p.tables.exec = Jvm.exec) {t : FieldType} (hret : meth.sig.returnType = some t) (ht : t.isReference = true) (hlk : meth.locks = false) (hc : cells ≤ kc) (hs : slots ≤ ks) {pc : Nat} {Ls : Array Slot} {w : Value} (hw : w.isRef = true) {rest : List Value} (hd : decode c.code pc = .ok (.areturn, 1)) (q : Q (some w) h) :
    own_Go p.tables e below (own_End n0 s kc ks Q) (T.setTop (mkF m pc Ls (w :: rest))) :=
  own_leave A (fun q => by rw [hret] at q; cases q) hlk hc hs q fun _ X _ hr => retOut X hx hret (by cases t <;> first | rfl | cases ht) (Or.inr (Or.inr (Or.inr (Or.inr ⟨rfl, ht, hw⟩)))) hd hr
theorem own_retV (A : own_At p l e R s m args below meth c n0 T h cells slots) (hx : p.tables.exec = Jvm.exec) (hret : meth.sig.returnType = none) (hlk : meth.locks = false) (hc : cells ≤ kc) (hs : slots ≤ ks) {pc : Nat} {Ls : Array Slot} (hd : decode c.code pc = .ok (.return_, 1)) (q : Q none h) :
    own_Go p.tables e below (own_End n0 s kc ks Q) (T.setTop (mkF m pc Ls [])) :=
  own_leave A (fun _ => rfl) hlk hc hs q fun _ X _ hr => X.returnOut hx hret hd hr
/-- a body's contract: called with as' at the heap h0 it returns, and Q holds of what it returns and of the heap -/
def own_Met (l : Launch) (Z : State) (n0 : Nat) (y : MethodName) (bytes : ByteArray) (maxL : Nat) (ret : Option FieldType) (rm : Room) (as' : Array Value) (h0 : Heap) (Q : Option Value → Heap → Prop) : Prop :=
  ∀ ws, MetFree l y (head1 (Cond.code y bytes maxL ret :: ws) rm) (fun a U => a = as' ∧ Z.Warmed39 U.vm ∧ U.heap = h0) (fun _ _ _ _ _ => True) (fun _ U o U' => ∃ v L, o = .returned v ∧ (Q v U'.heap ∧ Fr n0 L) ∧ FrameEnd U o U' L rm.cells rm.slots)
theorem own_met {y : MethodName} {bytes : ByteArray} {maxL : Nat} {ret : Option FieldType} {rm : Room} {as' : Array Value} {h0 : Heap} (hp : plainFor y = true)
    (body : ∀ (p : Program) (e : Env) (s : State) (m : MethodId) (below : List Frame) (meth : Method) (c : Code) (T : State), p.tables.exec = Jvm.exec → c.code = bytes → c.maxLocals = maxL → s.vm.findClass y.cls = some m.cls → meth.name = y.name → meth.sig.returnType = ret → meth.locks = false → Z.Warmed39 s.vm →
      own_At p l e rm s m as' below meth c n0 T h0 0 0 → own_Go p.tables e below (own_End n0 s rm.cells rm.slots Q) (T.setTop (entryFrame m as' maxL))) : own_Met l Z n0 y bytes maxL ret rm as' h0 Q := by
  intro ws
  refine MetFree.of_bodySF hp hisR ?_
  intro p e s m args below meth c s₁ Bd hml0 hP hK
  obtain ⟨rfl, hZ, hh⟩ := hP
  exact body p e s m below meth c s₁ Bd.exec Bd.bytes hml0 (findClass_of_methodNamed Bd.named) (name_of_methodNamed Bd.named Bd.method).1 Bd.returns Bd.notSynchronized hZ ⟨[], Stand.of_body Bd, by rw [← hh, Bd.state]; rfl, Fr.nil n0⟩
theorem own_callS (A : own_At p l e R s m args below meth c n0 T h cells slots) (hx : p.tables.exec = Jvm.exec) (hZ : Z.Warmed39 s.vm) {own : String} {index : Nat} {y : MethodName} {bytes : ByteArray} {maxL : Nat} {ret : Option FieldType} (hown : s.vm.findClass own = some m.cls)
    (w1 : (Cond.methodLink own index y).before a0 Z = true) (w2 : (Cond.static y).before a0 Z = true) (w3 : (Cond.initialized y.cls).before a0 Z = true) (w4 : (Cond.code y bytes maxL ret).before a0 Z = true) (hy : y.cls ≠ "java/lang/invoke/MethodHandle" ∧ y.cls ≠ "java/lang/invoke/VarHandle")
    {rm : Room} {argsL rest : List Value} (hM : own_Met l Z n0 y bytes maxL ret rm argsL.toArray h Q) (W : Nat) (hfr : rm.frames + 1 ≤ R.frames) (hlo : W + (maxL + 11) + rm.locals ≤ R.locals) {g : JFrame} (hg : g.method = m) (hsize : g.locals.size = c.maxLocals)
    (hlen : ∀ sig, parseMethodDescriptor y.desc = some sig → argsL.length = sig.parameters.length) (hs : g.stack = argsL.reverse ++ rest) (hW : 2 * g.monitorRoom + (rest.map fun v => v.category).sum ≤ W) (hd : decode c.code g.pc = .ok (.invokestatic index, 3))
    (hc : cells + rm.cells ≤ R.cells) (hl : slots + rm.slots ≤ R.slots)
    (k : ∀ v T' h', own_At p l e R s m args below meth c n0 T' h' (cells + rm.cells) (slots + rm.slots) → Q v h' → own_Go p.tables e below G (T'.setTop { g with pc := g.pc + 3, stack := v.toList ++ rest })) : own_Go p.tables e below G (T.setTop g) := by
  obtain ⟨locs, X, eT, N⟩ := A
  obtain ⟨v, _, ⟨T1, L1, k1, s1⟩, -, X1, ⟨Lc, ⟨hQ, N1⟩, l1, y1, z1⟩, st⟩ := Jvm.LawKit.callS X hx (y := y) hown (mvT hZ w1) (mvT hZ w2) (mvT hZ w3) (mvT hZ w4) hy (backOf (Q := fun v h L => Q v h ∧ Fr n0 L) (W := W) (hM []) hZ w4 w3 hfr hlo) hg hsize (argsL := argsL) (rest := rest) hlen hs hW hd (fun _ _ => ⟨rfl, eT, hc, hl⟩)
  dsimp only [Pt.U, Pt.locs, Pt.cells, Pt.slots] at X1 l1 y1 z1 st hQ
  subst l1 y1 z1
  exact own_go (fun t k => st t k) (k v T1 T1.heap ⟨_, X1, rfl, N.app N1⟩ hQ)
theorem own_callV (A : own_At p l e R s m args below meth c n0 T h cells slots) (hx : p.tables.exec = Jvm.exec) (hZ : Z.Warmed39 s.vm) {own C : String} {index : Nat} {y z : MethodName} {bytes : ByteArray} {maxL : Nat} {ret : Option FieldType} (hown : s.vm.findClass own = some m.cls)
    (w1 : (Cond.methodLink own index y).before a0 Z = true) (w2 : (Cond.declares y).before a0 Z = true) (w3 : (Cond.selects C y z).before a0 Z = true) (w4 : (Cond.instanceMethod z).before a0 Z = true) (w5 : (Cond.initialized z.cls).before a0 Z = true) (w6 : (Cond.code z bytes maxL ret).before a0 Z = true) (nf : NotFace s y)
    (hy : y.cls ≠ "java/lang/invoke/MethodHandle" ∧ y.cls ≠ "java/lang/invoke/VarHandle")
    {rm : Room} {b : Addr} {argsL rest : List Value} (E : Exa Z h b C) (hM : own_Met l Z n0 z bytes maxL ret rm (.ref b :: argsL).toArray h Q) (W : Nat) (hfr : rm.frames + 1 ≤ R.frames) (hlo : W + (maxL + 11) + rm.locals ≤ R.locals) {g : JFrame} (hg : g.method = m) (hsize : g.locals.size = c.maxLocals)
    (hlen : ∀ sig, parseMethodDescriptor y.desc = some sig → argsL.length = sig.parameters.length) (hs : g.stack = argsL.reverse ++ .ref b :: rest) (hW : 2 * g.monitorRoom + (rest.map fun v => v.category).sum ≤ W) (hd : decode c.code g.pc = .ok (.invokevirtual index, 3))
    (hc : cells + rm.cells ≤ R.cells) (hl : slots + rm.slots ≤ R.slots)
    (k : ∀ v T' h', own_At p l e R s m args below meth c n0 T' h' (cells + rm.cells) (slots + rm.slots) → Q v h' → own_Go p.tables e below G (T'.setTop { g with pc := g.pc + 3, stack := v.toList ++ rest })) : own_Go p.tables e below G (T.setTop g) := by
  obtain ⟨locs, X, eT, N⟩ := A
  obtain ⟨cq, kq, qa, qb, qc⟩ := isOf hZ eT E
  obtain ⟨v, _, ⟨T1, L1, k1, s1⟩, -, X1, ⟨Lc, ⟨hQ, N1⟩, l1, y1, z1⟩, st⟩ := X.virtualBack hx (y := y) (z := z) hown (mvT hZ w1) (mvT hZ w2) nf (mvT hZ w3) (mvT hZ w4) hy (backOf (Q := fun v h L => Q v h ∧ Fr n0 L) (W := W) (hM []) hZ w6 w5 hfr hlo) qa qc hg hsize (Steps.refl _) (argsL := argsL) (rest := rest) hlen hs hW hd (fun _ _ => ⟨rfl, eT, hc, hl⟩)
  dsimp only [Pt.U, Pt.locs, Pt.cells, Pt.slots] at X1 l1 y1 z1 st hQ
  subst l1 y1 z1
  exact own_go (fun t k => st.trans k) (k v T1 T1.heap ⟨_, X1, rfl, N.app N1⟩ hQ)
theorem own_callI (A : own_At p l e R s m args below meth c n0 T h cells slots) (hx : p.tables.exec = Jvm.exec) (hZ : Z.Warmed39 s.vm) {own : String} {index : Nat} {y : MethodName} (hy1 : y.name = "<init>") {bytes : ByteArray} {maxL : Nat} (hown : s.vm.findClass own = some m.cls)
    (w1 : (Cond.methodLink own index y).before a0 Z = true) (w4 : (Cond.instanceMethod y).before a0 Z = true) (w5 : (Cond.initialized y.cls).before a0 Z = true) (w6 : (Cond.code y bytes maxL none).before a0 Z = true)
    (hy : y.cls ≠ "java/lang/invoke/MethodHandle" ∧ y.cls ≠ "java/lang/invoke/VarHandle")
    {rm : Room} {b : Addr} {argsL rest : List Value} (hM : own_Met l Z n0 y bytes maxL none rm (.ref b :: argsL).toArray h Q) (W : Nat) (hfr : rm.frames + 1 ≤ R.frames) (hlo : W + (maxL + 11) + rm.locals ≤ R.locals) {g : JFrame} (hg : g.method = m) (hsize : g.locals.size = c.maxLocals)
    (hlen : ∀ sig, parseMethodDescriptor y.desc = some sig → argsL.length = sig.parameters.length) (hs : g.stack = argsL.reverse ++ .ref b :: rest) (hW : 2 * g.monitorRoom + (rest.map fun v => v.category).sum ≤ W) (hd : decode c.code g.pc = .ok (.invokespecial index, 3))
    (hc : cells + rm.cells ≤ R.cells) (hl : slots + rm.slots ≤ R.slots)
    (k : ∀ v T' h', own_At p l e R s m args below meth c n0 T' h' (cells + rm.cells) (slots + rm.slots) → Q v h' → own_Go p.tables e below G (T'.setTop { g with pc := g.pc + 3, stack := v.toList ++ rest })) : own_Go p.tables e below G (T.setTop g) := by
  obtain ⟨locs, X, eT, N⟩ := A
  obtain ⟨v, _, ⟨T1, L1, k1, s1⟩, -, X1, ⟨Lc, ⟨hQ, N1⟩, l1, y1, z1⟩, st⟩ := X.specialBack hx (y := y) hy1 hown (mvT hZ w1) (mvT hZ w4) (mvT hZ w6) hy (backOf (Q := fun v h L => Q v h ∧ Fr n0 L) (W := W) (hM []) hZ w6 w5 hfr hlo) hg hsize (Steps.refl _) (a := b) (argsL := argsL) (rest := rest) hlen hs hW hd (fun _ _ => ⟨rfl, eT, hc, hl⟩)
  dsimp only [Pt.U, Pt.locs, Pt.cells, Pt.slots] at X1 l1 y1 z1 st hQ
  subst l1 y1 z1
  exact own_go (fun t k => st.trans k) (k v T1 T1.heap ⟨_, X1, rfl, N.app N1⟩ hQ)
theorem own_initO (A : own_At p l e R s m args below meth c n0 T h cells slots) (hx : p.tables.exec = Jvm.exec) (hZ : Z.Warmed39 s.vm) {own : String} {idx : Nat} (hown : s.vm.findClass own = some m.cls) (w1 : (Cond.methodLink own idx Lib.objectInit).before a0 Z = true) (w2 : (Cond.instanceMethod Lib.objectInit).before a0 Z = true)
    (w3 : (Cond.code Lib.objectInit ⟨#[0xb1]⟩ 1 none).before a0 Z = true) {g : JFrame} (hg : g.method = m) (hsize : g.locals.size = c.maxLocals) {a : Addr} {rest : List Value} (hs : g.stack = .ref a :: rest) (hd : decode c.code g.pc = .ok (.invokespecial idx, 3))
    (hf : 1 ≤ R.frames) (W : Nat) (hW : 2 * g.monitorRoom + (rest.map fun v => v.category).sum ≤ W) (hl : W + 12 ≤ R.locals)
    (k : ∀ T', own_At p l e R s m args below meth c n0 T' h cells slots → own_Go p.tables e below G (T'.setTop { g with pc := g.pc + 3, stack := rest })) : own_Go p.tables e below G (T.setTop g) := by
  obtain ⟨locs, X, eT, N⟩ := A
  obtain ⟨T1, X1, e1, st⟩ := initO X hx hZ hown w1 w2 w3 eT hg hsize hs hd hf hW hl
  exact own_go st (k T1 ⟨_, X1, e1, N⟩)
theorem own_getF (A : own_At p l e R s m args below meth c n0 T h cells slots) (hx : p.tables.exec = Jvm.exec) (hZ : Z.Warmed39 s.vm) {own R0 O n d host : String} {index : Nat} (hown : s.vm.findClass own = some m.cls) (w : (Cond.fieldLink own index R0 n d).before a0 Z = true ∨ (Cond.fieldLinkNest own index R0 n d host).before a0 Z = true) (via : Via Z R0 O n d)
    {a : Addr} {v : Value} (F : Fld Z h a O n d v) {g : JFrame} (hg : g.method = m) {rest : List Value} (hs : g.stack = .ref a :: rest) (hd : decode c.code g.pc = .ok (.getfield index, 3))
    (k : ∀ T', own_At p l e R s m args below meth c n0 T' h cells slots → own_Go p.tables e below G (T'.setTop { g with pc := g.pc + 3, stack := v :: rest })) : own_Go p.tables e below G (T.setTop g) := by
  obtain ⟨locs, X, eT, N⟩ := A
  obtain ⟨T1, X1, e1, st⟩ := getF X hx hZ hown w via eT F hg hs hd
  exact own_go st (k T1 ⟨_, X1, e1, N⟩)
theorem own_getS (A : own_At p l e R s m args below meth c n0 T h cells slots) (hx : p.tables.exec = Jvm.exec) (hZ : Z.Warmed39 s.vm) {own R0 O n d host : String} {index : Nat} (hown : s.vm.findClass own = some m.cls) (w : (Cond.fieldLink own index R0 n d).before a0 Z = true ∨ (Cond.fieldLinkNest own index R0 n d host).before a0 Z = true) (via : Via Z R0 O n d)
    {v : Value} (F : Sta Z h O n d v) {g : JFrame} (hg : g.method = m) (hd : decode c.code g.pc = .ok (.getstatic index, 3))
    (k : ∀ T', own_At p l e R s m args below meth c n0 T' h cells slots → own_Go p.tables e below G (T'.setTop { g with pc := g.pc + 3, stack := v :: g.stack })) : own_Go p.tables e below G (T.setTop g) := by
  obtain ⟨locs, X, eT, N⟩ := A
  obtain ⟨T1, X1, e1, st⟩ := getS2 X hx hZ hown w via eT F hg hd
  exact own_go st (k T1 ⟨_, X1, e1, N⟩)
theorem own_ldcI (A : own_At p l e R s m args below meth c n0 T h cells slots) (hx : p.tables.exec = Jvm.exec) (hZ : Z.Warmed39 s.vm) {own : String} {index : Nat} {v : Int32} (hown : s.vm.findClass own = some m.cls) (w : (Cond.constant own index v).before a0 Z = true) {g : JFrame} (hg : g.method = m) (hd : decode c.code g.pc = .ok (.ldc index, 2))
    (k : own_Go p.tables e below G (T.setTop { g with pc := g.pc + 2, stack := .int v :: g.stack })) : own_Go p.tables e below G (T.setTop g) := by
  obtain ⟨locs, X, eT, N⟩ := A
  exact own_go (X.ldcInt hx hown (mvT hZ w) hg hd) k
theorem own_ldcwI (A : own_At p l e R s m args below meth c n0 T h cells slots) (hx : p.tables.exec = Jvm.exec) (hZ : Z.Warmed39 s.vm) {own : String} {index : Nat} {v : Int32} (hown : s.vm.findClass own = some m.cls) (w : (Cond.constant own index v).before a0 Z = true) {g : JFrame} (hg : g.method = m) (hd : decode c.code g.pc = .ok (.ldc_w index, 3))
    (k : own_Go p.tables e below G (T.setTop { g with pc := g.pc + 3, stack := .int v :: g.stack })) : own_Go p.tables e below G (T.setTop g) := by
  obtain ⟨locs, X, eT, N⟩ := A
  exact own_go (X.ldcwInt hx hown (mvT hZ w) hg hd) k
theorem own_ldcJ (A : own_At p l e R s m args below meth c n0 T h cells slots) (hx : p.tables.exec = Jvm.exec) (hZ : Z.Warmed39 s.vm) {own : String} {index : Nat} {v : Int64} (hown : s.vm.findClass own = some m.cls) (w : (Cond.constantLong own index v).before a0 Z = true) {g : JFrame} (hg : g.method = m) (hd : decode c.code g.pc = .ok (.ldc2_w index, 3))
    (k : own_Go p.tables e below G (T.setTop { g with pc := g.pc + 3, stack := .long v :: g.stack })) : own_Go p.tables e below G (T.setTop g) := by
  obtain ⟨locs, X, eT, N⟩ := A
  exact own_go (X.ldc2Long hx hown (mvT hZ w) hg hd) k
/-- irem, with Java's sign -/
theorem own_irem {tb : Tables} [Ours tb] {target : State} {g : JFrame} (hh : At T m c below) (hx : tb.exec = Jvm.exec) (hg : g.method = m) {x y : Int32} {rest : List Value} (hd : decode c.code g.pc = .ok (.irem, 1)) (hs : g.stack = .int y :: .int x :: rest) (hy : y ≠ 0)
    (hr : Steps tb e below (T.setTop { g with pc := g.pc + 1, stack := .int (x % y) :: rest }) target) : Steps tb e below (T.setTop g) target :=
  XS.irem hh hx hg hd hs hy (by rw [irem_eq_mod]; exact hr)
theorem own_lrem {tb : Tables} [Ours tb] {target : State} {g : JFrame} (hh : At T m c below) (hx : tb.exec = Jvm.exec) (hg : g.method = m) {x y : Int64} {rest : List Value} (hd : decode c.code g.pc = .ok (.lrem, 1)) (hs : g.stack = .long y :: .long x :: rest) (hy : y ≠ 0)
    (hr : Steps tb e below (T.setTop { g with pc := g.pc + 1, stack := .long (x % y) :: rest }) target) : Steps tb e below (T.setTop g) target :=
  XS.lrem hh hx hg hd hs hy (by rw [lrem_mod]; exact hr)
theorem own_aeq {a b : Addr} (h : a = b) : if_acmp.holds .eq (some a) (some b) = true ∧ if_acmp.holds .ne (some a) (some b) = false := by simp [if_acmp.holds, h]
theorem own_ane {a b : Addr} (h : ¬ a = b) : if_acmp.holds .eq (some a) (some b) = false ∧ if_acmp.holds .ne (some a) (some b) = true := by simp [if_acmp.holds, h]
end OwnKit
section OwnHeap
variable {p : Program} {l : Launch} {e : Env} {R : Room} {s : State} {m : MethodId} {args : Array Value} {below : List Frame} {meth : Method} {c : Code} {T : State} {cells slots : Nat} {Z : State} {a0 : Array Value} {h h' : Heap} {n0 : Nat} {G : State → Outcome → Prop} {a b : Addr} {ty : FieldType} {n j : Int32} {f : Int32 → Int32}
/-- an array of ints (bytes, chars, booleans, shorts): its length is n, its place i holds f i -/
def own_Arr (Z : State) (h : Heap) (a : Addr) (ty : FieldType) (n : Int32) (f : Int32 → Int32) : Prop :=
  ∃ cl : Cell, Arr Z h a cl ty ∧ cl.slots.size = n.toNatClampNeg ∧ ¬ n < 0 ∧ ∀ j : Int32, ¬ j < 0 → j < n → cl.slots[j.toNatClampNeg]? = some (.int (f j))
theorem own_Arr.lt (F : own_Arr Z h a ty n f) : a < h.size := by obtain ⟨_, A, -⟩ := F; exact A.lt
theorem own_Arr.ext (F : own_Arr Z h a ty n f) (E : Ext h h') : own_Arr Z h' a ty n f := by obtain ⟨c, A, r⟩ := F; exact ⟨c, A.ext E, r⟩
theorem own_Arr.other {sl : Nat} {v : Value} (F : own_Arr Z h b ty n f) (W : Wr h h' a sl v) (q : b ≠ a) : own_Arr Z h' b ty n f := by obtain ⟨c, A, r⟩ := F; exact ⟨c, A.other W q, r⟩
theorem own_Arr.keep {ws : List Addr} (F : own_Arr Z h a ty n f) (K : Keep h h' ws) (q : a ∉ ws) : own_Arr Z h' a ty n f := by obtain ⟨c, A, r⟩ := F; exact ⟨c, ⟨K.2.1 a c A.1 q, A.2⟩, r⟩
theorem own_Arr.nn (F : own_Arr Z h a ty n f) : ¬ n < 0 := by obtain ⟨_, -, -, q, -⟩ := F; exact q
theorem own_Arr.congr {f' : Int32 → Int32} (F : own_Arr Z h a ty n f) (q : ∀ i, ¬ i < 0 → i < n → f i = f' i) : own_Arr Z h a ty n f' := by
  obtain ⟨c, A, r1, r2, r3⟩ := F
  exact ⟨c, A, r1, r2, fun i hi hn => by rw [r3 i hi hn, q i hi hn]⟩
theorem own_same {i j : Int32} (hi : ¬ i < 0) (hj : ¬ j < 0) (e : i.toNatClampNeg = j.toNatClampNeg) : i = j := by
  apply Int32.toInt_inj.mp
  rw [nat_of hi, nat_of hj, e]
theorem own_Arr.set {v : Int32} (F : own_Arr Z h a ty n f) (hj : ¬ j < 0) (W : Wr h h' a j.toNatClampNeg (.int v)) : own_Arr Z h' a ty n (fun i => if i = j then v else f i) := by
  obtain ⟨c, A, r1, r2, r3⟩ := F
  refine ⟨c.setSlot j.toNatClampNeg (.int v), A.same W, by rw [sz_set]; exact r1, r2, fun i hi hn => ?_⟩
  have hin := inb_of r1 ⟨hi, hn⟩
  by_cases q : i = j
  · subst q
    show _ = some (Value.int (if i = i then v else f i))
    rw [get_hit hin rfl, if_pos rfl]
  · show _ = some (Value.int (if i = j then v else f i))
    rw [get_miss hj hi q, r3 i hi hn, if_neg q]
theorem own_newO (A : own_At p l e R s m args below meth c n0 T h cells slots) (hx : p.tables.exec = Jvm.exec) (hZ : Z.Warmed39 s.vm) {own C : String} {index k : Nat} (hown : s.vm.findClass own = some m.cls) (w : (Cond.classLink own index C).before a0 Z = true) (wi : (Cond.instantiable C k).before a0 Z = true) (wz : (Cond.initialized C).before a0 Z = true)
    {g : JFrame} (hg : g.method = m) (hd : decode c.code g.pc = .ok (.new index, 3)) (hc : cells + 1 ≤ R.cells) (hl : slots + k ≤ R.slots)
    (kk : ∀ T' h' a, a = h.size → own_At p l e R s m args below meth c n0 T' h' (cells + 1) (slots + k) → Ext h h' → Exa Z h' a C → (∀ {O nm d : String} {ty : FieldType}, Laid Z a0 C O nm d → parseFieldDescriptor d = some ty → Fld Z h' a O nm d (defaultValue ty)) → own_Go p.tables e below G (T'.setTop { g with pc := g.pc + 3, stack := .ref a :: g.stack })) : own_Go p.tables e below G (T.setTop g) := by
  obtain ⟨locs, X, eT, N⟩ := A
  obtain ⟨T1, h1, X1, e1, E1, A1, D1, -, st⟩ := newO X hx hZ hown w wi wz eT hg hd hc hl
  exact own_go st (kk T1 h1 h.size rfl ⟨_, X1, e1, N⟩ E1 A1 D1)
theorem own_newP (A : own_At p l e R s m args below meth c n0 T h cells slots) (hx : p.tables.exec = Jvm.exec) (hZ : Z.Warmed39 s.vm) {aty : ArrayType} (w : (Cond.arrayClass (newarray.typeOf aty)).before a0 Z = true) (hty : defaultValue (newarray.typeOf aty) = .int 0) {g : JFrame} (hg : g.method = m) (hd : decode c.code g.pc = .ok (.newarray aty, 2)) {rest : List Value} (hs : g.stack = .int n :: rest)
    (hn : ¬ n < 0) (cap : Nat) (hcap : n.toNatClampNeg ≤ cap) (hb : cap * 8 ≤ 536870912) (hc : cells + 1 ≤ R.cells) (hl : slots + cap ≤ R.slots)
    (kk : ∀ T' h' a, a = h.size → own_At p l e R s m args below meth c n0 T' h' (cells + 1) (slots + cap) → Ext h h' → own_Arr Z h' a (newarray.typeOf aty) n (fun _ => 0) → (∃ k, Arv Z h' a k (newarray.typeOf aty) n [] (.int 0)) → own_Go p.tables e below G (T'.setTop { g with pc := g.pc + 2, stack := .ref a :: rest })) : own_Go p.tables e below G (T.setTop g) := by
  obtain ⟨locs, X, eT, N⟩ := A
  obtain ⟨T1, h1, k1, X1, e1, E1, A1, st⟩ := newP X hx hZ w eT hg hd hs hn hcap hb hc hl
  refine own_go st (kk T1 h1 h.size rfl ⟨_, X1, e1, N⟩ E1 ⟨_, A1, sz_new _ _ _, hn, fun i hi hin => ?_⟩ ⟨k1, hty ▸ Arv.new A1 hn⟩)
  have q := inb_of (c := newA k1 (newarray.typeOf aty) n) (sz_new _ _ _) ⟨hi, hin⟩
  rw [sz_new] at q
  rw [get_new q, hty]
theorem own_putF (A : own_At p l e R s m args below meth c n0 T h cells slots) (hx : p.tables.exec = Jvm.exec) (hZ : Z.Warmed39 s.vm) {own R0 O nm d host C : String} {index kk : Nat} (hown : s.vm.findClass own = some m.cls) (w : (Cond.fieldLink own index R0 nm d).before a0 Z = true ∨ (Cond.fieldLinkNest own index R0 nm d host).before a0 Z = true) (via : Via Z R0 O nm d)
    {v old : Value} (F : Fld Z h a O nm d old) (E : Exa Z h a C) (L : (Cond.lays C O nm d).before a0 Z = true ∨ ((Cond.laysFinal C O nm d).before a0 Z = true ∧ own = O ∧ meth.name = "<init>")) (wi : (Cond.instantiable C kk).before a0 Z = true)
    (hty : parseFieldDescriptor d = some ty) (hn : narrow ty v = v) (hf : fits ty v = true) (q : n0 ≤ a) {g : JFrame} (hg : g.method = m) {rest : List Value} (hs : g.stack = v :: .ref a :: rest) (hd : decode c.code g.pc = .ok (.putfield index, 3))
    (k : ∀ T' h', own_At p l e R s m args below meth c n0 T' h' cells slots → Wr h h' a (Jvm.RoadKit.slotOf Z O nm d) v → own_Go p.tables e below G (T'.setTop { g with pc := g.pc + 3, stack := rest })) : own_Go p.tables e below G (T.setTop g) := by
  obtain ⟨locs, X, eT, N⟩ := A
  obtain ⟨T1, h1, X1, e1, W1, st⟩ := putF X hx hZ hown w via eT F E L wi hty hn hf hg hs hd
  exact own_go st (k T1 h1 ⟨_, X1, e1, Fr.snoc X1 N q⟩ W1)
theorem own_stI (A : own_At p l e R s m args below meth c n0 T h cells slots) (hx : p.tables.exec = Jvm.exec) (hZ : Z.Warmed39 s.vm) {v : Int32} (F : own_Arr Z h a .int n f) (hj : ¬ j < 0 ∧ j < n) (q : n0 ≤ a) {g : JFrame} (hg : g.method = m) {rest : List Value} (hs : g.stack = .int v :: .int j :: .ref a :: rest) (hd : decode c.code g.pc = .ok (.iastore, 1))
    (k : ∀ T' h', own_At p l e R s m args below meth c n0 T' h' cells slots → Wr h h' a j.toNatClampNeg (.int v) → own_Arr Z h' a .int n (fun i => if i = j then v else f i) → own_Go p.tables e below G (T'.setTop { g with pc := g.pc + 1, stack := rest })) : own_Go p.tables e below G (T.setTop g) := by
  obtain ⟨locs, X, eT, N⟩ := A
  obtain ⟨c1, A1, S1, M1, H1⟩ := id F
  obtain ⟨T1, h1, X1, e1, W1, st⟩ := stI X hx hZ eT A1 (inb_of S1 hj) hg hs hd
  exact own_go st (k T1 h1 ⟨_, X1, e1, Fr.snoc X1 N q⟩ W1 (F.set hj.1 W1))
theorem own_stB (A : own_At p l e R s m args below meth c n0 T h cells slots) (hx : p.tables.exec = Jvm.exec) (hZ : Z.Warmed39 s.vm) {v : Int32} (F : own_Arr Z h a .byte n f) (hj : ¬ j < 0 ∧ j < n) (q : n0 ≤ a) {g : JFrame} (hg : g.method = m) {rest : List Value} (hs : g.stack = .int v :: .int j :: .ref a :: rest) (hd : decode c.code g.pc = .ok (.bastore, 1))
    (k : ∀ T' h', own_At p l e R s m args below meth c n0 T' h' cells slots → Wr h h' a j.toNatClampNeg (.int (nar .byte v)) → own_Arr Z h' a .byte n (fun i => if i = j then nar .byte v else f i) → own_Go p.tables e below G (T'.setTop { g with pc := g.pc + 1, stack := rest })) : own_Go p.tables e below G (T.setTop g) := by
  obtain ⟨locs, X, eT, N⟩ := A
  obtain ⟨c1, A1, S1, M1, H1⟩ := id F
  obtain ⟨T1, h1, X1, e1, W1, st⟩ := stB X hx hZ eT A1 (inb_of S1 hj) hg hs hd
  exact own_go st (k T1 h1 ⟨_, X1, e1, Fr.snoc X1 N q⟩ W1 (F.set hj.1 W1))
theorem own_stC (A : own_At p l e R s m args below meth c n0 T h cells slots) (hx : p.tables.exec = Jvm.exec) (hZ : Z.Warmed39 s.vm) {v : Int32} (F : own_Arr Z h a .char n f) (hj : ¬ j < 0 ∧ j < n) (q : n0 ≤ a) {g : JFrame} (hg : g.method = m) {rest : List Value} (hs : g.stack = .int v :: .int j :: .ref a :: rest) (hd : decode c.code g.pc = .ok (.castore, 1))
    (k : ∀ T' h', own_At p l e R s m args below meth c n0 T' h' cells slots → Wr h h' a j.toNatClampNeg (.int (nar .char v)) → own_Arr Z h' a .char n (fun i => if i = j then nar .char v else f i) → own_Go p.tables e below G (T'.setTop { g with pc := g.pc + 1, stack := rest })) : own_Go p.tables e below G (T.setTop g) := by
  obtain ⟨locs, X, eT, N⟩ := A
  obtain ⟨c1, A1, S1, M1, H1⟩ := id F
  obtain ⟨T1, h1, X1, e1, W1, st⟩ := stC X hx hZ eT A1 (inb_of S1 hj) hg hs hd
  exact own_go st (k T1 h1 ⟨_, X1, e1, Fr.snoc X1 N q⟩ W1 (F.set hj.1 W1))
theorem own_ldI (A : own_At p l e R s m args below meth c n0 T h cells slots) (hx : p.tables.exec = Jvm.exec) (hZ : Z.Warmed39 s.vm) (F : own_Arr Z h a .int n f) (hj : ¬ j < 0 ∧ j < n) {g : JFrame} (hg : g.method = m) {rest : List Value} (hs : g.stack = .int j :: .ref a :: rest) (hd : decode c.code g.pc = .ok (.iaload, 1))
    (k : own_Go p.tables e below G (T.setTop { g with pc := g.pc + 1, stack := .int (f j) :: rest })) : own_Go p.tables e below G (T.setTop g) := by
  obtain ⟨locs, X, eT, N⟩ := A
  obtain ⟨c1, A1, S1, M1, H1⟩ := F
  exact own_go (fun t k => X.iaload hx (by rw [eT]; exact A1.1) (State.isArrayOf_alike hZ.alike A1.2.1) A1.2.2 (inb_of S1 hj) (H1 j hj.1 hj.2) hg hs hd t k) k
theorem own_ldB (A : own_At p l e R s m args below meth c n0 T h cells slots) (hx : p.tables.exec = Jvm.exec) (hZ : Z.Warmed39 s.vm) (F : own_Arr Z h a .byte n f) (hj : ¬ j < 0 ∧ j < n) {g : JFrame} (hg : g.method = m) {rest : List Value} (hs : g.stack = .int j :: .ref a :: rest) (hd : decode c.code g.pc = .ok (.baload, 1))
    (k : own_Go p.tables e below G (T.setTop { g with pc := g.pc + 1, stack := .int (f j) :: rest })) : own_Go p.tables e below G (T.setTop g) := by
  obtain ⟨locs, X, eT, N⟩ := A
  obtain ⟨c1, A1, S1, M1, H1⟩ := F
  exact own_go (fun t k => X.baloadBytes hx (by rw [eT]; exact A1.1) (State.isArrayOf_alike hZ.alike A1.2.1) A1.2.2 (inb_of S1 hj) (H1 j hj.1 hj.2) hg hs hd t k) k
theorem own_ldC (A : own_At p l e R s m args below meth c n0 T h cells slots) (hx : p.tables.exec = Jvm.exec) (hZ : Z.Warmed39 s.vm) (F : own_Arr Z h a .char n f) (hj : ¬ j < 0 ∧ j < n) {g : JFrame} (hg : g.method = m) {rest : List Value} (hs : g.stack = .int j :: .ref a :: rest) (hd : decode c.code g.pc = .ok (.caload, 1))
    (k : own_Go p.tables e below G (T.setTop { g with pc := g.pc + 1, stack := .int (f j) :: rest })) : own_Go p.tables e below G (T.setTop g) := by
  obtain ⟨locs, X, eT, N⟩ := A
  obtain ⟨c1, A1, S1, M1, H1⟩ := F
  exact own_go (fun t k => X.caload hx (by rw [eT]; exact A1.1) (State.isArrayOf_alike hZ.alike A1.2.1) A1.2.2 (inb_of S1 hj) (H1 j hj.1 hj.2) hg hs hd t k) k
theorem own_len (A : own_At p l e R s m args below meth c n0 T h cells slots) (hx : p.tables.exec = Jvm.exec) (hZ : Z.Warmed39 s.vm) (F : own_Arr Z h a ty n f) {g : JFrame} (hg : g.method = m) {rest : List Value} (hs : g.stack = .ref a :: rest) (hd : decode c.code g.pc = .ok (.arraylength, 1))
    (k : own_Go p.tables e below G (T.setTop { g with pc := g.pc + 1, stack := .int n :: rest })) : own_Go p.tables e below G (T.setTop g) := by
  obtain ⟨locs, X, eT, N⟩ := A
  obtain ⟨c1, A1, S1, M1, H1⟩ := F
  rw [← len_of S1 M1] at k
  exact own_go (fun t k => X.arraylength hx (by rw [eT]; exact A1.1) (State.isArrayOf_alike hZ.alike A1.2.1) hg hs hd t k) k
end OwnHeap
/-! small naturals as ints -/
theorem own_nI {i : Nat} (hi : i < 2 ^ 31) : (Int32.ofNat i).toInt = (i : Int) := Int32.toInt_ofNat_small hi
theorem own_nlt {i j : Nat} (hi : i < 2 ^ 31) (hj : j < 2 ^ 31) : (Int32.ofNat i < Int32.ofNat j) ↔ i < j := by rw [Int32.lt_iff_toInt_lt, own_nI hi, own_nI hj]; omega
theorem own_nn {i : Nat} (hi : i < 2 ^ 31) : ¬ Int32.ofNat i < 0 := by rw [Int32.lt_iff_toInt_lt, own_nI hi]; have : (0 : Int32).toInt = 0 := rfl; omega
theorem own_neq {i j : Nat} (hi : i < 2 ^ 31) (hj : j < 2 ^ 31) : (Int32.ofNat i = Int32.ofNat j) ↔ i = j := by rw [← Int32.toInt_inj, own_nI hi, own_nI hj]; omega
theorem own_nadd (i j : Nat) : Int32.ofNat i + Int32.ofNat j = Int32.ofNat (i + j) := (Int32.ofNat_add i j).symm
theorem own_nmul (i j : Nat) : Int32.ofNat i * Int32.ofNat j = Int32.ofNat (i * j) := (Int32.ofNat_mul i j).symm
theorem own_succ (i : Nat) : Int32.ofNat i + (1 : Int32) = Int32.ofNat (i + 1) := own_nadd i 1
theorem own_dbl (i : Nat) : (2 : Int32) * Int32.ofNat i = Int32.ofNat (2 * i) := own_nmul 2 i
theorem own_prd (i : Nat) : Int32.ofNat (i + 1) + (-1 : Int32) = Int32.ofNat i := by rw [← own_succ, Int32.add_assoc]; show Int32.ofNat i + 0 = _; rw [Int32.add_zero]
theorem own_sub1 (i : Nat) : Int32.ofNat (i + 1) - (1 : Int32) = Int32.ofNat i := by rw [← own_succ, Int32.add_sub_cancel]
theorem own_nge {i j : Nat} (hi : i < 2 ^ 31) (hj : j < 2 ^ 31) (h : ¬ Int32.ofNat i < Int32.ofNat j) : j ≤ i := Nat.le_of_not_lt fun z => h ((own_nlt hi hj).mpr z)
/-! small facts on ints and longs -/
theorem own_nl {x y : Int32} (h : y.toInt ≤ x.toInt) : ¬ x < y := by rw [Int32.lt_iff_toInt_lt]; omega
theorem own_lc0 {x y : Int64} (h : x.toInt = y.toInt) : lcmpW x y = 0 := (lw_eq x y).mpr (Int64.toInt_inj.mp h)
theorem own_lcge {x y : Int64} (h : y.toInt ≤ x.toInt) : ¬ lcmpW x y < 0 := by rw [lw_lt, Int64.lt_iff_toInt_lt]; omega
theorem own_lcle {x y : Int64} (h : x.toInt ≤ y.toInt) : ¬ 0 < lcmpW x y := by rw [lw_gt, Int64.lt_iff_toInt_lt]; omega
section OwnDbl
variable {p : Program} {l : Launch} {e : Env} {R : Room} {s : State} {m : MethodId} {args : Array Value} {below : List Frame} {meth : Method} {c : Code} {T : State} {cells slots : Nat} {Z : State} {a0 : Array Value} {h : Heap} {n0 : Nat} {G : State → Outcome → Prop}
theorem own_andB {c d : Jvm.Cond} (h1 : c.before a0 Z = true) (h2 : d.before a0 Z = true) : (Jvm.Cond.and c d).before a0 Z = true := by rw [Cond.before_and, h1, h2]; rfl
/-- a static call paid by a pure law of the library -/
theorem own_callSP (A : own_At p l e R s m args below meth c n0 T h cells slots) (hx : p.tables.exec = Jvm.exec) (hZ : Z.Warmed39 s.vm) {own : String} {index : Nat} {y : MethodName} {bytes : ByteArray} {maxL : Nat} {ret : Option FieldType} (hown : s.vm.findClass own = some m.cls)
    (w1 : (Cond.methodLink own index y).before a0 Z = true) (w2 : (Cond.static y).before a0 Z = true) (w3 : (Cond.initialized y.cls).before a0 Z = true) (w4 : (Cond.code y bytes maxL ret).before a0 Z = true) (hy : y.cls ≠ "java/lang/invoke/MethodHandle" ∧ y.cls ≠ "java/lang/invoke/VarHandle")
    {W : Nat} {PP : Array Value → Prop} {VV : Array Value → Option Value → Prop} (hK : Back l R p e below s args y 3 W (fun A a => A.cells ≤ R.cells ∧ A.slots ≤ R.slots ∧ PP a) (fun A a v B => pureAt A B ∧ VV a v)) {argsL rest : List Value} (hP : PP argsL.toArray) {g : JFrame} (hg : g.method = m) (hsize : g.locals.size = c.maxLocals)
    (hlen : ∀ sig, parseMethodDescriptor y.desc = some sig → argsL.length = sig.parameters.length) (hs : g.stack = argsL.reverse ++ rest) (hW : 2 * g.monitorRoom + (rest.map fun v => v.category).sum ≤ W) (hd : decode c.code g.pc = .ok (.invokestatic index, 3)) (hc : cells ≤ R.cells) (hl : slots ≤ R.slots)
    (k : ∀ v T', own_At p l e R s m args below meth c n0 T' h cells slots → VV argsL.toArray v → own_Go p.tables e below G (T'.setTop { g with pc := g.pc + 3, stack := v.toList ++ rest })) : own_Go p.tables e below G (T.setTop g) := by
  obtain ⟨locs, X, eT, N⟩ := A
  obtain ⟨v, _, ⟨T1, L1, k1, s1⟩, -, X1, ⟨⟨q1, q2, q3, q4⟩, hV⟩, st⟩ := Jvm.LawKit.callS X hx (y := y) hown (mvT hZ w1) (mvT hZ w2) (mvT hZ w3) (mvT hZ w4) hy hK hg hsize (argsL := argsL) (rest := rest) hlen hs hW hd (fun _ _ => ⟨hc, hl, hP⟩)
  dsimp only [Pt.U, Pt.locs, Pt.cells, Pt.slots] at X1 q1 q2 q3 q4 st
  subst q2 q3 q4
  exact own_go (fun t k => st t k) (k v T1 ⟨_, X1, q1.trans eT, N⟩ hV)
theorem own_nnan (a : Int64) : Jvm.Free.Fl.NoNaN64 (FP.l2d a) := nn_w rfl
end OwnDbl
section OwnW
variable {p : Program} {l : Launch} {e : Env} {R : Room} {s : State} {m : MethodId} {args : Array Value} {below : List Frame} {meth : Method} {c : Code} {T : State} {cells slots : Nat} {Z : State} {a0 : Array Value} {h : Heap} {n0 : Nat} {G : State → Outcome → Prop} {Q : Option Value → Heap → Prop} {vm0 : Vm} {k0 kc ks : Nat} {Ts : List String}
/-- the end of a body that may have interned -/
def own_EndW (n0 : Nat) (s : State) (kc ks : Nat) (Q : Option Value → Heap → Prop) : State → Outcome → Prop := fun s₂ o => ∃ v L, o = .returned v ∧ (Q v s₂.heap ∧ Fr n0 L) ∧ ReturnedEndW s o s₂ L kc ks
theorem own_leaveW (A : own_At p l e R (s.setVm vm0) m args below meth c n0 T h cells slots) (hS : s.Since vm0 k0) (hk : k0 ≤ h.size) {v : Option Value} (hv : meth.sig.returnType = none → v = none) (hlk : meth.locks = false) (hc : cells ≤ kc) (hs : slots ≤ ks) (q : Q v h) {U : State}
    (st : ∀ locs, Stand p l e R (s.setVm vm0) m args below meth c T locs cells slots → ∀ fs, (∀ (f : JFrame) (acts : List Action), f.method = m → f.locked = none → f.entered = [] → (doReturn e (T.setTop f) acts v).1 = T.setFrames fs) → Steps p.tables e below U (T.setFrames fs)) : own_Go p.tables e below (own_EndW n0 s kc ks Q) U := by
  obtain ⟨locs, X, rfl, N⟩ := A
  obtain ⟨fs, hr, hrun, hended, e1, e2, e3, e4⟩ := X.leaveW hS hk hv hlk
  exact ⟨_, _, st locs X fs hr, hrun, hended, _, _, rfl, ⟨q, N⟩, e1, e2, e3, e4.mono hc hs⟩
theorem own_retNW (A : own_At p l e R (s.setVm vm0) m args below meth c n0 T h cells slots) (hx : p.tables.exec = Jvm.exec) {t : FieldType} (hret : meth.sig.returnType = some t) (ht : t = .boolean ∨ t = .byte ∨ t = .char ∨ t = .short) (hlk : meth.locks = false) (hc : cells ≤ kc) (hs : slots ≤ ks) (hS : s.Since vm0 k0) (hk : k0 ≤ h.size) {pc : Nat} {Ls : Array Slot} {z : Int32} {rest : List Value} (hd : decode c.code pc = .ok (.ireturn, 1)) (q : Q (some (.int (nar t z))) h) :
    own_Go p.tables e below (own_EndW n0 s kc ks Q) (T.setTop (mkF m pc Ls (.int z :: rest))) :=
  own_leaveW A hS hk (fun q => by rw [hret] at q; cases q) hlk hc hs q fun _ X _ hr => retN X hx hret ht hd hr
/-- a contract of a body that may intern: Ts are the texts that the run has loaded before -/
def own_MetW (l : Launch) (Z : State) (n0 : Nat) (y : MethodName) (bytes : ByteArray) (maxL : Nat) (ret : Option FieldType) (rm : Room) (as' : Array Value) (h0 : Heap) (Ts : List String) (Q : Option Value → Heap → Prop) : Prop :=
  ∀ ws, MetFree l y (head1 (Cond.code y bytes maxL ret :: ws) rm) (fun a U => a = as' ∧ Z.Warmed39 U.vm ∧ U.heap = h0 ∧ IB Z U.vm Ts) (fun _ _ _ _ _ => True) (fun _ U o U' => ∃ v L, o = .returned v ∧ (Q v U'.heap ∧ Fr n0 L) ∧ ReturnedEndW U o U' L rm.cells rm.slots)
theorem own_metW {y : MethodName} {bytes : ByteArray} {maxL : Nat} {ret : Option FieldType} {rm : Room} {as' : Array Value} {h0 : Heap} (hp : plainFor y = true)
    (body : ∀ (p : Program) (e : Env) (s : State) (m : MethodId) (below : List Frame) (meth : Method) (c : Code) (T : State), p.tables.exec = Jvm.exec → c.code = bytes → c.maxLocals = maxL → (s.setVm s.vm).vm.findClass y.cls = some m.cls → meth.name = y.name → meth.sig.returnType = ret → meth.locks = false → Z.Warmed39 (s.setVm s.vm).vm →
      own_At p l e rm (s.setVm s.vm) m as' below meth c n0 T h0 0 0 → s.heap = h0 → s.Since s.vm 0 → IB Z s.vm Ts → own_Go p.tables e below (own_EndW n0 s rm.cells rm.slots Q) (T.setTop (entryFrame m as' maxL))) : own_MetW l Z n0 y bytes maxL ret rm as' h0 Ts Q := by
  intro ws
  refine MetFree.of_bodySF hp hisR ?_
  intro p e s m args below meth c s₁ Bd hml0 hP hK
  obtain ⟨rfl, hZ, hh, hI⟩ := hP
  exact body p e s m below meth c s₁ Bd.exec Bd.bytes hml0 (findClass_of_methodNamed Bd.named) (name_of_methodNamed Bd.named Bd.method).1 Bd.returns Bd.notSynchronized hZ ⟨[], Stand.of_body Bd, by rw [← hh, Bd.state]; rfl, Fr.nil n0⟩ hh ((State.WarmedH.refl s).since 0) hI
theorem own_Arr.ofL {b : Addr} {ty : FieldType} {k : ClassId} {z : Int32} {xs : List Int32} {d : Value} (V : Arv Z h b k ty z (xs.map Value.int) d) (hl : z.toNatClampNeg = xs.length) : own_Arr Z h b ty z (fun j => xs.getD j.toNatClampNeg 0) := by
  obtain ⟨cl, A, -, S, M, H, -⟩ := V
  refine ⟨cl, A, S, M, fun j h0 h1 => ?_⟩
  have hj : j.toNatClampNeg < cl.slots.size := by
    have q := inb_of S ⟨h0, h1⟩
    exact Nat.lt_of_not_le fun z => q (Or.inr z)
  have q := H j.toNatClampNeg hj
  show _ = some (Value.int (xs.getD j.toNatClampNeg 0))
  rw [q, List.getD_eq_getElem?_getD, List.getElem?_map, List.getD_eq_getElem?_getD]
  rw [S, hl] at hj
  rw [List.getElem?_eq_getElem hj]
  rfl
/-- ldc of a String constant, cold or warm: what lies behind it -/
theorem own_ldcV (A : own_At p l e R (s.setVm vm0) m args below meth c n0 T h cells slots) (hx : p.tables.exec = Jvm.exec) (hZ : Z.Warmed39 (s.setVm vm0).vm) {own text : String} {index : Nat} (hown : (s.setVm vm0).vm.findClass own = some m.cls) (w : (Cond.stringLink own index text).before a0 Z = true) (wS : ∀ a ∈ Bundle.stringAtoms, a.before a0 Z = true)
    (hS : s.Since vm0 k0) (hk : k0 ≤ h.size) (hn0 : s.heap.size ≤ n0) (hkeep : ∀ (b : Addr) (cl : Cell), Z.heap[b]? = some cl → s.heap[b]? = some cl) (I : IB Z vm0 Ts) (hnot : text ∉ Ts) (hh : Jvm.Lit.constHeld Z own index) (hcw : Jvm.Lit.compactW.before a0 Z = true)
    {xs : List Int32} {z : Int32} (ht : (∀ c ∈ text.toList, c.toNat < 256) ∧ text.toList.map (fun c => Value.int (Jvm.Lit.byteI c.toNat.toUInt16)) = xs.map Value.int) (hz : ¬ z < 0) (hl : z.toNatClampNeg = xs.length)
    {g : JFrame} (hg : g.method = m) (hd : decode c.code g.pc = .ok (.ldc index, 2)) (n : Nat) (hn : 4 * text.toList.length ≤ n) (hbig : n ≤ 536870912) (hc : cells + 2 ≤ R.cells) (hl' : slots + (n + 4) ≤ R.slots)
    (k : ∀ T' h' a b vm1 k1, own_At p l e R (s.setVm vm1) m args below meth c n0 T' h' (cells + 2) (slots + (n + 4)) → Ext h h' → s.Since vm1 k1 → k1 ≤ h'.size → Z.Warmed39 (s.setVm vm1).vm → (s.setVm vm1).vm.findClass own = some m.cls → IB Z vm1 (text :: Ts) →
      Exa Z h' a "java/lang/String" → Fld Z h' a "java/lang/String" "coder" "B" (.int 0) → Fld Z h' a "java/lang/String" "value" "[B" (.ref b) → own_Arr Z h' b .byte z (fun j => xs.getD j.toNatClampNeg 0) → own_Go p.tables e below G (T'.setTop { g with pc := g.pc + 2, stack := .ref a :: g.stack })) : own_Go p.tables e below G (T.setTop g) := by
  obtain ⟨locs, X, eT, N⟩ := A
  obtain ⟨a, T', h', k1, b, kk, r1, r2, r3, r4, r5, r6, r7, r8, r9, r10, r11, r12, r13, r14, r15⟩ := ldcSV X hx hZ hown w wS eT hS hk (fun y hy => Nat.le_trans hn0 (N y hy)) hkeep I hnot hh hcw ht hz (by rw [List.length_map]; exact hl) hg hd hn hbig hc hl'
  exact own_go r15 (k T' h' a b T'.vm k1 ⟨_, r1, r2, N⟩ r3 r4 r5 r6 r7 r14 r8 r9 r10 (own_Arr.ofL r11 hl))
end OwnW
theorem own_fin (q : Int64) : (if Jvm.Free.Fl.relLe (FP.dcmp (FP.l2d q &&& 0x7fffffffffffffff) Jvm.Free.Fl.maxD) = true then (1 : Int32) else 0) = 1 := if_pos ((Jvm.Free.Fl.le_max_iff (own_nnan q)).mpr (Jvm.Free.Fl.l2d_fin q))
theorem own_dc0 : FP.dconst0 = FP.l2d 0 := by decide +kernel
theorem own_dge0 {q : Int64} (h0 : 0 ≤ q.toInt) (h1 : B53 q) : ¬ cmpValue (FP.dcmp (FP.l2d q) FP.dconst0) .g < (0 : Int32) := by
  rw [own_dc0, dcmpV_w h1 ⟨by decide, by decide⟩]
  exact own_lcge (by rw [show (0 : Int64).toInt = 0 from rfl]; exact h0)
theorem own_pos (p : Int32) : 0 ≤ (p &&& (2147483647 : Int32)).toInt64.toInt := by rw [c_i2l]; exact (c_and p 2147483647 (by decide)).1
theorem own_b53 (x : Int32) : B53 x.toInt64 := by
  have := rng32 x
  constructor <;> rw [c_i2l] <;> omega
theorem ef_1 (m : MethodId) (p0 : Int32) (p1 : Int32) : entryFrame m #[(.int p0), (.int p1)] 2 = mkF m 0 #[.val (.int p0), .val (.int p1)] [] := by first | (simp [entryFrame, mkF, argsToLocals, Value.category]; done) | rfl
theorem pf_1 : plainFor (⟨"java/lang/Math", "max", "(II)I"⟩ : MethodName) = true := by decide +kernel
theorem d1_0 : decode jdk_29_method_65_code 0 = .ok (.iload_n 0, 1) := by decide +kernel
theorem d1_1 : decode jdk_29_method_65_code 1 = .ok (.iload_n 1, 1) := by decide +kernel
theorem d1_2 : decode jdk_29_method_65_code 2 = .ok (.if_icmp .lt 7, 3) := by decide +kernel
theorem d1_9 : decode jdk_29_method_65_code 9 = .ok (.iload_n 1, 1) := by decide +kernel
theorem d1_5 : decode jdk_29_method_65_code 5 = .ok (.iload_n 0, 1) := by decide +kernel
theorem d1_6 : decode jdk_29_method_65_code 6 = .ok (.goto 4, 3) := by decide +kernel
theorem d1_10 : decode jdk_29_method_65_code 10 = .ok (.ireturn, 1) := by decide +kernel
def f1 (p0 : Int32) (p1 : Int32) : Int32 := (if p0 < p1 then p1 else p0)
set_option maxRecDepth 65536 in
set_option maxHeartbeats 40000000 in
theorem rm1 (l : Launch) (Z : State) (a0 : Array Value) (hw : ∀ d ∈ tables_1, d.before a0 Z = true) (p0 : Int32) (p1 : Int32) (h0 : Heap) (n0 : Nat) :
    own_Met l Z n0 (⟨"java/lang/Math", "max", "(II)I"⟩ : MethodName) jdk_29_method_65_code 2 (some .int) ({ frames := 0, cells := 0, slots := 0, locals := 0 } : Room) #[(.int p0), (.int p1)] h0 (fun v h => v = some (.int (f1 p0 p1)) ∧ h0 = h) := by
  refine own_met pf_1 ?_
  intro p e s m below meth c T0 hx hby hml hown hnm hret hlk hZ A0
  rw [ef_1]
  show own_Go _ _ _ _ (T0.setTop (mkF m 0 #[.val (.int p0), .val (.int p1)] []))
  refine own_go (fun t_ k_ => XS.iloadN A0.here hx rfl (hb hby d1_0) rfl k_) ?_
  show own_Go _ _ _ _ (T0.setTop (mkF m 1 #[.val (.int p0), .val (.int p1)] [(.int p0)]))
  refine own_go (fun t_ k_ => XS.iloadN A0.here hx rfl (hb hby d1_1) rfl k_) ?_
  show own_Go _ _ _ _ (T0.setTop (mkF m 2 #[.val (.int p0), .val (.int p1)] [(.int p1), (.int p0)]))
  have mg1 : ∀ t_, Steps p.tables e below (T0.setTop (mkF m 10 #[.val (.int p0), .val (.int p1)] [(.int (if p0 < p1 then p1 else p0))])) t_ → Steps p.tables e below (T0.setTop (mkF m 2 #[.val (.int p0), .val (.int p1)] [(.int p1), (.int p0)])) t_ := by
    intro t_ k_
    by_cases hm2_0 : p0 < p1
    ·
      simp only [if_pos hm2_0] at k_
      exact (XS.icmpYes A0.here hx rfl (pc0 := 2) (pc' := 9) rfl (hb hby d1_2) rfl (tlt hm2_0).1 (by decide) (by decide) (XS.iloadN A0.here hx rfl (hb hby d1_9) rfl k_))
    ·
      simp only [if_neg hm2_0] at k_
      exact (XS.icmpNo A0.here hx rfl (hb hby d1_2) rfl (flt hm2_0).1 (XS.iloadN A0.here hx rfl (hb hby d1_5) rfl (XS.goto A0.here hx rfl (pc0 := 6) (pc' := 10) rfl (hb hby d1_6) (by decide) (by decide) k_)))
  refine own_go mg1 ?_
  show own_Go _ _ _ _ (T0.setTop (mkF m 10 #[.val (.int p0), .val (.int p1)] [(.int (if p0 < p1 then p1 else p0))]))
  refine own_retI A0 hx hret hlk (by decide) (by decide) (hb hby d1_10) ?_
  exact ⟨rfl, rfl⟩
theorem ef_3 (m : MethodId) (r0 : Addr) : entryFrame m #[(.ref r0)] 1 = mkF m 0 #[.val (.ref r0)] [] := by first | (simp [entryFrame, mkF, argsToLocals, Value.category]; done) | rfl
theorem pn_3 : plainName "java/lang/Record" = true := by first | (simp [plainName, overriddenIn]; done) | decide +kernel
theorem d3_0 : decode jdk_30_method_1_code 0 = .ok (.aload_n 0, 1) := by decide +kernel
theorem d3_1 : decode jdk_30_method_1_code 1 = .ok (.invokespecial 1, 3) := by decide +kernel
theorem d3_4 : decode jdk_30_method_1_code 4 = .ok (.return_, 1) := by decide +kernel
set_option maxRecDepth 65536 in
set_option maxHeartbeats 40000000 in
theorem rm3 (l : Launch) (Z : State) (a0 : Array Value) (hw : ∀ d ∈ tables_1, d.before a0 Z = true) (r0 : Addr) (h0 : Heap) (n0 : Nat) :
    own_Met l Z n0 (⟨"java/lang/Record", "<init>", "()V"⟩ : MethodName) jdk_30_method_1_code 1 none ({ frames := 1, cells := 0, slots := 0, locals := 12 } : Room) #[(.ref r0)] h0 (fun v h => v = none ∧ h0 = h) := by
  refine own_met (plainFor_of_name pn_3) ?_
  intro p e s m below meth c T0 hx hby hml hown hnm hret hlk hZ A0
  rw [ef_3]
  show own_Go _ _ _ _ (T0.setTop (mkF m 0 #[.val (.ref r0)] []))
  refine own_go (fun t_ k_ => XS.aloadN A0.here hx rfl (hb hby d3_0) rfl rfl k_) ?_
  show own_Go _ _ _ _ (T0.setTop (mkF m 1 #[.val (.ref r0)] [(.ref r0)]))
  refine own_initO A0 hx hZ hown (hw _ (List.mem_of_getElem? (i := 23) rfl)) (hw _ (List.mem_of_getElem? (i := 24) rfl)) (hw _ (List.mem_of_getElem? (i := 25) rfl)) rfl (by rw [hml]; rfl) rfl (hb hby d3_1) (by decide) 0 (by show 2 * 0 + _ ≤ _; exact Nat.le_of_eq rfl) (by decide) (fun T1 A2 => ?_)
  show own_Go _ _ _ _ (T1.setTop (mkF m 4 #[.val (.ref r0)] []))
  refine own_retV A2 hx hret hlk (by decide) (by decide) (hb hby d3_4) ?_
  exact ⟨rfl, rfl⟩
theorem ef_5 (m : MethodId) (r0 : Addr) : entryFrame m #[(.ref r0)] 1 = mkF m 0 #[.val (.ref r0)] [] := by first | (simp [entryFrame, mkF, argsToLocals, Value.category]; done) | rfl
theorem pn_5 : plainName "java/lang/String" = true := by first | (simp [plainName, overriddenIn]; done) | decide +kernel
theorem d5_0 : decode jdk_42_method_55_code 0 = .ok (.aload_n 0, 1) := by decide +kernel
theorem d5_1 : decode jdk_42_method_55_code 1 = .ok (.getfield 9, 3) := by decide +kernel
theorem d5_4 : decode jdk_42_method_55_code 4 = .ok (.arraylength, 1) := by decide +kernel
theorem d5_5 : decode jdk_42_method_55_code 5 = .ok (.ifCond .ne 7, 3) := by decide +kernel
theorem d5_12 : decode jdk_42_method_55_code 12 = .ok (.iconst 0, 1) := by decide +kernel
theorem d5_13 : decode jdk_42_method_55_code 13 = .ok (.ireturn, 1) := by decide +kernel
def f5 (g : Int32 → Int32) : Int32 := (0 : Int32)
set_option maxRecDepth 65536 in
set_option maxHeartbeats 40000000 in
theorem rm5 (l : Launch) (Z : State) (a0 : Array Value) (hw : ∀ d ∈ tables_1, d.before a0 Z = true) (r0 : Addr) (t0 : Addr) (g : Int32 → Int32) (h0 : Heap) (n0 : Nat) (Fv : Fld Z h0 r0 "java/lang/String" "value" "[B" (.ref t0)) (V0 : own_Arr Z h0 t0 .byte (1 : Int32) g) :
    own_Met l Z n0 (⟨"java/lang/String", "isEmpty", "()Z"⟩ : MethodName) jdk_42_method_55_code 1 (some .boolean) ({ frames := 0, cells := 0, slots := 0, locals := 0 } : Room) #[(.ref r0)] h0 (fun v h => v = some (.int (f5 g)) ∧ h0 = h) := by
  refine own_met (plainFor_of_name pn_5) ?_
  intro p e s m below meth c T0 hx hby hml hown hnm hret hlk hZ A0
  rw [ef_5]
  show own_Go _ _ _ _ (T0.setTop (mkF m 0 #[.val (.ref r0)] []))
  refine own_go (fun t_ k_ => XS.aloadN A0.here hx rfl (hb hby d5_0) rfl rfl k_) ?_
  show own_Go _ _ _ _ (T0.setTop (mkF m 1 #[.val (.ref r0)] [(.ref r0)]))
  refine own_getF A0 hx hZ hown (host := "") (Or.inl (hw _ (List.mem_of_getElem? (i := 31) rfl))) Via.refl Fv rfl rfl (hb hby d5_1) (fun T1 A2 => ?_)
  show own_Go _ _ _ _ (T1.setTop (mkF m 4 #[.val (.ref r0)] [(.ref t0)]))
  refine own_len A2 hx hZ V0 rfl rfl (hb hby d5_4) ?_
  show own_Go _ _ _ _ (T1.setTop (mkF m 5 #[.val (.ref r0)] [(.int (1 : Int32))]))
  have hc3 : ¬ ((1 : Int32) = (0 : Int32)) := (by decide)
  refine own_go (fun t_ k_ => XS.ifYes A2.here hx rfl (pc0 := 5) (pc' := 12) rfl (hb hby d5_5) rfl ((if0 _ _).trans (feq hc3).2) (by decide) (by decide) k_) ?_
  show own_Go _ _ _ _ (T1.setTop (mkF m 12 #[.val (.ref r0)] []))
  refine own_go (fun t_ k_ => XS.iconst A2.here hx rfl (hb hby d5_12) k_) ?_
  show own_Go _ _ _ _ (T1.setTop (mkF m 13 #[.val (.ref r0)] [(.int (0 : Int32))]))
  refine own_retN A2 hx (t := .boolean) hret (by simp) hlk (by decide) (by decide) (hb hby d5_13) ?_
  exact ⟨rfl, rfl⟩
theorem ef_8 (m : MethodId) (r0 : Addr) (p1 : Int32) : entryFrame m #[(.ref r0), (.int p1)] 2 = mkF m 0 #[.val (.ref r0), .val (.int p1)] [] := by first | (simp [entryFrame, mkF, argsToLocals, Value.category]; done) | rfl
theorem pn_8 : plainName "com/example/gavelwright/gavelwright/model/Bid" = true := by first | (simp [plainName, overriddenIn]; done) | decide +kernel
theorem d8_0 : decode prog_72_method_2_code 0 = .ok (.aload_n 0, 1) := by decide +kernel
theorem d8_1 : decode prog_72_method_2_code 1 = .ok (.getfield 43, 3) := by decide +kernel
theorem d8_4 : decode prog_72_method_2_code 4 = .ok (.iload_n 1, 1) := by decide +kernel
theorem d8_5 : decode prog_72_method_2_code 5 = .ok (.if_icmp .gt 15, 3) := by decide +kernel
theorem d8_20 : decode prog_72_method_2_code 20 = .ok (.iconst 0, 1) := by decide +kernel
theorem d8_21 : decode prog_72_method_2_code 21 = .ok (.ireturn, 1) := by decide +kernel
theorem d8_8 : decode prog_72_method_2_code 8 = .ok (.iload_n 1, 1) := by decide +kernel
theorem d8_9 : decode prog_72_method_2_code 9 = .ok (.aload_n 0, 1) := by decide +kernel
theorem d8_10 : decode prog_72_method_2_code 10 = .ok (.getfield 47, 3) := by decide +kernel
theorem d8_13 : decode prog_72_method_2_code 13 = .ok (.if_icmp .gt 7, 3) := by decide +kernel
theorem d8_16 : decode prog_72_method_2_code 16 = .ok (.iconst 1, 1) := by decide +kernel
theorem d8_17 : decode prog_72_method_2_code 17 = .ok (.goto 4, 3) := by decide +kernel
def f8 (p1 : Int32) (w_arrival_r0 : Int32) (w_departure_r0 : Int32) : Int32 := (if p1 < w_arrival_r0 then (0 : Int32) else (nar .boolean (if w_departure_r0 < p1 then (0 : Int32) else (1 : Int32))))
set_option maxRecDepth 65536 in
set_option maxHeartbeats 40000000 in
theorem rm8 (l : Launch) (Z : State) (a0 : Array Value) (hw : ∀ d ∈ tables_1, d.before a0 Z = true) (r0 : Addr) (p1 : Int32) (w_arrival_r0 : Int32) (w_departure_r0 : Int32) (h0 : Heap) (n0 : Nat) (F_arrival_r0 : Fld Z h0 r0 "com/example/gavelwright/gavelwright/model/Bid" "arrival" "I" (.int w_arrival_r0)) (F_departure_r0 : Fld Z h0 r0 "com/example/gavelwright/gavelwright/model/Bid" "departure" "I" (.int w_departure_r0)) :
    own_Met l Z n0 (⟨"com/example/gavelwright/gavelwright/model/Bid", "isPresentAt", "(I)Z"⟩ : MethodName) prog_72_method_2_code 2 (some .boolean) ({ frames := 0, cells := 0, slots := 0, locals := 0 } : Room) #[(.ref r0), (.int p1)] h0 (fun v h => v = some (.int (f8 p1 w_arrival_r0 w_departure_r0)) ∧ h0 = h) := by
  refine own_met (plainFor_of_name pn_8) ?_
  intro p e s m below meth c T0 hx hby hml hown hnm hret hlk hZ A0
  rw [ef_8]
  show own_Go _ _ _ _ (T0.setTop (mkF m 0 #[.val (.ref r0), .val (.int p1)] []))
  refine own_go (fun t_ k_ => XS.aloadN A0.here hx rfl (hb hby d8_0) rfl rfl k_) ?_
  show own_Go _ _ _ _ (T0.setTop (mkF m 1 #[.val (.ref r0), .val (.int p1)] [(.ref r0)]))
  refine own_getF A0 hx hZ hown (host := "") (Or.inl (hw _ (List.mem_of_getElem? (i := 42) rfl))) Via.refl F_arrival_r0 rfl rfl (hb hby d8_1) (fun T1 A2 => ?_)
  show own_Go _ _ _ _ (T1.setTop (mkF m 4 #[.val (.ref r0), .val (.int p1)] [(.int w_arrival_r0)]))
  refine own_go (fun t_ k_ => XS.iloadN A2.here hx rfl (hb hby d8_4) rfl k_) ?_
  show own_Go _ _ _ _ (T1.setTop (mkF m 5 #[.val (.ref r0), .val (.int p1)] [(.int p1), (.int w_arrival_r0)]))
  by_cases hc3 : p1 < w_arrival_r0
  ·
    refine own_go (fun t_ k_ => XS.icmpYes A2.here hx rfl (pc0 := 5) (pc' := 20) rfl (hb hby d8_5) rfl (tlt hc3).2.2.1 (by decide) (by decide) k_) ?_
    show own_Go _ _ _ _ (T1.setTop (mkF m 20 #[.val (.ref r0), .val (.int p1)] []))
    refine own_go (fun t_ k_ => XS.iconst A2.here hx rfl (hb hby d8_20) k_) ?_
    show own_Go _ _ _ _ (T1.setTop (mkF m 21 #[.val (.ref r0), .val (.int p1)] [(.int (0 : Int32))]))
    refine own_retN A2 hx (t := .boolean) hret (by simp) hlk (by decide) (by decide) (hb hby d8_21) ?_
    exact ⟨congrArg (fun z => some (Value.int z)) (by simp only [f8, if_pos hc3] <;> rfl), rfl⟩
  ·
    refine own_go (fun t_ k_ => XS.icmpNo A2.here hx rfl (hb hby d8_5) rfl (flt hc3).2.2.1 k_) ?_
    show own_Go _ _ _ _ (T1.setTop (mkF m 8 #[.val (.ref r0), .val (.int p1)] []))
    refine own_go (fun t_ k_ => XS.iloadN A2.here hx rfl (hb hby d8_8) rfl k_) ?_
    show own_Go _ _ _ _ (T1.setTop (mkF m 9 #[.val (.ref r0), .val (.int p1)] [(.int p1)]))
    refine own_go (fun t_ k_ => XS.aloadN A2.here hx rfl (hb hby d8_9) rfl rfl k_) ?_
    show own_Go _ _ _ _ (T1.setTop (mkF m 10 #[.val (.ref r0), .val (.int p1)] [(.ref r0), (.int p1)]))
    refine own_getF A2 hx hZ hown (host := "") (Or.inl (hw _ (List.mem_of_getElem? (i := 44) rfl))) Via.refl F_departure_r0 rfl rfl (hb hby d8_10) (fun T4 A5 => ?_)
    show own_Go _ _ _ _ (T4.setTop (mkF m 13 #[.val (.ref r0), .val (.int p1)] [(.int w_departure_r0), (.int p1)]))
    have mg6 : ∀ t_, Steps p.tables e below (T4.setTop (mkF m 21 #[.val (.ref r0), .val (.int p1)] [(.int (if w_departure_r0 < p1 then (0 : Int32) else (1 : Int32)))])) t_ → Steps p.tables e below (T4.setTop (mkF m 13 #[.val (.ref r0), .val (.int p1)] [(.int w_departure_r0), (.int p1)])) t_ := by
      intro t_ k_
      by_cases hm13_0 : w_departure_r0 < p1
      ·
        simp only [if_pos hm13_0] at k_
        exact (XS.icmpYes A5.here hx rfl (pc0 := 13) (pc' := 20) rfl (hb hby d8_13) rfl (tlt hm13_0).2.2.1 (by decide) (by decide) (XS.iconst A5.here hx rfl (hb hby d8_20) k_))
      ·
        simp only [if_neg hm13_0] at k_
        exact (XS.icmpNo A5.here hx rfl (hb hby d8_13) rfl (flt hm13_0).2.2.1 (XS.iconst A5.here hx rfl (hb hby d8_16) (XS.goto A5.here hx rfl (pc0 := 17) (pc' := 21) rfl (hb hby d8_17) (by decide) (by decide) k_)))
    refine own_go mg6 ?_
    show own_Go _ _ _ _ (T4.setTop (mkF m 21 #[.val (.ref r0), .val (.int p1)] [(.int (if w_departure_r0 < p1 then (0 : Int32) else (1 : Int32)))]))
    refine own_retN A5 hx (t := .boolean) hret (by simp) hlk (by decide) (by decide) (hb hby d8_21) ?_
    exact ⟨congrArg (fun z => some (Value.int z)) (by simp only [f8, if_neg hc3]), rfl⟩
theorem own_add0 {q : Int64} (h : B53 q) : FP.dadd (FP.l2d q) FP.dconst0 = FP.l2d (q + 0) := by rw [own_dc0]; exact dadd_w h ⟨by decide, by decide⟩
theorem ef_2 (m : MethodId) (r0 : Addr) (r1 : Addr) (p2 : Int32) (p3 : Int32) (y4 : UInt64) : entryFrame m #[(.ref r0), (.ref r1), (.int p2), (.int p3), (.double y4)] 6 = mkF m 0 #[.val (.ref r0), .val (.ref r1), .val (.int p2), .val (.int p3), .val (.double y4), .second] [] := by first | (simp [entryFrame, mkF, argsToLocals, Value.category]; done) | rfl
theorem d2_0 : decode prog_72_method_1_code 0 = .ok (.aload_n 0, 1) := by decide +kernel
theorem d2_1 : decode prog_72_method_1_code 1 = .ok (.invokespecial 1, 3) := by decide +kernel
theorem pd___V : parseMethodDescriptor "()V" = some ⟨[], none⟩ := by decide +kernel
theorem d2_4 : decode prog_72_method_1_code 4 = .ok (.aload_n 1, 1) := by decide +kernel
theorem d2_5 : decode prog_72_method_1_code 5 = .ok (.invokevirtual 7, 3) := by decide +kernel
theorem pd___Z : parseMethodDescriptor "()Z" = some ⟨[], some .boolean⟩ := by decide +kernel
theorem d2_8 : decode prog_72_method_1_code 8 = .ok (.ifCond .eq 13, 3) := by decide +kernel
theorem d2_21 : decode prog_72_method_1_code 21 = .ok (.iload_n 2, 1) := by decide +kernel
theorem d2_22 : decode prog_72_method_1_code 22 = .ok (.iconst 1, 1) := by decide +kernel
theorem d2_23 : decode prog_72_method_1_code 23 = .ok (.if_icmp .ge 17, 3) := by decide +kernel
theorem d2_40 : decode prog_72_method_1_code 40 = .ok (.iload_n 3, 1) := by decide +kernel
theorem d2_41 : decode prog_72_method_1_code 41 = .ok (.iload_n 2, 1) := by decide +kernel
theorem d2_42 : decode prog_72_method_1_code 42 = .ok (.if_icmp .ge 18, 3) := by decide +kernel
theorem d2_60 : decode prog_72_method_1_code 60 = .ok (.dload 4, 2) := by decide +kernel
theorem d2_62 : decode prog_72_method_1_code 62 = .ok (.invokestatic 27, 3) := by decide +kernel
theorem pd__D_Z : parseMethodDescriptor "(D)Z" = some ⟨[.double], some .boolean⟩ := by decide +kernel
theorem d2_65 : decode prog_72_method_1_code 65 = .ok (.ifCond .ne 18, 3) := by decide +kernel
theorem d2_83 : decode prog_72_method_1_code 83 = .ok (.dload 4, 2) := by decide +kernel
theorem d2_85 : decode prog_72_method_1_code 85 = .ok (.dconst 0, 1) := by decide +kernel
theorem d2_86 : decode prog_72_method_1_code 86 = .ok (.dcmp .g, 1) := by decide +kernel
theorem d2_87 : decode prog_72_method_1_code 87 = .ok (.ifCond .ge 18, 3) := by decide +kernel
theorem d2_105 : decode prog_72_method_1_code 105 = .ok (.dload 4, 2) := by decide +kernel
theorem d2_107 : decode prog_72_method_1_code 107 = .ok (.dconst 0, 1) := by decide +kernel
theorem d2_108 : decode prog_72_method_1_code 108 = .ok (.dadd, 1) := by decide +kernel
theorem d2_109 : decode prog_72_method_1_code 109 = .ok (.dstore 4, 2) := by decide +kernel
theorem d2_111 : decode prog_72_method_1_code 111 = .ok (.aload_n 0, 1) := by decide +kernel
theorem d2_112 : decode prog_72_method_1_code 112 = .ok (.aload_n 1, 1) := by decide +kernel
theorem d2_113 : decode prog_72_method_1_code 113 = .ok (.putfield 37, 3) := by decide +kernel
theorem d2_116 : decode prog_72_method_1_code 116 = .ok (.aload_n 0, 1) := by decide +kernel
theorem d2_117 : decode prog_72_method_1_code 117 = .ok (.iload_n 2, 1) := by decide +kernel
theorem d2_118 : decode prog_72_method_1_code 118 = .ok (.putfield 43, 3) := by decide +kernel
theorem d2_121 : decode prog_72_method_1_code 121 = .ok (.aload_n 0, 1) := by decide +kernel
theorem d2_122 : decode prog_72_method_1_code 122 = .ok (.iload_n 3, 1) := by decide +kernel
theorem d2_123 : decode prog_72_method_1_code 123 = .ok (.putfield 47, 3) := by decide +kernel
theorem d2_126 : decode prog_72_method_1_code 126 = .ok (.aload_n 0, 1) := by decide +kernel
theorem d2_127 : decode prog_72_method_1_code 127 = .ok (.dload 4, 2) := by decide +kernel
theorem d2_129 : decode prog_72_method_1_code 129 = .ok (.putfield 50, 3) := by decide +kernel
theorem d2_132 : decode prog_72_method_1_code 132 = .ok (.return_, 1) := by decide +kernel
set_option maxRecDepth 65536 in
set_option maxHeartbeats 40000000 in
theorem rm2 (l : Launch) (Z : State) (a0 : Array Value) (hw : ∀ d ∈ tables_1, d.before a0 Z = true) (r0 : Addr) (r1 : Addr) (p2 : Int32) (p3 : Int32) (t1 : Addr) (gs : Int32 → Int32) (q : Int64) (h0 : Heap) (n0 : Nat) (E0 : Exa Z h0 r0 "com/example/gavelwright/gavelwright/model/Bid") (g0 : n0 ≤ r0) (F0_id : Fld Z h0 r0 "com/example/gavelwright/gavelwright/model/Bid" "id" "Ljava/lang/String;" .null) (F0_arrival : Fld Z h0 r0 "com/example/gavelwright/gavelwright/model/Bid" "arrival" "I" (.int (0 : Int32))) (F0_departure : Fld Z h0 r0 "com/example/gavelwright/gavelwright/model/Bid" "departure" "I" (.int (0 : Int32))) (F0_value : Fld Z h0 r0 "com/example/gavelwright/gavelwright/model/Bid" "value" "D" (.double 0)) (E1 : Exa Z h0 r1 "java/lang/String") (F1 : Fld Z h0 r1 "java/lang/String" "value" "[B" (.ref t1)) (V1 : own_Arr Z h0 t1 .byte (1 : Int32) gs) (H1 : ¬ p2 < (1 : Int32)) (H2 : ¬ p3 < p2) (hb0 : 0 ≤ q.toInt) (hb1 : B53 q) :
    own_Met l Z n0 (⟨"com/example/gavelwright/gavelwright/model/Bid", "<init>", "(Ljava/lang/String;IID)V"⟩ : MethodName) prog_72_method_1_code 6 none ({ frames := 2, cells := 0, slots := 0, locals := 26 } : Room) #[(.ref r0), (.ref r1), (.int p2), (.int p3), (.double (FP.l2d q))] h0 (fun v h => v = none ∧ Keep h0 h [r0] ∧ Fld Z h r0 "com/example/gavelwright/gavelwright/model/Bid" "arrival" "I" (.int p2) ∧ Fld Z h r0 "com/example/gavelwright/gavelwright/model/Bid" "departure" "I" (.int p3)) := by
  refine own_met (plainFor_of_name pn_8) ?_
  intro p e s m below meth c T0 hx hby hml hown hnm hret hlk hZ A0
  rw [ef_2]
  show own_Go _ _ _ _ (T0.setTop (mkF m 0 #[.val (.ref r0), .val (.ref r1), .val (.int p2), .val (.int p3), .val (.double (FP.l2d q)), .second] []))
  refine own_go (fun t_ k_ => XS.aloadN A0.here hx rfl (hb hby d2_0) rfl rfl k_) ?_
  show own_Go _ _ _ _ (T0.setTop (mkF m 1 #[.val (.ref r0), .val (.ref r1), .val (.int p2), .val (.int p3), .val (.double (FP.l2d q)), .second] [(.ref r0)]))
  refine own_callI A0 hx hZ (y := (⟨"java/lang/Record", "<init>", "()V"⟩ : MethodName)) rfl hown (hw _ (List.mem_of_getElem? (i := 18) rfl)) (hw _ (List.mem_of_getElem? (i := 19) rfl)) (hw _ (List.mem_of_getElem? (i := 21) rfl)) (hw _ (List.mem_of_getElem? (i := 22) rfl)) (by decide) (b := r0) (argsL := []) (rest := []) (rm3 l Z a0 hw r0 h0 n0 ) 0 (by decide) (by decide) rfl (by rw [hml]; rfl) (lenOf pd___V rfl) rfl (by show 2 * 0 + _ ≤ _; exact Nat.le_of_eq rfl) (hb hby d2_1) (by decide) (by decide) (fun v4 T1 h3 A2 hQ5 => ?_)
  obtain ⟨rfl, rfl⟩ := hQ5
  show own_Go _ _ _ _ (T1.setTop (mkF m 4 #[.val (.ref r0), .val (.ref r1), .val (.int p2), .val (.int p3), .val (.double (FP.l2d q)), .second] []))
  refine own_go (fun t_ k_ => XS.aloadN A2.here hx rfl (hb hby d2_4) rfl rfl k_) ?_
  show own_Go _ _ _ _ (T1.setTop (mkF m 5 #[.val (.ref r0), .val (.ref r1), .val (.int p2), .val (.int p3), .val (.double (FP.l2d q)), .second] [(.ref r1)]))
  refine own_callV A2 hx hZ (y := (⟨"java/lang/String", "isEmpty", "()Z"⟩ : MethodName)) (z := (⟨"java/lang/String", "isEmpty", "()Z"⟩ : MethodName)) hown (hw _ (List.mem_of_getElem? (i := 26) rfl)) (hw _ (List.mem_of_getElem? (i := 27) rfl)) (hw _ (List.mem_of_getElem? (i := 29) rfl)) (hw _ (List.mem_of_getElem? (i := 28) rfl)) (hw _ (List.mem_of_getElem? (i := 8) rfl)) (hw _ (List.mem_of_getElem? (i := 30) rfl)) (notFace_of_selects (args := #[]) (mvT hZ (hw _ (List.mem_of_getElem? (i := 29) rfl)))) (by decide) (b := r1) (argsL := []) (rest := []) E1 (rm5 l Z a0 hw r1 t1 gs h0 n0 F1 V1) 0 (by decide) (by decide) rfl (by rw [hml]; rfl) (lenOf pd___Z rfl) rfl (by show 2 * 0 + _ ≤ _; exact Nat.le_of_eq rfl) (hb hby d2_5) (by decide) (by decide) (fun v9 T6 h8 A7 hQ10 => ?_)
  obtain ⟨rfl, rfl⟩ := hQ10
  show own_Go _ _ _ _ (T6.setTop (mkF m 8 #[.val (.ref r0), .val (.ref r1), .val (.int p2), .val (.int p3), .val (.double (FP.l2d q)), .second] [(.int (f5 gs))]))
  have hc11 : (f5 gs) = (0 : Int32) := rfl
  refine own_go (fun t_ k_ => XS.ifYes A7.here hx rfl (pc0 := 8) (pc' := 21) rfl (hb hby d2_8) rfl ((if0 _ _).trans (teq hc11).1) (by decide) (by decide) k_) ?_
  show own_Go _ _ _ _ (T6.setTop (mkF m 21 #[.val (.ref r0), .val (.ref r1), .val (.int p2), .val (.int p3), .val (.double (FP.l2d q)), .second] []))
  refine own_go (fun t_ k_ => XS.iloadN A7.here hx rfl (hb hby d2_21) rfl k_) ?_
  show own_Go _ _ _ _ (T6.setTop (mkF m 22 #[.val (.ref r0), .val (.ref r1), .val (.int p2), .val (.int p3), .val (.double (FP.l2d q)), .second] [(.int p2)]))
  refine own_go (fun t_ k_ => XS.iconst A7.here hx rfl (hb hby d2_22) k_) ?_
  show own_Go _ _ _ _ (T6.setTop (mkF m 23 #[.val (.ref r0), .val (.ref r1), .val (.int p2), .val (.int p3), .val (.double (FP.l2d q)), .second] [(.int (1 : Int32)), (.int p2)]))
  have hc12 : ¬ (p2 < (1 : Int32)) := H1
  refine own_go (fun t_ k_ => XS.icmpYes A7.here hx rfl (pc0 := 23) (pc' := 40) rfl (hb hby d2_23) rfl (flt hc12).2.1 (by decide) (by decide) k_) ?_
  show own_Go _ _ _ _ (T6.setTop (mkF m 40 #[.val (.ref r0), .val (.ref r1), .val (.int p2), .val (.int p3), .val (.double (FP.l2d q)), .second] []))
  refine own_go (fun t_ k_ => XS.iloadN A7.here hx rfl (hb hby d2_40) rfl k_) ?_
  show own_Go _ _ _ _ (T6.setTop (mkF m 41 #[.val (.ref r0), .val (.ref r1), .val (.int p2), .val (.int p3), .val (.double (FP.l2d q)), .second] [(.int p3)]))
  refine own_go (fun t_ k_ => XS.iloadN A7.here hx rfl (hb hby d2_41) rfl k_) ?_
  show own_Go _ _ _ _ (T6.setTop (mkF m 42 #[.val (.ref r0), .val (.ref r1), .val (.int p2), .val (.int p3), .val (.double (FP.l2d q)), .second] [(.int p2), (.int p3)]))
  have hc13 : ¬ (p3 < p2) := H2
  refine own_go (fun t_ k_ => XS.icmpYes A7.here hx rfl (pc0 := 42) (pc' := 60) rfl (hb hby d2_42) rfl (flt hc13).2.1 (by decide) (by decide) k_) ?_
  show own_Go _ _ _ _ (T6.setTop (mkF m 60 #[.val (.ref r0), .val (.ref r1), .val (.int p2), .val (.int p3), .val (.double (FP.l2d q)), .second] []))
  refine own_go (fun t_ k_ => XS.dload A7.here hx rfl (hb hby d2_60) rfl k_) ?_
  show own_Go _ _ _ _ (T6.setTop (mkF m 62 #[.val (.ref r0), .val (.ref r1), .val (.int p2), .val (.int p3), .val (.double (FP.l2d q)), .second] [(.double (FP.l2d q))]))
  refine own_callSP A7 hx hZ hown (y := (⟨"java/lang/Double", "isFinite", "(D)Z"⟩ : MethodName)) (hw _ (List.mem_of_getElem? (i := 32) rfl)) (hw _ (List.mem_of_getElem? (i := 33) rfl)) (hw _ (List.mem_of_getElem? (i := 34) rfl)) (hw _ (List.mem_of_getElem? (i := 35) rfl)) (by decide) (W := 0) (Jvm.Free.Fl.IsFinite.pays (by decide) (by decide) (own_andB (mvT hZ (hw _ (List.mem_of_getElem? (i := 35) rfl))) (own_andB (mvT hZ (hw _ (List.mem_of_getElem? (i := 36) rfl))) (own_andB (mvT hZ (hw _ (List.mem_of_getElem? (i := 37) rfl))) (own_andB (mvT hZ (hw _ (List.mem_of_getElem? (i := 2) rfl))) (own_andB (mvT hZ (hw _ (List.mem_of_getElem? (i := 38) rfl))) (mvT hZ (hw _ (List.mem_of_getElem? (i := 39) rfl)))))))) (mvT hZ (hw _ (List.mem_of_getElem? (i := 34) rfl)))) (argsL := [(.double (FP.l2d q))]) (rest := []) ⟨_, rfl, own_nnan q⟩ rfl (by rw [hml]; rfl) (lenOf pd__D_Z rfl) rfl (by show 2 * 0 + _ ≤ _; exact Nat.le_of_eq rfl) (hb hby d2_62) (by decide) (by decide) (fun v17 T14 A15 hQ18 => ?_)
  obtain rfl := hQ18 _ ⟨rfl, own_nnan q⟩
  rw [own_fin]
  show own_Go _ _ _ _ (T14.setTop (mkF m 65 #[.val (.ref r0), .val (.ref r1), .val (.int p2), .val (.int p3), .val (.double (FP.l2d q)), .second] [(.int (1 : Int32))]))
  have hc19 : ¬ ((1 : Int32) = (0 : Int32)) := (by decide)
  refine own_go (fun t_ k_ => XS.ifYes A15.here hx rfl (pc0 := 65) (pc' := 83) rfl (hb hby d2_65) rfl ((if0 _ _).trans (feq hc19).2) (by decide) (by decide) k_) ?_
  show own_Go _ _ _ _ (T14.setTop (mkF m 83 #[.val (.ref r0), .val (.ref r1), .val (.int p2), .val (.int p3), .val (.double (FP.l2d q)), .second] []))
  refine own_go (fun t_ k_ => XS.dload A15.here hx rfl (hb hby d2_83) rfl k_) ?_
  show own_Go _ _ _ _ (T14.setTop (mkF m 85 #[.val (.ref r0), .val (.ref r1), .val (.int p2), .val (.int p3), .val (.double (FP.l2d q)), .second] [(.double (FP.l2d q))]))
  refine own_go (fun t_ k_ => XS.dconst0 A15.here hx rfl (v := FP.dconst0) (hb hby d2_85) rfl k_) ?_
  show own_Go _ _ _ _ (T14.setTop (mkF m 86 #[.val (.ref r0), .val (.ref r1), .val (.int p2), .val (.int p3), .val (.double (FP.l2d q)), .second] [(.double FP.dconst0), (.double (FP.l2d q))]))
  refine own_go (fun t_ k_ => XS.dcmpS A15.here hx rfl (hb hby d2_86) rfl (v := (cmpValue (FP.dcmp (FP.l2d q) FP.dconst0) .g)) rfl k_) ?_
  show own_Go _ _ _ _ (T14.setTop (mkF m 87 #[.val (.ref r0), .val (.ref r1), .val (.int p2), .val (.int p3), .val (.double (FP.l2d q)), .second] [(.int (cmpValue (FP.dcmp (FP.l2d q) FP.dconst0) .g))]))
  have hc20 : ¬ ((cmpValue (FP.dcmp (FP.l2d q) FP.dconst0) .g) < (0 : Int32)) := own_dge0 hb0 hb1
  refine own_go (fun t_ k_ => XS.ifYes A15.here hx rfl (pc0 := 87) (pc' := 105) rfl (hb hby d2_87) rfl ((if0 _ _).trans (flt hc20).2.1) (by decide) (by decide) k_) ?_
  show own_Go _ _ _ _ (T14.setTop (mkF m 105 #[.val (.ref r0), .val (.ref r1), .val (.int p2), .val (.int p3), .val (.double (FP.l2d q)), .second] []))
  refine own_go (fun t_ k_ => XS.dload A15.here hx rfl (hb hby d2_105) rfl k_) ?_
  show own_Go _ _ _ _ (T14.setTop (mkF m 107 #[.val (.ref r0), .val (.ref r1), .val (.int p2), .val (.int p3), .val (.double (FP.l2d q)), .second] [(.double (FP.l2d q))]))
  refine own_go (fun t_ k_ => XS.dconst0 A15.here hx rfl (v := FP.dconst0) (hb hby d2_107) rfl k_) ?_
  show own_Go _ _ _ _ (T14.setTop (mkF m 108 #[.val (.ref r0), .val (.ref r1), .val (.int p2), .val (.int p3), .val (.double (FP.l2d q)), .second] [(.double FP.dconst0), (.double (FP.l2d q))]))
  refine own_go (fun t_ k_ => XS.daddS A15.here hx rfl (hb hby d2_108) rfl (v := (FP.l2d (q + 0))) (nn_w (own_add0 hb1)) (own_add0 hb1) k_) ?_
  show own_Go _ _ _ _ (T14.setTop (mkF m 109 #[.val (.ref r0), .val (.ref r1), .val (.int p2), .val (.int p3), .val (.double (FP.l2d q)), .second] [(.double (FP.l2d (q + 0)))]))
  refine own_go (fun t_ k_ => XS.dstore A15.here hx rfl (hb hby d2_109) rfl (l' := #[.val (.ref r0), .val (.ref r1), .val (.int p2), .val (.int p3), .val (.double (FP.l2d (q + 0))), .second]) rfl k_) ?_
  show own_Go _ _ _ _ (T14.setTop (mkF m 111 #[.val (.ref r0), .val (.ref r1), .val (.int p2), .val (.int p3), .val (.double (FP.l2d (q + 0))), .second] []))
  refine own_go (fun t_ k_ => XS.aloadN A15.here hx rfl (hb hby d2_111) rfl rfl k_) ?_
  show own_Go _ _ _ _ (T14.setTop (mkF m 112 #[.val (.ref r0), .val (.ref r1), .val (.int p2), .val (.int p3), .val (.double (FP.l2d (q + 0))), .second] [(.ref r0)]))
  refine own_go (fun t_ k_ => XS.aloadN A15.here hx rfl (hb hby d2_112) rfl rfl k_) ?_
  show own_Go _ _ _ _ (T14.setTop (mkF m 113 #[.val (.ref r0), .val (.ref r1), .val (.int p2), .val (.int p3), .val (.double (FP.l2d (q + 0))), .second] [(.ref r1), (.ref r0)]))
  refine own_putF A15 hx hZ hown (host := "") (Or.inl (hw _ (List.mem_of_getElem? (i := 40) rfl))) Via.refl F0_id E0 (Or.inr ⟨(hw _ (List.mem_of_getElem? (i := 41) rfl)), rfl, hnm⟩) (hw _ (List.mem_of_getElem? (i := 5) rfl)) (ty := (.object "java/lang/String")) (by decide) rfl rfl g0 rfl rfl (hb hby d2_113) (fun T21 h23 A22 W24 => ?_)
  have E25 : Exa Z h23 r0 "com/example/gavelwright/gavelwright/model/Bid" := E0.wr W24
  have K26 : Keep h0 h23 [r0] := (Keep.refl h0 [r0]).wr W24 (Or.inl (List.mem_of_getElem? (i := 0) rfl))
  have F27 : Fld Z h23 r0 "com/example/gavelwright/gavelwright/model/Bid" "id" "Ljava/lang/String;" (.ref r1) := F0_id.same W24
  have F28 : Fld Z h23 r0 "com/example/gavelwright/gavelwright/model/Bid" "arrival" "I" (.int (0 : Int32)) := F0_arrival.other W24 (Or.inr (slot_ne (Or.inr (hw _ (List.mem_of_getElem? (i := 43) rfl))) (Or.inr (hw _ (List.mem_of_getElem? (i := 41) rfl))) (by decide) (t := .int) (t' := (.object "java/lang/String")) (by decide) (by decide)))
  have F29 : Fld Z h23 r0 "com/example/gavelwright/gavelwright/model/Bid" "departure" "I" (.int (0 : Int32)) := F0_departure.other W24 (Or.inr (slot_ne (Or.inr (hw _ (List.mem_of_getElem? (i := 45) rfl))) (Or.inr (hw _ (List.mem_of_getElem? (i := 41) rfl))) (by decide) (t := .int) (t' := (.object "java/lang/String")) (by decide) (by decide)))
  have F30 : Fld Z h23 r0 "com/example/gavelwright/gavelwright/model/Bid" "value" "D" (.double 0) := F0_value.other W24 (Or.inr (slot_ne (Or.inr (hw _ (List.mem_of_getElem? (i := 47) rfl))) (Or.inr (hw _ (List.mem_of_getElem? (i := 41) rfl))) (by decide) (t := .double) (t' := (.object "java/lang/String")) (by decide) (by decide)))
  show own_Go _ _ _ _ (T21.setTop (mkF m 116 #[.val (.ref r0), .val (.ref r1), .val (.int p2), .val (.int p3), .val (.double (FP.l2d (q + 0))), .second] []))
  refine own_go (fun t_ k_ => XS.aloadN A22.here hx rfl (hb hby d2_116) rfl rfl k_) ?_
  show own_Go _ _ _ _ (T21.setTop (mkF m 117 #[.val (.ref r0), .val (.ref r1), .val (.int p2), .val (.int p3), .val (.double (FP.l2d (q + 0))), .second] [(.ref r0)]))
  refine own_go (fun t_ k_ => XS.iloadN A22.here hx rfl (hb hby d2_117) rfl k_) ?_
  show own_Go _ _ _ _ (T21.setTop (mkF m 118 #[.val (.ref r0), .val (.ref r1), .val (.int p2), .val (.int p3), .val (.double (FP.l2d (q + 0))), .second] [(.int p2), (.ref r0)]))
  refine own_putF A22 hx hZ hown (host := "") (Or.inl (hw _ (List.mem_of_getElem? (i := 42) rfl))) Via.refl F28 E25 (Or.inr ⟨(hw _ (List.mem_of_getElem? (i := 43) rfl)), rfl, hnm⟩) (hw _ (List.mem_of_getElem? (i := 5) rfl)) (ty := .int) (by decide) rfl rfl g0 rfl rfl (hb hby d2_118) (fun T31 h33 A32 W34 => ?_)
  have E35 : Exa Z h33 r0 "com/example/gavelwright/gavelwright/model/Bid" := E25.wr W34
  have K36 : Keep h0 h33 [r0] := K26.wr W34 (Or.inl (List.mem_of_getElem? (i := 0) rfl))
  have F37 : Fld Z h33 r0 "com/example/gavelwright/gavelwright/model/Bid" "id" "Ljava/lang/String;" (.ref r1) := F27.other W34 (Or.inr (slot_ne (Or.inr (hw _ (List.mem_of_getElem? (i := 41) rfl))) (Or.inr (hw _ (List.mem_of_getElem? (i := 43) rfl))) (by decide) (t := (.object "java/lang/String")) (t' := .int) (by decide) (by decide)))
  have F38 : Fld Z h33 r0 "com/example/gavelwright/gavelwright/model/Bid" "arrival" "I" (.int p2) := F28.same W34
  have F39 : Fld Z h33 r0 "com/example/gavelwright/gavelwright/model/Bid" "departure" "I" (.int (0 : Int32)) := F29.other W34 (Or.inr (slot_ne (Or.inr (hw _ (List.mem_of_getElem? (i := 45) rfl))) (Or.inr (hw _ (List.mem_of_getElem? (i := 43) rfl))) (by decide) (t := .int) (t' := .int) (by decide) (by decide)))
  have F40 : Fld Z h33 r0 "com/example/gavelwright/gavelwright/model/Bid" "value" "D" (.double 0) := F30.other W34 (Or.inr (slot_ne (Or.inr (hw _ (List.mem_of_getElem? (i := 47) rfl))) (Or.inr (hw _ (List.mem_of_getElem? (i := 43) rfl))) (by decide) (t := .double) (t' := .int) (by decide) (by decide)))
  show own_Go _ _ _ _ (T31.setTop (mkF m 121 #[.val (.ref r0), .val (.ref r1), .val (.int p2), .val (.int p3), .val (.double (FP.l2d (q + 0))), .second] []))
  refine own_go (fun t_ k_ => XS.aloadN A32.here hx rfl (hb hby d2_121) rfl rfl k_) ?_
  show own_Go _ _ _ _ (T31.setTop (mkF m 122 #[.val (.ref r0), .val (.ref r1), .val (.int p2), .val (.int p3), .val (.double (FP.l2d (q + 0))), .second] [(.ref r0)]))
  refine own_go (fun t_ k_ => XS.iloadN A32.here hx rfl (hb hby d2_122) rfl k_) ?_
  show own_Go _ _ _ _ (T31.setTop (mkF m 123 #[.val (.ref r0), .val (.ref r1), .val (.int p2), .val (.int p3), .val (.double (FP.l2d (q + 0))), .second] [(.int p3), (.ref r0)]))
  refine own_putF A32 hx hZ hown (host := "") (Or.inl (hw _ (List.mem_of_getElem? (i := 44) rfl))) Via.refl F39 E35 (Or.inr ⟨(hw _ (List.mem_of_getElem? (i := 45) rfl)), rfl, hnm⟩) (hw _ (List.mem_of_getElem? (i := 5) rfl)) (ty := .int) (by decide) rfl rfl g0 rfl rfl (hb hby d2_123) (fun T41 h43 A42 W44 => ?_)
  have E45 : Exa Z h43 r0 "com/example/gavelwright/gavelwright/model/Bid" := E35.wr W44
  have K46 : Keep h0 h43 [r0] := K36.wr W44 (Or.inl (List.mem_of_getElem? (i := 0) rfl))
  have F47 : Fld Z h43 r0 "com/example/gavelwright/gavelwright/model/Bid" "id" "Ljava/lang/String;" (.ref r1) := F37.other W44 (Or.inr (slot_ne (Or.inr (hw _ (List.mem_of_getElem? (i := 41) rfl))) (Or.inr (hw _ (List.mem_of_getElem? (i := 45) rfl))) (by decide) (t := (.object "java/lang/String")) (t' := .int) (by decide) (by decide)))
  have F48 : Fld Z h43 r0 "com/example/gavelwright/gavelwright/model/Bid" "arrival" "I" (.int p2) := F38.other W44 (Or.inr (slot_ne (Or.inr (hw _ (List.mem_of_getElem? (i := 43) rfl))) (Or.inr (hw _ (List.mem_of_getElem? (i := 45) rfl))) (by decide) (t := .int) (t' := .int) (by decide) (by decide)))
  have F49 : Fld Z h43 r0 "com/example/gavelwright/gavelwright/model/Bid" "departure" "I" (.int p3) := F39.same W44
  have F50 : Fld Z h43 r0 "com/example/gavelwright/gavelwright/model/Bid" "value" "D" (.double 0) := F40.other W44 (Or.inr (slot_ne (Or.inr (hw _ (List.mem_of_getElem? (i := 47) rfl))) (Or.inr (hw _ (List.mem_of_getElem? (i := 45) rfl))) (by decide) (t := .double) (t' := .int) (by decide) (by decide)))
  show own_Go _ _ _ _ (T41.setTop (mkF m 126 #[.val (.ref r0), .val (.ref r1), .val (.int p2), .val (.int p3), .val (.double (FP.l2d (q + 0))), .second] []))
  refine own_go (fun t_ k_ => XS.aloadN A42.here hx rfl (hb hby d2_126) rfl rfl k_) ?_
  show own_Go _ _ _ _ (T41.setTop (mkF m 127 #[.val (.ref r0), .val (.ref r1), .val (.int p2), .val (.int p3), .val (.double (FP.l2d (q + 0))), .second] [(.ref r0)]))
  refine own_go (fun t_ k_ => XS.dload A42.here hx rfl (hb hby d2_127) rfl k_) ?_
  show own_Go _ _ _ _ (T41.setTop (mkF m 129 #[.val (.ref r0), .val (.ref r1), .val (.int p2), .val (.int p3), .val (.double (FP.l2d (q + 0))), .second] [(.double (FP.l2d (q + 0))), (.ref r0)]))
  refine own_putF A42 hx hZ hown (host := "") (Or.inl (hw _ (List.mem_of_getElem? (i := 46) rfl))) Via.refl F50 E45 (Or.inr ⟨(hw _ (List.mem_of_getElem? (i := 47) rfl)), rfl, hnm⟩) (hw _ (List.mem_of_getElem? (i := 5) rfl)) (ty := .double) (by decide) rfl rfl g0 rfl rfl (hb hby d2_129) (fun T51 h53 A52 W54 => ?_)
  have E55 : Exa Z h53 r0 "com/example/gavelwright/gavelwright/model/Bid" := E45.wr W54
  have K56 : Keep h0 h53 [r0] := K46.wr W54 (Or.inl (List.mem_of_getElem? (i := 0) rfl))
  have F57 : Fld Z h53 r0 "com/example/gavelwright/gavelwright/model/Bid" "id" "Ljava/lang/String;" (.ref r1) := F47.other W54 (Or.inr (slot_ne (Or.inr (hw _ (List.mem_of_getElem? (i := 41) rfl))) (Or.inr (hw _ (List.mem_of_getElem? (i := 47) rfl))) (by decide) (t := (.object "java/lang/String")) (t' := .double) (by decide) (by decide)))
  have F58 : Fld Z h53 r0 "com/example/gavelwright/gavelwright/model/Bid" "arrival" "I" (.int p2) := F48.other W54 (Or.inr (slot_ne (Or.inr (hw _ (List.mem_of_getElem? (i := 43) rfl))) (Or.inr (hw _ (List.mem_of_getElem? (i := 47) rfl))) (by decide) (t := .int) (t' := .double) (by decide) (by decide)))
  have F59 : Fld Z h53 r0 "com/example/gavelwright/gavelwright/model/Bid" "departure" "I" (.int p3) := F49.other W54 (Or.inr (slot_ne (Or.inr (hw _ (List.mem_of_getElem? (i := 45) rfl))) (Or.inr (hw _ (List.mem_of_getElem? (i := 47) rfl))) (by decide) (t := .int) (t' := .double) (by decide) (by decide)))
  have F60 : Fld Z h53 r0 "com/example/gavelwright/gavelwright/model/Bid" "value" "D" (.double (FP.l2d (q + 0))) := F50.same W54
  show own_Go _ _ _ _ (T51.setTop (mkF m 132 #[.val (.ref r0), .val (.ref r1), .val (.int p2), .val (.int p3), .val (.double (FP.l2d (q + 0))), .second] []))
  refine own_retV A52 hx hret hlk (by decide) (by decide) (hb hby d2_132) ?_
  exact ⟨rfl, K56, F58, F59⟩
theorem own_mx1 (z : Int32) : ¬ f1 (1 : Int32) z < 1 := by
  unfold f1
  split
  · rename_i h
    rw [Int32.lt_iff_toInt_lt] at *
    omega
  · exact fun z => Int32.lt_irrefl z
theorem own_mx2 (a z : Int32) : ¬ f1 a z < a := by
  unfold f1
  split
  · rename_i h
    rw [Int32.lt_iff_toInt_lt] at *
    omega
  · exact fun z => Int32.lt_irrefl z
theorem own_and7 (y : Int32) : 0 ≤ (y &&& (7 : Int32)).toInt64.toInt := by rw [c_i2l]; exact (c_and y 7 (by decide)).1
theorem own_law (sl a d : Int32) : f8 sl a d = (if lcmpW (sl.toInt64 - a.toInt64) (0 : Int64) < (0 : Int32) then (0 : Int32) else (if (0 : Int32) < lcmpW (sl.toInt64 - a.toInt64) (d.toInt64 - a.toInt64) then (0 : Int32) else (1 : Int32))) := by
  have h1 := c_lsub sl.toInt64 a.toInt64
  have h2 := c_lsub d.toInt64 a.toInt64
  have h3 := rng64 (sl.toInt64 - a.toInt64)
  have h4 := rng64 (d.toInt64 - a.toInt64)
  have h5 := rng32 sl
  have h6 := rng32 a
  have h7 := rng32 d
  rw [c_i2l, c_i2l] at h1 h2
  have e0 : (0 : Int64).toInt = 0 := rfl
  simp only [lw_lt, lw_gt, Int64.lt_iff_toInt_lt]
  unfold f8
  simp only [Int32.lt_iff_toInt_lt]
  by_cases q1 : sl.toInt < a.toInt
  · rw [if_pos q1, if_pos (by omega)]
    try rfl
  · rw [if_neg q1, if_neg (show ¬ (sl.toInt64 - a.toInt64).toInt < (0 : Int64).toInt by omega)]
    by_cases q2 : d.toInt < sl.toInt
    · rw [if_pos q2, if_pos (by omega)]
      try rfl
    · rw [if_neg q2, if_neg (show ¬ (d.toInt64 - a.toInt64).toInt < (sl.toInt64 - a.toInt64).toInt by omega)]
      try rfl
theorem ef_0 (m : MethodId) (p0 : Int32) (p1 : Int32) (p2 : Int32) (p3 : Int32) : entryFrame m #[(.int p0), (.int p1), (.int p2), (.int p3)] maxLocals = mkF m 0 #[.val (.int p0), .val (.int p1), .val (.int p2), .val (.int p3), .unset, .unset, .unset, .unset, .unset, .unset, .unset, .unset, .unset, .unset] [] := by first | (simp [entryFrame, mkF, argsToLocals, Value.category, maxLocals]; done) | rfl
theorem pn_0 : plainName "com/example/gavelwright/gavelwright/model/BidIsPresentAtPinLaw" = true := by first | (simp [plainName, overriddenIn]; done) | decide +kernel
theorem pd__II_I : parseMethodDescriptor "(II)I" = some ⟨[.int, .int], some .int⟩ := by decide +kernel
theorem own_wS {Z : State} {a0 : Array Value} (hw : ∀ d ∈ tables_1, d.before a0 Z = true) : ∀ a ∈ Bundle.stringAtoms, a.before a0 Z = true := fun d hd => hw d ((by decide +kernel : ∀ d ∈ Bundle.stringAtoms, d ∈ tables_1) d hd)
theorem pd__Ljava_lang_String_IID_V : parseMethodDescriptor "(Ljava/lang/String;IID)V" = some ⟨[(.object "java/lang/String"), .int, .int, .double], none⟩ := by decide +kernel
theorem pd__I_Z : parseMethodDescriptor "(I)Z" = some ⟨[.int], some .boolean⟩ := by decide +kernel
set_option maxRecDepth 65536 in
set_option maxHeartbeats 40000000 in
theorem rm0 (l : Launch) (Z : State) (a0 : Array Value) (hw : ∀ d ∈ tables_1, d.before a0 Z = true) (p0 : Int32) (p1 : Int32) (p2 : Int32) (p3 : Int32) (h0 : Heap) (n0 : Nat) (O0 : Old Z n0 h0) (hN : h0.size ≤ n0) (hcw : Jvm.Lit.compactW.before a0 Z = true) (hH : Jvm.D.constsHeld consts_1 Z) (Z0 : n0 ≤ h0.size) :
    own_MetW l Z n0 x code maxLocals ret room_1 #[(.int p0), (.int p1), (.int p2), (.int p3)] h0 [] (fun v h => v = some (.int 1) ∧ True) := by
  refine own_metW (plainFor_of_name pn_0) ?_
  intro p e s m below meth c T0 hx hby hml hown hnm hret hlk hZ A0 hs0 hS hI
  have hkeep : ∀ (b : Addr) (cl : Cell), Z.heap[b]? = some cl → s.heap[b]? = some cl := by rw [hs0]; exact O0.2.2
  have hn0 : s.heap.size ≤ n0 := by rw [hs0]; exact hN
  have hret : meth.sig.returnType = some .boolean := hret
  rw [ef_0]
  show own_Go _ _ _ _ (T0.setTop (mkF m 0 #[.val (.int p0), .val (.int p1), .val (.int p2), .val (.int p3), .unset, .unset, .unset, .unset, .unset, .unset, .unset, .unset, .unset, .unset] []))
  refine own_go (fun t_ k_ => XS.iconst A0.here hx rfl (hb hby at_0) k_) ?_
  show own_Go _ _ _ _ (T0.setTop (mkF m 1 #[.val (.int p0), .val (.int p1), .val (.int p2), .val (.int p3), .unset, .unset, .unset, .unset, .unset, .unset, .unset, .unset, .unset, .unset] [(.int (1 : Int32))]))
  refine own_go (fun t_ k_ => XS.iloadN A0.here hx rfl (hb hby at_1) rfl k_) ?_
  show own_Go _ _ _ _ (T0.setTop (mkF m 2 #[.val (.int p0), .val (.int p1), .val (.int p2), .val (.int p3), .unset, .unset, .unset, .unset, .unset, .unset, .unset, .unset, .unset, .unset] [(.int p0), (.int (1 : Int32))]))
  refine own_callS A0 hx hZ hown (y := (⟨"java/lang/Math", "max", "(II)I"⟩ : MethodName)) (hw _ (List.mem_of_getElem? (i := 0) rfl)) (hw _ (List.mem_of_getElem? (i := 1) rfl)) (hw _ (List.mem_of_getElem? (i := 2) rfl)) (hw _ (List.mem_of_getElem? (i := 3) rfl)) (by decide) (argsL := [(.int (1 : Int32)), (.int p0)]) (rest := []) (rm1 l Z a0 hw (1 : Int32) p0 h0 n0 ) 0 (by decide) (by decide) rfl (by rw [hml]; rfl) (lenOf pd__II_I rfl) rfl (by show 2 * 0 + _ ≤ _; exact Nat.le_of_eq rfl) (hb hby at_2) (by decide) (by decide) (fun v4 T1 h3 A2 hQ5 => ?_)
  obtain ⟨rfl, rfl⟩ := hQ5
  show own_Go _ _ _ _ (T1.setTop (mkF m 5 #[.val (.int p0), .val (.int p1), .val (.int p2), .val (.int p3), .unset, .unset, .unset, .unset, .unset, .unset, .unset, .unset, .unset, .unset] [(.int (f1 (1 : Int32) p0))]))
  refine own_go (fun t_ k_ => XS.istore A2.here hx rfl (hb hby at_5) rfl (l' := #[.val (.int p0), .val (.int p1), .val (.int p2), .val (.int p3), .val (.int (f1 (1 : Int32) p0)), .unset, .unset, .unset, .unset, .unset, .unset, .unset, .unset, .unset]) rfl k_) ?_
  show own_Go _ _ _ _ (T1.setTop (mkF m 7 #[.val (.int p0), .val (.int p1), .val (.int p2), .val (.int p3), .val (.int (f1 (1 : Int32) p0)), .unset, .unset, .unset, .unset, .unset, .unset, .unset, .unset, .unset] []))
  refine own_go (fun t_ k_ => XS.iload A2.here hx rfl (hb hby at_7) rfl k_) ?_
  show own_Go _ _ _ _ (T1.setTop (mkF m 9 #[.val (.int p0), .val (.int p1), .val (.int p2), .val (.int p3), .val (.int (f1 (1 : Int32) p0)), .unset, .unset, .unset, .unset, .unset, .unset, .unset, .unset, .unset] [(.int (f1 (1 : Int32) p0))]))
  refine own_go (fun t_ k_ => XS.iloadN A2.here hx rfl (hb hby at_9) rfl k_) ?_
  show own_Go _ _ _ _ (T1.setTop (mkF m 10 #[.val (.int p0), .val (.int p1), .val (.int p2), .val (.int p3), .val (.int (f1 (1 : Int32) p0)), .unset, .unset, .unset, .unset, .unset, .unset, .unset, .unset, .unset] [(.int p1), (.int (f1 (1 : Int32) p0))]))
  refine own_callS A2 hx hZ hown (y := (⟨"java/lang/Math", "max", "(II)I"⟩ : MethodName)) (hw _ (List.mem_of_getElem? (i := 0) rfl)) (hw _ (List.mem_of_getElem? (i := 1) rfl)) (hw _ (List.mem_of_getElem? (i := 2) rfl)) (hw _ (List.mem_of_getElem? (i := 3) rfl)) (by decide) (argsL := [(.int (f1 (1 : Int32) p0)), (.int p1)]) (rest := []) (rm1 l Z a0 hw (f1 (1 : Int32) p0) p1 h0 n0 ) 0 (by decide) (by decide) rfl (by rw [hml]; rfl) (lenOf pd__II_I rfl) rfl (by show 2 * 0 + _ ≤ _; exact Nat.le_of_eq rfl) (hb hby at_10) (by decide) (by decide) (fun v9 T6 h8 A7 hQ10 => ?_)
  obtain ⟨rfl, rfl⟩ := hQ10
  show own_Go _ _ _ _ (T6.setTop (mkF m 13 #[.val (.int p0), .val (.int p1), .val (.int p2), .val (.int p3), .val (.int (f1 (1 : Int32) p0)), .unset, .unset, .unset, .unset, .unset, .unset, .unset, .unset, .unset] [(.int (f1 (f1 (1 : Int32) p0) p1))]))
  refine own_go (fun t_ k_ => XS.istore A7.here hx rfl (hb hby at_13) rfl (l' := #[.val (.int p0), .val (.int p1), .val (.int p2), .val (.int p3), .val (.int (f1 (1 : Int32) p0)), .val (.int (f1 (f1 (1 : Int32) p0) p1)), .unset, .unset, .unset, .unset, .unset, .unset, .unset, .unset]) rfl k_) ?_
  show own_Go _ _ _ _ (T6.setTop (mkF m 15 #[.val (.int p0), .val (.int p1), .val (.int p2), .val (.int p3), .val (.int (f1 (1 : Int32) p0)), .val (.int (f1 (f1 (1 : Int32) p0) p1)), .unset, .unset, .unset, .unset, .unset, .unset, .unset, .unset] []))
  refine own_go (fun t_ k_ => XS.iloadN A7.here hx rfl (hb hby at_15) rfl k_) ?_
  show own_Go _ _ _ _ (T6.setTop (mkF m 16 #[.val (.int p0), .val (.int p1), .val (.int p2), .val (.int p3), .val (.int (f1 (1 : Int32) p0)), .val (.int (f1 (f1 (1 : Int32) p0) p1)), .unset, .unset, .unset, .unset, .unset, .unset, .unset, .unset] [(.int p3)]))
  refine own_go (fun t_ k_ => XS.bipush A7.here hx rfl (hb hby at_16) k_) ?_
  show own_Go _ _ _ _ (T6.setTop (mkF m 18 #[.val (.int p0), .val (.int p1), .val (.int p2), .val (.int p3), .val (.int (f1 (1 : Int32) p0)), .val (.int (f1 (f1 (1 : Int32) p0) p1)), .unset, .unset, .unset, .unset, .unset, .unset, .unset, .unset] [(.int (7 : Int32)), (.int p3)]))
  refine own_go (fun t_ k_ => XS.iand A7.here hx rfl (hb hby at_18) rfl k_) ?_
  show own_Go _ _ _ _ (T6.setTop (mkF m 19 #[.val (.int p0), .val (.int p1), .val (.int p2), .val (.int p3), .val (.int (f1 (1 : Int32) p0)), .val (.int (f1 (f1 (1 : Int32) p0) p1)), .unset, .unset, .unset, .unset, .unset, .unset, .unset, .unset] [(.int (p3 &&& (7 : Int32)))]))
  refine own_go (fun t_ k_ => XS.istore A7.here hx rfl (hb hby at_19) rfl (l' := #[.val (.int p0), .val (.int p1), .val (.int p2), .val (.int p3), .val (.int (f1 (1 : Int32) p0)), .val (.int (f1 (f1 (1 : Int32) p0) p1)), .val (.int (p3 &&& (7 : Int32))), .unset, .unset, .unset, .unset, .unset, .unset, .unset]) rfl k_) ?_
  show own_Go _ _ _ _ (T6.setTop (mkF m 21 #[.val (.int p0), .val (.int p1), .val (.int p2), .val (.int p3), .val (.int (f1 (1 : Int32) p0)), .val (.int (f1 (f1 (1 : Int32) p0) p1)), .val (.int (p3 &&& (7 : Int32))), .unset, .unset, .unset, .unset, .unset, .unset, .unset] []))
  refine own_go (fun t_ k_ => XS.iload A7.here hx rfl (hb hby at_21) rfl k_) ?_
  show own_Go _ _ _ _ (T6.setTop (mkF m 23 #[.val (.int p0), .val (.int p1), .val (.int p2), .val (.int p3), .val (.int (f1 (1 : Int32) p0)), .val (.int (f1 (f1 (1 : Int32) p0) p1)), .val (.int (p3 &&& (7 : Int32))), .unset, .unset, .unset, .unset, .unset, .unset, .unset] [(.int (p3 &&& (7 : Int32)))]))
  have mg11 : ∀ t_, Steps p.tables e below (T6.setTop (mkF m 109 #[.val (.int p0), .val (.int p1), .val (.int p2), .val (.int p3), .val (.int (f1 (1 : Int32) p0)), .val (.int (f1 (f1 (1 : Int32) p0) p1)), .val (.int (p3 &&& (7 : Int32))), .val (.int (if (p3 &&& (7 : Int32)) = (0 : Int32) then ((f1 (1 : Int32) p0) - (1 : Int32)) else (if (p3 &&& (7 : Int32)) = (1 : Int32) then (f1 (1 : Int32) p0) else (if (p3 &&& (7 : Int32)) = (2 : Int32) then ((f1 (1 : Int32) p0) + (1 : Int32)) else (if (p3 &&& (7 : Int32)) = (3 : Int32) then ((f1 (f1 (1 : Int32) p0) p1) - (1 : Int32)) else (if (p3 &&& (7 : Int32)) = (4 : Int32) then (f1 (f1 (1 : Int32) p0) p1) else (if (p3 &&& (7 : Int32)) = (5 : Int32) then ((f1 (f1 (1 : Int32) p0) p1) + (1 : Int32)) else p2))))))), .unset, .unset, .unset, .unset, .unset, .unset] [])) t_ → Steps p.tables e below (T6.setTop (mkF m 23 #[.val (.int p0), .val (.int p1), .val (.int p2), .val (.int p3), .val (.int (f1 (1 : Int32) p0)), .val (.int (f1 (f1 (1 : Int32) p0) p1)), .val (.int (p3 &&& (7 : Int32))), .unset, .unset, .unset, .unset, .unset, .unset, .unset] [(.int (p3 &&& (7 : Int32)))])) t_ := by
    intro t_ k_
    by_cases hm23_0 : (p3 &&& (7 : Int32)) = (0 : Int32)
    ·
      simp only [if_pos hm23_0] at k_
      exact (XS.ifNo A7.here hx rfl (hb hby at_23) rfl ((if0 _ _).trans (teq hm23_0).2) (XS.iload A7.here hx rfl (hb hby at_26) rfl (XS.iconst A7.here hx rfl (hb hby at_28) (XS.isub A7.here hx rfl (hb hby at_29) rfl (XS.istore A7.here hx rfl (hb hby at_30) rfl (l' := #[.val (.int p0), .val (.int p1), .val (.int p2), .val (.int p3), .val (.int (f1 (1 : Int32) p0)), .val (.int (f1 (f1 (1 : Int32) p0) p1)), .val (.int (p3 &&& (7 : Int32))), .val (.int ((f1 (1 : Int32) p0) - (1 : Int32))), .unset, .unset, .unset, .unset, .unset, .unset]) rfl (XS.goto A7.here hx rfl (pc0 := 32) (pc' := 109) rfl (hb hby at_32) (by decide) (by decide) k_))))))
    ·
      refine XS.ifYes A7.here hx rfl (pc0 := 23) (pc' := 35) rfl (hb hby at_23) rfl ((if0 _ _).trans (feq hm23_0).2) (by decide) (by decide) (XS.iload A7.here hx rfl (hb hby at_35) rfl (XS.iconst A7.here hx rfl (hb hby at_37) ?_))
      by_cases hm38_1 : (p3 &&& (7 : Int32)) = (1 : Int32)
      ·
        simp only [if_neg hm23_0, if_pos hm38_1] at k_
        exact (XS.icmpNo A7.here hx rfl (hb hby at_38) rfl (teq hm38_1).2 (XS.iload A7.here hx rfl (hb hby at_41) rfl (XS.istore A7.here hx rfl (hb hby at_43) rfl (l' := #[.val (.int p0), .val (.int p1), .val (.int p2), .val (.int p3), .val (.int (f1 (1 : Int32) p0)), .val (.int (f1 (f1 (1 : Int32) p0) p1)), .val (.int (p3 &&& (7 : Int32))), .val (.int (f1 (1 : Int32) p0)), .unset, .unset, .unset, .unset, .unset, .unset]) rfl (XS.goto A7.here hx rfl (pc0 := 45) (pc' := 109) rfl (hb hby at_45) (by decide) (by decide) k_))))
      ·
        refine XS.icmpYes A7.here hx rfl (pc0 := 38) (pc' := 48) rfl (hb hby at_38) rfl (feq hm38_1).2 (by decide) (by decide) (XS.iload A7.here hx rfl (hb hby at_48) rfl (XS.iconst A7.here hx rfl (hb hby at_50) ?_))
        by_cases hm51_2 : (p3 &&& (7 : Int32)) = (2 : Int32)
        ·
          simp only [if_neg hm23_0, if_neg hm38_1, if_pos hm51_2] at k_
          exact (XS.icmpNo A7.here hx rfl (hb hby at_51) rfl (teq hm51_2).2 (XS.iload A7.here hx rfl (hb hby at_54) rfl (XS.iconst A7.here hx rfl (hb hby at_56) (XS.iadd A7.here hx rfl (hb hby at_57) rfl (XS.istore A7.here hx rfl (hb hby at_58) rfl (l' := #[.val (.int p0), .val (.int p1), .val (.int p2), .val (.int p3), .val (.int (f1 (1 : Int32) p0)), .val (.int (f1 (f1 (1 : Int32) p0) p1)), .val (.int (p3 &&& (7 : Int32))), .val (.int ((f1 (1 : Int32) p0) + (1 : Int32))), .unset, .unset, .unset, .unset, .unset, .unset]) rfl (XS.goto A7.here hx rfl (pc0 := 60) (pc' := 109) rfl (hb hby at_60) (by decide) (by decide) k_))))))
        ·
          refine XS.icmpYes A7.here hx rfl (pc0 := 51) (pc' := 63) rfl (hb hby at_51) rfl (feq hm51_2).2 (by decide) (by decide) (XS.iload A7.here hx rfl (hb hby at_63) rfl (XS.iconst A7.here hx rfl (hb hby at_65) ?_))
          by_cases hm66_3 : (p3 &&& (7 : Int32)) = (3 : Int32)
          ·
            simp only [if_neg hm23_0, if_neg hm38_1, if_neg hm51_2, if_pos hm66_3] at k_
            exact (XS.icmpNo A7.here hx rfl (hb hby at_66) rfl (teq hm66_3).2 (XS.iload A7.here hx rfl (hb hby at_69) rfl (XS.iconst A7.here hx rfl (hb hby at_71) (XS.isub A7.here hx rfl (hb hby at_72) rfl (XS.istore A7.here hx rfl (hb hby at_73) rfl (l' := #[.val (.int p0), .val (.int p1), .val (.int p2), .val (.int p3), .val (.int (f1 (1 : Int32) p0)), .val (.int (f1 (f1 (1 : Int32) p0) p1)), .val (.int (p3 &&& (7 : Int32))), .val (.int ((f1 (f1 (1 : Int32) p0) p1) - (1 : Int32))), .unset, .unset, .unset, .unset, .unset, .unset]) rfl (XS.goto A7.here hx rfl (pc0 := 75) (pc' := 109) rfl (hb hby at_75) (by decide) (by decide) k_))))))
          ·
            refine XS.icmpYes A7.here hx rfl (pc0 := 66) (pc' := 78) rfl (hb hby at_66) rfl (feq hm66_3).2 (by decide) (by decide) (XS.iload A7.here hx rfl (hb hby at_78) rfl (XS.iconst A7.here hx rfl (hb hby at_80) ?_))
            by_cases hm81_4 : (p3 &&& (7 : Int32)) = (4 : Int32)
            ·
              simp only [if_neg hm23_0, if_neg hm38_1, if_neg hm51_2, if_neg hm66_3, if_pos hm81_4] at k_
              exact (XS.icmpNo A7.here hx rfl (hb hby at_81) rfl (teq hm81_4).2 (XS.iload A7.here hx rfl (hb hby at_84) rfl (XS.istore A7.here hx rfl (hb hby at_86) rfl (l' := #[.val (.int p0), .val (.int p1), .val (.int p2), .val (.int p3), .val (.int (f1 (1 : Int32) p0)), .val (.int (f1 (f1 (1 : Int32) p0) p1)), .val (.int (p3 &&& (7 : Int32))), .val (.int (f1 (f1 (1 : Int32) p0) p1)), .unset, .unset, .unset, .unset, .unset, .unset]) rfl (XS.goto A7.here hx rfl (pc0 := 88) (pc' := 109) rfl (hb hby at_88) (by decide) (by decide) k_))))
            ·
              refine XS.icmpYes A7.here hx rfl (pc0 := 81) (pc' := 91) rfl (hb hby at_81) rfl (feq hm81_4).2 (by decide) (by decide) (XS.iload A7.here hx rfl (hb hby at_91) rfl (XS.iconst A7.here hx rfl (hb hby at_93) ?_))
              by_cases hm94_5 : (p3 &&& (7 : Int32)) = (5 : Int32)
              ·
                simp only [if_neg hm23_0, if_neg hm38_1, if_neg hm51_2, if_neg hm66_3, if_neg hm81_4, if_pos hm94_5] at k_
                exact (XS.icmpNo A7.here hx rfl (hb hby at_94) rfl (teq hm94_5).2 (XS.iload A7.here hx rfl (hb hby at_97) rfl (XS.iconst A7.here hx rfl (hb hby at_99) (XS.iadd A7.here hx rfl (hb hby at_100) rfl (XS.istore A7.here hx rfl (hb hby at_101) rfl (l' := #[.val (.int p0), .val (.int p1), .val (.int p2), .val (.int p3), .val (.int (f1 (1 : Int32) p0)), .val (.int (f1 (f1 (1 : Int32) p0) p1)), .val (.int (p3 &&& (7 : Int32))), .val (.int ((f1 (f1 (1 : Int32) p0) p1) + (1 : Int32))), .unset, .unset, .unset, .unset, .unset, .unset]) rfl (XS.goto A7.here hx rfl (pc0 := 103) (pc' := 109) rfl (hb hby at_103) (by decide) (by decide) k_))))))
              ·
                simp only [if_neg hm23_0, if_neg hm38_1, if_neg hm51_2, if_neg hm66_3, if_neg hm81_4, if_neg hm94_5] at k_
                exact (XS.icmpYes A7.here hx rfl (pc0 := 94) (pc' := 106) rfl (hb hby at_94) rfl (feq hm94_5).2 (by decide) (by decide) (XS.iloadN A7.here hx rfl (hb hby at_106) rfl (XS.istore A7.here hx rfl (hb hby at_107) rfl (l' := #[.val (.int p0), .val (.int p1), .val (.int p2), .val (.int p3), .val (.int (f1 (1 : Int32) p0)), .val (.int (f1 (f1 (1 : Int32) p0) p1)), .val (.int (p3 &&& (7 : Int32))), .val (.int p2), .unset, .unset, .unset, .unset, .unset, .unset]) rfl k_)))
  refine own_go mg11 ?_
  show own_Go _ _ _ _ (T6.setTop (mkF m 109 #[.val (.int p0), .val (.int p1), .val (.int p2), .val (.int p3), .val (.int (f1 (1 : Int32) p0)), .val (.int (f1 (f1 (1 : Int32) p0) p1)), .val (.int (p3 &&& (7 : Int32))), .val (.int (if (p3 &&& (7 : Int32)) = (0 : Int32) then ((f1 (1 : Int32) p0) - (1 : Int32)) else (if (p3 &&& (7 : Int32)) = (1 : Int32) then (f1 (1 : Int32) p0) else (if (p3 &&& (7 : Int32)) = (2 : Int32) then ((f1 (1 : Int32) p0) + (1 : Int32)) else (if (p3 &&& (7 : Int32)) = (3 : Int32) then ((f1 (f1 (1 : Int32) p0) p1) - (1 : Int32)) else (if (p3 &&& (7 : Int32)) = (4 : Int32) then (f1 (f1 (1 : Int32) p0) p1) else (if (p3 &&& (7 : Int32)) = (5 : Int32) then ((f1 (f1 (1 : Int32) p0) p1) + (1 : Int32)) else p2))))))), .unset, .unset, .unset, .unset, .unset, .unset] []))
  generalize hsl : (if (p3 &&& (7 : Int32)) = (0 : Int32) then ((f1 (1 : Int32) p0) - (1 : Int32)) else (if (p3 &&& (7 : Int32)) = (1 : Int32) then (f1 (1 : Int32) p0) else (if (p3 &&& (7 : Int32)) = (2 : Int32) then ((f1 (1 : Int32) p0) + (1 : Int32)) else (if (p3 &&& (7 : Int32)) = (3 : Int32) then ((f1 (f1 (1 : Int32) p0) p1) - (1 : Int32)) else (if (p3 &&& (7 : Int32)) = (4 : Int32) then (f1 (f1 (1 : Int32) p0) p1) else (if (p3 &&& (7 : Int32)) = (5 : Int32) then ((f1 (f1 (1 : Int32) p0) p1) + (1 : Int32)) else p2)))))) = sl
  show own_Go _ _ _ _ (T6.setTop (mkF m 109 #[.val (.int p0), .val (.int p1), .val (.int p2), .val (.int p3), .val (.int (f1 (1 : Int32) p0)), .val (.int (f1 (f1 (1 : Int32) p0) p1)), .val (.int (p3 &&& (7 : Int32))), .val (.int sl), .unset, .unset, .unset, .unset, .unset, .unset] []))
  refine own_newO A7 hx hZ hown (hw _ (List.mem_of_getElem? (i := 4) rfl)) (hw _ (List.mem_of_getElem? (i := 5) rfl)) (hw _ (List.mem_of_getElem? (i := 6) rfl)) rfl (hb hby at_109) (by decide) (by decide) (fun T12 h14 b15 ha_b15 A13 E16 X17 D18 => ?_)
  have g_b15 : n0 ≤ b15 := by rw [ha_b15]; exact Z0
  have Y19 : 0 ≤ h14.size := Nat.le_trans (Nat.zero_le _) E16.1
  have O20 : Old Z n0 h14 := O0.ext E16
  have Z21 : n0 ≤ h14.size := Nat.le_trans Z0 E16.1
  have F22 : Fld Z h14 b15 "com/example/gavelwright/gavelwright/model/Bid" "id" "Ljava/lang/String;" .null := D18 (Or.inr (hw _ (List.mem_of_getElem? (i := 41) rfl))) (ty := (.object "java/lang/String")) (by decide)
  have F23 : Fld Z h14 b15 "com/example/gavelwright/gavelwright/model/Bid" "arrival" "I" (.int (0 : Int32)) := D18 (Or.inr (hw _ (List.mem_of_getElem? (i := 43) rfl))) (ty := .int) (by decide)
  have F24 : Fld Z h14 b15 "com/example/gavelwright/gavelwright/model/Bid" "departure" "I" (.int (0 : Int32)) := D18 (Or.inr (hw _ (List.mem_of_getElem? (i := 45) rfl))) (ty := .int) (by decide)
  have F25 : Fld Z h14 b15 "com/example/gavelwright/gavelwright/model/Bid" "value" "D" (.double 0) := D18 (Or.inr (hw _ (List.mem_of_getElem? (i := 47) rfl))) (ty := .double) (by decide)
  show own_Go _ _ _ _ (T12.setTop (mkF m 112 #[.val (.int p0), .val (.int p1), .val (.int p2), .val (.int p3), .val (.int (f1 (1 : Int32) p0)), .val (.int (f1 (f1 (1 : Int32) p0) p1)), .val (.int (p3 &&& (7 : Int32))), .val (.int sl), .unset, .unset, .unset, .unset, .unset, .unset] [(.ref b15)]))
  refine own_go (fun t_ k_ => XS.dup A13.here hx rfl (hb hby at_112) rfl rfl k_) ?_
  show own_Go _ _ _ _ (T12.setTop (mkF m 113 #[.val (.int p0), .val (.int p1), .val (.int p2), .val (.int p3), .val (.int (f1 (1 : Int32) p0)), .val (.int (f1 (f1 (1 : Int32) p0) p1)), .val (.int (p3 &&& (7 : Int32))), .val (.int sl), .unset, .unset, .unset, .unset, .unset, .unset] [(.ref b15), (.ref b15)]))
  refine own_ldcV A13 hx hZ hown (hw _ (List.mem_of_getElem? (i := 7) rfl)) (own_wS hw) hS Y19 hn0 hkeep hI (by decide) (show Jvm.Lit.constHeld Z "com/example/gavelwright/gavelwright/model/BidIsPresentAtPinLaw" 15 from hH ("com/example/gavelwright/gavelwright/model/BidIsPresentAtPinLaw", 15) (by decide)) hcw (xs := [98]) (z := (1 : Int32)) ⟨by decide +kernel, by decide +kernel⟩ (by decide) rfl rfl (hb hby at_113) 4 (by decide +kernel) (by decide) (by decide) (by decide) (fun T26 h28 b29 b30 vm31 k32 A27 E33 hS34 hk35 hZ hown hI36 X37 F38 F39 V40 => ?_)
  have O41 : Old Z n0 h28 := O20.ext E33
  have Z42 : n0 ≤ h28.size := Nat.le_trans Z21 E33.1
  have E43 : Exa Z h28 b15 "com/example/gavelwright/gavelwright/model/Bid" := X17.ext E33
  have F44 : Fld Z h28 b15 "com/example/gavelwright/gavelwright/model/Bid" "id" "Ljava/lang/String;" .null := F22.ext E33
  have F45 : Fld Z h28 b15 "com/example/gavelwright/gavelwright/model/Bid" "arrival" "I" (.int (0 : Int32)) := F23.ext E33
  have F46 : Fld Z h28 b15 "com/example/gavelwright/gavelwright/model/Bid" "departure" "I" (.int (0 : Int32)) := F24.ext E33
  have F47 : Fld Z h28 b15 "com/example/gavelwright/gavelwright/model/Bid" "value" "D" (.double 0) := F25.ext E33
  show own_Go _ _ _ _ (T26.setTop (mkF m 115 #[.val (.int p0), .val (.int p1), .val (.int p2), .val (.int p3), .val (.int (f1 (1 : Int32) p0)), .val (.int (f1 (f1 (1 : Int32) p0) p1)), .val (.int (p3 &&& (7 : Int32))), .val (.int sl), .unset, .unset, .unset, .unset, .unset, .unset] [(.ref b29), (.ref b15), (.ref b15)]))
  refine own_go (fun t_ k_ => XS.iload A27.here hx rfl (hb hby at_115) rfl k_) ?_
  show own_Go _ _ _ _ (T26.setTop (mkF m 117 #[.val (.int p0), .val (.int p1), .val (.int p2), .val (.int p3), .val (.int (f1 (1 : Int32) p0)), .val (.int (f1 (f1 (1 : Int32) p0) p1)), .val (.int (p3 &&& (7 : Int32))), .val (.int sl), .unset, .unset, .unset, .unset, .unset, .unset] [(.int (f1 (1 : Int32) p0)), (.ref b29), (.ref b15), (.ref b15)]))
  refine own_go (fun t_ k_ => XS.iload A27.here hx rfl (hb hby at_117) rfl k_) ?_
  show own_Go _ _ _ _ (T26.setTop (mkF m 119 #[.val (.int p0), .val (.int p1), .val (.int p2), .val (.int p3), .val (.int (f1 (1 : Int32) p0)), .val (.int (f1 (f1 (1 : Int32) p0) p1)), .val (.int (p3 &&& (7 : Int32))), .val (.int sl), .unset, .unset, .unset, .unset, .unset, .unset] [(.int (f1 (f1 (1 : Int32) p0) p1)), (.int (f1 (1 : Int32) p0)), (.ref b29), (.ref b15), (.ref b15)]))
  refine own_go (fun t_ k_ => XS.iloadN A27.here hx rfl (hb hby at_119) rfl k_) ?_
  show own_Go _ _ _ _ (T26.setTop (mkF m 120 #[.val (.int p0), .val (.int p1), .val (.int p2), .val (.int p3), .val (.int (f1 (1 : Int32) p0)), .val (.int (f1 (f1 (1 : Int32) p0) p1)), .val (.int (p3 &&& (7 : Int32))), .val (.int sl), .unset, .unset, .unset, .unset, .unset, .unset] [(.int p3), (.int (f1 (f1 (1 : Int32) p0) p1)), (.int (f1 (1 : Int32) p0)), (.ref b29), (.ref b15), (.ref b15)]))
  refine own_go (fun t_ k_ => XS.iconst A27.here hx rfl (hb hby at_120) k_) ?_
  show own_Go _ _ _ _ (T26.setTop (mkF m 121 #[.val (.int p0), .val (.int p1), .val (.int p2), .val (.int p3), .val (.int (f1 (1 : Int32) p0)), .val (.int (f1 (f1 (1 : Int32) p0) p1)), .val (.int (p3 &&& (7 : Int32))), .val (.int sl), .unset, .unset, .unset, .unset, .unset, .unset] [(.int (3 : Int32)), (.int p3), (.int (f1 (f1 (1 : Int32) p0) p1)), (.int (f1 (1 : Int32) p0)), (.ref b29), (.ref b15), (.ref b15)]))
  refine own_go (fun t_ k_ => XS.iushr A27.here hx rfl (hb hby at_121) rfl k_) ?_
  show own_Go _ _ _ _ (T26.setTop (mkF m 122 #[.val (.int p0), .val (.int p1), .val (.int p2), .val (.int p3), .val (.int (f1 (1 : Int32) p0)), .val (.int (f1 (f1 (1 : Int32) p0) p1)), .val (.int (p3 &&& (7 : Int32))), .val (.int sl), .unset, .unset, .unset, .unset, .unset, .unset] [(.int ((p3.toUInt32 >>> ((3 : Int32) &&& 31).toUInt32).toInt32)), (.int (f1 (f1 (1 : Int32) p0) p1)), (.int (f1 (1 : Int32) p0)), (.ref b29), (.ref b15), (.ref b15)]))
  refine own_go (fun t_ k_ => XS.bipush A27.here hx rfl (hb hby at_122) k_) ?_
  show own_Go _ _ _ _ (T26.setTop (mkF m 124 #[.val (.int p0), .val (.int p1), .val (.int p2), .val (.int p3), .val (.int (f1 (1 : Int32) p0)), .val (.int (f1 (f1 (1 : Int32) p0) p1)), .val (.int (p3 &&& (7 : Int32))), .val (.int sl), .unset, .unset, .unset, .unset, .unset, .unset] [(.int (7 : Int32)), (.int ((p3.toUInt32 >>> ((3 : Int32) &&& 31).toUInt32).toInt32)), (.int (f1 (f1 (1 : Int32) p0) p1)), (.int (f1 (1 : Int32) p0)), (.ref b29), (.ref b15), (.ref b15)]))
  refine own_go (fun t_ k_ => XS.iand A27.here hx rfl (hb hby at_124) rfl k_) ?_
  show own_Go _ _ _ _ (T26.setTop (mkF m 125 #[.val (.int p0), .val (.int p1), .val (.int p2), .val (.int p3), .val (.int (f1 (1 : Int32) p0)), .val (.int (f1 (f1 (1 : Int32) p0) p1)), .val (.int (p3 &&& (7 : Int32))), .val (.int sl), .unset, .unset, .unset, .unset, .unset, .unset] [(.int (((p3.toUInt32 >>> ((3 : Int32) &&& 31).toUInt32).toInt32) &&& (7 : Int32))), (.int (f1 (f1 (1 : Int32) p0) p1)), (.int (f1 (1 : Int32) p0)), (.ref b29), (.ref b15), (.ref b15)]))
  refine own_go (fun t_ k_ => XS.i2dS A27.here hx rfl (hb hby at_125) rfl (v := (FP.i2d (((p3.toUInt32 >>> ((3 : Int32) &&& 31).toUInt32).toInt32) &&& (7 : Int32)))) rfl k_) ?_
  show own_Go _ _ _ _ (T26.setTop (mkF m 126 #[.val (.int p0), .val (.int p1), .val (.int p2), .val (.int p3), .val (.int (f1 (1 : Int32) p0)), .val (.int (f1 (f1 (1 : Int32) p0) p1)), .val (.int (p3 &&& (7 : Int32))), .val (.int sl), .unset, .unset, .unset, .unset, .unset, .unset] [(.double (FP.i2d (((p3.toUInt32 >>> ((3 : Int32) &&& 31).toUInt32).toInt32) &&& (7 : Int32)))), (.int (f1 (f1 (1 : Int32) p0) p1)), (.int (f1 (1 : Int32) p0)), (.ref b29), (.ref b15), (.ref b15)]))
  rw [i2d_w]
  show own_Go _ _ _ _ (T26.setTop (mkF m 126 #[.val (.int p0), .val (.int p1), .val (.int p2), .val (.int p3), .val (.int (f1 (1 : Int32) p0)), .val (.int (f1 (f1 (1 : Int32) p0) p1)), .val (.int (p3 &&& (7 : Int32))), .val (.int sl), .unset, .unset, .unset, .unset, .unset, .unset] [(.double (FP.l2d (((p3.toUInt32 >>> ((3 : Int32) &&& 31).toUInt32).toInt32) &&& (7 : Int32)).toInt64)), (.int (f1 (f1 (1 : Int32) p0) p1)), (.int (f1 (1 : Int32) p0)), (.ref b29), (.ref b15), (.ref b15)]))
  refine own_callI A27 hx hZ (y := (⟨"com/example/gavelwright/gavelwright/model/Bid", "<init>", "(Ljava/lang/String;IID)V"⟩ : MethodName)) rfl hown (hw _ (List.mem_of_getElem? (i := 15) rfl)) (hw _ (List.mem_of_getElem? (i := 16) rfl)) (hw _ (List.mem_of_getElem? (i := 6) rfl)) (hw _ (List.mem_of_getElem? (i := 17) rfl)) (by decide) (b := b15) (argsL := [(.ref b29), (.int (f1 (1 : Int32) p0)), (.int (f1 (f1 (1 : Int32) p0) p1)), (.double (FP.l2d (((p3.toUInt32 >>> ((3 : Int32) &&& 31).toUInt32).toInt32) &&& (7 : Int32)).toInt64))]) (rest := [(.ref b15)]) (rm2 l Z a0 hw b15 b29 (f1 (1 : Int32) p0) (f1 (f1 (1 : Int32) p0) p1) b30 (fun j => ([98] : List Int32).getD j.toNatClampNeg 0) (((p3.toUInt32 >>> ((3 : Int32) &&& 31).toUInt32).toInt32) &&& (7 : Int32)).toInt64 h28 n0 E43 g_b15 F44 F45 F46 F47 X37 F39 V40 (own_mx1 p0) (own_mx2 _ p1) (own_and7 _) (own_b53 _)) 1 (by decide) (by decide) rfl (by rw [hml]; rfl) (lenOf pd__Ljava_lang_String_IID_V rfl) rfl (by show 2 * 0 + _ ≤ _; exact Nat.le_of_eq rfl) (hb hby at_126) (by decide) (by decide) (fun v51 T48 h50 A49 hQ52 => ?_)
  obtain ⟨rfl, K53, F54, F55⟩ := hQ52
  have O56 : Old Z n0 h50 := O41.keep K53 (allS g_b15 all0)
  have Z57 : n0 ≤ h50.size := Nat.le_trans Z42 K53.1
  have E58 : Exa Z h50 b15 "com/example/gavelwright/gavelwright/model/Bid" := E43.keep K53
  have Y59 : k32 ≤ h50.size := Nat.le_trans hk35 K53.1
  show own_Go _ _ _ _ (T48.setTop (mkF m 129 #[.val (.int p0), .val (.int p1), .val (.int p2), .val (.int p3), .val (.int (f1 (1 : Int32) p0)), .val (.int (f1 (f1 (1 : Int32) p0) p1)), .val (.int (p3 &&& (7 : Int32))), .val (.int sl), .unset, .unset, .unset, .unset, .unset, .unset] [(.ref b15)]))
  refine own_go (fun t_ k_ => XS.astore A49.here hx rfl (hb hby at_129) rfl rfl (l' := #[.val (.int p0), .val (.int p1), .val (.int p2), .val (.int p3), .val (.int (f1 (1 : Int32) p0)), .val (.int (f1 (f1 (1 : Int32) p0) p1)), .val (.int (p3 &&& (7 : Int32))), .val (.int sl), .val (.ref b15), .unset, .unset, .unset, .unset, .unset]) rfl k_) ?_
  show own_Go _ _ _ _ (T48.setTop (mkF m 131 #[.val (.int p0), .val (.int p1), .val (.int p2), .val (.int p3), .val (.int (f1 (1 : Int32) p0)), .val (.int (f1 (f1 (1 : Int32) p0) p1)), .val (.int (p3 &&& (7 : Int32))), .val (.int sl), .val (.ref b15), .unset, .unset, .unset, .unset, .unset] []))
  refine own_go (fun t_ k_ => XS.iload A49.here hx rfl (hb hby at_131) rfl k_) ?_
  show own_Go _ _ _ _ (T48.setTop (mkF m 133 #[.val (.int p0), .val (.int p1), .val (.int p2), .val (.int p3), .val (.int (f1 (1 : Int32) p0)), .val (.int (f1 (f1 (1 : Int32) p0) p1)), .val (.int (p3 &&& (7 : Int32))), .val (.int sl), .val (.ref b15), .unset, .unset, .unset, .unset, .unset] [(.int sl)]))
  refine own_go (fun t_ k_ => XS.i2l A49.here hx rfl (hb hby at_133) rfl k_) ?_
  show own_Go _ _ _ _ (T48.setTop (mkF m 134 #[.val (.int p0), .val (.int p1), .val (.int p2), .val (.int p3), .val (.int (f1 (1 : Int32) p0)), .val (.int (f1 (f1 (1 : Int32) p0) p1)), .val (.int (p3 &&& (7 : Int32))), .val (.int sl), .val (.ref b15), .unset, .unset, .unset, .unset, .unset] [(.long (sl.toInt64))]))
  refine own_go (fun t_ k_ => XS.iload A49.here hx rfl (hb hby at_134) rfl k_) ?_
  show own_Go _ _ _ _ (T48.setTop (mkF m 136 #[.val (.int p0), .val (.int p1), .val (.int p2), .val (.int p3), .val (.int (f1 (1 : Int32) p0)), .val (.int (f1 (f1 (1 : Int32) p0) p1)), .val (.int (p3 &&& (7 : Int32))), .val (.int sl), .val (.ref b15), .unset, .unset, .unset, .unset, .unset] [(.int (f1 (1 : Int32) p0)), (.long (sl.toInt64))]))
  refine own_go (fun t_ k_ => XS.i2l A49.here hx rfl (hb hby at_136) rfl k_) ?_
  show own_Go _ _ _ _ (T48.setTop (mkF m 137 #[.val (.int p0), .val (.int p1), .val (.int p2), .val (.int p3), .val (.int (f1 (1 : Int32) p0)), .val (.int (f1 (f1 (1 : Int32) p0) p1)), .val (.int (p3 &&& (7 : Int32))), .val (.int sl), .val (.ref b15), .unset, .unset, .unset, .unset, .unset] [(.long ((f1 (1 : Int32) p0).toInt64)), (.long (sl.toInt64))]))
  refine own_go (fun t_ k_ => XS.lsub A49.here hx rfl (hb hby at_137) rfl k_) ?_
  show own_Go _ _ _ _ (T48.setTop (mkF m 138 #[.val (.int p0), .val (.int p1), .val (.int p2), .val (.int p3), .val (.int (f1 (1 : Int32) p0)), .val (.int (f1 (f1 (1 : Int32) p0) p1)), .val (.int (p3 &&& (7 : Int32))), .val (.int sl), .val (.ref b15), .unset, .unset, .unset, .unset, .unset] [(.long ((sl.toInt64) - ((f1 (1 : Int32) p0).toInt64)))]))
  refine own_go (fun t_ k_ => XS.lstore A49.here hx rfl (hb hby at_138) rfl (l' := #[.val (.int p0), .val (.int p1), .val (.int p2), .val (.int p3), .val (.int (f1 (1 : Int32) p0)), .val (.int (f1 (f1 (1 : Int32) p0) p1)), .val (.int (p3 &&& (7 : Int32))), .val (.int sl), .val (.ref b15), .val (.long ((sl.toInt64) - ((f1 (1 : Int32) p0).toInt64))), .second, .unset, .unset, .unset]) rfl k_) ?_
  show own_Go _ _ _ _ (T48.setTop (mkF m 140 #[.val (.int p0), .val (.int p1), .val (.int p2), .val (.int p3), .val (.int (f1 (1 : Int32) p0)), .val (.int (f1 (f1 (1 : Int32) p0) p1)), .val (.int (p3 &&& (7 : Int32))), .val (.int sl), .val (.ref b15), .val (.long ((sl.toInt64) - ((f1 (1 : Int32) p0).toInt64))), .second, .unset, .unset, .unset] []))
  refine own_go (fun t_ k_ => XS.iload A49.here hx rfl (hb hby at_140) rfl k_) ?_
  show own_Go _ _ _ _ (T48.setTop (mkF m 142 #[.val (.int p0), .val (.int p1), .val (.int p2), .val (.int p3), .val (.int (f1 (1 : Int32) p0)), .val (.int (f1 (f1 (1 : Int32) p0) p1)), .val (.int (p3 &&& (7 : Int32))), .val (.int sl), .val (.ref b15), .val (.long ((sl.toInt64) - ((f1 (1 : Int32) p0).toInt64))), .second, .unset, .unset, .unset] [(.int (f1 (f1 (1 : Int32) p0) p1))]))
  refine own_go (fun t_ k_ => XS.i2l A49.here hx rfl (hb hby at_142) rfl k_) ?_
  show own_Go _ _ _ _ (T48.setTop (mkF m 143 #[.val (.int p0), .val (.int p1), .val (.int p2), .val (.int p3), .val (.int (f1 (1 : Int32) p0)), .val (.int (f1 (f1 (1 : Int32) p0) p1)), .val (.int (p3 &&& (7 : Int32))), .val (.int sl), .val (.ref b15), .val (.long ((sl.toInt64) - ((f1 (1 : Int32) p0).toInt64))), .second, .unset, .unset, .unset] [(.long ((f1 (f1 (1 : Int32) p0) p1).toInt64))]))
  refine own_go (fun t_ k_ => XS.iload A49.here hx rfl (hb hby at_143) rfl k_) ?_
  show own_Go _ _ _ _ (T48.setTop (mkF m 145 #[.val (.int p0), .val (.int p1), .val (.int p2), .val (.int p3), .val (.int (f1 (1 : Int32) p0)), .val (.int (f1 (f1 (1 : Int32) p0) p1)), .val (.int (p3 &&& (7 : Int32))), .val (.int sl), .val (.ref b15), .val (.long ((sl.toInt64) - ((f1 (1 : Int32) p0).toInt64))), .second, .unset, .unset, .unset] [(.int (f1 (1 : Int32) p0)), (.long ((f1 (f1 (1 : Int32) p0) p1).toInt64))]))
  refine own_go (fun t_ k_ => XS.i2l A49.here hx rfl (hb hby at_145) rfl k_) ?_
  show own_Go _ _ _ _ (T48.setTop (mkF m 146 #[.val (.int p0), .val (.int p1), .val (.int p2), .val (.int p3), .val (.int (f1 (1 : Int32) p0)), .val (.int (f1 (f1 (1 : Int32) p0) p1)), .val (.int (p3 &&& (7 : Int32))), .val (.int sl), .val (.ref b15), .val (.long ((sl.toInt64) - ((f1 (1 : Int32) p0).toInt64))), .second, .unset, .unset, .unset] [(.long ((f1 (1 : Int32) p0).toInt64)), (.long ((f1 (f1 (1 : Int32) p0) p1).toInt64))]))
  refine own_go (fun t_ k_ => XS.lsub A49.here hx rfl (hb hby at_146) rfl k_) ?_
  show own_Go _ _ _ _ (T48.setTop (mkF m 147 #[.val (.int p0), .val (.int p1), .val (.int p2), .val (.int p3), .val (.int (f1 (1 : Int32) p0)), .val (.int (f1 (f1 (1 : Int32) p0) p1)), .val (.int (p3 &&& (7 : Int32))), .val (.int sl), .val (.ref b15), .val (.long ((sl.toInt64) - ((f1 (1 : Int32) p0).toInt64))), .second, .unset, .unset, .unset] [(.long (((f1 (f1 (1 : Int32) p0) p1).toInt64) - ((f1 (1 : Int32) p0).toInt64)))]))
  refine own_go (fun t_ k_ => XS.lstore A49.here hx rfl (hb hby at_147) rfl (l' := #[.val (.int p0), .val (.int p1), .val (.int p2), .val (.int p3), .val (.int (f1 (1 : Int32) p0)), .val (.int (f1 (f1 (1 : Int32) p0) p1)), .val (.int (p3 &&& (7 : Int32))), .val (.int sl), .val (.ref b15), .val (.long ((sl.toInt64) - ((f1 (1 : Int32) p0).toInt64))), .second, .val (.long (((f1 (f1 (1 : Int32) p0) p1).toInt64) - ((f1 (1 : Int32) p0).toInt64))), .second, .unset]) rfl k_) ?_
  show own_Go _ _ _ _ (T48.setTop (mkF m 149 #[.val (.int p0), .val (.int p1), .val (.int p2), .val (.int p3), .val (.int (f1 (1 : Int32) p0)), .val (.int (f1 (f1 (1 : Int32) p0) p1)), .val (.int (p3 &&& (7 : Int32))), .val (.int sl), .val (.ref b15), .val (.long ((sl.toInt64) - ((f1 (1 : Int32) p0).toInt64))), .second, .val (.long (((f1 (f1 (1 : Int32) p0) p1).toInt64) - ((f1 (1 : Int32) p0).toInt64))), .second, .unset] []))
  refine own_go (fun t_ k_ => XS.lload A49.here hx rfl (hb hby at_149) rfl k_) ?_
  show own_Go _ _ _ _ (T48.setTop (mkF m 151 #[.val (.int p0), .val (.int p1), .val (.int p2), .val (.int p3), .val (.int (f1 (1 : Int32) p0)), .val (.int (f1 (f1 (1 : Int32) p0) p1)), .val (.int (p3 &&& (7 : Int32))), .val (.int sl), .val (.ref b15), .val (.long ((sl.toInt64) - ((f1 (1 : Int32) p0).toInt64))), .second, .val (.long (((f1 (f1 (1 : Int32) p0) p1).toInt64) - ((f1 (1 : Int32) p0).toInt64))), .second, .unset] [(.long ((sl.toInt64) - ((f1 (1 : Int32) p0).toInt64)))]))
  refine own_go (fun t_ k_ => XS.lconst A49.here hx rfl (hb hby at_151) k_) ?_
  show own_Go _ _ _ _ (T48.setTop (mkF m 152 #[.val (.int p0), .val (.int p1), .val (.int p2), .val (.int p3), .val (.int (f1 (1 : Int32) p0)), .val (.int (f1 (f1 (1 : Int32) p0) p1)), .val (.int (p3 &&& (7 : Int32))), .val (.int sl), .val (.ref b15), .val (.long ((sl.toInt64) - ((f1 (1 : Int32) p0).toInt64))), .second, .val (.long (((f1 (f1 (1 : Int32) p0) p1).toInt64) - ((f1 (1 : Int32) p0).toInt64))), .second, .unset] [(.long (0 : Int64)), (.long ((sl.toInt64) - ((f1 (1 : Int32) p0).toInt64)))]))
  refine own_go (fun t_ k_ => XS.lcmp A49.here hx rfl (hb hby at_152) rfl k_) ?_
  show own_Go _ _ _ _ (T48.setTop (mkF m 153 #[.val (.int p0), .val (.int p1), .val (.int p2), .val (.int p3), .val (.int (f1 (1 : Int32) p0)), .val (.int (f1 (f1 (1 : Int32) p0) p1)), .val (.int (p3 &&& (7 : Int32))), .val (.int sl), .val (.ref b15), .val (.long ((sl.toInt64) - ((f1 (1 : Int32) p0).toInt64))), .second, .val (.long (((f1 (f1 (1 : Int32) p0) p1).toInt64) - ((f1 (1 : Int32) p0).toInt64))), .second, .unset] [(.int (lcmpW ((sl.toInt64) - ((f1 (1 : Int32) p0).toInt64)) (0 : Int64)))]))
  have mg60 : ∀ t_, Steps p.tables e below (T48.setTop (mkF m 169 #[.val (.int p0), .val (.int p1), .val (.int p2), .val (.int p3), .val (.int (f1 (1 : Int32) p0)), .val (.int (f1 (f1 (1 : Int32) p0) p1)), .val (.int (p3 &&& (7 : Int32))), .val (.int sl), .val (.ref b15), .val (.long ((sl.toInt64) - ((f1 (1 : Int32) p0).toInt64))), .second, .val (.long (((f1 (f1 (1 : Int32) p0) p1).toInt64) - ((f1 (1 : Int32) p0).toInt64))), .second, .unset] [(.int (if (lcmpW ((sl.toInt64) - ((f1 (1 : Int32) p0).toInt64)) (0 : Int64)) < (0 : Int32) then (0 : Int32) else (if (0 : Int32) < (lcmpW ((sl.toInt64) - ((f1 (1 : Int32) p0).toInt64)) (((f1 (f1 (1 : Int32) p0) p1).toInt64) - ((f1 (1 : Int32) p0).toInt64))) then (0 : Int32) else (1 : Int32))))])) t_ → Steps p.tables e below (T48.setTop (mkF m 153 #[.val (.int p0), .val (.int p1), .val (.int p2), .val (.int p3), .val (.int (f1 (1 : Int32) p0)), .val (.int (f1 (f1 (1 : Int32) p0) p1)), .val (.int (p3 &&& (7 : Int32))), .val (.int sl), .val (.ref b15), .val (.long ((sl.toInt64) - ((f1 (1 : Int32) p0).toInt64))), .second, .val (.long (((f1 (f1 (1 : Int32) p0) p1).toInt64) - ((f1 (1 : Int32) p0).toInt64))), .second, .unset] [(.int (lcmpW ((sl.toInt64) - ((f1 (1 : Int32) p0).toInt64)) (0 : Int64)))])) t_ := by
    intro t_ k_
    by_cases hm153_0 : (lcmpW ((sl.toInt64) - ((f1 (1 : Int32) p0).toInt64)) (0 : Int64)) < (0 : Int32)
    ·
      simp only [if_pos hm153_0] at k_
      exact (XS.ifYes A49.here hx rfl (pc0 := 153) (pc' := 168) rfl (hb hby at_153) rfl ((if0 _ _).trans (tlt hm153_0).1) (by decide) (by decide) (XS.iconst A49.here hx rfl (hb hby at_168) k_))
    ·
      refine XS.ifNo A49.here hx rfl (hb hby at_153) rfl ((if0 _ _).trans (flt hm153_0).1) (XS.lload A49.here hx rfl (hb hby at_156) rfl (XS.lload A49.here hx rfl (hb hby at_158) rfl (XS.lcmp A49.here hx rfl (hb hby at_160) rfl ?_)))
      by_cases hm161_1 : (0 : Int32) < (lcmpW ((sl.toInt64) - ((f1 (1 : Int32) p0).toInt64)) (((f1 (f1 (1 : Int32) p0) p1).toInt64) - ((f1 (1 : Int32) p0).toInt64)))
      ·
        simp only [if_neg hm153_0, if_pos hm161_1] at k_
        exact (XS.ifYes A49.here hx rfl (pc0 := 161) (pc' := 168) rfl (hb hby at_161) rfl ((if0 _ _).trans (tlt hm161_1).2.2.1) (by decide) (by decide) (XS.iconst A49.here hx rfl (hb hby at_168) k_))
      ·
        simp only [if_neg hm153_0, if_neg hm161_1] at k_
        exact (XS.ifNo A49.here hx rfl (hb hby at_161) rfl ((if0 _ _).trans (flt hm161_1).2.2.1) (XS.iconst A49.here hx rfl (hb hby at_164) (XS.goto A49.here hx rfl (pc0 := 165) (pc' := 169) rfl (hb hby at_165) (by decide) (by decide) k_)))
  refine own_go mg60 ?_
  show own_Go _ _ _ _ (T48.setTop (mkF m 169 #[.val (.int p0), .val (.int p1), .val (.int p2), .val (.int p3), .val (.int (f1 (1 : Int32) p0)), .val (.int (f1 (f1 (1 : Int32) p0) p1)), .val (.int (p3 &&& (7 : Int32))), .val (.int sl), .val (.ref b15), .val (.long ((sl.toInt64) - ((f1 (1 : Int32) p0).toInt64))), .second, .val (.long (((f1 (f1 (1 : Int32) p0) p1).toInt64) - ((f1 (1 : Int32) p0).toInt64))), .second, .unset] [(.int (if (lcmpW ((sl.toInt64) - ((f1 (1 : Int32) p0).toInt64)) (0 : Int64)) < (0 : Int32) then (0 : Int32) else (if (0 : Int32) < (lcmpW ((sl.toInt64) - ((f1 (1 : Int32) p0).toInt64)) (((f1 (f1 (1 : Int32) p0) p1).toInt64) - ((f1 (1 : Int32) p0).toInt64))) then (0 : Int32) else (1 : Int32))))]))
  refine own_go (fun t_ k_ => XS.istore A49.here hx rfl (hb hby at_169) rfl (l' := #[.val (.int p0), .val (.int p1), .val (.int p2), .val (.int p3), .val (.int (f1 (1 : Int32) p0)), .val (.int (f1 (f1 (1 : Int32) p0) p1)), .val (.int (p3 &&& (7 : Int32))), .val (.int sl), .val (.ref b15), .val (.long ((sl.toInt64) - ((f1 (1 : Int32) p0).toInt64))), .second, .val (.long (((f1 (f1 (1 : Int32) p0) p1).toInt64) - ((f1 (1 : Int32) p0).toInt64))), .second, .val (.int (if (lcmpW ((sl.toInt64) - ((f1 (1 : Int32) p0).toInt64)) (0 : Int64)) < (0 : Int32) then (0 : Int32) else (if (0 : Int32) < (lcmpW ((sl.toInt64) - ((f1 (1 : Int32) p0).toInt64)) (((f1 (f1 (1 : Int32) p0) p1).toInt64) - ((f1 (1 : Int32) p0).toInt64))) then (0 : Int32) else (1 : Int32))))]) rfl k_) ?_
  show own_Go _ _ _ _ (T48.setTop (mkF m 171 #[.val (.int p0), .val (.int p1), .val (.int p2), .val (.int p3), .val (.int (f1 (1 : Int32) p0)), .val (.int (f1 (f1 (1 : Int32) p0) p1)), .val (.int (p3 &&& (7 : Int32))), .val (.int sl), .val (.ref b15), .val (.long ((sl.toInt64) - ((f1 (1 : Int32) p0).toInt64))), .second, .val (.long (((f1 (f1 (1 : Int32) p0) p1).toInt64) - ((f1 (1 : Int32) p0).toInt64))), .second, .val (.int (if (lcmpW ((sl.toInt64) - ((f1 (1 : Int32) p0).toInt64)) (0 : Int64)) < (0 : Int32) then (0 : Int32) else (if (0 : Int32) < (lcmpW ((sl.toInt64) - ((f1 (1 : Int32) p0).toInt64)) (((f1 (f1 (1 : Int32) p0) p1).toInt64) - ((f1 (1 : Int32) p0).toInt64))) then (0 : Int32) else (1 : Int32))))] []))
  refine own_go (fun t_ k_ => XS.aload A49.here hx rfl (hb hby at_171) rfl rfl k_) ?_
  show own_Go _ _ _ _ (T48.setTop (mkF m 173 #[.val (.int p0), .val (.int p1), .val (.int p2), .val (.int p3), .val (.int (f1 (1 : Int32) p0)), .val (.int (f1 (f1 (1 : Int32) p0) p1)), .val (.int (p3 &&& (7 : Int32))), .val (.int sl), .val (.ref b15), .val (.long ((sl.toInt64) - ((f1 (1 : Int32) p0).toInt64))), .second, .val (.long (((f1 (f1 (1 : Int32) p0) p1).toInt64) - ((f1 (1 : Int32) p0).toInt64))), .second, .val (.int (if (lcmpW ((sl.toInt64) - ((f1 (1 : Int32) p0).toInt64)) (0 : Int64)) < (0 : Int32) then (0 : Int32) else (if (0 : Int32) < (lcmpW ((sl.toInt64) - ((f1 (1 : Int32) p0).toInt64)) (((f1 (f1 (1 : Int32) p0) p1).toInt64) - ((f1 (1 : Int32) p0).toInt64))) then (0 : Int32) else (1 : Int32))))] [(.ref b15)]))
  refine own_go (fun t_ k_ => XS.iload A49.here hx rfl (hb hby at_173) rfl k_) ?_
  show own_Go _ _ _ _ (T48.setTop (mkF m 175 #[.val (.int p0), .val (.int p1), .val (.int p2), .val (.int p3), .val (.int (f1 (1 : Int32) p0)), .val (.int (f1 (f1 (1 : Int32) p0) p1)), .val (.int (p3 &&& (7 : Int32))), .val (.int sl), .val (.ref b15), .val (.long ((sl.toInt64) - ((f1 (1 : Int32) p0).toInt64))), .second, .val (.long (((f1 (f1 (1 : Int32) p0) p1).toInt64) - ((f1 (1 : Int32) p0).toInt64))), .second, .val (.int (if (lcmpW ((sl.toInt64) - ((f1 (1 : Int32) p0).toInt64)) (0 : Int64)) < (0 : Int32) then (0 : Int32) else (if (0 : Int32) < (lcmpW ((sl.toInt64) - ((f1 (1 : Int32) p0).toInt64)) (((f1 (f1 (1 : Int32) p0) p1).toInt64) - ((f1 (1 : Int32) p0).toInt64))) then (0 : Int32) else (1 : Int32))))] [(.int sl), (.ref b15)]))
  refine own_callV A49 hx hZ (y := (⟨"com/example/gavelwright/gavelwright/model/Bid", "isPresentAt", "(I)Z"⟩ : MethodName)) (z := (⟨"com/example/gavelwright/gavelwright/model/Bid", "isPresentAt", "(I)Z"⟩ : MethodName)) hown (hw _ (List.mem_of_getElem? (i := 48) rfl)) (hw _ (List.mem_of_getElem? (i := 49) rfl)) (hw _ (List.mem_of_getElem? (i := 51) rfl)) (hw _ (List.mem_of_getElem? (i := 50) rfl)) (hw _ (List.mem_of_getElem? (i := 6) rfl)) (hw _ (List.mem_of_getElem? (i := 52) rfl)) (notFace_of_selects (args := #[]) (mvT hZ (hw _ (List.mem_of_getElem? (i := 51) rfl)))) (by decide) (b := b15) (argsL := [(.int sl)]) (rest := []) E58 (rm8 l Z a0 hw b15 sl (f1 (1 : Int32) p0) (f1 (f1 (1 : Int32) p0) p1) h50 n0 F54 F55) 0 (by decide) (by decide) rfl (by rw [hml]; rfl) (lenOf pd__I_Z rfl) rfl (by show 2 * 0 + _ ≤ _; exact Nat.le_of_eq rfl) (hb hby at_175) (by decide) (by decide) (fun v64 T61 h63 A62 hQ65 => ?_)
  obtain ⟨rfl, rfl⟩ := hQ65
  show own_Go _ _ _ _ (T61.setTop (mkF m 178 #[.val (.int p0), .val (.int p1), .val (.int p2), .val (.int p3), .val (.int (f1 (1 : Int32) p0)), .val (.int (f1 (f1 (1 : Int32) p0) p1)), .val (.int (p3 &&& (7 : Int32))), .val (.int sl), .val (.ref b15), .val (.long ((sl.toInt64) - ((f1 (1 : Int32) p0).toInt64))), .second, .val (.long (((f1 (f1 (1 : Int32) p0) p1).toInt64) - ((f1 (1 : Int32) p0).toInt64))), .second, .val (.int (if (lcmpW ((sl.toInt64) - ((f1 (1 : Int32) p0).toInt64)) (0 : Int64)) < (0 : Int32) then (0 : Int32) else (if (0 : Int32) < (lcmpW ((sl.toInt64) - ((f1 (1 : Int32) p0).toInt64)) (((f1 (f1 (1 : Int32) p0) p1).toInt64) - ((f1 (1 : Int32) p0).toInt64))) then (0 : Int32) else (1 : Int32))))] [(.int (f8 sl (f1 (1 : Int32) p0) (f1 (f1 (1 : Int32) p0) p1)))]))
  refine own_go (fun t_ k_ => XS.iload A62.here hx rfl (hb hby at_178) rfl k_) ?_
  show own_Go _ _ _ _ (T61.setTop (mkF m 180 #[.val (.int p0), .val (.int p1), .val (.int p2), .val (.int p3), .val (.int (f1 (1 : Int32) p0)), .val (.int (f1 (f1 (1 : Int32) p0) p1)), .val (.int (p3 &&& (7 : Int32))), .val (.int sl), .val (.ref b15), .val (.long ((sl.toInt64) - ((f1 (1 : Int32) p0).toInt64))), .second, .val (.long (((f1 (f1 (1 : Int32) p0) p1).toInt64) - ((f1 (1 : Int32) p0).toInt64))), .second, .val (.int (if (lcmpW ((sl.toInt64) - ((f1 (1 : Int32) p0).toInt64)) (0 : Int64)) < (0 : Int32) then (0 : Int32) else (if (0 : Int32) < (lcmpW ((sl.toInt64) - ((f1 (1 : Int32) p0).toInt64)) (((f1 (f1 (1 : Int32) p0) p1).toInt64) - ((f1 (1 : Int32) p0).toInt64))) then (0 : Int32) else (1 : Int32))))] [(.int (if (lcmpW ((sl.toInt64) - ((f1 (1 : Int32) p0).toInt64)) (0 : Int64)) < (0 : Int32) then (0 : Int32) else (if (0 : Int32) < (lcmpW ((sl.toInt64) - ((f1 (1 : Int32) p0).toInt64)) (((f1 (f1 (1 : Int32) p0) p1).toInt64) - ((f1 (1 : Int32) p0).toInt64))) then (0 : Int32) else (1 : Int32)))), (.int (f8 sl (f1 (1 : Int32) p0) (f1 (f1 (1 : Int32) p0) p1)))]))
  have hc66 : (f8 sl (f1 (1 : Int32) p0) (f1 (f1 (1 : Int32) p0) p1)) = (if (lcmpW ((sl.toInt64) - ((f1 (1 : Int32) p0).toInt64)) (0 : Int64)) < (0 : Int32) then (0 : Int32) else (if (0 : Int32) < (lcmpW ((sl.toInt64) - ((f1 (1 : Int32) p0).toInt64)) (((f1 (f1 (1 : Int32) p0) p1).toInt64) - ((f1 (1 : Int32) p0).toInt64))) then (0 : Int32) else (1 : Int32))) := own_law _ _ _
  refine own_go (fun t_ k_ => XS.icmpNo A62.here hx rfl (hb hby at_180) rfl (teq hc66).2 k_) ?_
  show own_Go _ _ _ _ (T61.setTop (mkF m 183 #[.val (.int p0), .val (.int p1), .val (.int p2), .val (.int p3), .val (.int (f1 (1 : Int32) p0)), .val (.int (f1 (f1 (1 : Int32) p0) p1)), .val (.int (p3 &&& (7 : Int32))), .val (.int sl), .val (.ref b15), .val (.long ((sl.toInt64) - ((f1 (1 : Int32) p0).toInt64))), .second, .val (.long (((f1 (f1 (1 : Int32) p0) p1).toInt64) - ((f1 (1 : Int32) p0).toInt64))), .second, .val (.int (if (lcmpW ((sl.toInt64) - ((f1 (1 : Int32) p0).toInt64)) (0 : Int64)) < (0 : Int32) then (0 : Int32) else (if (0 : Int32) < (lcmpW ((sl.toInt64) - ((f1 (1 : Int32) p0).toInt64)) (((f1 (f1 (1 : Int32) p0) p1).toInt64) - ((f1 (1 : Int32) p0).toInt64))) then (0 : Int32) else (1 : Int32))))] []))
  refine own_go (fun t_ k_ => XS.iconst A62.here hx rfl (hb hby at_183) k_) ?_
  show own_Go _ _ _ _ (T61.setTop (mkF m 184 #[.val (.int p0), .val (.int p1), .val (.int p2), .val (.int p3), .val (.int (f1 (1 : Int32) p0)), .val (.int (f1 (f1 (1 : Int32) p0) p1)), .val (.int (p3 &&& (7 : Int32))), .val (.int sl), .val (.ref b15), .val (.long ((sl.toInt64) - ((f1 (1 : Int32) p0).toInt64))), .second, .val (.long (((f1 (f1 (1 : Int32) p0) p1).toInt64) - ((f1 (1 : Int32) p0).toInt64))), .second, .val (.int (if (lcmpW ((sl.toInt64) - ((f1 (1 : Int32) p0).toInt64)) (0 : Int64)) < (0 : Int32) then (0 : Int32) else (if (0 : Int32) < (lcmpW ((sl.toInt64) - ((f1 (1 : Int32) p0).toInt64)) (((f1 (f1 (1 : Int32) p0) p1).toInt64) - ((f1 (1 : Int32) p0).toInt64))) then (0 : Int32) else (1 : Int32))))] [(.int (1 : Int32))]))
  refine own_go (fun t_ k_ => XS.goto A62.here hx rfl (pc0 := 184) (pc' := 188) rfl (hb hby at_184) (by decide) (by decide) k_) ?_
  show own_Go _ _ _ _ (T61.setTop (mkF m 188 #[.val (.int p0), .val (.int p1), .val (.int p2), .val (.int p3), .val (.int (f1 (1 : Int32) p0)), .val (.int (f1 (f1 (1 : Int32) p0) p1)), .val (.int (p3 &&& (7 : Int32))), .val (.int sl), .val (.ref b15), .val (.long ((sl.toInt64) - ((f1 (1 : Int32) p0).toInt64))), .second, .val (.long (((f1 (f1 (1 : Int32) p0) p1).toInt64) - ((f1 (1 : Int32) p0).toInt64))), .second, .val (.int (if (lcmpW ((sl.toInt64) - ((f1 (1 : Int32) p0).toInt64)) (0 : Int64)) < (0 : Int32) then (0 : Int32) else (if (0 : Int32) < (lcmpW ((sl.toInt64) - ((f1 (1 : Int32) p0).toInt64)) (((f1 (f1 (1 : Int32) p0) p1).toInt64) - ((f1 (1 : Int32) p0).toInt64))) then (0 : Int32) else (1 : Int32))))] [(.int (1 : Int32))]))
  refine own_retNW A62 hx (t := .boolean) hret (by simp) hlk (by decide) (by decide) hS34 Y59 (hb hby at_188) ?_
  exact ⟨rfl, trivial⟩
set_option maxRecDepth 65536 in
set_option maxHeartbeats 40000000 in
theorem comes_1 {Post : Tables → Env → Array Value → State → Outcome → State → Prop} (hpost : ∀ tb e args s v u, (limb_1_1.after args s (.returned v) u = true ∧ limb_1_2.after args s (.returned v) u = true ∧ True) → ReturnedEndW s (.returned v) u (Jvm.fieldLocs frame_1_writes args s ++ Jvm.arrayLocs frame_1_arrays args s ++ Jvm.staticLocs frame_1_statics s) 16 1152 → Post tb e args s (.returned v) u) :
    ArmFor flags0 classFile x code maxLocals ret World_1 tables_1 room_1 Calls_1 rest_1 Pre_1 Post := by
  intro l hfl _ _ p e ha hc hk s m args below hf hA hF happ hP
  obtain ⟨hcalls, hrest, hpre⟩ := hP
  obtain ⟨-, -, -, hnamed, -, -, -, hat⟩ := (Spec.applies_iff hf).mp happ
  obtain ⟨hg, hn⟩ := and_e (Cond.before_iff.mp (show (Jvm.Cond.and given_1 narrow_1).before args s = true from hpre))
  obtain ⟨gc, gr⟩ := and_e hg
  obtain ⟨w0, w1, w2, w3, rfl⟩ : ∃ w0 w1 w2 w3 : Value, args = #[w0, w1, w2, w3] := by
    have hs : args.size = 4 := by simpa [Cond.value, given_1] using gc
    obtain ⟨L⟩ := args
    match L, hs with
    | [w0, w1, w2, w3], _ => exact ⟨w0, w1, w2, w3, rfl⟩
  have hw := fun d (hd : d ∈ tables_1) => atoms_spec (ws := Jvm.Cond.code x code maxLocals ret :: tables_1) hat d (List.mem_cons_of_mem _ hd)
  have hfit : Fit s := fun {y c} hc i hi => by
    obtain ⟨ha, rfl⟩ := Array.getElem?_eq_some_iff.mp hc
    have q := List.all_eq_true.mp ((Array.all_eq_true_iff_forall_mem.mp hF) _ (Array.getElem_mem ha)) i (List.mem_range.mpr hi)
    simpa [Array.getElem?_eq_getElem hi] using q
  obtain ⟨q0, gr0⟩ := and_e gr
  obtain ⟨i0, ei0⟩ := is_v q0
  obtain rfl : w0 = (.int i0) := Option.some.inj ei0
  obtain ⟨q1, gr1⟩ := and_e gr0
  obtain ⟨i1, ei1⟩ := is_v q1
  obtain rfl : w1 = (.int i1) := Option.some.inj ei1
  obtain ⟨q2, gr2⟩ := and_e gr1
  obtain ⟨i2, ei2⟩ := is_v q2
  obtain rfl : w2 = (.int i2) := Option.some.inj ei2
  obtain ⟨i3, ei3⟩ := is_v gr2
  obtain rfl : w3 = (.int i3) := Option.some.inj ei3
  obtain ⟨hsets, hown0⟩ := atoms_of _ (rest_1_c_eq ▸ (show rest_1_c.before _ s = true from hrest))
  have hcw : Jvm.Lit.compactW.before _ s = true := hsets _ (List.mem_of_getElem? (i := 2) rfl)
  obtain ⟨n, o, h1, h2, h3, _, L, rfl, ⟨⟨rfl, hQ⟩, N⟩, hq⟩ := rm0 l s _ hw i0 i1 i2 i3  s.heap s.heap.size (Old.start s) (Nat.le_refl _) hcw hcalls.1 (Nat.le_refl _) tables_1 p e ha hc hk s m _ below hf ((Spec.applies_iff_loose hf).mp happ).1 ⟨rfl, State.Warmed39.refl s, rfl, IB.start⟩ trivial
  refine ⟨n, _, h1, h2, h3, hpost _ _ _ _ _ _ ⟨Cond.after_iff.mpr rfl, Cond.after_iff.mpr (eq_i res_at (Term.int_eval (1)) rfl), trivial⟩ ⟨hq.1, hq.2.1, hq.2.2.1, (hq.2.2.2.sift fun y hy => Or.inr (N y hy)).mono (by decide) (by decide)⟩⟩
theorem main_1_1 : Claimed_1_1 := comes_1 fun _ _ _ _ _ _ h hF => ⟨h.1, hF⟩
theorem main_1_2 : Claimed_1_2 := comes_1 fun _ _ _ _ _ _ h hF => ⟨h.2.1, hF⟩
end Jvm.Pilot.@@N@@
namespace Jvm.Pilot.@@N@@
open Jvm Jvm.ClassFile Sem Op Lib Jvm.Free Jvm.Stand Jvm.Pilot.@@N@@.Jvm.D
/-! MADE BY PROGRAM (witnessworld.py) out of the Statement's table words and the real class files: 21 classes; the members and pool entries that the words name. The judged class is class 1, her method 1. -/
namespace start1
open Jvm.ClassFile
def u (s : String) : CpInfo := .utf8 (stringToUtf16 s)
/-- a pool by its gaps: so many unusable entries, then the entry; so many at the end -/
def gap : Nat → List CpInfo → List CpInfo
  | 0, r => r
  | n + 1, r => .unusable :: gap n r
def poolList (es : List (Nat × CpInfo)) (last : Nat) : List CpInfo := es.foldr (fun e r => gap e.1 (e.2 :: r)) (gap last [])
def pool (es : List (Nat × CpInfo)) (last : Nat) : Array CpInfo := ⟨poolList es last⟩
def fileOf (pool : Array CpInfo) (this : Nat) (attrs : Array Attribute := #[]) (ms : Array MethodInfo := #[]) (fl : Nat := 33) (sup : Nat := 0) (ifs : Array Nat := #[]) (fds : Array FieldInfo := #[]) : ClassFile where
  minorVersion := 0
  majorVersion := 65
  constantPool := pool
  accessFlags := fl
  thisClass := this
  superClass := sup
  interfaces := ifs
  fields := fds
  methods := ms
  attributes := attrs
def plain (name : String) (sup : Option ClassId) : Class where
  name := name
  kind := .ordinary
  loader := none
  accessFlags := 33
  super := sup
  interfaces := #[]
  cf := none
  fields := #[]
  methods := #[]
  instanceTypes := #[]
  staticTypes := #[]
  resolved := #[]
  callSites := []
  init := .initialized
  statics := none
  mirror := none

def pool0 : Array CpInfo := pool [(5, u "<init>"), (0, u "()V"), (1, .class_ 10), (1, u "java/lang/Object")] 113

def k0c0 : Code := { maxStack := 0, maxLocals := 1, code := object_method_1_code, exceptionTable := #[], attributes := #[] }
def k0m0 : Method := { name := "<init>", desc := "()V", sig := { parameters := [], returnType := none }, accessFlags := 1, code := some k0c0 }
/-- java/lang/Object -/
def k0 : Class := { plain "java/lang/Object" none with
  accessFlags := 33
  interfaces := #[]
  cf := some (fileOf pool0 8 #[] #[{ accessFlags := 1, nameIndex := 5, descriptorIndex := 6, attributes := #[] }] 33 0 #[] #[])
  fields := #[]
  methods := #[k0m0]
  instanceTypes := #[]
  staticTypes := #[]
  resolved := Array.replicate 124 none
  statics := none }

def pool1 : Array CpInfo := pool [(2, .class_ 4), (1, u "java/lang/Object"), (0, u "<init>"), (0, u "()V"), (0, .methodref 8 9), (0, .class_ 10), (0, .nameAndType 11 12), (0, u "java/lang/Math"), (0, u "max"), (0, u "(II)I"), (0, .class_ 14), (0, u "com/example/gavelwright/gavelwright/model/Bid"), (0, .string 16), (0, u "b"), (0, .methodref 13 18), (0, .nameAndType 5 19), (0, u "(Ljava/lang/String;IID)V"), (0, .methodref 13 21), (0, .nameAndType 22 23), (0, u "isPresentAt"), (0, u "(I)Z"), (0, .class_ 25), (0, u "com/example/gavelwright/gavelwright/model/BidIsPresentAtPinLaw"), (2, u "law"), (0, u "(IIII)Z")] 3

def k1m0 : Method := { name := "<init>", desc := "()V", sig := { parameters := [], returnType := none }, accessFlags := 2, code := none }
def k1c1 : Code := { maxStack := 7, maxLocals := 14, code := code, exceptionTable := #[], attributes := #[] }
def k1m1 : Method := { name := "law", desc := "(IIII)Z", sig := { parameters := [.int, .int, .int, .int], returnType := some .boolean }, accessFlags := 9, code := some k1c1 }
/-- com/example/gavelwright/gavelwright/model/BidIsPresentAtPinLaw -/
def k1 : Class := { plain "com/example/gavelwright/gavelwright/model/BidIsPresentAtPinLaw" (some 0) with
  accessFlags := 49
  interfaces := #[]
  cf := some (fileOf pool1 24 #[] #[{ accessFlags := 2, nameIndex := 5, descriptorIndex := 6, attributes := #[] }, { accessFlags := 9, nameIndex := 28, descriptorIndex := 29, attributes := #[] }] 49 2 #[] #[])
  fields := #[]
  methods := #[k1m0, k1m1]
  instanceTypes := #[]
  staticTypes := #[]
  resolved := Array.replicate 33 none
  statics := none }

def pool2 : Array CpInfo := pool [(1, .class_ 2), (0, u "java/lang/Math"), (1, .class_ 6), (1, u "java/lang/Object"), (0, u "<init>"), (0, u "()V"), (5, u "(D)D"), (83, .class_ 100), (1, u "java/lang/Math$RandomNumberGeneratorHolder"), (23, u "abs"), (47, u "negativeZeroFloatBits"), (0, u "J"), (2, u "negativeZeroDoubleBits"), (21, u "max"), (46, u "$assertionsDisabled"), (0, u "Z"), (88, u "(II)I"), (2, u "twoToTheDoubleScaleDown"), (0, u "D"), (4, u "twoToTheDoubleScaleUp"), (9, u "E"), (3, u "PI"), (2, u "TAU"), (2, u "DEGREES_TO_RADIANS"), (0, u "RADIANS_TO_DEGREES")] 94

def k2m0 : Method := { name := "<init>", desc := "()V", sig := { parameters := [], returnType := none }, accessFlags := 2, code := none }
def k2c1 : Code := { maxStack := 4, maxLocals := 2, code := jdk_29_method_64_code, exceptionTable := #[], attributes := #[] }
def k2m1 : Method := { name := "abs", desc := "(D)D", sig := { parameters := [.double], returnType := some .double }, accessFlags := 9, code := some k2c1 }
def k2c2 : Code := { maxStack := 2, maxLocals := 2, code := jdk_29_method_65_code, exceptionTable := #[], attributes := #[] }
def k2m2 : Method := { name := "max", desc := "(II)I", sig := { parameters := [.int, .int], returnType := some .int }, accessFlags := 9, code := some k2c2 }
/-- java/lang/Math -/
def k2 : Class := { plain "java/lang/Math" (some 0) with
  accessFlags := 49
  interfaces := #[]
  cf := some (fileOf pool2 1 #[.nestMembers #[98]] #[{ accessFlags := 2, nameIndex := 7, descriptorIndex := 8, attributes := #[] }, { accessFlags := 9, nameIndex := 124, descriptorIndex := 14, attributes := #[] }, { accessFlags := 9, nameIndex := 198, descriptorIndex := 335, attributes := #[] }] 49 4 #[] #[{ accessFlags := 25, nameIndex := 354, descriptorIndex := 339, attributes := #[] }, { accessFlags := 25, nameIndex := 358, descriptorIndex := 339, attributes := #[] }, { accessFlags := 25, nameIndex := 361, descriptorIndex := 339, attributes := #[] }, { accessFlags := 26, nameIndex := 364, descriptorIndex := 339, attributes := #[] }, { accessFlags := 26, nameIndex := 365, descriptorIndex := 339, attributes := #[] }, { accessFlags := 26, nameIndex := 172, descriptorIndex := 173, attributes := #[] }, { accessFlags := 26, nameIndex := 176, descriptorIndex := 173, attributes := #[] }, { accessFlags := 8, nameIndex := 344, descriptorIndex := 339, attributes := #[] }, { accessFlags := 8, nameIndex := 338, descriptorIndex := 339, attributes := #[] }, { accessFlags := 4120, nameIndex := 245, descriptorIndex := 246, attributes := #[] }])
  fields := #[{ name := "E", type := .double, accessFlags := 25, slot := 0, constantValue := 0 }, { name := "PI", type := .double, accessFlags := 25, slot := 1, constantValue := 0 }, { name := "TAU", type := .double, accessFlags := 25, slot := 2, constantValue := 0 }, { name := "DEGREES_TO_RADIANS", type := .double, accessFlags := 26, slot := 3, constantValue := 0 }, { name := "RADIANS_TO_DEGREES", type := .double, accessFlags := 26, slot := 4, constantValue := 0 }, { name := "negativeZeroFloatBits", type := .long, accessFlags := 26, slot := 5, constantValue := 0 }, { name := "negativeZeroDoubleBits", type := .long, accessFlags := 26, slot := 6, constantValue := 0 }, { name := "twoToTheDoubleScaleUp", type := .double, accessFlags := 8, slot := 7, constantValue := 0 }, { name := "twoToTheDoubleScaleDown", type := .double, accessFlags := 8, slot := 8, constantValue := 0 }, { name := "$assertionsDisabled", type := .boolean, accessFlags := 4120, slot := 9, constantValue := 0 }]
  methods := #[k2m0, k2m1, k2m2]
  instanceTypes := #[]
  staticTypes := #[.double, .double, .double, .double, .double, .long, .long, .double, .double, .boolean]
  resolved := Array.replicate 460 none
  statics := none }

def pool3 : Array CpInfo := pool [(1, .methodref 2 3), (0, .class_ 4), (0, .nameAndType 5 6), (0, u "java/lang/Object"), (0, u "<init>"), (0, u "()V"), (0, .class_ 8), (0, u "java/lang/Record")] 13

def k3c0 : Code := { maxStack := 1, maxLocals := 1, code := jdk_30_method_1_code, exceptionTable := #[], attributes := #[] }
def k3m0 : Method := { name := "<init>", desc := "()V", sig := { parameters := [], returnType := none }, accessFlags := 4, code := some k3c0 }
/-- java/lang/Record -/
def k3 : Class := { plain "java/lang/Record" (some 0) with
  accessFlags := 1057
  interfaces := #[]
  cf := some (fileOf pool3 7 #[] #[{ accessFlags := 4, nameIndex := 5, descriptorIndex := 6, attributes := #[] }] 1057 2 #[] #[])
  fields := #[]
  methods := #[k3m0]
  instanceTypes := #[]
  staticTypes := #[]
  resolved := Array.replicate 22 none
  statics := none }

def pool4 : Array CpInfo := pool [(1, .methodref 2 3), (0, .class_ 4), (0, .nameAndType 5 6), (0, u "java/lang/Record"), (0, u "<init>"), (0, u "()V"), (0, .methodref 8 9), (0, .class_ 10), (0, .nameAndType 11 12), (0, u "java/lang/String"), (0, u "isEmpty"), (0, u "()Z"), (14, .methodref 28 29), (0, .class_ 30), (0, .nameAndType 31 32), (0, u "java/lang/Double"), (0, u "isFinite"), (0, u "(D)Z"), (4, .fieldref 38 39), (0, .class_ 40), (0, .nameAndType 41 42), (0, u "com/example/gavelwright/gavelwright/model/Bid"), (0, u "id"), (0, u "Ljava/lang/String;"), (0, .fieldref 38 44), (0, .nameAndType 45 46), (0, u "arrival"), (0, u "I"), (0, .fieldref 38 48), (0, .nameAndType 49 46), (0, u "departure"), (0, .fieldref 38 51), (0, .nameAndType 52 53), (0, u "value"), (0, u "D"), (12, u "(Ljava/lang/String;IID)V"), (4, u "isPresentAt"), (0, u "(I)Z")] 41

def k4c0 : Code := { maxStack := 4, maxLocals := 6, code := prog_72_method_1_code, exceptionTable := #[], attributes := #[] }
def k4m0 : Method := { name := "<init>", desc := "(Ljava/lang/String;IID)V", sig := { parameters := [(.object "java/lang/String"), .int, .int, .double], returnType := none }, accessFlags := 1, code := some k4c0 }
def k4c1 : Code := { maxStack := 2, maxLocals := 2, code := prog_72_method_2_code, exceptionTable := #[], attributes := #[] }
def k4m1 : Method := { name := "isPresentAt", desc := "(I)Z", sig := { parameters := [.int], returnType := some .boolean }, accessFlags := 1, code := some k4c1 }
/-- com/example/gavelwright/gavelwright/model/Bid -/
def k4 : Class := { plain "com/example/gavelwright/gavelwright/model/Bid" (some 3) with
  accessFlags := 49
  interfaces := #[]
  cf := some (fileOf pool4 38 #[] #[{ accessFlags := 1, nameIndex := 5, descriptorIndex := 66, attributes := #[] }, { accessFlags := 1, nameIndex := 71, descriptorIndex := 72, attributes := #[] }] 49 2 #[] #[{ accessFlags := 18, nameIndex := 41, descriptorIndex := 42, attributes := #[] }, { accessFlags := 18, nameIndex := 45, descriptorIndex := 46, attributes := #[] }, { accessFlags := 18, nameIndex := 49, descriptorIndex := 46, attributes := #[] }, { accessFlags := 18, nameIndex := 52, descriptorIndex := 53, attributes := #[] }])
  fields := #[{ name := "id", type := (.object "java/lang/String"), accessFlags := 18, slot := 0, constantValue := 0 }, { name := "arrival", type := .int, accessFlags := 18, slot := 1, constantValue := 0 }, { name := "departure", type := .int, accessFlags := 18, slot := 2, constantValue := 0 }, { name := "value", type := .double, accessFlags := 18, slot := 3, constantValue := 0 }]
  methods := #[k4m0, k4m1]
  instanceTypes := #[(.object "java/lang/String"), .int, .int, .double]
  staticTypes := #[]
  resolved := Array.replicate 114 none
  statics := none }

def pool5 : Array CpInfo := pool [(1, .class_ 2), (0, u "java/io/Serializable"), (0, .class_ 4), (0, u "java/lang/Object")] 2

/-- java/io/Serializable -/
def k5 : Class := { plain "java/io/Serializable" (some 0) with
  accessFlags := 1537
  interfaces := #[]
  cf := some (fileOf pool5 1 #[] #[] 1537 3 #[] #[])
  fields := #[]
  methods := #[]
  instanceTypes := #[]
  staticTypes := #[]
  resolved := Array.replicate 7 none
  statics := none }

def pool6 : Array CpInfo := pool [(1, .class_ 2), (0, u "java/lang/Comparable"), (0, .class_ 4), (0, u "java/lang/Object")] 7

/-- java/lang/Comparable -/
def k6 : Class := { plain "java/lang/Comparable" (some 0) with
  accessFlags := 1537
  interfaces := #[]
  cf := some (fileOf pool6 1 #[] #[] 1537 3 #[] #[])
  fields := #[]
  methods := #[]
  instanceTypes := #[]
  staticTypes := #[]
  resolved := Array.replicate 12 none
  statics := none }

def pool7 : Array CpInfo := pool [(2, .class_ 4), (1, u "java/lang/CharSequence"), (42, .class_ 48), (0, u "java/lang/CharSequence$1CodePointIterator"), (10, .class_ 60), (0, u "java/lang/CharSequence$1CharIterator"), (5, .class_ 67), (0, u "java/lang/Object")] 63

/-- java/lang/CharSequence -/
def k7 : Class := { plain "java/lang/CharSequence" (some 0) with
  accessFlags := 1537
  interfaces := #[]
  cf := some (fileOf pool7 2 #[.nestMembers #[47, 59]] #[] 1537 66 #[] #[])
  fields := #[]
  methods := #[]
  instanceTypes := #[]
  staticTypes := #[]
  resolved := Array.replicate 131 none
  statics := none }

def pool8 : Array CpInfo := pool [(1, .class_ 2), (0, u "java/lang/constant/Constable"), (0, .class_ 4), (0, u "java/lang/Object")] 6

/-- java/lang/constant/Constable -/
def k8 : Class := { plain "java/lang/constant/Constable" (some 0) with
  accessFlags := 1537
  interfaces := #[]
  cf := some (fileOf pool8 1 #[] #[] 1537 3 #[] #[])
  fields := #[]
  methods := #[]
  instanceTypes := #[]
  staticTypes := #[]
  resolved := Array.replicate 11 none
  statics := none }

def pool9 : Array CpInfo := pool [(1, .class_ 2), (0, u "java/lang/constant/ConstantDesc"), (0, .class_ 4), (0, u "java/lang/Object")] 32

/-- java/lang/constant/ConstantDesc -/
def k9 : Class := { plain "java/lang/constant/ConstantDesc" (some 0) with
  accessFlags := 1537
  interfaces := #[]
  cf := some (fileOf pool9 1 #[] #[] 1537 3 #[] #[])
  fields := #[]
  methods := #[]
  instanceTypes := #[]
  staticTypes := #[]
  resolved := Array.replicate 37 none
  statics := none }

def pool10 : Array CpInfo := pool [(2, .class_ 4), (1, u "java/lang/Object"), (0, u "<init>"), (0, u "()V"), (2, .fieldref 10 11), (0, .class_ 12), (0, .nameAndType 13 14), (0, u "java/lang/String"), (0, u "value"), (0, u "[B"), (2, u "coder"), (0, u "B"), (2, u "hash"), (0, u "I"), (2, u "hashIsZero"), (0, u "Z"), (13, u "COMPACT_STRINGS"), (101, u "()Z"), (432, .class_ 576), (0, u "java/lang/CharSequence"), (22, u "CASE_INSENSITIVE_ORDER"), (0, u "Ljava/util/Comparator;"), (91, u "isEmpty"), (408, u "serialPersistentFields"), (0, u "[Ljava/io/ObjectStreamField;"), (0, .class_ 1104), (0, u "java/lang/String$CaseInsensitiveComparator"), (1, .class_ 1107), (0, u "java/io/Serializable"), (0, .class_ 1109), (0, u "java/lang/Comparable"), (0, .class_ 1111), (0, u "java/lang/constant/Constable"), (0, .class_ 1113), (0, u "java/lang/constant/ConstantDesc"), (2, u "serialVersionUID"), (0, u "J"), (3, u "REPL"), (0, u "C"), (2, u "LATIN1"), (1, u "UTF16")] 323

def k10m0 : Method := { name := "<init>", desc := "()V", sig := { parameters := [], returnType := none }, accessFlags := 1, code := none }
def k10c1 : Code := { maxStack := 1, maxLocals := 1, code := jdk_42_method_55_code, exceptionTable := #[], attributes := #[] }
def k10m1 : Method := { name := "isEmpty", desc := "()Z", sig := { parameters := [], returnType := some .boolean }, accessFlags := 1, code := some k10c1 }
/-- java/lang/String -/
def k10 : Class := { plain "java/lang/String" (some 0) with
  accessFlags := 49
  interfaces := #[5, 6, 7, 8, 9]
  cf := some (fileOf pool10 10 #[.nestMembers #[1103]] #[{ accessFlags := 1, nameIndex := 5, descriptorIndex := 6, attributes := #[] }, { accessFlags := 1, nameIndex := 692, descriptorIndex := 142, attributes := #[] }] 49 2 #[1106, 1108, 575, 1110, 1112] #[{ accessFlags := 18, nameIndex := 13, descriptorIndex := 14, attributes := #[] }, { accessFlags := 18, nameIndex := 17, descriptorIndex := 18, attributes := #[] }, { accessFlags := 2, nameIndex := 21, descriptorIndex := 22, attributes := #[] }, { accessFlags := 2, nameIndex := 25, descriptorIndex := 26, attributes := #[] }, { accessFlags := 26, nameIndex := 1116, descriptorIndex := 1117, attributes := #[] }, { accessFlags := 24, nameIndex := 40, descriptorIndex := 26, attributes := #[] }, { accessFlags := 26, nameIndex := 1101, descriptorIndex := 1102, attributes := #[] }, { accessFlags := 26, nameIndex := 1121, descriptorIndex := 1122, attributes := #[] }, { accessFlags := 25, nameIndex := 599, descriptorIndex := 600, attributes := #[] }, { accessFlags := 24, nameIndex := 1125, descriptorIndex := 18, attributes := #[] }, { accessFlags := 24, nameIndex := 1127, descriptorIndex := 18, attributes := #[] }])
  fields := #[{ name := "value", type := (.array .byte), accessFlags := 18, slot := 0, constantValue := 0 }, { name := "coder", type := .byte, accessFlags := 18, slot := 1, constantValue := 0 }, { name := "hash", type := .int, accessFlags := 2, slot := 2, constantValue := 0 }, { name := "hashIsZero", type := .boolean, accessFlags := 2, slot := 3, constantValue := 0 }, { name := "serialVersionUID", type := .long, accessFlags := 26, slot := 0, constantValue := 0 }, { name := "COMPACT_STRINGS", type := .boolean, accessFlags := 24, slot := 1, constantValue := 0 }, { name := "serialPersistentFields", type := (.array (.object "java/io/ObjectStreamField")), accessFlags := 26, slot := 2, constantValue := 0 }, { name := "REPL", type := .char, accessFlags := 26, slot := 3, constantValue := 0 }, { name := "CASE_INSENSITIVE_ORDER", type := (.object "java/util/Comparator"), accessFlags := 25, slot := 4, constantValue := 0 }, { name := "LATIN1", type := .byte, accessFlags := 24, slot := 5, constantValue := 0 }, { name := "UTF16", type := .byte, accessFlags := 24, slot := 6, constantValue := 0 }]
  methods := #[k10m0, k10m1]
  instanceTypes := #[(.array .byte), .byte, .int, .boolean]
  staticTypes := #[.long, .boolean, (.array (.object "java/io/ObjectStreamField")), .char, (.object "java/util/Comparator"), .byte, .byte]
  resolved := Array.replicate 1451 none
  statics := some 0 }

def pool11 : Array CpInfo := pool [(2, .class_ 4), (1, u "java/lang/Object"), (0, u "<init>"), (0, u "()V"), (1, .class_ 10), (1, u "java/lang/Number"), (2, .class_ 14), (0, u "java/io/Serializable"), (0, u "serialVersionUID"), (0, u "J")] 20

def k11m0 : Method := { name := "<init>", desc := "()V", sig := { parameters := [], returnType := none }, accessFlags := 1, code := none }
/-- java/lang/Number -/
def k11 : Class := { plain "java/lang/Number" (some 0) with
  accessFlags := 1057
  interfaces := #[5]
  cf := some (fileOf pool11 8 #[] #[{ accessFlags := 1, nameIndex := 5, descriptorIndex := 6, attributes := #[] }] 1057 2 #[13] #[{ accessFlags := 26, nameIndex := 15, descriptorIndex := 16, attributes := #[] }])
  fields := #[{ name := "serialVersionUID", type := .long, accessFlags := 26, slot := 0, constantValue := 0 }]
  methods := #[k11m0]
  instanceTypes := #[]
  staticTypes := #[.long]
  resolved := Array.replicate 37 none
  statics := none }

def pool12 : Array CpInfo := pool [(1, .class_ 2), (0, u "java/lang/Double"), (10, u "isFinite"), (0, u "(D)Z"), (8, .class_ 25), (1, u "java/lang/Math"), (12, .methodref 23 39), (0, .nameAndType 40 41), (0, u "abs"), (0, u "(D)D"), (69, .double 9218868437227405311), (2, .class_ 116), (1, u "java/lang/Number"), (3, u "value"), (0, u "D"), (51, u "TYPE"), (0, u "Ljava/lang/Class;"), (0, .class_ 176), (0, u "java/lang/Comparable"), (0, .class_ 178), (0, u "java/lang/constant/Constable"), (0, .class_ 180), (0, u "java/lang/constant/ConstantDesc"), (0, u "POSITIVE_INFINITY"), (3, u "NEGATIVE_INFINITY"), (2, u "NaN"), (2, u "MAX_VALUE"), (0, u "MIN_NORMAL"), (0, u "MIN_VALUE"), (2, u "SIZE"), (0, u "I"), (1, u "PRECISION"), (1, u "MAX_EXPONENT"), (1, u "MIN_EXPONENT"), (1, u "BYTES"), (3, u "serialVersionUID"), (0, u "J")] 79

def k12c0 : Code := { maxStack := 4, maxLocals := 2, code := jdk_117_method_8_code, exceptionTable := #[], attributes := #[] }
def k12m0 : Method := { name := "isFinite", desc := "(D)Z", sig := { parameters := [.double], returnType := some .boolean }, accessFlags := 9, code := some k12c0 }
/-- java/lang/Double -/
def k12 : Class := { plain "java/lang/Double" (some 11) with
  accessFlags := 49
  interfaces := #[6, 8, 9]
  cf := some (fileOf pool12 1 #[] #[{ accessFlags := 9, nameIndex := 13, descriptorIndex := 14, attributes := #[] }] 49 114 #[175, 177, 179] #[{ accessFlags := 25, nameIndex := 181, descriptorIndex := 121, attributes := #[] }, { accessFlags := 25, nameIndex := 185, descriptorIndex := 121, attributes := #[] }, { accessFlags := 25, nameIndex := 188, descriptorIndex := 121, attributes := #[] }, { accessFlags := 25, nameIndex := 191, descriptorIndex := 121, attributes := #[] }, { accessFlags := 25, nameIndex := 192, descriptorIndex := 121, attributes := #[] }, { accessFlags := 25, nameIndex := 193, descriptorIndex := 121, attributes := #[] }, { accessFlags := 25, nameIndex := 196, descriptorIndex := 197, attributes := #[] }, { accessFlags := 25, nameIndex := 199, descriptorIndex := 197, attributes := #[] }, { accessFlags := 25, nameIndex := 201, descriptorIndex := 197, attributes := #[] }, { accessFlags := 25, nameIndex := 203, descriptorIndex := 197, attributes := #[] }, { accessFlags := 25, nameIndex := 205, descriptorIndex := 197, attributes := #[] }, { accessFlags := 25, nameIndex := 173, descriptorIndex := 174, attributes := #[] }, { accessFlags := 18, nameIndex := 120, descriptorIndex := 121, attributes := #[] }, { accessFlags := 26, nameIndex := 209, descriptorIndex := 210, attributes := #[] }])
  fields := #[{ name := "POSITIVE_INFINITY", type := .double, accessFlags := 25, slot := 0, constantValue := 0 }, { name := "NEGATIVE_INFINITY", type := .double, accessFlags := 25, slot := 1, constantValue := 0 }, { name := "NaN", type := .double, accessFlags := 25, slot := 2, constantValue := 0 }, { name := "MAX_VALUE", type := .double, accessFlags := 25, slot := 3, constantValue := 0 }, { name := "MIN_NORMAL", type := .double, accessFlags := 25, slot := 4, constantValue := 0 }, { name := "MIN_VALUE", type := .double, accessFlags := 25, slot := 5, constantValue := 0 }, { name := "SIZE", type := .int, accessFlags := 25, slot := 6, constantValue := 0 }, { name := "PRECISION", type := .int, accessFlags := 25, slot := 7, constantValue := 0 }, { name := "MAX_EXPONENT", type := .int, accessFlags := 25, slot := 8, constantValue := 0 }, { name := "MIN_EXPONENT", type := .int, accessFlags := 25, slot := 9, constantValue := 0 }, { name := "BYTES", type := .int, accessFlags := 25, slot := 10, constantValue := 0 }, { name := "TYPE", type := (.object "java/lang/Class"), accessFlags := 25, slot := 11, constantValue := 0 }, { name := "value", type := .double, accessFlags := 18, slot := 0, constantValue := 0 }, { name := "serialVersionUID", type := .long, accessFlags := 26, slot := 12, constantValue := 0 }]
  methods := #[k12m0]
  instanceTypes := #[.double]
  staticTypes := #[.double, .double, .double, .double, .double, .double, .int, .int, .int, .int, .int, (.object "java/lang/Class"), .long]
  resolved := Array.replicate 290 none
  statics := none }

def pool13 : Array CpInfo := pool [(4, .class_ 6), (1, u "java/lang/Object"), (0, u "<init>"), (0, u "()V"), (5, .class_ 16), (1, u "java/lang/StringLatin1"), (104, u "$assertionsDisabled"), (0, u "Z"), (98, .class_ 223), (1, u "java/lang/StringLatin1$LinesSpliterator"), (166, .class_ 391), (0, u "java/lang/StringLatin1$CharsSpliterator")] 3

def k13m0 : Method := { name := "<init>", desc := "()V", sig := { parameters := [], returnType := none }, accessFlags := 0, code := none }
/-- java/lang/StringLatin1 -/
def k13 : Class := { plain "java/lang/StringLatin1" (some 0) with
  accessFlags := 48
  interfaces := #[]
  cf := some (fileOf pool13 14 #[.nestMembers #[390, 221]] #[{ accessFlags := 0, nameIndex := 7, descriptorIndex := 8, attributes := #[] }] 48 4 #[] #[{ accessFlags := 4120, nameIndex := 121, descriptorIndex := 122, attributes := #[] }])
  fields := #[{ name := "$assertionsDisabled", type := .boolean, accessFlags := 4120, slot := 0, constantValue := 0 }]
  methods := #[k13m0]
  instanceTypes := #[]
  staticTypes := #[.boolean]
  resolved := Array.replicate 395 none
  statics := none }

def pool14 : Array CpInfo := pool [(2, .class_ 4), (1, u "java/lang/Object"), (0, u "<init>"), (0, u "()V"), (17, .class_ 26), (1, u "jdk/internal/util/Preconditions"), (28, .class_ 56), (0, u "jdk/internal/util/Preconditions$4"), (57, .class_ 115), (0, u "jdk/internal/util/Preconditions$1"), (7, u "SIOOBE_FORMATTER"), (0, u "Ljava/util/function/BiFunction;"), (0, .class_ 126), (0, u "jdk/internal/util/Preconditions$2"), (3, u "AIOOBE_FORMATTER"), (0, .class_ 132), (0, u "jdk/internal/util/Preconditions$3"), (3, u "IOOBE_FORMATTER")] 57

def k14m0 : Method := { name := "<init>", desc := "()V", sig := { parameters := [], returnType := none }, accessFlags := 1, code := none }
/-- jdk/internal/util/Preconditions -/
def k14 : Class := { plain "jdk/internal/util/Preconditions" (some 0) with
  accessFlags := 33
  interfaces := #[]
  cf := some (fileOf pool14 24 #[.nestMembers #[55, 131, 125, 114]] #[{ accessFlags := 1, nameIndex := 5, descriptorIndex := 6, attributes := #[] }] 33 2 #[] #[{ accessFlags := 25, nameIndex := 123, descriptorIndex := 124, attributes := #[] }, { accessFlags := 25, nameIndex := 130, descriptorIndex := 124, attributes := #[] }, { accessFlags := 25, nameIndex := 136, descriptorIndex := 124, attributes := #[] }])
  fields := #[{ name := "SIOOBE_FORMATTER", type := (.object "java/util/function/BiFunction"), accessFlags := 25, slot := 0, constantValue := 0 }, { name := "AIOOBE_FORMATTER", type := (.object "java/util/function/BiFunction"), accessFlags := 25, slot := 1, constantValue := 0 }, { name := "IOOBE_FORMATTER", type := (.object "java/util/function/BiFunction"), accessFlags := 25, slot := 2, constantValue := 0 }]
  methods := #[k14m0]
  instanceTypes := #[]
  staticTypes := #[(.object "java/util/function/BiFunction"), (.object "java/util/function/BiFunction"), (.object "java/util/function/BiFunction")]
  resolved := Array.replicate 194 none
  statics := some 1 }

def pool15 : Array CpInfo := pool [(9, u "<init>"), (6, .class_ 18), (1, u "java/lang/Object"), (0, u "()V"), (1, .class_ 23), (1, u "jdk/internal/util/ArraysSupport"), (0, u "LOG2_ARRAY_LONG_INDEX_SCALE"), (0, u "I"), (2, u "U"), (0, u "Ljdk/internal/misc/Unsafe;"), (8, u "BIG_ENDIAN"), (0, u "Z"), (8, u "LOG2_BYTE_BIT_SIZE"), (4, u "LOG2_ARRAY_INT_INDEX_SCALE"), (54, u "JLA"), (0, u "Ljdk/internal/access/JavaLangAccess;"), (11, u "LOG2_ARRAY_BOOLEAN_INDEX_SCALE"), (9, u "LOG2_ARRAY_BYTE_INDEX_SCALE"), (5, u "LOG2_ARRAY_CHAR_INDEX_SCALE"), (5, u "LOG2_ARRAY_SHORT_INDEX_SCALE"), (18, u "LOG2_ARRAY_FLOAT_INDEX_SCALE"), (24, u "LOG2_ARRAY_DOUBLE_INDEX_SCALE"), (89, u "T_BOOLEAN"), (2, u "T_CHAR"), (1, u "T_FLOAT"), (1, u "T_DOUBLE"), (1, u "T_BYTE"), (1, u "T_SHORT"), (1, u "T_INT"), (1, u "T_LONG"), (1, u "SOFT_MAX_ARRAY_LENGTH")] 83

def k15m0 : Method := { name := "<init>", desc := "()V", sig := { parameters := [], returnType := none }, accessFlags := 2, code := none }
/-- jdk/internal/util/ArraysSupport -/
def k15 : Class := { plain "jdk/internal/util/ArraysSupport" (some 0) with
  accessFlags := 33
  interfaces := #[]
  cf := some (fileOf pool15 21 #[] #[{ accessFlags := 2, nameIndex := 9, descriptorIndex := 19, attributes := #[] }] 33 16 #[] #[{ accessFlags := 24, nameIndex := 28, descriptorIndex := 29, attributes := #[] }, { accessFlags := 26, nameIndex := 38, descriptorIndex := 39, attributes := #[] }, { accessFlags := 25, nameIndex := 121, descriptorIndex := 25, attributes := #[] }, { accessFlags := 25, nameIndex := 131, descriptorIndex := 25, attributes := #[] }, { accessFlags := 25, nameIndex := 137, descriptorIndex := 25, attributes := #[] }, { accessFlags := 25, nameIndex := 143, descriptorIndex := 25, attributes := #[] }, { accessFlags := 25, nameIndex := 53, descriptorIndex := 25, attributes := #[] }, { accessFlags := 25, nameIndex := 24, descriptorIndex := 25, attributes := #[] }, { accessFlags := 25, nameIndex := 162, descriptorIndex := 25, attributes := #[] }, { accessFlags := 25, nameIndex := 187, descriptorIndex := 25, attributes := #[] }, { accessFlags := 26, nameIndex := 48, descriptorIndex := 25, attributes := #[] }, { accessFlags := 25, nameIndex := 277, descriptorIndex := 25, attributes := #[] }, { accessFlags := 25, nameIndex := 280, descriptorIndex := 25, attributes := #[] }, { accessFlags := 25, nameIndex := 282, descriptorIndex := 25, attributes := #[] }, { accessFlags := 25, nameIndex := 284, descriptorIndex := 25, attributes := #[] }, { accessFlags := 25, nameIndex := 286, descriptorIndex := 25, attributes := #[] }, { accessFlags := 25, nameIndex := 288, descriptorIndex := 25, attributes := #[] }, { accessFlags := 25, nameIndex := 290, descriptorIndex := 25, attributes := #[] }, { accessFlags := 25, nameIndex := 292, descriptorIndex := 25, attributes := #[] }, { accessFlags := 26, nameIndex := 108, descriptorIndex := 109, attributes := #[] }, { accessFlags := 25, nameIndex := 294, descriptorIndex := 25, attributes := #[] }])
  fields := #[{ name := "U", type := (.object "jdk/internal/misc/Unsafe"), accessFlags := 24, slot := 0, constantValue := 0 }, { name := "BIG_ENDIAN", type := .boolean, accessFlags := 26, slot := 1, constantValue := 0 }, { name := "LOG2_ARRAY_BOOLEAN_INDEX_SCALE", type := .int, accessFlags := 25, slot := 2, constantValue := 0 }, { name := "LOG2_ARRAY_BYTE_INDEX_SCALE", type := .int, accessFlags := 25, slot := 3, constantValue := 0 }, { name := "LOG2_ARRAY_CHAR_INDEX_SCALE", type := .int, accessFlags := 25, slot := 4, constantValue := 0 }, { name := "LOG2_ARRAY_SHORT_INDEX_SCALE", type := .int, accessFlags := 25, slot := 5, constantValue := 0 }, { name := "LOG2_ARRAY_INT_INDEX_SCALE", type := .int, accessFlags := 25, slot := 6, constantValue := 0 }, { name := "LOG2_ARRAY_LONG_INDEX_SCALE", type := .int, accessFlags := 25, slot := 7, constantValue := 0 }, { name := "LOG2_ARRAY_FLOAT_INDEX_SCALE", type := .int, accessFlags := 25, slot := 8, constantValue := 0 }, { name := "LOG2_ARRAY_DOUBLE_INDEX_SCALE", type := .int, accessFlags := 25, slot := 9, constantValue := 0 }, { name := "LOG2_BYTE_BIT_SIZE", type := .int, accessFlags := 26, slot := 10, constantValue := 0 }, { name := "T_BOOLEAN", type := .int, accessFlags := 25, slot := 11, constantValue := 0 }, { name := "T_CHAR", type := .int, accessFlags := 25, slot := 12, constantValue := 0 }, { name := "T_FLOAT", type := .int, accessFlags := 25, slot := 13, constantValue := 0 }, { name := "T_DOUBLE", type := .int, accessFlags := 25, slot := 14, constantValue := 0 }, { name := "T_BYTE", type := .int, accessFlags := 25, slot := 15, constantValue := 0 }, { name := "T_SHORT", type := .int, accessFlags := 25, slot := 16, constantValue := 0 }, { name := "T_INT", type := .int, accessFlags := 25, slot := 17, constantValue := 0 }, { name := "T_LONG", type := .int, accessFlags := 25, slot := 18, constantValue := 0 }, { name := "JLA", type := (.object "jdk/internal/access/JavaLangAccess"), accessFlags := 26, slot := 19, constantValue := 0 }, { name := "SOFT_MAX_ARRAY_LENGTH", type := .int, accessFlags := 25, slot := 20, constantValue := 0 }]
  methods := #[k15m0]
  instanceTypes := #[]
  staticTypes := #[(.object "jdk/internal/misc/Unsafe"), .boolean, .int, .int, .int, .int, .int, .int, .int, .int, .int, .int, .int, .int, .int, .int, .int, .int, .int, (.object "jdk/internal/access/JavaLangAccess"), .int]
  resolved := Array.replicate 378 none
  statics := none }

def pool16 : Array CpInfo := pool [(1, u "java/lang/Cloneable"), (0, .class_ 1), (0, u "java/lang/Object"), (0, .class_ 3)] 3

/-- java/lang/Cloneable -/
def k16 : Class := { plain "java/lang/Cloneable" (some 0) with
  accessFlags := 1537
  interfaces := #[]
  cf := some (fileOf pool16 2 #[] #[] 1537 4 #[] #[])
  fields := #[]
  methods := #[]
  instanceTypes := #[]
  staticTypes := #[]
  resolved := Array.replicate 8 none
  statics := none }

/-- the primitive byte -/
def k17 : Class := { plain "byte" none with kind := .primitive 'B', accessFlags := 0x411 }
/-- [B -/
def k18 : Class := { plain "[B" (some 0) with kind := .array 17 .byte, interfaces := #[16, 5], accessFlags := 1041 }

/-- the primitive int -/
def k19 : Class := { plain "int" none with kind := .primitive 'I', accessFlags := 0x411 }
/-- [I -/
def k20 : Class := { plain "[I" (some 0) with kind := .array 19 .int, interfaces := #[16, 5], accessFlags := 1041 }

def heap : Heap := #[{ cls := 10, slots := #[.long 0, .int 1, .null, .int 0, .null, .int 0, .int 0], vm := .statics 10 },
  { cls := 14, slots := #[.null, .null, .null], vm := .statics 14 }]
def classes : Array Class := #[k0, k1, k2, k3, k4, k5, k6, k7, k8, k9, k10, k11, k12, k13, k14, k15, k16, k17, k18, k19, k20]
def interned : List (Array UInt16 × Addr) := []
def slotsUsed : Nat := 10
def theMethod : MethodId := ⟨1, 1⟩
def args0 : Array Value := #[.int 5, .int 7, .int 6, .int 3]
def aboutOver (below : List Frame) : State where
  vm := { classes := classes, interned := interned.toArray }
  heap := heap
  slotsUsed := slotsUsed
  threads := #[{ frames := .invoking theMethod args0 :: below }]
def below0 : List Frame := [.native { method := ⟨0, 0⟩, args := #[] }]
def about1 : State := aboutOver below0
def p0 : Program := .bare "" "" ""
def e0 : Env := launch0.env 0 0 0
theorem w_frames : about1.frames = Frame.invoking theMethod args0 :: below0 := rfl
set_option maxRecDepth 65536 in
theorem w_args : argsFit about1.vm theMethod args0 = true := by decide +kernel
set_option maxRecDepth 65536 in
theorem w_heap : heapFits about1 = true := by decide +kernel
set_option maxRecDepth 65536 in
theorem w_runnable : about1.curStatus? = some .runnable := by decide +kernel
set_option maxRecDepth 65536 in
theorem w_alone : about1.alone = true := by decide +kernel
set_option maxRecDepth 65536 in
theorem w_named : about1.methodNamed? x = some theMethod := by decide +kernel
set_option maxRecDepth 65536 in
theorem w_hears : about1.hears theMethod below0 = true := by decide +kernel
set_option maxRecDepth 65536 in
theorem w_ripe : about1.ripe theMethod args0 below0 = true := by decide +kernel
theorem w_running : about1.status = .running := rfl
set_option maxRecDepth 65536 in
theorem w_room : about1.hasRoom e0.platform room_1 = true :=
  launch0.hasRoom_least _ room_1 (by decide +kernel) (by decide +kernel) (by decide +kernel) (by decide +kernel) (by decide +kernel) (by decide +kernel)
theorem allAtoms_all (ts : List Jvm.Cond) (a : Array Jvm.Value) (st : Jvm.State) : (allAtoms ts).before a st = ts.all (fun c => c.before a st) := by
  induction ts with
  | nil => rfl
  | cons c t ih =>
    show (Jvm.Cond.and c (allAtoms t)).before a st = _
    rw [Jvm.Cond.before_and, ih, List.all_cons]
def words1 : List Jvm.Cond := Jvm.Cond.code x code maxLocals ret :: tables_1
/-- a 'code' word, met by the world's own term for the bytes: nothing is compared byte by byte -/
theorem code_word {y : MethodName} {bytes : ByteArray} {mx : Nat} {rt : Option FieldType} {a : Array Value} {s : State} {m : MethodId} {meth : Method} {c : Code} (h1 : s.methodNamed? y = some m) (h2 : s.vm.method? m = some meth) (h3 : meth.code = some c) (h4 : c.code = bytes)
    (h5 : (c.maxLocals == mx && c.exceptionTable.isEmpty && decide (c.maxStack ≤ mostOperands) && decide (meth.sig.returnType = rt) && !meth.locks && decide (parseMethodDescriptor y.desc = some meth.sig)) = true) : (Jvm.Cond.code y bytes mx rt).before a s = true := by
  simp only [Bool.and_eq_true, beq_iff_eq, Bool.not_eq_true', decide_eq_true_eq] at h5
  obtain ⟨⟨⟨⟨⟨g1, g2⟩, g3⟩, g4⟩, g5⟩, g6⟩ := h5
  simp [Cond.before, Cond.holds, Cond.value, h1, h2, h3, h4, g1, g2, g3, g4, g5, g6]
def isCode : Jvm.Cond → Bool
  | .code _ _ _ _ => true
  | _ => false
theorem all_split {L : List Jvm.Cond} {P : Jvm.Cond → Bool} (h1 : L.all (fun c => isCode c || P c) = true) (h2 : ∀ c ∈ L.filter isCode, P c = true) : L.all P = true := by
  refine List.all_eq_true.mpr fun c hc => ?_
  have h := List.all_eq_true.mp h1 c hc
  rcases Bool.eq_false_or_eq_true (isCode c) with hi | hi
  · exact h2 c (List.mem_filter.mpr ⟨hc, hi⟩)
  · simpa [hi] using h
set_option maxRecDepth 65536 in
theorem w_c0 : (Jvm.Cond.code x code maxLocals ret).before args0 about1 = true := code_word (m := ⟨1, 1⟩) (meth := k1m1) (c := k1c1) (by decide +kernel) rfl rfl rfl (by decide +kernel)
set_option maxRecDepth 65536 in
theorem w_c1 : (Jvm.Cond.code ({ cls := "java/lang/Math", name := "max", desc := "(II)I" } : Jvm.MethodName) jdk_29_method_65_code (2 : Nat) (Option.some Jvm.ClassFile.FieldType.int)).before args0 about1 = true := code_word (m := ⟨2, 2⟩) (meth := k2m2) (c := k2c2) (by decide +kernel) rfl rfl rfl (by decide +kernel)
set_option maxRecDepth 65536 in
theorem w_c2 : (Jvm.Cond.code ({ cls := "com/example/gavelwright/gavelwright/model/Bid", name := "<init>", desc := "(Ljava/lang/String;IID)V" } : Jvm.MethodName) prog_72_method_1_code (6 : Nat) (Option.none : Option Jvm.ClassFile.FieldType)).before args0 about1 = true := code_word (m := ⟨4, 0⟩) (meth := k4m0) (c := k4c0) (by decide +kernel) rfl rfl rfl (by decide +kernel)
set_option maxRecDepth 65536 in
theorem w_c3 : (Jvm.Cond.code ({ cls := "java/lang/Record", name := "<init>", desc := "()V" } : Jvm.MethodName) jdk_30_method_1_code (1 : Nat) (Option.none : Option Jvm.ClassFile.FieldType)).before args0 about1 = true := code_word (m := ⟨3, 0⟩) (meth := k3m0) (c := k3c0) (by decide +kernel) rfl rfl rfl (by decide +kernel)
set_option maxRecDepth 65536 in
theorem w_c4 : (Jvm.Cond.code ({ cls := "java/lang/Object", name := "<init>", desc := "()V" } : Jvm.MethodName) object_method_1_code (1 : Nat) (Option.none : Option Jvm.ClassFile.FieldType)).before args0 about1 = true := code_word (m := ⟨0, 0⟩) (meth := k0m0) (c := k0c0) (by decide +kernel) rfl rfl rfl (by decide +kernel)
set_option maxRecDepth 65536 in
theorem w_c5 : (Jvm.Cond.code ({ cls := "java/lang/String", name := "isEmpty", desc := "()Z" } : Jvm.MethodName) jdk_42_method_55_code (1 : Nat) (Option.some Jvm.ClassFile.FieldType.boolean)).before args0 about1 = true := code_word (m := ⟨10, 1⟩) (meth := k10m1) (c := k10c1) (by decide +kernel) rfl rfl rfl (by decide +kernel)
set_option maxRecDepth 65536 in
theorem w_c6 : (Jvm.Cond.code ({ cls := "java/lang/Double", name := "isFinite", desc := "(D)Z" } : Jvm.MethodName) jdk_117_method_8_code (2 : Nat) (Option.some Jvm.ClassFile.FieldType.boolean)).before args0 about1 = true := code_word (m := ⟨12, 0⟩) (meth := k12m0) (c := k12c0) (by decide +kernel) rfl rfl rfl (by decide +kernel)
set_option maxRecDepth 65536 in
theorem w_c7 : (Jvm.Cond.code ({ cls := "java/lang/Math", name := "abs", desc := "(D)D" } : Jvm.MethodName) jdk_29_method_64_code (2 : Nat) (Option.some Jvm.ClassFile.FieldType.double)).before args0 about1 = true := code_word (m := ⟨2, 1⟩) (meth := k2m1) (c := k2c1) (by decide +kernel) rfl rfl rfl (by decide +kernel)
set_option maxRecDepth 65536 in
theorem w_c8 : (Jvm.Cond.code ({ cls := "com/example/gavelwright/gavelwright/model/Bid", name := "isPresentAt", desc := "(I)Z" } : Jvm.MethodName) prog_72_method_2_code (2 : Nat) (Option.some Jvm.ClassFile.FieldType.boolean)).before args0 about1 = true := code_word (m := ⟨4, 1⟩) (meth := k4m1) (c := k4c1) (by decide +kernel) rfl rfl rfl (by decide +kernel)
def codes1 : List Jvm.Cond := [Jvm.Cond.code x code maxLocals ret, Jvm.Cond.code ({ cls := "java/lang/Math", name := "max", desc := "(II)I" } : Jvm.MethodName) jdk_29_method_65_code (2 : Nat) (Option.some Jvm.ClassFile.FieldType.int), Jvm.Cond.code ({ cls := "com/example/gavelwright/gavelwright/model/Bid", name := "<init>", desc := "(Ljava/lang/String;IID)V" } : Jvm.MethodName) prog_72_method_1_code (6 : Nat) (Option.none : Option Jvm.ClassFile.FieldType), Jvm.Cond.code ({ cls := "java/lang/Record", name := "<init>", desc := "()V" } : Jvm.MethodName) jdk_30_method_1_code (1 : Nat) (Option.none : Option Jvm.ClassFile.FieldType), Jvm.Cond.code ({ cls := "java/lang/Object", name := "<init>", desc := "()V" } : Jvm.MethodName) object_method_1_code (1 : Nat) (Option.none : Option Jvm.ClassFile.FieldType), Jvm.Cond.code ({ cls := "java/lang/String", name := "isEmpty", desc := "()Z" } : Jvm.MethodName) jdk_42_method_55_code (1 : Nat) (Option.some Jvm.ClassFile.FieldType.boolean), Jvm.Cond.code ({ cls := "java/lang/Double", name := "isFinite", desc := "(D)Z" } : Jvm.MethodName) jdk_117_method_8_code (2 : Nat) (Option.some Jvm.ClassFile.FieldType.boolean), Jvm.Cond.code ({ cls := "java/lang/Math", name := "abs", desc := "(D)D" } : Jvm.MethodName) jdk_29_method_64_code (2 : Nat) (Option.some Jvm.ClassFile.FieldType.double), Jvm.Cond.code ({ cls := "com/example/gavelwright/gavelwright/model/Bid", name := "isPresentAt", desc := "(I)Z" } : Jvm.MethodName) prog_72_method_2_code (2 : Nat) (Option.some Jvm.ClassFile.FieldType.boolean)]
set_option maxRecDepth 65536 in
theorem codes_eq : words1.filter isCode = codes1 := rfl
theorem w_codes : ∀ c ∈ words1.filter isCode, c.before args0 about1 = true := by
  rw [codes_eq]
  intro c hc
  simp only [codes1, List.mem_cons, List.not_mem_nil, or_false] at hc
  rcases hc with rfl | rfl | rfl | rfl | rfl | rfl | rfl | rfl | rfl
  · exact w_c0
  · exact w_c1
  · exact w_c2
  · exact w_c3
  · exact w_c4
  · exact w_c5
  · exact w_c6
  · exact w_c7
  · exact w_c8
set_option maxRecDepth 65536 in
theorem w_t1 : (words1.take 24).all (fun c => isCode c || c.before args0 about1) = true := by decide +kernel
set_option maxRecDepth 65536 in
theorem w_t2 : ((words1.drop 24).take 24).all (fun c => isCode c || c.before args0 about1) = true := by decide +kernel
set_option maxRecDepth 65536 in
theorem w_t3 : ((words1.drop 24).drop 24).all (fun c => isCode c || c.before args0 about1) = true := by decide +kernel
theorem w_tables : (allAtoms (Jvm.Cond.code x code maxLocals ret :: tables_1)).before args0 about1 = true := by
  rw [allAtoms_all]
  show words1.all (fun c => c.before args0 about1) = true
  refine all_split ?_ w_codes
  rw [← List.take_append_drop 24 words1, List.all_append, w_t1, ← List.take_append_drop 24 (words1.drop 24), List.all_append, w_t2, w_t3]
  rfl
set_option maxRecDepth 65536 in
theorem w_rest : rest_1_c.before args0 about1 = true := by decide +kernel
set_option maxRecDepth 65536 in
theorem w_case : (Jvm.Cond.and given_1 narrow_1).before args0 about1 = true := by decide +kernel
set_option maxRecDepth 65536 in
theorem w_consts : constsHeld consts_1 about1 := Jvm.Lit.constsHeldB_iff.mp (by decide +kernel)
theorem w_applies : (headSpec (Jvm.Cond.code x code maxLocals ret :: tables_1) room_1).applies x e0.platform about1 = true :=
  (Spec.applies_iff w_frames).mpr ⟨w_running, w_runnable, w_alone, w_named, w_hears, w_ripe, w_room, w_tables⟩
theorem atStart : AtStart classFile x code maxLocals ret World_1 tables_1 room_1 Calls_1 rest_1 Pre_1 launch0 p0 e0 about1 theMethod args0 below0 :=
  ⟨lists_1, trivial, launch0.admits_env _ _ _, launch0.least_env, fairChoices_fair.cas, fairChoices_fair.clock, w_frames, w_args, w_heap, w_applies, ⟨w_consts, trivial⟩, w_rest, w_case⟩
end start1
theorem witness_1 : WitnessClaimed_1 := ⟨start1.p0, start1.e0, start1.about1, start1.theMethod, start1.args0, start1.below0, start1.atStart⟩
end Jvm.Pilot.@@N@@
