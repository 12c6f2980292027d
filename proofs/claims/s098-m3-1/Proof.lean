import JvmDerived
import JvmDerived.Pilot.@@N@@Statement
import JvmDerived.Pilot.@@N@@Code
set_option linter.unusedVariables false
set_option linter.unusedSimpArgs false
namespace Jvm.Pilot.@@N@@
open Jvm Jvm.ClassFile Sem Op Lib Jvm.Free Jvm.Stand Jvm.LawKit Jvm.RoadKit Bundle Jvm.Pilot.@@N@@.Jvm.D
section OwnKit
variable {p : Program} {l : Launch} {e : Env} {R : Room} {s : State} {m : MethodId} {args : Array Value} {below : List Frame} {meth : Method} {c : Code} {T : State} {locs : List Loc} {cells slots : Nat} {Z : State} {a0 : Array Value} {h : Heap} {n0 : Nat} {G : State → Outcome → Prop} {kc ks : Nat} {Q : Option Value → Heap → Prop}
/-- what is left of a walk: from U the body comes to an end of which G holds -/
def own_Go (tb : Tables) (e : Env) (below : List Frame) (G : State → Outcome → Prop) (U : State) : Prop := ∃ s₂ o, Steps tb e below U s₂ ∧ s₂.status = .running ∧ Ended s₂ below o ∧ G s₂ o
theorem own_go {tb : Tables} {U U' : State} (f : ∀ t, Steps tb e below U' t → Steps tb e below U t) (k : own_Go tb e below G U') : own_Go tb e below G U := by
  obtain ⟨a, b, c, d⟩ := k
  exact ⟨a, b, f _ c, d⟩
/-- where the run stands: its heap is h, nothing below n0 has been written -/
def own_At (p : Program) (l : Launch) (e : Env) (R : Room) (s : State) (m : MethodId) (args : Array Value) (below : List Frame) (meth : Method) (c : Code) (n0 : Nat) (T : State) (h : Heap) (cells slots : Nat) : Prop :=
  ∃ locs, Stand p l e R s m args below meth c T locs cells slots ∧ T.heap = h ∧ Fr n0 locs
theorem own_At.here (A : own_At p l e R s m args below meth c n0 T h cells slots) : At T m c below := by obtain ⟨_, X, -, -⟩ := A; exact X.here
theorem own_At.heap (A : own_At p l e R s m args below meth c n0 T h cells slots) : T.heap = h := by obtain ⟨_, -, q, -⟩ := A; exact q
/-- the end of a body: it returns v, Q holds of v and the heap -/
def own_End (n0 : Nat) (s : State) (kc ks : Nat) (Q : Option Value → Heap → Prop) : State → Outcome → Prop := fun s₂ o => ∃ v L, o = .returned v ∧ (Q v s₂.heap ∧ Fr n0 L) ∧ FrameEnd s o s₂ L kc ks
theorem own_leave (A : own_At p l e R s m args below meth c n0 T h cells slots) {v : Option Value} (hv : meth.sig.returnType = none → v = none) (hlk : meth.locks = false) (hc : cells ≤ kc) (hs : slots ≤ ks) (q : Q v h) {U : State}
    (st : ∀ locs, Stand p l e R s m args below meth c T locs cells slots → ∀ fs, (∀ (f : JFrame) (acts : List Action), f.method = m → f.locked = none → f.entered = [] → (doReturn e (T.setTop f) acts v).1 = T.setFrames fs) → Steps p.tables e below U (T.setFrames fs)) : own_Go p.tables e below (own_End n0 s kc ks Q) U := by
  obtain ⟨locs, X, rfl, N⟩ := A
  obtain ⟨fs, hr, hrun, hended, hW, hsame⟩ := X.leave hv hlk
  exact ⟨_, _, st locs X fs hr, hrun, hended, _, _, rfl, ⟨q, N⟩, ⟨_, rfl⟩, hW, hsame.mono hc hs⟩
theorem own_retI (A : own_At p l e R s m args below meth c n0 T h cells slots) (hx : p.tables.exec = Jvm.exec) (hret : meth.sig.returnType = some .int) (hlk : meth.locks = false) (hc : cells ≤ kc) (hs : slots ≤ ks) {pc : Nat} {Ls : Array Slot} {z : Int32} {rest : List Value} (hd : decode c.code pc = .ok (.ireturn, 1)) (q : Q (some (.int z)) h) :
    own_Go p.tables e below (own_End n0 s kc ks Q) (T.setTop (mkF m pc Ls (.int z :: rest))) :=
  own_leave A (fun q => by rw [hret] at q; cases q) hlk hc hs q fun _ X _ hr => retOut X hx hret rfl (Or.inl ⟨rfl, Or.inl rfl, _, rfl⟩) hd hr
theorem own_retN (A : own_At p l e R s m args below meth c n0 T h cells slots) (hx : p.tables.exec = Jvm.exec) {t : FieldType} (hret : meth.sig.returnType = some t) (ht : t = .boolean ∨ t = .byte ∨ t = .char ∨ t = .short) (hlk : meth.locks = false) (hc : cells ≤ kc) (hs : slots ≤ ks) {pc : Nat} {Ls : Array Slot} {z : Int32} {rest : List Value} (hd : decode c.code pc = .ok (.ireturn, 1)) (q : Q (some (.int (nar t z))) h) :
    own_Go p.tables e below (own_End n0 s kc ks Q) (T.setTop (mkF m pc Ls (.int z :: rest))) :=
  own_leave A (fun q => by rw [hret] at q; cases q) hlk hc hs q fun _ X _ hr => retN X hx hret ht hd hr
theorem own_retJ (A : own_At p l e R s m args below meth c n0 T h cells slots) (hx : p.tables.exec = Jvm.exec) (hret : meth.sig.returnType = some .long) (hlk : meth.locks = false) (hc : cells ≤ kc) (hs : slots ≤ ks) {pc : Nat} {Ls : Array Slot} {z : Int64} {rest : List Value} (hd : decode c.code pc = .ok (.lreturn, 1)) (q : Q (some (.long z)) h) :
    own_Go p.tables e below (own_End n0 s kc ks Q) (T.setTop (mkF m pc Ls (.long z :: rest))) :=
  own_leave A (fun q => by rw [hret] at q; cases q) hlk hc hs q fun _ X _ hr => retOut X hx hret rfl (Or.inr (Or.inl ⟨rfl, rfl, _, rfl⟩)) hd hr
theorem own_retD (A : own_At p l e R s m args below meth c n0 T h cells slots) (hx : p.tables.exec = Jvm.exec) (hret : meth.sig.returnType = some .double) (hlk : meth.locks = false) (hc : cells ≤ kc) (hs : slots ≤ ks) {pc : Nat} {Ls : Array Slot} {z : UInt64} {rest : List Value} (hd : decode c.code pc = .ok (.dreturn, 1)) (q : Q (some (.double z)) h) :
    own_Go p.tables e below (own_End n0 s kc ks Q) (T.setTop (mkF m pc Ls (.double z :: rest))) :=
  own_leave A (fun q => by rw [hret] at q; cases q) hlk hc hs q fun _ X _ hr => retOut X hx hret rfl (Or.inr (Or.inr (Or.inl ⟨rfl, rfl, _, rfl⟩))) hd hr
theorem own_retA (A : own_At p l e R s m args below meth c n0 T h cells slots) (hx : p.tables.exec = Jvm.exec) {t : FieldType} (hret : meth.sig.returnType = some t) (ht : t.isReference = true) (hlk : meth.locks = false) (hc : cells ≤ kc) (hs : slots ≤ ks) {pc : Nat} {Ls : Array Slot} {w : Value} (hw : w.isRef = true) {rest : List Value} (hd : decode c.code pc = .ok (.areturn, 1)) (q : Q (some w) h) :
    own_Go p.tables e below (own_End n0 s kc ks Q) (T.setTop (mkF m pc Ls (w :: rest))) :=
  own_leave A (fun q => by rw [hret] at q; cases q) hlk hc hs q fun _ X _ hr => retOut X hx hret (by cases t <;> first | rfl | cases ht) (Or.inr (Or.inr (Or.inr (Or.inr ⟨rfl, ht, hw⟩)))) hd hr
theorem own_retV (A : own_At p l e R s m args below meth c n0 T h cells slots) (hx : p.tables.exec = Jvm.exec) (hret : meth.sig.returnType = none) (hlk : meth.locks = false) (hc : cells ≤ kc) (hs : slots ≤ ks) {pc : Nat} {Ls : Array Slot} (hd : decode c.code pc = .ok (.return_, 1)) (q : Q none h) :
    own_Go p.tables e below (own_End n0 s kc ks Q) (T.setTop (mkF m pc Ls [])) :=
  own_leave A (fun _ => rfl) hlk hc hs q fun _ X _ hr => X.returnOut hx hret hd hr
/-- a body's contract: called with as' at the heap h0 it returns, and Q holds of what it returns and of the heap -/
def own_Met (l : Launch) (Z : State) (n0 : Nat) (y : MethodName) (bytes : ByteArray) (maxL : Nat) (ret : Option FieldType) (rm : Room) (as' : Array Value) (h0 : Heap) (Q : Option Value → Heap → Prop) : Prop :=
  ∀ ws, MetFree l y (head1 (Cond.code y bytes maxL ret :: ws) rm) (fun a U => a = as' ∧ Z.Warmed39 U.vm ∧ U.heap = h0) (fun _ _ _ _ _ => True) (fun _ U o U' => ∃ v L, o = .returned v ∧ (Q v U'.heap ∧ Fr n0 L) ∧ FrameEnd U o U' L rm.cells rm.slots)
theorem own_met {y : MethodName} {bytes : ByteArray} {maxL : Nat} {ret : Option FieldType} {rm : Room} {as' : Array Value} {h0 : Heap} (hp : plainFor y = true)
    (body : ∀ (p : Program) (e : Env) (s : State) (m : MethodId) (below : List Frame) (meth : Method) (c : Code) (T : State), p.tables.exec = Jvm.exec → c.code = bytes → c.maxLocals = maxL → s.vm.findClass y.cls = some m.cls → meth.name = y.name → meth.sig.returnType = ret → meth.locks = false → Z.Warmed39 s.vm →
      own_At p l e rm s m as' below meth c n0 T h0 0 0 → own_Go p.tables e below (own_End n0 s rm.cells rm.slots Q) (T.setTop (entryFrame m as' maxL))) : own_Met l Z n0 y bytes maxL ret rm as' h0 Q := by
  intro ws
  refine MetFree.of_bodySF hp hisR ?_
  intro p e s m args below meth c s₁ Bd hml0 hP hK
  obtain ⟨rfl, hZ, hh⟩ := hP
  exact body p e s m below meth c s₁ Bd.exec Bd.bytes hml0 (findClass_of_methodNamed Bd.named) (name_of_methodNamed Bd.named Bd.method).1 Bd.returns Bd.notSynchronized hZ ⟨[], Stand.of_body Bd, by rw [← hh, Bd.state]; rfl, Fr.nil n0⟩
theorem own_callS (A : own_At p l e R s m args below meth c n0 T h cells slots) (hx : p.tables.exec = Jvm.exec) (hZ : Z.Warmed39 s.vm) {own : String} {index : Nat} {y : MethodName} {bytes : ByteArray} {maxL : Nat} {ret : Option FieldType} (hown : s.vm.findClass own = some m.cls)
    (w1 : (Cond.methodLink own index y).before a0 Z = true) (w2 : (Cond.static y).before a0 Z = true) (w3 : (Cond.initialized y.cls).before a0 Z = true) (w4 : (Cond.code y bytes maxL ret).before a0 Z = true) (hy : y.cls ≠ "java/lang/invoke/MethodHandle" ∧ y.cls ≠ "java/lang/invoke/VarHandle")
    {rm : Room} {argsL rest : List Value} (hM : own_Met l Z n0 y bytes maxL ret rm argsL.toArray h Q) (W : Nat) (hfr : rm.frames + 1 ≤ R.frames) (hlo : W + (maxL + 11) + rm.locals ≤ R.locals) {g : JFrame} (hg : g.method = m) (hsize : g.locals.size = c.maxLocals)
    (hlen : ∀ sig, parseMethodDescriptor y.desc = some sig → argsL.length = sig.parameters.length) (hs : g.stack = argsL.reverse ++ rest) (hW : 2 * g.monitorRoom + (rest.map fun v => v.category).sum ≤ W) (hd : decode c.code g.pc = .ok (.invokestatic index, 3))
    (hc : cells + rm.cells ≤ R.cells) (hl : slots + rm.slots ≤ R.slots)
    (k : ∀ v T' h', own_At p l e R s m args below meth c n0 T' h' (cells + rm.cells) (slots + rm.slots) → Q v h' → own_Go p.tables e below G (T'.setTop { g with pc := g.pc + 3, stack := v.toList ++ rest })) : own_Go p.tables e below G (T.setTop g) := by
  obtain ⟨locs, X, eT, N⟩ := A
  obtain ⟨v, _, ⟨T1, L1, k1, s1⟩, -, X1, ⟨Lc, ⟨hQ, N1⟩, l1, y1, z1⟩, st⟩ := Jvm.LawKit.callS X hx (y := y) hown (mvT hZ w1) (mvT hZ w2) (mvT hZ w3) (mvT hZ w4) hy (backOf (Q := fun v h L => Q v h ∧ Fr n0 L) (W := W) (hM []) hZ w4 w3 hfr hlo) hg hsize (argsL := argsL) (rest := rest) hlen hs hW hd (fun _ _ => ⟨rfl, eT, hc, hl⟩)
  dsimp only [Pt.U, Pt.locs, Pt.cells, Pt.slots] at X1 l1 y1 z1 st hQ
  subst l1 y1 z1
  exact own_go (fun t k => st t k) (k v T1 T1.heap ⟨_, X1, rfl, N.app N1⟩ hQ)
theorem own_callV (A : own_At p l e R s m args below meth c n0 T h cells slots) (hx : p.tables.exec = Jvm.exec) (hZ : Z.Warmed39 s.vm) {own C : String} {index : Nat} {y z : MethodName} {bytes : ByteArray} {maxL : Nat} {ret : Option FieldType} (hown : s.vm.findClass own = some m.cls)
    (w1 : (Cond.methodLink own index y).before a0 Z = true) (w2 : (Cond.declares y).before a0 Z = true) (w3 : (Cond.selects C y z).before a0 Z = true) (w4 : (Cond.instanceMethod z).before a0 Z = true) (w5 : (Cond.initialized z.cls).before a0 Z = true) (w6 : (Cond.code z bytes maxL ret).before a0 Z = true) (nf : NotFace s y)
    (hy : y.cls ≠ "java/lang/invoke/MethodHandle" ∧ y.cls ≠ "java/lang/invoke/VarHandle")
    {rm : Room} {b : Addr} {argsL rest : List Value} (E : Exa Z h b C) (hM : own_Met l Z n0 z bytes maxL ret rm (.ref b :: argsL).toArray h Q) (W : Nat) (hfr : rm.frames + 1 ≤ R.frames) (hlo : W + (maxL + 11) + rm.locals ≤ R.locals) {g : JFrame} (hg : g.method = m) (hsize : g.locals.size = c.maxLocals)
    (hlen : ∀ sig, parseMethodDescriptor y.desc = some sig → argsL.length = sig.parameters.length) (hs : g.stack = argsL.reverse ++ .ref b :: rest) (hW : 2 * g.monitorRoom + (rest.map fun v => v.category).sum ≤ W) (hd : decode c.code g.pc = .ok (.invokevirtual index, 3))
    (hc : cells + rm.cells ≤ R.cells) (hl : slots + rm.slots ≤ R.slots)
    (k : ∀ v T' h', own_At p l e R s m args below meth c n0 T' h' (cells + rm.cells) (slots + rm.slots) → Q v h' → own_Go p.tables e below G (T'.setTop { g with pc := g.pc + 3, stack := v.toList ++ rest })) : own_Go p.tables e below G (T.setTop g) := by
  obtain ⟨locs, X, eT, N⟩ := A
  obtain ⟨cq, kq, qa, qb, qc⟩ := isOf hZ eT E
  obtain ⟨v, _, ⟨T1, L1, k1, s1⟩, -, X1, ⟨Lc, ⟨hQ, N1⟩, l1, y1, z1⟩, st⟩ := X.virtualBack hx (y := y) (z := z) hown (mvT hZ w1) (mvT hZ w2) nf (mvT hZ w3) (mvT hZ w4) hy (backOf (Q := fun v h L => Q v h ∧ Fr n0 L) (W := W) (hM []) hZ w6 w5 hfr hlo) qa qc hg hsize (Steps.refl _) (argsL := argsL) (rest := rest) hlen hs hW hd (fun _ _ => ⟨rfl, eT, hc, hl⟩)
  dsimp only [Pt.U, Pt.locs, Pt.cells, Pt.slots] at X1 l1 y1 z1 st hQ
  subst l1 y1 z1
  exact own_go (fun t k => st.trans k) (k v T1 T1.heap ⟨_, X1, rfl, N.app N1⟩ hQ)
theorem own_callI (A : own_At p l e R s m args below meth c n0 T h cells slots) (hx : p.tables.exec = Jvm.exec) (hZ : Z.Warmed39 s.vm) {own : String} {index : Nat} {y : MethodName} (hy1 : y.name = "<init>") {bytes : ByteArray} {maxL : Nat} (hown : s.vm.findClass own = some m.cls)
    (w1 : (Cond.methodLink own index y).before a0 Z = true) (w4 : (Cond.instanceMethod y).before a0 Z = true) (w5 : (Cond.initialized y.cls).before a0 Z = true) (w6 : (Cond.code y bytes maxL none).before a0 Z = true)
    (hy : y.cls ≠ "java/lang/invoke/MethodHandle" ∧ y.cls ≠ "java/lang/invoke/VarHandle")
    {rm : Room} {b : Addr} {argsL rest : List Value} (hM : own_Met l Z n0 y bytes maxL none rm (.ref b :: argsL).toArray h Q) (W : Nat) (hfr : rm.frames + 1 ≤ R.frames) (hlo : W + (maxL + 11) + rm.locals ≤ R.locals) {g : JFrame} (hg : g.method = m) (hsize : g.locals.size = c.maxLocals)
    (hlen : ∀ sig, parseMethodDescriptor y.desc = some sig → argsL.length = sig.parameters.length) (hs : g.stack = argsL.reverse ++ .ref b :: rest) (hW : 2 * g.monitorRoom + (rest.map fun v => v.category).sum ≤ W) (hd : decode c.code g.pc = .ok (.invokespecial index, 3))
    (hc : cells + rm.cells ≤ R.cells) (hl : slots + rm.slots ≤ R.slots)
    (k : ∀ v T' h', own_At p l e R s m args below meth c n0 T' h' (cells + rm.cells) (slots + rm.slots) → Q v h' → own_Go p.tables e below G (T'.setTop { g with pc := g.pc + 3, stack := v.toList ++ rest })) : own_Go p.tables e below G (T.setTop g) := by
  obtain ⟨locs, X, eT, N⟩ := A
  obtain ⟨v, _, ⟨T1, L1, k1, s1⟩, -, X1, ⟨Lc, ⟨hQ, N1⟩, l1, y1, z1⟩, st⟩ := X.specialBack hx (y := y) hy1 hown (mvT hZ w1) (mvT hZ w4) (mvT hZ w6) hy (backOf (Q := fun v h L => Q v h ∧ Fr n0 L) (W := W) (hM []) hZ w6 w5 hfr hlo) hg hsize (Steps.refl _) (a := b) (argsL := argsL) (rest := rest) hlen hs hW hd (fun _ _ => ⟨rfl, eT, hc, hl⟩)
  dsimp only [Pt.U, Pt.locs, Pt.cells, Pt.slots] at X1 l1 y1 z1 st hQ
  subst l1 y1 z1
  exact own_go (fun t k => st.trans k) (k v T1 T1.heap ⟨_, X1, rfl, N.app N1⟩ hQ)
theorem own_initO (A : own_At p l e R s m args below meth c n0 T h cells slots) (hx : p.tables.exec = Jvm.exec) (hZ : Z.Warmed39 s.vm) {own : String} {idx : Nat} (hown : s.vm.findClass own = some m.cls) (w1 : (Cond.methodLink own idx Lib.objectInit).before a0 Z = true) (w2 : (Cond.instanceMethod Lib.objectInit).before a0 Z = true)
    (w3 : (Cond.code Lib.objectInit ⟨#[0xb1]⟩ 1 none).before a0 Z = true) {g : JFrame} (hg : g.method = m) (hsize : g.locals.size = c.maxLocals) {a : Addr} {rest : List Value} (hs : g.stack = .ref a :: rest) (hd : decode c.code g.pc = .ok (.invokespecial idx, 3))
    (hf : 1 ≤ R.frames) (W : Nat) (hW : 2 * g.monitorRoom + (rest.map fun v => v.category).sum ≤ W) (hl : W + 12 ≤ R.locals)
    (k : ∀ T', own_At p l e R s m args below meth c n0 T' h cells slots → own_Go p.tables e below G (T'.setTop { g with pc := g.pc + 3, stack := rest })) : own_Go p.tables e below G (T.setTop g) := by
  obtain ⟨locs, X, eT, N⟩ := A
  obtain ⟨T1, X1, e1, st⟩ := initO X hx hZ hown w1 w2 w3 eT hg hsize hs hd hf hW hl
  exact own_go st (k T1 ⟨_, X1, e1, N⟩)
theorem own_getF (A : own_At p l e R s m args below meth c n0 T h cells slots) (hx : p.tables.exec = Jvm.exec) (hZ : Z.Warmed39 s.vm) {own R0 O n d host : String} {index : Nat} (hown : s.vm.findClass own = some m.cls) (w : (Cond.fieldLink own index R0 n d).before a0 Z = true ∨ (Cond.fieldLinkNest own index R0 n d host).before a0 Z = true) (via : Via Z R0 O n d)
    {a : Addr} {v : Value} (F : Fld Z h a O n d v) {g : JFrame} (hg : g.method = m) {rest : List Value} (hs : g.stack = .ref a :: rest) (hd : decode c.code g.pc = .ok (.getfield index, 3))
    (k : ∀ T', own_At p l e R s m args below meth c n0 T' h cells slots → own_Go p.tables e below G (T'.setTop { g with pc := g.pc + 3, stack := v :: rest })) : own_Go p.tables e below G (T.setTop g) := by
  obtain ⟨locs, X, eT, N⟩ := A
  obtain ⟨T1, X1, e1, st⟩ := getF X hx hZ hown w via eT F hg hs hd
  exact own_go st (k T1 ⟨_, X1, e1, N⟩)
theorem own_getS (A : own_At p l e R s m args below meth c n0 T h cells slots) (hx : p.tables.exec = Jvm.exec) (hZ : Z.Warmed39 s.vm) {own R0 O n d host : String} {index : Nat} (hown : s.vm.findClass own = some m.cls) (w : (Cond.fieldLink own index R0 n d).before a0 Z = true ∨ (Cond.fieldLinkNest own index R0 n d host).before a0 Z = true) (via : Via Z R0 O n d)
    {v : Value} (F : Sta Z h O n d v) {g : JFrame} (hg : g.method = m) (hd : decode c.code g.pc = .ok (.getstatic index, 3))
    (k : ∀ T', own_At p l e R s m args below meth c n0 T' h cells slots → own_Go p.tables e below G (T'.setTop { g with pc := g.pc + 3, stack := v :: g.stack })) : own_Go p.tables e below G (T.setTop g) := by
  obtain ⟨locs, X, eT, N⟩ := A
  obtain ⟨T1, X1, e1, st⟩ := getS2 X hx hZ hown w via eT F hg hd
  exact own_go st (k T1 ⟨_, X1, e1, N⟩)
theorem own_ldcI (A : own_At p l e R s m args below meth c n0 T h cells slots) (hx : p.tables.exec = Jvm.exec) (hZ : Z.Warmed39 s.vm) {own : String} {index : Nat} {v : Int32} (hown : s.vm.findClass own = some m.cls) (w : (Cond.constant own index v).before a0 Z = true) {g : JFrame} (hg : g.method = m) (hd : decode c.code g.pc = .ok (.ldc index, 2))
    (k : own_Go p.tables e below G (T.setTop { g with pc := g.pc + 2, stack := .int v :: g.stack })) : own_Go p.tables e below G (T.setTop g) := by
  obtain ⟨locs, X, eT, N⟩ := A
  exact own_go (X.ldcInt hx hown (mvT hZ w) hg hd) k
theorem own_ldcwI (A : own_At p l e R s m args below meth c n0 T h cells slots) (hx : p.tables.exec = Jvm.exec) (hZ : Z.Warmed39 s.vm) {own : String} {index : Nat} {v : Int32} (hown : s.vm.findClass own = some m.cls) (w : (Cond.constant own index v).before a0 Z = true) {g : JFrame} (hg : g.method = m) (hd : decode c.code g.pc = .ok (.ldc_w index, 3))
    (k : own_Go p.tables e below G (T.setTop { g with pc := g.pc + 3, stack := .int v :: g.stack })) : own_Go p.tables e below G (T.setTop g) := by
  obtain ⟨locs, X, eT, N⟩ := A
  exact own_go (X.ldcwInt hx hown (mvT hZ w) hg hd) k
theorem own_ldcJ (A : own_At p l e R s m args below meth c n0 T h cells slots) (hx : p.tables.exec = Jvm.exec) (hZ : Z.Warmed39 s.vm) {own : String} {index : Nat} {v : Int64} (hown : s.vm.findClass own = some m.cls) (w : (Cond.constantLong own index v).before a0 Z = true) {g : JFrame} (hg : g.method = m) (hd : decode c.code g.pc = .ok (.ldc2_w index, 3))
    (k : own_Go p.tables e below G (T.setTop { g with pc := g.pc + 3, stack := .long v :: g.stack })) : own_Go p.tables e below G (T.setTop g) := by
  obtain ⟨locs, X, eT, N⟩ := A
  exact own_go (X.ldc2Long hx hown (mvT hZ w) hg hd) k
/-- irem, with Java's sign -/
theorem own_irem {tb : Tables} [Ours tb] {target : State} {g : JFrame} (hh : At T m c below) (hx : tb.exec = Jvm.exec) (hg : g.method = m) {x y : Int32} {rest : List Value} (hd : decode c.code g.pc = .ok (.irem, 1)) (hs : g.stack = .int y :: .int x :: rest) (hy : y ≠ 0)
    (hr : Steps tb e below (T.setTop { g with pc := g.pc + 1, stack := .int (x % y) :: rest }) target) : Steps tb e below (T.setTop g) target :=
  XS.irem hh hx hg hd hs hy (by rw [irem_eq_mod]; exact hr)
theorem own_lrem {tb : Tables} [Ours tb] {target : State} {g : JFrame} (hh : At T m c below) (hx : tb.exec = Jvm.exec) (hg : g.method = m) {x y : Int64} {rest : List Value} (hd : decode c.code g.pc = .ok (.lrem, 1)) (hs : g.stack = .long y :: .long x :: rest) (hy : y ≠ 0)
    (hr : Steps tb e below (T.setTop { g with pc := g.pc + 1, stack := .long (x % y) :: rest }) target) : Steps tb e below (T.setTop g) target :=
  XS.lrem hh hx hg hd hs hy (by rw [lrem_mod]; exact hr)
theorem own_aeq {a b : Addr} (h : a = b) : if_acmp.holds .eq (some a) (some b) = true ∧ if_acmp.holds .ne (some a) (some b) = false := by simp [if_acmp.holds, h]
theorem own_ane {a b : Addr} (h : ¬ a = b) : if_acmp.holds .eq (some a) (some b) = false ∧ if_acmp.holds .ne (some a) (some b) = true := by simp [if_acmp.holds, h]
end OwnKit
theorem ef_2 (m : MethodId) (q0 : Int64) : entryFrame m #[(.long q0)] 2 = mkF m 0 #[.val (.long q0), .second] [] := by first | (simp [entryFrame, mkF, argsToLocals, Value.category]; done) | rfl
theorem pn_2 : plainName "com/example/gavelwright/gavelwright/workload/Sweep" = true := by first | (simp [plainName, overriddenIn]; done) | decide +kernel
theorem d2_0 : decode prog_80_method_4_code 0 = .ok (.lload_n 0, 1) := by decide +kernel
theorem d2_1 : decode prog_80_method_4_code 1 = .ok (.lload_n 0, 1) := by decide +kernel
theorem d2_2 : decode prog_80_method_4_code 2 = .ok (.bipush 33, 2) := by decide +kernel
theorem d2_4 : decode prog_80_method_4_code 4 = .ok (.lushr, 1) := by decide +kernel
theorem d2_5 : decode prog_80_method_4_code 5 = .ok (.lxor, 1) := by decide +kernel
theorem d2_6 : decode prog_80_method_4_code 6 = .ok (.ldc2_w 151, 3) := by decide +kernel
theorem d2_9 : decode prog_80_method_4_code 9 = .ok (.lmul, 1) := by decide +kernel
theorem d2_10 : decode prog_80_method_4_code 10 = .ok (.lstore_n 0, 1) := by decide +kernel
theorem d2_11 : decode prog_80_method_4_code 11 = .ok (.lload_n 0, 1) := by decide +kernel
theorem d2_12 : decode prog_80_method_4_code 12 = .ok (.lload_n 0, 1) := by decide +kernel
theorem d2_13 : decode prog_80_method_4_code 13 = .ok (.bipush 33, 2) := by decide +kernel
theorem d2_15 : decode prog_80_method_4_code 15 = .ok (.lushr, 1) := by decide +kernel
theorem d2_16 : decode prog_80_method_4_code 16 = .ok (.lxor, 1) := by decide +kernel
theorem d2_17 : decode prog_80_method_4_code 17 = .ok (.ldc2_w 153, 3) := by decide +kernel
theorem d2_20 : decode prog_80_method_4_code 20 = .ok (.lmul, 1) := by decide +kernel
theorem d2_21 : decode prog_80_method_4_code 21 = .ok (.lstore_n 0, 1) := by decide +kernel
theorem d2_22 : decode prog_80_method_4_code 22 = .ok (.lload_n 0, 1) := by decide +kernel
theorem d2_23 : decode prog_80_method_4_code 23 = .ok (.lload_n 0, 1) := by decide +kernel
theorem d2_24 : decode prog_80_method_4_code 24 = .ok (.bipush 33, 2) := by decide +kernel
theorem d2_26 : decode prog_80_method_4_code 26 = .ok (.lushr, 1) := by decide +kernel
theorem d2_27 : decode prog_80_method_4_code 27 = .ok (.lxor, 1) := by decide +kernel
theorem d2_28 : decode prog_80_method_4_code 28 = .ok (.lreturn, 1) := by decide +kernel
def f2 (q0 : Int64) : Int64 := (((((q0 ^^^ ((q0.toUInt64 >>> ((33 : Int32) &&& 0x3f).toInt64.toUInt64).toInt64)) * (-49064778989728563 : Int64)) ^^^ ((((q0 ^^^ ((q0.toUInt64 >>> ((33 : Int32) &&& 0x3f).toInt64.toUInt64).toInt64)) * (-49064778989728563 : Int64)).toUInt64 >>> ((33 : Int32) &&& 0x3f).toInt64.toUInt64).toInt64)) * (-4265267296055464877 : Int64)) ^^^ ((((((q0 ^^^ ((q0.toUInt64 >>> ((33 : Int32) &&& 0x3f).toInt64.toUInt64).toInt64)) * (-49064778989728563 : Int64)) ^^^ ((((q0 ^^^ ((q0.toUInt64 >>> ((33 : Int32) &&& 0x3f).toInt64.toUInt64).toInt64)) * (-49064778989728563 : Int64)).toUInt64 >>> ((33 : Int32) &&& 0x3f).toInt64.toUInt64).toInt64)) * (-4265267296055464877 : Int64)).toUInt64 >>> ((33 : Int32) &&& 0x3f).toInt64.toUInt64).toInt64))
set_option maxRecDepth 65536 in
set_option maxHeartbeats 40000000 in
theorem rm2 (l : Launch) (Z : State) (a0 : Array Value) (hw : ∀ d ∈ tables_1, d.before a0 Z = true) (q0 : Int64) (h0 : Heap) (n0 : Nat) :
    own_Met l Z n0 (⟨"com/example/gavelwright/gavelwright/workload/Sweep", "mix", "(J)J"⟩ : MethodName) prog_80_method_4_code 2 (some .long) ({ frames := 0, cells := 0, slots := 0, locals := 0 } : Room) #[(.long q0)] h0 (fun v h => v = some (.long (f2 q0)) ∧ h0 = h) := by
  refine own_met (plainFor_of_name pn_2) ?_
  intro p e s m below meth c T0 hx hby hml hown hnm hret hlk hZ A0
  rw [ef_2]
  show own_Go _ _ _ _ (T0.setTop (mkF m 0 #[.val (.long q0), .second] []))
  refine own_go (fun t k => XS.lloadN A0.here hx rfl (hb hby d2_0) rfl k) ?_
  show own_Go _ _ _ _ (T0.setTop (mkF m 1 #[.val (.long q0), .second] [(.long q0)]))
  refine own_go (fun t k => XS.lloadN A0.here hx rfl (hb hby d2_1) rfl k) ?_
  show own_Go _ _ _ _ (T0.setTop (mkF m 2 #[.val (.long q0), .second] [(.long q0), (.long q0)]))
  refine own_go (fun t k => XS.bipush A0.here hx rfl (hb hby d2_2) k) ?_
  show own_Go _ _ _ _ (T0.setTop (mkF m 4 #[.val (.long q0), .second] [(.int (33 : Int32)), (.long q0), (.long q0)]))
  refine own_go (fun t k => XS.lushr A0.here hx rfl (hb hby d2_4) rfl k) ?_
  show own_Go _ _ _ _ (T0.setTop (mkF m 5 #[.val (.long q0), .second] [(.long ((q0.toUInt64 >>> ((33 : Int32) &&& 0x3f).toInt64.toUInt64).toInt64)), (.long q0)]))
  refine own_go (fun t k => XS.lxor A0.here hx rfl (hb hby d2_5) rfl k) ?_
  show own_Go _ _ _ _ (T0.setTop (mkF m 6 #[.val (.long q0), .second] [(.long (q0 ^^^ ((q0.toUInt64 >>> ((33 : Int32) &&& 0x3f).toInt64.toUInt64).toInt64)))]))
  refine own_ldcJ A0 hx hZ hown (hw _ (List.mem_of_getElem? (i := 7) rfl)) rfl (hb hby d2_6) ?_
  show own_Go _ _ _ _ (T0.setTop (mkF m 9 #[.val (.long q0), .second] [(.long (-49064778989728563 : Int64)), (.long (q0 ^^^ ((q0.toUInt64 >>> ((33 : Int32) &&& 0x3f).toInt64.toUInt64).toInt64)))]))
  refine own_go (fun t k => XS.lmul A0.here hx rfl (hb hby d2_9) rfl k) ?_
  show own_Go _ _ _ _ (T0.setTop (mkF m 10 #[.val (.long q0), .second] [(.long ((q0 ^^^ ((q0.toUInt64 >>> ((33 : Int32) &&& 0x3f).toInt64.toUInt64).toInt64)) * (-49064778989728563 : Int64)))]))
  refine own_go (fun t k => XS.lstoreN A0.here hx rfl (hb hby d2_10) rfl (l' := #[.val (.long ((q0 ^^^ ((q0.toUInt64 >>> ((33 : Int32) &&& 0x3f).toInt64.toUInt64).toInt64)) * (-49064778989728563 : Int64))), .second]) rfl k) ?_
  show own_Go _ _ _ _ (T0.setTop (mkF m 11 #[.val (.long ((q0 ^^^ ((q0.toUInt64 >>> ((33 : Int32) &&& 0x3f).toInt64.toUInt64).toInt64)) * (-49064778989728563 : Int64))), .second] []))
  refine own_go (fun t k => XS.lloadN A0.here hx rfl (hb hby d2_11) rfl k) ?_
  show own_Go _ _ _ _ (T0.setTop (mkF m 12 #[.val (.long ((q0 ^^^ ((q0.toUInt64 >>> ((33 : Int32) &&& 0x3f).toInt64.toUInt64).toInt64)) * (-49064778989728563 : Int64))), .second] [(.long ((q0 ^^^ ((q0.toUInt64 >>> ((33 : Int32) &&& 0x3f).toInt64.toUInt64).toInt64)) * (-49064778989728563 : Int64)))]))
  refine own_go (fun t k => XS.lloadN A0.here hx rfl (hb hby d2_12) rfl k) ?_
  show own_Go _ _ _ _ (T0.setTop (mkF m 13 #[.val (.long ((q0 ^^^ ((q0.toUInt64 >>> ((33 : Int32) &&& 0x3f).toInt64.toUInt64).toInt64)) * (-49064778989728563 : Int64))), .second] [(.long ((q0 ^^^ ((q0.toUInt64 >>> ((33 : Int32) &&& 0x3f).toInt64.toUInt64).toInt64)) * (-49064778989728563 : Int64))), (.long ((q0 ^^^ ((q0.toUInt64 >>> ((33 : Int32) &&& 0x3f).toInt64.toUInt64).toInt64)) * (-49064778989728563 : Int64)))]))
  refine own_go (fun t k => XS.bipush A0.here hx rfl (hb hby d2_13) k) ?_
  show own_Go _ _ _ _ (T0.setTop (mkF m 15 #[.val (.long ((q0 ^^^ ((q0.toUInt64 >>> ((33 : Int32) &&& 0x3f).toInt64.toUInt64).toInt64)) * (-49064778989728563 : Int64))), .second] [(.int (33 : Int32)), (.long ((q0 ^^^ ((q0.toUInt64 >>> ((33 : Int32) &&& 0x3f).toInt64.toUInt64).toInt64)) * (-49064778989728563 : Int64))), (.long ((q0 ^^^ ((q0.toUInt64 >>> ((33 : Int32) &&& 0x3f).toInt64.toUInt64).toInt64)) * (-49064778989728563 : Int64)))]))
  refine own_go (fun t k => XS.lushr A0.here hx rfl (hb hby d2_15) rfl k) ?_
  show own_Go _ _ _ _ (T0.setTop (mkF m 16 #[.val (.long ((q0 ^^^ ((q0.toUInt64 >>> ((33 : Int32) &&& 0x3f).toInt64.toUInt64).toInt64)) * (-49064778989728563 : Int64))), .second] [(.long ((((q0 ^^^ ((q0.toUInt64 >>> ((33 : Int32) &&& 0x3f).toInt64.toUInt64).toInt64)) * (-49064778989728563 : Int64)).toUInt64 >>> ((33 : Int32) &&& 0x3f).toInt64.toUInt64).toInt64)), (.long ((q0 ^^^ ((q0.toUInt64 >>> ((33 : Int32) &&& 0x3f).toInt64.toUInt64).toInt64)) * (-49064778989728563 : Int64)))]))
  refine own_go (fun t k => XS.lxor A0.here hx rfl (hb hby d2_16) rfl k) ?_
  show own_Go _ _ _ _ (T0.setTop (mkF m 17 #[.val (.long ((q0 ^^^ ((q0.toUInt64 >>> ((33 : Int32) &&& 0x3f).toInt64.toUInt64).toInt64)) * (-49064778989728563 : Int64))), .second] [(.long (((q0 ^^^ ((q0.toUInt64 >>> ((33 : Int32) &&& 0x3f).toInt64.toUInt64).toInt64)) * (-49064778989728563 : Int64)) ^^^ ((((q0 ^^^ ((q0.toUInt64 >>> ((33 : Int32) &&& 0x3f).toInt64.toUInt64).toInt64)) * (-49064778989728563 : Int64)).toUInt64 >>> ((33 : Int32) &&& 0x3f).toInt64.toUInt64).toInt64)))]))
  generalize hx1 : (((q0 ^^^ ((q0.toUInt64 >>> ((33 : Int32) &&& 0x3f).toInt64.toUInt64).toInt64)) * (-49064778989728563 : Int64)) ^^^ ((((q0 ^^^ ((q0.toUInt64 >>> ((33 : Int32) &&& 0x3f).toInt64.toUInt64).toInt64)) * (-49064778989728563 : Int64)).toUInt64 >>> ((33 : Int32) &&& 0x3f).toInt64.toUInt64).toInt64)) = x1
  show own_Go _ _ _ _ (T0.setTop (mkF m 17 #[.val (.long ((q0 ^^^ ((q0.toUInt64 >>> ((33 : Int32) &&& 0x3f).toInt64.toUInt64).toInt64)) * (-49064778989728563 : Int64))), .second] [(.long x1)]))
  refine own_ldcJ A0 hx hZ hown (hw _ (List.mem_of_getElem? (i := 8) rfl)) rfl (hb hby d2_17) ?_
  show own_Go _ _ _ _ (T0.setTop (mkF m 20 #[.val (.long ((q0 ^^^ ((q0.toUInt64 >>> ((33 : Int32) &&& 0x3f).toInt64.toUInt64).toInt64)) * (-49064778989728563 : Int64))), .second] [(.long (-4265267296055464877 : Int64)), (.long x1)]))
  refine own_go (fun t k => XS.lmul A0.here hx rfl (hb hby d2_20) rfl k) ?_
  show own_Go _ _ _ _ (T0.setTop (mkF m 21 #[.val (.long ((q0 ^^^ ((q0.toUInt64 >>> ((33 : Int32) &&& 0x3f).toInt64.toUInt64).toInt64)) * (-49064778989728563 : Int64))), .second] [(.long (x1 * (-4265267296055464877 : Int64)))]))
  refine own_go (fun t k => XS.lstoreN A0.here hx rfl (hb hby d2_21) rfl (l' := #[.val (.long (x1 * (-4265267296055464877 : Int64))), .second]) rfl k) ?_
  show own_Go _ _ _ _ (T0.setTop (mkF m 22 #[.val (.long (x1 * (-4265267296055464877 : Int64))), .second] []))
  refine own_go (fun t k => XS.lloadN A0.here hx rfl (hb hby d2_22) rfl k) ?_
  show own_Go _ _ _ _ (T0.setTop (mkF m 23 #[.val (.long (x1 * (-4265267296055464877 : Int64))), .second] [(.long (x1 * (-4265267296055464877 : Int64)))]))
  refine own_go (fun t k => XS.lloadN A0.here hx rfl (hb hby d2_23) rfl k) ?_
  show own_Go _ _ _ _ (T0.setTop (mkF m 24 #[.val (.long (x1 * (-4265267296055464877 : Int64))), .second] [(.long (x1 * (-4265267296055464877 : Int64))), (.long (x1 * (-4265267296055464877 : Int64)))]))
  refine own_go (fun t k => XS.bipush A0.here hx rfl (hb hby d2_24) k) ?_
  show own_Go _ _ _ _ (T0.setTop (mkF m 26 #[.val (.long (x1 * (-4265267296055464877 : Int64))), .second] [(.int (33 : Int32)), (.long (x1 * (-4265267296055464877 : Int64))), (.long (x1 * (-4265267296055464877 : Int64)))]))
  refine own_go (fun t k => XS.lushr A0.here hx rfl (hb hby d2_26) rfl k) ?_
  show own_Go _ _ _ _ (T0.setTop (mkF m 27 #[.val (.long (x1 * (-4265267296055464877 : Int64))), .second] [(.long (((x1 * (-4265267296055464877 : Int64)).toUInt64 >>> ((33 : Int32) &&& 0x3f).toInt64.toUInt64).toInt64)), (.long (x1 * (-4265267296055464877 : Int64)))]))
  refine own_go (fun t k => XS.lxor A0.here hx rfl (hb hby d2_27) rfl k) ?_
  show own_Go _ _ _ _ (T0.setTop (mkF m 28 #[.val (.long (x1 * (-4265267296055464877 : Int64))), .second] [(.long ((x1 * (-4265267296055464877 : Int64)) ^^^ (((x1 * (-4265267296055464877 : Int64)).toUInt64 >>> ((33 : Int32) &&& 0x3f).toInt64.toUInt64).toInt64)))]))
  refine own_retJ A0 hx hret hlk (by decide) (by decide) (hb hby d2_28) ?_
  subst hx1
  exact ⟨rfl, rfl⟩
theorem ef_1 (m : MethodId) (q0 : Int64) (p1 : Int32) (p2 : Int32) : entryFrame m #[(.long q0), (.int p1), (.int p2)] 4 = mkF m 0 #[.val (.long q0), .second, .val (.int p1), .val (.int p2)] [] := by first | (simp [entryFrame, mkF, argsToLocals, Value.category]; done) | rfl
theorem d1_0 : decode prog_80_method_3_code 0 = .ok (.lload_n 0, 1) := by decide +kernel
theorem d1_1 : decode prog_80_method_3_code 1 = .ok (.invokestatic 147, 3) := by decide +kernel
theorem pd__J_J : parseMethodDescriptor "(J)J" = some ⟨[.long], some .long⟩ := by decide +kernel
theorem d1_4 : decode prog_80_method_3_code 4 = .ok (.iload_n 2, 1) := by decide +kernel
theorem d1_5 : decode prog_80_method_3_code 5 = .ok (.i2l, 1) := by decide +kernel
theorem d1_6 : decode prog_80_method_3_code 6 = .ok (.lxor, 1) := by decide +kernel
theorem d1_7 : decode prog_80_method_3_code 7 = .ok (.invokestatic 147, 3) := by decide +kernel
theorem d1_10 : decode prog_80_method_3_code 10 = .ok (.iload_n 3, 1) := by decide +kernel
theorem d1_11 : decode prog_80_method_3_code 11 = .ok (.i2l, 1) := by decide +kernel
theorem d1_12 : decode prog_80_method_3_code 12 = .ok (.lxor, 1) := by decide +kernel
theorem d1_13 : decode prog_80_method_3_code 13 = .ok (.invokestatic 147, 3) := by decide +kernel
theorem d1_16 : decode prog_80_method_3_code 16 = .ok (.lreturn, 1) := by decide +kernel
def f1 (q0 : Int64) (p1 : Int32) (p2 : Int32) : Int64 := (f2 ((f2 ((f2 q0) ^^^ (p1.toInt64))) ^^^ (p2.toInt64)))
set_option maxRecDepth 65536 in
set_option maxHeartbeats 40000000 in
theorem rm1 (l : Launch) (Z : State) (a0 : Array Value) (hw : ∀ d ∈ tables_1, d.before a0 Z = true) (q0 : Int64) (p1 : Int32) (p2 : Int32) (h0 : Heap) (n0 : Nat) :
    own_Met l Z n0 (⟨"com/example/gavelwright/gavelwright/workload/Sweep", "seedOf", "(JII)J"⟩ : MethodName) prog_80_method_3_code 4 (some .long) ({ frames := 1, cells := 0, slots := 0, locals := 13 } : Room) #[(.long q0), (.int p1), (.int p2)] h0 (fun v h => v = some (.long (f1 q0 p1 p2)) ∧ h0 = h) := by
  refine own_met (plainFor_of_name pn_2) ?_
  intro p e s m below meth c T0 hx hby hml hown hnm hret hlk hZ A0
  rw [ef_1]
  show own_Go _ _ _ _ (T0.setTop (mkF m 0 #[.val (.long q0), .second, .val (.int p1), .val (.int p2)] []))
  refine own_go (fun t k => XS.lloadN A0.here hx rfl (hb hby d1_0) rfl k) ?_
  show own_Go _ _ _ _ (T0.setTop (mkF m 1 #[.val (.long q0), .second, .val (.int p1), .val (.int p2)] [(.long q0)]))
  refine own_callS A0 hx hZ hown (y := (⟨"com/example/gavelwright/gavelwright/workload/Sweep", "mix", "(J)J"⟩ : MethodName)) (hw _ (List.mem_of_getElem? (i := 4) rfl)) (hw _ (List.mem_of_getElem? (i := 5) rfl)) (hw _ (List.mem_of_getElem? (i := 2) rfl)) (hw _ (List.mem_of_getElem? (i := 6) rfl)) (by decide) (argsL := [(.long q0)]) (rest := []) (rm2 l Z a0 hw q0 h0 n0 ) 0 (by decide) (by decide) rfl (by rw [hml]; rfl) (lenOf pd__J_J rfl) rfl (by show 2 * 0 + _ ≤ _; exact Nat.le_of_eq rfl) (hb hby d1_1) (by decide) (by decide) (fun v4 T1 h3 A2 hQ5 => ?_)
  obtain ⟨rfl, rfl⟩ := hQ5
  show own_Go _ _ _ _ (T1.setTop (mkF m 4 #[.val (.long q0), .second, .val (.int p1), .val (.int p2)] [(.long (f2 q0))]))
  refine own_go (fun t k => XS.iloadN A2.here hx rfl (hb hby d1_4) rfl k) ?_
  show own_Go _ _ _ _ (T1.setTop (mkF m 5 #[.val (.long q0), .second, .val (.int p1), .val (.int p2)] [(.int p1), (.long (f2 q0))]))
  refine own_go (fun t k => XS.i2l A2.here hx rfl (hb hby d1_5) rfl k) ?_
  show own_Go _ _ _ _ (T1.setTop (mkF m 6 #[.val (.long q0), .second, .val (.int p1), .val (.int p2)] [(.long (p1.toInt64)), (.long (f2 q0))]))
  refine own_go (fun t k => XS.lxor A2.here hx rfl (hb hby d1_6) rfl k) ?_
  show own_Go _ _ _ _ (T1.setTop (mkF m 7 #[.val (.long q0), .second, .val (.int p1), .val (.int p2)] [(.long ((f2 q0) ^^^ (p1.toInt64)))]))
  refine own_callS A2 hx hZ hown (y := (⟨"com/example/gavelwright/gavelwright/workload/Sweep", "mix", "(J)J"⟩ : MethodName)) (hw _ (List.mem_of_getElem? (i := 4) rfl)) (hw _ (List.mem_of_getElem? (i := 5) rfl)) (hw _ (List.mem_of_getElem? (i := 2) rfl)) (hw _ (List.mem_of_getElem? (i := 6) rfl)) (by decide) (argsL := [(.long ((f2 q0) ^^^ (p1.toInt64)))]) (rest := []) (rm2 l Z a0 hw ((f2 q0) ^^^ (p1.toInt64)) h0 n0 ) 0 (by decide) (by decide) rfl (by rw [hml]; rfl) (lenOf pd__J_J rfl) rfl (by show 2 * 0 + _ ≤ _; exact Nat.le_of_eq rfl) (hb hby d1_7) (by decide) (by decide) (fun v9 T6 h8 A7 hQ10 => ?_)
  obtain ⟨rfl, rfl⟩ := hQ10
  show own_Go _ _ _ _ (T6.setTop (mkF m 10 #[.val (.long q0), .second, .val (.int p1), .val (.int p2)] [(.long (f2 ((f2 q0) ^^^ (p1.toInt64))))]))
  refine own_go (fun t k => XS.iloadN A7.here hx rfl (hb hby d1_10) rfl k) ?_
  show own_Go _ _ _ _ (T6.setTop (mkF m 11 #[.val (.long q0), .second, .val (.int p1), .val (.int p2)] [(.int p2), (.long (f2 ((f2 q0) ^^^ (p1.toInt64))))]))
  refine own_go (fun t k => XS.i2l A7.here hx rfl (hb hby d1_11) rfl k) ?_
  show own_Go _ _ _ _ (T6.setTop (mkF m 12 #[.val (.long q0), .second, .val (.int p1), .val (.int p2)] [(.long (p2.toInt64)), (.long (f2 ((f2 q0) ^^^ (p1.toInt64))))]))
  refine own_go (fun t k => XS.lxor A7.here hx rfl (hb hby d1_12) rfl k) ?_
  show own_Go _ _ _ _ (T6.setTop (mkF m 13 #[.val (.long q0), .second, .val (.int p1), .val (.int p2)] [(.long ((f2 ((f2 q0) ^^^ (p1.toInt64))) ^^^ (p2.toInt64)))]))
  refine own_callS A7 hx hZ hown (y := (⟨"com/example/gavelwright/gavelwright/workload/Sweep", "mix", "(J)J"⟩ : MethodName)) (hw _ (List.mem_of_getElem? (i := 4) rfl)) (hw _ (List.mem_of_getElem? (i := 5) rfl)) (hw _ (List.mem_of_getElem? (i := 2) rfl)) (hw _ (List.mem_of_getElem? (i := 6) rfl)) (by decide) (argsL := [(.long ((f2 ((f2 q0) ^^^ (p1.toInt64))) ^^^ (p2.toInt64)))]) (rest := []) (rm2 l Z a0 hw ((f2 ((f2 q0) ^^^ (p1.toInt64))) ^^^ (p2.toInt64)) h0 n0 ) 0 (by decide) (by decide) rfl (by rw [hml]; rfl) (lenOf pd__J_J rfl) rfl (by show 2 * 0 + _ ≤ _; exact Nat.le_of_eq rfl) (hb hby d1_13) (by decide) (by decide) (fun v14 T11 h13 A12 hQ15 => ?_)
  obtain ⟨rfl, rfl⟩ := hQ15
  show own_Go _ _ _ _ (T11.setTop (mkF m 16 #[.val (.long q0), .second, .val (.int p1), .val (.int p2)] [(.long (f2 ((f2 ((f2 q0) ^^^ (p1.toInt64))) ^^^ (p2.toInt64))))]))
  refine own_retJ A12 hx hret hlk (by decide) (by decide) (hb hby d1_16) ?_
  exact ⟨rfl, rfl⟩
theorem ef_4 (m : MethodId) (q0 : Int64) : entryFrame m #[(.long q0)] 4 = mkF m 0 #[.val (.long q0), .second, .unset, .unset] [] := by first | (simp [entryFrame, mkF, argsToLocals, Value.category]; done) | rfl
theorem pn_4 : plainName "com/example/gavelwright/gavelwright/workload/SweepSeedOfPinLaw" = true := by first | (simp [plainName, overriddenIn]; done) | decide +kernel
theorem d4_0 : decode method_3_code 0 = .ok (.lload_n 0, 1) := by decide +kernel
theorem d4_1 : decode method_3_code 1 = .ok (.lstore_n 2, 1) := by decide +kernel
theorem d4_2 : decode method_3_code 2 = .ok (.lload_n 2, 1) := by decide +kernel
theorem d4_3 : decode method_3_code 3 = .ok (.ldc2_w 19, 3) := by decide +kernel
theorem d4_6 : decode method_3_code 6 = .ok (.lload_n 0, 1) := by decide +kernel
theorem d4_7 : decode method_3_code 7 = .ok (.lload_n 2, 1) := by decide +kernel
theorem d4_8 : decode method_3_code 8 = .ok (.lmul, 1) := by decide +kernel
theorem d4_9 : decode method_3_code 9 = .ok (.lsub, 1) := by decide +kernel
theorem d4_10 : decode method_3_code 10 = .ok (.lmul, 1) := by decide +kernel
theorem d4_11 : decode method_3_code 11 = .ok (.lstore_n 2, 1) := by decide +kernel
theorem d4_12 : decode method_3_code 12 = .ok (.lload_n 2, 1) := by decide +kernel
theorem d4_13 : decode method_3_code 13 = .ok (.ldc2_w 19, 3) := by decide +kernel
theorem d4_16 : decode method_3_code 16 = .ok (.lload_n 0, 1) := by decide +kernel
theorem d4_17 : decode method_3_code 17 = .ok (.lload_n 2, 1) := by decide +kernel
theorem d4_18 : decode method_3_code 18 = .ok (.lmul, 1) := by decide +kernel
theorem d4_19 : decode method_3_code 19 = .ok (.lsub, 1) := by decide +kernel
theorem d4_20 : decode method_3_code 20 = .ok (.lmul, 1) := by decide +kernel
theorem d4_21 : decode method_3_code 21 = .ok (.lstore_n 2, 1) := by decide +kernel
theorem d4_22 : decode method_3_code 22 = .ok (.lload_n 2, 1) := by decide +kernel
theorem d4_23 : decode method_3_code 23 = .ok (.ldc2_w 19, 3) := by decide +kernel
theorem d4_26 : decode method_3_code 26 = .ok (.lload_n 0, 1) := by decide +kernel
theorem d4_27 : decode method_3_code 27 = .ok (.lload_n 2, 1) := by decide +kernel
theorem d4_28 : decode method_3_code 28 = .ok (.lmul, 1) := by decide +kernel
theorem d4_29 : decode method_3_code 29 = .ok (.lsub, 1) := by decide +kernel
theorem d4_30 : decode method_3_code 30 = .ok (.lmul, 1) := by decide +kernel
theorem d4_31 : decode method_3_code 31 = .ok (.lstore_n 2, 1) := by decide +kernel
theorem d4_32 : decode method_3_code 32 = .ok (.lload_n 2, 1) := by decide +kernel
theorem d4_33 : decode method_3_code 33 = .ok (.ldc2_w 19, 3) := by decide +kernel
theorem d4_36 : decode method_3_code 36 = .ok (.lload_n 0, 1) := by decide +kernel
theorem d4_37 : decode method_3_code 37 = .ok (.lload_n 2, 1) := by decide +kernel
theorem d4_38 : decode method_3_code 38 = .ok (.lmul, 1) := by decide +kernel
theorem d4_39 : decode method_3_code 39 = .ok (.lsub, 1) := by decide +kernel
theorem d4_40 : decode method_3_code 40 = .ok (.lmul, 1) := by decide +kernel
theorem d4_41 : decode method_3_code 41 = .ok (.lstore_n 2, 1) := by decide +kernel
theorem d4_42 : decode method_3_code 42 = .ok (.lload_n 2, 1) := by decide +kernel
theorem d4_43 : decode method_3_code 43 = .ok (.ldc2_w 19, 3) := by decide +kernel
theorem d4_46 : decode method_3_code 46 = .ok (.lload_n 0, 1) := by decide +kernel
theorem d4_47 : decode method_3_code 47 = .ok (.lload_n 2, 1) := by decide +kernel
theorem d4_48 : decode method_3_code 48 = .ok (.lmul, 1) := by decide +kernel
theorem d4_49 : decode method_3_code 49 = .ok (.lsub, 1) := by decide +kernel
theorem d4_50 : decode method_3_code 50 = .ok (.lmul, 1) := by decide +kernel
theorem d4_51 : decode method_3_code 51 = .ok (.lstore_n 2, 1) := by decide +kernel
theorem d4_52 : decode method_3_code 52 = .ok (.lload_n 2, 1) := by decide +kernel
theorem d4_53 : decode method_3_code 53 = .ok (.lreturn, 1) := by decide +kernel
def f4 (q0 : Int64) : Int64 := (((((q0 * ((2 : Int64) - (q0 * q0))) * ((2 : Int64) - (q0 * (q0 * ((2 : Int64) - (q0 * q0)))))) * ((2 : Int64) - (q0 * ((q0 * ((2 : Int64) - (q0 * q0))) * ((2 : Int64) - (q0 * (q0 * ((2 : Int64) - (q0 * q0))))))))) * ((2 : Int64) - (q0 * (((q0 * ((2 : Int64) - (q0 * q0))) * ((2 : Int64) - (q0 * (q0 * ((2 : Int64) - (q0 * q0)))))) * ((2 : Int64) - (q0 * ((q0 * ((2 : Int64) - (q0 * q0))) * ((2 : Int64) - (q0 * (q0 * ((2 : Int64) - (q0 * q0)))))))))))) * ((2 : Int64) - (q0 * ((((q0 * ((2 : Int64) - (q0 * q0))) * ((2 : Int64) - (q0 * (q0 * ((2 : Int64) - (q0 * q0)))))) * ((2 : Int64) - (q0 * ((q0 * ((2 : Int64) - (q0 * q0))) * ((2 : Int64) - (q0 * (q0 * ((2 : Int64) - (q0 * q0))))))))) * ((2 : Int64) - (q0 * (((q0 * ((2 : Int64) - (q0 * q0))) * ((2 : Int64) - (q0 * (q0 * ((2 : Int64) - (q0 * q0)))))) * ((2 : Int64) - (q0 * ((q0 * ((2 : Int64) - (q0 * q0))) * ((2 : Int64) - (q0 * (q0 * ((2 : Int64) - (q0 * q0)))))))))))))))
set_option maxRecDepth 65536 in
set_option maxHeartbeats 40000000 in
theorem rm4 (l : Launch) (Z : State) (a0 : Array Value) (hw : ∀ d ∈ tables_1, d.before a0 Z = true) (q0 : Int64) (h0 : Heap) (n0 : Nat) :
    own_Met l Z n0 (⟨"com/example/gavelwright/gavelwright/workload/SweepSeedOfPinLaw", "inverse", "(J)J"⟩ : MethodName) method_3_code 4 (some .long) ({ frames := 0, cells := 0, slots := 0, locals := 0 } : Room) #[(.long q0)] h0 (fun v h => v = some (.long (f4 q0)) ∧ h0 = h) := by
  refine own_met (plainFor_of_name pn_4) ?_
  intro p e s m below meth c T0 hx hby hml hown hnm hret hlk hZ A0
  rw [ef_4]
  show own_Go _ _ _ _ (T0.setTop (mkF m 0 #[.val (.long q0), .second, .unset, .unset] []))
  refine own_go (fun t k => XS.lloadN A0.here hx rfl (hb hby d4_0) rfl k) ?_
  show own_Go _ _ _ _ (T0.setTop (mkF m 1 #[.val (.long q0), .second, .unset, .unset] [(.long q0)]))
  refine own_go (fun t k => XS.lstoreN A0.here hx rfl (hb hby d4_1) rfl (l' := #[.val (.long q0), .second, .val (.long q0), .second]) rfl k) ?_
  show own_Go _ _ _ _ (T0.setTop (mkF m 2 #[.val (.long q0), .second, .val (.long q0), .second] []))
  refine own_go (fun t k => XS.lloadN A0.here hx rfl (hb hby d4_2) rfl k) ?_
  show own_Go _ _ _ _ (T0.setTop (mkF m 3 #[.val (.long q0), .second, .val (.long q0), .second] [(.long q0)]))
  refine own_ldcJ A0 hx hZ hown (hw _ (List.mem_of_getElem? (i := 17) rfl)) rfl (hb hby d4_3) ?_
  show own_Go _ _ _ _ (T0.setTop (mkF m 6 #[.val (.long q0), .second, .val (.long q0), .second] [(.long (2 : Int64)), (.long q0)]))
  refine own_go (fun t k => XS.lloadN A0.here hx rfl (hb hby d4_6) rfl k) ?_
  show own_Go _ _ _ _ (T0.setTop (mkF m 7 #[.val (.long q0), .second, .val (.long q0), .second] [(.long q0), (.long (2 : Int64)), (.long q0)]))
  refine own_go (fun t k => XS.lloadN A0.here hx rfl (hb hby d4_7) rfl k) ?_
  show own_Go _ _ _ _ (T0.setTop (mkF m 8 #[.val (.long q0), .second, .val (.long q0), .second] [(.long q0), (.long q0), (.long (2 : Int64)), (.long q0)]))
  refine own_go (fun t k => XS.lmul A0.here hx rfl (hb hby d4_8) rfl k) ?_
  show own_Go _ _ _ _ (T0.setTop (mkF m 9 #[.val (.long q0), .second, .val (.long q0), .second] [(.long (q0 * q0)), (.long (2 : Int64)), (.long q0)]))
  refine own_go (fun t k => XS.lsub A0.here hx rfl (hb hby d4_9) rfl k) ?_
  show own_Go _ _ _ _ (T0.setTop (mkF m 10 #[.val (.long q0), .second, .val (.long q0), .second] [(.long ((2 : Int64) - (q0 * q0))), (.long q0)]))
  refine own_go (fun t k => XS.lmul A0.here hx rfl (hb hby d4_10) rfl k) ?_
  show own_Go _ _ _ _ (T0.setTop (mkF m 11 #[.val (.long q0), .second, .val (.long q0), .second] [(.long (q0 * ((2 : Int64) - (q0 * q0))))]))
  refine own_go (fun t k => XS.lstoreN A0.here hx rfl (hb hby d4_11) rfl (l' := #[.val (.long q0), .second, .val (.long (q0 * ((2 : Int64) - (q0 * q0)))), .second]) rfl k) ?_
  show own_Go _ _ _ _ (T0.setTop (mkF m 12 #[.val (.long q0), .second, .val (.long (q0 * ((2 : Int64) - (q0 * q0)))), .second] []))
  refine own_go (fun t k => XS.lloadN A0.here hx rfl (hb hby d4_12) rfl k) ?_
  show own_Go _ _ _ _ (T0.setTop (mkF m 13 #[.val (.long q0), .second, .val (.long (q0 * ((2 : Int64) - (q0 * q0)))), .second] [(.long (q0 * ((2 : Int64) - (q0 * q0))))]))
  refine own_ldcJ A0 hx hZ hown (hw _ (List.mem_of_getElem? (i := 17) rfl)) rfl (hb hby d4_13) ?_
  show own_Go _ _ _ _ (T0.setTop (mkF m 16 #[.val (.long q0), .second, .val (.long (q0 * ((2 : Int64) - (q0 * q0)))), .second] [(.long (2 : Int64)), (.long (q0 * ((2 : Int64) - (q0 * q0))))]))
  refine own_go (fun t k => XS.lloadN A0.here hx rfl (hb hby d4_16) rfl k) ?_
  show own_Go _ _ _ _ (T0.setTop (mkF m 17 #[.val (.long q0), .second, .val (.long (q0 * ((2 : Int64) - (q0 * q0)))), .second] [(.long q0), (.long (2 : Int64)), (.long (q0 * ((2 : Int64) - (q0 * q0))))]))
  refine own_go (fun t k => XS.lloadN A0.here hx rfl (hb hby d4_17) rfl k) ?_
  show own_Go _ _ _ _ (T0.setTop (mkF m 18 #[.val (.long q0), .second, .val (.long (q0 * ((2 : Int64) - (q0 * q0)))), .second] [(.long (q0 * ((2 : Int64) - (q0 * q0)))), (.long q0), (.long (2 : Int64)), (.long (q0 * ((2 : Int64) - (q0 * q0))))]))
  refine own_go (fun t k => XS.lmul A0.here hx rfl (hb hby d4_18) rfl k) ?_
  show own_Go _ _ _ _ (T0.setTop (mkF m 19 #[.val (.long q0), .second, .val (.long (q0 * ((2 : Int64) - (q0 * q0)))), .second] [(.long (q0 * (q0 * ((2 : Int64) - (q0 * q0))))), (.long (2 : Int64)), (.long (q0 * ((2 : Int64) - (q0 * q0))))]))
  refine own_go (fun t k => XS.lsub A0.here hx rfl (hb hby d4_19) rfl k) ?_
  show own_Go _ _ _ _ (T0.setTop (mkF m 20 #[.val (.long q0), .second, .val (.long (q0 * ((2 : Int64) - (q0 * q0)))), .second] [(.long ((2 : Int64) - (q0 * (q0 * ((2 : Int64) - (q0 * q0)))))), (.long (q0 * ((2 : Int64) - (q0 * q0))))]))
  refine own_go (fun t k => XS.lmul A0.here hx rfl (hb hby d4_20) rfl k) ?_
  show own_Go _ _ _ _ (T0.setTop (mkF m 21 #[.val (.long q0), .second, .val (.long (q0 * ((2 : Int64) - (q0 * q0)))), .second] [(.long ((q0 * ((2 : Int64) - (q0 * q0))) * ((2 : Int64) - (q0 * (q0 * ((2 : Int64) - (q0 * q0)))))))]))
  refine own_go (fun t k => XS.lstoreN A0.here hx rfl (hb hby d4_21) rfl (l' := #[.val (.long q0), .second, .val (.long ((q0 * ((2 : Int64) - (q0 * q0))) * ((2 : Int64) - (q0 * (q0 * ((2 : Int64) - (q0 * q0))))))), .second]) rfl k) ?_
  show own_Go _ _ _ _ (T0.setTop (mkF m 22 #[.val (.long q0), .second, .val (.long ((q0 * ((2 : Int64) - (q0 * q0))) * ((2 : Int64) - (q0 * (q0 * ((2 : Int64) - (q0 * q0))))))), .second] []))
  refine own_go (fun t k => XS.lloadN A0.here hx rfl (hb hby d4_22) rfl k) ?_
  show own_Go _ _ _ _ (T0.setTop (mkF m 23 #[.val (.long q0), .second, .val (.long ((q0 * ((2 : Int64) - (q0 * q0))) * ((2 : Int64) - (q0 * (q0 * ((2 : Int64) - (q0 * q0))))))), .second] [(.long ((q0 * ((2 : Int64) - (q0 * q0))) * ((2 : Int64) - (q0 * (q0 * ((2 : Int64) - (q0 * q0)))))))]))
  refine own_ldcJ A0 hx hZ hown (hw _ (List.mem_of_getElem? (i := 17) rfl)) rfl (hb hby d4_23) ?_
  show own_Go _ _ _ _ (T0.setTop (mkF m 26 #[.val (.long q0), .second, .val (.long ((q0 * ((2 : Int64) - (q0 * q0))) * ((2 : Int64) - (q0 * (q0 * ((2 : Int64) - (q0 * q0))))))), .second] [(.long (2 : Int64)), (.long ((q0 * ((2 : Int64) - (q0 * q0))) * ((2 : Int64) - (q0 * (q0 * ((2 : Int64) - (q0 * q0)))))))]))
  refine own_go (fun t k => XS.lloadN A0.here hx rfl (hb hby d4_26) rfl k) ?_
  show own_Go _ _ _ _ (T0.setTop (mkF m 27 #[.val (.long q0), .second, .val (.long ((q0 * ((2 : Int64) - (q0 * q0))) * ((2 : Int64) - (q0 * (q0 * ((2 : Int64) - (q0 * q0))))))), .second] [(.long q0), (.long (2 : Int64)), (.long ((q0 * ((2 : Int64) - (q0 * q0))) * ((2 : Int64) - (q0 * (q0 * ((2 : Int64) - (q0 * q0)))))))]))
  refine own_go (fun t k => XS.lloadN A0.here hx rfl (hb hby d4_27) rfl k) ?_
  show own_Go _ _ _ _ (T0.setTop (mkF m 28 #[.val (.long q0), .second, .val (.long ((q0 * ((2 : Int64) - (q0 * q0))) * ((2 : Int64) - (q0 * (q0 * ((2 : Int64) - (q0 * q0))))))), .second] [(.long ((q0 * ((2 : Int64) - (q0 * q0))) * ((2 : Int64) - (q0 * (q0 * ((2 : Int64) - (q0 * q0))))))), (.long q0), (.long (2 : Int64)), (.long ((q0 * ((2 : Int64) - (q0 * q0))) * ((2 : Int64) - (q0 * (q0 * ((2 : Int64) - (q0 * q0)))))))]))
  refine own_go (fun t k => XS.lmul A0.here hx rfl (hb hby d4_28) rfl k) ?_
  show own_Go _ _ _ _ (T0.setTop (mkF m 29 #[.val (.long q0), .second, .val (.long ((q0 * ((2 : Int64) - (q0 * q0))) * ((2 : Int64) - (q0 * (q0 * ((2 : Int64) - (q0 * q0))))))), .second] [(.long (q0 * ((q0 * ((2 : Int64) - (q0 * q0))) * ((2 : Int64) - (q0 * (q0 * ((2 : Int64) - (q0 * q0)))))))), (.long (2 : Int64)), (.long ((q0 * ((2 : Int64) - (q0 * q0))) * ((2 : Int64) - (q0 * (q0 * ((2 : Int64) - (q0 * q0)))))))]))
  refine own_go (fun t k => XS.lsub A0.here hx rfl (hb hby d4_29) rfl k) ?_
  show own_Go _ _ _ _ (T0.setTop (mkF m 30 #[.val (.long q0), .second, .val (.long ((q0 * ((2 : Int64) - (q0 * q0))) * ((2 : Int64) - (q0 * (q0 * ((2 : Int64) - (q0 * q0))))))), .second] [(.long ((2 : Int64) - (q0 * ((q0 * ((2 : Int64) - (q0 * q0))) * ((2 : Int64) - (q0 * (q0 * ((2 : Int64) - (q0 * q0))))))))), (.long ((q0 * ((2 : Int64) - (q0 * q0))) * ((2 : Int64) - (q0 * (q0 * ((2 : Int64) - (q0 * q0)))))))]))
  refine own_go (fun t k => XS.lmul A0.here hx rfl (hb hby d4_30) rfl k) ?_
  show own_Go _ _ _ _ (T0.setTop (mkF m 31 #[.val (.long q0), .second, .val (.long ((q0 * ((2 : Int64) - (q0 * q0))) * ((2 : Int64) - (q0 * (q0 * ((2 : Int64) - (q0 * q0))))))), .second] [(.long (((q0 * ((2 : Int64) - (q0 * q0))) * ((2 : Int64) - (q0 * (q0 * ((2 : Int64) - (q0 * q0)))))) * ((2 : Int64) - (q0 * ((q0 * ((2 : Int64) - (q0 * q0))) * ((2 : Int64) - (q0 * (q0 * ((2 : Int64) - (q0 * q0))))))))))]))
  generalize hx1 : (((q0 * ((2 : Int64) - (q0 * q0))) * ((2 : Int64) - (q0 * (q0 * ((2 : Int64) - (q0 * q0)))))) * ((2 : Int64) - (q0 * ((q0 * ((2 : Int64) - (q0 * q0))) * ((2 : Int64) - (q0 * (q0 * ((2 : Int64) - (q0 * q0))))))))) = x1
  show own_Go _ _ _ _ (T0.setTop (mkF m 31 #[.val (.long q0), .second, .val (.long ((q0 * ((2 : Int64) - (q0 * q0))) * ((2 : Int64) - (q0 * (q0 * ((2 : Int64) - (q0 * q0))))))), .second] [(.long x1)]))
  refine own_go (fun t k => XS.lstoreN A0.here hx rfl (hb hby d4_31) rfl (l' := #[.val (.long q0), .second, .val (.long x1), .second]) rfl k) ?_
  show own_Go _ _ _ _ (T0.setTop (mkF m 32 #[.val (.long q0), .second, .val (.long x1), .second] []))
  refine own_go (fun t k => XS.lloadN A0.here hx rfl (hb hby d4_32) rfl k) ?_
  show own_Go _ _ _ _ (T0.setTop (mkF m 33 #[.val (.long q0), .second, .val (.long x1), .second] [(.long x1)]))
  refine own_ldcJ A0 hx hZ hown (hw _ (List.mem_of_getElem? (i := 17) rfl)) rfl (hb hby d4_33) ?_
  show own_Go _ _ _ _ (T0.setTop (mkF m 36 #[.val (.long q0), .second, .val (.long x1), .second] [(.long (2 : Int64)), (.long x1)]))
  refine own_go (fun t k => XS.lloadN A0.here hx rfl (hb hby d4_36) rfl k) ?_
  show own_Go _ _ _ _ (T0.setTop (mkF m 37 #[.val (.long q0), .second, .val (.long x1), .second] [(.long q0), (.long (2 : Int64)), (.long x1)]))
  refine own_go (fun t k => XS.lloadN A0.here hx rfl (hb hby d4_37) rfl k) ?_
  show own_Go _ _ _ _ (T0.setTop (mkF m 38 #[.val (.long q0), .second, .val (.long x1), .second] [(.long x1), (.long q0), (.long (2 : Int64)), (.long x1)]))
  refine own_go (fun t k => XS.lmul A0.here hx rfl (hb hby d4_38) rfl k) ?_
  show own_Go _ _ _ _ (T0.setTop (mkF m 39 #[.val (.long q0), .second, .val (.long x1), .second] [(.long (q0 * x1)), (.long (2 : Int64)), (.long x1)]))
  refine own_go (fun t k => XS.lsub A0.here hx rfl (hb hby d4_39) rfl k) ?_
  show own_Go _ _ _ _ (T0.setTop (mkF m 40 #[.val (.long q0), .second, .val (.long x1), .second] [(.long ((2 : Int64) - (q0 * x1))), (.long x1)]))
  refine own_go (fun t k => XS.lmul A0.here hx rfl (hb hby d4_40) rfl k) ?_
  show own_Go _ _ _ _ (T0.setTop (mkF m 41 #[.val (.long q0), .second, .val (.long x1), .second] [(.long (x1 * ((2 : Int64) - (q0 * x1))))]))
  refine own_go (fun t k => XS.lstoreN A0.here hx rfl (hb hby d4_41) rfl (l' := #[.val (.long q0), .second, .val (.long (x1 * ((2 : Int64) - (q0 * x1)))), .second]) rfl k) ?_
  show own_Go _ _ _ _ (T0.setTop (mkF m 42 #[.val (.long q0), .second, .val (.long (x1 * ((2 : Int64) - (q0 * x1)))), .second] []))
  refine own_go (fun t k => XS.lloadN A0.here hx rfl (hb hby d4_42) rfl k) ?_
  show own_Go _ _ _ _ (T0.setTop (mkF m 43 #[.val (.long q0), .second, .val (.long (x1 * ((2 : Int64) - (q0 * x1)))), .second] [(.long (x1 * ((2 : Int64) - (q0 * x1))))]))
  refine own_ldcJ A0 hx hZ hown (hw _ (List.mem_of_getElem? (i := 17) rfl)) rfl (hb hby d4_43) ?_
  show own_Go _ _ _ _ (T0.setTop (mkF m 46 #[.val (.long q0), .second, .val (.long (x1 * ((2 : Int64) - (q0 * x1)))), .second] [(.long (2 : Int64)), (.long (x1 * ((2 : Int64) - (q0 * x1))))]))
  refine own_go (fun t k => XS.lloadN A0.here hx rfl (hb hby d4_46) rfl k) ?_
  show own_Go _ _ _ _ (T0.setTop (mkF m 47 #[.val (.long q0), .second, .val (.long (x1 * ((2 : Int64) - (q0 * x1)))), .second] [(.long q0), (.long (2 : Int64)), (.long (x1 * ((2 : Int64) - (q0 * x1))))]))
  refine own_go (fun t k => XS.lloadN A0.here hx rfl (hb hby d4_47) rfl k) ?_
  show own_Go _ _ _ _ (T0.setTop (mkF m 48 #[.val (.long q0), .second, .val (.long (x1 * ((2 : Int64) - (q0 * x1)))), .second] [(.long (x1 * ((2 : Int64) - (q0 * x1)))), (.long q0), (.long (2 : Int64)), (.long (x1 * ((2 : Int64) - (q0 * x1))))]))
  refine own_go (fun t k => XS.lmul A0.here hx rfl (hb hby d4_48) rfl k) ?_
  show own_Go _ _ _ _ (T0.setTop (mkF m 49 #[.val (.long q0), .second, .val (.long (x1 * ((2 : Int64) - (q0 * x1)))), .second] [(.long (q0 * (x1 * ((2 : Int64) - (q0 * x1))))), (.long (2 : Int64)), (.long (x1 * ((2 : Int64) - (q0 * x1))))]))
  refine own_go (fun t k => XS.lsub A0.here hx rfl (hb hby d4_49) rfl k) ?_
  show own_Go _ _ _ _ (T0.setTop (mkF m 50 #[.val (.long q0), .second, .val (.long (x1 * ((2 : Int64) - (q0 * x1)))), .second] [(.long ((2 : Int64) - (q0 * (x1 * ((2 : Int64) - (q0 * x1)))))), (.long (x1 * ((2 : Int64) - (q0 * x1))))]))
  refine own_go (fun t k => XS.lmul A0.here hx rfl (hb hby d4_50) rfl k) ?_
  show own_Go _ _ _ _ (T0.setTop (mkF m 51 #[.val (.long q0), .second, .val (.long (x1 * ((2 : Int64) - (q0 * x1)))), .second] [(.long ((x1 * ((2 : Int64) - (q0 * x1))) * ((2 : Int64) - (q0 * (x1 * ((2 : Int64) - (q0 * x1)))))))]))
  refine own_go (fun t k => XS.lstoreN A0.here hx rfl (hb hby d4_51) rfl (l' := #[.val (.long q0), .second, .val (.long ((x1 * ((2 : Int64) - (q0 * x1))) * ((2 : Int64) - (q0 * (x1 * ((2 : Int64) - (q0 * x1))))))), .second]) rfl k) ?_
  show own_Go _ _ _ _ (T0.setTop (mkF m 52 #[.val (.long q0), .second, .val (.long ((x1 * ((2 : Int64) - (q0 * x1))) * ((2 : Int64) - (q0 * (x1 * ((2 : Int64) - (q0 * x1))))))), .second] []))
  refine own_go (fun t k => XS.lloadN A0.here hx rfl (hb hby d4_52) rfl k) ?_
  show own_Go _ _ _ _ (T0.setTop (mkF m 53 #[.val (.long q0), .second, .val (.long ((x1 * ((2 : Int64) - (q0 * x1))) * ((2 : Int64) - (q0 * (x1 * ((2 : Int64) - (q0 * x1))))))), .second] [(.long ((x1 * ((2 : Int64) - (q0 * x1))) * ((2 : Int64) - (q0 * (x1 * ((2 : Int64) - (q0 * x1)))))))]))
  refine own_retJ A0 hx hret hlk (by decide) (by decide) (hb hby d4_53) ?_
  subst hx1
  exact ⟨rfl, rfl⟩
theorem ef_3 (m : MethodId) (q0 : Int64) : entryFrame m #[(.long q0)] 8 = mkF m 0 #[.val (.long q0), .second, .unset, .unset, .unset, .unset, .unset, .unset] [] := by first | (simp [entryFrame, mkF, argsToLocals, Value.category]; done) | rfl
theorem d3_0 : decode method_4_code 0 = .ok (.ldc2_w 21, 3) := by decide +kernel
theorem d3_3 : decode method_4_code 3 = .ok (.invokestatic 23, 3) := by decide +kernel
theorem d3_6 : decode method_4_code 6 = .ok (.lstore_n 2, 1) := by decide +kernel
theorem d3_7 : decode method_4_code 7 = .ok (.ldc2_w 26, 3) := by decide +kernel
theorem d3_10 : decode method_4_code 10 = .ok (.invokestatic 23, 3) := by decide +kernel
theorem d3_13 : decode method_4_code 13 = .ok (.lstore 4, 2) := by decide +kernel
theorem d3_15 : decode method_4_code 15 = .ok (.lload_n 0, 1) := by decide +kernel
theorem d3_16 : decode method_4_code 16 = .ok (.lload_n 0, 1) := by decide +kernel
theorem d3_17 : decode method_4_code 17 = .ok (.bipush 33, 2) := by decide +kernel
theorem d3_19 : decode method_4_code 19 = .ok (.lushr, 1) := by decide +kernel
theorem d3_20 : decode method_4_code 20 = .ok (.lxor, 1) := by decide +kernel
theorem d3_21 : decode method_4_code 21 = .ok (.lstore 6, 2) := by decide +kernel
theorem d3_23 : decode method_4_code 23 = .ok (.lload 6, 2) := by decide +kernel
theorem d3_25 : decode method_4_code 25 = .ok (.lload 4, 2) := by decide +kernel
theorem d3_27 : decode method_4_code 27 = .ok (.lmul, 1) := by decide +kernel
theorem d3_28 : decode method_4_code 28 = .ok (.lstore 6, 2) := by decide +kernel
theorem d3_30 : decode method_4_code 30 = .ok (.lload 6, 2) := by decide +kernel
theorem d3_32 : decode method_4_code 32 = .ok (.lload 6, 2) := by decide +kernel
theorem d3_34 : decode method_4_code 34 = .ok (.bipush 33, 2) := by decide +kernel
theorem d3_36 : decode method_4_code 36 = .ok (.lushr, 1) := by decide +kernel
theorem d3_37 : decode method_4_code 37 = .ok (.lxor, 1) := by decide +kernel
theorem d3_38 : decode method_4_code 38 = .ok (.lstore 6, 2) := by decide +kernel
theorem d3_40 : decode method_4_code 40 = .ok (.lload 6, 2) := by decide +kernel
theorem d3_42 : decode method_4_code 42 = .ok (.lload_n 2, 1) := by decide +kernel
theorem d3_43 : decode method_4_code 43 = .ok (.lmul, 1) := by decide +kernel
theorem d3_44 : decode method_4_code 44 = .ok (.lstore 6, 2) := by decide +kernel
theorem d3_46 : decode method_4_code 46 = .ok (.lload 6, 2) := by decide +kernel
theorem d3_48 : decode method_4_code 48 = .ok (.lload 6, 2) := by decide +kernel
theorem d3_50 : decode method_4_code 50 = .ok (.bipush 33, 2) := by decide +kernel
theorem d3_52 : decode method_4_code 52 = .ok (.lushr, 1) := by decide +kernel
theorem d3_53 : decode method_4_code 53 = .ok (.lxor, 1) := by decide +kernel
theorem d3_54 : decode method_4_code 54 = .ok (.lstore 6, 2) := by decide +kernel
theorem d3_56 : decode method_4_code 56 = .ok (.lload 6, 2) := by decide +kernel
theorem d3_58 : decode method_4_code 58 = .ok (.lreturn, 1) := by decide +kernel
def f3 (q0 : Int64) : Int64 := (((((q0 ^^^ ((q0.toUInt64 >>> ((33 : Int32) &&& 0x3f).toInt64.toUInt64).toInt64)) * (f4 (-4265267296055464877 : Int64))) ^^^ ((((q0 ^^^ ((q0.toUInt64 >>> ((33 : Int32) &&& 0x3f).toInt64.toUInt64).toInt64)) * (f4 (-4265267296055464877 : Int64))).toUInt64 >>> ((33 : Int32) &&& 0x3f).toInt64.toUInt64).toInt64)) * (f4 (-49064778989728563 : Int64))) ^^^ ((((((q0 ^^^ ((q0.toUInt64 >>> ((33 : Int32) &&& 0x3f).toInt64.toUInt64).toInt64)) * (f4 (-4265267296055464877 : Int64))) ^^^ ((((q0 ^^^ ((q0.toUInt64 >>> ((33 : Int32) &&& 0x3f).toInt64.toUInt64).toInt64)) * (f4 (-4265267296055464877 : Int64))).toUInt64 >>> ((33 : Int32) &&& 0x3f).toInt64.toUInt64).toInt64)) * (f4 (-49064778989728563 : Int64))).toUInt64 >>> ((33 : Int32) &&& 0x3f).toInt64.toUInt64).toInt64))
set_option maxRecDepth 65536 in
set_option maxHeartbeats 40000000 in
theorem rm3 (l : Launch) (Z : State) (a0 : Array Value) (hw : ∀ d ∈ tables_1, d.before a0 Z = true) (q0 : Int64) (h0 : Heap) (n0 : Nat) :
    own_Met l Z n0 (⟨"com/example/gavelwright/gavelwright/workload/SweepSeedOfPinLaw", "unmix", "(J)J"⟩ : MethodName) method_4_code 8 (some .long) ({ frames := 1, cells := 0, slots := 0, locals := 15 } : Room) #[(.long q0)] h0 (fun v h => v = some (.long (f3 q0)) ∧ h0 = h) := by
  refine own_met (plainFor_of_name pn_4) ?_
  intro p e s m below meth c T0 hx hby hml hown hnm hret hlk hZ A0
  rw [ef_3]
  show own_Go _ _ _ _ (T0.setTop (mkF m 0 #[.val (.long q0), .second, .unset, .unset, .unset, .unset, .unset, .unset] []))
  refine own_ldcJ A0 hx hZ hown (hw _ (List.mem_of_getElem? (i := 13) rfl)) rfl (hb hby d3_0) ?_
  show own_Go _ _ _ _ (T0.setTop (mkF m 3 #[.val (.long q0), .second, .unset, .unset, .unset, .unset, .unset, .unset] [(.long (-49064778989728563 : Int64))]))
  refine own_callS A0 hx hZ hown (y := (⟨"com/example/gavelwright/gavelwright/workload/SweepSeedOfPinLaw", "inverse", "(J)J"⟩ : MethodName)) (hw _ (List.mem_of_getElem? (i := 14) rfl)) (hw _ (List.mem_of_getElem? (i := 15) rfl)) (hw _ (List.mem_of_getElem? (i := 11) rfl)) (hw _ (List.mem_of_getElem? (i := 16) rfl)) (by decide) (argsL := [(.long (-49064778989728563 : Int64))]) (rest := []) (rm4 l Z a0 hw (-49064778989728563 : Int64) h0 n0 ) 0 (by decide) (by decide) rfl (by rw [hml]; rfl) (lenOf pd__J_J rfl) rfl (by show 2 * 0 + _ ≤ _; exact Nat.le_of_eq rfl) (hb hby d3_3) (by decide) (by decide) (fun v4 T1 h3 A2 hQ5 => ?_)
  obtain ⟨rfl, rfl⟩ := hQ5
  show own_Go _ _ _ _ (T1.setTop (mkF m 6 #[.val (.long q0), .second, .unset, .unset, .unset, .unset, .unset, .unset] [(.long (f4 (-49064778989728563 : Int64)))]))
  refine own_go (fun t k => XS.lstoreN A2.here hx rfl (hb hby d3_6) rfl (l' := #[.val (.long q0), .second, .val (.long (f4 (-49064778989728563 : Int64))), .second, .unset, .unset, .unset, .unset]) rfl k) ?_
  show own_Go _ _ _ _ (T1.setTop (mkF m 7 #[.val (.long q0), .second, .val (.long (f4 (-49064778989728563 : Int64))), .second, .unset, .unset, .unset, .unset] []))
  refine own_ldcJ A2 hx hZ hown (hw _ (List.mem_of_getElem? (i := 18) rfl)) rfl (hb hby d3_7) ?_
  show own_Go _ _ _ _ (T1.setTop (mkF m 10 #[.val (.long q0), .second, .val (.long (f4 (-49064778989728563 : Int64))), .second, .unset, .unset, .unset, .unset] [(.long (-4265267296055464877 : Int64))]))
  refine own_callS A2 hx hZ hown (y := (⟨"com/example/gavelwright/gavelwright/workload/SweepSeedOfPinLaw", "inverse", "(J)J"⟩ : MethodName)) (hw _ (List.mem_of_getElem? (i := 14) rfl)) (hw _ (List.mem_of_getElem? (i := 15) rfl)) (hw _ (List.mem_of_getElem? (i := 11) rfl)) (hw _ (List.mem_of_getElem? (i := 16) rfl)) (by decide) (argsL := [(.long (-4265267296055464877 : Int64))]) (rest := []) (rm4 l Z a0 hw (-4265267296055464877 : Int64) h0 n0 ) 0 (by decide) (by decide) rfl (by rw [hml]; rfl) (lenOf pd__J_J rfl) rfl (by show 2 * 0 + _ ≤ _; exact Nat.le_of_eq rfl) (hb hby d3_10) (by decide) (by decide) (fun v9 T6 h8 A7 hQ10 => ?_)
  obtain ⟨rfl, rfl⟩ := hQ10
  show own_Go _ _ _ _ (T6.setTop (mkF m 13 #[.val (.long q0), .second, .val (.long (f4 (-49064778989728563 : Int64))), .second, .unset, .unset, .unset, .unset] [(.long (f4 (-4265267296055464877 : Int64)))]))
  refine own_go (fun t k => XS.lstore A7.here hx rfl (hb hby d3_13) rfl (l' := #[.val (.long q0), .second, .val (.long (f4 (-49064778989728563 : Int64))), .second, .val (.long (f4 (-4265267296055464877 : Int64))), .second, .unset, .unset]) rfl k) ?_
  show own_Go _ _ _ _ (T6.setTop (mkF m 15 #[.val (.long q0), .second, .val (.long (f4 (-49064778989728563 : Int64))), .second, .val (.long (f4 (-4265267296055464877 : Int64))), .second, .unset, .unset] []))
  refine own_go (fun t k => XS.lloadN A7.here hx rfl (hb hby d3_15) rfl k) ?_
  show own_Go _ _ _ _ (T6.setTop (mkF m 16 #[.val (.long q0), .second, .val (.long (f4 (-49064778989728563 : Int64))), .second, .val (.long (f4 (-4265267296055464877 : Int64))), .second, .unset, .unset] [(.long q0)]))
  refine own_go (fun t k => XS.lloadN A7.here hx rfl (hb hby d3_16) rfl k) ?_
  show own_Go _ _ _ _ (T6.setTop (mkF m 17 #[.val (.long q0), .second, .val (.long (f4 (-49064778989728563 : Int64))), .second, .val (.long (f4 (-4265267296055464877 : Int64))), .second, .unset, .unset] [(.long q0), (.long q0)]))
  refine own_go (fun t k => XS.bipush A7.here hx rfl (hb hby d3_17) k) ?_
  show own_Go _ _ _ _ (T6.setTop (mkF m 19 #[.val (.long q0), .second, .val (.long (f4 (-49064778989728563 : Int64))), .second, .val (.long (f4 (-4265267296055464877 : Int64))), .second, .unset, .unset] [(.int (33 : Int32)), (.long q0), (.long q0)]))
  refine own_go (fun t k => XS.lushr A7.here hx rfl (hb hby d3_19) rfl k) ?_
  show own_Go _ _ _ _ (T6.setTop (mkF m 20 #[.val (.long q0), .second, .val (.long (f4 (-49064778989728563 : Int64))), .second, .val (.long (f4 (-4265267296055464877 : Int64))), .second, .unset, .unset] [(.long ((q0.toUInt64 >>> ((33 : Int32) &&& 0x3f).toInt64.toUInt64).toInt64)), (.long q0)]))
  refine own_go (fun t k => XS.lxor A7.here hx rfl (hb hby d3_20) rfl k) ?_
  show own_Go _ _ _ _ (T6.setTop (mkF m 21 #[.val (.long q0), .second, .val (.long (f4 (-49064778989728563 : Int64))), .second, .val (.long (f4 (-4265267296055464877 : Int64))), .second, .unset, .unset] [(.long (q0 ^^^ ((q0.toUInt64 >>> ((33 : Int32) &&& 0x3f).toInt64.toUInt64).toInt64)))]))
  refine own_go (fun t k => XS.lstore A7.here hx rfl (hb hby d3_21) rfl (l' := #[.val (.long q0), .second, .val (.long (f4 (-49064778989728563 : Int64))), .second, .val (.long (f4 (-4265267296055464877 : Int64))), .second, .val (.long (q0 ^^^ ((q0.toUInt64 >>> ((33 : Int32) &&& 0x3f).toInt64.toUInt64).toInt64))), .second]) rfl k) ?_
  show own_Go _ _ _ _ (T6.setTop (mkF m 23 #[.val (.long q0), .second, .val (.long (f4 (-49064778989728563 : Int64))), .second, .val (.long (f4 (-4265267296055464877 : Int64))), .second, .val (.long (q0 ^^^ ((q0.toUInt64 >>> ((33 : Int32) &&& 0x3f).toInt64.toUInt64).toInt64))), .second] []))
  refine own_go (fun t k => XS.lload A7.here hx rfl (hb hby d3_23) rfl k) ?_
  show own_Go _ _ _ _ (T6.setTop (mkF m 25 #[.val (.long q0), .second, .val (.long (f4 (-49064778989728563 : Int64))), .second, .val (.long (f4 (-4265267296055464877 : Int64))), .second, .val (.long (q0 ^^^ ((q0.toUInt64 >>> ((33 : Int32) &&& 0x3f).toInt64.toUInt64).toInt64))), .second] [(.long (q0 ^^^ ((q0.toUInt64 >>> ((33 : Int32) &&& 0x3f).toInt64.toUInt64).toInt64)))]))
  refine own_go (fun t k => XS.lload A7.here hx rfl (hb hby d3_25) rfl k) ?_
  show own_Go _ _ _ _ (T6.setTop (mkF m 27 #[.val (.long q0), .second, .val (.long (f4 (-49064778989728563 : Int64))), .second, .val (.long (f4 (-4265267296055464877 : Int64))), .second, .val (.long (q0 ^^^ ((q0.toUInt64 >>> ((33 : Int32) &&& 0x3f).toInt64.toUInt64).toInt64))), .second] [(.long (f4 (-4265267296055464877 : Int64))), (.long (q0 ^^^ ((q0.toUInt64 >>> ((33 : Int32) &&& 0x3f).toInt64.toUInt64).toInt64)))]))
  refine own_go (fun t k => XS.lmul A7.here hx rfl (hb hby d3_27) rfl k) ?_
  show own_Go _ _ _ _ (T6.setTop (mkF m 28 #[.val (.long q0), .second, .val (.long (f4 (-49064778989728563 : Int64))), .second, .val (.long (f4 (-4265267296055464877 : Int64))), .second, .val (.long (q0 ^^^ ((q0.toUInt64 >>> ((33 : Int32) &&& 0x3f).toInt64.toUInt64).toInt64))), .second] [(.long ((q0 ^^^ ((q0.toUInt64 >>> ((33 : Int32) &&& 0x3f).toInt64.toUInt64).toInt64)) * (f4 (-4265267296055464877 : Int64))))]))
  refine own_go (fun t k => XS.lstore A7.here hx rfl (hb hby d3_28) rfl (l' := #[.val (.long q0), .second, .val (.long (f4 (-49064778989728563 : Int64))), .second, .val (.long (f4 (-4265267296055464877 : Int64))), .second, .val (.long ((q0 ^^^ ((q0.toUInt64 >>> ((33 : Int32) &&& 0x3f).toInt64.toUInt64).toInt64)) * (f4 (-4265267296055464877 : Int64)))), .second]) rfl k) ?_
  show own_Go _ _ _ _ (T6.setTop (mkF m 30 #[.val (.long q0), .second, .val (.long (f4 (-49064778989728563 : Int64))), .second, .val (.long (f4 (-4265267296055464877 : Int64))), .second, .val (.long ((q0 ^^^ ((q0.toUInt64 >>> ((33 : Int32) &&& 0x3f).toInt64.toUInt64).toInt64)) * (f4 (-4265267296055464877 : Int64)))), .second] []))
  refine own_go (fun t k => XS.lload A7.here hx rfl (hb hby d3_30) rfl k) ?_
  show own_Go _ _ _ _ (T6.setTop (mkF m 32 #[.val (.long q0), .second, .val (.long (f4 (-49064778989728563 : Int64))), .second, .val (.long (f4 (-4265267296055464877 : Int64))), .second, .val (.long ((q0 ^^^ ((q0.toUInt64 >>> ((33 : Int32) &&& 0x3f).toInt64.toUInt64).toInt64)) * (f4 (-4265267296055464877 : Int64)))), .second] [(.long ((q0 ^^^ ((q0.toUInt64 >>> ((33 : Int32) &&& 0x3f).toInt64.toUInt64).toInt64)) * (f4 (-4265267296055464877 : Int64))))]))
  refine own_go (fun t k => XS.lload A7.here hx rfl (hb hby d3_32) rfl k) ?_
  show own_Go _ _ _ _ (T6.setTop (mkF m 34 #[.val (.long q0), .second, .val (.long (f4 (-49064778989728563 : Int64))), .second, .val (.long (f4 (-4265267296055464877 : Int64))), .second, .val (.long ((q0 ^^^ ((q0.toUInt64 >>> ((33 : Int32) &&& 0x3f).toInt64.toUInt64).toInt64)) * (f4 (-4265267296055464877 : Int64)))), .second] [(.long ((q0 ^^^ ((q0.toUInt64 >>> ((33 : Int32) &&& 0x3f).toInt64.toUInt64).toInt64)) * (f4 (-4265267296055464877 : Int64)))), (.long ((q0 ^^^ ((q0.toUInt64 >>> ((33 : Int32) &&& 0x3f).toInt64.toUInt64).toInt64)) * (f4 (-4265267296055464877 : Int64))))]))
  refine own_go (fun t k => XS.bipush A7.here hx rfl (hb hby d3_34) k) ?_
  show own_Go _ _ _ _ (T6.setTop (mkF m 36 #[.val (.long q0), .second, .val (.long (f4 (-49064778989728563 : Int64))), .second, .val (.long (f4 (-4265267296055464877 : Int64))), .second, .val (.long ((q0 ^^^ ((q0.toUInt64 >>> ((33 : Int32) &&& 0x3f).toInt64.toUInt64).toInt64)) * (f4 (-4265267296055464877 : Int64)))), .second] [(.int (33 : Int32)), (.long ((q0 ^^^ ((q0.toUInt64 >>> ((33 : Int32) &&& 0x3f).toInt64.toUInt64).toInt64)) * (f4 (-4265267296055464877 : Int64)))), (.long ((q0 ^^^ ((q0.toUInt64 >>> ((33 : Int32) &&& 0x3f).toInt64.toUInt64).toInt64)) * (f4 (-4265267296055464877 : Int64))))]))
  refine own_go (fun t k => XS.lushr A7.here hx rfl (hb hby d3_36) rfl k) ?_
  show own_Go _ _ _ _ (T6.setTop (mkF m 37 #[.val (.long q0), .second, .val (.long (f4 (-49064778989728563 : Int64))), .second, .val (.long (f4 (-4265267296055464877 : Int64))), .second, .val (.long ((q0 ^^^ ((q0.toUInt64 >>> ((33 : Int32) &&& 0x3f).toInt64.toUInt64).toInt64)) * (f4 (-4265267296055464877 : Int64)))), .second] [(.long ((((q0 ^^^ ((q0.toUInt64 >>> ((33 : Int32) &&& 0x3f).toInt64.toUInt64).toInt64)) * (f4 (-4265267296055464877 : Int64))).toUInt64 >>> ((33 : Int32) &&& 0x3f).toInt64.toUInt64).toInt64)), (.long ((q0 ^^^ ((q0.toUInt64 >>> ((33 : Int32) &&& 0x3f).toInt64.toUInt64).toInt64)) * (f4 (-4265267296055464877 : Int64))))]))
  refine own_go (fun t k => XS.lxor A7.here hx rfl (hb hby d3_37) rfl k) ?_
  show own_Go _ _ _ _ (T6.setTop (mkF m 38 #[.val (.long q0), .second, .val (.long (f4 (-49064778989728563 : Int64))), .second, .val (.long (f4 (-4265267296055464877 : Int64))), .second, .val (.long ((q0 ^^^ ((q0.toUInt64 >>> ((33 : Int32) &&& 0x3f).toInt64.toUInt64).toInt64)) * (f4 (-4265267296055464877 : Int64)))), .second] [(.long (((q0 ^^^ ((q0.toUInt64 >>> ((33 : Int32) &&& 0x3f).toInt64.toUInt64).toInt64)) * (f4 (-4265267296055464877 : Int64))) ^^^ ((((q0 ^^^ ((q0.toUInt64 >>> ((33 : Int32) &&& 0x3f).toInt64.toUInt64).toInt64)) * (f4 (-4265267296055464877 : Int64))).toUInt64 >>> ((33 : Int32) &&& 0x3f).toInt64.toUInt64).toInt64)))]))
  generalize hx11 : (((q0 ^^^ ((q0.toUInt64 >>> ((33 : Int32) &&& 0x3f).toInt64.toUInt64).toInt64)) * (f4 (-4265267296055464877 : Int64))) ^^^ ((((q0 ^^^ ((q0.toUInt64 >>> ((33 : Int32) &&& 0x3f).toInt64.toUInt64).toInt64)) * (f4 (-4265267296055464877 : Int64))).toUInt64 >>> ((33 : Int32) &&& 0x3f).toInt64.toUInt64).toInt64)) = x11
  show own_Go _ _ _ _ (T6.setTop (mkF m 38 #[.val (.long q0), .second, .val (.long (f4 (-49064778989728563 : Int64))), .second, .val (.long (f4 (-4265267296055464877 : Int64))), .second, .val (.long ((q0 ^^^ ((q0.toUInt64 >>> ((33 : Int32) &&& 0x3f).toInt64.toUInt64).toInt64)) * (f4 (-4265267296055464877 : Int64)))), .second] [(.long x11)]))
  refine own_go (fun t k => XS.lstore A7.here hx rfl (hb hby d3_38) rfl (l' := #[.val (.long q0), .second, .val (.long (f4 (-49064778989728563 : Int64))), .second, .val (.long (f4 (-4265267296055464877 : Int64))), .second, .val (.long x11), .second]) rfl k) ?_
  show own_Go _ _ _ _ (T6.setTop (mkF m 40 #[.val (.long q0), .second, .val (.long (f4 (-49064778989728563 : Int64))), .second, .val (.long (f4 (-4265267296055464877 : Int64))), .second, .val (.long x11), .second] []))
  refine own_go (fun t k => XS.lload A7.here hx rfl (hb hby d3_40) rfl k) ?_
  show own_Go _ _ _ _ (T6.setTop (mkF m 42 #[.val (.long q0), .second, .val (.long (f4 (-49064778989728563 : Int64))), .second, .val (.long (f4 (-4265267296055464877 : Int64))), .second, .val (.long x11), .second] [(.long x11)]))
  refine own_go (fun t k => XS.lloadN A7.here hx rfl (hb hby d3_42) rfl k) ?_
  show own_Go _ _ _ _ (T6.setTop (mkF m 43 #[.val (.long q0), .second, .val (.long (f4 (-49064778989728563 : Int64))), .second, .val (.long (f4 (-4265267296055464877 : Int64))), .second, .val (.long x11), .second] [(.long (f4 (-49064778989728563 : Int64))), (.long x11)]))
  refine own_go (fun t k => XS.lmul A7.here hx rfl (hb hby d3_43) rfl k) ?_
  show own_Go _ _ _ _ (T6.setTop (mkF m 44 #[.val (.long q0), .second, .val (.long (f4 (-49064778989728563 : Int64))), .second, .val (.long (f4 (-4265267296055464877 : Int64))), .second, .val (.long x11), .second] [(.long (x11 * (f4 (-49064778989728563 : Int64))))]))
  refine own_go (fun t k => XS.lstore A7.here hx rfl (hb hby d3_44) rfl (l' := #[.val (.long q0), .second, .val (.long (f4 (-49064778989728563 : Int64))), .second, .val (.long (f4 (-4265267296055464877 : Int64))), .second, .val (.long (x11 * (f4 (-49064778989728563 : Int64)))), .second]) rfl k) ?_
  show own_Go _ _ _ _ (T6.setTop (mkF m 46 #[.val (.long q0), .second, .val (.long (f4 (-49064778989728563 : Int64))), .second, .val (.long (f4 (-4265267296055464877 : Int64))), .second, .val (.long (x11 * (f4 (-49064778989728563 : Int64)))), .second] []))
  refine own_go (fun t k => XS.lload A7.here hx rfl (hb hby d3_46) rfl k) ?_
  show own_Go _ _ _ _ (T6.setTop (mkF m 48 #[.val (.long q0), .second, .val (.long (f4 (-49064778989728563 : Int64))), .second, .val (.long (f4 (-4265267296055464877 : Int64))), .second, .val (.long (x11 * (f4 (-49064778989728563 : Int64)))), .second] [(.long (x11 * (f4 (-49064778989728563 : Int64))))]))
  refine own_go (fun t k => XS.lload A7.here hx rfl (hb hby d3_48) rfl k) ?_
  show own_Go _ _ _ _ (T6.setTop (mkF m 50 #[.val (.long q0), .second, .val (.long (f4 (-49064778989728563 : Int64))), .second, .val (.long (f4 (-4265267296055464877 : Int64))), .second, .val (.long (x11 * (f4 (-49064778989728563 : Int64)))), .second] [(.long (x11 * (f4 (-49064778989728563 : Int64)))), (.long (x11 * (f4 (-49064778989728563 : Int64))))]))
  refine own_go (fun t k => XS.bipush A7.here hx rfl (hb hby d3_50) k) ?_
  show own_Go _ _ _ _ (T6.setTop (mkF m 52 #[.val (.long q0), .second, .val (.long (f4 (-49064778989728563 : Int64))), .second, .val (.long (f4 (-4265267296055464877 : Int64))), .second, .val (.long (x11 * (f4 (-49064778989728563 : Int64)))), .second] [(.int (33 : Int32)), (.long (x11 * (f4 (-49064778989728563 : Int64)))), (.long (x11 * (f4 (-49064778989728563 : Int64))))]))
  refine own_go (fun t k => XS.lushr A7.here hx rfl (hb hby d3_52) rfl k) ?_
  show own_Go _ _ _ _ (T6.setTop (mkF m 53 #[.val (.long q0), .second, .val (.long (f4 (-49064778989728563 : Int64))), .second, .val (.long (f4 (-4265267296055464877 : Int64))), .second, .val (.long (x11 * (f4 (-49064778989728563 : Int64)))), .second] [(.long (((x11 * (f4 (-49064778989728563 : Int64))).toUInt64 >>> ((33 : Int32) &&& 0x3f).toInt64.toUInt64).toInt64)), (.long (x11 * (f4 (-49064778989728563 : Int64))))]))
  refine own_go (fun t k => XS.lxor A7.here hx rfl (hb hby d3_53) rfl k) ?_
  show own_Go _ _ _ _ (T6.setTop (mkF m 54 #[.val (.long q0), .second, .val (.long (f4 (-49064778989728563 : Int64))), .second, .val (.long (f4 (-4265267296055464877 : Int64))), .second, .val (.long (x11 * (f4 (-49064778989728563 : Int64)))), .second] [(.long ((x11 * (f4 (-49064778989728563 : Int64))) ^^^ (((x11 * (f4 (-49064778989728563 : Int64))).toUInt64 >>> ((33 : Int32) &&& 0x3f).toInt64.toUInt64).toInt64)))]))
  refine own_go (fun t k => XS.lstore A7.here hx rfl (hb hby d3_54) rfl (l' := #[.val (.long q0), .second, .val (.long (f4 (-49064778989728563 : Int64))), .second, .val (.long (f4 (-4265267296055464877 : Int64))), .second, .val (.long ((x11 * (f4 (-49064778989728563 : Int64))) ^^^ (((x11 * (f4 (-49064778989728563 : Int64))).toUInt64 >>> ((33 : Int32) &&& 0x3f).toInt64.toUInt64).toInt64))), .second]) rfl k) ?_
  show own_Go _ _ _ _ (T6.setTop (mkF m 56 #[.val (.long q0), .second, .val (.long (f4 (-49064778989728563 : Int64))), .second, .val (.long (f4 (-4265267296055464877 : Int64))), .second, .val (.long ((x11 * (f4 (-49064778989728563 : Int64))) ^^^ (((x11 * (f4 (-49064778989728563 : Int64))).toUInt64 >>> ((33 : Int32) &&& 0x3f).toInt64.toUInt64).toInt64))), .second] []))
  refine own_go (fun t k => XS.lload A7.here hx rfl (hb hby d3_56) rfl k) ?_
  show own_Go _ _ _ _ (T6.setTop (mkF m 58 #[.val (.long q0), .second, .val (.long (f4 (-49064778989728563 : Int64))), .second, .val (.long (f4 (-4265267296055464877 : Int64))), .second, .val (.long ((x11 * (f4 (-49064778989728563 : Int64))) ^^^ (((x11 * (f4 (-49064778989728563 : Int64))).toUInt64 >>> ((33 : Int32) &&& 0x3f).toInt64.toUInt64).toInt64))), .second] [(.long ((x11 * (f4 (-49064778989728563 : Int64))) ^^^ (((x11 * (f4 (-49064778989728563 : Int64))).toUInt64 >>> ((33 : Int32) &&& 0x3f).toInt64.toUInt64).toInt64)))]))
  refine own_retJ A7 hx hret hlk (by decide) (by decide) (hb hby d3_58) ?_
  subst hx11
  exact ⟨rfl, rfl⟩
theorem ef_0 (m : MethodId) (q0 : Int64) (p1 : Int32) (p2 : Int32) : entryFrame m #[(.long q0), (.int p1), (.int p2)] maxLocals = mkF m 0 #[.val (.long q0), .second, .val (.int p1), .val (.int p2), .unset, .unset, .unset, .unset] [] := by first | (simp [entryFrame, mkF, argsToLocals, Value.category, maxLocals]; done) | rfl
theorem pd__JII_J : parseMethodDescriptor "(JII)J" = some ⟨[.long, .int, .int], some .long⟩ := by decide +kernel
def f0 (q0 : Int64) (p1 : Int32) (p2 : Int32) : Int32 := (nar .boolean (if (lcmpW (f3 ((f3 ((f3 (f1 q0 p1 p2)) ^^^ (p2.toInt64))) ^^^ (p1.toInt64))) q0) = (0 : Int32) then (1 : Int32) else (0 : Int32)))
set_option maxRecDepth 65536 in
set_option maxHeartbeats 40000000 in
theorem rm0 (l : Launch) (Z : State) (a0 : Array Value) (hw : ∀ d ∈ tables_1, d.before a0 Z = true) (q0 : Int64) (p1 : Int32) (p2 : Int32) (h0 : Heap) (n0 : Nat) :
    own_Met l Z n0 x code maxLocals ret room_1 #[(.long q0), (.int p1), (.int p2)] h0 (fun v h => v = some (.int (f0 q0 p1 p2)) ∧ h0 = h) := by
  refine own_met (plainFor_of_name pn_4) ?_
  intro p e s m below meth c T0 hx hby hml hown hnm hret hlk hZ A0
  have hret : meth.sig.returnType = some .boolean := hret
  rw [ef_0]
  show own_Go _ _ _ _ (T0.setTop (mkF m 0 #[.val (.long q0), .second, .val (.int p1), .val (.int p2), .unset, .unset, .unset, .unset] []))
  refine own_go (fun t k => XS.lloadN A0.here hx rfl (hb hby at_0) rfl k) ?_
  show own_Go _ _ _ _ (T0.setTop (mkF m 1 #[.val (.long q0), .second, .val (.int p1), .val (.int p2), .unset, .unset, .unset, .unset] [(.long q0)]))
  refine own_go (fun t k => XS.iloadN A0.here hx rfl (hb hby at_1) rfl k) ?_
  show own_Go _ _ _ _ (T0.setTop (mkF m 2 #[.val (.long q0), .second, .val (.int p1), .val (.int p2), .unset, .unset, .unset, .unset] [(.int p1), (.long q0)]))
  refine own_go (fun t k => XS.iloadN A0.here hx rfl (hb hby at_2) rfl k) ?_
  show own_Go _ _ _ _ (T0.setTop (mkF m 3 #[.val (.long q0), .second, .val (.int p1), .val (.int p2), .unset, .unset, .unset, .unset] [(.int p2), (.int p1), (.long q0)]))
  refine own_callS A0 hx hZ hown (y := (⟨"com/example/gavelwright/gavelwright/workload/Sweep", "seedOf", "(JII)J"⟩ : MethodName)) (hw _ (List.mem_of_getElem? (i := 0) rfl)) (hw _ (List.mem_of_getElem? (i := 1) rfl)) (hw _ (List.mem_of_getElem? (i := 2) rfl)) (hw _ (List.mem_of_getElem? (i := 3) rfl)) (by decide) (argsL := [(.long q0), (.int p1), (.int p2)]) (rest := []) (rm1 l Z a0 hw q0 p1 p2 h0 n0 ) 0 (by decide) (by decide) rfl (by rw [hml]; rfl) (lenOf pd__JII_J rfl) rfl (by show 2 * 0 + _ ≤ _; exact Nat.le_of_eq rfl) (hb hby at_3) (by decide) (by decide) (fun v4 T1 h3 A2 hQ5 => ?_)
  obtain ⟨rfl, rfl⟩ := hQ5
  show own_Go _ _ _ _ (T1.setTop (mkF m 6 #[.val (.long q0), .second, .val (.int p1), .val (.int p2), .unset, .unset, .unset, .unset] [(.long (f1 q0 p1 p2))]))
  refine own_go (fun t k => XS.lstore A2.here hx rfl (hb hby at_6) rfl (l' := #[.val (.long q0), .second, .val (.int p1), .val (.int p2), .val (.long (f1 q0 p1 p2)), .second, .unset, .unset]) rfl k) ?_
  show own_Go _ _ _ _ (T1.setTop (mkF m 8 #[.val (.long q0), .second, .val (.int p1), .val (.int p2), .val (.long (f1 q0 p1 p2)), .second, .unset, .unset] []))
  refine own_go (fun t k => XS.lload A2.here hx rfl (hb hby at_8) rfl k) ?_
  show own_Go _ _ _ _ (T1.setTop (mkF m 10 #[.val (.long q0), .second, .val (.int p1), .val (.int p2), .val (.long (f1 q0 p1 p2)), .second, .unset, .unset] [(.long (f1 q0 p1 p2))]))
  refine own_callS A2 hx hZ hown (y := (⟨"com/example/gavelwright/gavelwright/workload/SweepSeedOfPinLaw", "unmix", "(J)J"⟩ : MethodName)) (hw _ (List.mem_of_getElem? (i := 9) rfl)) (hw _ (List.mem_of_getElem? (i := 10) rfl)) (hw _ (List.mem_of_getElem? (i := 11) rfl)) (hw _ (List.mem_of_getElem? (i := 12) rfl)) (by decide) (argsL := [(.long (f1 q0 p1 p2))]) (rest := []) (rm3 l Z a0 hw (f1 q0 p1 p2) h0 n0 ) 0 (by decide) (by decide) rfl (by rw [hml]; rfl) (lenOf pd__J_J rfl) rfl (by show 2 * 0 + _ ≤ _; exact Nat.le_of_eq rfl) (hb hby at_10) (by decide) (by decide) (fun v9 T6 h8 A7 hQ10 => ?_)
  obtain ⟨rfl, rfl⟩ := hQ10
  show own_Go _ _ _ _ (T6.setTop (mkF m 13 #[.val (.long q0), .second, .val (.int p1), .val (.int p2), .val (.long (f1 q0 p1 p2)), .second, .unset, .unset] [(.long (f3 (f1 q0 p1 p2)))]))
  refine own_go (fun t k => XS.iloadN A7.here hx rfl (hb hby at_13) rfl k) ?_
  show own_Go _ _ _ _ (T6.setTop (mkF m 14 #[.val (.long q0), .second, .val (.int p1), .val (.int p2), .val (.long (f1 q0 p1 p2)), .second, .unset, .unset] [(.int p2), (.long (f3 (f1 q0 p1 p2)))]))
  refine own_go (fun t k => XS.i2l A7.here hx rfl (hb hby at_14) rfl k) ?_
  show own_Go _ _ _ _ (T6.setTop (mkF m 15 #[.val (.long q0), .second, .val (.int p1), .val (.int p2), .val (.long (f1 q0 p1 p2)), .second, .unset, .unset] [(.long (p2.toInt64)), (.long (f3 (f1 q0 p1 p2)))]))
  refine own_go (fun t k => XS.lxor A7.here hx rfl (hb hby at_15) rfl k) ?_
  show own_Go _ _ _ _ (T6.setTop (mkF m 16 #[.val (.long q0), .second, .val (.int p1), .val (.int p2), .val (.long (f1 q0 p1 p2)), .second, .unset, .unset] [(.long ((f3 (f1 q0 p1 p2)) ^^^ (p2.toInt64)))]))
  refine own_callS A7 hx hZ hown (y := (⟨"com/example/gavelwright/gavelwright/workload/SweepSeedOfPinLaw", "unmix", "(J)J"⟩ : MethodName)) (hw _ (List.mem_of_getElem? (i := 9) rfl)) (hw _ (List.mem_of_getElem? (i := 10) rfl)) (hw _ (List.mem_of_getElem? (i := 11) rfl)) (hw _ (List.mem_of_getElem? (i := 12) rfl)) (by decide) (argsL := [(.long ((f3 (f1 q0 p1 p2)) ^^^ (p2.toInt64)))]) (rest := []) (rm3 l Z a0 hw ((f3 (f1 q0 p1 p2)) ^^^ (p2.toInt64)) h0 n0 ) 0 (by decide) (by decide) rfl (by rw [hml]; rfl) (lenOf pd__J_J rfl) rfl (by show 2 * 0 + _ ≤ _; exact Nat.le_of_eq rfl) (hb hby at_16) (by decide) (by decide) (fun v14 T11 h13 A12 hQ15 => ?_)
  obtain ⟨rfl, rfl⟩ := hQ15
  show own_Go _ _ _ _ (T11.setTop (mkF m 19 #[.val (.long q0), .second, .val (.int p1), .val (.int p2), .val (.long (f1 q0 p1 p2)), .second, .unset, .unset] [(.long (f3 ((f3 (f1 q0 p1 p2)) ^^^ (p2.toInt64))))]))
  refine own_go (fun t k => XS.iloadN A12.here hx rfl (hb hby at_19) rfl k) ?_
  show own_Go _ _ _ _ (T11.setTop (mkF m 20 #[.val (.long q0), .second, .val (.int p1), .val (.int p2), .val (.long (f1 q0 p1 p2)), .second, .unset, .unset] [(.int p1), (.long (f3 ((f3 (f1 q0 p1 p2)) ^^^ (p2.toInt64))))]))
  refine own_go (fun t k => XS.i2l A12.here hx rfl (hb hby at_20) rfl k) ?_
  show own_Go _ _ _ _ (T11.setTop (mkF m 21 #[.val (.long q0), .second, .val (.int p1), .val (.int p2), .val (.long (f1 q0 p1 p2)), .second, .unset, .unset] [(.long (p1.toInt64)), (.long (f3 ((f3 (f1 q0 p1 p2)) ^^^ (p2.toInt64))))]))
  refine own_go (fun t k => XS.lxor A12.here hx rfl (hb hby at_21) rfl k) ?_
  show own_Go _ _ _ _ (T11.setTop (mkF m 22 #[.val (.long q0), .second, .val (.int p1), .val (.int p2), .val (.long (f1 q0 p1 p2)), .second, .unset, .unset] [(.long ((f3 ((f3 (f1 q0 p1 p2)) ^^^ (p2.toInt64))) ^^^ (p1.toInt64)))]))
  refine own_callS A12 hx hZ hown (y := (⟨"com/example/gavelwright/gavelwright/workload/SweepSeedOfPinLaw", "unmix", "(J)J"⟩ : MethodName)) (hw _ (List.mem_of_getElem? (i := 9) rfl)) (hw _ (List.mem_of_getElem? (i := 10) rfl)) (hw _ (List.mem_of_getElem? (i := 11) rfl)) (hw _ (List.mem_of_getElem? (i := 12) rfl)) (by decide) (argsL := [(.long ((f3 ((f3 (f1 q0 p1 p2)) ^^^ (p2.toInt64))) ^^^ (p1.toInt64)))]) (rest := []) (rm3 l Z a0 hw ((f3 ((f3 (f1 q0 p1 p2)) ^^^ (p2.toInt64))) ^^^ (p1.toInt64)) h0 n0 ) 0 (by decide) (by decide) rfl (by rw [hml]; rfl) (lenOf pd__J_J rfl) rfl (by show 2 * 0 + _ ≤ _; exact Nat.le_of_eq rfl) (hb hby at_22) (by decide) (by decide) (fun v19 T16 h18 A17 hQ20 => ?_)
  obtain ⟨rfl, rfl⟩ := hQ20
  show own_Go _ _ _ _ (T16.setTop (mkF m 25 #[.val (.long q0), .second, .val (.int p1), .val (.int p2), .val (.long (f1 q0 p1 p2)), .second, .unset, .unset] [(.long (f3 ((f3 ((f3 (f1 q0 p1 p2)) ^^^ (p2.toInt64))) ^^^ (p1.toInt64))))]))
  refine own_go (fun t k => XS.lstore A17.here hx rfl (hb hby at_25) rfl (l' := #[.val (.long q0), .second, .val (.int p1), .val (.int p2), .val (.long (f1 q0 p1 p2)), .second, .val (.long (f3 ((f3 ((f3 (f1 q0 p1 p2)) ^^^ (p2.toInt64))) ^^^ (p1.toInt64)))), .second]) rfl k) ?_
  show own_Go _ _ _ _ (T16.setTop (mkF m 27 #[.val (.long q0), .second, .val (.int p1), .val (.int p2), .val (.long (f1 q0 p1 p2)), .second, .val (.long (f3 ((f3 ((f3 (f1 q0 p1 p2)) ^^^ (p2.toInt64))) ^^^ (p1.toInt64)))), .second] []))
  refine own_go (fun t k => XS.lload A17.here hx rfl (hb hby at_27) rfl k) ?_
  show own_Go _ _ _ _ (T16.setTop (mkF m 29 #[.val (.long q0), .second, .val (.int p1), .val (.int p2), .val (.long (f1 q0 p1 p2)), .second, .val (.long (f3 ((f3 ((f3 (f1 q0 p1 p2)) ^^^ (p2.toInt64))) ^^^ (p1.toInt64)))), .second] [(.long (f3 ((f3 ((f3 (f1 q0 p1 p2)) ^^^ (p2.toInt64))) ^^^ (p1.toInt64))))]))
  refine own_go (fun t k => XS.lloadN A17.here hx rfl (hb hby at_29) rfl k) ?_
  show own_Go _ _ _ _ (T16.setTop (mkF m 30 #[.val (.long q0), .second, .val (.int p1), .val (.int p2), .val (.long (f1 q0 p1 p2)), .second, .val (.long (f3 ((f3 ((f3 (f1 q0 p1 p2)) ^^^ (p2.toInt64))) ^^^ (p1.toInt64)))), .second] [(.long q0), (.long (f3 ((f3 ((f3 (f1 q0 p1 p2)) ^^^ (p2.toInt64))) ^^^ (p1.toInt64))))]))
  refine own_go (fun t k => XS.lcmp A17.here hx rfl (hb hby at_30) rfl k) ?_
  show own_Go _ _ _ _ (T16.setTop (mkF m 31 #[.val (.long q0), .second, .val (.int p1), .val (.int p2), .val (.long (f1 q0 p1 p2)), .second, .val (.long (f3 ((f3 ((f3 (f1 q0 p1 p2)) ^^^ (p2.toInt64))) ^^^ (p1.toInt64)))), .second] [(.int (lcmpW (f3 ((f3 ((f3 (f1 q0 p1 p2)) ^^^ (p2.toInt64))) ^^^ (p1.toInt64))) q0))]))
  have mg21 : ∀ t, Steps p.tables e below (T16.setTop (mkF m 39 #[.val (.long q0), .second, .val (.int p1), .val (.int p2), .val (.long (f1 q0 p1 p2)), .second, .val (.long (f3 ((f3 ((f3 (f1 q0 p1 p2)) ^^^ (p2.toInt64))) ^^^ (p1.toInt64)))), .second] [(.int (if (lcmpW (f3 ((f3 ((f3 (f1 q0 p1 p2)) ^^^ (p2.toInt64))) ^^^ (p1.toInt64))) q0) = (0 : Int32) then (1 : Int32) else (0 : Int32)))])) t → Steps p.tables e below (T16.setTop (mkF m 31 #[.val (.long q0), .second, .val (.int p1), .val (.int p2), .val (.long (f1 q0 p1 p2)), .second, .val (.long (f3 ((f3 ((f3 (f1 q0 p1 p2)) ^^^ (p2.toInt64))) ^^^ (p1.toInt64)))), .second] [(.int (lcmpW (f3 ((f3 ((f3 (f1 q0 p1 p2)) ^^^ (p2.toInt64))) ^^^ (p1.toInt64))) q0))])) t := by
    intro t k
    by_cases hm31_0 : (lcmpW (f3 ((f3 ((f3 (f1 q0 p1 p2)) ^^^ (p2.toInt64))) ^^^ (p1.toInt64))) q0) = (0 : Int32)
    ·
      simp only [if_pos hm31_0] at k
      exact (XS.ifNo A17.here hx rfl (hb hby at_31) rfl ((if0 _ _).trans (teq hm31_0).2) (XS.iconst A17.here hx rfl (hb hby at_34) (XS.goto A17.here hx rfl (pc0 := 35) (pc' := 39) rfl (hb hby at_35) (by decide) (by decide) k)))
    ·
      simp only [if_neg hm31_0] at k
      exact (XS.ifYes A17.here hx rfl (pc0 := 31) (pc' := 38) rfl (hb hby at_31) rfl ((if0 _ _).trans (feq hm31_0).2) (by decide) (by decide) (XS.iconst A17.here hx rfl (hb hby at_38) k))
  refine own_go mg21 ?_
  show own_Go _ _ _ _ (T16.setTop (mkF m 39 #[.val (.long q0), .second, .val (.int p1), .val (.int p2), .val (.long (f1 q0 p1 p2)), .second, .val (.long (f3 ((f3 ((f3 (f1 q0 p1 p2)) ^^^ (p2.toInt64))) ^^^ (p1.toInt64)))), .second] [(.int (if (lcmpW (f3 ((f3 ((f3 (f1 q0 p1 p2)) ^^^ (p2.toInt64))) ^^^ (p1.toInt64))) q0) = (0 : Int32) then (1 : Int32) else (0 : Int32)))]))
  refine own_retN A17 hx (t := .boolean) hret (by simp) hlk (by decide) (by decide) (hb hby at_39) ?_
  exact ⟨rfl, rfl⟩
def own_g (x : Int64) : Int64 := x ^^^ ((x.toUInt64 >>> ((33 : Int32) &&& 0x3f).toInt64.toUInt64).toInt64)
theorem own_sh (x : Int64) : ((x.toUInt64 >>> ((33 : Int32) &&& 0x3f).toInt64.toUInt64).toInt64).toBitVec = x.toBitVec >>> 33 := by
  have e : ((33 : Int32) &&& 0x3f).toInt64.toUInt64 = 33 := by decide
  rw [e]
  rfl
theorem own_gg (x : Int64) : own_g (own_g x) = x := by
  apply Int64.toBitVec_inj.mp
  unfold own_g
  rw [Int64.toBitVec_xor, own_sh, Int64.toBitVec_xor, own_sh]
  generalize x.toBitVec = b
  ext i hi
  simp only [BitVec.getElem_xor, BitVec.getElem_ushiftRight, BitVec.getLsbD_xor, BitVec.getLsbD_ushiftRight]
  rw [BitVec.getLsbD_of_ge b (33 + (33 + i)) (by omega)]
  simp
theorem own_f2 (z : Int64) : f2 z = own_g (own_g (own_g z * (-49064778989728563 : Int64)) * (-4265267296055464877 : Int64)) := rfl
theorem own_f3 (z : Int64) : f3 z = own_g (own_g (own_g z * f4 (-4265267296055464877 : Int64)) * f4 (-49064778989728563 : Int64)) := rfl
theorem own_i1 : (-49064778989728563 : Int64) * f4 (-49064778989728563 : Int64) = 1 := by decide +kernel
theorem own_i2 : (-4265267296055464877 : Int64) * f4 (-4265267296055464877 : Int64) = 1 := by decide +kernel
theorem own_back (z : Int64) : f3 (f2 z) = z := by
  rw [own_f3, own_f2, own_gg, Int64.mul_assoc, own_i2, Int64.mul_one, own_gg, Int64.mul_assoc, own_i1, Int64.mul_one, own_gg]
theorem own_xx (a b : Int64) : (a ^^^ b) ^^^ b = a := by rw [Int64.xor_assoc, Int64.xor_self, Int64.xor_zero]
theorem law_true (q : Int64) (a b : Int32) : f0 q a b = 1 := by
  have h : f3 (f3 (f3 (f1 q a b) ^^^ b.toInt64) ^^^ a.toInt64) = q := by
    unfold f1
    rw [own_back, own_xx, own_back, own_xx, own_back]
  unfold f0
  rw [h, if_pos ((lw_eq q q).mpr rfl)]
  rfl
set_option maxRecDepth 65536 in
set_option maxHeartbeats 40000000 in
theorem comes_1 {Post : Tables → Env → Array Value → State → Outcome → State → Prop} (hpost : ∀ tb e args s v u, (limb_1_1.after args s (.returned v) u = true ∧ limb_1_2.after args s (.returned v) u = true ∧ True) → FrameEnd s (.returned v) u (Jvm.fieldLocs frame_1_writes args s ++ Jvm.arrayLocs frame_1_arrays args s ++ Jvm.staticLocs frame_1_statics s) 0 0 → Post tb e args s (.returned v) u) :
    ArmFor flags0 classFile x code maxLocals ret World_1 tables_1 room_1 Calls_1 rest_1 Pre_1 Post := by
  intro l hfl _ _ p e ha hc hk s m args below hf hA hF happ hP
  obtain ⟨hcalls, hrest, hpre⟩ := hP
  obtain ⟨-, -, -, hnamed, -, -, -, hat⟩ := (Spec.applies_iff hf).mp happ
  obtain ⟨hg, hn⟩ := and_e (Cond.before_iff.mp (show (Jvm.Cond.and given_1 narrow_1).before args s = true from hpre))
  obtain ⟨gc, gr⟩ := and_e hg
  obtain ⟨w0, w1, w2, rfl⟩ : ∃ w0 w1 w2 : Value, args = #[w0, w1, w2] := by
    have hs : args.size = 3 := by simpa [Cond.value, given_1] using gc
    obtain ⟨L⟩ := args
    match L, hs with
    | [w0, w1, w2], _ => exact ⟨w0, w1, w2, rfl⟩
  have hw := fun d (hd : d ∈ tables_1) => atoms_spec (ws := Jvm.Cond.code x code maxLocals ret :: tables_1) hat d (List.mem_cons_of_mem _ hd)
  have hfit : Fit s := fun {y c} hc i hi => by
    obtain ⟨ha, rfl⟩ := Array.getElem?_eq_some_iff.mp hc
    have q := List.all_eq_true.mp ((Array.all_eq_true_iff_forall_mem.mp hF) _ (Array.getElem_mem ha)) i (List.mem_range.mpr hi)
    simpa [Array.getElem?_eq_getElem hi] using q
  obtain ⟨q0, gr0⟩ := and_e gr
  obtain ⟨i0, ei0⟩ := isL_v q0
  obtain rfl : w0 = (.long i0) := Option.some.inj ei0
  obtain ⟨q1, gr1⟩ := and_e gr0
  obtain ⟨i1, ei1⟩ := is_v q1
  obtain rfl : w1 = (.int i1) := Option.some.inj ei1
  obtain ⟨i2, ei2⟩ := is_v gr1
  obtain rfl : w2 = (.int i2) := Option.some.inj ei2
  obtain ⟨n, o, h1, h2, h3, _, L, rfl, ⟨⟨rfl, hQ⟩, N⟩, hq⟩ := rm0 l s _ hw i0 i1 i2  s.heap s.heap.size  tables_1 p e ha hc hk s m _ below hf ((Spec.applies_iff_loose hf).mp happ).1 ⟨rfl, State.Warmed39.refl s, rfl⟩ trivial
  refine ⟨n, _, h1, h2, h3, hpost _ _ _ _ _ _ ⟨Cond.after_iff.mpr rfl, Cond.after_iff.mpr (eq_i res_at (Term.int_eval (1)) (congrArg Value.int (law_true i0 i1 i2 ))), trivial⟩ ⟨hq.1, hq.2.1, (hq.2.2.sift fun y hy => Or.inr (N y hy)).mono (by decide) (by decide)⟩⟩
theorem main_1_1 : Claimed_1_1 := comes_1 fun _ _ _ _ _ _ h hF => ⟨h.1, hF⟩
theorem main_1_2 : Claimed_1_2 := comes_1 fun _ _ _ _ _ _ h hF => ⟨h.2.1, hF⟩
end Jvm.Pilot.@@N@@
namespace Jvm.Pilot.@@N@@
open Jvm Jvm.ClassFile Sem Op Lib Jvm.Free Jvm.Stand Jvm.Pilot.@@N@@.Jvm.D
/-! MADE BY PROGRAM (witnessworld.py) out of the Statement's table words and the real class files: 9 classes; the members and pool entries that the words name. The judged class is class 1, her method 1. -/
namespace start1
open Jvm.ClassFile
def u (s : String) : CpInfo := .utf8 (stringToUtf16 s)
/-- a pool by its gaps: so many unusable entries, then the entry; so many at the end -/
def gap : Nat → List CpInfo → List CpInfo
  | 0, r => r
  | n + 1, r => .unusable :: gap n r
def poolList (es : List (Nat × CpInfo)) (last : Nat) : List CpInfo := es.foldr (fun e r => gap e.1 (e.2 :: r)) (gap last [])
def pool (es : List (Nat × CpInfo)) (last : Nat) : Array CpInfo := ⟨poolList es last⟩
def fileOf (pool : Array CpInfo) (this : Nat) (attrs : Array Attribute := #[]) (ms : Array MethodInfo := #[]) (fl : Nat := 33) (sup : Nat := 0) (ifs : Array Nat := #[]) (fds : Array FieldInfo := #[]) : ClassFile where
  minorVersion := 0
  majorVersion := 65
  constantPool := pool
  accessFlags := fl
  thisClass := this
  superClass := sup
  interfaces := ifs
  fields := fds
  methods := ms
  attributes := attrs
def plain (name : String) (sup : Option ClassId) : Class where
  name := name
  kind := .ordinary
  loader := none
  accessFlags := 33
  super := sup
  interfaces := #[]
  cf := none
  fields := #[]
  methods := #[]
  instanceTypes := #[]
  staticTypes := #[]
  resolved := #[]
  callSites := []
  init := .initialized
  statics := none
  mirror := none

def pool0 : Array CpInfo := pool [(5, u "<init>"), (0, u "()V"), (1, .class_ 10), (1, u "java/lang/Object")] 113

def k0m0 : Method := { name := "<init>", desc := "()V", sig := { parameters := [], returnType := none }, accessFlags := 1, code := none }
/-- java/lang/Object -/
def k0 : Class := { plain "java/lang/Object" none with
  accessFlags := 33
  interfaces := #[]
  cf := some (fileOf pool0 8 #[] #[{ accessFlags := 1, nameIndex := 5, descriptorIndex := 6, attributes := #[] }] 33 0 #[] #[])
  fields := #[]
  methods := #[k0m0]
  instanceTypes := #[]
  staticTypes := #[]
  resolved := Array.replicate 124 none
  statics := none }

def pool1 : Array CpInfo := pool [(2, .class_ 4), (1, u "java/lang/Object"), (0, u "<init>"), (0, u "()V"), (0, .methodref 8 9), (0, .class_ 10), (0, .nameAndType 11 12), (0, u "com/example/gavelwright/gavelwright/workload/Sweep"), (0, u "seedOf"), (0, u "(JII)J"), (0, .methodref 14 15), (0, .class_ 16), (0, .nameAndType 17 18), (0, u "com/example/gavelwright/gavelwright/workload/SweepSeedOfPinLaw"), (0, u "unmix"), (0, u "(J)J"), (0, .long 2), (1, .long 18397679294719823053), (1, .methodref 14 24), (0, .nameAndType 25 18), (0, u "inverse"), (0, .long 14181476777654086739), (3, u "law"), (0, u "(JII)Z")] 3

def k1m0 : Method := { name := "<init>", desc := "()V", sig := { parameters := [], returnType := none }, accessFlags := 1, code := none }
def k1c1 : Code := { maxStack := 4, maxLocals := 8, code := code, exceptionTable := #[], attributes := #[] }
def k1m1 : Method := { name := "law", desc := "(JII)Z", sig := { parameters := [.long, .int, .int], returnType := some .boolean }, accessFlags := 9, code := some k1c1 }
def k1c2 : Code := { maxStack := 8, maxLocals := 4, code := method_3_code, exceptionTable := #[], attributes := #[] }
def k1m2 : Method := { name := "inverse", desc := "(J)J", sig := { parameters := [.long], returnType := some .long }, accessFlags := 10, code := some k1c2 }
def k1c3 : Code := { maxStack := 5, maxLocals := 8, code := method_4_code, exceptionTable := #[], attributes := #[] }
def k1m3 : Method := { name := "unmix", desc := "(J)J", sig := { parameters := [.long], returnType := some .long }, accessFlags := 10, code := some k1c3 }
/-- com/example/gavelwright/gavelwright/workload/SweepSeedOfPinLaw -/
def k1 : Class := { plain "com/example/gavelwright/gavelwright/workload/SweepSeedOfPinLaw" (some 0) with
  accessFlags := 49
  interfaces := #[]
  cf := some (fileOf pool1 14 #[] #[{ accessFlags := 1, nameIndex := 5, descriptorIndex := 6, attributes := #[] }, { accessFlags := 9, nameIndex := 30, descriptorIndex := 31, attributes := #[] }, { accessFlags := 10, nameIndex := 25, descriptorIndex := 18, attributes := #[] }, { accessFlags := 10, nameIndex := 17, descriptorIndex := 18, attributes := #[] }] 49 2 #[] #[])
  fields := #[]
  methods := #[k1m0, k1m1, k1m2, k1m3]
  instanceTypes := #[]
  staticTypes := #[]
  resolved := Array.replicate 35 none
  statics := none }

def pool2 : Array CpInfo := pool [(2, .class_ 4), (1, u "java/lang/Object"), (67, .class_ 74), (1, u "com/example/gavelwright/gavelwright/workload/Sweep"), (0, u "generators"), (0, u "Ljava/util/List;"), (2, u "runs"), (0, u "I"), (2, u "seed"), (0, u "J"), (2, u "settings"), (53, .class_ 142), (0, u "com/example/gavelwright/gavelwright/workload/Sweep$Setting"), (4, .methodref 72 148), (0, .nameAndType 149 150), (0, u "mix"), (0, u "(J)J"), (0, .long 18397679294719823053), (1, .long 14181476777654086739), (3, u "seedOf"), (0, u "(JII)J"), (5, .class_ 166), (1, u "com/example/gavelwright/gavelwright/workload/Sweep$Keeper"), (43, .class_ 211), (0, u "com/example/gavelwright/gavelwright/workload/Sweep$Played"), (7, .class_ 221), (1, u "com/example/gavelwright/gavelwright/workload/Sweep$Figures"), (16, .class_ 239), (0, u "com/example/gavelwright/gavelwright/workload/Sweep$Point"), (9, .class_ 250), (0, u "com/example/gavelwright/gavelwright/workload/Sweep$Comparison"), (28, u "DISCARD"), (0, u "Lcom/example/gavelwright/gavelwright/workload/Sweep$Keeper;")] 101

def k2c0 : Code := { maxStack := 4, maxLocals := 4, code := prog_80_method_3_code, exceptionTable := #[], attributes := #[] }
def k2m0 : Method := { name := "seedOf", desc := "(JII)J", sig := { parameters := [.long, .int, .int], returnType := some .long }, accessFlags := 8, code := some k2c0 }
def k2c1 : Code := { maxStack := 5, maxLocals := 2, code := prog_80_method_4_code, exceptionTable := #[], attributes := #[] }
def k2m1 : Method := { name := "mix", desc := "(J)J", sig := { parameters := [.long], returnType := some .long }, accessFlags := 10, code := some k2c1 }
/-- com/example/gavelwright/gavelwright/workload/Sweep -/
def k2 : Class := { plain "com/example/gavelwright/gavelwright/workload/Sweep" (some 0) with
  accessFlags := 49
  interfaces := #[]
  cf := some (fileOf pool2 72 #[.nestMembers #[210, 164, 238, 249, 219, 141]] #[{ accessFlags := 8, nameIndex := 157, descriptorIndex := 158, attributes := #[] }, { accessFlags := 10, nameIndex := 149, descriptorIndex := 150, attributes := #[] }] 49 2 #[] #[{ accessFlags := 25, nameIndex := 279, descriptorIndex := 280, attributes := #[] }, { accessFlags := 18, nameIndex := 75, descriptorIndex := 76, attributes := #[] }, { accessFlags := 18, nameIndex := 79, descriptorIndex := 80, attributes := #[] }, { accessFlags := 18, nameIndex := 83, descriptorIndex := 84, attributes := #[] }, { accessFlags := 18, nameIndex := 87, descriptorIndex := 76, attributes := #[] }])
  fields := #[{ name := "DISCARD", type := (.object "com/example/gavelwright/gavelwright/workload/Sweep$Keeper"), accessFlags := 25, slot := 0, constantValue := 0 }, { name := "generators", type := (.object "java/util/List"), accessFlags := 18, slot := 0, constantValue := 0 }, { name := "runs", type := .int, accessFlags := 18, slot := 1, constantValue := 0 }, { name := "seed", type := .long, accessFlags := 18, slot := 2, constantValue := 0 }, { name := "settings", type := (.object "java/util/List"), accessFlags := 18, slot := 3, constantValue := 0 }]
  methods := #[k2m0, k2m1]
  instanceTypes := #[(.object "java/util/List"), .int, .long, (.object "java/util/List")]
  staticTypes := #[(.object "com/example/gavelwright/gavelwright/workload/Sweep$Keeper")]
  resolved := Array.replicate 382 none
  statics := none }

def pool3 : Array CpInfo := pool [(1, u "java/lang/Cloneable"), (0, .class_ 1), (0, u "java/lang/Object"), (0, .class_ 3)] 3

/-- java/lang/Cloneable -/
def k3 : Class := { plain "java/lang/Cloneable" (some 0) with
  accessFlags := 1537
  interfaces := #[]
  cf := some (fileOf pool3 2 #[] #[] 1537 4 #[] #[])
  fields := #[]
  methods := #[]
  instanceTypes := #[]
  staticTypes := #[]
  resolved := Array.replicate 8 none
  statics := none }

def pool4 : Array CpInfo := pool [(1, u "java/io/Serializable"), (0, .class_ 1), (0, u "java/lang/Object"), (0, .class_ 3)] 3

/-- java/io/Serializable -/
def k4 : Class := { plain "java/io/Serializable" (some 0) with
  accessFlags := 1537
  interfaces := #[]
  cf := some (fileOf pool4 2 #[] #[] 1537 4 #[] #[])
  fields := #[]
  methods := #[]
  instanceTypes := #[]
  staticTypes := #[]
  resolved := Array.replicate 8 none
  statics := none }

/-- the primitive byte -/
def k5 : Class := { plain "byte" none with kind := .primitive 'B', accessFlags := 0x411 }
/-- [B -/
def k6 : Class := { plain "[B" (some 0) with kind := .array 5 .byte, interfaces := #[3, 4], accessFlags := 1041 }

/-- the primitive int -/
def k7 : Class := { plain "int" none with kind := .primitive 'I', accessFlags := 0x411 }
/-- [I -/
def k8 : Class := { plain "[I" (some 0) with kind := .array 7 .int, interfaces := #[3, 4], accessFlags := 1041 }

def heap : Heap := #[]
def classes : Array Class := #[k0, k1, k2, k3, k4, k5, k6, k7, k8]
def interned : List (Array UInt16 × Addr) := []
def slotsUsed : Nat := 0
def theMethod : MethodId := ⟨1, 1⟩
def args0 : Array Value := #[.long 5, .int 91, .int 3]
def aboutOver (below : List Frame) : State where
  vm := { classes := classes, interned := interned.toArray }
  heap := heap
  slotsUsed := slotsUsed
  threads := #[{ frames := .invoking theMethod args0 :: below }]
def below0 : List Frame := [.native { method := ⟨0, 0⟩, args := #[] }]
def about1 : State := aboutOver below0
def p0 : Program := .bare "" "" ""
def e0 : Env := launch0.env 0 0 0
theorem w_frames : about1.frames = Frame.invoking theMethod args0 :: below0 := rfl
set_option maxRecDepth 65536 in
theorem w_args : argsFit about1.vm theMethod args0 = true := by decide +kernel
set_option maxRecDepth 65536 in
theorem w_heap : heapFits about1 = true := by decide +kernel
set_option maxRecDepth 65536 in
theorem w_runnable : about1.curStatus? = some .runnable := by decide +kernel
set_option maxRecDepth 65536 in
theorem w_alone : about1.alone = true := by decide +kernel
set_option maxRecDepth 65536 in
theorem w_named : about1.methodNamed? x = some theMethod := by decide +kernel
set_option maxRecDepth 65536 in
theorem w_hears : about1.hears theMethod below0 = true := by decide +kernel
set_option maxRecDepth 65536 in
theorem w_ripe : about1.ripe theMethod args0 below0 = true := by decide +kernel
theorem w_running : about1.status = .running := rfl
set_option maxRecDepth 65536 in
theorem w_room : about1.hasRoom e0.platform room_1 = true :=
  launch0.hasRoom_least _ room_1 (by decide +kernel) (by decide +kernel) (by decide +kernel) (by decide +kernel) (by decide +kernel) (by decide +kernel)
theorem allAtoms_all (ts : List Jvm.Cond) (a : Array Jvm.Value) (st : Jvm.State) : (allAtoms ts).before a st = ts.all (fun c => c.before a st) := by
  induction ts with
  | nil => rfl
  | cons c t ih =>
    show (Jvm.Cond.and c (allAtoms t)).before a st = _
    rw [Jvm.Cond.before_and, ih, List.all_cons]
def words1 : List Jvm.Cond := Jvm.Cond.code x code maxLocals ret :: tables_1
/-- a 'code' word, met by the world's own term for the bytes: nothing is compared byte by byte -/
theorem code_word {y : MethodName} {bytes : ByteArray} {mx : Nat} {rt : Option FieldType} {a : Array Value} {s : State} {m : MethodId} {meth : Method} {c : Code} (h1 : s.methodNamed? y = some m) (h2 : s.vm.method? m = some meth) (h3 : meth.code = some c) (h4 : c.code = bytes)
    (h5 : (c.maxLocals == mx && c.exceptionTable.isEmpty && decide (c.maxStack ≤ mostOperands) && decide (meth.sig.returnType = rt) && !meth.locks && decide (parseMethodDescriptor y.desc = some meth.sig)) = true) : (Jvm.Cond.code y bytes mx rt).before a s = true := by
  simp only [Bool.and_eq_true, beq_iff_eq, Bool.not_eq_true', decide_eq_true_eq] at h5
  obtain ⟨⟨⟨⟨⟨g1, g2⟩, g3⟩, g4⟩, g5⟩, g6⟩ := h5
  simp [Cond.before, Cond.holds, Cond.value, h1, h2, h3, h4, g1, g2, g3, g4, g5, g6]
def isCode : Jvm.Cond → Bool
  | .code _ _ _ _ => true
  | _ => false
theorem all_split {L : List Jvm.Cond} {P : Jvm.Cond → Bool} (h1 : L.all (fun c => isCode c || P c) = true) (h2 : ∀ c ∈ L.filter isCode, P c = true) : L.all P = true := by
  refine List.all_eq_true.mpr fun c hc => ?_
  have h := List.all_eq_true.mp h1 c hc
  rcases Bool.eq_false_or_eq_true (isCode c) with hi | hi
  · exact h2 c (List.mem_filter.mpr ⟨hc, hi⟩)
  · simpa [hi] using h
set_option maxRecDepth 65536 in
theorem w_c0 : (Jvm.Cond.code x code maxLocals ret).before args0 about1 = true := code_word (m := ⟨1, 1⟩) (meth := k1m1) (c := k1c1) (by decide +kernel) rfl rfl rfl (by decide +kernel)
set_option maxRecDepth 65536 in
theorem w_c1 : (Jvm.Cond.code ({ cls := "com/example/gavelwright/gavelwright/workload/Sweep", name := "seedOf", desc := "(JII)J" } : Jvm.MethodName) prog_80_method_3_code (4 : Nat) (Option.some Jvm.ClassFile.FieldType.long)).before args0 about1 = true := code_word (m := ⟨2, 0⟩) (meth := k2m0) (c := k2c0) (by decide +kernel) rfl rfl rfl (by decide +kernel)
set_option maxRecDepth 65536 in
theorem w_c2 : (Jvm.Cond.code ({ cls := "com/example/gavelwright/gavelwright/workload/Sweep", name := "mix", desc := "(J)J" } : Jvm.MethodName) prog_80_method_4_code (2 : Nat) (Option.some Jvm.ClassFile.FieldType.long)).before args0 about1 = true := code_word (m := ⟨2, 1⟩) (meth := k2m1) (c := k2c1) (by decide +kernel) rfl rfl rfl (by decide +kernel)
set_option maxRecDepth 65536 in
theorem w_c3 : (Jvm.Cond.code ({ cls := "com/example/gavelwright/gavelwright/workload/SweepSeedOfPinLaw", name := "unmix", desc := "(J)J" } : Jvm.MethodName) method_4_code (8 : Nat) (Option.some Jvm.ClassFile.FieldType.long)).before args0 about1 = true := code_word (m := ⟨1, 3⟩) (meth := k1m3) (c := k1c3) (by decide +kernel) rfl rfl rfl (by decide +kernel)
set_option maxRecDepth 65536 in
theorem w_c4 : (Jvm.Cond.code ({ cls := "com/example/gavelwright/gavelwright/workload/SweepSeedOfPinLaw", name := "inverse", desc := "(J)J" } : Jvm.MethodName) method_3_code (4 : Nat) (Option.some Jvm.ClassFile.FieldType.long)).before args0 about1 = true := code_word (m := ⟨1, 2⟩) (meth := k1m2) (c := k1c2) (by decide +kernel) rfl rfl rfl (by decide +kernel)
def codes1 : List Jvm.Cond := [Jvm.Cond.code x code maxLocals ret, Jvm.Cond.code ({ cls := "com/example/gavelwright/gavelwright/workload/Sweep", name := "seedOf", desc := "(JII)J" } : Jvm.MethodName) prog_80_method_3_code (4 : Nat) (Option.some Jvm.ClassFile.FieldType.long), Jvm.Cond.code ({ cls := "com/example/gavelwright/gavelwright/workload/Sweep", name := "mix", desc := "(J)J" } : Jvm.MethodName) prog_80_method_4_code (2 : Nat) (Option.some Jvm.ClassFile.FieldType.long), Jvm.Cond.code ({ cls := "com/example/gavelwright/gavelwright/workload/SweepSeedOfPinLaw", name := "unmix", desc := "(J)J" } : Jvm.MethodName) method_4_code (8 : Nat) (Option.some Jvm.ClassFile.FieldType.long), Jvm.Cond.code ({ cls := "com/example/gavelwright/gavelwright/workload/SweepSeedOfPinLaw", name := "inverse", desc := "(J)J" } : Jvm.MethodName) method_3_code (4 : Nat) (Option.some Jvm.ClassFile.FieldType.long)]
set_option maxRecDepth 65536 in
theorem codes_eq : words1.filter isCode = codes1 := rfl
theorem w_codes : ∀ c ∈ words1.filter isCode, c.before args0 about1 = true := by
  rw [codes_eq]
  intro c hc
  simp only [codes1, List.mem_cons, List.not_mem_nil, or_false] at hc
  rcases hc with rfl | rfl | rfl | rfl | rfl
  · exact w_c0
  · exact w_c1
  · exact w_c2
  · exact w_c3
  · exact w_c4
set_option maxRecDepth 65536 in
theorem w_t1 : words1.all (fun c => isCode c || c.before args0 about1) = true := by decide +kernel
theorem w_tables : (allAtoms (Jvm.Cond.code x code maxLocals ret :: tables_1)).before args0 about1 = true := by
  rw [allAtoms_all]
  show words1.all (fun c => c.before args0 about1) = true
  refine all_split ?_ w_codes
  rw [w_t1]
set_option maxRecDepth 65536 in
theorem w_case : (Jvm.Cond.and given_1 narrow_1).before args0 about1 = true := by decide +kernel
theorem w_applies : (headSpec (Jvm.Cond.code x code maxLocals ret :: tables_1) room_1).applies x e0.platform about1 = true :=
  (Spec.applies_iff w_frames).mpr ⟨w_running, w_runnable, w_alone, w_named, w_hears, w_ripe, w_room, w_tables⟩
theorem atStart : AtStart classFile x code maxLocals ret World_1 tables_1 room_1 Calls_1 rest_1 Pre_1 launch0 p0 e0 about1 theMethod args0 below0 :=
  ⟨lists_1, trivial, launch0.admits_env _ _ _, launch0.least_env, fairChoices_fair.cas, fairChoices_fair.clock, w_frames, w_args, w_heap, w_applies, trivial, trivial, w_case⟩
end start1
theorem witness_1 : WitnessClaimed_1 := ⟨start1.p0, start1.e0, start1.about1, start1.theMethod, start1.args0, start1.below0, start1.atStart⟩
end Jvm.Pilot.@@N@@
