import JvmDerived
import JvmDerived.Pilot.@@N@@Statement
import JvmDerived.Pilot.@@N@@Code
set_option linter.unusedVariables false
set_option linter.unusedSimpArgs false
namespace Jvm.Pilot.@@N@@
open Jvm Jvm.ClassFile Sem Op Lib Jvm.Free Jvm.Stand Jvm.LawKit Jvm.RoadKit Bundle Jvm.Pilot.@@N@@.Jvm.D
section OwnKit
variable {p : Program} {l : Launch} {e : Env} {R : Room} {s : State} {m : MethodId} {args : Array Value} {below : List Frame} {meth : Method} {c : Code} {T : State} {locs : List Loc} {cells slots : Nat} {Z : State} {a0 : Array Value} {h : Heap} {n0 : Nat} {G : State → Outcome → Prop} {kc ks : Nat} {Q : Option Value → Heap → Prop}
/-- what is left of a walk: from U the body comes to an end of which G holds -/
def own_Go (tb : Tables) (e : Env) (below : List Frame) (G : State → Outcome → Prop) (U : State) : Prop := ∃ s₂ o, Steps tb e below U s₂ ∧ s₂.status = .running ∧ Ended s₂ below o ∧ G s₂ o
theorem own_go {tb : Tables} {U U' : State} (f : ∀ t, Steps tb e below U' t → Steps tb e below U t) (k : own_Go tb e below G U') : own_Go tb e below G U := by
  obtain ⟨a, b, c, d⟩ := k
  exact ⟨a, b, f _ c, d⟩
/-- where the run stands: its heap is h, nothing below n0 has been written -/
def own_At (p : Program) (l : Launch) (e : Env) (R : Room) (s : State) (m : MethodId) (args : Array Value) (below : List Frame) (meth : Method) (c : Code) (n0 : Nat) (T : State) (h : Heap) (cells slots : Nat) : Prop :=
  ∃ locs, Stand p l e R s m args below meth c T locs cells slots ∧ T.heap = h ∧ Fr n0 locs
theorem own_At.here (A : own_At p l e R s m args below meth c n0 T h cells slots) : At T m c below := by obtain ⟨_, X, -, -⟩ := A; exact X.here
theorem own_At.heap (A : own_At p l e R s m args below meth c n0 T h cells slots) : T.heap = h := by obtain ⟨_, -, q, -⟩ := A; exact q
/-- the end of a body: it returns v, Q holds of v and the heap -/
def own_End (n0 : Nat) (s : State) (kc ks : Nat) (Q : Option Value → Heap → Prop) : State → Outcome → Prop := fun s₂ o => ∃ v L, o = .returned v ∧ (Q v s₂.heap ∧ Fr n0 L) ∧ FrameEnd s o s₂ L kc ks
theorem own_leave (A : own_At p l e R s m args below meth c n0 T h cells slots) {v : Option Value} (hv : meth.sig.returnType = none → v = none) (hlk : meth.locks = false) (hc : cells ≤ kc) (hs : slots ≤ ks) (q : Q v h) {U : State}
    (st : ∀ locs, Stand p l e R s m args below meth c T locs cells slots → ∀ fs, (∀ (f : JFrame) (acts : List Action), f.method = m → f.locked = none → f.entered = [] → (doReturn e (T.setTop f) acts v).1 = T.setFrames fs) → Steps p.tables e below U (T.setFrames fs)) : own_Go p.tables e below (own_End n0 s kc ks Q) U := by
  obtain ⟨locs, X, rfl, N⟩ := A
  obtain ⟨fs, hr, hrun, hended, hW, hsame⟩ := X.leave hv hlk
  exact ⟨_, _, st locs X fs hr, hrun, hended, _, _, rfl, ⟨q, N⟩, ⟨_, rfl⟩, hW, hsame.mono hc hs⟩
theorem own_retI (A : own_At p l e R s m args below meth c n0 T h cells slots) (hx : p.tables.exec = Jvm.exec) (hret : meth.sig.returnType = some .int) (hlk : meth.locks = false) (hc : cells ≤ kc) (hs : slots ≤ ks) {pc : Nat} {Ls : Array Slot} {z : Int32} {rest : List Value} (hd : decode c.code pc = .ok (.ireturn, 1)) (q : Q (some (.int z)) h) :
    own_Go p.tables e below (own_End n0 s kc ks Q) (T.setTop (mkF m pc Ls (.int z :: rest))) :=
  own_leave A (fun q => by rw [hret] at q; cases q) hlk hc hs q fun _ X _ hr => retOut X hx hret rfl (Or.inl ⟨rfl, Or.inl rfl, _, rfl⟩) hd hr
theorem own_retN (A : own_At p l e R s m args below meth c n0 T h cells slots) (hx : p.tables.exec = Jvm.exec) {t : FieldType} (hret : meth.sig.returnType = some t) (ht : t = .boolean ∨ t = .byte ∨ t = .char ∨ t = .short) (hlk : meth.locks = false) (hc : cells ≤ kc) (hs : slots ≤ ks) {pc : Nat} {Ls : Array Slot} {z : Int32} {rest : List Value} (hd : decode c.code pc = .ok (.ireturn, 1)) (q : Q (some (.int (nar t z))) h) :
    own_Go p.tables e below (own_End n0 s kc ks Q) (T.setTop (mkF m pc Ls (.int z :: rest))) :=
  own_leave A (fun q => by rw [hret] at q; cases q) hlk hc hs q fun _ X _ hr => retN X hx hret ht hd hr
theorem own_retJ (A : own_At p l e R s m args below meth c n0 T h cells slots) (hx : p.tables.exec = Jvm.exec) (hret : meth.sig.returnType = some .long) (hlk : meth.locks = false) (hc : cells ≤ kc) (hs : slots ≤ ks) {pc : Nat} {Ls : Array Slot} {z : Int64} {rest : List Value} (hd : decode c.code pc = .ok (.lreturn, 1)) (q : Q (some (.long z)) h) :
    own_Go p.tables e below (own_End n0 s kc ks Q) (T.setTop (mkF m pc Ls (.long z :: rest))) :=
  own_leave A (fun q => by rw [hret] at q; cases q) hlk hc hs q fun _ X _ hr => retOut X hx hret rfl (Or.inr (Or.inl ⟨rfl, rfl, _, rfl⟩)) hd hr
theorem own_retD (A : own_At p l e R s m args below meth c n0 T h cells slots) (hx : p.tables.exec = Jvm.exec) (hret : meth.sig.returnType = some .double) (hlk : meth.locks = false) (hc : cells ≤ kc) (hs : slots ≤ ks) {pc : Nat} {Ls : Array Slot} {z : UInt64} {rest : List Value} (hd : decode c.code pc = .ok (.dreturn, 1)) (q : Q (some (.double z)) h) :
    own_Go p.tables e below (own_End n0 s kc ks Q) (T.setTop (mkF m pc Ls (.double z :: rest))) :=
  own_leave A (fun q => by rw [hret] at q; cases q) hlk hc hs q fun _ X _ hr => retOut X hx hret rfl (Or.inr (Or.inr (Or.inl ⟨rfl, rfl, _, rfl⟩))) hd hr
theorem own_retA (A : own_At p l e R s m args below meth c n0 T h cells slots) (hx : p.tables.exec = Jvm.exec) {t : FieldType} (hret : meth.sig.returnType = some t) (ht : t.isReference = true) (hlk : meth.locks = false) (hc : cells ≤ kc) (hs : slots ≤ ks) {pc : Nat} {Ls : Array Slot} {w : Value} (hw : w.isRef = true) {rest : List Value} (hd : decode c.code pc = .ok (.areturn, 1)) (q : Q (some w) h) :
    own_Go p.tables e below (own_End n0 s kc ks Q) (T.setTop (mkF m pc Ls (w :: rest))) :=
  own_leave A (fun q => by rw [hret] at q; cases q) hlk hc hs q fun _ X _ hr => retOut X hx hret (by cases t <;> first | rfl | cases ht) (Or.inr (Or.inr (Or.inr (Or.inr ⟨rfl, ht, hw⟩)))) hd hr
theorem own_retV (A : own_At p l e R s m args below meth c n0 T h cells slots) (hx : p.tables.exec = Jvm.exec) (hret : meth.sig.returnType = none) (hlk : meth.locks = false) (hc : cells ≤ kc) (hs : slots ≤ ks) {pc : Nat} {Ls : Array Slot} (hd : decode c.code pc = .ok (.return_, 1)) (q : Q none h) :
    own_Go p.tables e below (own_End n0 s kc ks Q) (T.setTop (mkF m pc Ls [])) :=
  own_leave A (fun _ => rfl) hlk hc hs q fun _ X _ hr => X.returnOut hx hret hd hr
/-- a body's contract: called with as' at the heap h0 it returns, and Q holds of what it returns and of the heap -/
def own_Met (l : Launch) (Z : State) (n0 : Nat) (y : MethodName) (bytes : ByteArray) (maxL : Nat) (ret : Option FieldType) (rm : Room) (as' : Array Value) (h0 : Heap) (Q : Option Value → Heap → Prop) : Prop :=
  ∀ ws, MetFree l y (head1 (Cond.code y bytes maxL ret :: ws) rm) (fun a U => a = as' ∧ Z.Warmed39 U.vm ∧ U.heap = h0) (fun _ _ _ _ _ => True) (fun _ U o U' => ∃ v L, o = .returned v ∧ (Q v U'.heap ∧ Fr n0 L) ∧ FrameEnd U o U' L rm.cells rm.slots)
theorem own_met {y : MethodName} {bytes : ByteArray} {maxL : Nat} {ret : Option FieldType} {rm : Room} {as' : Array Value} {h0 : Heap} (hp : plainFor y = true)
    (body : ∀ (p : Program) (e : Env) (s : State) (m : MethodId) (below : List Frame) (meth : Method) (c : Code) (T : State), p.tables.exec = Jvm.exec → c.code = bytes → c.maxLocals = maxL → s.vm.findClass y.cls = some m.cls → meth.name = y.name → meth.sig.returnType = ret → meth.locks = false → Z.Warmed39 s.vm →
      own_At p l e rm s m as' below meth c n0 T h0 0 0 → own_Go p.tables e below (own_End n0 s rm.cells rm.slots Q) (T.setTop (entryFrame m as' maxL))) : own_Met l Z n0 y bytes maxL ret rm as' h0 Q := by
  intro ws
  refine MetFree.of_bodySF hp hisR ?_
  intro p e s m args below meth c s₁ Bd hml0 hP hK
  obtain ⟨rfl, hZ, hh⟩ := hP
  exact body p e s m below meth c s₁ Bd.exec Bd.bytes hml0 (findClass_of_methodNamed Bd.named) (name_of_methodNamed Bd.named Bd.method).1 Bd.returns Bd.notSynchronized hZ ⟨[], Stand.of_body Bd, by rw [← hh, Bd.state]; rfl, Fr.nil n0⟩
theorem own_callS (A : own_At p l e R s m args below meth c n0 T h cells slots) (hx : p.tables.exec = Jvm.exec) (hZ : Z.Warmed39 s.vm) {own : String} {index : Nat} {y : MethodName} {bytes : ByteArray} {maxL : Nat} {ret : Option FieldType} (hown : s.vm.findClass own = some m.cls)
    (w1 : (Cond.methodLink own index y).before a0 Z = true) (w2 : (Cond.static y).before a0 Z = true) (w3 : (Cond.initialized y.cls).before a0 Z = true) (w4 : (Cond.code y bytes maxL ret).before a0 Z = true) (hy : y.cls ≠ "java/lang/invoke/MethodHandle" ∧ y.cls ≠ "java/lang/invoke/VarHandle")
    {rm : Room} {argsL rest : List Value} (hM : own_Met l Z n0 y bytes maxL ret rm argsL.toArray h Q) (W : Nat) (hfr : rm.frames + 1 ≤ R.frames) (hlo : W + (maxL + 11) + rm.locals ≤ R.locals) {g : JFrame} (hg : g.method = m) (hsize : g.locals.size = c.maxLocals)
    (hlen : ∀ sig, parseMethodDescriptor y.desc = some sig → argsL.length = sig.parameters.length) (hs : g.stack = argsL.reverse ++ rest) (hW : 2 * g.monitorRoom + (rest.map fun v => v.category).sum ≤ W) (hd : decode c.code g.pc = .ok (.invokestatic index, 3))
    (hc : cells + rm.cells ≤ R.cells) (hl : slots + rm.slots ≤ R.slots)
    (k : ∀ v T' h', own_At p l e R s m args below meth c n0 T' h' (cells + rm.cells) (slots + rm.slots) → Q v h' → own_Go p.tables e below G (T'.setTop { g with pc := g.pc + 3, stack := v.toList ++ rest })) : own_Go p.tables e below G (T.setTop g) := by
  obtain ⟨locs, X, eT, N⟩ := A
  obtain ⟨v, _, ⟨T1, L1, k1, s1⟩, -, X1, ⟨Lc, ⟨hQ, N1⟩, l1, y1, z1⟩, st⟩ := Jvm.LawKit.callS X hx (y := y) hown (mvT hZ w1) (mvT hZ w2) (mvT hZ w3) (mvT hZ w4) hy (backOf (Q := fun v h L => Q v h ∧ Fr n0 L) (W := W) (hM []) hZ w4 w3 hfr hlo) hg hsize (argsL := argsL) (rest := rest) hlen hs hW hd (fun _ _ => ⟨rfl, eT, hc, hl⟩)
  dsimp only [Pt.U, Pt.locs, Pt.cells, Pt.slots] at X1 l1 y1 z1 st hQ
  subst l1 y1 z1
  exact own_go (fun t k => st t k) (k v T1 T1.heap ⟨_, X1, rfl, N.app N1⟩ hQ)
theorem own_callV (A : own_At p l e R s m args below meth c n0 T h cells slots) (hx : p.tables.exec = Jvm.exec) (hZ : Z.Warmed39 s.vm) {own C : String} {index : Nat} {y z : MethodName} {bytes : ByteArray} {maxL : Nat} {ret : Option FieldType} (hown : s.vm.findClass own = some m.cls)
    (w1 : (Cond.methodLink own index y).before a0 Z = true) (w2 : (Cond.declares y).before a0 Z = true) (w3 : (Cond.selects C y z).before a0 Z = true) (w4 : (Cond.instanceMethod z).before a0 Z = true) (w5 : (Cond.initialized z.cls).before a0 Z = true) (w6 : (Cond.code z bytes maxL ret).before a0 Z = true) (nf : NotFace s y)
    (hy : y.cls ≠ "java/lang/invoke/MethodHandle" ∧ y.cls ≠ "java/lang/invoke/VarHandle")
    {rm : Room} {b : Addr} {argsL rest : List Value} (E : Exa Z h b C) (hM : own_Met l Z n0 z bytes maxL ret rm (.ref b :: argsL).toArray h Q) (W : Nat) (hfr : rm.frames + 1 ≤ R.frames) (hlo : W + (maxL + 11) + rm.locals ≤ R.locals) {g : JFrame} (hg : g.method = m) (hsize : g.locals.size = c.maxLocals)
    (hlen : ∀ sig, parseMethodDescriptor y.desc = some sig → argsL.length = sig.parameters.length) (hs : g.stack = argsL.reverse ++ .ref b :: rest) (hW : 2 * g.monitorRoom + (rest.map fun v => v.category).sum ≤ W) (hd : decode c.code g.pc = .ok (.invokevirtual index, 3))
    (hc : cells + rm.cells ≤ R.cells) (hl : slots + rm.slots ≤ R.slots)
    (k : ∀ v T' h', own_At p l e R s m args below meth c n0 T' h' (cells + rm.cells) (slots + rm.slots) → Q v h' → own_Go p.tables e below G (T'.setTop { g with pc := g.pc + 3, stack := v.toList ++ rest })) : own_Go p.tables e below G (T.setTop g) := by
  obtain ⟨locs, X, eT, N⟩ := A
  obtain ⟨cq, kq, qa, qb, qc⟩ := isOf hZ eT E
  obtain ⟨v, _, ⟨T1, L1, k1, s1⟩, -, X1, ⟨Lc, ⟨hQ, N1⟩, l1, y1, z1⟩, st⟩ := X.virtualBack hx (y := y) (z := z) hown (mvT hZ w1) (mvT hZ w2) nf (mvT hZ w3) (mvT hZ w4) hy (backOf (Q := fun v h L => Q v h ∧ Fr n0 L) (W := W) (hM []) hZ w6 w5 hfr hlo) qa qc hg hsize (Steps.refl _) (argsL := argsL) (rest := rest) hlen hs hW hd (fun _ _ => ⟨rfl, eT, hc, hl⟩)
  dsimp only [Pt.U, Pt.locs, Pt.cells, Pt.slots] at X1 l1 y1 z1 st hQ
  subst l1 y1 z1
  exact own_go (fun t k => st.trans k) (k v T1 T1.heap ⟨_, X1, rfl, N.app N1⟩ hQ)
theorem own_callI (A : own_At p l e R s m args below meth c n0 T h cells slots) (hx : p.tables.exec = Jvm.exec) (hZ : Z.Warmed39 s.vm) {own : String} {index : Nat} {y : MethodName} (hy1 : y.name = "<init>") {bytes : ByteArray} {maxL : Nat} (hown : s.vm.findClass own = some m.cls)
    (w1 : (Cond.methodLink own index y).before a0 Z = true) (w4 : (Cond.instanceMethod y).before a0 Z = true) (w5 : (Cond.initialized y.cls).before a0 Z = true) (w6 : (Cond.code y bytes maxL none).before a0 Z = true)
    (hy : y.cls ≠ "java/lang/invoke/MethodHandle" ∧ y.cls ≠ "java/lang/invoke/VarHandle")
    {rm : Room} {b : Addr} {argsL rest : List Value} (hM : own_Met l Z n0 y bytes maxL none rm (.ref b :: argsL).toArray h Q) (W : Nat) (hfr : rm.frames + 1 ≤ R.frames) (hlo : W + (maxL + 11) + rm.locals ≤ R.locals) {g : JFrame} (hg : g.method = m) (hsize : g.locals.size = c.maxLocals)
    (hlen : ∀ sig, parseMethodDescriptor y.desc = some sig → argsL.length = sig.parameters.length) (hs : g.stack = argsL.reverse ++ .ref b :: rest) (hW : 2 * g.monitorRoom + (rest.map fun v => v.category).sum ≤ W) (hd : decode c.code g.pc = .ok (.invokespecial index, 3))
    (hc : cells + rm.cells ≤ R.cells) (hl : slots + rm.slots ≤ R.slots)
    (k : ∀ v T' h', own_At p l e R s m args below meth c n0 T' h' (cells + rm.cells) (slots + rm.slots) → Q v h' → own_Go p.tables e below G (T'.setTop { g with pc := g.pc + 3, stack := v.toList ++ rest })) : own_Go p.tables e below G (T.setTop g) := by
  obtain ⟨locs, X, eT, N⟩ := A
  obtain ⟨v, _, ⟨T1, L1, k1, s1⟩, -, X1, ⟨Lc, ⟨hQ, N1⟩, l1, y1, z1⟩, st⟩ := X.specialBack hx (y := y) hy1 hown (mvT hZ w1) (mvT hZ w4) (mvT hZ w6) hy (backOf (Q := fun v h L => Q v h ∧ Fr n0 L) (W := W) (hM []) hZ w6 w5 hfr hlo) hg hsize (Steps.refl _) (a := b) (argsL := argsL) (rest := rest) hlen hs hW hd (fun _ _ => ⟨rfl, eT, hc, hl⟩)
  dsimp only [Pt.U, Pt.locs, Pt.cells, Pt.slots] at X1 l1 y1 z1 st hQ
  subst l1 y1 z1
  exact own_go (fun t k => st.trans k) (k v T1 T1.heap ⟨_, X1, rfl, N.app N1⟩ hQ)
theorem own_initO (A : own_At p l e R s m args below meth c n0 T h cells slots) (hx : p.tables.exec = Jvm.exec) (hZ : Z.Warmed39 s.vm) {own : String} {idx : Nat} (hown : s.vm.findClass own = some m.cls) (w1 : (Cond.methodLink own idx Lib.objectInit).before a0 Z = true) (w2 : (Cond.instanceMethod Lib.objectInit).before a0 Z = true)
    (w3 : (Cond.code Lib.objectInit ⟨#[0xb1]⟩ 1 none).before a0 Z = true) {g : JFrame} (hg : g.method = m) (hsize : g.locals.size = c.maxLocals) {a : Addr} {rest : List Value} (hs : g.stack = .ref a :: rest) (hd : decode c.code g.pc = .ok (.invokespecial idx, 3))
    (hf : 1 ≤ R.frames) (W : Nat) (hW : 2 * g.monitorRoom + (rest.map fun v => v.category).sum ≤ W) (hl : W + 12 ≤ R.locals)
    (k : ∀ T', own_At p l e R s m args below meth c n0 T' h cells slots → own_Go p.tables e below G (T'.setTop { g with pc := g.pc + 3, stack := rest })) : own_Go p.tables e below G (T.setTop g) := by
  obtain ⟨locs, X, eT, N⟩ := A
  obtain ⟨T1, X1, e1, st⟩ := initO X hx hZ hown w1 w2 w3 eT hg hsize hs hd hf hW hl
  exact own_go st (k T1 ⟨_, X1, e1, N⟩)
theorem own_getF (A : own_At p l e R s m args below meth c n0 T h cells slots) (hx : p.tables.exec = Jvm.exec) (hZ : Z.Warmed39 s.vm) {own R0 O n d host : String} {index : Nat} (hown : s.vm.findClass own = some m.cls) (w : (Cond.fieldLink own index R0 n d).before a0 Z = true ∨ (Cond.fieldLinkNest own index R0 n d host).before a0 Z = true) (via : Via Z R0 O n d)
    {a : Addr} {v : Value} (F : Fld Z h a O n d v) {g : JFrame} (hg : g.method = m) {rest : List Value} (hs : g.stack = .ref a :: rest) (hd : decode c.code g.pc = .ok (.getfield index, 3))
    (k : ∀ T', own_At p l e R s m args below meth c n0 T' h cells slots → own_Go p.tables e below G (T'.setTop { g with pc := g.pc + 3, stack := v :: rest })) : own_Go p.tables e below G (T.setTop g) := by
  obtain ⟨locs, X, eT, N⟩ := A
  obtain ⟨T1, X1, e1, st⟩ := getF X hx hZ hown w via eT F hg hs hd
  exact own_go st (k T1 ⟨_, X1, e1, N⟩)
theorem own_getS (A : own_At p l e R s m args below meth c n0 T h cells slots) (hx : p.tables.exec = Jvm.exec) (hZ : Z.Warmed39 s.vm) {own R0 O n d host : String} {index : Nat} (hown : s.vm.findClass own = some m.cls) (w : (Cond.fieldLink own index R0 n d).before a0 Z = true ∨ (Cond.fieldLinkNest own index R0 n d host).before a0 Z = true) (via : Via Z R0 O n d)
    {v : Value} (F : Sta Z h O n d v) {g : JFrame} (hg : g.method = m) (hd : decode c.code g.pc = .ok (.getstatic index, 3))
    (k : ∀ T', own_At p l e R s m args below meth c n0 T' h cells slots → own_Go p.tables e below G (T'.setTop { g with pc := g.pc + 3, stack := v :: g.stack })) : own_Go p.tables e below G (T.setTop g) := by
  obtain ⟨locs, X, eT, N⟩ := A
  obtain ⟨T1, X1, e1, st⟩ := getS2 X hx hZ hown w via eT F hg hd
  exact own_go st (k T1 ⟨_, X1, e1, N⟩)
theorem own_ldcI (A : own_At p l e R s m args below meth c n0 T h cells slots) (hx : p.tables.exec = Jvm.exec) (hZ : Z.Warmed39 s.vm) {own : String} {index : Nat} {v : Int32} (hown : s.vm.findClass own = some m.cls) (w : (Cond.constant own index v).before a0 Z = true) {g : JFrame} (hg : g.method = m) (hd : decode c.code g.pc = .ok (.ldc index, 2))
    (k : own_Go p.tables e below G (T.setTop { g with pc := g.pc + 2, stack := .int v :: g.stack })) : own_Go p.tables e below G (T.setTop g) := by
  obtain ⟨locs, X, eT, N⟩ := A
  exact own_go (X.ldcInt hx hown (mvT hZ w) hg hd) k
theorem own_ldcwI (A : own_At p l e R s m args below meth c n0 T h cells slots) (hx : p.tables.exec = Jvm.exec) (hZ : Z.Warmed39 s.vm) {own : String} {index : Nat} {v : Int32} (hown : s.vm.findClass own = some m.cls) (w : (Cond.constant own index v).before a0 Z = true) {g : JFrame} (hg : g.method = m) (hd : decode c.code g.pc = .ok (.ldc_w index, 3))
    (k : own_Go p.tables e below G (T.setTop { g with pc := g.pc + 3, stack := .int v :: g.stack })) : own_Go p.tables e below G (T.setTop g) := by
  obtain ⟨locs, X, eT, N⟩ := A
  exact own_go (X.ldcwInt hx hown (mvT hZ w) hg hd) k
theorem own_ldcJ (A : own_At p l e R s m args below meth c n0 T h cells slots) (hx : p.tables.exec = Jvm.exec) (hZ : Z.Warmed39 s.vm) {own : String} {index : Nat} {v : Int64} (hown : s.vm.findClass own = some m.cls) (w : (Cond.constantLong own index v).before a0 Z = true) {g : JFrame} (hg : g.method = m) (hd : decode c.code g.pc = .ok (.ldc2_w index, 3))
    (k : own_Go p.tables e below G (T.setTop { g with pc := g.pc + 3, stack := .long v :: g.stack })) : own_Go p.tables e below G (T.setTop g) := by
  obtain ⟨locs, X, eT, N⟩ := A
  exact own_go (X.ldc2Long hx hown (mvT hZ w) hg hd) k
/-- irem, with Java's sign -/
theorem own_irem {tb : Tables} [Ours tb] {target : State} {g : JFrame} (hh : At T m c below) (hx : tb.exec = Jvm.exec) (hg : g.method = m) {x y : Int32} {rest : List Value} (hd : decode c.code g.pc = .ok (.irem, 1)) (hs : g.stack = .int y :: .int x :: rest) (hy : y ≠ 0)
    (hr : Steps tb e below (T.setTop { g with pc := g.pc + 1, stack := .int (x % y) :: rest }) target) : Steps tb e below (T.setTop g) target :=
  XS.irem hh hx hg hd hs hy (by rw [irem_eq_mod]; exact hr)
theorem own_lrem {tb : Tables} [Ours tb] {target : State} {g : JFrame} (hh : At T m c below) (hx : tb.exec = Jvm.exec) (hg : g.method = m) {x y : Int64} {rest : List Value} (hd : decode c.code g.pc = .ok (.lrem, 1)) (hs : g.stack = .long y :: .long x :: rest) (hy : y ≠ 0)
    (hr : Steps tb e below (T.setTop { g with pc := g.pc + 1, stack := .long (x % y) :: rest }) target) : Steps tb e below (T.setTop g) target :=
  XS.lrem hh hx hg hd hs hy (by rw [lrem_mod]; exact hr)
theorem own_aeq {a b : Addr} (h : a = b) : if_acmp.holds .eq (some a) (some b) = true ∧ if_acmp.holds .ne (some a) (some b) = false := by simp [if_acmp.holds, h]
theorem own_ane {a b : Addr} (h : ¬ a = b) : if_acmp.holds .eq (some a) (some b) = false ∧ if_acmp.holds .ne (some a) (some b) = true := by simp [if_acmp.holds, h]
end OwnKit
theorem ef_2 (m : MethodId) (p0 : Int32) : entryFrame m #[(.int p0)] 1 = mkF m 0 #[.val (.int p0)] [] := by first | (simp [entryFrame, mkF, argsToLocals, Value.category]; done) | rfl
theorem pn_2 : plainName "com/example/rublewire/rublewire/fin/CharacterSet" = true := by first | (simp [plainName, overriddenIn]; done) | decide +kernel
theorem d2_0 : decode prog_8_method_7_code 0 = .ok (.iload_n 0, 1) := by decide +kernel
theorem d2_1 : decode prog_8_method_7_code 1 = .ok (.bipush 65, 2) := by decide +kernel
theorem d2_3 : decode prog_8_method_7_code 3 = .ok (.if_icmp .lt 9, 3) := by decide +kernel
theorem d2_12 : decode prog_8_method_7_code 12 = .ok (.iload_n 0, 1) := by decide +kernel
theorem d2_13 : decode prog_8_method_7_code 13 = .ok (.bipush 97, 2) := by decide +kernel
theorem d2_15 : decode prog_8_method_7_code 15 = .ok (.if_icmp .lt 13, 3) := by decide +kernel
theorem d2_28 : decode prog_8_method_7_code 28 = .ok (.iconst 0, 1) := by decide +kernel
theorem d2_18 : decode prog_8_method_7_code 18 = .ok (.iload_n 0, 1) := by decide +kernel
theorem d2_19 : decode prog_8_method_7_code 19 = .ok (.bipush 122, 2) := by decide +kernel
theorem d2_21 : decode prog_8_method_7_code 21 = .ok (.if_icmp .gt 7, 3) := by decide +kernel
theorem d2_24 : decode prog_8_method_7_code 24 = .ok (.iconst 1, 1) := by decide +kernel
theorem d2_25 : decode prog_8_method_7_code 25 = .ok (.goto 4, 3) := by decide +kernel
theorem d2_6 : decode prog_8_method_7_code 6 = .ok (.iload_n 0, 1) := by decide +kernel
theorem d2_7 : decode prog_8_method_7_code 7 = .ok (.bipush 90, 2) := by decide +kernel
theorem d2_9 : decode prog_8_method_7_code 9 = .ok (.if_icmp .le 15, 3) := by decide +kernel
theorem d2_29 : decode prog_8_method_7_code 29 = .ok (.ireturn, 1) := by decide +kernel
def f2 (p0 : Int32) : Int32 := (nar .boolean (if p0 < (65 : Int32) then (if p0 < (97 : Int32) then (0 : Int32) else (if (122 : Int32) < p0 then (0 : Int32) else (1 : Int32))) else (if (90 : Int32) < p0 then (if p0 < (97 : Int32) then (0 : Int32) else (if (122 : Int32) < p0 then (0 : Int32) else (1 : Int32))) else (1 : Int32))))
set_option maxRecDepth 65536 in
set_option maxHeartbeats 40000000 in
theorem rm2 (l : Launch) (Z : State) (a0 : Array Value) (hw : ∀ d ∈ tables_1, d.before a0 Z = true) (p0 : Int32) (h0 : Heap) (n0 : Nat) :
    own_Met l Z n0 (⟨"com/example/rublewire/rublewire/fin/CharacterSet", "isLatinLetter", "(I)Z"⟩ : MethodName) prog_8_method_7_code 1 (some .boolean) ({ frames := 0, cells := 0, slots := 0, locals := 0 } : Room) #[(.int p0)] h0 (fun v h => v = some (.int (f2 p0)) ∧ h0 = h) := by
  refine own_met (plainFor_of_name pn_2) ?_
  intro p e s m below meth c T0 hx hby hml hown hnm hret hlk hZ A0
  rw [ef_2]
  show own_Go _ _ _ _ (T0.setTop (mkF m 0 #[.val (.int p0)] []))
  refine own_go (fun t k => XS.iloadN A0.here hx rfl (hb hby d2_0) rfl k) ?_
  show own_Go _ _ _ _ (T0.setTop (mkF m 1 #[.val (.int p0)] [(.int p0)]))
  refine own_go (fun t k => XS.bipush A0.here hx rfl (hb hby d2_1) k) ?_
  show own_Go _ _ _ _ (T0.setTop (mkF m 3 #[.val (.int p0)] [(.int (65 : Int32)), (.int p0)]))
  have mg1 : ∀ t, Steps p.tables e below (T0.setTop (mkF m 29 #[.val (.int p0)] [(.int (if p0 < (65 : Int32) then (if p0 < (97 : Int32) then (0 : Int32) else (if (122 : Int32) < p0 then (0 : Int32) else (1 : Int32))) else (if (90 : Int32) < p0 then (if p0 < (97 : Int32) then (0 : Int32) else (if (122 : Int32) < p0 then (0 : Int32) else (1 : Int32))) else (1 : Int32))))])) t → Steps p.tables e below (T0.setTop (mkF m 3 #[.val (.int p0)] [(.int (65 : Int32)), (.int p0)])) t := by
    intro t k
    by_cases hm3_0 : p0 < (65 : Int32)
    ·
      refine XS.icmpYes A0.here hx rfl (pc0 := 3) (pc' := 12) rfl (hb hby d2_3) rfl (tlt hm3_0).1 (by decide) (by decide) (XS.iloadN A0.here hx rfl (hb hby d2_12) rfl (XS.bipush A0.here hx rfl (hb hby d2_13) ?_))
      by_cases hm15_1 : p0 < (97 : Int32)
      ·
        simp only [if_pos hm3_0, if_pos hm15_1] at k
        exact (XS.icmpYes A0.here hx rfl (pc0 := 15) (pc' := 28) rfl (hb hby d2_15) rfl (tlt hm15_1).1 (by decide) (by decide) (XS.iconst A0.here hx rfl (hb hby d2_28) k))
      ·
        refine XS.icmpNo A0.here hx rfl (hb hby d2_15) rfl (flt hm15_1).1 (XS.iloadN A0.here hx rfl (hb hby d2_18) rfl (XS.bipush A0.here hx rfl (hb hby d2_19) ?_))
        by_cases hm21_2 : (122 : Int32) < p0
        ·
          simp only [if_pos hm3_0, if_neg hm15_1, if_pos hm21_2] at k
          exact (XS.icmpYes A0.here hx rfl (pc0 := 21) (pc' := 28) rfl (hb hby d2_21) rfl (tlt hm21_2).2.2.1 (by decide) (by decide) (XS.iconst A0.here hx rfl (hb hby d2_28) k))
        ·
          simp only [if_pos hm3_0, if_neg hm15_1, if_neg hm21_2] at k
          exact (XS.icmpNo A0.here hx rfl (hb hby d2_21) rfl (flt hm21_2).2.2.1 (XS.iconst A0.here hx rfl (hb hby d2_24) (XS.goto A0.here hx rfl (pc0 := 25) (pc' := 29) rfl (hb hby d2_25) (by decide) (by decide) k)))
    ·
      refine XS.icmpNo A0.here hx rfl (hb hby d2_3) rfl (flt hm3_0).1 (XS.iloadN A0.here hx rfl (hb hby d2_6) rfl (XS.bipush A0.here hx rfl (hb hby d2_7) ?_))
      by_cases hm9_1 : (90 : Int32) < p0
      ·
        refine XS.icmpNo A0.here hx rfl (hb hby d2_9) rfl (tlt hm9_1).2.2.2 (XS.iloadN A0.here hx rfl (hb hby d2_12) rfl (XS.bipush A0.here hx rfl (hb hby d2_13) ?_))
        by_cases hm15_2 : p0 < (97 : Int32)
        ·
          simp only [if_neg hm3_0, if_pos hm9_1, if_pos hm15_2] at k
          exact (XS.icmpYes A0.here hx rfl (pc0 := 15) (pc' := 28) rfl (hb hby d2_15) rfl (tlt hm15_2).1 (by decide) (by decide) (XS.iconst A0.here hx rfl (hb hby d2_28) k))
        ·
          refine XS.icmpNo A0.here hx rfl (hb hby d2_15) rfl (flt hm15_2).1 (XS.iloadN A0.here hx rfl (hb hby d2_18) rfl (XS.bipush A0.here hx rfl (hb hby d2_19) ?_))
          by_cases hm21_3 : (122 : Int32) < p0
          ·
            simp only [if_neg hm3_0, if_pos hm9_1, if_neg hm15_2, if_pos hm21_3] at k
            exact (XS.icmpYes A0.here hx rfl (pc0 := 21) (pc' := 28) rfl (hb hby d2_21) rfl (tlt hm21_3).2.2.1 (by decide) (by decide) (XS.iconst A0.here hx rfl (hb hby d2_28) k))
          ·
            simp only [if_neg hm3_0, if_pos hm9_1, if_neg hm15_2, if_neg hm21_3] at k
            exact (XS.icmpNo A0.here hx rfl (hb hby d2_21) rfl (flt hm21_3).2.2.1 (XS.iconst A0.here hx rfl (hb hby d2_24) (XS.goto A0.here hx rfl (pc0 := 25) (pc' := 29) rfl (hb hby d2_25) (by decide) (by decide) k)))
      ·
        simp only [if_neg hm3_0, if_neg hm9_1] at k
        exact (XS.icmpYes A0.here hx rfl (pc0 := 9) (pc' := 24) rfl (hb hby d2_9) rfl (flt hm9_1).2.2.2 (by decide) (by decide) (XS.iconst A0.here hx rfl (hb hby d2_24) (XS.goto A0.here hx rfl (pc0 := 25) (pc' := 29) rfl (hb hby d2_25) (by decide) (by decide) k)))
  refine own_go mg1 ?_
  show own_Go _ _ _ _ (T0.setTop (mkF m 29 #[.val (.int p0)] [(.int (if p0 < (65 : Int32) then (if p0 < (97 : Int32) then (0 : Int32) else (if (122 : Int32) < p0 then (0 : Int32) else (1 : Int32))) else (if (90 : Int32) < p0 then (if p0 < (97 : Int32) then (0 : Int32) else (if (122 : Int32) < p0 then (0 : Int32) else (1 : Int32))) else (1 : Int32))))]))
  generalize hx2 : (if p0 < (65 : Int32) then (if p0 < (97 : Int32) then (0 : Int32) else (if (122 : Int32) < p0 then (0 : Int32) else (1 : Int32))) else (if (90 : Int32) < p0 then (if p0 < (97 : Int32) then (0 : Int32) else (if (122 : Int32) < p0 then (0 : Int32) else (1 : Int32))) else (1 : Int32))) = x2
  show own_Go _ _ _ _ (T0.setTop (mkF m 29 #[.val (.int p0)] [(.int x2)]))
  refine own_retN A0 hx (t := .boolean) hret (by simp) hlk (by decide) (by decide) (hb hby d2_29) ?_
  subst hx2
  exact ⟨rfl, rfl⟩
theorem ef_1 (m : MethodId) (p0 : Int32) : entryFrame m #[(.int p0)] 3 = mkF m 0 #[.val (.int p0), .unset, .unset] [] := by first | (simp [entryFrame, mkF, argsToLocals, Value.category]; done) | rfl
theorem pn_1 : plainName "com/example/rublewire/rublewire/fin/CharacterSetIsLatinLetterPinLaw" = true := by first | (simp [plainName, overriddenIn]; done) | decide +kernel
theorem d1_0 : decode method_3_code 0 = .ok (.iload_n 0, 1) := by decide +kernel
theorem d1_1 : decode method_3_code 1 = .ok (.bipush 32, 2) := by decide +kernel
theorem d1_3 : decode method_3_code 3 = .ok (.ior, 1) := by decide +kernel
theorem d1_4 : decode method_3_code 4 = .ok (.istore_n 1, 1) := by decide +kernel
theorem d1_5 : decode method_3_code 5 = .ok (.iload_n 1, 1) := by decide +kernel
theorem d1_6 : decode method_3_code 6 = .ok (.bipush 97, 2) := by decide +kernel
theorem d1_8 : decode method_3_code 8 = .ok (.if_icmp .lt 13, 3) := by decide +kernel
theorem d1_21 : decode method_3_code 21 = .ok (.iconst 0, 1) := by decide +kernel
theorem d1_11 : decode method_3_code 11 = .ok (.iload_n 1, 1) := by decide +kernel
theorem d1_12 : decode method_3_code 12 = .ok (.bipush 122, 2) := by decide +kernel
theorem d1_14 : decode method_3_code 14 = .ok (.if_icmp .gt 7, 3) := by decide +kernel
theorem d1_17 : decode method_3_code 17 = .ok (.iconst 1, 1) := by decide +kernel
theorem d1_18 : decode method_3_code 18 = .ok (.goto 4, 3) := by decide +kernel
theorem d1_22 : decode method_3_code 22 = .ok (.istore_n 2, 1) := by decide +kernel
theorem d1_23 : decode method_3_code 23 = .ok (.iload_n 0, 1) := by decide +kernel
theorem d1_24 : decode method_3_code 24 = .ok (.invokestatic 13, 3) := by decide +kernel
theorem pd__I_Z : parseMethodDescriptor "(I)Z" = some ⟨[.int], some .boolean⟩ := by decide +kernel
theorem d1_27 : decode method_3_code 27 = .ok (.iload_n 2, 1) := by decide +kernel
theorem d1_28 : decode method_3_code 28 = .ok (.if_icmp .ne 7, 3) := by decide +kernel
theorem d1_31 : decode method_3_code 31 = .ok (.iconst 1, 1) := by decide +kernel
theorem d1_32 : decode method_3_code 32 = .ok (.goto 4, 3) := by decide +kernel
theorem d1_35 : decode method_3_code 35 = .ok (.iconst 0, 1) := by decide +kernel
theorem d1_36 : decode method_3_code 36 = .ok (.ireturn, 1) := by decide +kernel
def f1 (p0 : Int32) : Int32 := (nar .boolean (if (f2 p0) = (if (p0 ||| (32 : Int32)) < (97 : Int32) then (0 : Int32) else (if (122 : Int32) < (p0 ||| (32 : Int32)) then (0 : Int32) else (1 : Int32))) then (1 : Int32) else (0 : Int32)))
set_option maxRecDepth 65536 in
set_option maxHeartbeats 40000000 in
theorem rm1 (l : Launch) (Z : State) (a0 : Array Value) (hw : ∀ d ∈ tables_1, d.before a0 Z = true) (p0 : Int32) (h0 : Heap) (n0 : Nat) :
    own_Met l Z n0 (⟨"com/example/rublewire/rublewire/fin/CharacterSetIsLatinLetterPinLaw", "agrees", "(I)Z"⟩ : MethodName) method_3_code 3 (some .boolean) ({ frames := 1, cells := 0, slots := 0, locals := 12 } : Room) #[(.int p0)] h0 (fun v h => v = some (.int (f1 p0)) ∧ h0 = h) := by
  refine own_met (plainFor_of_name pn_1) ?_
  intro p e s m below meth c T0 hx hby hml hown hnm hret hlk hZ A0
  rw [ef_1]
  show own_Go _ _ _ _ (T0.setTop (mkF m 0 #[.val (.int p0), .unset, .unset] []))
  refine own_go (fun t k => XS.iloadN A0.here hx rfl (hb hby d1_0) rfl k) ?_
  show own_Go _ _ _ _ (T0.setTop (mkF m 1 #[.val (.int p0), .unset, .unset] [(.int p0)]))
  refine own_go (fun t k => XS.bipush A0.here hx rfl (hb hby d1_1) k) ?_
  show own_Go _ _ _ _ (T0.setTop (mkF m 3 #[.val (.int p0), .unset, .unset] [(.int (32 : Int32)), (.int p0)]))
  refine own_go (fun t k => XS.ior A0.here hx rfl (hb hby d1_3) rfl k) ?_
  show own_Go _ _ _ _ (T0.setTop (mkF m 4 #[.val (.int p0), .unset, .unset] [(.int (p0 ||| (32 : Int32)))]))
  refine own_go (fun t k => XS.istoreN A0.here hx rfl (hb hby d1_4) rfl (l' := #[.val (.int p0), .val (.int (p0 ||| (32 : Int32))), .unset]) rfl k) ?_
  show own_Go _ _ _ _ (T0.setTop (mkF m 5 #[.val (.int p0), .val (.int (p0 ||| (32 : Int32))), .unset] []))
  refine own_go (fun t k => XS.iloadN A0.here hx rfl (hb hby d1_5) rfl k) ?_
  show own_Go _ _ _ _ (T0.setTop (mkF m 6 #[.val (.int p0), .val (.int (p0 ||| (32 : Int32))), .unset] [(.int (p0 ||| (32 : Int32)))]))
  refine own_go (fun t k => XS.bipush A0.here hx rfl (hb hby d1_6) k) ?_
  show own_Go _ _ _ _ (T0.setTop (mkF m 8 #[.val (.int p0), .val (.int (p0 ||| (32 : Int32))), .unset] [(.int (97 : Int32)), (.int (p0 ||| (32 : Int32)))]))
  have mg1 : ∀ t, Steps p.tables e below (T0.setTop (mkF m 22 #[.val (.int p0), .val (.int (p0 ||| (32 : Int32))), .unset] [(.int (if (p0 ||| (32 : Int32)) < (97 : Int32) then (0 : Int32) else (if (122 : Int32) < (p0 ||| (32 : Int32)) then (0 : Int32) else (1 : Int32))))])) t → Steps p.tables e below (T0.setTop (mkF m 8 #[.val (.int p0), .val (.int (p0 ||| (32 : Int32))), .unset] [(.int (97 : Int32)), (.int (p0 ||| (32 : Int32)))])) t := by
    intro t k
    by_cases hm8_0 : (p0 ||| (32 : Int32)) < (97 : Int32)
    ·
      simp only [if_pos hm8_0] at k
      exact (XS.icmpYes A0.here hx rfl (pc0 := 8) (pc' := 21) rfl (hb hby d1_8) rfl (tlt hm8_0).1 (by decide) (by decide) (XS.iconst A0.here hx rfl (hb hby d1_21) k))
    ·
      refine XS.icmpNo A0.here hx rfl (hb hby d1_8) rfl (flt hm8_0).1 (XS.iloadN A0.here hx rfl (hb hby d1_11) rfl (XS.bipush A0.here hx rfl (hb hby d1_12) ?_))
      by_cases hm14_1 : (122 : Int32) < (p0 ||| (32 : Int32))
      ·
        simp only [if_neg hm8_0, if_pos hm14_1] at k
        exact (XS.icmpYes A0.here hx rfl (pc0 := 14) (pc' := 21) rfl (hb hby d1_14) rfl (tlt hm14_1).2.2.1 (by decide) (by decide) (XS.iconst A0.here hx rfl (hb hby d1_21) k))
      ·
        simp only [if_neg hm8_0, if_neg hm14_1] at k
        exact (XS.icmpNo A0.here hx rfl (hb hby d1_14) rfl (flt hm14_1).2.2.1 (XS.iconst A0.here hx rfl (hb hby d1_17) (XS.goto A0.here hx rfl (pc0 := 18) (pc' := 22) rfl (hb hby d1_18) (by decide) (by decide) k)))
  refine own_go mg1 ?_
  show own_Go _ _ _ _ (T0.setTop (mkF m 22 #[.val (.int p0), .val (.int (p0 ||| (32 : Int32))), .unset] [(.int (if (p0 ||| (32 : Int32)) < (97 : Int32) then (0 : Int32) else (if (122 : Int32) < (p0 ||| (32 : Int32)) then (0 : Int32) else (1 : Int32))))]))
  generalize hx2 : (if (p0 ||| (32 : Int32)) < (97 : Int32) then (0 : Int32) else (if (122 : Int32) < (p0 ||| (32 : Int32)) then (0 : Int32) else (1 : Int32))) = x2
  show own_Go _ _ _ _ (T0.setTop (mkF m 22 #[.val (.int p0), .val (.int (p0 ||| (32 : Int32))), .unset] [(.int x2)]))
  refine own_go (fun t k => XS.istoreN A0.here hx rfl (hb hby d1_22) rfl (l' := #[.val (.int p0), .val (.int (p0 ||| (32 : Int32))), .val (.int x2)]) rfl k) ?_
  show own_Go _ _ _ _ (T0.setTop (mkF m 23 #[.val (.int p0), .val (.int (p0 ||| (32 : Int32))), .val (.int x2)] []))
  refine own_go (fun t k => XS.iloadN A0.here hx rfl (hb hby d1_23) rfl k) ?_
  show own_Go _ _ _ _ (T0.setTop (mkF m 24 #[.val (.int p0), .val (.int (p0 ||| (32 : Int32))), .val (.int x2)] [(.int p0)]))
  refine own_callS A0 hx hZ hown (y := (⟨"com/example/rublewire/rublewire/fin/CharacterSet", "isLatinLetter", "(I)Z"⟩ : MethodName)) (hw _ (List.mem_of_getElem? (i := 4) rfl)) (hw _ (List.mem_of_getElem? (i := 5) rfl)) (hw _ (List.mem_of_getElem? (i := 6) rfl)) (hw _ (List.mem_of_getElem? (i := 7) rfl)) (by decide) (argsL := [(.int p0)]) (rest := []) (rm2 l Z a0 hw p0 h0 n0 ) 0 (by decide) (by decide) rfl (by rw [hml]; rfl) (lenOf pd__I_Z rfl) rfl (by show 2 * 0 + _ ≤ _; exact Nat.le_of_eq rfl) (hb hby d1_24) (by decide) (by decide) (fun v6 T3 h5 A4 hQ7 => ?_)
  obtain ⟨rfl, rfl⟩ := hQ7
  show own_Go _ _ _ _ (T3.setTop (mkF m 27 #[.val (.int p0), .val (.int (p0 ||| (32 : Int32))), .val (.int x2)] [(.int (f2 p0))]))
  refine own_go (fun t k => XS.iloadN A4.here hx rfl (hb hby d1_27) rfl k) ?_
  show own_Go _ _ _ _ (T3.setTop (mkF m 28 #[.val (.int p0), .val (.int (p0 ||| (32 : Int32))), .val (.int x2)] [(.int x2), (.int (f2 p0))]))
  have mg8 : ∀ t, Steps p.tables e below (T3.setTop (mkF m 36 #[.val (.int p0), .val (.int (p0 ||| (32 : Int32))), .val (.int x2)] [(.int (if (f2 p0) = x2 then (1 : Int32) else (0 : Int32)))])) t → Steps p.tables e below (T3.setTop (mkF m 28 #[.val (.int p0), .val (.int (p0 ||| (32 : Int32))), .val (.int x2)] [(.int x2), (.int (f2 p0))])) t := by
    intro t k
    by_cases hm28_0 : (f2 p0) = x2
    ·
      simp only [if_pos hm28_0] at k
      exact (XS.icmpNo A4.here hx rfl (hb hby d1_28) rfl (teq hm28_0).2 (XS.iconst A4.here hx rfl (hb hby d1_31) (XS.goto A4.here hx rfl (pc0 := 32) (pc' := 36) rfl (hb hby d1_32) (by decide) (by decide) k)))
    ·
      simp only [if_neg hm28_0] at k
      exact (XS.icmpYes A4.here hx rfl (pc0 := 28) (pc' := 35) rfl (hb hby d1_28) rfl (feq hm28_0).2 (by decide) (by decide) (XS.iconst A4.here hx rfl (hb hby d1_35) k))
  refine own_go mg8 ?_
  show own_Go _ _ _ _ (T3.setTop (mkF m 36 #[.val (.int p0), .val (.int (p0 ||| (32 : Int32))), .val (.int x2)] [(.int (if (f2 p0) = x2 then (1 : Int32) else (0 : Int32)))]))
  refine own_retN A4 hx (t := .boolean) hret (by simp) hlk (by decide) (by decide) (hb hby d1_36) ?_
  subst hx2
  exact ⟨rfl, rfl⟩
theorem ef_0 (m : MethodId) (p0 : Int32) (p1 : Int32) : entryFrame m #[(.int p0), (.int p1)] maxLocals = mkF m 0 #[.val (.int p0), .val (.int p1), .unset] [] := by first | (simp [entryFrame, mkF, argsToLocals, Value.category, maxLocals]; done) | rfl
def f0 (p0 : Int32) (p1 : Int32) : Int32 := (if (f1 p0) = (0 : Int32) then (0 : Int32) else (if (f1 p1) = (0 : Int32) then (0 : Int32) else (nar .boolean (if (f1 ((32 : Int32) + (p1 &&& (127 : Int32)))) = (0 : Int32) then (0 : Int32) else (1 : Int32)))))
set_option maxRecDepth 65536 in
set_option maxHeartbeats 40000000 in
theorem rm0 (l : Launch) (Z : State) (a0 : Array Value) (hw : ∀ d ∈ tables_1, d.before a0 Z = true) (p0 : Int32) (p1 : Int32) (h0 : Heap) (n0 : Nat) :
    own_Met l Z n0 x code maxLocals ret room_1 #[(.int p0), (.int p1)] h0 (fun v h => v = some (.int (f0 p0 p1)) ∧ h0 = h) := by
  refine own_met (plainFor_of_name pn_1) ?_
  intro p e s m below meth c T0 hx hby hml hown hnm hret hlk hZ A0
  have hret : meth.sig.returnType = some .boolean := hret
  rw [ef_0]
  show own_Go _ _ _ _ (T0.setTop (mkF m 0 #[.val (.int p0), .val (.int p1), .unset] []))
  refine own_go (fun t k => XS.bipush A0.here hx rfl (hb hby at_0) k) ?_
  show own_Go _ _ _ _ (T0.setTop (mkF m 2 #[.val (.int p0), .val (.int p1), .unset] [(.int (32 : Int32))]))
  refine own_go (fun t k => XS.iloadN A0.here hx rfl (hb hby at_2) rfl k) ?_
  show own_Go _ _ _ _ (T0.setTop (mkF m 3 #[.val (.int p0), .val (.int p1), .unset] [(.int p1), (.int (32 : Int32))]))
  refine own_go (fun t k => XS.bipush A0.here hx rfl (hb hby at_3) k) ?_
  show own_Go _ _ _ _ (T0.setTop (mkF m 5 #[.val (.int p0), .val (.int p1), .unset] [(.int (127 : Int32)), (.int p1), (.int (32 : Int32))]))
  refine own_go (fun t k => XS.iand A0.here hx rfl (hb hby at_5) rfl k) ?_
  show own_Go _ _ _ _ (T0.setTop (mkF m 6 #[.val (.int p0), .val (.int p1), .unset] [(.int (p1 &&& (127 : Int32))), (.int (32 : Int32))]))
  refine own_go (fun t k => XS.iadd A0.here hx rfl (hb hby at_6) rfl k) ?_
  show own_Go _ _ _ _ (T0.setTop (mkF m 7 #[.val (.int p0), .val (.int p1), .unset] [(.int ((32 : Int32) + (p1 &&& (127 : Int32))))]))
  refine own_go (fun t k => XS.istoreN A0.here hx rfl (hb hby at_7) rfl (l' := #[.val (.int p0), .val (.int p1), .val (.int ((32 : Int32) + (p1 &&& (127 : Int32))))]) rfl k) ?_
  show own_Go _ _ _ _ (T0.setTop (mkF m 8 #[.val (.int p0), .val (.int p1), .val (.int ((32 : Int32) + (p1 &&& (127 : Int32))))] []))
  refine own_go (fun t k => XS.iloadN A0.here hx rfl (hb hby at_8) rfl k) ?_
  show own_Go _ _ _ _ (T0.setTop (mkF m 9 #[.val (.int p0), .val (.int p1), .val (.int ((32 : Int32) + (p1 &&& (127 : Int32))))] [(.int p0)]))
  refine own_callS A0 hx hZ hown (y := (⟨"com/example/rublewire/rublewire/fin/CharacterSetIsLatinLetterPinLaw", "agrees", "(I)Z"⟩ : MethodName)) (hw _ (List.mem_of_getElem? (i := 0) rfl)) (hw _ (List.mem_of_getElem? (i := 1) rfl)) (hw _ (List.mem_of_getElem? (i := 2) rfl)) (hw _ (List.mem_of_getElem? (i := 3) rfl)) (by decide) (argsL := [(.int p0)]) (rest := []) (rm1 l Z a0 hw p0 h0 n0 ) 0 (by decide) (by decide) rfl (by rw [hml]; rfl) (lenOf pd__I_Z rfl) rfl (by show 2 * 0 + _ ≤ _; exact Nat.le_of_eq rfl) (hb hby at_9) (by decide) (by decide) (fun v4 T1 h3 A2 hQ5 => ?_)
  obtain ⟨rfl, rfl⟩ := hQ5
  show own_Go _ _ _ _ (T1.setTop (mkF m 12 #[.val (.int p0), .val (.int p1), .val (.int ((32 : Int32) + (p1 &&& (127 : Int32))))] [(.int (f1 p0))]))
  by_cases hc6 : (f1 p0) = (0 : Int32)
  ·
    refine own_go (fun t k => XS.ifYes A2.here hx rfl (pc0 := 12) (pc' := 33) rfl (hb hby at_12) rfl ((if0 _ _).trans (teq hc6).1) (by decide) (by decide) k) ?_
    show own_Go _ _ _ _ (T1.setTop (mkF m 33 #[.val (.int p0), .val (.int p1), .val (.int ((32 : Int32) + (p1 &&& (127 : Int32))))] []))
    refine own_go (fun t k => XS.iconst A2.here hx rfl (hb hby at_33) k) ?_
    show own_Go _ _ _ _ (T1.setTop (mkF m 34 #[.val (.int p0), .val (.int p1), .val (.int ((32 : Int32) + (p1 &&& (127 : Int32))))] [(.int (0 : Int32))]))
    refine own_retN A2 hx (t := .boolean) hret (by simp) hlk (by decide) (by decide) (hb hby at_34) ?_
    exact ⟨congrArg (fun z => some (Value.int z)) (by simp only [f0, if_pos hc6] <;> rfl), rfl⟩
  ·
    refine own_go (fun t k => XS.ifNo A2.here hx rfl (hb hby at_12) rfl ((if0 _ _).trans (feq hc6).1) k) ?_
    show own_Go _ _ _ _ (T1.setTop (mkF m 15 #[.val (.int p0), .val (.int p1), .val (.int ((32 : Int32) + (p1 &&& (127 : Int32))))] []))
    refine own_go (fun t k => XS.iloadN A2.here hx rfl (hb hby at_15) rfl k) ?_
    show own_Go _ _ _ _ (T1.setTop (mkF m 16 #[.val (.int p0), .val (.int p1), .val (.int ((32 : Int32) + (p1 &&& (127 : Int32))))] [(.int p1)]))
    refine own_callS A2 hx hZ hown (y := (⟨"com/example/rublewire/rublewire/fin/CharacterSetIsLatinLetterPinLaw", "agrees", "(I)Z"⟩ : MethodName)) (hw _ (List.mem_of_getElem? (i := 0) rfl)) (hw _ (List.mem_of_getElem? (i := 1) rfl)) (hw _ (List.mem_of_getElem? (i := 2) rfl)) (hw _ (List.mem_of_getElem? (i := 3) rfl)) (by decide) (argsL := [(.int p1)]) (rest := []) (rm1 l Z a0 hw p1 h0 n0 ) 0 (by decide) (by decide) rfl (by rw [hml]; rfl) (lenOf pd__I_Z rfl) rfl (by show 2 * 0 + _ ≤ _; exact Nat.le_of_eq rfl) (hb hby at_16) (by decide) (by decide) (fun v10 T7 h9 A8 hQ11 => ?_)
    obtain ⟨rfl, rfl⟩ := hQ11
    show own_Go _ _ _ _ (T7.setTop (mkF m 19 #[.val (.int p0), .val (.int p1), .val (.int ((32 : Int32) + (p1 &&& (127 : Int32))))] [(.int (f1 p1))]))
    by_cases hc12 : (f1 p1) = (0 : Int32)
    ·
      refine own_go (fun t k => XS.ifYes A8.here hx rfl (pc0 := 19) (pc' := 33) rfl (hb hby at_19) rfl ((if0 _ _).trans (teq hc12).1) (by decide) (by decide) k) ?_
      show own_Go _ _ _ _ (T7.setTop (mkF m 33 #[.val (.int p0), .val (.int p1), .val (.int ((32 : Int32) + (p1 &&& (127 : Int32))))] []))
      refine own_go (fun t k => XS.iconst A8.here hx rfl (hb hby at_33) k) ?_
      show own_Go _ _ _ _ (T7.setTop (mkF m 34 #[.val (.int p0), .val (.int p1), .val (.int ((32 : Int32) + (p1 &&& (127 : Int32))))] [(.int (0 : Int32))]))
      refine own_retN A8 hx (t := .boolean) hret (by simp) hlk (by decide) (by decide) (hb hby at_34) ?_
      exact ⟨congrArg (fun z => some (Value.int z)) (by simp only [f0, if_neg hc6, if_pos hc12] <;> rfl), rfl⟩
    ·
      refine own_go (fun t k => XS.ifNo A8.here hx rfl (hb hby at_19) rfl ((if0 _ _).trans (feq hc12).1) k) ?_
      show own_Go _ _ _ _ (T7.setTop (mkF m 22 #[.val (.int p0), .val (.int p1), .val (.int ((32 : Int32) + (p1 &&& (127 : Int32))))] []))
      refine own_go (fun t k => XS.iloadN A8.here hx rfl (hb hby at_22) rfl k) ?_
      show own_Go _ _ _ _ (T7.setTop (mkF m 23 #[.val (.int p0), .val (.int p1), .val (.int ((32 : Int32) + (p1 &&& (127 : Int32))))] [(.int ((32 : Int32) + (p1 &&& (127 : Int32))))]))
      refine own_callS A8 hx hZ hown (y := (⟨"com/example/rublewire/rublewire/fin/CharacterSetIsLatinLetterPinLaw", "agrees", "(I)Z"⟩ : MethodName)) (hw _ (List.mem_of_getElem? (i := 0) rfl)) (hw _ (List.mem_of_getElem? (i := 1) rfl)) (hw _ (List.mem_of_getElem? (i := 2) rfl)) (hw _ (List.mem_of_getElem? (i := 3) rfl)) (by decide) (argsL := [(.int ((32 : Int32) + (p1 &&& (127 : Int32))))]) (rest := []) (rm1 l Z a0 hw ((32 : Int32) + (p1 &&& (127 : Int32))) h0 n0 ) 0 (by decide) (by decide) rfl (by rw [hml]; rfl) (lenOf pd__I_Z rfl) rfl (by show 2 * 0 + _ ≤ _; exact Nat.le_of_eq rfl) (hb hby at_23) (by decide) (by decide) (fun v16 T13 h15 A14 hQ17 => ?_)
      obtain ⟨rfl, rfl⟩ := hQ17
      show own_Go _ _ _ _ (T13.setTop (mkF m 26 #[.val (.int p0), .val (.int p1), .val (.int ((32 : Int32) + (p1 &&& (127 : Int32))))] [(.int (f1 ((32 : Int32) + (p1 &&& (127 : Int32)))))]))
      have mg18 : ∀ t, Steps p.tables e below (T13.setTop (mkF m 34 #[.val (.int p0), .val (.int p1), .val (.int ((32 : Int32) + (p1 &&& (127 : Int32))))] [(.int (if (f1 ((32 : Int32) + (p1 &&& (127 : Int32)))) = (0 : Int32) then (0 : Int32) else (1 : Int32)))])) t → Steps p.tables e below (T13.setTop (mkF m 26 #[.val (.int p0), .val (.int p1), .val (.int ((32 : Int32) + (p1 &&& (127 : Int32))))] [(.int (f1 ((32 : Int32) + (p1 &&& (127 : Int32)))))])) t := by
        intro t k
        by_cases hm26_0 : (f1 ((32 : Int32) + (p1 &&& (127 : Int32)))) = (0 : Int32)
        ·
          simp only [if_pos hm26_0] at k
          exact (XS.ifYes A14.here hx rfl (pc0 := 26) (pc' := 33) rfl (hb hby at_26) rfl ((if0 _ _).trans (teq hm26_0).1) (by decide) (by decide) (XS.iconst A14.here hx rfl (hb hby at_33) k))
        ·
          simp only [if_neg hm26_0] at k
          exact (XS.ifNo A14.here hx rfl (hb hby at_26) rfl ((if0 _ _).trans (feq hm26_0).1) (XS.iconst A14.here hx rfl (hb hby at_29) (XS.goto A14.here hx rfl (pc0 := 30) (pc' := 34) rfl (hb hby at_30) (by decide) (by decide) k)))
      refine own_go mg18 ?_
      show own_Go _ _ _ _ (T13.setTop (mkF m 34 #[.val (.int p0), .val (.int p1), .val (.int ((32 : Int32) + (p1 &&& (127 : Int32))))] [(.int (if (f1 ((32 : Int32) + (p1 &&& (127 : Int32)))) = (0 : Int32) then (0 : Int32) else (1 : Int32)))]))
      generalize hx19 : (if (f1 ((32 : Int32) + (p1 &&& (127 : Int32)))) = (0 : Int32) then (0 : Int32) else (1 : Int32)) = x19
      show own_Go _ _ _ _ (T13.setTop (mkF m 34 #[.val (.int p0), .val (.int p1), .val (.int ((32 : Int32) + (p1 &&& (127 : Int32))))] [(.int x19)]))
      refine own_retN A14 hx (t := .boolean) hret (by simp) hlk (by decide) (by decide) (hb hby at_34) ?_
      subst hx19
      exact ⟨congrArg (fun z => some (Value.int z)) (by simp only [f0, if_neg hc6, if_neg hc12]), rfl⟩
theorem own_or32 (n : Nat) : n ||| 32 = n + (if n / 32 % 2 = 0 then 32 else 0) := by
  have e : n = 2 ^ 6 * (n / 64) + n % 64 := by omega
  have h1 : n ||| 32 = 2 ^ 6 * (n / 64) + (n % 64 ||| 32) := by
    rw [Nat.two_pow_add_eq_or_of_lt (Nat.or_lt_two_pow (by omega) (by decide)), ← Nat.or_assoc, ← Nat.two_pow_add_eq_or_of_lt (by omega), ← e]
  have h2 : ∀ r, r < 64 → r ||| 32 = r + (if r / 32 % 2 = 0 then 32 else 0) := by decide
  rw [h1, h2 _ (by omega)]
  split <;> split <;> omega
theorem own_or32i (x : Int32) : (x ||| 32).toInt = x.toInt + (if x.toInt / 32 % 2 = 0 then 32 else 0) := by
  have h1 : (x ||| 32).toBitVec.toNat = x.toBitVec.toNat ||| 32 := by simp [Int32.toBitVec_or]
  have h2 := own_or32 x.toBitVec.toNat
  have h3 : (x ||| 32).toInt = (x ||| 32).toBitVec.toInt := rfl
  have h4 : x.toInt = x.toBitVec.toInt := rfl
  rw [h3, h4, BitVec.toInt_eq_toNat_cond, BitVec.toInt_eq_toNat_cond, h1, h2]
  have h5 := x.toBitVec.isLt
  split <;> split <;> split <;> omega
theorem own_f1 (p0 : Int32) : f1 p0 = 1 := by
  have h := own_or32i p0
  have h65 : (65 : Int32).toInt = 65 := rfl
  have h97 : (97 : Int32).toInt = 97 := rfl
  have h90 : (90 : Int32).toInt = 90 := rfl
  have h122 : (122 : Int32).toInt = 122 := rfl
  unfold f1 f2
  simp only [Int32.lt_iff_toInt_lt, h65, h97, h90, h122]
  generalize (p0 ||| 32).toInt = u at *
  generalize p0.toInt = v at *
  repeat' split
  all_goals first | rfl | (exfalso; omega) | (exfalso; rename_i hh; exact hh rfl)
theorem law_true (i0 i1 : Int32) : f0 i0 i1 = 1 := by
  unfold f0
  simp only [own_f1]
  rfl
set_option maxRecDepth 65536 in
set_option maxHeartbeats 40000000 in
theorem comes_1 {Post : Tables → Env → Array Value → State → Outcome → State → Prop} (hpost : ∀ tb e args s v u, (limb_1_1.after args s (.returned v) u = true ∧ limb_1_2.after args s (.returned v) u = true ∧ True) → FrameEnd s (.returned v) u (Jvm.fieldLocs frame_1_writes args s ++ Jvm.arrayLocs frame_1_arrays args s ++ Jvm.staticLocs frame_1_statics s) 0 0 → Post tb e args s (.returned v) u) :
    ArmFor flags0 classFile x code maxLocals ret World_1 tables_1 room_1 Calls_1 rest_1 Pre_1 Post := by
  intro l hfl _ _ p e ha hc hk s m args below hf hA hF happ hP
  obtain ⟨hcalls, hrest, hpre⟩ := hP
  obtain ⟨-, -, -, hnamed, -, -, -, hat⟩ := (Spec.applies_iff hf).mp happ
  obtain ⟨hg, hn⟩ := and_e (Cond.before_iff.mp (show (Jvm.Cond.and given_1 narrow_1).before args s = true from hpre))
  obtain ⟨gc, gr⟩ := and_e hg
  obtain ⟨w0, w1, rfl⟩ : ∃ w0 w1 : Value, args = #[w0, w1] := by
    have hs : args.size = 2 := by simpa [Cond.value, given_1] using gc
    obtain ⟨L⟩ := args
    match L, hs with
    | [w0, w1], _ => exact ⟨w0, w1, rfl⟩
  have hw := fun d (hd : d ∈ tables_1) => atoms_spec (ws := Jvm.Cond.code x code maxLocals ret :: tables_1) hat d (List.mem_cons_of_mem _ hd)
  have hfit : Fit s := fun {y c} hc i hi => by
    obtain ⟨ha, rfl⟩ := Array.getElem?_eq_some_iff.mp hc
    have q := List.all_eq_true.mp ((Array.all_eq_true_iff_forall_mem.mp hF) _ (Array.getElem_mem ha)) i (List.mem_range.mpr hi)
    simpa [Array.getElem?_eq_getElem hi] using q
  obtain ⟨q0, gr0⟩ := and_e gr
  obtain ⟨i0, ei0⟩ := is_v q0
  obtain rfl : w0 = (.int i0) := Option.some.inj ei0
  obtain ⟨i1, ei1⟩ := is_v gr0
  obtain rfl : w1 = (.int i1) := Option.some.inj ei1
  obtain ⟨n, o, h1, h2, h3, _, L, rfl, ⟨⟨rfl, hQ⟩, N⟩, hq⟩ := rm0 l s _ hw i0 i1  s.heap s.heap.size  tables_1 p e ha hc hk s m _ below hf ((Spec.applies_iff_loose hf).mp happ).1 ⟨rfl, State.Warmed39.refl s, rfl⟩ trivial
  refine ⟨n, _, h1, h2, h3, hpost _ _ _ _ _ _ ⟨Cond.after_iff.mpr rfl, Cond.after_iff.mpr (eq_i res_at (Term.int_eval (1)) (congrArg Value.int (law_true i0 i1 ))), trivial⟩ ⟨hq.1, hq.2.1, (hq.2.2.sift fun y hy => Or.inr (N y hy)).mono (by decide) (by decide)⟩⟩
theorem main_1_1 : Claimed_1_1 := comes_1 fun _ _ _ _ _ _ h hF => ⟨h.1, hF⟩
theorem main_1_2 : Claimed_1_2 := comes_1 fun _ _ _ _ _ _ h hF => ⟨h.2.1, hF⟩
end Jvm.Pilot.@@N@@
namespace Jvm.Pilot.@@N@@
open Jvm Jvm.ClassFile Sem Op Lib Jvm.Free Jvm.Stand Jvm.Pilot.@@N@@.Jvm.D
/-! MADE BY PROGRAM (witnessworld.py) out of the Statement's table words and the real class files: 12 classes; the members and pool entries that the words name. The judged class is class 1, her method 1. -/
namespace start1
open Jvm.ClassFile
def u (s : String) : CpInfo := .utf8 (stringToUtf16 s)
/-- a pool by its gaps: so many unusable entries, then the entry; so many at the end -/
def gap : Nat → List CpInfo → List CpInfo
  | 0, r => r
  | n + 1, r => .unusable :: gap n r
def poolList (es : List (Nat × CpInfo)) (last : Nat) : List CpInfo := es.foldr (fun e r => gap e.1 (e.2 :: r)) (gap last [])
def pool (es : List (Nat × CpInfo)) (last : Nat) : Array CpInfo := ⟨poolList es last⟩
def fileOf (pool : Array CpInfo) (this : Nat) (attrs : Array Attribute := #[]) (ms : Array MethodInfo := #[]) (fl : Nat := 33) (sup : Nat := 0) (ifs : Array Nat := #[]) (fds : Array FieldInfo := #[]) : ClassFile where
  minorVersion := 0
  majorVersion := 65
  constantPool := pool
  accessFlags := fl
  thisClass := this
  superClass := sup
  interfaces := ifs
  fields := fds
  methods := ms
  attributes := attrs
def plain (name : String) (sup : Option ClassId) : Class where
  name := name
  kind := .ordinary
  loader := none
  accessFlags := 33
  super := sup
  interfaces := #[]
  cf := none
  fields := #[]
  methods := #[]
  instanceTypes := #[]
  staticTypes := #[]
  resolved := #[]
  callSites := []
  init := .initialized
  statics := none
  mirror := none

def pool0 : Array CpInfo := pool [(5, u "<init>"), (0, u "()V"), (1, .class_ 10), (1, u "java/lang/Object")] 113

def k0m0 : Method := { name := "<init>", desc := "()V", sig := { parameters := [], returnType := none }, accessFlags := 1, code := none }
/-- java/lang/Object -/
def k0 : Class := { plain "java/lang/Object" none with
  accessFlags := 33
  interfaces := #[]
  cf := some (fileOf pool0 8 #[] #[{ accessFlags := 1, nameIndex := 5, descriptorIndex := 6, attributes := #[] }] 33 0 #[] #[])
  fields := #[]
  methods := #[k0m0]
  instanceTypes := #[]
  staticTypes := #[]
  resolved := Array.replicate 124 none
  statics := none }

def pool1 : Array CpInfo := pool [(2, .class_ 4), (1, u "java/lang/Object"), (0, u "<init>"), (0, u "()V"), (0, .methodref 8 9), (0, .class_ 10), (0, .nameAndType 11 12), (0, u "com/example/rublewire/rublewire/fin/CharacterSetIsLatinLetterPinLaw"), (0, u "agrees"), (0, u "(I)Z"), (0, .methodref 14 15), (0, .class_ 16), (0, .nameAndType 17 12), (0, u "com/example/rublewire/rublewire/fin/CharacterSet"), (0, u "isLatinLetter"), (2, u "law"), (0, u "(II)Z")] 3

def k1m0 : Method := { name := "<init>", desc := "()V", sig := { parameters := [], returnType := none }, accessFlags := 2, code := none }
def k1c1 : Code := { maxStack := 3, maxLocals := 3, code := code, exceptionTable := #[], attributes := #[] }
def k1m1 : Method := { name := "law", desc := "(II)Z", sig := { parameters := [.int, .int], returnType := some .boolean }, accessFlags := 9, code := some k1c1 }
def k1c2 : Code := { maxStack := 2, maxLocals := 3, code := method_3_code, exceptionTable := #[], attributes := #[] }
def k1m2 : Method := { name := "agrees", desc := "(I)Z", sig := { parameters := [.int], returnType := some .boolean }, accessFlags := 10, code := some k1c2 }
/-- com/example/rublewire/rublewire/fin/CharacterSetIsLatinLetterPinLaw -/
def k1 : Class := { plain "com/example/rublewire/rublewire/fin/CharacterSetIsLatinLetterPinLaw" (some 0) with
  accessFlags := 49
  interfaces := #[]
  cf := some (fileOf pool1 8 #[] #[{ accessFlags := 2, nameIndex := 5, descriptorIndex := 6, attributes := #[] }, { accessFlags := 9, nameIndex := 20, descriptorIndex := 21, attributes := #[] }, { accessFlags := 10, nameIndex := 11, descriptorIndex := 12, attributes := #[] }] 49 2 #[] #[])
  fields := #[]
  methods := #[k1m0, k1m1, k1m2]
  instanceTypes := #[]
  staticTypes := #[]
  resolved := Array.replicate 25 none
  statics := none }

def pool2 : Array CpInfo := pool [(1, .class_ 2), (0, u "java/lang/constant/Constable"), (0, .class_ 4), (0, u "java/lang/Object")] 6

/-- java/lang/constant/Constable -/
def k2 : Class := { plain "java/lang/constant/Constable" (some 0) with
  accessFlags := 1537
  interfaces := #[]
  cf := some (fileOf pool2 1 #[] #[] 1537 3 #[] #[])
  fields := #[]
  methods := #[]
  instanceTypes := #[]
  staticTypes := #[]
  resolved := Array.replicate 11 none
  statics := none }

def pool3 : Array CpInfo := pool [(1, .class_ 2), (0, u "java/lang/Comparable"), (0, .class_ 4), (0, u "java/lang/Object")] 7

/-- java/lang/Comparable -/
def k3 : Class := { plain "java/lang/Comparable" (some 0) with
  accessFlags := 1537
  interfaces := #[]
  cf := some (fileOf pool3 1 #[] #[] 1537 3 #[] #[])
  fields := #[]
  methods := #[]
  instanceTypes := #[]
  staticTypes := #[]
  resolved := Array.replicate 12 none
  statics := none }

def pool4 : Array CpInfo := pool [(1, .class_ 2), (0, u "java/io/Serializable"), (0, .class_ 4), (0, u "java/lang/Object")] 2

/-- java/io/Serializable -/
def k4 : Class := { plain "java/io/Serializable" (some 0) with
  accessFlags := 1537
  interfaces := #[]
  cf := some (fileOf pool4 1 #[] #[] 1537 3 #[] #[])
  fields := #[]
  methods := #[]
  instanceTypes := #[]
  staticTypes := #[]
  resolved := Array.replicate 7 none
  statics := none }

def pool5 : Array CpInfo := pool [(2, .class_ 4), (1, u "java/lang/Enum"), (0, u "name"), (0, u "Ljava/lang/String;"), (2, u "ordinal"), (0, u "I"), (1, .class_ 14), (1, u "java/lang/Object"), (4, u "hash"), (86, .class_ 108), (1, u "java/lang/Enum$EnumDesc"), (2, .class_ 112), (0, u "java/lang/constant/Constable"), (0, .class_ 114), (0, u "java/lang/Comparable"), (0, .class_ 116), (0, u "java/io/Serializable")] 87

/-- java/lang/Enum -/
def k5 : Class := { plain "java/lang/Enum" (some 0) with
  accessFlags := 1057
  interfaces := #[2, 3, 4]
  cf := some (fileOf pool5 2 #[.nestMembers #[106]] #[] 1057 12 #[111, 113, 115] #[{ accessFlags := 18, nameIndex := 5, descriptorIndex := 6, attributes := #[] }, { accessFlags := 18, nameIndex := 9, descriptorIndex := 10, attributes := #[] }, { accessFlags := 2, nameIndex := 19, descriptorIndex := 10, attributes := #[] }])
  fields := #[{ name := "name", type := (.object "java/lang/String"), accessFlags := 18, slot := 0, constantValue := 0 }, { name := "ordinal", type := .int, accessFlags := 18, slot := 1, constantValue := 0 }, { name := "hash", type := .int, accessFlags := 2, slot := 2, constantValue := 0 }]
  methods := #[]
  instanceTypes := #[(.object "java/lang/String"), .int, .int]
  staticTypes := #[]
  resolved := Array.replicate 204 none
  statics := none }

def pool6 : Array CpInfo := pool [(1, .class_ 2), (0, u "com/example/rublewire/rublewire/fin/CharacterSet"), (2, u "X"), (0, u "Lcom/example/rublewire/rublewire/fin/CharacterSet;"), (2, u "$VALUES"), (0, u "[Lcom/example/rublewire/rublewire/fin/CharacterSet;"), (6, .class_ 19), (1, u "java/lang/Enum"), (8, u "holds"), (0, u "[Z"), (2, u "name"), (0, u "Ljava/lang/String;"), (7, u "isLatinLetter"), (0, u "(I)Z"), (19, u "characters"), (69, u "ASCII"), (0, u "I")] 35

def k6c0 : Code := { maxStack := 2, maxLocals := 1, code := prog_8_method_7_code, exceptionTable := #[], attributes := #[] }
def k6m0 : Method := { name := "isLatinLetter", desc := "(I)Z", sig := { parameters := [.int], returnType := some .boolean }, accessFlags := 9, code := some k6c0 }
/-- com/example/rublewire/rublewire/fin/CharacterSet -/
def k6 : Class := { plain "com/example/rublewire/rublewire/fin/CharacterSet" (some 5) with
  accessFlags := 16433
  interfaces := #[]
  cf := some (fileOf pool6 1 #[] #[{ accessFlags := 9, nameIndex := 41, descriptorIndex := 42, attributes := #[] }] 16433 17 #[] #[{ accessFlags := 16409, nameIndex := 5, descriptorIndex := 6, attributes := #[] }, { accessFlags := 26, nameIndex := 132, descriptorIndex := 133, attributes := #[] }, { accessFlags := 18, nameIndex := 32, descriptorIndex := 33, attributes := #[] }, { accessFlags := 18, nameIndex := 28, descriptorIndex := 29, attributes := #[] }, { accessFlags := 18, nameIndex := 62, descriptorIndex := 33, attributes := #[] }, { accessFlags := 4122, nameIndex := 9, descriptorIndex := 10, attributes := #[] }])
  fields := #[{ name := "X", type := (.object "com/example/rublewire/rublewire/fin/CharacterSet"), accessFlags := 16409, slot := 0, constantValue := 0 }, { name := "ASCII", type := .int, accessFlags := 26, slot := 1, constantValue := 0 }, { name := "name", type := (.object "java/lang/String"), accessFlags := 18, slot := 3, constantValue := 0 }, { name := "holds", type := (.array .boolean), accessFlags := 18, slot := 4, constantValue := 0 }, { name := "characters", type := (.object "java/lang/String"), accessFlags := 18, slot := 5, constantValue := 0 }, { name := "$VALUES", type := (.array (.object "com/example/rublewire/rublewire/fin/CharacterSet")), accessFlags := 4122, slot := 2, constantValue := 0 }]
  methods := #[k6m0]
  instanceTypes := #[(.object "java/lang/String"), .int, .int, (.object "java/lang/String"), (.array .boolean), (.object "java/lang/String")]
  staticTypes := #[(.object "com/example/rublewire/rublewire/fin/CharacterSet"), .int, (.array (.object "com/example/rublewire/rublewire/fin/CharacterSet"))]
  resolved := Array.replicate 169 none
  statics := none }

def pool7 : Array CpInfo := pool [(1, u "java/lang/Cloneable"), (0, .class_ 1), (0, u "java/lang/Object"), (0, .class_ 3)] 3

/-- java/lang/Cloneable -/
def k7 : Class := { plain "java/lang/Cloneable" (some 0) with
  accessFlags := 1537
  interfaces := #[]
  cf := some (fileOf pool7 2 #[] #[] 1537 4 #[] #[])
  fields := #[]
  methods := #[]
  instanceTypes := #[]
  staticTypes := #[]
  resolved := Array.replicate 8 none
  statics := none }

/-- the primitive byte -/
def k8 : Class := { plain "byte" none with kind := .primitive 'B', accessFlags := 0x411 }
/-- [B -/
def k9 : Class := { plain "[B" (some 0) with kind := .array 8 .byte, interfaces := #[7, 4], accessFlags := 1041 }

/-- the primitive int -/
def k10 : Class := { plain "int" none with kind := .primitive 'I', accessFlags := 0x411 }
/-- [I -/
def k11 : Class := { plain "[I" (some 0) with kind := .array 10 .int, interfaces := #[7, 4], accessFlags := 1041 }

def heap : Heap := #[]
def classes : Array Class := #[k0, k1, k2, k3, k4, k5, k6, k7, k8, k9, k10, k11]
def interned : List (Array UInt16 × Addr) := []
def slotsUsed : Nat := 0
def theMethod : MethodId := ⟨1, 1⟩
def args0 : Array Value := #[.int 65, .int 91]
def aboutOver (below : List Frame) : State where
  vm := { classes := classes, interned := interned.toArray }
  heap := heap
  slotsUsed := slotsUsed
  threads := #[{ frames := .invoking theMethod args0 :: below }]
def below0 : List Frame := [.native { method := ⟨0, 0⟩, args := #[] }]
def about1 : State := aboutOver below0
def p0 : Program := .bare "" "" ""
def e0 : Env := launch0.env 0 0 0
theorem w_frames : about1.frames = Frame.invoking theMethod args0 :: below0 := rfl
set_option maxRecDepth 65536 in
theorem w_args : argsFit about1.vm theMethod args0 = true := by decide +kernel
set_option maxRecDepth 65536 in
theorem w_heap : heapFits about1 = true := by decide +kernel
set_option maxRecDepth 65536 in
theorem w_runnable : about1.curStatus? = some .runnable := by decide +kernel
set_option maxRecDepth 65536 in
theorem w_alone : about1.alone = true := by decide +kernel
set_option maxRecDepth 65536 in
theorem w_named : about1.methodNamed? x = some theMethod := by decide +kernel
set_option maxRecDepth 65536 in
theorem w_hears : about1.hears theMethod below0 = true := by decide +kernel
set_option maxRecDepth 65536 in
theorem w_ripe : about1.ripe theMethod args0 below0 = true := by decide +kernel
theorem w_running : about1.status = .running := rfl
set_option maxRecDepth 65536 in
theorem w_room : about1.hasRoom e0.platform room_1 = true :=
  launch0.hasRoom_least _ room_1 (by decide +kernel) (by decide +kernel) (by decide +kernel) (by decide +kernel) (by decide +kernel) (by decide +kernel)
theorem allAtoms_all (ts : List Jvm.Cond) (a : Array Jvm.Value) (st : Jvm.State) : (allAtoms ts).before a st = ts.all (fun c => c.before a st) := by
  induction ts with
  | nil => rfl
  | cons c t ih =>
    show (Jvm.Cond.and c (allAtoms t)).before a st = _
    rw [Jvm.Cond.before_and, ih, List.all_cons]
def words1 : List Jvm.Cond := Jvm.Cond.code x code maxLocals ret :: tables_1
/-- a 'code' word, met by the world's own term for the bytes: nothing is compared byte by byte -/
theorem code_word {y : MethodName} {bytes : ByteArray} {mx : Nat} {rt : Option FieldType} {a : Array Value} {s : State} {m : MethodId} {meth : Method} {c : Code} (h1 : s.methodNamed? y = some m) (h2 : s.vm.method? m = some meth) (h3 : meth.code = some c) (h4 : c.code = bytes)
    (h5 : (c.maxLocals == mx && c.exceptionTable.isEmpty && decide (c.maxStack ≤ mostOperands) && decide (meth.sig.returnType = rt) && !meth.locks && decide (parseMethodDescriptor y.desc = some meth.sig)) = true) : (Jvm.Cond.code y bytes mx rt).before a s = true := by
  simp only [Bool.and_eq_true, beq_iff_eq, Bool.not_eq_true', decide_eq_true_eq] at h5
  obtain ⟨⟨⟨⟨⟨g1, g2⟩, g3⟩, g4⟩, g5⟩, g6⟩ := h5
  simp [Cond.before, Cond.holds, Cond.value, h1, h2, h3, h4, g1, g2, g3, g4, g5, g6]
def isCode : Jvm.Cond → Bool
  | .code _ _ _ _ => true
  | _ => false
theorem all_split {L : List Jvm.Cond} {P : Jvm.Cond → Bool} (h1 : L.all (fun c => isCode c || P c) = true) (h2 : ∀ c ∈ L.filter isCode, P c = true) : L.all P = true := by
  refine List.all_eq_true.mpr fun c hc => ?_
  have h := List.all_eq_true.mp h1 c hc
  rcases Bool.eq_false_or_eq_true (isCode c) with hi | hi
  · exact h2 c (List.mem_filter.mpr ⟨hc, hi⟩)
  · simpa [hi] using h
set_option maxRecDepth 65536 in
theorem w_c0 : (Jvm.Cond.code x code maxLocals ret).before args0 about1 = true := code_word (m := ⟨1, 1⟩) (meth := k1m1) (c := k1c1) (by decide +kernel) rfl rfl rfl (by decide +kernel)
set_option maxRecDepth 65536 in
theorem w_c1 : (Jvm.Cond.code ({ cls := "com/example/rublewire/rublewire/fin/CharacterSetIsLatinLetterPinLaw", name := "agrees", desc := "(I)Z" } : Jvm.MethodName) method_3_code (3 : Nat) (Option.some Jvm.ClassFile.FieldType.boolean)).before args0 about1 = true := code_word (m := ⟨1, 2⟩) (meth := k1m2) (c := k1c2) (by decide +kernel) rfl rfl rfl (by decide +kernel)
set_option maxRecDepth 65536 in
theorem w_c2 : (Jvm.Cond.code ({ cls := "com/example/rublewire/rublewire/fin/CharacterSet", name := "isLatinLetter", desc := "(I)Z" } : Jvm.MethodName) prog_8_method_7_code (1 : Nat) (Option.some Jvm.ClassFile.FieldType.boolean)).before args0 about1 = true := code_word (m := ⟨6, 0⟩) (meth := k6m0) (c := k6c0) (by decide +kernel) rfl rfl rfl (by decide +kernel)
def codes1 : List Jvm.Cond := [Jvm.Cond.code x code maxLocals ret, Jvm.Cond.code ({ cls := "com/example/rublewire/rublewire/fin/CharacterSetIsLatinLetterPinLaw", name := "agrees", desc := "(I)Z" } : Jvm.MethodName) method_3_code (3 : Nat) (Option.some Jvm.ClassFile.FieldType.boolean), Jvm.Cond.code ({ cls := "com/example/rublewire/rublewire/fin/CharacterSet", name := "isLatinLetter", desc := "(I)Z" } : Jvm.MethodName) prog_8_method_7_code (1 : Nat) (Option.some Jvm.ClassFile.FieldType.boolean)]
set_option maxRecDepth 65536 in
theorem codes_eq : words1.filter isCode = codes1 := rfl
theorem w_codes : ∀ c ∈ words1.filter isCode, c.before args0 about1 = true := by
  rw [codes_eq]
  intro c hc
  simp only [codes1, List.mem_cons, List.not_mem_nil, or_false] at hc
  rcases hc with rfl | rfl | rfl
  · exact w_c0
  · exact w_c1
  · exact w_c2
set_option maxRecDepth 65536 in
theorem w_t1 : words1.all (fun c => isCode c || c.before args0 about1) = true := by decide +kernel
theorem w_tables : (allAtoms (Jvm.Cond.code x code maxLocals ret :: tables_1)).before args0 about1 = true := by
  rw [allAtoms_all]
  show words1.all (fun c => c.before args0 about1) = true
  refine all_split ?_ w_codes
  rw [w_t1]
set_option maxRecDepth 65536 in
theorem w_case : (Jvm.Cond.and given_1 narrow_1).before args0 about1 = true := by decide +kernel
theorem w_applies : (headSpec (Jvm.Cond.code x code maxLocals ret :: tables_1) room_1).applies x e0.platform about1 = true :=
  (Spec.applies_iff w_frames).mpr ⟨w_running, w_runnable, w_alone, w_named, w_hears, w_ripe, w_room, w_tables⟩
theorem atStart : AtStart classFile x code maxLocals ret World_1 tables_1 room_1 Calls_1 rest_1 Pre_1 launch0 p0 e0 about1 theMethod args0 below0 :=
  ⟨lists_1, trivial, launch0.admits_env _ _ _, launch0.least_env, fairChoices_fair.cas, fairChoices_fair.clock, w_frames, w_args, w_heap, w_applies, trivial, trivial, w_case⟩
end start1
theorem witness_1 : WitnessClaimed_1 := ⟨start1.p0, start1.e0, start1.about1, start1.theMethod, start1.args0, start1.below0, start1.atStart⟩
end Jvm.Pilot.@@N@@
