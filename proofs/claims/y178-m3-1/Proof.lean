import JvmDerived
import JvmDerived.Pilot.@@N@@Statement
import JvmDerived.Pilot.@@N@@Code
set_option linter.unusedVariables false
set_option linter.unusedSimpArgs false
@@BLOCK:LamKit.lean.txt@@
namespace Jvm.OwnRun
open Sem ClassFile Op Lib Jvm.Stand Jvm.Free Jvm.LawKit Jvm.RoadKit
/-- the run that stands at A comes to the end of this invocation, and Q holds there -/
def Run (p : Program) (e : Env) (below : List Frame) (s : State) (Q : Option Value → Heap → List Loc → Prop) (k n : Nat) (A : State) : Prop :=
  ∃ s₂ o, Steps p.tables e below A s₂ ∧ s₂.status = .running ∧ Ended s₂ below o ∧ ∃ v L, o = .returned v ∧ Q v s₂.heap L ∧ FrameEnd s o s₂ L k n
/-- the contract of a body at one heap and one row of arguments -/
def Ctr (l : Launch) (Z : State) (y : MethodName) (bytes : ByteArray) (ml : Nat) (ret : Option FieldType) (rm : Room) (as' : Array Value) (h0 : Heap) (Q : Option Value → Heap → List Loc → Prop) : Prop :=
  ∀ ws : List Jvm.Cond, MetFree l y (head1 (Jvm.Cond.code y bytes ml ret :: ws) rm) (fun a U => a = as' ∧ Z.WarmedH U.vm ∧ U.heap = h0) (fun _ _ _ _ _ => True) (fun _ U o U' => ∃ v L, o = .returned v ∧ Q v U'.heap L ∧ FrameEnd U o U' L rm.cells rm.slots)
section Laws
variable {p : Program} {l : Launch} {e : Env} {R : Room} {s : State} {m : MethodId} {args : Array Value} {below : List Frame} {meth : Method} {c : Code} {T : State} {locs : List Loc} {cells slots : Nat} {Z : State} {a0 : Array Value} {h h' : Heap}
variable {Q Q' : Option Value → Heap → List Loc → Prop} {k n : Nat}
theorem Run.st {A B : State} (f : ∀ t, Steps p.tables e below B t → Steps p.tables e below A t) (r : Run p e below s Q k n B) : Run p e below s Q k n A := by
  obtain ⟨s₂, o, h1, r⟩ := r
  exact ⟨s₂, o, f _ h1, r⟩
theorem Ctr.of {y : MethodName} {bytes : ByteArray} {ml : Nat} {ret : Option FieldType} {rm : Room} {as' : Array Value} {h0 : Heap} {Ls : Array Slot} (hpl : plainFor y = true) (hef : ∀ m, entryFrame m as' ml = mkF m 0 Ls [])
    (body : ∀ (p : Program) (e : Env) (s : State) (m : MethodId) (below : List Frame) (meth : Method) (c : Code) (T : State), p.tables.exec = Jvm.exec → c.code = bytes → c.maxLocals = ml → s.vm.findClass y.cls = some m.cls → meth.name = y.name → meth.sig.returnType = ret → meth.locks = false → Z.WarmedH s.vm → T.heap = h0 →
      Stand p l e rm s m as' below meth c T [] 0 0 → s.methodNamed? y = some m → Run p e below s Q rm.cells rm.slots (T.setTop (mkF m 0 Ls []))) : Ctr l Z y bytes ml ret rm as' h0 Q := by
  intro ws
  refine MetFree.of_bodySF hpl hisR ?_
  intro p e s m args below meth c s₁ Bd hml0 hP hK
  obtain ⟨rfl, hZ, hh⟩ := hP
  have q := body p e s m below meth c s₁ Bd.exec Bd.bytes hml0 (findClass_of_methodNamed Bd.named) (name_of_methodNamed Bd.named Bd.method).1 Bd.returns Bd.notSynchronized hZ (by rw [← hh, Bd.state]; rfl) (Stand.of_body Bd) Bd.named
  rw [hef]
  exact q
theorem Run.end_ (X : Stand p l e R s m args below meth c T locs cells slots) (hlk : meth.locks = false) (eT : T.heap = h) {v : Option Value} (hv : meth.sig.returnType = none → v = none) (hc : cells ≤ k) (hn : slots ≤ n) (hQ : Q v h locs) {A : State}
    (f : ∀ fs, (∀ (f : JFrame) (acts : List Action), f.method = m → f.locked = none → f.entered = [] → (doReturn e (T.setTop f) acts v).1 = T.setFrames fs) → Steps p.tables e below A (T.setFrames fs)) : Run p e below s Q k n A := by
  obtain ⟨fs, hr, hrun, hended, hW, hsame⟩ := X.leave (v := v) hv
  exact ⟨_, _, f fs hr, hrun, hended, _, _, rfl, by rw [show (T.setFrames fs).heap = h from eT]; exact hQ, ⟨_, rfl⟩, hW, hsame.mono hc hn⟩
theorem Run.retN (X : Stand p l e R s m args below meth c T locs cells slots) (hx : p.tables.exec = Jvm.exec) (hlk : meth.locks = false) (eT : T.heap = h) {t : FieldType} (hret : meth.sig.returnType = some t) (ht : t = .boolean ∨ t = .byte ∨ t = .char ∨ t = .short) {pc : Nat} {Ls : Array Slot} {z : Int32} {rest : List Value}
    {z' : Int32} (hz : nar t z = z') (hd : decode c.code pc = .ok (.ireturn, 1)) (hc : cells ≤ k) (hn : slots ≤ n) (hQ : Q (some (.int z')) h locs) : Run p e below s Q k n (T.setTop (mkF m pc Ls (.int z :: rest))) :=
  Run.end_ X hlk eT (v := some (.int (nar t z))) (fun q => by rw [hret] at q; cases q) hc hn (hz ▸ hQ) fun fs hr => RoadKit.retN X hx hret ht hd hr
theorem Run.retI (X : Stand p l e R s m args below meth c T locs cells slots) (hx : p.tables.exec = Jvm.exec) (hlk : meth.locks = false) (eT : T.heap = h) (hret : meth.sig.returnType = some .int) {pc : Nat} {Ls : Array Slot} {z : Int32} {rest : List Value}
    (hd : decode c.code pc = .ok (.ireturn, 1)) (hc : cells ≤ k) (hn : slots ≤ n) (hQ : Q (some (.int z)) h locs) : Run p e below s Q k n (T.setTop (mkF m pc Ls (.int z :: rest))) :=
  Run.end_ X hlk eT (v := some (.int z)) (fun q => by rw [hret] at q; cases q) hc hn hQ fun fs hr => RoadKit.retOut X hx hret rfl (Or.inl ⟨rfl, Or.inl rfl, z, rfl⟩) hd hr
theorem Run.retJ (X : Stand p l e R s m args below meth c T locs cells slots) (hx : p.tables.exec = Jvm.exec) (hlk : meth.locks = false) (eT : T.heap = h) (hret : meth.sig.returnType = some .long) {pc : Nat} {Ls : Array Slot} {z : Int64} {rest : List Value}
    (hd : decode c.code pc = .ok (.lreturn, 1)) (hc : cells ≤ k) (hn : slots ≤ n) (hQ : Q (some (.long z)) h locs) : Run p e below s Q k n (T.setTop (mkF m pc Ls (.long z :: rest))) :=
  Run.end_ X hlk eT (v := some (.long z)) (fun q => by rw [hret] at q; cases q) hc hn hQ fun fs hr => RoadKit.retOut X hx hret rfl (Or.inr (Or.inl ⟨rfl, rfl, z, rfl⟩)) hd hr
theorem Run.retA (X : Stand p l e R s m args below meth c T locs cells slots) (hx : p.tables.exec = Jvm.exec) (hlk : meth.locks = false) (eT : T.heap = h) {t : FieldType} (hret : meth.sig.returnType = some t) (ht : t.isReference = true) {w : Value} (hw : w.isRef = true) (hnr : narrow t w = w) {pc : Nat} {Ls : Array Slot} {rest : List Value}
    (hd : decode c.code pc = .ok (.areturn, 1)) (hc : cells ≤ k) (hn : slots ≤ n) (hQ : Q (some w) h locs) : Run p e below s Q k n (T.setTop (mkF m pc Ls (w :: rest))) :=
  Run.end_ X hlk eT (v := some w) (fun q => by rw [hret] at q; cases q) hc hn hQ fun fs hr => RoadKit.retOut X hx hret hnr (Or.inr (Or.inr (Or.inr (Or.inr ⟨rfl, ht, hw⟩)))) hd hr
theorem Run.retV (X : Stand p l e R s m args below meth c T locs cells slots) (hx : p.tables.exec = Jvm.exec) (hlk : meth.locks = false) (eT : T.heap = h) (hret : meth.sig.returnType = none) {pc : Nat} {Ls : Array Slot}
    (hd : decode c.code pc = .ok (.return_, 1)) (hc : cells ≤ k) (hn : slots ≤ n) (hQ : Q none h locs) : Run p e below s Q k n (T.setTop (mkF m pc Ls [])) :=
  Run.end_ X hlk eT (v := none) (fun _ => rfl) hc hn hQ fun fs hr => X.returnOut hx hret hd hr
/-- a call's premises that are alike for every kind of call -/
theorem Ctr.back {y : MethodName} {bytes : ByteArray} {ml : Nat} {ret : Option FieldType} {rm : Room} {as' : Array Value} {len W : Nat} (K : Ctr l Z y bytes ml ret rm as' h Q') (hH : Z.WarmedH s.vm) (wc : (Jvm.Cond.code y bytes ml ret).before a0 Z = true) (wz : (Jvm.Cond.initialized y.cls).before a0 Z = true) (hf : rm.frames + 1 ≤ R.frames) (hl : W + (ml + 11) + rm.locals ≤ R.locals) :
    Back l R p e below s args y len W (fun A a => a = as' ∧ A.U.heap = h ∧ A.cells + rm.cells ≤ R.cells ∧ A.slots + rm.slots ≤ R.slots) (fun A _ v B => ∃ L, Q' v B.U.heap L ∧ B.locs = A.locs ++ L ∧ B.cells = A.cells + rm.cells ∧ B.slots = A.slots + rm.slots) :=
  Back.of_free (bytes := bytes) (maxL := ml) (ret := ret) (E := fun _ _ o t L k n => k = rm.cells ∧ n = rm.slots ∧ ∃ v, o = .returned v ∧ Q' v t.heap L) (K []) hf hl
    (fun m meth c A a Y hp => have hU : Z.Warmed39 A.U.vm := wtrans hH.wide Y.warmed
      ⟨by show (Jvm.Cond.and _ .tt).before a A.U = true; rw [Cond.before_and, mv hU wc]; rfl, mv hU wc, mv hU wz, hp.2.2.1, hp.2.2.2⟩)
    (fun m meth c A a g mk Y hp => ⟨hp.1, hH.trans Y.warmed, hp.2.1⟩) (fun _ _ _ _ _ _ _ _ _ => trivial)
    (fun _ _ _ _ ⟨v, L, h1, h2, h3⟩ => ⟨L, _, _, h3, rfl, rfl, v, h1, h2⟩)
    (fun m meth c A a g mk v t L k n Y hp _ _ ⟨e1, e2, v', e3, e4⟩ => by cases e3; subst e1 e2; exact ⟨L, e4, rfl, rfl, rfl⟩)
theorem Run.callS (X : Stand p l e R s m args below meth c T locs cells slots) (hx : p.tables.exec = Jvm.exec) (hH : Z.WarmedH s.vm) (eT : T.heap = h) {own : String} {index : Nat} {y : MethodName} {bytes : ByteArray} {ml : Nat} {ret : Option FieldType} {rm : Room}
    (hown : s.vm.findClass own = some m.cls) (w1 : (Jvm.Cond.methodLink own index y).before a0 Z = true) (w2 : (Jvm.Cond.static y).before a0 Z = true) (w3 : (Jvm.Cond.initialized y.cls).before a0 Z = true) (w4 : (Jvm.Cond.code y bytes ml ret).before a0 Z = true)
    (hy : y.cls ≠ "java/lang/invoke/MethodHandle" ∧ y.cls ≠ "java/lang/invoke/VarHandle") {argsL rest : List Value} (K : Ctr l Z y bytes ml ret rm argsL.toArray h Q') {ps : List FieldType} {r : Option FieldType} (hpd : parseMethodDescriptor y.desc = some ⟨ps, r⟩) (hlen : argsL.length = ps.length)
    {pc : Nat} {Ls : Array Slot} (hsz : Ls.size = c.maxLocals) {W : Nat} (hW : (rest.map fun v => v.category).sum = W) (hf : rm.frames + 1 ≤ R.frames) (hl : W + (ml + 11) + rm.locals ≤ R.locals) (hc : cells + rm.cells ≤ R.cells) (hs : slots + rm.slots ≤ R.slots)
    (hd : decode c.code pc = .ok (.invokestatic index, 3)) {st : List Value} (hst : st = argsL.reverse ++ rest)
    (kk : ∀ (T' : State) (v : Option Value) (L : List Loc), Stand p l e R s m args below meth c T' (locs ++ L) (cells + rm.cells) (slots + rm.slots) → Q' v T'.heap L → Run p e below s Q k n (T'.setTop (mkF m (pc + 3) Ls (v.toList ++ rest)))) :
    Run p e below s Q k n (T.setTop (mkF m pc Ls st)) := by
  have hZ := hH.wide
  obtain ⟨v, _, ⟨T', L', k', n'⟩, -, X', ⟨L, hQ, l1, y1, z1⟩, st1⟩ := Jvm.LawKit.callS X hx (y := y) hown (mvT hZ w1) (mvT hZ w2) (mvT hZ w3) (mvT hZ w4) hy (K.back hH w4 w3 hf hl) (g := mkF m pc Ls st) rfl hsz (argsL := argsL) (rest := rest) (lenOf hpd hlen) hst (by show 2 * 0 + _ ≤ _; rw [hW]; omega) hd (fun _ _ => ⟨rfl, eT, hc, hs⟩)
  dsimp only [Pt.U, Pt.locs, Pt.cells, Pt.slots] at X' l1 y1 z1 st1 hQ
  subst l1 y1 z1
  exact Run.st st1 (kk T' v L X' hQ)
theorem Run.callC (X : Stand p l e R s m args below meth c T locs cells slots) (hx : p.tables.exec = Jvm.exec) (hH : Z.WarmedH s.vm) (eT : T.heap = h) {own : String} {index : Nat} {y : MethodName} {bytes : ByteArray} {ml : Nat} {rm : Room}
    (hown : s.vm.findClass own = some m.cls) (hy1 : y.name = "<init>") (w1 : (Jvm.Cond.methodLink own index y).before a0 Z = true) (w2 : (Jvm.Cond.instanceMethod y).before a0 Z = true) (w3 : (Jvm.Cond.initialized y.cls).before a0 Z = true) (w4 : (Jvm.Cond.code y bytes ml none).before a0 Z = true)
    (hy : y.cls ≠ "java/lang/invoke/MethodHandle" ∧ y.cls ≠ "java/lang/invoke/VarHandle") {a : Addr} {argsL rest : List Value} (K : Ctr l Z y bytes ml none rm (.ref a :: argsL).toArray h Q') {ps : List FieldType} {r : Option FieldType} (hpd : parseMethodDescriptor y.desc = some ⟨ps, r⟩) (hlen : argsL.length = ps.length)
    {pc : Nat} {Ls : Array Slot} (hsz : Ls.size = c.maxLocals) {W : Nat} (hW : (rest.map fun v => v.category).sum = W) (hf : rm.frames + 1 ≤ R.frames) (hl : W + (ml + 11) + rm.locals ≤ R.locals) (hc : cells + rm.cells ≤ R.cells) (hs : slots + rm.slots ≤ R.slots)
    (hd : decode c.code pc = .ok (.invokespecial index, 3)) {st : List Value} (hst : st = argsL.reverse ++ .ref a :: rest)
    (kk : ∀ (T' : State) (v : Option Value) (L : List Loc), Stand p l e R s m args below meth c T' (locs ++ L) (cells + rm.cells) (slots + rm.slots) → Q' v T'.heap L → Run p e below s Q k n (T'.setTop (mkF m (pc + 3) Ls (v.toList ++ rest)))) :
    Run p e below s Q k n (T.setTop (mkF m pc Ls st)) := by
  have hZ := hH.wide
  obtain ⟨v, _, ⟨T', L', k', n'⟩, -, X', ⟨L, hQ, l1, y1, z1⟩, st1⟩ := X.specialBack hx (y := y) hy1 hown (mvT hZ w1) (mvT hZ w2) (mvT hZ w4) hy (K.back hH w4 w3 hf hl) (g := mkF m pc Ls st) rfl hsz (Steps.refl _) (a := a) (argsL := argsL) (rest := rest) (lenOf hpd hlen) hst (by show 2 * 0 + _ ≤ _; rw [hW]; omega) hd (fun _ _ => ⟨rfl, eT, hc, hs⟩)
  dsimp only [Pt.U, Pt.locs, Pt.cells, Pt.slots] at X' l1 y1 z1 st1 hQ
  subst l1 y1 z1
  exact Run.st (fun t q => st1.trans q) (kk T' v L X' hQ)
/-- 'invokevirtual', the body that the receiver's class selects -/
theorem Run.callV (X : Stand p l e R s m args below meth c T locs cells slots) (hx : p.tables.exec = Jvm.exec) (hH : Z.WarmedH s.vm) (eT : T.heap = h) {own C : String} {index : Nat} {y z : MethodName} {bytes : ByteArray} {ml : Nat} {ret : Option FieldType} {rm : Room}
    (hown : s.vm.findClass own = some m.cls) (w1 : (Jvm.Cond.methodLink own index y).before a0 Z = true) (w2 : (Jvm.Cond.declares y).before a0 Z = true) (hnf : NotFace s y) (w5 : (Jvm.Cond.selects C y z).before a0 Z = true) (w6 : (Jvm.Cond.instanceMethod z).before a0 Z = true) (w3 : (Jvm.Cond.initialized z.cls).before a0 Z = true) (w4 : (Jvm.Cond.code z bytes ml ret).before a0 Z = true)
    (hy : y.cls ≠ "java/lang/invoke/MethodHandle" ∧ y.cls ≠ "java/lang/invoke/VarHandle") {a : Addr} (E : Exa Z h a C) {argsL rest : List Value} (K : Ctr l Z z bytes ml ret rm (.ref a :: argsL).toArray h Q') {ps : List FieldType} {r : Option FieldType} (hpd : parseMethodDescriptor y.desc = some ⟨ps, r⟩) (hlen : argsL.length = ps.length)
    {pc : Nat} {Ls : Array Slot} (hsz : Ls.size = c.maxLocals) {W : Nat} (hW : (rest.map fun v => v.category).sum = W) (hf : rm.frames + 1 ≤ R.frames) (hl : W + (ml + 11) + rm.locals ≤ R.locals) (hc : cells + rm.cells ≤ R.cells) (hs : slots + rm.slots ≤ R.slots)
    (hd : decode c.code pc = .ok (.invokevirtual index, 3)) {st : List Value} (hst : st = argsL.reverse ++ .ref a :: rest)
    (kk : ∀ (T' : State) (v : Option Value) (L : List Loc), Stand p l e R s m args below meth c T' (locs ++ L) (cells + rm.cells) (slots + rm.slots) → Q' v T'.heap L → Run p e below s Q k n (T'.setTop (mkF m (pc + 3) Ls (v.toList ++ rest)))) :
    Run p e below s Q k n (T.setTop (mkF m pc Ls st)) := by
  have hZ := hH.wide
  obtain ⟨cq, kq, qa, qb, qc⟩ := isOf hZ eT E
  obtain ⟨v, _, ⟨T', L', k', n'⟩, -, X', ⟨L, hQ, l1, y1, z1⟩, st1⟩ := X.virtualBack hx (y := y) (z := z) hown (mvT hZ w1) (mvT hZ w2) hnf (mvT hZ w5) (mvT hZ w6) hy (K.back hH w4 w3 hf hl) qa qc (g := mkF m pc Ls st) rfl hsz (Steps.refl _) (argsL := argsL) (rest := rest) (lenOf hpd hlen) hst (by show 2 * 0 + _ ≤ _; rw [hW]; omega) hd (fun _ _ => ⟨rfl, eT, hc, hs⟩)
  dsimp only [Pt.U, Pt.locs, Pt.cells, Pt.slots] at X' l1 y1 z1 st1 hQ
  subst l1 y1 z1
  exact Run.st (fun t q => st1.trans q) (kk T' v L X' hQ)
theorem Run.init (X : Stand p l e R s m args below meth c T locs cells slots) (hx : p.tables.exec = Jvm.exec) (hZ : Z.Warmed39 s.vm) (eT : T.heap = h) {own : String} {idx : Nat} (hown : s.vm.findClass own = some m.cls) (w1 : (Jvm.Cond.methodLink own idx Lib.objectInit).before a0 Z = true) (w2 : (Jvm.Cond.instanceMethod Lib.objectInit).before a0 Z = true)
    (w3 : (Jvm.Cond.code Lib.objectInit ⟨#[0xb1]⟩ 1 none).before a0 Z = true) {pc : Nat} {Ls : Array Slot} (hsz : Ls.size = c.maxLocals) {a : Addr} {rest : List Value} (hd : decode c.code pc = .ok (.invokespecial idx, 3)) (hf : 1 ≤ R.frames) {W : Nat} (hW : (rest.map fun v => v.category).sum = W) (hl : W + 12 ≤ R.locals)
    (kk : ∀ (T' : State), Stand p l e R s m args below meth c T' locs cells slots → T'.heap = h → Run p e below s Q k n (T'.setTop (mkF m (pc + 3) Ls rest))) :
    Run p e below s Q k n (T.setTop (mkF m pc Ls (.ref a :: rest))) := by
  obtain ⟨T', X', e', st'⟩ := initO X hx hZ hown w1 w2 w3 eT (g := mkF m pc Ls (.ref a :: rest)) rfl hsz rfl hd hf (W := W) (by show 2 * 0 + _ ≤ _; rw [hW]; omega) hl
  exact Run.st st' (kk T' X' e')
theorem Run.x_iloadN (X : Stand p l e R s m args below meth c T locs cells slots) (hx : p.tables.exec = Jvm.exec) {pc q : Nat} {Ls : Array Slot} {S : List Value} {j : Fin 4} {v : Int32} (hd : decode c.code pc = .ok (.iload_n j, 1)) (hl : Ls[j.val]? = some (.val (.int v))) (hq : pc + 1 = q) (r : Run p e below s Q k n (T.setTop (mkF m q Ls (.int v :: S)))) : Run p e below s Q k n (T.setTop (mkF m pc Ls (S))) := by
  subst hq; exact Run.st (fun t kt => XS.iloadN X.here hx rfl hd hl kt) r
theorem Run.x_iload (X : Stand p l e R s m args below meth c T locs cells slots) (hx : p.tables.exec = Jvm.exec) {pc q : Nat} {Ls : Array Slot} {S : List Value} {j : Nat} {v : Int32} (hd : decode c.code pc = .ok (.iload j, 2)) (hl : Ls[j]? = some (.val (.int v))) (hq : pc + 2 = q) (r : Run p e below s Q k n (T.setTop (mkF m q Ls (.int v :: S)))) : Run p e below s Q k n (T.setTop (mkF m pc Ls (S))) := by
  subst hq; exact Run.st (fun t kt => XS.iload X.here hx rfl hd hl kt) r
theorem Run.x_lloadN (X : Stand p l e R s m args below meth c T locs cells slots) (hx : p.tables.exec = Jvm.exec) {pc q : Nat} {Ls : Array Slot} {S : List Value} {j : Fin 4} {v : Int64} (hd : decode c.code pc = .ok (.lload_n j, 1)) (hl : Ls[j.val]? = some (.val (.long v))) (hq : pc + 1 = q) (r : Run p e below s Q k n (T.setTop (mkF m q Ls (.long v :: S)))) : Run p e below s Q k n (T.setTop (mkF m pc Ls (S))) := by
  subst hq; exact Run.st (fun t kt => XS.lloadN X.here hx rfl hd hl kt) r
theorem Run.x_lload (X : Stand p l e R s m args below meth c T locs cells slots) (hx : p.tables.exec = Jvm.exec) {pc q : Nat} {Ls : Array Slot} {S : List Value} {j : Nat} {v : Int64} (hd : decode c.code pc = .ok (.lload j, 2)) (hl : Ls[j]? = some (.val (.long v))) (hq : pc + 2 = q) (r : Run p e below s Q k n (T.setTop (mkF m q Ls (.long v :: S)))) : Run p e below s Q k n (T.setTop (mkF m pc Ls (S))) := by
  subst hq; exact Run.st (fun t kt => XS.lload X.here hx rfl hd hl kt) r
theorem Run.x_aloadN (X : Stand p l e R s m args below meth c T locs cells slots) (hx : p.tables.exec = Jvm.exec) {pc q : Nat} {Ls : Array Slot} {S : List Value} {j : Fin 4} {v : Value} (hd : decode c.code pc = .ok (.aload_n j, 1)) (hl : Ls[j.val]? = some (.val v)) (hv : v.isRef = true) (hq : pc + 1 = q) (r : Run p e below s Q k n (T.setTop (mkF m q Ls (v :: S)))) : Run p e below s Q k n (T.setTop (mkF m pc Ls (S))) := by
  subst hq; exact Run.st (fun t kt => XS.aloadN X.here hx rfl hd hl hv kt) r
theorem Run.x_aload (X : Stand p l e R s m args below meth c T locs cells slots) (hx : p.tables.exec = Jvm.exec) {pc q : Nat} {Ls : Array Slot} {S : List Value} {j : Nat} {v : Value} (hd : decode c.code pc = .ok (.aload j, 2)) (hl : Ls[j]? = some (.val v)) (hv : v.isRef = true) (hq : pc + 2 = q) (r : Run p e below s Q k n (T.setTop (mkF m q Ls (v :: S)))) : Run p e below s Q k n (T.setTop (mkF m pc Ls (S))) := by
  subst hq; exact Run.st (fun t kt => XS.aload X.here hx rfl hd hl hv kt) r
theorem Run.x_istoreN (X : Stand p l e R s m args below meth c T locs cells slots) (hx : p.tables.exec = Jvm.exec) {pc q : Nat} {Ls : Array Slot} {S : List Value} {j : Fin 4} {v : Int32} (L' : Array Slot) (hd : decode c.code pc = .ok (.istore_n j, 1)) (hl : storeLocals Ls j.val (.int v) = some L') (hq : pc + 1 = q) (r : Run p e below s Q k n (T.setTop (mkF m q L' (S)))) : Run p e below s Q k n (T.setTop (mkF m pc Ls (.int v :: S))) := by
  subst hq; exact Run.st (fun t kt => XS.istoreN X.here hx rfl hd rfl hl kt) r
theorem Run.x_istore (X : Stand p l e R s m args below meth c T locs cells slots) (hx : p.tables.exec = Jvm.exec) {pc q : Nat} {Ls : Array Slot} {S : List Value} {j : Nat} {v : Int32} (L' : Array Slot) (hd : decode c.code pc = .ok (.istore j, 2)) (hl : storeLocals Ls j (.int v) = some L') (hq : pc + 2 = q) (r : Run p e below s Q k n (T.setTop (mkF m q L' (S)))) : Run p e below s Q k n (T.setTop (mkF m pc Ls (.int v :: S))) := by
  subst hq; exact Run.st (fun t kt => XS.istore X.here hx rfl hd rfl hl kt) r
theorem Run.x_lstoreN (X : Stand p l e R s m args below meth c T locs cells slots) (hx : p.tables.exec = Jvm.exec) {pc q : Nat} {Ls : Array Slot} {S : List Value} {j : Fin 4} {v : Int64} (L' : Array Slot) (hd : decode c.code pc = .ok (.lstore_n j, 1)) (hl : storeLocals Ls j.val (.long v) = some L') (hq : pc + 1 = q) (r : Run p e below s Q k n (T.setTop (mkF m q L' (S)))) : Run p e below s Q k n (T.setTop (mkF m pc Ls (.long v :: S))) := by
  subst hq; exact Run.st (fun t kt => XS.lstoreN X.here hx rfl hd rfl hl kt) r
theorem Run.x_lstore (X : Stand p l e R s m args below meth c T locs cells slots) (hx : p.tables.exec = Jvm.exec) {pc q : Nat} {Ls : Array Slot} {S : List Value} {j : Nat} {v : Int64} (L' : Array Slot) (hd : decode c.code pc = .ok (.lstore j, 2)) (hl : storeLocals Ls j (.long v) = some L') (hq : pc + 2 = q) (r : Run p e below s Q k n (T.setTop (mkF m q L' (S)))) : Run p e below s Q k n (T.setTop (mkF m pc Ls (.long v :: S))) := by
  subst hq; exact Run.st (fun t kt => XS.lstore X.here hx rfl hd rfl hl kt) r
theorem Run.x_astoreN (X : Stand p l e R s m args below meth c T locs cells slots) (hx : p.tables.exec = Jvm.exec) {pc q : Nat} {Ls : Array Slot} {S : List Value} {j : Fin 4} {v : Value} (L' : Array Slot) (hd : decode c.code pc = .ok (.astore_n j, 1)) (hv : v.isRef = true) (hl : storeLocals Ls j.val v = some L') (hq : pc + 1 = q) (r : Run p e below s Q k n (T.setTop (mkF m q L' (S)))) : Run p e below s Q k n (T.setTop (mkF m pc Ls (v :: S))) := by
  subst hq; exact Run.st (fun t kt => XS.astoreN X.here hx rfl hd rfl hv hl kt) r
theorem Run.x_astore (X : Stand p l e R s m args below meth c T locs cells slots) (hx : p.tables.exec = Jvm.exec) {pc q : Nat} {Ls : Array Slot} {S : List Value} {j : Nat} {v : Value} (L' : Array Slot) (hd : decode c.code pc = .ok (.astore j, 2)) (hv : v.isRef = true) (hl : storeLocals Ls j v = some L') (hq : pc + 2 = q) (r : Run p e below s Q k n (T.setTop (mkF m q L' (S)))) : Run p e below s Q k n (T.setTop (mkF m pc Ls (v :: S))) := by
  subst hq; exact Run.st (fun t kt => XS.astore X.here hx rfl hd rfl hv hl kt) r
theorem Run.x_iconst (X : Stand p l e R s m args below meth c T locs cells slots) (hx : p.tables.exec = Jvm.exec) {pc q : Nat} {Ls : Array Slot} {S : List Value} {i : Int} {z : Int32} (hd : decode c.code pc = .ok (.iconst i, 1)) (hz : Int32.ofInt i = z) (hq : pc + 1 = q) (r : Run p e below s Q k n (T.setTop (mkF m q Ls (.int z :: S)))) : Run p e below s Q k n (T.setTop (mkF m pc Ls (S))) := by
  subst hq; subst hz; exact Run.st (fun t kt => XS.iconst X.here hx rfl hd kt) r
theorem Run.x_bipush (X : Stand p l e R s m args below meth c T locs cells slots) (hx : p.tables.exec = Jvm.exec) {pc q : Nat} {Ls : Array Slot} {S : List Value} {i : Int} {z : Int32} (hd : decode c.code pc = .ok (.bipush i, 2)) (hz : (Int8.ofInt i).toInt32 = z) (hq : pc + 2 = q) (r : Run p e below s Q k n (T.setTop (mkF m q Ls (.int z :: S)))) : Run p e below s Q k n (T.setTop (mkF m pc Ls (S))) := by
  subst hq; subst hz; exact Run.st (fun t kt => XS.bipush X.here hx rfl hd kt) r
theorem Run.x_lconst (X : Stand p l e R s m args below meth c T locs cells slots) (hx : p.tables.exec = Jvm.exec) {pc q : Nat} {Ls : Array Slot} {S : List Value} {i : Fin 2} {z : Int64} (hd : decode c.code pc = .ok (.lconst i, 1)) (hz : Int64.ofNat i = z) (hq : pc + 1 = q) (r : Run p e below s Q k n (T.setTop (mkF m q Ls (.long z :: S)))) : Run p e below s Q k n (T.setTop (mkF m pc Ls (S))) := by
  subst hq; subst hz; exact Run.st (fun t kt => XS.lconst X.here hx rfl hd kt) r
theorem Run.x_null (X : Stand p l e R s m args below meth c T locs cells slots) (hx : p.tables.exec = Jvm.exec) {pc q : Nat} {Ls : Array Slot} {S : List Value}  (hd : decode c.code pc = .ok (.aconst_null, 1)) (hq : pc + 1 = q) (r : Run p e below s Q k n (T.setTop (mkF m q Ls (.null :: S)))) : Run p e below s Q k n (T.setTop (mkF m pc Ls (S))) := by
  subst hq; exact Run.st (fun t kt => XS.aconstNull X.here hx rfl hd kt) r
theorem Run.x_iadd (X : Stand p l e R s m args below meth c T locs cells slots) (hx : p.tables.exec = Jvm.exec) {pc q : Nat} {Ls : Array Slot} {S : List Value} {x y z : Int32} (hd : decode c.code pc = .ok (.iadd, 1)) (hz : x + y = z) (hq : pc + 1 = q) (r : Run p e below s Q k n (T.setTop (mkF m q Ls (.int z :: S)))) : Run p e below s Q k n (T.setTop (mkF m pc Ls (.int y :: .int x :: S))) := by
  subst hq; subst hz; exact Run.st (fun t kt => XS.iadd X.here hx rfl hd rfl kt) r
theorem Run.x_isub (X : Stand p l e R s m args below meth c T locs cells slots) (hx : p.tables.exec = Jvm.exec) {pc q : Nat} {Ls : Array Slot} {S : List Value} {x y z : Int32} (hd : decode c.code pc = .ok (.isub, 1)) (hz : x - y = z) (hq : pc + 1 = q) (r : Run p e below s Q k n (T.setTop (mkF m q Ls (.int z :: S)))) : Run p e below s Q k n (T.setTop (mkF m pc Ls (.int y :: .int x :: S))) := by
  subst hq; subst hz; exact Run.st (fun t kt => XS.isub X.here hx rfl hd rfl kt) r
theorem Run.x_iand (X : Stand p l e R s m args below meth c T locs cells slots) (hx : p.tables.exec = Jvm.exec) {pc q : Nat} {Ls : Array Slot} {S : List Value} {x y z : Int32} (hd : decode c.code pc = .ok (.iand, 1)) (hz : x &&& y = z) (hq : pc + 1 = q) (r : Run p e below s Q k n (T.setTop (mkF m q Ls (.int z :: S)))) : Run p e below s Q k n (T.setTop (mkF m pc Ls (.int y :: .int x :: S))) := by
  subst hq; subst hz; exact Run.st (fun t kt => XS.iand X.here hx rfl hd rfl kt) r
theorem Run.x_iushr (X : Stand p l e R s m args below meth c T locs cells slots) (hx : p.tables.exec = Jvm.exec) {pc q : Nat} {Ls : Array Slot} {S : List Value} {x y z : Int32} (hd : decode c.code pc = .ok (.iushr, 1)) (hz : (x.toUInt32 >>> (y &&& 31).toUInt32).toInt32 = z) (hq : pc + 1 = q) (r : Run p e below s Q k n (T.setTop (mkF m q Ls (.int z :: S)))) : Run p e below s Q k n (T.setTop (mkF m pc Ls (.int y :: .int x :: S))) := by
  subst hq; subst hz; exact Run.st (fun t kt => XS.iushr X.here hx rfl hd rfl kt) r
theorem Run.x_i2l (X : Stand p l e R s m args below meth c T locs cells slots) (hx : p.tables.exec = Jvm.exec) {pc q : Nat} {Ls : Array Slot} {S : List Value} {x : Int32} {z : Int64} (hd : decode c.code pc = .ok (.i2l, 1)) (hz : x.toInt64 = z) (hq : pc + 1 = q) (r : Run p e below s Q k n (T.setTop (mkF m q Ls (.long z :: S)))) : Run p e below s Q k n (T.setTop (mkF m pc Ls (.int x :: S))) := by
  subst hq; subst hz; exact Run.st (fun t kt => XS.i2l X.here hx rfl hd rfl kt) r
theorem Run.x_lcmp (X : Stand p l e R s m args below meth c T locs cells slots) (hx : p.tables.exec = Jvm.exec) {pc q : Nat} {Ls : Array Slot} {S : List Value} {x y : Int64} (hd : decode c.code pc = .ok (.lcmp, 1)) (hq : pc + 1 = q) (r : Run p e below s Q k n (T.setTop (mkF m q Ls (.int (lcmpW x y) :: S)))) : Run p e below s Q k n (T.setTop (mkF m pc Ls (.long y :: .long x :: S))) := by
  subst hq; exact Run.st (fun t kt => XS.lcmp X.here hx rfl hd rfl kt) r
theorem Run.x_iinc (X : Stand p l e R s m args below meth c T locs cells slots) (hx : p.tables.exec = Jvm.exec) {pc q : Nat} {Ls : Array Slot} {S : List Value} {j : Nat} {i : Int} {x z : Int32} (L' : Array Slot) (hd : decode c.code pc = .ok (.iinc j i, 3)) (hl : Ls[j]? = some (.val (.int x))) (hz : x + Int32.ofInt i = z) (hl' : storeLocals Ls j (.int z) = some L') (hq : pc + 3 = q) (r : Run p e below s Q k n (T.setTop (mkF m q L' (S)))) : Run p e below s Q k n (T.setTop (mkF m pc Ls (S))) := by
  subst hq; subst hz; exact Run.st (fun t kt => XS.iinc X.here hx rfl hd hl hl' kt) r
theorem Run.x_dup (X : Stand p l e R s m args below meth c T locs cells slots) (hx : p.tables.exec = Jvm.exec) {pc q : Nat} {Ls : Array Slot} {S : List Value} {v : Value} (hd : decode c.code pc = .ok (.dup, 1)) (hc : v.category = 1) (hq : pc + 1 = q) (r : Run p e below s Q k n (T.setTop (mkF m q Ls (v :: v :: S)))) : Run p e below s Q k n (T.setTop (mkF m pc Ls (v :: S))) := by
  subst hq; exact Run.st (fun t kt => XS.dup X.here hx rfl hd rfl hc kt) r
theorem Run.x_dup_x1 (X : Stand p l e R s m args below meth c T locs cells slots) (hx : p.tables.exec = Jvm.exec) {pc q : Nat} {Ls : Array Slot} {S : List Value} {v w : Value} (hd : decode c.code pc = .ok (.dup_x1, 1)) (hc : v.category = 1) (hc' : w.category = 1) (hq : pc + 1 = q) (r : Run p e below s Q k n (T.setTop (mkF m q Ls (v :: w :: v :: S)))) : Run p e below s Q k n (T.setTop (mkF m pc Ls (v :: w :: S))) := by
  subst hq; exact Run.st (fun t kt => XS.dupX1 X.here hx rfl hd rfl hc hc' kt) r
theorem Run.x_pop (X : Stand p l e R s m args below meth c T locs cells slots) (hx : p.tables.exec = Jvm.exec) {pc q : Nat} {Ls : Array Slot} {S : List Value} {v : Value} (hd : decode c.code pc = .ok (.pop, 1)) (hc : v.category = 1) (hq : pc + 1 = q) (r : Run p e below s Q k n (T.setTop (mkF m q Ls (S)))) : Run p e below s Q k n (T.setTop (mkF m pc Ls (v :: S))) := by
  subst hq; exact Run.st (fun t kt => XS.pop X.here hx rfl hd rfl hc kt) r
theorem Run.x_goto (X : Stand p l e R s m args below meth c T locs cells slots) (hx : p.tables.exec = Jvm.exec) {pc q : Nat} {Ls : Array Slot} {S : List Value}  {o : Int} (hd : decode c.code pc = .ok (.goto o, 3)) (ho : 0 ≤ (pc : Int) + o) (hq : ((pc : Int) + o).toNat = q) (r : Run p e below s Q k n (T.setTop (mkF m q Ls (S)))) : Run p e below s Q k n (T.setTop (mkF m pc Ls (S))) :=
  Run.st (fun t kt => XS.goto X.here hx rfl (pc0 := pc) (pc' := q) rfl hd ho hq kt) r
theorem Run.x_ifYes (X : Stand p l e R s m args below meth c T locs cells slots) (hx : p.tables.exec = Jvm.exec) {pc q : Nat} {Ls : Array Slot} {S : List Value} {cd : ClassFile.Cond} {x : Int32} {o : Int} (hd : decode c.code pc = .ok (.ifCond cd o, 3)) (hc : ifCond.holds cd x = true) (ho : 0 ≤ (pc : Int) + o) (hq : ((pc : Int) + o).toNat = q) (r : Run p e below s Q k n (T.setTop (mkF m q Ls (S)))) : Run p e below s Q k n (T.setTop (mkF m pc Ls (.int x :: S))) :=
  Run.st (fun t kt => XS.ifYes X.here hx rfl (pc0 := pc) (pc' := q) rfl hd rfl hc ho hq kt) r
theorem Run.x_icmpYes (X : Stand p l e R s m args below meth c T locs cells slots) (hx : p.tables.exec = Jvm.exec) {pc q : Nat} {Ls : Array Slot} {S : List Value} {cd : ClassFile.Cond} {x y : Int32} {o : Int} (hd : decode c.code pc = .ok (.if_icmp cd o, 3)) (hc : if_icmp.holds cd x y = true) (ho : 0 ≤ (pc : Int) + o) (hq : ((pc : Int) + o).toNat = q) (r : Run p e below s Q k n (T.setTop (mkF m q Ls (S)))) : Run p e below s Q k n (T.setTop (mkF m pc Ls (.int y :: .int x :: S))) :=
  Run.st (fun t kt => XS.icmpYes X.here hx rfl (pc0 := pc) (pc' := q) rfl hd rfl hc ho hq kt) r
theorem Run.x_ifNo (X : Stand p l e R s m args below meth c T locs cells slots) (hx : p.tables.exec = Jvm.exec) {pc q : Nat} {Ls : Array Slot} {S : List Value} {cd : ClassFile.Cond} {x : Int32} {o : Int} (hd : decode c.code pc = .ok (.ifCond cd o, 3)) (hc : ifCond.holds cd x = false) (hq : pc + 3 = q) (r : Run p e below s Q k n (T.setTop (mkF m q Ls (S)))) : Run p e below s Q k n (T.setTop (mkF m pc Ls (.int x :: S))) := by
  subst hq; exact Run.st (fun t kt => XS.ifNo X.here hx rfl hd rfl hc kt) r
theorem Run.x_icmpNo (X : Stand p l e R s m args below meth c T locs cells slots) (hx : p.tables.exec = Jvm.exec) {pc q : Nat} {Ls : Array Slot} {S : List Value} {cd : ClassFile.Cond} {x y : Int32} {o : Int} (hd : decode c.code pc = .ok (.if_icmp cd o, 3)) (hc : if_icmp.holds cd x y = false) (hq : pc + 3 = q) (r : Run p e below s Q k n (T.setTop (mkF m q Ls (S)))) : Run p e below s Q k n (T.setTop (mkF m pc Ls (.int y :: .int x :: S))) := by
  subst hq; exact Run.st (fun t kt => XS.icmpNo X.here hx rfl hd rfl hc kt) r
/-- an array and all that it holds -/
def Ars (Z : State) (h : Heap) (a : Addr) (ty : FieldType) (vs : List Value) : Prop := ∃ c : Cell, Arr Z h a c ty ∧ c.slots.toList = vs
variable {a b : Addr} {ty : FieldType} {vs : List Value} {v : Value} {sl : Nat} {ws : List Addr}
theorem Ars.lt (A : Ars Z h a ty vs) : a < h.size := by obtain ⟨c, A, -⟩ := A; exact A.lt
theorem Ars.ext (A : Ars Z h a ty vs) (E : Ext h h') : Ars Z h' a ty vs := by obtain ⟨c, A, r⟩ := A; exact ⟨c, A.ext E, r⟩
theorem Ars.other (A : Ars Z h b ty vs) (W : Wr h h' a sl v) (q : b ≠ a) : Ars Z h' b ty vs := by obtain ⟨c, A, r⟩ := A; exact ⟨c, A.other W q, r⟩
theorem Ars.keep (A : Ars Z h a ty vs) (K : Keep h h' ws) (q : a ∉ ws) : Ars Z h' a ty vs := by obtain ⟨c, A, r⟩ := A; exact ⟨c, ⟨K.2.1 a c A.1 q, A.2⟩, r⟩
theorem Ars.same (A : Ars Z h a ty vs) (W : Wr h h' a sl v) : Ars Z h' a ty (vs.set sl v) := by
  obtain ⟨c, A, r⟩ := A
  exact ⟨_, A.same W, by subst r; simp [Cell.setSlot]⟩
theorem Ars.new {k : ClassId} {z : Int32} (A : Arr Z h a (newA k ty z) ty) : Ars Z h a ty (List.replicate z.toNatClampNeg (defaultValue ty)) := ⟨_, A, by simp [newA]⟩
theorem in_of {c : Cell} {j : Int32} {i : Nat} (e : c.slots.toList = vs) (hj : j.toInt = i) (hi : i < vs.length) : ¬ (j < 0 ∨ c.slots.size ≤ j.toNatClampNeg) ∧ j.toNatClampNeg = i := by
  have e2 : j.toNatClampNeg = i := by show j.toInt.toNat = i; rw [hj]; rfl
  have e3 : c.slots.size = vs.length := by rw [← e]; simp
  refine ⟨?_, e2⟩
  rw [e2, e3, Int32.lt_iff_toInt_lt, hj]
  have : (0 : Int32).toInt = 0 := rfl
  omega
theorem at_of {c : Cell} {j : Int32} {i : Nat} (e : c.slots.toList = vs) (hj : j.toInt = i) (hi : vs[i]? = some v) : ¬ (j < 0 ∨ c.slots.size ≤ j.toNatClampNeg) ∧ c.slots[j.toNatClampNeg]? = some v := by
  obtain ⟨q, e2⟩ := in_of e hj (List.getElem?_eq_some_iff.mp hi).1
  refine ⟨q, ?_⟩
  rw [e2, ← hi, ← e]; simp
theorem Run.newP (X : Stand p l e R s m args below meth c T locs cells slots) (hx : p.tables.exec = Jvm.exec) (hZ : Z.Warmed39 s.vm) (eT : T.heap = h) {aty : ArrayType} (w : (Jvm.Cond.arrayClass (newarray.typeOf aty)).before a0 Z = true) {pc : Nat} {Ls : Array Slot} {z : Int32} {rest : List Value} (hd : decode c.code pc = .ok (.newarray aty, 2))
    {len : Nat} (hz : ¬ z < 0) (hlen : z.toNatClampNeg = len) {cap : Nat} (hcap : len ≤ cap) (hb : cap * 8 ≤ 536870912) (hc : cells + 1 ≤ R.cells) (hl : slots + cap ≤ R.slots)
    (kk : ∀ (T' : State) (h' : Heap) (b : Addr), b = h.size → Stand p l e R s m args below meth c T' locs (cells + 1) (slots + cap) → T'.heap = h' → Ext h h' → Ars Z h' b (newarray.typeOf aty) (List.replicate len (defaultValue (newarray.typeOf aty))) → Run p e below s Q k n (T'.setTop (mkF m (pc + 2) Ls (.ref b :: rest)))) :
    Run p e below s Q k n (T.setTop (mkF m pc Ls (.int z :: rest))) := by
  obtain ⟨T', h', k', X', e', E', A', st'⟩ := RoadKit.newP X hx hZ w eT (g := mkF m pc Ls (.int z :: rest)) rfl hd rfl hz (cap := cap) (by rw [hlen]; exact hcap) hb hc hl
  have A2 := Ars.new A'
  rw [hlen] at A2
  exact Run.st st' (kk T' h' _ rfl X' e' E' A2)
theorem Run.ldJ (X : Stand p l e R s m args below meth c T locs cells slots) (hx : p.tables.exec = Jvm.exec) (hZ : Z.Warmed39 s.vm) (eT : T.heap = h) (A : Ars Z h a .long vs) {j : Int32} {i : Nat} (hj : j.toInt = i) (hi : vs[i]? = some v) {pc : Nat} {Ls : Array Slot} {rest : List Value} (hd : decode c.code pc = .ok (.laload, 1))
    (r : Run p e below s Q k n (T.setTop (mkF m (pc + 1) Ls (v :: rest)))) : Run p e below s Q k n (T.setTop (mkF m pc Ls (.int j :: .ref a :: rest))) := by
  obtain ⟨cl, A, q⟩ := A
  obtain ⟨q1, q2⟩ := at_of q hj hi
  exact Run.st (fun t kt => X.laload hx (j := j) (v := v) (by rw [eT]; exact A.1) (State.isArrayOf_alike hZ.alike A.2.1) A.2.2 q1 q2 (g := mkF m pc Ls (.int j :: .ref a :: rest)) rfl rfl hd _ kt) r
theorem Run.ldR (X : Stand p l e R s m args below meth c T locs cells slots) (hx : p.tables.exec = Jvm.exec) (hZ : Z.Warmed39 s.vm) (eT : T.heap = h) (A : Ars Z h a ty vs) {j : Int32} {i : Nat} (hj : j.toInt = i) (hi : vs[i]? = some v) (hty : ty.isReference = true) {pc : Nat} {Ls : Array Slot} {rest : List Value} (hd : decode c.code pc = .ok (.aaload, 1))
    (r : Run p e below s Q k n (T.setTop (mkF m (pc + 1) Ls (v :: rest)))) : Run p e below s Q k n (T.setTop (mkF m pc Ls (.int j :: .ref a :: rest))) := by
  obtain ⟨cl, A, q⟩ := A
  obtain ⟨q1, q2⟩ := at_of q hj hi
  exact Run.st (fun t kt => X.aaload hx (j := j) (v := v) (by rw [eT]; exact A.1) (State.isArrayOf_alike hZ.alike A.2.1) hty A.2.2 q1 q2 (g := mkF m pc Ls (.int j :: .ref a :: rest)) rfl rfl hd _ kt) r
theorem Run.alen (X : Stand p l e R s m args below meth c T locs cells slots) (hx : p.tables.exec = Jvm.exec) (hZ : Z.Warmed39 s.vm) (eT : T.heap = h) (A : Ars Z h a ty vs) {z : Int32} (hz : vs.length.toInt32 = z) {pc : Nat} {Ls : Array Slot} {rest : List Value} (hd : decode c.code pc = .ok (.arraylength, 1))
    (r : Run p e below s Q k n (T.setTop (mkF m (pc + 1) Ls (.int z :: rest)))) : Run p e below s Q k n (T.setTop (mkF m pc Ls (.ref a :: rest))) := by
  obtain ⟨cl, A, q⟩ := A
  have e1 : cl.slots.size.toInt32 = z := by rw [← hz, ← q]; simp
  rw [← e1] at r
  exact Run.st (fun t kt => X.arraylength hx (by rw [eT]; exact A.1) (State.isArrayOf_alike hZ.alike A.2.1) (g := mkF m pc Ls (.ref a :: rest)) rfl rfl hd _ kt) r
theorem Run.stJ (X : Stand p l e R s m args below meth c T locs cells slots) (hx : p.tables.exec = Jvm.exec) (hZ : Z.Warmed39 s.vm) (eT : T.heap = h) (A : Ars Z h a .long vs) {j : Int32} {z : Int64} {i : Nat} (hj : j.toInt = i) (hi : i < vs.length) {pc : Nat} {Ls : Array Slot} {rest : List Value} (hd : decode c.code pc = .ok (.lastore, 1))
    (kk : ∀ (T' : State) (h' : Heap), Stand p l e R s m args below meth c T' (locs ++ [⟨a, i⟩]) cells slots → T'.heap = h' → Wr h h' a i (.long z) → Ars Z h' a .long (vs.set i (.long z)) → Run p e below s Q k n (T'.setTop (mkF m (pc + 1) Ls rest))) : Run p e below s Q k n (T.setTop (mkF m pc Ls (.long z :: .int j :: .ref a :: rest))) := by
  obtain ⟨cl, A1, q⟩ := id A
  obtain ⟨q1, q2⟩ := in_of q hj hi
  obtain ⟨T', h', X', e', W', st'⟩ := RoadKit.stJ X hx hZ eT A1 (j := j) (x := z) q1 (g := mkF m pc Ls (.long z :: .int j :: .ref a :: rest)) rfl rfl hd
  rw [q2] at X' W'
  exact Run.st st' (kk T' h' X' e' W' (A.same W'))
theorem Run.stR (X : Stand p l e R s m args below meth c T locs cells slots) (hx : p.tables.exec = Jvm.exec) (hZ : Z.Warmed39 s.vm) (eT : T.heap = h) (A : Ars Z h a ty vs) {j : Int32} {i : Nat} (hj : j.toInt = i) (hi : i < vs.length) (hty : ty.isReference = true) (F : Sto Z h a v) {pc : Nat} {Ls : Array Slot} {rest : List Value} (hd : decode c.code pc = .ok (.aastore, 1))
    (kk : ∀ (T' : State) (h' : Heap), Stand p l e R s m args below meth c T' (locs ++ [⟨a, i⟩]) cells slots → T'.heap = h' → Wr h h' a i v → Ars Z h' a ty (vs.set i v) → Run p e below s Q k n (T'.setTop (mkF m (pc + 1) Ls rest))) : Run p e below s Q k n (T.setTop (mkF m pc Ls (v :: .int j :: .ref a :: rest))) := by
  obtain ⟨cl, A1, q⟩ := id A
  obtain ⟨q1, q2⟩ := in_of q hj hi
  obtain ⟨T', h', X', e', W', st'⟩ := RoadKit.stR X hx hZ eT A1 (j := j) (v := v) q1 hty F (g := mkF m pc Ls (v :: .int j :: .ref a :: rest)) rfl rfl hd
  rw [q2] at X' W'
  exact Run.st st' (kk T' h' X' e' W' (A.same W'))
end Laws
/-- what lies at a is no class's statics -/
def NSt (h : Heap) (a : Addr) : Prop := ∀ c : Cell, h[a]? = some c → c.vm.isStatics = false
theorem Exa_ns {Z : State} {h : Heap} {a : Addr} {C : String} (E : Exa Z h a C) : NSt h a := by
  obtain ⟨c, _, h1, -, -, h4, -⟩ := E
  intro c' q
  cases h1.symm.trans q
  exact h4
theorem Ars.ns {Z : State} {h : Heap} {a : Addr} {ty : FieldType} {vs : List Value} (A : Ars Z h a ty vs) : NSt h a := by
  obtain ⟨c, A, -⟩ := A
  intro c' q
  cases A.1.symm.trans q
  exact A.plain
theorem Sta_keep {Z : State} {h h' : Heap} {C n d : String} {v : Value} {ws : List Addr} (F : Sta Z h C n d v) (K : Keep h h' ws) (q : ∀ x ∈ ws, NSt h x) : Sta Z h' C n d v := by
  obtain ⟨cf, i, k, f, st, cell, h1, h2, h3, h4, h5, h6, h7⟩ := F
  refine ⟨cf, i, k, f, st, cell, h1, h2, h3, h4, K.2.1 _ _ h5 (fun hm => ?_), h6, h7⟩
  have := q st hm cell h5
  rw [h6] at this
  cases this
theorem nar_b01 {z : Int32} (hz : z = 0 ∨ z = 1) : nar .boolean z = z := by rcases hz with rfl | rfl <;> decide
theorem nar_b (x : Int32) : nar .byte x.toInt8.toInt32 = x.toInt8.toInt32 := by
  show x.toInt8.toInt32.toInt8.toInt32 = x.toInt8.toInt32
  simp
theorem nar_c (x : Int32) : nar .char x.toUInt32.toUInt16.toUInt32.toInt32 = x.toUInt32.toUInt16.toUInt32.toInt32 := by
  show x.toUInt32.toUInt16.toUInt32.toInt32.toUInt32.toUInt16.toUInt32.toInt32 = _
  have q : ∀ y : UInt16, y.toUInt32.toInt32.toUInt32.toUInt16 = y := fun y => by simp
  rw [q]
theorem ints_at (xs : List Int32) {i : Nat} (h : i < xs.length) : ∃ x, (xs.map Value.int)[i]? = some (.int x) := ⟨xs[i], by simp [h]⟩
/-- 1 or 0 -/
def own_b (c : Prop) [Decidable c] : Int32 := if c then 1 else 0
theorem own_b1 {c : Prop} [Decidable c] (h : c) : own_b c = 1 := if_pos h
theorem own_b0 {c : Prop} [Decidable c] (h : ¬ c) : own_b c = 0 := if_neg h
theorem own_b01 (c : Prop) [Decidable c] : own_b c = 0 ∨ own_b c = 1 := by unfold own_b; split <;> simp
theorem sub_w (a b : Int32) : (a.toInt64 - b.toInt64).toInt = a.toInt - b.toInt := by
  have h1 := c_lsub a.toInt64 b.toInt64
  have h2 := rng64 (a.toInt64 - b.toInt64)
  have h3 := rng32 a
  have h4 := rng32 b
  rw [c_i2l, c_i2l] at h1
  omega
theorem lt32 (a b : Int32) : a < b ↔ a.toInt < b.toInt := Int32.lt_iff_toInt_lt
theorem lt64 (a b : Int64) : a < b ↔ a.toInt < b.toInt := Int64.lt_iff_toInt_lt
theorem eq32 (a b : Int32) : a = b ↔ a.toInt = b.toInt := Int32.toInt_inj.symm
theorem eq64 (a b : Int64) : a = b ↔ a.toInt = b.toInt := Int64.toInt_inj.symm
/-- an int comes back, nothing is touched -/
def PureI (h0 : Heap) (n0 : Nat) (z : Int32) (v : Option Value) (h : Heap) (L : List Loc) : Prop := v = some (.int z) ∧ Fr n0 L ∧ h = h0
def PureJ (h0 : Heap) (n0 : Nat) (z : Int64) (v : Option Value) (h : Heap) (L : List Loc) : Prop := v = some (.long z) ∧ Fr n0 L ∧ h = h0
def PureR (h0 : Heap) (n0 : Nat) (z : Value) (v : Option Value) (h : Heap) (L : List Loc) : Prop := v = some z ∧ Fr n0 L ∧ h = h0
theorem PureI.mk {h0 : Heap} {n0 : Nat} {z z' : Int32} {L : List Loc} (e : z' = z) (N : Fr n0 L) : PureI h0 n0 z (some (.int z')) h0 L := ⟨by rw [e], N, rfl⟩
theorem PureJ.mk {h0 : Heap} {n0 : Nat} {z z' : Int64} {L : List Loc} (e : z' = z) (N : Fr n0 L) : PureJ h0 n0 z (some (.long z')) h0 L := ⟨by rw [e], N, rfl⟩
/-- the law's own end -/
def Tru (n0 : Nat) (v : Option Value) (h : Heap) (L : List Loc) : Prop := v = some (.int 1) ∧ Fr n0 L
end Jvm.OwnRun
namespace Jvm.OwnRun
open Sem ClassFile Op Lib Jvm.Stand Jvm.Free Jvm.LawKit Jvm.RoadKit
section Laws2
variable {p : Program} {l : Launch} {e : Env} {R : Room} {s : State} {m : MethodId} {args : Array Value} {below : List Frame} {meth : Method} {c : Code} {T : State} {locs : List Loc} {cells slots : Nat} {Z : State} {a0 : Array Value} {h h' : Heap}
variable {Q Q' : Option Value → Heap → List Loc → Prop} {k n : Nat}
variable {a b : Addr} {ty : FieldType} {vs : List Value} {v : Value} {sl : Nat} {ws : List Addr}
theorem Run.y_ldJ (X : Stand p l e R s m args below meth c T locs cells slots) (hx : p.tables.exec = Jvm.exec) (hZ : Z.Warmed39 s.vm) (eT : T.heap = h) (A : Ars Z h a .long vs) {j : Int32} {i : Nat} (hj : j.toInt = i) (hi : vs[i]? = some v) {pc q : Nat} {Ls : Array Slot} {rest : List Value} (hd : decode c.code pc = .ok (.laload, 1))
    (hq : pc + 1 = q) (r : Run p e below s Q k n (T.setTop (mkF m q Ls (v :: rest)))) : Run p e below s Q k n (T.setTop (mkF m pc Ls (.int j :: .ref a :: rest))) := by
  subst hq; exact Run.ldJ X hx hZ eT A hj hi hd r
theorem Run.y_ldR (X : Stand p l e R s m args below meth c T locs cells slots) (hx : p.tables.exec = Jvm.exec) (hZ : Z.Warmed39 s.vm) (eT : T.heap = h) (A : Ars Z h a ty vs) {j : Int32} {i : Nat} (hj : j.toInt = i) (hi : vs[i]? = some v) (hty : ty.isReference = true) {pc q : Nat} {Ls : Array Slot} {rest : List Value} (hd : decode c.code pc = .ok (.aaload, 1))
    (hq : pc + 1 = q) (r : Run p e below s Q k n (T.setTop (mkF m q Ls (v :: rest)))) : Run p e below s Q k n (T.setTop (mkF m pc Ls (.int j :: .ref a :: rest))) := by
  subst hq; exact Run.ldR X hx hZ eT A hj hi hty hd r
theorem Run.y_alen (X : Stand p l e R s m args below meth c T locs cells slots) (hx : p.tables.exec = Jvm.exec) (hZ : Z.Warmed39 s.vm) (eT : T.heap = h) (A : Ars Z h a ty vs) {z : Int32} (hz : vs.length.toInt32 = z) {pc q : Nat} {Ls : Array Slot} {rest : List Value} (hd : decode c.code pc = .ok (.arraylength, 1))
    (hq : pc + 1 = q) (r : Run p e below s Q k n (T.setTop (mkF m q Ls (.int z :: rest)))) : Run p e below s Q k n (T.setTop (mkF m pc Ls (.ref a :: rest))) := by
  subst hq; exact Run.alen X hx hZ eT A hz hd r
theorem Run.y_stJ (X : Stand p l e R s m args below meth c T locs cells slots) (hx : p.tables.exec = Jvm.exec) (hZ : Z.Warmed39 s.vm) (eT : T.heap = h) (A : Ars Z h a .long vs) {j : Int32} {z : Int64} {i : Nat} (hj : j.toInt = i) (hi : i < vs.length) {pc q : Nat} {Ls : Array Slot} {rest : List Value} (hd : decode c.code pc = .ok (.lastore, 1))
    (hq : pc + 1 = q) (kk : ∀ (T' : State) (h' : Heap), Stand p l e R s m args below meth c T' (locs ++ [⟨a, i⟩]) cells slots → T'.heap = h' → Wr h h' a i (.long z) → Ars Z h' a .long (vs.set i (.long z)) → Run p e below s Q k n (T'.setTop (mkF m q Ls rest))) : Run p e below s Q k n (T.setTop (mkF m pc Ls (.long z :: .int j :: .ref a :: rest))) := by
  subst hq; exact Run.stJ X hx hZ eT A hj hi hd kk
theorem Run.y_stR (X : Stand p l e R s m args below meth c T locs cells slots) (hx : p.tables.exec = Jvm.exec) (hZ : Z.Warmed39 s.vm) (eT : T.heap = h) (A : Ars Z h a ty vs) {j : Int32} {i : Nat} (hj : j.toInt = i) (hi : i < vs.length) (hty : ty.isReference = true) (F : Sto Z h a v) {pc q : Nat} {Ls : Array Slot} {rest : List Value} (hd : decode c.code pc = .ok (.aastore, 1))
    (hq : pc + 1 = q) (kk : ∀ (T' : State) (h' : Heap), Stand p l e R s m args below meth c T' (locs ++ [⟨a, i⟩]) cells slots → T'.heap = h' → Wr h h' a i v → Ars Z h' a ty (vs.set i v) → Run p e below s Q k n (T'.setTop (mkF m q Ls rest))) : Run p e below s Q k n (T.setTop (mkF m pc Ls (v :: .int j :: .ref a :: rest))) := by
  subst hq; exact Run.stR X hx hZ eT A hj hi hty F hd kk
theorem Run.y_getF (X : Stand p l e R s m args below meth c T locs cells slots) (hx : p.tables.exec = Jvm.exec) (hZ : Z.Warmed39 s.vm) (eT : T.heap = h) {own R0 O nf d host : String} {index : Nat} (hown : s.vm.findClass own = some m.cls) (w : (Jvm.Cond.fieldLink own index R0 nf d).before a0 Z = true ∨ (Jvm.Cond.fieldLinkNest own index R0 nf d host).before a0 Z = true) (via : Via Z R0 O nf d)
    (F : Fld Z h a O nf d v) {pc q : Nat} {Ls : Array Slot} {S : List Value} (hd : decode c.code pc = .ok (.getfield index, 3)) (hq : pc + 3 = q)
    (kk : ∀ (T' : State), Stand p l e R s m args below meth c T' locs cells slots → T'.heap = h → Run p e below s Q k n (T'.setTop (mkF m q Ls (v :: S)))) : Run p e below s Q k n (T.setTop (mkF m pc Ls (.ref a :: S))) := by
  subst hq
  obtain ⟨T', X', e', st'⟩ := getF X hx hZ hown w via eT F (g := mkF m pc Ls (.ref a :: S)) rfl rfl hd
  exact Run.st st' (kk T' X' e')
/-- the field's link and its class are the plain ones -/
theorem Run.z_getF (X : Stand p l e R s m args below meth c T locs cells slots) (hx : p.tables.exec = Jvm.exec) (hZ : Z.Warmed39 s.vm) (eT : T.heap = h) {own O nf d : String} {index : Nat} (hown : s.vm.findClass own = some m.cls) (w : (Jvm.Cond.fieldLink own index O nf d).before a0 Z = true)
    (F : Fld Z h a O nf d v) {pc q : Nat} {Ls : Array Slot} {S : List Value} (hd : decode c.code pc = .ok (.getfield index, 3)) (hq : pc + 3 = q)
    (kk : ∀ (T' : State), Stand p l e R s m args below meth c T' locs cells slots → T'.heap = h → Run p e below s Q k n (T'.setTop (mkF m q Ls (v :: S)))) : Run p e below s Q k n (T.setTop (mkF m pc Ls (.ref a :: S))) :=
  Run.y_getF X hx hZ eT hown (host := "") (Or.inl w) Via.refl F hd hq kk
theorem Run.callSI {n0 : Nat} {z0 : Int32} (X : Stand p l e R s m args below meth c T locs cells slots) (hx : p.tables.exec = Jvm.exec) (hH : Z.WarmedH s.vm) (eT : T.heap = h) {own : String} {index : Nat} {y : MethodName} {bytes : ByteArray} {ml : Nat} {ret : Option FieldType} {rm : Room}
    (hown : s.vm.findClass own = some m.cls) (w1 : (Jvm.Cond.methodLink own index y).before a0 Z = true) (w2 : (Jvm.Cond.static y).before a0 Z = true) (w3 : (Jvm.Cond.initialized y.cls).before a0 Z = true) (w4 : (Jvm.Cond.code y bytes ml ret).before a0 Z = true)
    (hy : y.cls ≠ "java/lang/invoke/MethodHandle" ∧ y.cls ≠ "java/lang/invoke/VarHandle") {argsL rest : List Value} (K : Ctr l Z y bytes ml ret rm argsL.toArray h (PureI h n0 z0)) {ps : List FieldType} {r : Option FieldType} (hpd : parseMethodDescriptor y.desc = some ⟨ps, r⟩) (hlen : argsL.length = ps.length)
    {pc q : Nat} {Ls : Array Slot} (hsz : Ls.size = c.maxLocals) {W : Nat} (hW : (rest.map fun v => v.category).sum = W) (hf : rm.frames + 1 ≤ R.frames) (hl : W + (ml + 11) + rm.locals ≤ R.locals) (hc : cells + rm.cells ≤ R.cells) (hs : slots + rm.slots ≤ R.slots)
    (hd : decode c.code pc = .ok (.invokestatic index, 3)) {st : List Value} (hst : st = argsL.reverse ++ rest)
    (hq : pc + 3 = q) (kk : ∀ (T' : State) (L : List Loc), Stand p l e R s m args below meth c T' (locs ++ L) (cells + rm.cells) (slots + rm.slots) → Fr n0 L → T'.heap = h → Run p e below s Q k n (T'.setTop (mkF m q Ls (.int z0 :: rest)))) :
    Run p e below s Q k n (T.setTop (mkF m pc Ls st)) := by
  subst hq
  exact Run.callS X hx hH eT hown w1 w2 w3 w4 hy K hpd hlen hsz hW hf hl hc hs hd hst fun T' v L X' q => by obtain ⟨rfl, M, e⟩ := q; exact kk T' L X' M e
theorem Run.callVI {n0 : Nat} {z0 : Int32} (X : Stand p l e R s m args below meth c T locs cells slots) (hx : p.tables.exec = Jvm.exec) (hH : Z.WarmedH s.vm) (eT : T.heap = h) {own C : String} {index : Nat} {y z : MethodName} {bytes : ByteArray} {ml : Nat} {ret : Option FieldType} {rm : Room}
    (hown : s.vm.findClass own = some m.cls) (w1 : (Jvm.Cond.methodLink own index y).before a0 Z = true) (w2 : (Jvm.Cond.declares y).before a0 Z = true) (hnf : NotFace s y) (w5 : (Jvm.Cond.selects C y z).before a0 Z = true) (w6 : (Jvm.Cond.instanceMethod z).before a0 Z = true) (w3 : (Jvm.Cond.initialized z.cls).before a0 Z = true) (w4 : (Jvm.Cond.code z bytes ml ret).before a0 Z = true)
    (hy : y.cls ≠ "java/lang/invoke/MethodHandle" ∧ y.cls ≠ "java/lang/invoke/VarHandle") {a : Addr} (E : Exa Z h a C) {argsL rest : List Value} (K : Ctr l Z z bytes ml ret rm (.ref a :: argsL).toArray h (PureI h n0 z0)) {ps : List FieldType} {r : Option FieldType} (hpd : parseMethodDescriptor y.desc = some ⟨ps, r⟩) (hlen : argsL.length = ps.length)
    {pc q : Nat} {Ls : Array Slot} (hsz : Ls.size = c.maxLocals) {W : Nat} (hW : (rest.map fun v => v.category).sum = W) (hf : rm.frames + 1 ≤ R.frames) (hl : W + (ml + 11) + rm.locals ≤ R.locals) (hc : cells + rm.cells ≤ R.cells) (hs : slots + rm.slots ≤ R.slots)
    (hd : decode c.code pc = .ok (.invokevirtual index, 3)) {st : List Value} (hst : st = argsL.reverse ++ .ref a :: rest)
    (hq : pc + 3 = q) (kk : ∀ (T' : State) (L : List Loc), Stand p l e R s m args below meth c T' (locs ++ L) (cells + rm.cells) (slots + rm.slots) → Fr n0 L → T'.heap = h → Run p e below s Q k n (T'.setTop (mkF m q Ls (.int z0 :: rest)))) :
    Run p e below s Q k n (T.setTop (mkF m pc Ls st)) := by
  subst hq
  exact Run.callV X hx hH eT hown w1 w2 hnf w5 w6 w3 w4 hy E K hpd hlen hsz hW hf hl hc hs hd hst fun T' v L X' q => by obtain ⟨rfl, M, e⟩ := q; exact kk T' L X' M e
end Laws2
end Jvm.OwnRun
namespace Jvm.Pilot.@@N@@
open Jvm Jvm.ClassFile Sem Op Lib Jvm.Free Jvm.Stand Jvm.LawKit Jvm.RoadKit Jvm.OwnRun Bundle Jvm.Pilot.@@N@@.Jvm.D
def own_PQ : String := "com/example/framewheel/framewheel/core/PhaseQueue"
def own_DL : String := "com/example/framewheel/framewheel/core/PhaseQueue$Delayed"
def own_x : MethodName := ⟨"com/example/framewheel/framewheel/core/PhaseQueue", "<init>", "()V"⟩
def own_xi : MethodName := ⟨"java/util/Comparator", "compare", "(Ljava/lang/Object;Ljava/lang/Object;)I"⟩
def own_y : MethodName := ⟨"com/example/framewheel/framewheel/core/PhaseQueue", "compareByDueTime", "(Lcom/example/framewheel/framewheel/core/PhaseQueue$Delayed;Lcom/example/framewheel/framewheel/core/PhaseQueue$Delayed;)I"⟩
def own_sh : Jvm.Lambda.Shape := Jvm.Lambda.Shape.mk "java/util/Comparator" "compare" (Jvm.ClassFile.MethodDescriptor.mk [.object "java/lang/Object", .object "java/lang/Object"] (some .int)) [] 6 "com/example/framewheel/framewheel/core/PhaseQueue" "compareByDueTime" (Jvm.ClassFile.MethodDescriptor.mk [.object "com/example/framewheel/framewheel/core/PhaseQueue$Delayed", .object "com/example/framewheel/framewheel/core/PhaseQueue$Delayed"] (some .int)) false (Jvm.ClassFile.MethodDescriptor.mk [.object "com/example/framewheel/framewheel/core/PhaseQueue$Delayed", .object "com/example/framewheel/framewheel/core/PhaseQueue$Delayed"] (some .int))
def own_fc : ByteArray := ⟨#[0x2b, 0xc0, 0x00, 0x0e, 0x2c, 0xc0, 0x00, 0x0e, 0xb8, 0x00, 0x14, 0xac]⟩
theorem own_fwd : Jvm.LamKit.fwdOK own_sh "com/example/framewheel/framewheel/core/PhaseQueue" own_fc 3 (some .int) 20 16 = true := by decide +kernel
theorem own_f0 : decode own_fc 0 = .ok (.aload_n 1, 1) := by decide +kernel
theorem own_f1 : decode own_fc 1 = .ok (.checkcast 14, 3) := by decide +kernel
theorem own_f4 : decode own_fc 4 = .ok (.aload_n 2, 1) := by decide +kernel
theorem own_f5 : decode own_fc 5 = .ok (.checkcast 14, 3) := by decide +kernel
theorem own_f8 : decode own_fc 8 = .ok (.invokestatic 20, 3) := by decide +kernel
theorem own_f11 : decode own_fc 11 = .ok (.ireturn, 1) := by decide +kernel
/-- entry 14 of the made class names Delayed -/
def own_castOK : Bool :=
 match own_sh.file "com/example/framewheel/framewheel/core/PhaseQueue" with
 | none => false
 | some D =>
  match D.constantPool[14]? with
  | some (Jvm.ClassFile.CpInfo.class_ n) => decide (D.constantPool.string? n = some "com/example/framewheel/framewheel/core/PhaseQueue$Delayed") && decide (14 ≠ D.thisClass)
  | _ => false
theorem own_castok : own_castOK = true := by decide +kernel
/-- the site's one object -/
def own_LamAt (Z : State) (lam : Addr) : Prop := ∃ (m : MethodId) (k : Class) (i0 p0 : Nat), Z.methodNamed? own_x = some m ∧ Z.vm.classes[m.cls]? = some k ∧ (k.callSites.find? fun y => y.1 == m.idx && y.2.1 == 34) = some (i0, p0, .constant lam)
/-- the site's object and her class, said of the case's start -/
def own_Fn (Z : State) (h : Heap) (lam : Addr) (cK : ClassId) : Prop := own_LamAt Z lam ∧ Jvm.LamKit.Made Z "com/example/framewheel/framewheel/core/PhaseQueue" own_sh cK ∧ Jvm.LamKit.FnAt h lam cK
theorem own_Fn.ext {Z : State} {h h' : Heap} {lam : Addr} {cK : ClassId} (F : own_Fn Z h lam cK) (E : Ext h h') : own_Fn Z h' lam cK := by
 obtain ⟨h1, h2, c, h3, h4⟩ := F
 exact ⟨h1, h2, c, E.2 _ _ h3, h4⟩
theorem own_Fn.wr {Z : State} {h h' : Heap} {lam a : Addr} {cK : ClassId} {sl : Nat} {v : Value} (F : own_Fn Z h lam cK) (W : Wr h h' a sl v) : own_Fn Z h' lam cK := by
 obtain ⟨h1, h2, c, h3, h4, h5⟩ := F
 obtain ⟨c', q1, q2, q3, -⟩ := wr_at W h3
 exact ⟨h1, h2, c', q1, by rw [q2]; exact h4, by rw [q3]; exact h5⟩
theorem own_Fn.keep {Z : State} {h h' : Heap} {lam : Addr} {cK : ClassId} {ws : List Addr} (F : own_Fn Z h lam cK) (K : Keep h h' ws) : own_Fn Z h' lam cK := by
 obtain ⟨h1, h2, c, h3, h4, h5⟩ := F
 obtain ⟨c', q1, q2, q3, -⟩ := K.2.2 _ _ h3
 exact ⟨h1, h2, c', q1, by rw [q2]; exact h4, by rw [q3]; exact h5⟩
theorem own_FnZ {Z : State} {a0 : Array Value} (w : (Jvm.Cond.lambdaSite own_x 34 24 own_sh).before a0 Z = true) : ∃ lam cK, own_Fn Z Z.heap lam cK := by
 obtain ⟨cK, one, hat⟩ := Cond.lambdaSite_spec w
 obtain ⟨m, k, cf, i0, p0, lk, hm, hk, -, -, -, hfind, hmade, hcan, hl⟩ := State.lambdaAt?_spec hat
 obtain ⟨kD, hkD, hnameD⟩ := className_of_methodNamed hm
 cases hk.symm.trans hkD
 rcases hl with ⟨a, cell, rfl, -, -, hcell, hcls, hvm, -⟩ | ⟨-, -, hne⟩
 ·exact ⟨a, cK, ⟨m, k, i0, p0, hm, hk, hfind⟩, ⟨_, k, hk, hnameD, hmade, hcan⟩, cell, hcell, hcls, hvm⟩
 ·exact absurd rfl hne
theorem own_made {Z s : State} {cK : ClassId} (hH : Z.WarmedH s.vm) (M : Jvm.LamKit.Made Z "com/example/framewheel/framewheel/core/PhaseQueue" own_sh cK) : Jvm.LamKit.Made s "com/example/framewheel/framewheel/core/PhaseQueue" own_sh cK := by
 obtain ⟨d, dk, h1, h2, h3, h4⟩ := M
 obtain ⟨k', hk', he⟩ := hH.alike.2.2 _ _ h1
 refine ⟨d, k', hk', by rw [he]; exact h2, Jvm.Lambda.isMade_warmer hH h3, ?_⟩
 have hA := hH.alike
 simp only [State.lambdaCallable, hA.findClass, hA.assignable, hA.superclasses, hA.declaredIn] at h4 ⊢
 exact h4
theorem own_ready {s : State} {cK cD : ClassId} (hmd : Jvm.LamKit.Made s "com/example/framewheel/framewheel/core/PhaseQueue" own_sh cK) (hD : s.vm.findClass "com/example/framewheel/framewheel/core/PhaseQueue$Delayed" = some cD) : s.vm.classReady cK 14 cD := by
 obtain ⟨d, dk, hd, hname, hmade, -⟩ := hmd
 obtain ⟨dk', k, ok, tk, file, cf, object, iface, toy, lay, methods, target, found, hd', hk, hfile, hcf, -, -, -, -, hms, ht, htk, hg, -, hrec, -, -, -, -, hpool, hmeth, -, -, hres, -⟩ := Jvm.Lambda.isMade_spec hmade
 cases hd.symm.trans hd'
 rw [hname] at hcf
 have hok := own_castok
 unfold own_castOK at hok
 rw [hcf] at hok
 dsimp only at hok
 split at hok
 ·rename_i n h14
  simp only [Bool.and_eq_true, decide_eq_true_eq] at hok
  exact ⟨k, hk, hres 14 _ (Jvm.Lambda.resolvedOf_class h14 hok.2 hok.1 hD)⟩
 ·cases hok
theorem own_cr {s : State} {vm' : Vm} (hW : s.WarmedH vm') {d ci cT : Nat} (h : s.vm.classReady d ci cT) : vm'.classReady d ci cT := by
 obtain ⟨k, hk, hres⟩ := h
 obtain ⟨k', hk', -⟩ := hW.alike.2.2 _ _ hk
 refine ⟨k', hk', ?_⟩
 rcases hW.entry hk hk' ci with e1 | ⟨e1, -⟩
 ·rw [e1]; exact hres
 ·rw [hres] at e1; cases e1
section Lam
variable {p : Program} {l : Launch} {e : Env} {R : Room} {s : State} {m : MethodId} {args : Array Value} {below : List Frame} {meth : Method} {c : Code} {T : State} {locs : List Loc} {cells slots : Nat} {Z : State} {a0 : Array Value} {h : Heap} {Q : Option Value → Heap → List Loc → Prop} {k n : Nat}
/-- a checkcast in the made class -/
theorem own_cast {U target : State} {ck : Code} {bl : List Frame} {cK cD : ClassId} (hx : p.tables.exec = Jvm.exec) (hU : At U ⟨cK, 1⟩ ck bl) (hr : U.vm.classReady cK 14 cD) {pc : Nat} {Ls : Array Slot} {a : Addr} {cell : Cell} {S : List Value}
  (h1 : U.heap[a]? = some cell) (h2 : ∀ q, cell.vm ≠ .statics q) {ks : Class} (h3 : U.vm.classes[cell.cls]? = some ks) {kt : Class} (h4 : U.vm.classes[cD]? = some kt) (h5 : U.vm.assignable cell.cls cD = true) (hd : decode ck.code pc = .ok (.checkcast 14, 3))
  (r : Steps p.tables e bl (U.setTop (mkF ⟨cK, 1⟩ (pc + 3) Ls (.ref a :: S))) target) : Steps p.tables e bl (U.setTop (mkF ⟨cK, 1⟩ pc Ls (.ref a :: S))) target := by
 refine Steps.trans ?_ r
 jvm_step hU [hx, hd, checkcast.wp_ready (e := e) (s := U) (c := cD) (x := .ref a) (rest := S) (f := mkF ⟨cK, 1⟩ pc Ls (.ref a :: S)) hU.top hr rfl]
 exact ⟨cell, h1, h2, ks, h3, kt, h4, by rw [if_pos h5]; exact Steps.refl _⟩
theorem own_callLam (X : Stand p l e R s m args below meth c T locs cells slots) (hx : p.tables.exec = Jvm.exec) (hH : Z.WarmedH s.vm) (eT : T.heap = h) {lam x1 x2 : Addr} {cK : ClassId} (F : own_Fn Z h lam cK) {own : String} {index : Nat} (hown : s.vm.findClass own = some m.cls)
  (w1 : (Jvm.Cond.methodLink own index own_xi).before a0 Z = true) (w2 : (Jvm.Cond.declares own_xi).before a0 Z = true) (w3 : (Jvm.Cond.interfaceMethod "java/util/Comparator" "java/util/Comparator" "compare" "(Ljava/lang/Object;Ljava/lang/Object;)I").before a0 Z = true)
  {bytes : ByteArray} {rm : Room} (w4 : (Jvm.Cond.code own_y bytes 2 (some .int)).before a0 Z = true) (w5 : (Jvm.Cond.static own_y).before a0 Z = true) (w6 : (Jvm.Cond.initialized "com/example/framewheel/framewheel/core/PhaseQueue").before a0 Z = true) (w7 : (Jvm.Cond.castable "com/example/framewheel/framewheel/core/PhaseQueue$Delayed" "com/example/framewheel/framewheel/core/PhaseQueue$Delayed").before a0 Z = true)
  (E1 : Exa Z h x1 "com/example/framewheel/framewheel/core/PhaseQueue$Delayed") (E2 : Exa Z h x2 "com/example/framewheel/framewheel/core/PhaseQueue$Delayed") {n0 : Nat} {z : Int32} (K : Ctr l Z own_y bytes 2 (some .int) rm #[.ref x1, .ref x2] h (PureI h n0 z))
  {pc q : Nat} {Ls : Array Slot} {rest : List Value} (hsz : Ls.size = c.maxLocals) {W : Nat} (hW : (rest.map fun v => v.category).sum = W) (hf : rm.frames + 2 ≤ R.frames) (hl : W + 14 + (13 + rm.locals) ≤ R.locals) (hc : cells + rm.cells ≤ R.cells) (hs : slots + rm.slots ≤ R.slots)
  (hd : decode c.code pc = .ok (.invokeinterface index 3, 5)) (hq : pc + 5 = q)
  (kk : ∀ (T' : State) (L : List Loc), Stand p l e R s m args below meth c T' (locs ++ L) (cells + rm.cells) (slots + rm.slots) → Fr n0 L → T'.heap = h → Run p e below s Q k n (T'.setTop (mkF m q Ls (.int z :: rest)))) :
  Run p e below s Q k n (T.setTop (mkF m pc Ls (.ref x2 :: .ref x1 :: .ref lam :: rest))) := by
 subst hq
 subst eT
 have hZ := hH.wide
 have hmd := own_made hH F.2.1
 have hfn := F.2.2
 have hcode := mvT (args := args) hZ w4
 obtain ⟨cD, tD, hD1, hD2, hD3⟩ := Cond.castable_spec (mvT (args := args) hZ w7)
 cases hD1.symm.trans hD2
 have hrd := own_ready hmd hD1
 have obj : ∀ {x : Addr}, Exa Z T.heap x "com/example/framewheel/framewheel/core/PhaseQueue$Delayed" → ∃ (cl : Cell) (ks : Class), T.heap[x]? = some cl ∧ (∀ q, cl.vm ≠ .statics q) ∧ cl.cls = cD ∧ s.vm.classes[cD]? = some ks := by
  intro x E
  obtain ⟨cl, kc, e1, e2, e3, e4, -⟩ := E
  have e5 : cl.cls = cD := by
   rw [← hZ.alike.findClass] at e2
   exact (Option.some.inj (hD1.symm.trans e2)).symm
  obtain ⟨ks, hks, -⟩ := hZ.alike.2.2 _ _ e3
  exact ⟨cl, ks, e1, (fun q hq => by rw [hq] at e4; cases e4), e5, (by rw [← e5]; exact hks)⟩
 obtain ⟨c1, k1, a1, a2, a3, a4⟩ := obj E1
 obtain ⟨c2, k2, b1, b2, b3, -⟩ := obj E2
 have M : Met l own_y [Jvm.Cond.code own_y bytes 2 (some .int)] rm (fun a U => a = #[.ref x1, .ref x2] ∧ Z.WarmedH U.vm ∧ U.heap = T.heap) (fun _ _ o t => o = .returned (some (.int z)) ∧ t.heap = T.heap) rm.cells rm.slots (fun b => n0 ≤ b) := by
  intro p' e' g1 g2 g3 s' m' args' below' g4 g5 g6 g7
  obtain ⟨n', o', i1, i2, i3, v', L', rfl, ⟨rfl, i4, i5⟩, i6⟩ := K [] p' e' g1 g2 g3 s' m' args' below' g4 g5 g6 g7
  exact ⟨n', _, i1, i2, i3, ⟨rfl, i5⟩, L', i6, i4⟩
 obtain ⟨v, st, t, T', L, X', hLf, hT', -, ⟨hv, hth⟩, st8⟩ := Jvm.LamKit.callLamS X hx (own := own) (host := "com/example/framewheel/framewheel/core/PhaseQueue") (index := index) (count := 3) (xi := own_xi) (y := own_y) (σ := own_sh) M (fun _ _ _ _ h => h) rfl rfl
  (fun w hw' a' U hU => by rw [List.mem_singleton.mp hw']; exact mvT (s := U) (wtrans hZ hU) w4) (List.mem_singleton.mpr rfl)
  hown (mvT hZ w1) (mvT hZ w2) (mvT hZ w3) hcode (mvT hZ w5) (mvT hZ w6) (by decide +kernel) (by decide +kernel) (by decide) hmd hfn own_fwd own_f8 own_f11
  (g := mkF m pc Ls (.ref x2 :: .ref x1 :: .ref lam :: rest)) rfl hsz (argsL := [.ref x1, .ref x2]) (argsT := [.ref x1, .ref x2]) (rest := rest) (L0 := #[.val (.ref lam), .val (.ref x1), .val (.ref x2)])
  (fun sig h => by cases (by decide +kernel : parseMethodDescriptor own_xi.desc = some ⟨[.object "java/lang/Object", .object "java/lang/Object"], some .int⟩).symm.trans h; rfl) (fun sig h => by cases (by decide +kernel : parseMethodDescriptor own_y.desc = some ⟨[.object "com/example/framewheel/framewheel/core/PhaseQueue$Delayed", .object "com/example/framewheel/framewheel/core/PhaseQueue$Delayed"], some .int⟩).symm.trans h; rfl)
  rfl hd (fun _ => rfl) rfl
  (fun U ck bl target hU hck hUh hUW kt => by
   have hr := own_cr hUW hrd
   obtain ⟨ks', hks', -⟩ := hUW.alike.2.2 _ _ a4
   have has : U.vm.assignable cD cD = true := by rw [hUW.alike.assignable]; exact hD3
   refine XS.aloadN hU hx rfl (hb hck own_f0) rfl rfl ?_
   refine own_cast hx hU hr (pc := 1) (by rw [hUh]; exact a1) a2 (by rw [a3]; exact hks') hks' (by rw [a3]; exact has) (hb hck own_f1) ?_
   refine XS.aloadN hU hx rfl (hb hck own_f4) rfl rfl ?_
   refine own_cast hx hU hr (pc := 5) (by rw [hUh]; exact b1) b2 (by rw [b3]; exact hks') hks' (by rw [b3]; exact has) (hb hck own_f5) ?_
   exact kt)
  (fun st w t h => by obtain ⟨h, -⟩ := h; cases h; exact Or.inl ⟨.int, _, rfl, Or.inl rfl, rfl, rfl, rfl⟩) hf (by show 2 * 0 + _ + _ + _ ≤ _; rw [hW]; exact Nat.le_trans (by omega) hl) hc hs (fun U hU hUh => ⟨rfl, hH.trans hU, hUh⟩)
 cases hv
 exact Run.st st8 (kk T' L X' hLf (hT'.trans hth))
/-- the 'invokedynamic' -/
theorem own_site (X : Stand p l e R s m args below meth c T locs cells slots) (hx : p.tables.exec = Jvm.exec) (hZ : Z.Warmed39 s.vm) {lam : Addr} (hL : own_LamAt Z lam) (hnd : s.methodNamed? own_x = some m) {Ls : Array Slot} {S : List Value} (hsz : Ls.size = c.maxLocals) {W : Nat} (hW : (S.map fun v => v.category).sum = W) (hl : W + 3072 ≤ R.locals)
  (hd : decode c.code 34 = .ok (.invokedynamic 24, 5)) (r : Run p e below s Q k n (T.setTop (mkF m 39 Ls (.ref lam :: S)))) : Run p e below s Q k n (T.setTop (mkF m 34 Ls S)) := by
 obtain ⟨m', k', i0, p0, hm', hk', hfind⟩ := hL
 have e1 := Jvm.Free.named_alike hZ.alike own_x
 rw [hnd, hm'] at e1
 cases e1
 obtain ⟨k'', hk'', he⟩ := hZ.alike.2.2 _ _ hk'
 have hw : e.platform.lambdaLinkWords = 3072 := by rw [X.admits.platform]
 exact Run.st (fun t q => X.lambdaConstant hx (g := mkF m 34 Ls S) rfl hsz hd hk'' (by rw [he]; exact hfind) (by show 2 * 0 + _ + _ ≤ _; rw [hW, hw]; omega) q) r
/-- invokevirtual of a private method; wsel: any method of the class that the class itself selects -/
theorem own_callP {Q' : Option Value → Heap → List Loc → Prop} (X : Stand p l e R s m args below meth c T locs cells slots) (hx : p.tables.exec = Jvm.exec) (hH : Z.WarmedH s.vm) (eT : T.heap = h) {own : String} {index : Nat} {y y2 : MethodName} {bytes : ByteArray} {ml : Nat} {ret : Option FieldType} {rm : Room}
  (hown : s.vm.findClass own = some m.cls) (w1 : (Jvm.Cond.methodLink own index y).before a0 Z = true) (w2 : (Jvm.Cond.instanceMethod y).before a0 Z = true) (wp : (Jvm.Cond.privateMethod y).before a0 Z = true) (ws : (Jvm.Cond.selects y.cls y2 y2).before a0 Z = true) (hyy : y2.cls = y.cls) (w3 : (Jvm.Cond.initialized y.cls).before a0 Z = true) (w4 : (Jvm.Cond.code y bytes ml ret).before a0 Z = true)
  (hy : y.cls ≠ "java/lang/invoke/MethodHandle" ∧ y.cls ≠ "java/lang/invoke/VarHandle") {a : Addr} {C : String} (E : Exa Z h a C) {argsL rest : List Value} (K : Ctr l Z y bytes ml ret rm (.ref a :: argsL).toArray h Q') {ps : List FieldType} {r : Option FieldType} (hpd : parseMethodDescriptor y.desc = some ⟨ps, r⟩) (hlen : argsL.length = ps.length)
  {pc : Nat} {Ls : Array Slot} (hsz : Ls.size = c.maxLocals) {W : Nat} (hW : (rest.map fun v => v.category).sum = W) (hf : rm.frames + 1 ≤ R.frames) (hl : W + (ml + 11) + rm.locals ≤ R.locals) (hc : cells + rm.cells ≤ R.cells) (hs : slots + rm.slots ≤ R.slots)
  (hd : decode c.code pc = .ok (.invokevirtual index, 3)) {st : List Value} (hst : st = argsL.reverse ++ .ref a :: rest)
  (kk : ∀ (T' : State) (v : Option Value) (L : List Loc), Stand p l e R s m args below meth c T' (locs ++ L) (cells + rm.cells) (slots + rm.slots) → Q' v T'.heap L → Run p e below s Q k n (T'.setTop (mkF m (pc + 3) Ls (v.toList ++ rest)))) :
  Run p e below s Q k n (T.setTop (mkF m pc Ls st)) := by
 have hZ := hH.wide
 obtain ⟨mk, methM, hnamed, hmethM, hstM, habM⟩ := Cond.instanceMethod_spec (mvT (args := args) hZ w2)
 obtain ⟨methM', cM, hmethM', -, -, -, -, -, -, hsigM⟩ := Cond.code_spec hnamed (mvT (args := args) hZ w4)
 cases hmethM.symm.trans hmethM'
 obtain ⟨c2, r2, m2, -, -, q3, -, kP, hkP, hkPi⟩ := Cond.selects_spec (mvT (args := args) hZ ws)
 have e1 := findClass_of_methodNamed q3
 have e2 := findClass_of_methodNamed hnamed
 rw [hyy, e2] at e1
 have e3 : mk.cls = m2.cls := Option.some.inj e1
 rw [← e3] at hkP
 obtain ⟨cell, hcell, hobj⟩ := Exa.cell E
 have hselP : selectMethod e.platform s.vm cell.cls mk = .method mk := selectMethod_private hmethM ((Cond.privateMethod_at (mvP (args := args) hZ wp)) mk methM hnamed hmethM)
 obtain ⟨vm₁, X₁, hstep₁⟩ := X.invokevirtual hx hown (mvT hZ w1) hnamed hmethM hstM hkP hkPi hy (a := a) (cell := cell) (by rw [eT]; exact hcell) hobj hselP hmethM habM hkP hkPi (g := mkF m pc Ls st) rfl (argsL := argsL) (rest := rest) (lenOf hpd hlen _ hsigM) hst hd
 obtain ⟨v, ⟨T', L', k', n'⟩, X', ⟨L, hQ, l1, y1, z1⟩, hsteps⟩ := (K.back hH w4 w3 hf hl) m meth c ⟨T.setVm vm₁, locs, cells, slots⟩ { mkF m pc Ls st with stack := rest } (.invokevirtual index) mk (.ref a :: argsL).toArray X₁ rfl hsz hd (by show 2 * 0 + _ ≤ _; rw [hW]; omega) (X₁.named hnamed) ⟨rfl, eT, hc, hs⟩
 dsimp only [Pt.U, Pt.locs, Pt.cells, Pt.slots] at X' l1 y1 z1 hsteps hQ
 subst l1 y1 z1
 exact Run.st (fun t q => (hstep₁ _ fun acts => by rw [doInvoke_state]; exact Steps.refl _).trans (hsteps.trans q)) (kk T' v L X' hQ)
/-- invokespecial of a constructor whose entry is resolved already -/
theorem own_callR {Q' : Option Value → Heap → List Loc → Prop} (X : Stand p l e R s m args below meth c T locs cells slots) (hx : p.tables.exec = Jvm.exec) (hH : Z.WarmedH s.vm) (eT : T.heap = h) {own : String} {index : Nat} {y : MethodName} {bytes : ByteArray} {ml : Nat} {rm : Room}
  (hown : s.vm.findClass own = some m.cls) (hy1 : y.name = "<init>") (w1 : (Jvm.Cond.methodRef own index y).before a0 Z = true) (w2 : (Jvm.Cond.instanceMethod y).before a0 Z = true) (w3 : (Jvm.Cond.initialized y.cls).before a0 Z = true) (w4 : (Jvm.Cond.code y bytes ml none).before a0 Z = true)
  (hy : y.cls ≠ "java/lang/invoke/MethodHandle" ∧ y.cls ≠ "java/lang/invoke/VarHandle") {a : Addr} {argsL rest : List Value} (K : Ctr l Z y bytes ml none rm (.ref a :: argsL).toArray h Q') {ps : List FieldType} {r : Option FieldType} (hpd : parseMethodDescriptor y.desc = some ⟨ps, r⟩) (hlen : argsL.length = ps.length)
  {pc : Nat} {Ls : Array Slot} (hsz : Ls.size = c.maxLocals) {W : Nat} (hW : (rest.map fun v => v.category).sum = W) (hf : rm.frames + 1 ≤ R.frames) (hl : W + (ml + 11) + rm.locals ≤ R.locals) (hc : cells + rm.cells ≤ R.cells) (hs : slots + rm.slots ≤ R.slots)
  (hd : decode c.code pc = .ok (.invokespecial index, 3)) {st : List Value} (hst : st = argsL.reverse ++ .ref a :: rest)
  (kk : ∀ (T' : State) (v : Option Value) (L : List Loc), Stand p l e R s m args below meth c T' (locs ++ L) (cells + rm.cells) (slots + rm.slots) → Q' v T'.heap L → Run p e below s Q k n (T'.setTop (mkF m (pc + 3) Ls (v.toList ++ rest)))) :
  Run p e below s Q k n (T.setTop (mkF m pc Ls st)) := by
 have hZ := hH.wide
 obtain ⟨mZ, methZ, hnZ, -⟩ := Cond.instanceMethod_spec w2
 have SC : Jvm.Free.SCall p l e R s m args below meth c index y := Jvm.Free.SCall.of_ready hx hy1 (mvT hZ w2) (mvT hZ w4) (fun U r hU hr => by
  have w := Cond.methodRef_warmed39 (wtrans hZ hU) hnZ hy w1
  have hnU : (Z.setVm U.vm).methodNamed? y = some r := by
   have e1 := Jvm.Free.named_alike (U := s) (U' := U) hU.alike y
   have e2 : (Z.setVm U.vm).methodNamed? y = U.methodNamed? y := rfl
   rw [e2, e1]; exact hr
  obtain ⟨m', c', f1, f2, f3, f4⟩ := Cond.methodRef_named e (cur := m.cls) (by show (Z.setVm U.vm).vm.findClass own = _; show U.vm.findClass own = _; rw [hU.alike.findClass]; exact hown) w
  have f5 := State.methodFound?_of_named hnU hy
  cases f5.symm.trans f1
  have f6 := findClass_of_methodNamed hnU
  cases f6.symm.trans f3
  exact ⟨f4, f2⟩)
 obtain ⟨v, _, ⟨T', L', k', n'⟩, -, X', ⟨L, hQ, l1, y1, z1⟩, st1⟩ := SC X (K.back hH w4 w3 hf hl) (g := mkF m pc Ls st) rfl hsz (Steps.refl _) (a := a) (argsL := argsL) (rest := rest) (lenOf hpd hlen) hst (by show 2 * 0 + _ ≤ _; rw [hW]; omega) hd (fun _ _ => ⟨rfl, eT, hc, hs⟩)
 dsimp only [Pt.U, Pt.locs, Pt.cells, Pt.slots] at X' l1 y1 z1 st1 hQ
 subst l1 y1 z1
 exact Run.st (fun t q => st1.trans q) (kk T' v L X' hQ)
theorem own_cc (X : Stand p l e R s m args below meth c T locs cells slots) (hx : p.tables.exec = Jvm.exec) (hZ : Z.Warmed39 s.vm) (eT : T.heap = h) {own C : String} {index : Nat} (hown : s.vm.findClass own = some m.cls) (w : (Jvm.Cond.classLink own index C).before a0 Z = true) (w2 : (Jvm.Cond.castable C C).before a0 Z = true) {a : Addr} (E : Exa Z h a C)
  {pc q : Nat} {Ls : Array Slot} {S : List Value} (hd : decode c.code pc = .ok (.checkcast index, 3)) (hq : pc + 3 = q) (kk : ∀ T' : State, Stand p l e R s m args below meth c T' locs cells slots → T'.heap = h → Run p e below s Q k n (T'.setTop (mkF m q Ls (.ref a :: S)))) : Run p e below s Q k n (T.setTop (mkF m pc Ls (.ref a :: S))) := by
 subst hq
 obtain ⟨c1, t1, h1, h2, h3⟩ := Cond.castable_spec (mvT (args := args) hZ w2)
 cases h1.symm.trans h2
 obtain ⟨cl, kc, e1, e2, e3, e4, -⟩ := E
 have e5 : cl.cls = c1 := by
  rw [← hZ.alike.findClass] at e2
  exact (Option.some.inj (h1.symm.trans e2)).symm
 obtain ⟨vm', X', st⟩ := X.checkcastYes hx hown (mvT hZ w) (by rw [eT]; exact e1) e4 h1 (by rw [e5]; exact h3) (g := mkF m pc Ls (.ref a :: S)) rfl rfl hd
 exact Run.st st (kk _ X' eT)
theorem own_ccN (X : Stand p l e R s m args below meth c T locs cells slots) (hx : p.tables.exec = Jvm.exec) {index pc q : Nat} {Ls : Array Slot} {S : List Value} (hd : decode c.code pc = .ok (.checkcast index, 3)) (hq : pc + 3 = q) (r : Run p e below s Q k n (T.setTop (mkF m q Ls (.null :: S)))) : Run p e below s Q k n (T.setTop (mkF m pc Ls (.null :: S))) := by
 subst hq
 exact Run.st (X.checkcastNull hx (g := mkF m pc Ls (.null :: S)) rfl rfl hd) r
end Lam
def own_Ob (Z : State) (h : Heap) (b : Addr) (C : String) : Prop := ∃ cl : Cell, h[b]? = some cl ∧ Ovr Z cl.cls C
theorem own_Ob.ext {Z : State} {h h' : Heap} {b : Addr} {C : String} (O : own_Ob Z h b C) (E : Ext h h') : own_Ob Z h' b C := by
 obtain ⟨c, h1, h2⟩ := O
 exact ⟨c, E.2 _ _ h1, h2⟩
theorem own_Ob.wr {Z : State} {h h' : Heap} {b a : Addr} {C : String} {sl : Nat} {v : Value} (O : own_Ob Z h b C) (W : Wr h h' a sl v) : own_Ob Z h' b C := by
 obtain ⟨c, h1, h2⟩ := O
 obtain ⟨c', q1, q2, -⟩ := wr_at W h1
 exact ⟨c', q1, by rw [q2]; exact h2⟩
theorem own_Ob.keep {Z : State} {h h' : Heap} {b : Addr} {C : String} {ws : List Addr} (O : own_Ob Z h b C) (K : Keep h h' ws) : own_Ob Z h' b C := by
 obtain ⟨c, h1, h2⟩ := O
 obtain ⟨c', q1, q2, -⟩ := K.2.2 _ _ h1
 exact ⟨c', q1, by rw [q2]; exact h2⟩
theorem own_stoO {Z : State} {h : Heap} {b y : Addr} {ty : FieldType} {vs : List Value} {C : String} (A : Ars Z h b ty vs) (O : own_Ob Z h b C) (I : Ins Z h y C true) : Sto Z h b (.ref y) := by
 obtain ⟨cl, A, -⟩ := A
 obtain ⟨c', h1, h2⟩ := O
 cases h1.symm.trans A.1
 exact Sto.of A h2 I
theorem own_neA {Z : State} {h : Heap} {x b : Addr} {C : String} {n : Nat} {a0 : Array Value} {ty : FieldType} {vs : List Value} (E : Exa Z h x C) (A : Ars Z h b ty vs) (w : (Jvm.Cond.instantiable C n).before a0 Z = true) : x ≠ b := fun q => by
 subst q
 obtain ⟨c1, k1, e1, f1, g1, -⟩ := E
 obtain ⟨c2, ⟨e2, hA, -⟩, -⟩ := A
 cases e1.symm.trans e2
 simp only [Cond.before, Cond.holds, Cond.value, f1, Option.bind_some, g1, Option.map_some] at w
 have ho : k1.kind = .ordinary := by
  simp only [beq_iff_eq, Option.some.injEq, Bool.and_eq_true, decide_eq_true_eq] at w; exact w.1.1.1
 obtain ⟨-, kk, hk, comp, hkind⟩ := hA
 rw [g1] at hk; cases hk; rw [ho] at hkind; cases hkind
theorem own_neT {Z : State} {h : Heap} {a b : Addr} {ty ty' : FieldType} {vs ws : List Value} (A : Ars Z h a ty vs) (B : Ars Z h b ty' ws) (q : vs.length ≠ ws.length) : a ≠ b := fun e => by
 subst e
 obtain ⟨c, A, e1⟩ := A
 obtain ⟨c', B, e2⟩ := B
 cases A.1.symm.trans B.1
 exact q (by rw [← e1, ← e2])
/-- a delayed work of the law's: P its callback -/
def own_Del (Z : State) (h : Heap) (P : Addr → Prop) (x : Addr) : Prop := ∃ (w : Addr) (d s : Int64), Exa Z h x "com/example/framewheel/framewheel/core/PhaseQueue$Delayed" ∧ Fld Z h x "com/example/framewheel/framewheel/core/PhaseQueue$Delayed" "work" "Lcom/example/framewheel/framewheel/core/FrameCallback;" (.ref w) ∧ Fld Z h x "com/example/framewheel/framewheel/core/PhaseQueue$Delayed" "dueNanos" "J" (.long d) ∧ Fld Z h x "com/example/framewheel/framewheel/core/PhaseQueue$Delayed" "sequence" "J" (.long s) ∧ P w
def own_DX (Z : State) (h : Heap) (P : Addr → Prop) (xs : List Addr) : Prop := ∀ x ∈ xs, own_Del Z h P x
theorem own_DX.ext {Z : State} {h h' : Heap} {P : Addr → Prop} {xs : List Addr} (D : own_DX Z h P xs) (E : Ext h h') : own_DX Z h' P xs := fun x hx => by
 obtain ⟨w, d, s, h1, h2, h3, h4, h5⟩ := D x hx
 exact ⟨w, d, s, h1.ext E, h2.ext E, h3.ext E, h4.ext E, h5⟩
theorem own_DX.other {Z : State} {h h' : Heap} {P : Addr → Prop} {xs : List Addr} {a : Addr} {sl : Nat} {v : Value} (D : own_DX Z h P xs) (W : Wr h h' a sl v) (q : a ∉ xs) : own_DX Z h' P xs := fun x hx => by
 obtain ⟨w, d, s, h1, h2, h3, h4, h5⟩ := D x hx
 have n : x ≠ a := fun e => q (e ▸ hx)
 exact ⟨w, d, s, h1.wr W, h2.other W (Or.inl n), h3.other W (Or.inl n), h4.other W (Or.inl n), h5⟩
theorem own_DX.keep {Z : State} {h h' : Heap} {P : Addr → Prop} {xs ws : List Addr} (D : own_DX Z h P xs) (K : Keep h h' ws) (q : ∀ a ∈ ws, a ∉ xs) : own_DX Z h' P xs := fun x hx => by
 obtain ⟨w, d, s, h1, h2, h3, h4, h5⟩ := D x hx
 have n : x ∉ ws := fun e => q x e hx
 exact ⟨w, d, s, h1.keep K, h2.keep K n, h3.keep K n, h4.keep K n, h5⟩
theorem own_DX.neE {Z : State} {h : Heap} {P : Addr → Prop} {xs : List Addr} {a : Addr} {C : String} (D : own_DX Z h P xs) (E : Exa Z h a C) (q : C ≠ "com/example/framewheel/framewheel/core/PhaseQueue$Delayed") : a ∉ xs := fun ha => by
 obtain ⟨w, d, s, h1, -⟩ := D a ha
 exact Exa.ne E h1 q rfl
theorem own_DX.neA {Z : State} {h : Heap} {P : Addr → Prop} {xs : List Addr} {a : Addr} {ty : FieldType} {vs : List Value} {a0 : Array Value} {n : Nat} (D : own_DX Z h P xs) (A : Ars Z h a ty vs) (wi : (Jvm.Cond.instantiable "com/example/framewheel/framewheel/core/PhaseQueue$Delayed" n).before a0 Z = true) : a ∉ xs := fun ha => by
 obtain ⟨w, d, s, h1, -⟩ := D a ha
 exact own_neA h1 A wi rfl
theorem own_DX.fresh {Z : State} {h : Heap} {P : Addr → Prop} {xs : List Addr} {a : Addr} (D : own_DX Z h P xs) (q : h.size ≤ a) : a ∉ xs := fun ha => by
 obtain ⟨w, d, s, h1, -⟩ := D a ha
 exact absurd h1.lt (Nat.not_lt.mpr q)
theorem own_dn0 {xs : List Addr} : ∀ a ∈ ([] : List Addr), a ∉ xs := fun _ h => nomatch h
theorem own_dnS {xs ws : List Addr} {b : Addr} (h : b ∉ xs) (q : ∀ a ∈ ws, a ∉ xs) : ∀ a ∈ b :: ws, a ∉ xs := fun a ha => by
 rcases List.mem_cons.mp ha with rfl | ha
 ·exact h
 ·exact q a ha
def own_rv (xs : List Addr) (vs : List Value) (hv tv : Int32) (hd tl : Nat) : Prop := hv.toInt = hd ∧ tv.toInt = tl ∧ hd ≤ tl ∧ tl ≤ 8 ∧ vs.length = 17 ∧ (∀ i, hd ≤ i → i < tl → ∃ x ∈ xs, vs[i]? = some (.ref x)) ∧ (∀ i, i < 17 → (i < hd ∨ tl ≤ i) → vs[i]? = some .null)
theorem own_one {i : Int32} {n : Nat} (h : i.toInt = n) (h' : n ≤ 100) : (i + 1).toInt = (n + 1 : Nat) := by
 have q := c_iadd i 1
 have r := rng32 (i + 1)
 have : (1 : Int32).toInt = 1 := rfl
 omega
theorem own_dec1 {i : Int32} {n : Nat} (h : i.toInt = (n + 1 : Nat)) (h' : n ≤ 100) : (i + -1).toInt = n := by
 have q := c_iadd i (-1)
 have r := rng32 (i + -1)
 have : (-1 : Int32).toInt = -1 := by decide
 omega
theorem own_rv_push {xs : List Addr} {vs : List Value} {hv tv : Int32} {hd tl : Nat} {x : Addr} (r : own_rv xs vs hv tv hd tl) (hx : x ∈ xs) (q : tl < 8) : own_rv xs (vs.set tl (.ref x)) hv (tv + 1) hd (tl + 1) := by
 obtain ⟨h1, h2, h3, h4, h5, h6, h7⟩ := r
 refine ⟨h1, own_one h2 (by omega), by omega, by omega, by rw [List.length_set]; exact h5, fun i a b => ?_, fun i a b => ?_⟩
 ·by_cases e : tl = i
  ·subst e; exact ⟨x, hx, by rw [List.getElem?_set_self (by omega)]⟩
  ·obtain ⟨y, hy, hq⟩ := h6 i a (by omega)
   exact ⟨y, hy, by rw [List.getElem?_set_ne e]; exact hq⟩
 ·rw [List.getElem?_set_ne (by omega)]; exact h7 i a (by omega)
theorem own_rv_first {xs : List Addr} {vs : List Value} {hv tv : Int32} {hd tl : Nat} (r : own_rv xs vs hv tv hd tl) (q : hd < tl) : own_rv xs (vs.set hd .null) (hv + 1) tv (hd + 1) tl := by
 obtain ⟨h1, h2, h3, h4, h5, h6, h7⟩ := r
 refine ⟨own_one h1 (by omega), h2, by omega, by omega, by rw [List.length_set]; exact h5, fun i a b => ?_, fun i a b => ?_⟩
 ·obtain ⟨y, hy, hq⟩ := h6 i (by omega) b
  exact ⟨y, hy, by rw [List.getElem?_set_ne (by omega)]; exact hq⟩
 ·by_cases e : hd = i
  ·subst e; rw [List.getElem?_set_self (by omega)]
  ·rw [List.getElem?_set_ne e]; exact h7 i a (by omega)
theorem own_rv_last {xs : List Addr} {vs : List Value} {hv tv : Int32} {hd t : Nat} (r : own_rv xs vs hv tv hd (t + 1)) (q : hd ≤ t) : own_rv xs (vs.set t .null) hv (tv + -1) hd t := by
 obtain ⟨h1, h2, h3, h4, h5, h6, h7⟩ := r
 refine ⟨h1, own_dec1 h2 (by omega), q, by omega, by rw [List.length_set]; exact h5, fun i a b => ?_, fun i a b => ?_⟩
 ·obtain ⟨y, hy, hq⟩ := h6 i a (by omega)
  exact ⟨y, hy, by rw [List.getElem?_set_ne (by omega)]; exact hq⟩
 ·by_cases e : t = i
  ·subst e; rw [List.getElem?_set_self (by omega)]
  ·rw [List.getElem?_set_ne e]; exact h7 i a (by omega)
def own_hv (xs : List Addr) (us : List Value) (pv : Int32) : Prop := (pv = 0 ∧ us = [.null, .null, .null, .null, .null, .null, .null, .null, .null, .null, .null]) ∨ (∃ y1 ∈ xs, pv = 1 ∧ us = .ref y1 :: [.null, .null, .null, .null, .null, .null, .null, .null, .null, .null]) ∨ (∃ y1 ∈ xs, ∃ y2 ∈ xs, pv = 2 ∧ us = .ref y1 :: .ref y2 :: [.null, .null, .null, .null, .null, .null, .null, .null, .null])
def own_lc (a b : Int64) : Int32 := if a < b then -1 else if a = b then 0 else 1
def own_cmp (d s d' s' : Int64) : Int32 := if d = d' then own_lc s s' else own_lc d d'
theorem d1_0 : decode prog_10_method_6_code 0 = .ok (.aload_n 0, 1) := by decide +kernel
theorem d1_1 : decode prog_10_method_6_code 1 = .ok (.getfield 13, 3) := by decide +kernel
theorem d1_4 : decode prog_10_method_6_code 4 = .ok (.lreturn, 1) := by decide +kernel
theorem pn_0 : plainName "com/example/framewheel/framewheel/core/PhaseQueue$Delayed" = true := by first | (simp [plainName, overriddenIn]; done) | decide +kernel
theorem ef_c_due (m : MethodId) (this : Addr) : entryFrame m #[(.ref this)] 1 = mkF m 0 #[.val (.ref this)] [] := by first | (simp [entryFrame, mkF, argsToLocals, Value.category]; done) | rfl
theorem wm127 {a0 : Array Value} {Z : State} (hw : ∀ d ∈ tables_1, d.before a0 Z = true) : (Jvm.Cond.fieldLink "com/example/framewheel/framewheel/core/PhaseQueue$Delayed" (13 : Nat) "com/example/framewheel/framewheel/core/PhaseQueue$Delayed" "dueNanos" "J").before a0 Z = true := hw _ (List.mem_of_getElem? (i := 127) rfl)
set_option maxRecDepth 65536 in
set_option maxHeartbeats 40000000 in
theorem c_due (l : Launch) (Z : State) (a0 : Array Value) (hw : ∀ d ∈ tables_1, d.before a0 Z = true) (this : Addr) (h0 : Heap) (n0 : Nat) (Z0 : n0 ≤ h0.size) (d : Int64) (E_this : Exa Z h0 this "com/example/framewheel/framewheel/core/PhaseQueue$Delayed") (F_this_dueNanos : Fld Z h0 this "com/example/framewheel/framewheel/core/PhaseQueue$Delayed" "dueNanos" "J" (.long d)) :
  Ctr l Z (⟨"com/example/framewheel/framewheel/core/PhaseQueue$Delayed", "dueNanos", "()J"⟩ : MethodName) prog_10_method_6_code 1 (some .long) ({ frames := 0, cells := 0, slots := 0, locals := 0 } : Room) #[(.ref this)] h0 (PureJ h0 n0 d) := by
 refine Ctr.of (plainFor_of_name pn_0) (fun m => ef_c_due m this) ?_
 intro p e s m below meth c T0 hx hby hml hown hnm hret hlk hH e0 X0 hnd
 have hZ := hH.wide
 have N0 := Fr.nil n0
 replace hown : s.vm.findClass "com/example/framewheel/framewheel/core/PhaseQueue$Delayed" = some m.cls := hown
 replace hml : c.maxLocals = 1 := hml
 refine Run.x_aloadN (q := 1) X0 hx (hb hby d1_0) rfl rfl rfl ?_
 refine Run.z_getF (q := 4) X0 hx hZ e0 hown (wm127 hw) F_this_dueNanos (hb hby d1_1) rfl fun T1 X1 e1 => ?_
 refine Run.retJ X1 hx hlk e1 hret (hb hby d1_4) (by decide) (by decide) ?_
 exact PureJ.mk rfl N0
theorem d2_0 : decode prog_10_method_7_code 0 = .ok (.aload_n 0, 1) := by decide +kernel
theorem d2_1 : decode prog_10_method_7_code 1 = .ok (.getfield 17, 3) := by decide +kernel
theorem d2_4 : decode prog_10_method_7_code 4 = .ok (.lreturn, 1) := by decide +kernel
theorem ef_c_seq (m : MethodId) (this : Addr) : entryFrame m #[(.ref this)] 1 = mkF m 0 #[.val (.ref this)] [] := by first | (simp [entryFrame, mkF, argsToLocals, Value.category]; done) | rfl
theorem wm129 {a0 : Array Value} {Z : State} (hw : ∀ d ∈ tables_1, d.before a0 Z = true) : (Jvm.Cond.fieldLink "com/example/framewheel/framewheel/core/PhaseQueue$Delayed" (17 : Nat) "com/example/framewheel/framewheel/core/PhaseQueue$Delayed" "sequence" "J").before a0 Z = true := hw _ (List.mem_of_getElem? (i := 129) rfl)
set_option maxRecDepth 65536 in
set_option maxHeartbeats 40000000 in
theorem c_seq (l : Launch) (Z : State) (a0 : Array Value) (hw : ∀ d ∈ tables_1, d.before a0 Z = true) (this : Addr) (h0 : Heap) (n0 : Nat) (Z0 : n0 ≤ h0.size) (d : Int64) (E_this : Exa Z h0 this "com/example/framewheel/framewheel/core/PhaseQueue$Delayed") (F_this_sequence : Fld Z h0 this "com/example/framewheel/framewheel/core/PhaseQueue$Delayed" "sequence" "J" (.long d)) :
  Ctr l Z (⟨"com/example/framewheel/framewheel/core/PhaseQueue$Delayed", "sequence", "()J"⟩ : MethodName) prog_10_method_7_code 1 (some .long) ({ frames := 0, cells := 0, slots := 0, locals := 0 } : Room) #[(.ref this)] h0 (PureJ h0 n0 d) := by
 refine Ctr.of (plainFor_of_name pn_0) (fun m => ef_c_seq m this) ?_
 intro p e s m below meth c T0 hx hby hml hown hnm hret hlk hH e0 X0 hnd
 have hZ := hH.wide
 have N0 := Fr.nil n0
 replace hown : s.vm.findClass "com/example/framewheel/framewheel/core/PhaseQueue$Delayed" = some m.cls := hown
 replace hml : c.maxLocals = 1 := hml
 refine Run.x_aloadN (q := 1) X0 hx (hb hby d2_0) rfl rfl rfl ?_
 refine Run.z_getF (q := 4) X0 hx hZ e0 hown (wm129 hw) F_this_sequence (hb hby d2_1) rfl fun T1 X1 e1 => ?_
 refine Run.retJ X1 hx hlk e1 hret (hb hby d2_4) (by decide) (by decide) ?_
 exact PureJ.mk rfl N0
theorem d3_0 : decode prog_10_method_5_code 0 = .ok (.aload_n 0, 1) := by decide +kernel
theorem d3_1 : decode prog_10_method_5_code 1 = .ok (.getfield 7, 3) := by decide +kernel
theorem d3_4 : decode prog_10_method_5_code 4 = .ok (.areturn, 1) := by decide +kernel
theorem ef_c_wrk (m : MethodId) (this : Addr) : entryFrame m #[(.ref this)] 1 = mkF m 0 #[.val (.ref this)] [] := by first | (simp [entryFrame, mkF, argsToLocals, Value.category]; done) | rfl
theorem wm125 {a0 : Array Value} {Z : State} (hw : ∀ d ∈ tables_1, d.before a0 Z = true) : (Jvm.Cond.fieldLink "com/example/framewheel/framewheel/core/PhaseQueue$Delayed" (7 : Nat) "com/example/framewheel/framewheel/core/PhaseQueue$Delayed" "work" "Lcom/example/framewheel/framewheel/core/FrameCallback;").before a0 Z = true := hw _ (List.mem_of_getElem? (i := 125) rfl)
set_option maxRecDepth 65536 in
set_option maxHeartbeats 40000000 in
theorem c_wrk (l : Launch) (Z : State) (a0 : Array Value) (hw : ∀ d ∈ tables_1, d.before a0 Z = true) (this : Addr) (h0 : Heap) (n0 : Nat) (Z0 : n0 ≤ h0.size) (w : Addr) (E_this : Exa Z h0 this "com/example/framewheel/framewheel/core/PhaseQueue$Delayed") (F_this_work : Fld Z h0 this "com/example/framewheel/framewheel/core/PhaseQueue$Delayed" "work" "Lcom/example/framewheel/framewheel/core/FrameCallback;" (.ref w)) :
  Ctr l Z (⟨"com/example/framewheel/framewheel/core/PhaseQueue$Delayed", "work", "()Lcom/example/framewheel/framewheel/core/FrameCallback;"⟩ : MethodName) prog_10_method_5_code 1 (some (.object "com/example/framewheel/framewheel/core/FrameCallback")) ({ frames := 0, cells := 0, slots := 0, locals := 0 } : Room) #[(.ref this)] h0 (PureR h0 n0 (.ref w)) := by
 refine Ctr.of (plainFor_of_name pn_0) (fun m => ef_c_wrk m this) ?_
 intro p e s m below meth c T0 hx hby hml hown hnm hret hlk hH e0 X0 hnd
 have hZ := hH.wide
 have N0 := Fr.nil n0
 replace hown : s.vm.findClass "com/example/framewheel/framewheel/core/PhaseQueue$Delayed" = some m.cls := hown
 replace hml : c.maxLocals = 1 := hml
 refine Run.x_aloadN (q := 1) X0 hx (hb hby d3_0) rfl rfl rfl ?_
 refine Run.z_getF (q := 4) X0 hx hZ e0 hown (wm125 hw) F_this_work (hb hby d3_1) rfl fun T1 X1 e1 => ?_
 refine Run.retA X1 hx hlk e1 (t := (.object "com/example/framewheel/framewheel/core/FrameCallback")) hret rfl rfl rfl (hb hby d3_4) (by decide) (by decide) ?_
 exact ⟨rfl, N0, rfl⟩
theorem d4_0 : decode jdk_35_method_42_code 0 = .ok (.lload_n 0, 1) := by decide +kernel
theorem d4_1 : decode jdk_35_method_42_code 1 = .ok (.lload_n 2, 1) := by decide +kernel
theorem d4_2 : decode jdk_35_method_42_code 2 = .ok (.lcmp, 1) := by decide +kernel
theorem d4_3 : decode jdk_35_method_42_code 3 = .ok (.ifCond .ge 7, 3) := by decide +kernel
theorem d4_6 : decode jdk_35_method_42_code 6 = .ok (.iconst (-1), 1) := by decide +kernel
theorem d4_7 : decode jdk_35_method_42_code 7 = .ok (.goto 14, 3) := by decide +kernel
theorem d4_10 : decode jdk_35_method_42_code 10 = .ok (.lload_n 0, 1) := by decide +kernel
theorem d4_11 : decode jdk_35_method_42_code 11 = .ok (.lload_n 2, 1) := by decide +kernel
theorem d4_12 : decode jdk_35_method_42_code 12 = .ok (.lcmp, 1) := by decide +kernel
theorem d4_13 : decode jdk_35_method_42_code 13 = .ok (.ifCond .ne 7, 3) := by decide +kernel
theorem d4_16 : decode jdk_35_method_42_code 16 = .ok (.iconst 0, 1) := by decide +kernel
theorem d4_17 : decode jdk_35_method_42_code 17 = .ok (.goto 4, 3) := by decide +kernel
theorem d4_20 : decode jdk_35_method_42_code 20 = .ok (.iconst 1, 1) := by decide +kernel
theorem d4_21 : decode jdk_35_method_42_code 21 = .ok (.ireturn, 1) := by decide +kernel
theorem pn_1 : plainName "java/lang/Long" = true := by first | (simp [plainName, overriddenIn]; done) | decide +kernel
theorem ef_c_lcm (m : MethodId) (a : Int64) (b : Int64) : entryFrame m #[(.long a), (.long b)] 4 = mkF m 0 #[.val (.long a), .second, .val (.long b), .second] [] := by first | (simp [entryFrame, mkF, argsToLocals, Value.category]; done) | rfl
set_option maxRecDepth 65536 in
set_option maxHeartbeats 40000000 in
theorem c_lcm (l : Launch) (Z : State) (a0 : Array Value) (hw : ∀ d ∈ tables_1, d.before a0 Z = true) (a : Int64) (b : Int64) (h0 : Heap) (n0 : Nat) (Z0 : n0 ≤ h0.size)  :
  Ctr l Z (⟨"java/lang/Long", "compare", "(JJ)I"⟩ : MethodName) jdk_35_method_42_code 4 (some .int) ({ frames := 0, cells := 0, slots := 0, locals := 0 } : Room) #[(.long a), (.long b)] h0 (PureI h0 n0 (own_lc a b)) := by
 refine Ctr.of (plainFor_of_name pn_1) (fun m => ef_c_lcm m a b) ?_
 intro p e s m below meth c T0 hx hby hml hown hnm hret hlk hH e0 X0 hnd
 have hZ := hH.wide
 have N0 := Fr.nil n0
 replace hown : s.vm.findClass "java/lang/Long" = some m.cls := hown
 replace hml : c.maxLocals = 4 := hml
 refine Run.x_lloadN (q := 1) X0 hx (hb hby d4_0) rfl rfl ?_
 refine Run.x_lloadN (q := 2) X0 hx (hb hby d4_1) rfl rfl ?_
 refine Run.x_lcmp (q := 3) X0 hx (hb hby d4_2)  rfl ?_
 by_cases hc3 : a < b
 ·skip
  refine Run.x_ifNo (q := 6) X0 hx (hb hby d4_3) ((if0 _ _).trans (tlt ((lw_lt a b).mpr hc3)).2.1) rfl ?_
  refine Run.x_iconst (q := 7) X0 hx (hb hby d4_6) (z := (-1 : Int32)) rfl rfl ?_
  refine Run.x_goto (q := 21) X0 hx (hb hby d4_7) (by decide) (by decide) ?_
  refine Run.retI X0 hx hlk e0 hret (hb hby d4_21) (by decide) (by decide) ?_
  exact PureI.mk (by exact (if_pos hc3).symm) N0
 ·skip
  refine Run.x_ifYes (q := 10) X0 hx (hb hby d4_3) ((if0 _ _).trans (flt (mt (lw_lt a b).mp hc3)).2.1) (by decide) (by decide) ?_
  refine Run.x_lloadN (q := 11) X0 hx (hb hby d4_10) rfl rfl ?_
  refine Run.x_lloadN (q := 12) X0 hx (hb hby d4_11) rfl rfl ?_
  refine Run.x_lcmp (q := 13) X0 hx (hb hby d4_12)  rfl ?_
  by_cases hc13 : a = b
  ·skip
   refine Run.x_ifNo (q := 16) X0 hx (hb hby d4_13) ((if0 _ _).trans (teq ((lw_eq a b).mpr hc13)).2) rfl ?_
   refine Run.x_iconst (q := 17) X0 hx (hb hby d4_16) (z := (0 : Int32)) rfl rfl ?_
   refine Run.x_goto (q := 21) X0 hx (hb hby d4_17) (by decide) (by decide) ?_
   refine Run.retI X0 hx hlk e0 hret (hb hby d4_21) (by decide) (by decide) ?_
   exact PureI.mk (by exact ((if_neg hc3).trans (if_pos hc13)).symm) N0
  ·skip
   refine Run.x_ifYes (q := 20) X0 hx (hb hby d4_13) ((if0 _ _).trans (feq (mt (lw_eq a b).mp hc13)).2) (by decide) (by decide) ?_
   refine Run.x_iconst (q := 21) X0 hx (hb hby d4_20) (z := (1 : Int32)) rfl rfl ?_
   refine Run.retI X0 hx hlk e0 hret (hb hby d4_21) (by decide) (by decide) ?_
   exact PureI.mk (by exact ((if_neg hc3).trans (if_neg hc13)).symm) N0
theorem d5_0 : decode prog_9_method_2_code 0 = .ok (.aload_n 0, 1) := by decide +kernel
theorem d5_1 : decode prog_9_method_2_code 1 = .ok (.invokevirtual 35, 3) := by decide +kernel
theorem d5_4 : decode prog_9_method_2_code 4 = .ok (.aload_n 1, 1) := by decide +kernel
theorem d5_5 : decode prog_9_method_2_code 5 = .ok (.invokevirtual 35, 3) := by decide +kernel
theorem d5_8 : decode prog_9_method_2_code 8 = .ok (.lcmp, 1) := by decide +kernel
theorem d5_9 : decode prog_9_method_2_code 9 = .ok (.ifCond .eq 17, 3) := by decide +kernel
theorem d5_12 : decode prog_9_method_2_code 12 = .ok (.aload_n 0, 1) := by decide +kernel
theorem d5_13 : decode prog_9_method_2_code 13 = .ok (.invokevirtual 35, 3) := by decide +kernel
theorem d5_16 : decode prog_9_method_2_code 16 = .ok (.aload_n 1, 1) := by decide +kernel
theorem d5_17 : decode prog_9_method_2_code 17 = .ok (.invokevirtual 35, 3) := by decide +kernel
theorem d5_20 : decode prog_9_method_2_code 20 = .ok (.invokestatic 41, 3) := by decide +kernel
theorem d5_23 : decode prog_9_method_2_code 23 = .ok (.goto 14, 3) := by decide +kernel
theorem d5_26 : decode prog_9_method_2_code 26 = .ok (.aload_n 0, 1) := by decide +kernel
theorem d5_27 : decode prog_9_method_2_code 27 = .ok (.invokevirtual 46, 3) := by decide +kernel
theorem d5_30 : decode prog_9_method_2_code 30 = .ok (.aload_n 1, 1) := by decide +kernel
theorem d5_31 : decode prog_9_method_2_code 31 = .ok (.invokevirtual 46, 3) := by decide +kernel
theorem d5_34 : decode prog_9_method_2_code 34 = .ok (.invokestatic 41, 3) := by decide +kernel
theorem d5_37 : decode prog_9_method_2_code 37 = .ok (.ireturn, 1) := by decide +kernel
theorem pn_2 : plainName "com/example/framewheel/framewheel/core/PhaseQueue" = true := by first | (simp [plainName, overriddenIn]; done) | decide +kernel
theorem ef_c_cmp (m : MethodId) (x1 : Addr) (x2 : Addr) : entryFrame m #[(.ref x1), (.ref x2)] 2 = mkF m 0 #[.val (.ref x1), .val (.ref x2)] [] := by first | (simp [entryFrame, mkF, argsToLocals, Value.category]; done) | rfl
theorem wm187 {a0 : Array Value} {Z : State} (hw : ∀ d ∈ tables_1, d.before a0 Z = true) : (Jvm.Cond.methodLink "com/example/framewheel/framewheel/core/PhaseQueue" (35 : Nat) ({ cls := "com/example/framewheel/framewheel/core/PhaseQueue$Delayed", name := "dueNanos", desc := "()J" } : Jvm.MethodName)).before a0 Z = true := hw _ (List.mem_of_getElem? (i := 187) rfl)
theorem wm191 {a0 : Array Value} {Z : State} (hw : ∀ d ∈ tables_1, d.before a0 Z = true) : (Jvm.Cond.code ({ cls := "com/example/framewheel/framewheel/core/PhaseQueue$Delayed", name := "dueNanos", desc := "()J" } : Jvm.MethodName) prog_10_method_6_code (1 : Nat) (Option.some Jvm.ClassFile.FieldType.long)).before a0 Z = true := hw _ (List.mem_of_getElem? (i := 191) rfl)
theorem pd_0 : parseMethodDescriptor "()J" = some ⟨[], some .long⟩ := by decide +kernel
theorem wm190 {a0 : Array Value} {Z : State} (hw : ∀ d ∈ tables_1, d.before a0 Z = true) : (Jvm.Cond.selects "com/example/framewheel/framewheel/core/PhaseQueue$Delayed" ({ cls := "com/example/framewheel/framewheel/core/PhaseQueue$Delayed", name := "dueNanos", desc := "()J" } : Jvm.MethodName) ({ cls := "com/example/framewheel/framewheel/core/PhaseQueue$Delayed", name := "dueNanos", desc := "()J" } : Jvm.MethodName)).before a0 Z = true := hw _ (List.mem_of_getElem? (i := 190) rfl)
theorem wm188 {a0 : Array Value} {Z : State} (hw : ∀ d ∈ tables_1, d.before a0 Z = true) : (Jvm.Cond.declares ({ cls := "com/example/framewheel/framewheel/core/PhaseQueue$Delayed", name := "dueNanos", desc := "()J" } : Jvm.MethodName)).before a0 Z = true := hw _ (List.mem_of_getElem? (i := 188) rfl)
theorem wm189 {a0 : Array Value} {Z : State} (hw : ∀ d ∈ tables_1, d.before a0 Z = true) : (Jvm.Cond.instanceMethod ({ cls := "com/example/framewheel/framewheel/core/PhaseQueue$Delayed", name := "dueNanos", desc := "()J" } : Jvm.MethodName)).before a0 Z = true := hw _ (List.mem_of_getElem? (i := 189) rfl)
theorem wm115 {a0 : Array Value} {Z : State} (hw : ∀ d ∈ tables_1, d.before a0 Z = true) : (Jvm.Cond.initialized "com/example/framewheel/framewheel/core/PhaseQueue$Delayed").before a0 Z = true := hw _ (List.mem_of_getElem? (i := 115) rfl)
theorem wm200 {a0 : Array Value} {Z : State} (hw : ∀ d ∈ tables_1, d.before a0 Z = true) : (Jvm.Cond.methodLink "com/example/framewheel/framewheel/core/PhaseQueue" (46 : Nat) ({ cls := "com/example/framewheel/framewheel/core/PhaseQueue$Delayed", name := "sequence", desc := "()J" } : Jvm.MethodName)).before a0 Z = true := hw _ (List.mem_of_getElem? (i := 200) rfl)
theorem wm204 {a0 : Array Value} {Z : State} (hw : ∀ d ∈ tables_1, d.before a0 Z = true) : (Jvm.Cond.code ({ cls := "com/example/framewheel/framewheel/core/PhaseQueue$Delayed", name := "sequence", desc := "()J" } : Jvm.MethodName) prog_10_method_7_code (1 : Nat) (Option.some Jvm.ClassFile.FieldType.long)).before a0 Z = true := hw _ (List.mem_of_getElem? (i := 204) rfl)
theorem wm203 {a0 : Array Value} {Z : State} (hw : ∀ d ∈ tables_1, d.before a0 Z = true) : (Jvm.Cond.selects "com/example/framewheel/framewheel/core/PhaseQueue$Delayed" ({ cls := "com/example/framewheel/framewheel/core/PhaseQueue$Delayed", name := "sequence", desc := "()J" } : Jvm.MethodName) ({ cls := "com/example/framewheel/framewheel/core/PhaseQueue$Delayed", name := "sequence", desc := "()J" } : Jvm.MethodName)).before a0 Z = true := hw _ (List.mem_of_getElem? (i := 203) rfl)
theorem wm201 {a0 : Array Value} {Z : State} (hw : ∀ d ∈ tables_1, d.before a0 Z = true) : (Jvm.Cond.declares ({ cls := "com/example/framewheel/framewheel/core/PhaseQueue$Delayed", name := "sequence", desc := "()J" } : Jvm.MethodName)).before a0 Z = true := hw _ (List.mem_of_getElem? (i := 201) rfl)
theorem wm202 {a0 : Array Value} {Z : State} (hw : ∀ d ∈ tables_1, d.before a0 Z = true) : (Jvm.Cond.instanceMethod ({ cls := "com/example/framewheel/framewheel/core/PhaseQueue$Delayed", name := "sequence", desc := "()J" } : Jvm.MethodName)).before a0 Z = true := hw _ (List.mem_of_getElem? (i := 202) rfl)
theorem wm192 {a0 : Array Value} {Z : State} (hw : ∀ d ∈ tables_1, d.before a0 Z = true) : (Jvm.Cond.methodLink "com/example/framewheel/framewheel/core/PhaseQueue" (41 : Nat) ({ cls := "java/lang/Long", name := "compare", desc := "(JJ)I" } : Jvm.MethodName)).before a0 Z = true := hw _ (List.mem_of_getElem? (i := 192) rfl)
theorem wm195 {a0 : Array Value} {Z : State} (hw : ∀ d ∈ tables_1, d.before a0 Z = true) : (Jvm.Cond.code ({ cls := "java/lang/Long", name := "compare", desc := "(JJ)I" } : Jvm.MethodName) jdk_35_method_42_code (4 : Nat) (Option.some Jvm.ClassFile.FieldType.int)).before a0 Z = true := hw _ (List.mem_of_getElem? (i := 195) rfl)
theorem pd_1 : parseMethodDescriptor "(JJ)I" = some ⟨[.long, .long], some .int⟩ := by decide +kernel
theorem wm193 {a0 : Array Value} {Z : State} (hw : ∀ d ∈ tables_1, d.before a0 Z = true) : (Jvm.Cond.static ({ cls := "java/lang/Long", name := "compare", desc := "(JJ)I" } : Jvm.MethodName)).before a0 Z = true := hw _ (List.mem_of_getElem? (i := 193) rfl)
theorem wm194 {a0 : Array Value} {Z : State} (hw : ∀ d ∈ tables_1, d.before a0 Z = true) : (Jvm.Cond.initialized "java/lang/Long").before a0 Z = true := hw _ (List.mem_of_getElem? (i := 194) rfl)
set_option maxRecDepth 65536 in
set_option maxHeartbeats 40000000 in
theorem c_cmp (l : Launch) (Z : State) (a0 : Array Value) (hw : ∀ d ∈ tables_1, d.before a0 Z = true) (x1 : Addr) (x2 : Addr) (h0 : Heap) (n0 : Nat) (Z0 : n0 ≤ h0.size) (d1 : Int64) (s1 : Int64) (d2 : Int64) (s2 : Int64) (E_x1 : Exa Z h0 x1 "com/example/framewheel/framewheel/core/PhaseQueue$Delayed") (F_x1_dueNanos : Fld Z h0 x1 "com/example/framewheel/framewheel/core/PhaseQueue$Delayed" "dueNanos" "J" (.long d1)) (F_x1_sequence : Fld Z h0 x1 "com/example/framewheel/framewheel/core/PhaseQueue$Delayed" "sequence" "J" (.long s1)) (E_x2 : Exa Z h0 x2 "com/example/framewheel/framewheel/core/PhaseQueue$Delayed") (F_x2_dueNanos : Fld Z h0 x2 "com/example/framewheel/framewheel/core/PhaseQueue$Delayed" "dueNanos" "J" (.long d2)) (F_x2_sequence : Fld Z h0 x2 "com/example/framewheel/framewheel/core/PhaseQueue$Delayed" "sequence" "J" (.long s2)) :
  Ctr l Z (⟨"com/example/framewheel/framewheel/core/PhaseQueue", "compareByDueTime", "(Lcom/example/framewheel/framewheel/core/PhaseQueue$Delayed;Lcom/example/framewheel/framewheel/core/PhaseQueue$Delayed;)I"⟩ : MethodName) prog_9_method_2_code 2 (some .int) ({ frames := 1, cells := 0, slots := 0, locals := 15 } : Room) #[(.ref x1), (.ref x2)] h0 (PureI h0 n0 (own_cmp d1 s1 d2 s2)) := by
 refine Ctr.of (plainFor_of_name pn_2) (fun m => ef_c_cmp m x1 x2) ?_
 intro p e s m below meth c T0 hx hby hml hown hnm hret hlk hH e0 X0 hnd
 have hZ := hH.wide
 have N0 := Fr.nil n0
 replace hown : s.vm.findClass "com/example/framewheel/framewheel/core/PhaseQueue" = some m.cls := hown
 replace hml : c.maxLocals = 2 := hml
 refine Run.x_aloadN (q := 1) X0 hx (hb hby d5_0) rfl rfl rfl ?_
 refine Run.callV X0 hx hH e0 (y := (⟨"com/example/framewheel/framewheel/core/PhaseQueue$Delayed", "dueNanos", "()J"⟩ : MethodName)) (z := (⟨"com/example/framewheel/framewheel/core/PhaseQueue$Delayed", "dueNanos", "()J"⟩ : MethodName)) hown (wm187 hw) (wm188 hw) (notFace_of_selects (args := #[]) (mvT hZ (wm190 hw))) (wm190 hw) (wm189 hw) (wm115 hw) (wm191 hw) (by decide) (a := x1) E_x1 (argsL := []) (rest := []) (c_due l Z a0 hw x1 h0 n0 Z0 d1 E_x1 F_x1_dueNanos) pd_0 rfl (by rw [hml]; rfl) (W := 0) rfl (by decide) (by decide) (by decide) (by decide) (hb hby d5_1) rfl ?_
 intro T1 v1 L1 X1 q1
 obtain ⟨rfl, M1, e1⟩ := q1
 have N1 := Fr.app N0 M1
 show Run p e below s _ _ _ (T1.setTop (mkF m 4 #[.val (.ref x1), .val (.ref x2)] [(.long d1)]))
 refine Run.x_aloadN (q := 5) X1 hx (hb hby d5_4) rfl rfl rfl ?_
 refine Run.callV X1 hx hH e1 (y := (⟨"com/example/framewheel/framewheel/core/PhaseQueue$Delayed", "dueNanos", "()J"⟩ : MethodName)) (z := (⟨"com/example/framewheel/framewheel/core/PhaseQueue$Delayed", "dueNanos", "()J"⟩ : MethodName)) hown (wm187 hw) (wm188 hw) (notFace_of_selects (args := #[]) (mvT hZ (wm190 hw))) (wm190 hw) (wm189 hw) (wm115 hw) (wm191 hw) (by decide) (a := x2) E_x2 (argsL := []) (rest := [(.long d1)]) (c_due l Z a0 hw x2 h0 n0 Z0 d2 E_x2 F_x2_dueNanos) pd_0 rfl (by rw [hml]; rfl) (W := 2) rfl (by decide) (by decide) (by decide) (by decide) (hb hby d5_5) rfl ?_
 intro T2 v2 L2 X2 q2
 obtain ⟨rfl, M2, e2⟩ := q2
 have N2 := Fr.app N1 M2
 show Run p e below s _ _ _ (T2.setTop (mkF m 8 #[.val (.ref x1), .val (.ref x2)] [(.long d2), (.long d1)]))
 refine Run.x_lcmp (q := 9) X2 hx (hb hby d5_8)  rfl ?_
 by_cases hc9 : d1 = d2
 ·skip
  refine Run.x_ifYes (q := 26) X2 hx (hb hby d5_9) ((if0 _ _).trans (teq ((lw_eq d1 d2).mpr hc9)).1) (by decide) (by decide) ?_
  refine Run.x_aloadN (q := 27) X2 hx (hb hby d5_26) rfl rfl rfl ?_
  refine Run.callV X2 hx hH e2 (y := (⟨"com/example/framewheel/framewheel/core/PhaseQueue$Delayed", "sequence", "()J"⟩ : MethodName)) (z := (⟨"com/example/framewheel/framewheel/core/PhaseQueue$Delayed", "sequence", "()J"⟩ : MethodName)) hown (wm200 hw) (wm201 hw) (notFace_of_selects (args := #[]) (mvT hZ (wm203 hw))) (wm203 hw) (wm202 hw) (wm115 hw) (wm204 hw) (by decide) (a := x1) E_x1 (argsL := []) (rest := []) (c_seq l Z a0 hw x1 h0 n0 Z0 s1 E_x1 F_x1_sequence) pd_0 rfl (by rw [hml]; rfl) (W := 0) rfl (by decide) (by decide) (by decide) (by decide) (hb hby d5_27) rfl ?_
  intro T3 v3 L3 X3 q3
  obtain ⟨rfl, M3, e3⟩ := q3
  have N3 := Fr.app N2 M3
  show Run p e below s _ _ _ (T3.setTop (mkF m 30 #[.val (.ref x1), .val (.ref x2)] [(.long s1)]))
  refine Run.x_aloadN (q := 31) X3 hx (hb hby d5_30) rfl rfl rfl ?_
  refine Run.callV X3 hx hH e3 (y := (⟨"com/example/framewheel/framewheel/core/PhaseQueue$Delayed", "sequence", "()J"⟩ : MethodName)) (z := (⟨"com/example/framewheel/framewheel/core/PhaseQueue$Delayed", "sequence", "()J"⟩ : MethodName)) hown (wm200 hw) (wm201 hw) (notFace_of_selects (args := #[]) (mvT hZ (wm203 hw))) (wm203 hw) (wm202 hw) (wm115 hw) (wm204 hw) (by decide) (a := x2) E_x2 (argsL := []) (rest := [(.long s1)]) (c_seq l Z a0 hw x2 h0 n0 Z0 s2 E_x2 F_x2_sequence) pd_0 rfl (by rw [hml]; rfl) (W := 2) rfl (by decide) (by decide) (by decide) (by decide) (hb hby d5_31) rfl ?_
  intro T4 v4 L4 X4 q4
  obtain ⟨rfl, M4, e4⟩ := q4
  have N4 := Fr.app N3 M4
  show Run p e below s _ _ _ (T4.setTop (mkF m 34 #[.val (.ref x1), .val (.ref x2)] [(.long s2), (.long s1)]))
  refine Run.callSI (q := 37) X4 hx hH e4 (y := (⟨"java/lang/Long", "compare", "(JJ)I"⟩ : MethodName)) hown (wm192 hw) (wm193 hw) (wm194 hw) (wm195 hw) (by decide) (argsL := [(.long s1), (.long s2)]) (rest := []) (c_lcm l Z a0 hw s1 s2 h0 n0 Z0 ) pd_1 rfl (by rw [hml]; rfl) (W := 0) rfl (by decide) (by decide) (by decide) (by decide) (hb hby d5_34) rfl rfl fun T5 L5 X5 M5 e5 => ?_
  have N5 := Fr.app N4 M5
  refine Run.retI X5 hx hlk e5 hret (hb hby d5_37) (by decide) (by decide) ?_
  exact PureI.mk (by exact (if_pos hc9).symm) N5
 ·skip
  refine Run.x_ifNo (q := 12) X2 hx (hb hby d5_9) ((if0 _ _).trans (feq (mt (lw_eq d1 d2).mp hc9)).1) rfl ?_
  refine Run.x_aloadN (q := 13) X2 hx (hb hby d5_12) rfl rfl rfl ?_
  refine Run.callV X2 hx hH e2 (y := (⟨"com/example/framewheel/framewheel/core/PhaseQueue$Delayed", "dueNanos", "()J"⟩ : MethodName)) (z := (⟨"com/example/framewheel/framewheel/core/PhaseQueue$Delayed", "dueNanos", "()J"⟩ : MethodName)) hown (wm187 hw) (wm188 hw) (notFace_of_selects (args := #[]) (mvT hZ (wm190 hw))) (wm190 hw) (wm189 hw) (wm115 hw) (wm191 hw) (by decide) (a := x1) E_x1 (argsL := []) (rest := []) (c_due l Z a0 hw x1 h0 n0 Z0 d1 E_x1 F_x1_dueNanos) pd_0 rfl (by rw [hml]; rfl) (W := 0) rfl (by decide) (by decide) (by decide) (by decide) (hb hby d5_13) rfl ?_
  intro T6 v6 L6 X6 q6
  obtain ⟨rfl, M6, e6⟩ := q6
  have N6 := Fr.app N2 M6
  show Run p e below s _ _ _ (T6.setTop (mkF m 16 #[.val (.ref x1), .val (.ref x2)] [(.long d1)]))
  refine Run.x_aloadN (q := 17) X6 hx (hb hby d5_16) rfl rfl rfl ?_
  refine Run.callV X6 hx hH e6 (y := (⟨"com/example/framewheel/framewheel/core/PhaseQueue$Delayed", "dueNanos", "()J"⟩ : MethodName)) (z := (⟨"com/example/framewheel/framewheel/core/PhaseQueue$Delayed", "dueNanos", "()J"⟩ : MethodName)) hown (wm187 hw) (wm188 hw) (notFace_of_selects (args := #[]) (mvT hZ (wm190 hw))) (wm190 hw) (wm189 hw) (wm115 hw) (wm191 hw) (by decide) (a := x2) E_x2 (argsL := []) (rest := [(.long d1)]) (c_due l Z a0 hw x2 h0 n0 Z0 d2 E_x2 F_x2_dueNanos) pd_0 rfl (by rw [hml]; rfl) (W := 2) rfl (by decide) (by decide) (by decide) (by decide) (hb hby d5_17) rfl ?_
  intro T7 v7 L7 X7 q7
  obtain ⟨rfl, M7, e7⟩ := q7
  have N7 := Fr.app N6 M7
  show Run p e below s _ _ _ (T7.setTop (mkF m 20 #[.val (.ref x1), .val (.ref x2)] [(.long d2), (.long d1)]))
  refine Run.callSI (q := 23) X7 hx hH e7 (y := (⟨"java/lang/Long", "compare", "(JJ)I"⟩ : MethodName)) hown (wm192 hw) (wm193 hw) (wm194 hw) (wm195 hw) (by decide) (argsL := [(.long d1), (.long d2)]) (rest := []) (c_lcm l Z a0 hw d1 d2 h0 n0 Z0 ) pd_1 rfl (by rw [hml]; rfl) (W := 0) rfl (by decide) (by decide) (by decide) (by decide) (hb hby d5_20) rfl rfl fun T8 L8 X8 M8 e8 => ?_
  have N8 := Fr.app N7 M8
  refine Run.x_goto (q := 37) X8 hx (hb hby d5_23) (by decide) (by decide) ?_
  refine Run.retI X8 hx hlk e8 hret (hb hby d5_37) (by decide) (by decide) ?_
  exact PureI.mk (by exact (if_neg hc9).symm) N8
theorem d6_0 : decode jdk_21_method_10_code 0 = .ok (.aload_n 0, 1) := by decide +kernel
theorem d6_1 : decode jdk_21_method_10_code 1 = .ok (.iload_n 1, 1) := by decide +kernel
theorem d6_2 : decode jdk_21_method_10_code 2 = .ok (.aaload, 1) := by decide +kernel
theorem d6_3 : decode jdk_21_method_10_code 3 = .ok (.areturn, 1) := by decide +kernel
theorem pn_3 : plainName "java/util/ArrayDeque" = true := by first | (simp [plainName, overriddenIn]; done) | decide +kernel
theorem ef_c_ela_n (m : MethodId) (arr : Addr) (i : Int32) : entryFrame m #[(.ref arr), (.int i)] 2 = mkF m 0 #[.val (.ref arr), .val (.int i)] [] := by first | (simp [entryFrame, mkF, argsToLocals, Value.category]; done) | rfl
set_option maxRecDepth 65536 in
set_option maxHeartbeats 40000000 in
theorem c_ela_n (l : Launch) (Z : State) (a0 : Array Value) (hw : ∀ d ∈ tables_1, d.before a0 Z = true) (arr : Addr) (i : Int32) (h0 : Heap) (n0 : Nat) (Z0 : n0 ≤ h0.size) (vs : List Value) (ii : Nat) (A_arr : Ars Z h0 arr (.object "java/lang/Object") vs) (hi : i.toInt = ii) (hv : vs[ii]? = some .null) :
  Ctr l Z (⟨"java/util/ArrayDeque", "elementAt", "([Ljava/lang/Object;I)Ljava/lang/Object;"⟩ : MethodName) jdk_21_method_10_code 2 (some (.object "java/lang/Object")) ({ frames := 0, cells := 0, slots := 0, locals := 0 } : Room) #[(.ref arr), (.int i)] h0 (PureR h0 n0 .null) := by
 refine Ctr.of (plainFor_of_name pn_3) (fun m => ef_c_ela_n m arr i) ?_
 intro p e s m below meth c T0 hx hby hml hown hnm hret hlk hH e0 X0 hnd
 have hZ := hH.wide
 have N0 := Fr.nil n0
 replace hown : s.vm.findClass "java/util/ArrayDeque" = some m.cls := hown
 replace hml : c.maxLocals = 2 := hml
 refine Run.x_aloadN (q := 1) X0 hx (hb hby d6_0) rfl rfl rfl ?_
 refine Run.x_iloadN (q := 2) X0 hx (hb hby d6_1) rfl rfl ?_
 refine Run.y_ldR (q := 3) X0 hx hZ e0 A_arr (i := ii) (v := .null) hi hv rfl (hb hby d6_2) rfl ?_
 refine Run.retA X0 hx hlk e0 (t := (.object "java/lang/Object")) hret rfl rfl rfl (hb hby d6_3) (by decide) (by decide) ?_
 exact ⟨rfl, N0, rfl⟩
theorem ef_c_ela_r (m : MethodId) (arr : Addr) (i : Int32) : entryFrame m #[(.ref arr), (.int i)] 2 = mkF m 0 #[.val (.ref arr), .val (.int i)] [] := by first | (simp [entryFrame, mkF, argsToLocals, Value.category]; done) | rfl
set_option maxRecDepth 65536 in
set_option maxHeartbeats 40000000 in
theorem c_ela_r (l : Launch) (Z : State) (a0 : Array Value) (hw : ∀ d ∈ tables_1, d.before a0 Z = true) (arr : Addr) (i : Int32) (h0 : Heap) (n0 : Nat) (Z0 : n0 ≤ h0.size) (vs : List Value) (ii : Nat) (x : Addr) (A_arr : Ars Z h0 arr (.object "java/lang/Object") vs) (hi : i.toInt = ii) (hv : vs[ii]? = some (.ref x)) :
  Ctr l Z (⟨"java/util/ArrayDeque", "elementAt", "([Ljava/lang/Object;I)Ljava/lang/Object;"⟩ : MethodName) jdk_21_method_10_code 2 (some (.object "java/lang/Object")) ({ frames := 0, cells := 0, slots := 0, locals := 0 } : Room) #[(.ref arr), (.int i)] h0 (PureR h0 n0 (.ref x)) := by
 refine Ctr.of (plainFor_of_name pn_3) (fun m => ef_c_ela_r m arr i) ?_
 intro p e s m below meth c T0 hx hby hml hown hnm hret hlk hH e0 X0 hnd
 have hZ := hH.wide
 have N0 := Fr.nil n0
 replace hown : s.vm.findClass "java/util/ArrayDeque" = some m.cls := hown
 replace hml : c.maxLocals = 2 := hml
 refine Run.x_aloadN (q := 1) X0 hx (hb hby d6_0) rfl rfl rfl ?_
 refine Run.x_iloadN (q := 2) X0 hx (hb hby d6_1) rfl rfl ?_
 refine Run.y_ldR (q := 3) X0 hx hZ e0 A_arr (i := ii) (v := (.ref x)) hi hv rfl (hb hby d6_2) rfl ?_
 refine Run.retA X0 hx hlk e0 (t := (.object "java/lang/Object")) hret rfl rfl rfl (hb hby d6_3) (by decide) (by decide) ?_
 exact ⟨rfl, N0, rfl⟩
def own_dec (i n : Int32) : Int32 := if (i + -1) < 0 then n - 1 else i + -1
theorem own_decP {i n : Int32} {t : Nat} (h : i.toInt = (t + 1 : Nat)) (h' : t ≤ 100) : own_dec i n = i + -1 := if_neg (by
 have := own_dec1 h h'
 rw [lt32, this]
 have : (0 : Int32).toInt = 0 := rfl
 omega)
theorem own_len17 {vs : List Value} (h : vs.length = 17) : vs.length.toInt32 = 17 := by rw [h]; decide
theorem own_0 {i : Int32} (h : i.toInt = (0 : Nat)) : i = 0 := Int32.toInt_inj.mp h
theorem d7_0 : decode jdk_21_method_7_code 0 = .ok (.iinc 0 (-1), 3) := by decide +kernel
theorem d7_3 : decode jdk_21_method_7_code 3 = .ok (.iload_n 0, 1) := by decide +kernel
theorem d7_4 : decode jdk_21_method_7_code 4 = .ok (.ifCond .ge 7, 3) := by decide +kernel
theorem d7_7 : decode jdk_21_method_7_code 7 = .ok (.iload_n 1, 1) := by decide +kernel
theorem d7_8 : decode jdk_21_method_7_code 8 = .ok (.iconst 1, 1) := by decide +kernel
theorem d7_9 : decode jdk_21_method_7_code 9 = .ok (.isub, 1) := by decide +kernel
theorem d7_10 : decode jdk_21_method_7_code 10 = .ok (.istore_n 0, 1) := by decide +kernel
theorem d7_11 : decode jdk_21_method_7_code 11 = .ok (.iload_n 0, 1) := by decide +kernel
theorem d7_12 : decode jdk_21_method_7_code 12 = .ok (.ireturn, 1) := by decide +kernel
theorem ef_c_dec (m : MethodId) (i : Int32) (n : Int32) : entryFrame m #[(.int i), (.int n)] 2 = mkF m 0 #[.val (.int i), .val (.int n)] [] := by first | (simp [entryFrame, mkF, argsToLocals, Value.category]; done) | rfl
set_option maxRecDepth 65536 in
set_option maxHeartbeats 40000000 in
theorem c_dec (l : Launch) (Z : State) (a0 : Array Value) (hw : ∀ d ∈ tables_1, d.before a0 Z = true) (i : Int32) (n : Int32) (h0 : Heap) (n0 : Nat) (Z0 : n0 ≤ h0.size) (z : Int32) (hz : own_dec i n = z) :
  Ctr l Z (⟨"java/util/ArrayDeque", "dec", "(II)I"⟩ : MethodName) jdk_21_method_7_code 2 (some .int) ({ frames := 0, cells := 0, slots := 0, locals := 0 } : Room) #[(.int i), (.int n)] h0 (PureI h0 n0 z) := by
 refine Ctr.of (plainFor_of_name pn_3) (fun m => ef_c_dec m i n) ?_
 intro p e s m below meth c T0 hx hby hml hown hnm hret hlk hH e0 X0 hnd
 have hZ := hH.wide
 have N0 := Fr.nil n0
 replace hown : s.vm.findClass "java/util/ArrayDeque" = some m.cls := hown
 replace hml : c.maxLocals = 2 := hml
 refine Run.x_iinc (q := 3) X0 hx #[.val (.int (i + (-1 : Int32))), .val (.int n)] (hb hby d7_0) rfl (z := (i + (-1 : Int32))) rfl rfl rfl ?_
 refine Run.x_iloadN (q := 4) X0 hx (hb hby d7_3) rfl rfl ?_
 by_cases hc4 : (i + (-1 : Int32)) < (0 : Int32)
 ·skip
  refine Run.x_ifNo (q := 7) X0 hx (hb hby d7_4) ((if0 _ _).trans (tlt hc4).2.1) rfl ?_
  refine Run.x_iloadN (q := 8) X0 hx (hb hby d7_7) rfl rfl ?_
  refine Run.x_iconst (q := 9) X0 hx (hb hby d7_8) (z := (1 : Int32)) rfl rfl ?_
  refine Run.x_isub (q := 10) X0 hx (hb hby d7_9) rfl rfl ?_
  refine Run.x_istoreN (q := 11) X0 hx #[.val (.int (n - (1 : Int32))), .val (.int n)] (hb hby d7_10) rfl rfl ?_
  refine Run.x_iloadN (q := 12) X0 hx (hb hby d7_11) rfl rfl ?_
  refine Run.retI X0 hx hlk e0 hret (hb hby d7_12) (by decide) (by decide) ?_
  exact PureI.mk (by exact (if_pos hc4).symm.trans hz) N0
 ·skip
  refine Run.x_ifYes (q := 11) X0 hx (hb hby d7_4) ((if0 _ _).trans (flt hc4).2.1) (by decide) (by decide) ?_
  refine Run.x_iloadN (q := 12) X0 hx (hb hby d7_11) rfl rfl ?_
  refine Run.retI X0 hx hlk e0 hret (hb hby d7_12) (by decide) (by decide) ?_
  exact PureI.mk (by exact (if_neg hc4).symm.trans hz) N0
theorem d8_0 : decode jdk_21_method_6_code 0 = .ok (.iinc 0 1, 3) := by decide +kernel
theorem d8_3 : decode jdk_21_method_6_code 3 = .ok (.iload_n 0, 1) := by decide +kernel
theorem d8_4 : decode jdk_21_method_6_code 4 = .ok (.iload_n 1, 1) := by decide +kernel
theorem d8_5 : decode jdk_21_method_6_code 5 = .ok (.if_icmp .lt 5, 3) := by decide +kernel
theorem d8_8 : decode jdk_21_method_6_code 8 = .ok (.iconst 0, 1) := by decide +kernel
theorem d8_9 : decode jdk_21_method_6_code 9 = .ok (.istore_n 0, 1) := by decide +kernel
theorem d8_10 : decode jdk_21_method_6_code 10 = .ok (.iload_n 0, 1) := by decide +kernel
theorem d8_11 : decode jdk_21_method_6_code 11 = .ok (.ireturn, 1) := by decide +kernel
theorem ef_c_inc (m : MethodId) (i : Int32) (n : Int32) : entryFrame m #[(.int i), (.int n)] 2 = mkF m 0 #[.val (.int i), .val (.int n)] [] := by first | (simp [entryFrame, mkF, argsToLocals, Value.category]; done) | rfl
set_option maxRecDepth 65536 in
set_option maxHeartbeats 40000000 in
theorem c_inc (l : Launch) (Z : State) (a0 : Array Value) (hw : ∀ d ∈ tables_1, d.before a0 Z = true) (i : Int32) (n : Int32) (h0 : Heap) (n0 : Nat) (Z0 : n0 ≤ h0.size) (hlt : (i + (1 : Int32)) < n) :
  Ctr l Z (⟨"java/util/ArrayDeque", "inc", "(II)I"⟩ : MethodName) jdk_21_method_6_code 2 (some .int) ({ frames := 0, cells := 0, slots := 0, locals := 0 } : Room) #[(.int i), (.int n)] h0 (PureI h0 n0 (i + (1 : Int32))) := by
 refine Ctr.of (plainFor_of_name pn_3) (fun m => ef_c_inc m i n) ?_
 intro p e s m below meth c T0 hx hby hml hown hnm hret hlk hH e0 X0 hnd
 have hZ := hH.wide
 have N0 := Fr.nil n0
 replace hown : s.vm.findClass "java/util/ArrayDeque" = some m.cls := hown
 replace hml : c.maxLocals = 2 := hml
 refine Run.x_iinc (q := 3) X0 hx #[.val (.int (i + (1 : Int32))), .val (.int n)] (hb hby d8_0) rfl (z := (i + (1 : Int32))) rfl rfl rfl ?_
 refine Run.x_iloadN (q := 4) X0 hx (hb hby d8_3) rfl rfl ?_
 refine Run.x_iloadN (q := 5) X0 hx (hb hby d8_4) rfl rfl ?_
 refine Run.x_icmpYes (q := 10) X0 hx (hb hby d8_5) (tlt hlt).1 (by decide) (by decide) ?_
 refine Run.x_iloadN (q := 11) X0 hx (hb hby d8_10) rfl rfl ?_
 refine Run.retI X0 hx hlk e0 hret (hb hby d8_11) (by decide) (by decide) ?_
 exact PureI.mk (by rfl) N0
theorem d9_0 : decode jdk_21_method_24_code 0 = .ok (.aload_n 0, 1) := by decide +kernel
theorem d9_1 : decode jdk_21_method_24_code 1 = .ok (.getfield 3, 3) := by decide +kernel
theorem d9_4 : decode jdk_21_method_24_code 4 = .ok (.aload_n 0, 1) := by decide +kernel
theorem d9_5 : decode jdk_21_method_24_code 5 = .ok (.getfield 24, 3) := by decide +kernel
theorem d9_8 : decode jdk_21_method_24_code 8 = .ok (.invokestatic 103, 3) := by decide +kernel
theorem d9_11 : decode jdk_21_method_24_code 11 = .ok (.areturn, 1) := by decide +kernel
theorem ef_c_pkf_n (m : MethodId) (this : Addr) : entryFrame m #[(.ref this)] 1 = mkF m 0 #[.val (.ref this)] [] := by first | (simp [entryFrame, mkF, argsToLocals, Value.category]; done) | rfl
theorem wm50 {a0 : Array Value} {Z : State} (hw : ∀ d ∈ tables_1, d.before a0 Z = true) : (Jvm.Cond.fieldLink "java/util/ArrayDeque" (3 : Nat) "java/util/ArrayDeque" "elements" "[Ljava/lang/Object;").before a0 Z = true := hw _ (List.mem_of_getElem? (i := 50) rfl)
theorem wm161 {a0 : Array Value} {Z : State} (hw : ∀ d ∈ tables_1, d.before a0 Z = true) : (Jvm.Cond.fieldLink "java/util/ArrayDeque" (24 : Nat) "java/util/ArrayDeque" "head" "I").before a0 Z = true := hw _ (List.mem_of_getElem? (i := 161) rfl)
theorem wm152 {a0 : Array Value} {Z : State} (hw : ∀ d ∈ tables_1, d.before a0 Z = true) : (Jvm.Cond.methodLink "java/util/ArrayDeque" (103 : Nat) ({ cls := "java/util/ArrayDeque", name := "elementAt", desc := "([Ljava/lang/Object;I)Ljava/lang/Object;" } : Jvm.MethodName)).before a0 Z = true := hw _ (List.mem_of_getElem? (i := 152) rfl)
theorem wm154 {a0 : Array Value} {Z : State} (hw : ∀ d ∈ tables_1, d.before a0 Z = true) : (Jvm.Cond.code ({ cls := "java/util/ArrayDeque", name := "elementAt", desc := "([Ljava/lang/Object;I)Ljava/lang/Object;" } : Jvm.MethodName) jdk_21_method_10_code (2 : Nat) (Option.some (Jvm.ClassFile.FieldType.object "java/lang/Object"))).before a0 Z = true := hw _ (List.mem_of_getElem? (i := 154) rfl)
theorem pd_2 : parseMethodDescriptor "([Ljava/lang/Object;I)Ljava/lang/Object;" = some ⟨[(.array (.object "java/lang/Object")), .int], some (.object "java/lang/Object")⟩ := by decide +kernel
theorem wm153 {a0 : Array Value} {Z : State} (hw : ∀ d ∈ tables_1, d.before a0 Z = true) : (Jvm.Cond.static ({ cls := "java/util/ArrayDeque", name := "elementAt", desc := "([Ljava/lang/Object;I)Ljava/lang/Object;" } : Jvm.MethodName)).before a0 Z = true := hw _ (List.mem_of_getElem? (i := 153) rfl)
theorem wm37 {a0 : Array Value} {Z : State} (hw : ∀ d ∈ tables_1, d.before a0 Z = true) : (Jvm.Cond.initialized "java/util/ArrayDeque").before a0 Z = true := hw _ (List.mem_of_getElem? (i := 37) rfl)
set_option maxRecDepth 65536 in
set_option maxHeartbeats 40000000 in
theorem c_pkf_n (l : Launch) (Z : State) (a0 : Array Value) (hw : ∀ d ∈ tables_1, d.before a0 Z = true) (this : Addr) (h0 : Heap) (n0 : Nat) (Z0 : n0 ≤ h0.size) (ea : Addr) (vs : List Value) (hv_ : Int32) (ii : Nat) (E_this : Exa Z h0 this "java/util/ArrayDeque") (F_this_elements : Fld Z h0 this "java/util/ArrayDeque" "elements" "[Ljava/lang/Object;" (.ref ea)) (F_this_head : Fld Z h0 this "java/util/ArrayDeque" "head" "I" (.int hv_)) (A_ea : Ars Z h0 ea (.object "java/lang/Object") vs) (hi : hv_.toInt = ii) (hv : vs[ii]? = some .null) :
  Ctr l Z (⟨"java/util/ArrayDeque", "peekFirst", "()Ljava/lang/Object;"⟩ : MethodName) jdk_21_method_24_code 1 (some (.object "java/lang/Object")) ({ frames := 1, cells := 0, slots := 0, locals := 13 } : Room) #[(.ref this)] h0 (PureR h0 n0 .null) := by
 refine Ctr.of (plainFor_of_name pn_3) (fun m => ef_c_pkf_n m this) ?_
 intro p e s m below meth c T0 hx hby hml hown hnm hret hlk hH e0 X0 hnd
 have hZ := hH.wide
 have N0 := Fr.nil n0
 replace hown : s.vm.findClass "java/util/ArrayDeque" = some m.cls := hown
 replace hml : c.maxLocals = 1 := hml
 refine Run.x_aloadN (q := 1) X0 hx (hb hby d9_0) rfl rfl rfl ?_
 refine Run.z_getF (q := 4) X0 hx hZ e0 hown (wm50 hw) F_this_elements (hb hby d9_1) rfl fun T1 X1 e1 => ?_
 refine Run.x_aloadN (q := 5) X1 hx (hb hby d9_4) rfl rfl rfl ?_
 refine Run.z_getF (q := 8) X1 hx hZ e1 hown (wm161 hw) F_this_head (hb hby d9_5) rfl fun T2 X2 e2 => ?_
 refine Run.callS X2 hx hH e2 (y := (⟨"java/util/ArrayDeque", "elementAt", "([Ljava/lang/Object;I)Ljava/lang/Object;"⟩ : MethodName)) hown (wm152 hw) (wm153 hw) (wm37 hw) (wm154 hw) (by decide) (argsL := [(.ref ea), (.int hv_)]) (rest := []) (c_ela_n l Z a0 hw ea hv_ h0 n0 Z0 vs ii A_ea hi hv) pd_2 rfl (by rw [hml]; rfl) (W := 0) rfl (by decide) (by decide) (by decide) (by decide) (hb hby d9_8) rfl ?_
 intro T3 v3 L3 X3 q3
 obtain ⟨rfl, M3, e3⟩ := q3
 have N3 := Fr.app N0 M3
 show Run p e below s _ _ _ (T3.setTop (mkF m 11 #[.val (.ref this)] [.null]))
 refine Run.retA X3 hx hlk e3 (t := (.object "java/lang/Object")) hret rfl rfl rfl (hb hby d9_11) (by decide) (by decide) ?_
 exact ⟨rfl, N3, rfl⟩
theorem d10_0 : decode jdk_21_method_25_code 0 = .ok (.aload_n 0, 1) := by decide +kernel
theorem d10_1 : decode jdk_21_method_25_code 1 = .ok (.getfield 3, 3) := by decide +kernel
theorem d10_4 : decode jdk_21_method_25_code 4 = .ok (.dup, 1) := by decide +kernel
theorem d10_5 : decode jdk_21_method_25_code 5 = .ok (.astore_n 1, 1) := by decide +kernel
theorem d10_6 : decode jdk_21_method_25_code 6 = .ok (.aload_n 0, 1) := by decide +kernel
theorem d10_7 : decode jdk_21_method_25_code 7 = .ok (.getfield 20, 3) := by decide +kernel
theorem d10_10 : decode jdk_21_method_25_code 10 = .ok (.aload_n 1, 1) := by decide +kernel
theorem d10_11 : decode jdk_21_method_25_code 11 = .ok (.arraylength, 1) := by decide +kernel
theorem d10_12 : decode jdk_21_method_25_code 12 = .ok (.invokestatic 68, 3) := by decide +kernel
theorem d10_15 : decode jdk_21_method_25_code 15 = .ok (.invokestatic 103, 3) := by decide +kernel
theorem d10_18 : decode jdk_21_method_25_code 18 = .ok (.areturn, 1) := by decide +kernel
theorem ef_c_pkl_n (m : MethodId) (this : Addr) : entryFrame m #[(.ref this)] 2 = mkF m 0 #[.val (.ref this), .unset] [] := by first | (simp [entryFrame, mkF, argsToLocals, Value.category]; done) | rfl
theorem wm147 {a0 : Array Value} {Z : State} (hw : ∀ d ∈ tables_1, d.before a0 Z = true) : (Jvm.Cond.fieldLink "java/util/ArrayDeque" (20 : Nat) "java/util/ArrayDeque" "tail" "I").before a0 Z = true := hw _ (List.mem_of_getElem? (i := 147) rfl)
theorem wm149 {a0 : Array Value} {Z : State} (hw : ∀ d ∈ tables_1, d.before a0 Z = true) : (Jvm.Cond.methodLink "java/util/ArrayDeque" (68 : Nat) ({ cls := "java/util/ArrayDeque", name := "dec", desc := "(II)I" } : Jvm.MethodName)).before a0 Z = true := hw _ (List.mem_of_getElem? (i := 149) rfl)
theorem wm151 {a0 : Array Value} {Z : State} (hw : ∀ d ∈ tables_1, d.before a0 Z = true) : (Jvm.Cond.code ({ cls := "java/util/ArrayDeque", name := "dec", desc := "(II)I" } : Jvm.MethodName) jdk_21_method_7_code (2 : Nat) (Option.some Jvm.ClassFile.FieldType.int)).before a0 Z = true := hw _ (List.mem_of_getElem? (i := 151) rfl)
theorem pd_3 : parseMethodDescriptor "(II)I" = some ⟨[.int, .int], some .int⟩ := by decide +kernel
theorem wm150 {a0 : Array Value} {Z : State} (hw : ∀ d ∈ tables_1, d.before a0 Z = true) : (Jvm.Cond.static ({ cls := "java/util/ArrayDeque", name := "dec", desc := "(II)I" } : Jvm.MethodName)).before a0 Z = true := hw _ (List.mem_of_getElem? (i := 150) rfl)
set_option maxRecDepth 65536 in
set_option maxHeartbeats 40000000 in
theorem c_pkl_n (l : Launch) (Z : State) (a0 : Array Value) (hw : ∀ d ∈ tables_1, d.before a0 Z = true) (this : Addr) (h0 : Heap) (n0 : Nat) (Z0 : n0 ≤ h0.size) (ea : Addr) (vs : List Value) (tv : Int32) (dz : Int32) (ii : Nat) (E_this : Exa Z h0 this "java/util/ArrayDeque") (F_this_elements : Fld Z h0 this "java/util/ArrayDeque" "elements" "[Ljava/lang/Object;" (.ref ea)) (F_this_tail : Fld Z h0 this "java/util/ArrayDeque" "tail" "I" (.int tv)) (A_ea : Ars Z h0 ea (.object "java/lang/Object") vs) (hlen : vs.length = 17) (hdz : own_dec tv (17 : Int32) = dz) (hi : dz.toInt = ii) (hv : vs[ii]? = some .null) :
  Ctr l Z (⟨"java/util/ArrayDeque", "peekLast", "()Ljava/lang/Object;"⟩ : MethodName) jdk_21_method_25_code 2 (some (.object "java/lang/Object")) ({ frames := 1, cells := 0, slots := 0, locals := 14 } : Room) #[(.ref this)] h0 (PureR h0 n0 .null) := by
 refine Ctr.of (plainFor_of_name pn_3) (fun m => ef_c_pkl_n m this) ?_
 intro p e s m below meth c T0 hx hby hml hown hnm hret hlk hH e0 X0 hnd
 have hZ := hH.wide
 have N0 := Fr.nil n0
 replace hown : s.vm.findClass "java/util/ArrayDeque" = some m.cls := hown
 replace hml : c.maxLocals = 2 := hml
 refine Run.x_aloadN (q := 1) X0 hx (hb hby d10_0) rfl rfl rfl ?_
 refine Run.z_getF (q := 4) X0 hx hZ e0 hown (wm50 hw) F_this_elements (hb hby d10_1) rfl fun T1 X1 e1 => ?_
 refine Run.x_dup (q := 5) X1 hx (hb hby d10_4) rfl rfl ?_
 refine Run.x_astoreN (q := 6) X1 hx #[.val (.ref this), .val (.ref ea)] (hb hby d10_5) rfl rfl rfl ?_
 refine Run.x_aloadN (q := 7) X1 hx (hb hby d10_6) rfl rfl rfl ?_
 refine Run.z_getF (q := 10) X1 hx hZ e1 hown (wm147 hw) F_this_tail (hb hby d10_7) rfl fun T2 X2 e2 => ?_
 refine Run.x_aloadN (q := 11) X2 hx (hb hby d10_10) rfl rfl rfl ?_
 refine Run.y_alen (q := 12) X2 hx hZ e2 A_ea (z := (17 : Int32)) (own_len17 hlen) (hb hby d10_11) rfl ?_
 refine Run.callSI (q := 15) X2 hx hH e2 (y := (⟨"java/util/ArrayDeque", "dec", "(II)I"⟩ : MethodName)) hown (wm149 hw) (wm150 hw) (wm37 hw) (wm151 hw) (by decide) (argsL := [(.int tv), (.int 17)]) (rest := [(.ref ea)]) (c_dec l Z a0 hw tv (17 : Int32) h0 n0 Z0 dz hdz) pd_3 rfl (by rw [hml]; rfl) (W := 1) rfl (by decide) (by decide) (by decide) (by decide) (hb hby d10_12) rfl rfl fun T3 L3 X3 M3 e3 => ?_
 have N3 := Fr.app N0 M3
 refine Run.callS X3 hx hH e3 (y := (⟨"java/util/ArrayDeque", "elementAt", "([Ljava/lang/Object;I)Ljava/lang/Object;"⟩ : MethodName)) hown (wm152 hw) (wm153 hw) (wm37 hw) (wm154 hw) (by decide) (argsL := [(.ref ea), (.int dz)]) (rest := []) (c_ela_n l Z a0 hw ea dz h0 n0 Z0 vs ii A_ea hi hv) pd_2 rfl (by rw [hml]; rfl) (W := 0) rfl (by decide) (by decide) (by decide) (by decide) (hb hby d10_15) rfl ?_
 intro T4 v4 L4 X4 q4
 obtain ⟨rfl, M4, e4⟩ := q4
 have N4 := Fr.app N3 M4
 show Run p e below s _ _ _ (T4.setTop (mkF m 18 #[.val (.ref this), .val (.ref ea)] [.null]))
 refine Run.retA X4 hx hlk e4 (t := (.object "java/lang/Object")) hret rfl rfl rfl (hb hby d10_18) (by decide) (by decide) ?_
 exact ⟨rfl, N4, rfl⟩
theorem ef_c_pkf_r (m : MethodId) (this : Addr) : entryFrame m #[(.ref this)] 1 = mkF m 0 #[.val (.ref this)] [] := by first | (simp [entryFrame, mkF, argsToLocals, Value.category]; done) | rfl
set_option maxRecDepth 65536 in
set_option maxHeartbeats 40000000 in
theorem c_pkf_r (l : Launch) (Z : State) (a0 : Array Value) (hw : ∀ d ∈ tables_1, d.before a0 Z = true) (this : Addr) (h0 : Heap) (n0 : Nat) (Z0 : n0 ≤ h0.size) (ea : Addr) (vs : List Value) (hv_ : Int32) (ii : Nat) (x : Addr) (E_this : Exa Z h0 this "java/util/ArrayDeque") (F_this_elements : Fld Z h0 this "java/util/ArrayDeque" "elements" "[Ljava/lang/Object;" (.ref ea)) (F_this_head : Fld Z h0 this "java/util/ArrayDeque" "head" "I" (.int hv_)) (A_ea : Ars Z h0 ea (.object "java/lang/Object") vs) (hi : hv_.toInt = ii) (hv : vs[ii]? = some (.ref x)) :
  Ctr l Z (⟨"java/util/ArrayDeque", "peekFirst", "()Ljava/lang/Object;"⟩ : MethodName) jdk_21_method_24_code 1 (some (.object "java/lang/Object")) ({ frames := 1, cells := 0, slots := 0, locals := 13 } : Room) #[(.ref this)] h0 (PureR h0 n0 (.ref x)) := by
 refine Ctr.of (plainFor_of_name pn_3) (fun m => ef_c_pkf_r m this) ?_
 intro p e s m below meth c T0 hx hby hml hown hnm hret hlk hH e0 X0 hnd
 have hZ := hH.wide
 have N0 := Fr.nil n0
 replace hown : s.vm.findClass "java/util/ArrayDeque" = some m.cls := hown
 replace hml : c.maxLocals = 1 := hml
 refine Run.x_aloadN (q := 1) X0 hx (hb hby d9_0) rfl rfl rfl ?_
 refine Run.z_getF (q := 4) X0 hx hZ e0 hown (wm50 hw) F_this_elements (hb hby d9_1) rfl fun T1 X1 e1 => ?_
 refine Run.x_aloadN (q := 5) X1 hx (hb hby d9_4) rfl rfl rfl ?_
 refine Run.z_getF (q := 8) X1 hx hZ e1 hown (wm161 hw) F_this_head (hb hby d9_5) rfl fun T2 X2 e2 => ?_
 refine Run.callS X2 hx hH e2 (y := (⟨"java/util/ArrayDeque", "elementAt", "([Ljava/lang/Object;I)Ljava/lang/Object;"⟩ : MethodName)) hown (wm152 hw) (wm153 hw) (wm37 hw) (wm154 hw) (by decide) (argsL := [(.ref ea), (.int hv_)]) (rest := []) (c_ela_r l Z a0 hw ea hv_ h0 n0 Z0 vs ii x A_ea hi hv) pd_2 rfl (by rw [hml]; rfl) (W := 0) rfl (by decide) (by decide) (by decide) (by decide) (hb hby d9_8) rfl ?_
 intro T3 v3 L3 X3 q3
 obtain ⟨rfl, M3, e3⟩ := q3
 have N3 := Fr.app N0 M3
 show Run p e below s _ _ _ (T3.setTop (mkF m 11 #[.val (.ref this)] [(.ref x)]))
 refine Run.retA X3 hx hlk e3 (t := (.object "java/lang/Object")) hret rfl rfl rfl (hb hby d9_11) (by decide) (by decide) ?_
 exact ⟨rfl, N3, rfl⟩
theorem ef_c_pkl_r (m : MethodId) (this : Addr) : entryFrame m #[(.ref this)] 2 = mkF m 0 #[.val (.ref this), .unset] [] := by first | (simp [entryFrame, mkF, argsToLocals, Value.category]; done) | rfl
set_option maxRecDepth 65536 in
set_option maxHeartbeats 40000000 in
theorem c_pkl_r (l : Launch) (Z : State) (a0 : Array Value) (hw : ∀ d ∈ tables_1, d.before a0 Z = true) (this : Addr) (h0 : Heap) (n0 : Nat) (Z0 : n0 ≤ h0.size) (ea : Addr) (vs : List Value) (tv : Int32) (dz : Int32) (ii : Nat) (x : Addr) (E_this : Exa Z h0 this "java/util/ArrayDeque") (F_this_elements : Fld Z h0 this "java/util/ArrayDeque" "elements" "[Ljava/lang/Object;" (.ref ea)) (F_this_tail : Fld Z h0 this "java/util/ArrayDeque" "tail" "I" (.int tv)) (A_ea : Ars Z h0 ea (.object "java/lang/Object") vs) (hlen : vs.length = 17) (hdz : own_dec tv (17 : Int32) = dz) (hi : dz.toInt = ii) (hv : vs[ii]? = some (.ref x)) :
  Ctr l Z (⟨"java/util/ArrayDeque", "peekLast", "()Ljava/lang/Object;"⟩ : MethodName) jdk_21_method_25_code 2 (some (.object "java/lang/Object")) ({ frames := 1, cells := 0, slots := 0, locals := 14 } : Room) #[(.ref this)] h0 (PureR h0 n0 (.ref x)) := by
 refine Ctr.of (plainFor_of_name pn_3) (fun m => ef_c_pkl_r m this) ?_
 intro p e s m below meth c T0 hx hby hml hown hnm hret hlk hH e0 X0 hnd
 have hZ := hH.wide
 have N0 := Fr.nil n0
 replace hown : s.vm.findClass "java/util/ArrayDeque" = some m.cls := hown
 replace hml : c.maxLocals = 2 := hml
 refine Run.x_aloadN (q := 1) X0 hx (hb hby d10_0) rfl rfl rfl ?_
 refine Run.z_getF (q := 4) X0 hx hZ e0 hown (wm50 hw) F_this_elements (hb hby d10_1) rfl fun T1 X1 e1 => ?_
 refine Run.x_dup (q := 5) X1 hx (hb hby d10_4) rfl rfl ?_
 refine Run.x_astoreN (q := 6) X1 hx #[.val (.ref this), .val (.ref ea)] (hb hby d10_5) rfl rfl rfl ?_
 refine Run.x_aloadN (q := 7) X1 hx (hb hby d10_6) rfl rfl rfl ?_
 refine Run.z_getF (q := 10) X1 hx hZ e1 hown (wm147 hw) F_this_tail (hb hby d10_7) rfl fun T2 X2 e2 => ?_
 refine Run.x_aloadN (q := 11) X2 hx (hb hby d10_10) rfl rfl rfl ?_
 refine Run.y_alen (q := 12) X2 hx hZ e2 A_ea (z := (17 : Int32)) (own_len17 hlen) (hb hby d10_11) rfl ?_
 refine Run.callSI (q := 15) X2 hx hH e2 (y := (⟨"java/util/ArrayDeque", "dec", "(II)I"⟩ : MethodName)) hown (wm149 hw) (wm150 hw) (wm37 hw) (wm151 hw) (by decide) (argsL := [(.int tv), (.int 17)]) (rest := [(.ref ea)]) (c_dec l Z a0 hw tv (17 : Int32) h0 n0 Z0 dz hdz) pd_3 rfl (by rw [hml]; rfl) (W := 1) rfl (by decide) (by decide) (by decide) (by decide) (hb hby d10_12) rfl rfl fun T3 L3 X3 M3 e3 => ?_
 have N3 := Fr.app N0 M3
 refine Run.callS X3 hx hH e3 (y := (⟨"java/util/ArrayDeque", "elementAt", "([Ljava/lang/Object;I)Ljava/lang/Object;"⟩ : MethodName)) hown (wm152 hw) (wm153 hw) (wm37 hw) (wm154 hw) (by decide) (argsL := [(.ref ea), (.int dz)]) (rest := []) (c_ela_r l Z a0 hw ea dz h0 n0 Z0 vs ii x A_ea hi hv) pd_2 rfl (by rw [hml]; rfl) (W := 0) rfl (by decide) (by decide) (by decide) (by decide) (hb hby d10_15) rfl ?_
 intro T4 v4 L4 X4 q4
 obtain ⟨rfl, M4, e4⟩ := q4
 have N4 := Fr.app N3 M4
 show Run p e below s _ _ _ (T4.setTop (mkF m 18 #[.val (.ref this), .val (.ref ea)] [(.ref x)]))
 refine Run.retA X4 hx hlk e4 (t := (.object "java/lang/Object")) hret rfl rfl rfl (hb hby d10_18) (by decide) (by decide) ?_
 exact ⟨rfl, N4, rfl⟩
theorem d11_0 : decode jdk_21_method_13_code 0 = .ok (.aload_n 1, 1) := by decide +kernel
theorem d11_1 : decode jdk_21_method_13_code 1 = .ok (.ifnonnull 11, 3) := by decide +kernel
theorem d11_4 : decode jdk_21_method_13_code 4 = .ok (.new 65, 3) := by decide +kernel
theorem d11_7 : decode jdk_21_method_13_code 7 = .ok (.dup, 1) := by decide +kernel
theorem d11_8 : decode jdk_21_method_13_code 8 = .ok (.invokespecial 67, 3) := by decide +kernel
theorem d11_11 : decode jdk_21_method_13_code 11 = .ok (.athrow, 1) := by decide +kernel
theorem d11_12 : decode jdk_21_method_13_code 12 = .ok (.aload_n 0, 1) := by decide +kernel
theorem d11_13 : decode jdk_21_method_13_code 13 = .ok (.getfield 3, 3) := by decide +kernel
theorem d11_16 : decode jdk_21_method_13_code 16 = .ok (.astore_n 2, 1) := by decide +kernel
theorem d11_17 : decode jdk_21_method_13_code 17 = .ok (.aload_n 2, 1) := by decide +kernel
theorem d11_18 : decode jdk_21_method_13_code 18 = .ok (.aload_n 0, 1) := by decide +kernel
theorem d11_19 : decode jdk_21_method_13_code 19 = .ok (.getfield 20, 3) := by decide +kernel
theorem d11_22 : decode jdk_21_method_13_code 22 = .ok (.aload_n 1, 1) := by decide +kernel
theorem d11_23 : decode jdk_21_method_13_code 23 = .ok (.aastore, 1) := by decide +kernel
theorem d11_24 : decode jdk_21_method_13_code 24 = .ok (.aload_n 0, 1) := by decide +kernel
theorem d11_25 : decode jdk_21_method_13_code 25 = .ok (.getfield 24, 3) := by decide +kernel
theorem d11_28 : decode jdk_21_method_13_code 28 = .ok (.aload_n 0, 1) := by decide +kernel
theorem d11_29 : decode jdk_21_method_13_code 29 = .ok (.aload_n 0, 1) := by decide +kernel
theorem d11_30 : decode jdk_21_method_13_code 30 = .ok (.getfield 20, 3) := by decide +kernel
theorem d11_33 : decode jdk_21_method_13_code 33 = .ok (.aload_n 2, 1) := by decide +kernel
theorem d11_34 : decode jdk_21_method_13_code 34 = .ok (.arraylength, 1) := by decide +kernel
theorem d11_35 : decode jdk_21_method_13_code 35 = .ok (.invokestatic 74, 3) := by decide +kernel
theorem d11_38 : decode jdk_21_method_13_code 38 = .ok (.dup_x1, 1) := by decide +kernel
theorem d11_39 : decode jdk_21_method_13_code 39 = .ok (.putfield 20, 3) := by decide +kernel
theorem d11_42 : decode jdk_21_method_13_code 42 = .ok (.if_icmp .ne 8, 3) := by decide +kernel
theorem d11_45 : decode jdk_21_method_13_code 45 = .ok (.aload_n 0, 1) := by decide +kernel
theorem d11_46 : decode jdk_21_method_13_code 46 = .ok (.iconst 1, 1) := by decide +kernel
theorem d11_47 : decode jdk_21_method_13_code 47 = .ok (.invokevirtual 71, 3) := by decide +kernel
theorem d11_50 : decode jdk_21_method_13_code 50 = .ok (.return_, 1) := by decide +kernel
theorem ef_c_addl (m : MethodId) (this : Addr) (x : Addr) : entryFrame m #[(.ref this), (.ref x)] 3 = mkF m 0 #[.val (.ref this), .val (.ref x), .unset] [] := by first | (simp [entryFrame, mkF, argsToLocals, Value.category]; done) | rfl
theorem wm160 {a0 : Array Value} {Z : State} (hw : ∀ d ∈ tables_1, d.before a0 Z = true) : (Jvm.Cond.castable "com/example/framewheel/framewheel/core/PhaseQueue$Delayed" "java/lang/Object").before a0 Z = true := hw _ (List.mem_of_getElem? (i := 160) rfl)
theorem wm163 {a0 : Array Value} {Z : State} (hw : ∀ d ∈ tables_1, d.before a0 Z = true) : (Jvm.Cond.methodLink "java/util/ArrayDeque" (74 : Nat) ({ cls := "java/util/ArrayDeque", name := "inc", desc := "(II)I" } : Jvm.MethodName)).before a0 Z = true := hw _ (List.mem_of_getElem? (i := 163) rfl)
theorem wm165 {a0 : Array Value} {Z : State} (hw : ∀ d ∈ tables_1, d.before a0 Z = true) : (Jvm.Cond.code ({ cls := "java/util/ArrayDeque", name := "inc", desc := "(II)I" } : Jvm.MethodName) jdk_21_method_6_code (2 : Nat) (Option.some Jvm.ClassFile.FieldType.int)).before a0 Z = true := hw _ (List.mem_of_getElem? (i := 165) rfl)
theorem wm164 {a0 : Array Value} {Z : State} (hw : ∀ d ∈ tables_1, d.before a0 Z = true) : (Jvm.Cond.static ({ cls := "java/util/ArrayDeque", name := "inc", desc := "(II)I" } : Jvm.MethodName)).before a0 Z = true := hw _ (List.mem_of_getElem? (i := 164) rfl)
theorem wm148 {a0 : Array Value} {Z : State} (hw : ∀ d ∈ tables_1, d.before a0 Z = true) : (Jvm.Cond.lays "java/util/ArrayDeque" "java/util/ArrayDeque" "tail" "I").before a0 Z = true := hw _ (List.mem_of_getElem? (i := 148) rfl)
theorem wm36 {a0 : Array Value} {Z : State} (hw : ∀ d ∈ tables_1, d.before a0 Z = true) : (Jvm.Cond.instantiable "java/util/ArrayDeque" (3 : Nat)).before a0 Z = true := hw _ (List.mem_of_getElem? (i := 36) rfl)
theorem wm51 {a0 : Array Value} {Z : State} (hw : ∀ d ∈ tables_1, d.before a0 Z = true) : (Jvm.Cond.lays "java/util/ArrayDeque" "java/util/ArrayDeque" "elements" "[Ljava/lang/Object;").before a0 Z = true := hw _ (List.mem_of_getElem? (i := 51) rfl)
theorem wm162 {a0 : Array Value} {Z : State} (hw : ∀ d ∈ tables_1, d.before a0 Z = true) : (Jvm.Cond.lays "java/util/ArrayDeque" "java/util/ArrayDeque" "head" "I").before a0 Z = true := hw _ (List.mem_of_getElem? (i := 162) rfl)
set_option maxRecDepth 65536 in
set_option maxHeartbeats 40000000 in
theorem c_addl (l : Launch) (Z : State) (a0 : Array Value) (hw : ∀ d ∈ tables_1, d.before a0 Z = true) (this : Addr) (x : Addr) (h0 : Heap) (n0 : Nat) (Z0 : n0 ≤ h0.size) (ea : Addr) (vs : List Value) (hv_ : Int32) (tv : Int32) (tn : Nat) (E_this : Exa Z h0 this "java/util/ArrayDeque") (F_this_elements : Fld Z h0 this "java/util/ArrayDeque" "elements" "[Ljava/lang/Object;" (.ref ea)) (F_this_head : Fld Z h0 this "java/util/ArrayDeque" "head" "I" (.int hv_)) (F_this_tail : Fld Z h0 this "java/util/ArrayDeque" "tail" "I" (.int tv)) (A_ea : Ars Z h0 ea (.object "java/lang/Object") vs) (O_ea : own_Ob Z h0 ea "java/lang/Object") (E_x : Exa Z h0 x "com/example/framewheel/framewheel/core/PhaseQueue$Delayed") (g_this : n0 ≤ this) (g_ea : n0 ≤ ea) (ne_this_ea : this ≠ ea) (hlen : vs.length = 17) (ht : tv.toInt = tn) (htn : tn < 17) (hlt : (tv + (1 : Int32)) < (17 : Int32)) (hne : ¬ hv_ = (tv + (1 : Int32))) :
  Ctr l Z (⟨"java/util/ArrayDeque", "addLast", "(Ljava/lang/Object;)V"⟩ : MethodName) jdk_21_method_13_code 3 none ({ frames := 1, cells := 0, slots := 0, locals := 15 } : Room) #[(.ref this), (.ref x)] h0 (fun v h L => v = none ∧ Fr n0 L ∧ Keep h0 h [this, ea] ∧ Exa Z h this "java/util/ArrayDeque" ∧ Fld Z h this "java/util/ArrayDeque" "elements" "[Ljava/lang/Object;" (.ref ea) ∧ Fld Z h this "java/util/ArrayDeque" "head" "I" (.int hv_) ∧ Fld Z h this "java/util/ArrayDeque" "tail" "I" (.int (tv + (1 : Int32))) ∧ Ars Z h ea (.object "java/lang/Object") (vs.set tn (.ref x))) := by
 refine Ctr.of (plainFor_of_name pn_3) (fun m => ef_c_addl m this x) ?_
 intro p e s m below meth c T0 hx hby hml hown hnm hret hlk hH e0 X0 hnd
 have hZ := hH.wide
 have N0 := Fr.nil n0
 replace hown : s.vm.findClass "java/util/ArrayDeque" = some m.cls := hown
 replace hml : c.maxLocals = 3 := hml
 have KP := Keep.refl h0 [this, ea]
 refine Run.x_aloadN (q := 1) X0 hx (hb hby d11_0) rfl rfl rfl ?_
 refine Run.st (B := T0.setTop (mkF m 12 #[.val (.ref this), .val (.ref x), .unset] [])) (fun t kt => XS.ifnonnullYes X0.here hx rfl (pc0 := 1) (pc' := 12) rfl (hb hby d11_1) rfl (by decide) (by decide) kt) ?_
 refine Run.x_aloadN (q := 13) X0 hx (hb hby d11_12) rfl rfl rfl ?_
 refine Run.z_getF (q := 16) X0 hx hZ e0 hown (wm50 hw) F_this_elements (hb hby d11_13) rfl fun T1 X1 e1 => ?_
 refine Run.x_astoreN (q := 17) X1 hx #[.val (.ref this), .val (.ref x), .val (.ref ea)] (hb hby d11_16) rfl rfl rfl ?_
 refine Run.x_aloadN (q := 18) X1 hx (hb hby d11_17) rfl rfl rfl ?_
 refine Run.x_aloadN (q := 19) X1 hx (hb hby d11_18) rfl rfl rfl ?_
 refine Run.z_getF (q := 22) X1 hx hZ e1 hown (wm147 hw) F_this_tail (hb hby d11_19) rfl fun T2 X2 e2 => ?_
 refine Run.x_aloadN (q := 23) X2 hx (hb hby d11_22) rfl rfl rfl ?_
 refine Run.y_stR (q := 24) X2 hx hZ e2 A_ea (i := tn) ht (by omega) rfl (own_stoO A_ea O_ea (Ins.of_exa E_x (wm160 hw))) (hb hby d11_23) rfl fun T3 h3 X3 e3 W3 A3 => ?_
 replace A_ea : Ars Z h3 ea (.object "java/lang/Object") (vs.set tn (.ref x)) := A3
 replace KP := KP.wr W3 (Or.inl (by simp))
 have N3 := Fr.snoc X3 N0 g_ea
 have Z3 : n0 ≤ h3.size := Nat.le_trans Z0 (Nat.le_of_eq W3.size.symm)
 refine Run.x_aloadN (q := 25) X3 hx (hb hby d11_24) rfl rfl rfl ?_
 replace F_this_head := F_this_head.other W3 (Or.inl ne_this_ea)
 refine Run.z_getF (q := 28) X3 hx hZ e3 hown (wm161 hw) F_this_head (hb hby d11_25) rfl fun T4 X4 e4 => ?_
 refine Run.x_aloadN (q := 29) X4 hx (hb hby d11_28) rfl rfl rfl ?_
 refine Run.x_aloadN (q := 30) X4 hx (hb hby d11_29) rfl rfl rfl ?_
 replace F_this_tail := F_this_tail.other W3 (Or.inl ne_this_ea)
 refine Run.z_getF (q := 33) X4 hx hZ e4 hown (wm147 hw) F_this_tail (hb hby d11_30) rfl fun T5 X5 e5 => ?_
 refine Run.x_aloadN (q := 34) X5 hx (hb hby d11_33) rfl rfl rfl ?_
 refine Run.y_alen (q := 35) X5 hx hZ e5 A_ea (z := (17 : Int32)) (own_len17 (by rw [List.length_set]; exact hlen)) (hb hby d11_34) rfl ?_
 refine Run.callSI (q := 38) X5 hx hH e5 (y := (⟨"java/util/ArrayDeque", "inc", "(II)I"⟩ : MethodName)) hown (wm163 hw) (wm164 hw) (wm37 hw) (wm165 hw) (by decide) (argsL := [(.int tv), (.int 17)]) (rest := [(.ref this), (.int hv_)]) (c_inc l Z a0 hw tv (17 : Int32) h3 n0 Z3 hlt) pd_3 rfl (by rw [hml]; rfl) (W := 2) rfl (by decide) (by decide) (by decide) (by decide) (hb hby d11_35) rfl rfl fun T6 L6 X6 M6 e6 => ?_
 have N6 := Fr.app N3 M6
 refine Run.x_dup_x1 (q := 39) X6 hx (hb hby d11_38) rfl rfl rfl ?_
 replace E_this := E_this.wr W3
 obtain ⟨T7, h7, X7, e7, W7, st7⟩ := putF X6 hx hZ hown (host := "") (Or.inl (wm147 hw)) Via.refl e6 F_this_tail E_this (Or.inl (wm148 hw)) (wm36 hw) (ty := .int) (by decide) rfl rfl (g := (mkF m 39 #[.val (.ref this), .val (.ref x), .val (.ref ea)] [(.int (tv + (1 : Int32))), (.ref this), (.int (tv + (1 : Int32))), (.int hv_)])) rfl rfl (hb hby d11_39)
 replace F_this_tail := F_this_tail.same W7
 have Z7 : n0 ≤ h7.size := Nat.le_trans Z3 (Nat.le_of_eq W7.size.symm)
 replace KP := KP.wr W7 (Or.inl (by simp))
 have N7 := Fr.snoc X7 N6 g_this
 refine Run.st st7 ?_
 show Run p e below s _ _ _ (T7.setTop (mkF m 42 #[.val (.ref this), .val (.ref x), .val (.ref ea)] [(.int (tv + (1 : Int32))), (.int hv_)]))
 refine Run.x_icmpYes (q := 50) X7 hx (hb hby d11_42) (feq hne).2 (by decide) (by decide) ?_
 replace E_this := E_this.wr W7
 replace F_this_elements := (F_this_elements.other W3 (Or.inl ne_this_ea)).other W7 (Or.inr (slot_ne (Or.inl (wm51 hw)) (Or.inl (wm148 hw)) (by decide) (t := (.array (.object "java/lang/Object"))) (t' := .int) (by decide) (by decide)))
 replace F_this_head := F_this_head.other W7 (Or.inr (slot_ne (Or.inl (wm162 hw)) (Or.inl (wm148 hw)) (by decide) (t := .int) (t' := .int) (by decide) (by decide)))
 replace A_ea := A_ea.other W7 (Ne.symm ne_this_ea)
 replace O_ea := (O_ea.wr W3).wr W7
 replace E_x := (E_x.wr W3).wr W7
 refine Run.retV X7 hx hlk e7 hret (hb hby d11_50) (by decide) (by decide) ?_
 exact ⟨rfl, N7, KP, E_this, F_this_elements, F_this_head, F_this_tail, A_ea⟩
theorem d12_0 : decode jdk_21_method_20_code 0 = .ok (.aload_n 0, 1) := by decide +kernel
theorem d12_1 : decode jdk_21_method_20_code 1 = .ok (.getfield 3, 3) := by decide +kernel
theorem d12_4 : decode jdk_21_method_20_code 4 = .ok (.dup, 1) := by decide +kernel
theorem d12_5 : decode jdk_21_method_20_code 5 = .ok (.astore_n 1, 1) := by decide +kernel
theorem d12_6 : decode jdk_21_method_20_code 6 = .ok (.aload_n 0, 1) := by decide +kernel
theorem d12_7 : decode jdk_21_method_20_code 7 = .ok (.getfield 24, 3) := by decide +kernel
theorem d12_10 : decode jdk_21_method_20_code 10 = .ok (.dup, 1) := by decide +kernel
theorem d12_11 : decode jdk_21_method_20_code 11 = .ok (.istore_n 2, 1) := by decide +kernel
theorem d12_12 : decode jdk_21_method_20_code 12 = .ok (.invokestatic 103, 3) := by decide +kernel
theorem d12_15 : decode jdk_21_method_20_code 15 = .ok (.astore_n 3, 1) := by decide +kernel
theorem d12_16 : decode jdk_21_method_20_code 16 = .ok (.aload_n 3, 1) := by decide +kernel
theorem d12_17 : decode jdk_21_method_20_code 17 = .ok (.ifnull 17, 3) := by decide +kernel
theorem d12_20 : decode jdk_21_method_20_code 20 = .ok (.aload_n 1, 1) := by decide +kernel
theorem d12_21 : decode jdk_21_method_20_code 21 = .ok (.iload_n 2, 1) := by decide +kernel
theorem d12_22 : decode jdk_21_method_20_code 22 = .ok (.aconst_null, 1) := by decide +kernel
theorem d12_23 : decode jdk_21_method_20_code 23 = .ok (.aastore, 1) := by decide +kernel
theorem d12_24 : decode jdk_21_method_20_code 24 = .ok (.aload_n 0, 1) := by decide +kernel
theorem d12_25 : decode jdk_21_method_20_code 25 = .ok (.iload_n 2, 1) := by decide +kernel
theorem d12_26 : decode jdk_21_method_20_code 26 = .ok (.aload_n 1, 1) := by decide +kernel
theorem d12_27 : decode jdk_21_method_20_code 27 = .ok (.arraylength, 1) := by decide +kernel
theorem d12_28 : decode jdk_21_method_20_code 28 = .ok (.invokestatic 74, 3) := by decide +kernel
theorem d12_31 : decode jdk_21_method_20_code 31 = .ok (.putfield 24, 3) := by decide +kernel
theorem d12_34 : decode jdk_21_method_20_code 34 = .ok (.aload_n 3, 1) := by decide +kernel
theorem d12_35 : decode jdk_21_method_20_code 35 = .ok (.areturn, 1) := by decide +kernel
theorem ef_c_plf (m : MethodId) (this : Addr) : entryFrame m #[(.ref this)] 4 = mkF m 0 #[.val (.ref this), .unset, .unset, .unset] [] := by first | (simp [entryFrame, mkF, argsToLocals, Value.category]; done) | rfl
set_option maxRecDepth 65536 in
set_option maxHeartbeats 40000000 in
theorem c_plf (l : Launch) (Z : State) (a0 : Array Value) (hw : ∀ d ∈ tables_1, d.before a0 Z = true) (this : Addr) (h0 : Heap) (n0 : Nat) (Z0 : n0 ≤ h0.size) (ea : Addr) (vs : List Value) (hv_ : Int32) (tv : Int32) (ii : Nat) (x : Addr) (E_this : Exa Z h0 this "java/util/ArrayDeque") (F_this_elements : Fld Z h0 this "java/util/ArrayDeque" "elements" "[Ljava/lang/Object;" (.ref ea)) (F_this_head : Fld Z h0 this "java/util/ArrayDeque" "head" "I" (.int hv_)) (F_this_tail : Fld Z h0 this "java/util/ArrayDeque" "tail" "I" (.int tv)) (A_ea : Ars Z h0 ea (.object "java/lang/Object") vs) (O_ea : own_Ob Z h0 ea "java/lang/Object") (g_this : n0 ≤ this) (g_ea : n0 ≤ ea) (ne_this_ea : this ≠ ea) (hlen : vs.length = 17) (hi : hv_.toInt = ii) (hil : ii < 17) (hv : vs[ii]? = some (.ref x)) (hlt : (hv_ + (1 : Int32)) < (17 : Int32)) :
  Ctr l Z (⟨"java/util/ArrayDeque", "pollFirst", "()Ljava/lang/Object;"⟩ : MethodName) jdk_21_method_20_code 4 (some (.object "java/lang/Object")) ({ frames := 1, cells := 0, slots := 0, locals := 14 } : Room) #[(.ref this)] h0 (fun v h L => v = some (.ref x) ∧ Fr n0 L ∧ Keep h0 h [this, ea] ∧ Exa Z h this "java/util/ArrayDeque" ∧ Fld Z h this "java/util/ArrayDeque" "elements" "[Ljava/lang/Object;" (.ref ea) ∧ Fld Z h this "java/util/ArrayDeque" "head" "I" (.int (hv_ + (1 : Int32))) ∧ Fld Z h this "java/util/ArrayDeque" "tail" "I" (.int tv) ∧ Ars Z h ea (.object "java/lang/Object") (vs.set ii .null)) := by
 refine Ctr.of (plainFor_of_name pn_3) (fun m => ef_c_plf m this) ?_
 intro p e s m below meth c T0 hx hby hml hown hnm hret hlk hH e0 X0 hnd
 have hZ := hH.wide
 have N0 := Fr.nil n0
 replace hown : s.vm.findClass "java/util/ArrayDeque" = some m.cls := hown
 replace hml : c.maxLocals = 4 := hml
 have KP := Keep.refl h0 [this, ea]
 refine Run.x_aloadN (q := 1) X0 hx (hb hby d12_0) rfl rfl rfl ?_
 refine Run.z_getF (q := 4) X0 hx hZ e0 hown (wm50 hw) F_this_elements (hb hby d12_1) rfl fun T1 X1 e1 => ?_
 refine Run.x_dup (q := 5) X1 hx (hb hby d12_4) rfl rfl ?_
 refine Run.x_astoreN (q := 6) X1 hx #[.val (.ref this), .val (.ref ea), .unset, .unset] (hb hby d12_5) rfl rfl rfl ?_
 refine Run.x_aloadN (q := 7) X1 hx (hb hby d12_6) rfl rfl rfl ?_
 refine Run.z_getF (q := 10) X1 hx hZ e1 hown (wm161 hw) F_this_head (hb hby d12_7) rfl fun T2 X2 e2 => ?_
 refine Run.x_dup (q := 11) X2 hx (hb hby d12_10) rfl rfl ?_
 refine Run.x_istoreN (q := 12) X2 hx #[.val (.ref this), .val (.ref ea), .val (.int hv_), .unset] (hb hby d12_11) rfl rfl ?_
 refine Run.callS X2 hx hH e2 (y := (⟨"java/util/ArrayDeque", "elementAt", "([Ljava/lang/Object;I)Ljava/lang/Object;"⟩ : MethodName)) hown (wm152 hw) (wm153 hw) (wm37 hw) (wm154 hw) (by decide) (argsL := [(.ref ea), (.int hv_)]) (rest := []) (c_ela_r l Z a0 hw ea hv_ h0 n0 Z0 vs ii x A_ea hi hv) pd_2 rfl (by rw [hml]; rfl) (W := 0) rfl (by decide) (by decide) (by decide) (by decide) (hb hby d12_12) rfl ?_
 intro T3 v3 L3 X3 q3
 obtain ⟨rfl, M3, e3⟩ := q3
 have N3 := Fr.app N0 M3
 show Run p e below s _ _ _ (T3.setTop (mkF m 15 #[.val (.ref this), .val (.ref ea), .val (.int hv_), .unset] [(.ref x)]))
 refine Run.x_astoreN (q := 16) X3 hx #[.val (.ref this), .val (.ref ea), .val (.int hv_), .val (.ref x)] (hb hby d12_15) rfl rfl rfl ?_
 refine Run.x_aloadN (q := 17) X3 hx (hb hby d12_16) rfl rfl rfl ?_
 refine Run.st (B := T3.setTop (mkF m 20 #[.val (.ref this), .val (.ref ea), .val (.int hv_), .val (.ref x)] [])) (fun t kt => XS.ifnullNo X3.here hx rfl (hb hby d12_17) rfl kt) ?_
 refine Run.x_aloadN (q := 21) X3 hx (hb hby d12_20) rfl rfl rfl ?_
 refine Run.x_iloadN (q := 22) X3 hx (hb hby d12_21) rfl rfl ?_
 refine Run.x_null (q := 23) X3 hx (hb hby d12_22)  rfl ?_
 refine Run.y_stR (q := 24) X3 hx hZ e3 A_ea (i := ii) hi (by omega) rfl (Or.inl rfl) (hb hby d12_23) rfl fun T4 h4 X4 e4 W4 A4 => ?_
 replace A_ea : Ars Z h4 ea (.object "java/lang/Object") (vs.set ii .null) := A4
 replace KP := KP.wr W4 (Or.inl (by simp))
 have N4 := Fr.snoc X4 N3 g_ea
 have Z4 : n0 ≤ h4.size := Nat.le_trans Z0 (Nat.le_of_eq W4.size.symm)
 refine Run.x_aloadN (q := 25) X4 hx (hb hby d12_24) rfl rfl rfl ?_
 refine Run.x_iloadN (q := 26) X4 hx (hb hby d12_25) rfl rfl ?_
 refine Run.x_aloadN (q := 27) X4 hx (hb hby d12_26) rfl rfl rfl ?_
 refine Run.y_alen (q := 28) X4 hx hZ e4 A_ea (z := (17 : Int32)) (own_len17 (by rw [List.length_set]; exact hlen)) (hb hby d12_27) rfl ?_
 refine Run.callSI (q := 31) X4 hx hH e4 (y := (⟨"java/util/ArrayDeque", "inc", "(II)I"⟩ : MethodName)) hown (wm163 hw) (wm164 hw) (wm37 hw) (wm165 hw) (by decide) (argsL := [(.int hv_), (.int 17)]) (rest := [(.ref this)]) (c_inc l Z a0 hw hv_ (17 : Int32) h4 n0 Z4 hlt) pd_3 rfl (by rw [hml]; rfl) (W := 1) rfl (by decide) (by decide) (by decide) (by decide) (hb hby d12_28) rfl rfl fun T5 L5 X5 M5 e5 => ?_
 have N5 := Fr.app N4 M5
 replace F_this_head := F_this_head.other W4 (Or.inl ne_this_ea)
 replace E_this := E_this.wr W4
 obtain ⟨T6, h6, X6, e6, W6, st6⟩ := putF X5 hx hZ hown (host := "") (Or.inl (wm161 hw)) Via.refl e5 F_this_head E_this (Or.inl (wm162 hw)) (wm36 hw) (ty := .int) (by decide) rfl rfl (g := (mkF m 31 #[.val (.ref this), .val (.ref ea), .val (.int hv_), .val (.ref x)] [(.int (hv_ + (1 : Int32))), (.ref this)])) rfl rfl (hb hby d12_31)
 replace F_this_head := F_this_head.same W6
 have Z6 : n0 ≤ h6.size := Nat.le_trans Z4 (Nat.le_of_eq W6.size.symm)
 replace KP := KP.wr W6 (Or.inl (by simp))
 have N6 := Fr.snoc X6 N5 g_this
 refine Run.st st6 ?_
 show Run p e below s _ _ _ (T6.setTop (mkF m 34 #[.val (.ref this), .val (.ref ea), .val (.int hv_), .val (.ref x)] []))
 refine Run.x_aloadN (q := 35) X6 hx (hb hby d12_34) rfl rfl rfl ?_
 replace E_this := E_this.wr W6
 replace F_this_elements := (F_this_elements.other W4 (Or.inl ne_this_ea)).other W6 (Or.inr (slot_ne (Or.inl (wm51 hw)) (Or.inl (wm162 hw)) (by decide) (t := (.array (.object "java/lang/Object"))) (t' := .int) (by decide) (by decide)))
 replace F_this_tail := (F_this_tail.other W4 (Or.inl ne_this_ea)).other W6 (Or.inr (slot_ne (Or.inl (wm148 hw)) (Or.inl (wm162 hw)) (by decide) (t := .int) (t' := .int) (by decide) (by decide)))
 replace A_ea := A_ea.other W6 (Ne.symm ne_this_ea)
 replace O_ea := (O_ea.wr W4).wr W6
 refine Run.retA X6 hx hlk e6 (t := (.object "java/lang/Object")) hret rfl rfl rfl (hb hby d12_35) (by decide) (by decide) ?_
 exact ⟨rfl, N6, KP, E_this, F_this_elements, F_this_head, F_this_tail, A_ea⟩
theorem d13_0 : decode jdk_21_method_21_code 0 = .ok (.aload_n 0, 1) := by decide +kernel
theorem d13_1 : decode jdk_21_method_21_code 1 = .ok (.getfield 3, 3) := by decide +kernel
theorem d13_4 : decode jdk_21_method_21_code 4 = .ok (.dup, 1) := by decide +kernel
theorem d13_5 : decode jdk_21_method_21_code 5 = .ok (.astore_n 1, 1) := by decide +kernel
theorem d13_6 : decode jdk_21_method_21_code 6 = .ok (.aload_n 0, 1) := by decide +kernel
theorem d13_7 : decode jdk_21_method_21_code 7 = .ok (.getfield 20, 3) := by decide +kernel
theorem d13_10 : decode jdk_21_method_21_code 10 = .ok (.aload_n 1, 1) := by decide +kernel
theorem d13_11 : decode jdk_21_method_21_code 11 = .ok (.arraylength, 1) := by decide +kernel
theorem d13_12 : decode jdk_21_method_21_code 12 = .ok (.invokestatic 68, 3) := by decide +kernel
theorem d13_15 : decode jdk_21_method_21_code 15 = .ok (.dup, 1) := by decide +kernel
theorem d13_16 : decode jdk_21_method_21_code 16 = .ok (.istore_n 2, 1) := by decide +kernel
theorem d13_17 : decode jdk_21_method_21_code 17 = .ok (.invokestatic 103, 3) := by decide +kernel
theorem d13_20 : decode jdk_21_method_21_code 20 = .ok (.astore_n 3, 1) := by decide +kernel
theorem d13_21 : decode jdk_21_method_21_code 21 = .ok (.aload_n 3, 1) := by decide +kernel
theorem d13_22 : decode jdk_21_method_21_code 22 = .ok (.ifnull 12, 3) := by decide +kernel
theorem d13_25 : decode jdk_21_method_21_code 25 = .ok (.aload_n 1, 1) := by decide +kernel
theorem d13_26 : decode jdk_21_method_21_code 26 = .ok (.aload_n 0, 1) := by decide +kernel
theorem d13_27 : decode jdk_21_method_21_code 27 = .ok (.iload_n 2, 1) := by decide +kernel
theorem d13_28 : decode jdk_21_method_21_code 28 = .ok (.dup_x1, 1) := by decide +kernel
theorem d13_29 : decode jdk_21_method_21_code 29 = .ok (.putfield 20, 3) := by decide +kernel
theorem d13_32 : decode jdk_21_method_21_code 32 = .ok (.aconst_null, 1) := by decide +kernel
theorem d13_33 : decode jdk_21_method_21_code 33 = .ok (.aastore, 1) := by decide +kernel
theorem d13_34 : decode jdk_21_method_21_code 34 = .ok (.aload_n 3, 1) := by decide +kernel
theorem d13_35 : decode jdk_21_method_21_code 35 = .ok (.areturn, 1) := by decide +kernel
theorem ef_c_pll (m : MethodId) (this : Addr) : entryFrame m #[(.ref this)] 4 = mkF m 0 #[.val (.ref this), .unset, .unset, .unset] [] := by first | (simp [entryFrame, mkF, argsToLocals, Value.category]; done) | rfl
set_option maxRecDepth 65536 in
set_option maxHeartbeats 40000000 in
theorem c_pll (l : Launch) (Z : State) (a0 : Array Value) (hw : ∀ d ∈ tables_1, d.before a0 Z = true) (this : Addr) (h0 : Heap) (n0 : Nat) (Z0 : n0 ≤ h0.size) (ea : Addr) (vs : List Value) (hv_ : Int32) (tv : Int32) (dz : Int32) (ii : Nat) (x : Addr) (E_this : Exa Z h0 this "java/util/ArrayDeque") (F_this_elements : Fld Z h0 this "java/util/ArrayDeque" "elements" "[Ljava/lang/Object;" (.ref ea)) (F_this_head : Fld Z h0 this "java/util/ArrayDeque" "head" "I" (.int hv_)) (F_this_tail : Fld Z h0 this "java/util/ArrayDeque" "tail" "I" (.int tv)) (A_ea : Ars Z h0 ea (.object "java/lang/Object") vs) (O_ea : own_Ob Z h0 ea "java/lang/Object") (g_this : n0 ≤ this) (g_ea : n0 ≤ ea) (ne_this_ea : this ≠ ea) (hlen : vs.length = 17) (hdz : own_dec tv (17 : Int32) = dz) (hi : dz.toInt = ii) (hil : ii < 17) (hv : vs[ii]? = some (.ref x)) :
  Ctr l Z (⟨"java/util/ArrayDeque", "pollLast", "()Ljava/lang/Object;"⟩ : MethodName) jdk_21_method_21_code 4 (some (.object "java/lang/Object")) ({ frames := 1, cells := 0, slots := 0, locals := 14 } : Room) #[(.ref this)] h0 (fun v h L => v = some (.ref x) ∧ Fr n0 L ∧ Keep h0 h [this, ea] ∧ Exa Z h this "java/util/ArrayDeque" ∧ Fld Z h this "java/util/ArrayDeque" "elements" "[Ljava/lang/Object;" (.ref ea) ∧ Fld Z h this "java/util/ArrayDeque" "head" "I" (.int hv_) ∧ Fld Z h this "java/util/ArrayDeque" "tail" "I" (.int dz) ∧ Ars Z h ea (.object "java/lang/Object") (vs.set ii .null)) := by
 refine Ctr.of (plainFor_of_name pn_3) (fun m => ef_c_pll m this) ?_
 intro p e s m below meth c T0 hx hby hml hown hnm hret hlk hH e0 X0 hnd
 have hZ := hH.wide
 have N0 := Fr.nil n0
 replace hown : s.vm.findClass "java/util/ArrayDeque" = some m.cls := hown
 replace hml : c.maxLocals = 4 := hml
 have KP := Keep.refl h0 [this, ea]
 refine Run.x_aloadN (q := 1) X0 hx (hb hby d13_0) rfl rfl rfl ?_
 refine Run.z_getF (q := 4) X0 hx hZ e0 hown (wm50 hw) F_this_elements (hb hby d13_1) rfl fun T1 X1 e1 => ?_
 refine Run.x_dup (q := 5) X1 hx (hb hby d13_4) rfl rfl ?_
 refine Run.x_astoreN (q := 6) X1 hx #[.val (.ref this), .val (.ref ea), .unset, .unset] (hb hby d13_5) rfl rfl rfl ?_
 refine Run.x_aloadN (q := 7) X1 hx (hb hby d13_6) rfl rfl rfl ?_
 refine Run.z_getF (q := 10) X1 hx hZ e1 hown (wm147 hw) F_this_tail (hb hby d13_7) rfl fun T2 X2 e2 => ?_
 refine Run.x_aloadN (q := 11) X2 hx (hb hby d13_10) rfl rfl rfl ?_
 refine Run.y_alen (q := 12) X2 hx hZ e2 A_ea (z := (17 : Int32)) (own_len17 hlen) (hb hby d13_11) rfl ?_
 refine Run.callSI (q := 15) X2 hx hH e2 (y := (⟨"java/util/ArrayDeque", "dec", "(II)I"⟩ : MethodName)) hown (wm149 hw) (wm150 hw) (wm37 hw) (wm151 hw) (by decide) (argsL := [(.int tv), (.int 17)]) (rest := [(.ref ea)]) (c_dec l Z a0 hw tv (17 : Int32) h0 n0 Z0 dz hdz) pd_3 rfl (by rw [hml]; rfl) (W := 1) rfl (by decide) (by decide) (by decide) (by decide) (hb hby d13_12) rfl rfl fun T3 L3 X3 M3 e3 => ?_
 have N3 := Fr.app N0 M3
 refine Run.x_dup (q := 16) X3 hx (hb hby d13_15) rfl rfl ?_
 refine Run.x_istoreN (q := 17) X3 hx #[.val (.ref this), .val (.ref ea), .val (.int dz), .unset] (hb hby d13_16) rfl rfl ?_
 refine Run.callS X3 hx hH e3 (y := (⟨"java/util/ArrayDeque", "elementAt", "([Ljava/lang/Object;I)Ljava/lang/Object;"⟩ : MethodName)) hown (wm152 hw) (wm153 hw) (wm37 hw) (wm154 hw) (by decide) (argsL := [(.ref ea), (.int dz)]) (rest := []) (c_ela_r l Z a0 hw ea dz h0 n0 Z0 vs ii x A_ea hi hv) pd_2 rfl (by rw [hml]; rfl) (W := 0) rfl (by decide) (by decide) (by decide) (by decide) (hb hby d13_17) rfl ?_
 intro T4 v4 L4 X4 q4
 obtain ⟨rfl, M4, e4⟩ := q4
 have N4 := Fr.app N3 M4
 show Run p e below s _ _ _ (T4.setTop (mkF m 20 #[.val (.ref this), .val (.ref ea), .val (.int dz), .unset] [(.ref x)]))
 refine Run.x_astoreN (q := 21) X4 hx #[.val (.ref this), .val (.ref ea), .val (.int dz), .val (.ref x)] (hb hby d13_20) rfl rfl rfl ?_
 refine Run.x_aloadN (q := 22) X4 hx (hb hby d13_21) rfl rfl rfl ?_
 refine Run.st (B := T4.setTop (mkF m 25 #[.val (.ref this), .val (.ref ea), .val (.int dz), .val (.ref x)] [])) (fun t kt => XS.ifnullNo X4.here hx rfl (hb hby d13_22) rfl kt) ?_
 refine Run.x_aloadN (q := 26) X4 hx (hb hby d13_25) rfl rfl rfl ?_
 refine Run.x_aloadN (q := 27) X4 hx (hb hby d13_26) rfl rfl rfl ?_
 refine Run.x_iloadN (q := 28) X4 hx (hb hby d13_27) rfl rfl ?_
 refine Run.x_dup_x1 (q := 29) X4 hx (hb hby d13_28) rfl rfl rfl ?_
 obtain ⟨T5, h5, X5, e5, W5, st5⟩ := putF X4 hx hZ hown (host := "") (Or.inl (wm147 hw)) Via.refl e4 F_this_tail E_this (Or.inl (wm148 hw)) (wm36 hw) (ty := .int) (by decide) rfl rfl (g := (mkF m 29 #[.val (.ref this), .val (.ref ea), .val (.int dz), .val (.ref x)] [(.int dz), (.ref this), (.int dz), (.ref ea)])) rfl rfl (hb hby d13_29)
 replace F_this_tail := F_this_tail.same W5
 have Z5 : n0 ≤ h5.size := Nat.le_trans Z0 (Nat.le_of_eq W5.size.symm)
 replace KP := KP.wr W5 (Or.inl (by simp))
 have N5 := Fr.snoc X5 N4 g_this
 refine Run.st st5 ?_
 show Run p e below s _ _ _ (T5.setTop (mkF m 32 #[.val (.ref this), .val (.ref ea), .val (.int dz), .val (.ref x)] [(.int dz), (.ref ea)]))
 refine Run.x_null (q := 33) X5 hx (hb hby d13_32)  rfl ?_
 replace A_ea := A_ea.other W5 (Ne.symm ne_this_ea)
 refine Run.y_stR (q := 34) X5 hx hZ e5 A_ea (i := ii) hi (by omega) rfl (Or.inl rfl) (hb hby d13_33) rfl fun T6 h6 X6 e6 W6 A6 => ?_
 replace A_ea : Ars Z h6 ea (.object "java/lang/Object") (vs.set ii .null) := A6
 replace KP := KP.wr W6 (Or.inl (by simp))
 have N6 := Fr.snoc X6 N5 g_ea
 have Z6 : n0 ≤ h6.size := Nat.le_trans Z5 (Nat.le_of_eq W6.size.symm)
 refine Run.x_aloadN (q := 35) X6 hx (hb hby d13_34) rfl rfl rfl ?_
 replace E_this := (E_this.wr W5).wr W6
 replace F_this_elements := (F_this_elements.other W5 (Or.inr (slot_ne (Or.inl (wm51 hw)) (Or.inl (wm148 hw)) (by decide) (t := (.array (.object "java/lang/Object"))) (t' := .int) (by decide) (by decide)))).other W6 (Or.inl ne_this_ea)
 replace F_this_head := (F_this_head.other W5 (Or.inr (slot_ne (Or.inl (wm162 hw)) (Or.inl (wm148 hw)) (by decide) (t := .int) (t' := .int) (by decide) (by decide)))).other W6 (Or.inl ne_this_ea)
 replace F_this_tail := F_this_tail.other W6 (Or.inl ne_this_ea)
 replace O_ea := (O_ea.wr W5).wr W6
 refine Run.retA X6 hx hlk e6 (t := (.object "java/lang/Object")) hret rfl rfl rfl (hb hby d13_35) (by decide) (by decide) ?_
 exact ⟨rfl, N6, KP, E_this, F_this_elements, F_this_head, F_this_tail, A_ea⟩
theorem own_insD {Z : State} {h : Heap} {P : Addr → Prop} {xs : List Addr} {x : Addr} {a0 : Array Value} {K : String} (D : own_DX Z h P xs) (hx : x ∈ xs) (w : (Jvm.Cond.castable "com/example/framewheel/framewheel/core/PhaseQueue$Delayed" K).before a0 Z = true) : Ins Z h x K true := by
 obtain ⟨_, _, _, E, -⟩ := D x hx
 exact Ins.of_exa E w
theorem d14_0 : decode jdk_2655_method_29_code 0 = .ok (.iload_n 0, 1) := by decide +kernel
theorem d14_1 : decode jdk_2655_method_29_code 1 = .ok (.ifCond .le 42, 3) := by decide +kernel
theorem d14_4 : decode jdk_2655_method_29_code 4 = .ok (.iload_n 0, 1) := by decide +kernel
theorem d14_5 : decode jdk_2655_method_29_code 5 = .ok (.iconst 1, 1) := by decide +kernel
theorem d14_6 : decode jdk_2655_method_29_code 6 = .ok (.isub, 1) := by decide +kernel
theorem d14_7 : decode jdk_2655_method_29_code 7 = .ok (.iconst 1, 1) := by decide +kernel
theorem d14_8 : decode jdk_2655_method_29_code 8 = .ok (.iushr, 1) := by decide +kernel
theorem d14_9 : decode jdk_2655_method_29_code 9 = .ok (.istore 4, 2) := by decide +kernel
theorem d14_11 : decode jdk_2655_method_29_code 11 = .ok (.aload_n 2, 1) := by decide +kernel
theorem d14_12 : decode jdk_2655_method_29_code 12 = .ok (.iload 4, 2) := by decide +kernel
theorem d14_14 : decode jdk_2655_method_29_code 14 = .ok (.aaload, 1) := by decide +kernel
theorem d14_15 : decode jdk_2655_method_29_code 15 = .ok (.astore 5, 2) := by decide +kernel
theorem d14_17 : decode jdk_2655_method_29_code 17 = .ok (.aload_n 3, 1) := by decide +kernel
theorem d14_18 : decode jdk_2655_method_29_code 18 = .ok (.aload_n 1, 1) := by decide +kernel
theorem d14_19 : decode jdk_2655_method_29_code 19 = .ok (.aload 5, 2) := by decide +kernel
theorem d14_21 : decode jdk_2655_method_29_code 21 = .ok (.invokeinterface 149 3, 5) := by decide +kernel
theorem d14_26 : decode jdk_2655_method_29_code 26 = .ok (.ifCond .lt 6, 3) := by decide +kernel
theorem d14_29 : decode jdk_2655_method_29_code 29 = .ok (.goto 14, 3) := by decide +kernel
theorem d14_32 : decode jdk_2655_method_29_code 32 = .ok (.aload_n 2, 1) := by decide +kernel
theorem d14_33 : decode jdk_2655_method_29_code 33 = .ok (.iload_n 0, 1) := by decide +kernel
theorem d14_34 : decode jdk_2655_method_29_code 34 = .ok (.aload 5, 2) := by decide +kernel
theorem d14_36 : decode jdk_2655_method_29_code 36 = .ok (.aastore, 1) := by decide +kernel
theorem d14_37 : decode jdk_2655_method_29_code 37 = .ok (.iload 4, 2) := by decide +kernel
theorem d14_39 : decode jdk_2655_method_29_code 39 = .ok (.istore_n 0, 1) := by decide +kernel
theorem d14_40 : decode jdk_2655_method_29_code 40 = .ok (.goto (-40), 3) := by decide +kernel
theorem d14_43 : decode jdk_2655_method_29_code 43 = .ok (.aload_n 2, 1) := by decide +kernel
theorem d14_44 : decode jdk_2655_method_29_code 44 = .ok (.iload_n 0, 1) := by decide +kernel
theorem d14_45 : decode jdk_2655_method_29_code 45 = .ok (.aload_n 1, 1) := by decide +kernel
theorem d14_46 : decode jdk_2655_method_29_code 46 = .ok (.aastore, 1) := by decide +kernel
theorem d14_47 : decode jdk_2655_method_29_code 47 = .ok (.return_, 1) := by decide +kernel
theorem pn_4 : plainName "java/util/PriorityQueue" = true := by first | (simp [plainName, overriddenIn]; done) | decide +kernel
theorem ef_c_suc0 (m : MethodId) (ux : Addr) (qa : Addr) (lam : Addr) : entryFrame m #[(.int 0), (.ref ux), (.ref qa), (.ref lam)] 6 = mkF m 0 #[.val (.int 0), .val (.ref ux), .val (.ref qa), .val (.ref lam), .unset, .unset] [] := by first | (simp [entryFrame, mkF, argsToLocals, Value.category]; done) | rfl
set_option maxRecDepth 65536 in
set_option maxHeartbeats 40000000 in
theorem c_suc0 (l : Launch) (Z : State) (a0 : Array Value) (hw : ∀ d ∈ tables_1, d.before a0 Z = true) (ux : Addr) (qa : Addr) (lam : Addr) (h0 : Heap) (n0 : Nat) (Z0 : n0 ≤ h0.size) (cK : ClassId) (P : Addr → Prop) (xs : List Addr) (A_qa : Ars Z h0 qa (.object "java/lang/Object") [.null, .null, .null, .null, .null, .null, .null, .null, .null, .null, .null]) (O_qa : own_Ob Z h0 qa "java/lang/Object") (O_lam : own_Fn Z h0 lam cK) (D_xs : own_DX Z h0 P xs) (g_qa : n0 ≤ qa) (ne_xs_qa : qa ∉ xs) (hux : ux ∈ xs) :
  Ctr l Z (⟨"java/util/PriorityQueue", "siftUpUsingComparator", "(ILjava/lang/Object;[Ljava/lang/Object;Ljava/util/Comparator;)V"⟩ : MethodName) jdk_2655_method_29_code 6 none ({ frames := 0, cells := 0, slots := 0, locals := 0 } : Room) #[(.int 0), (.ref ux), (.ref qa), (.ref lam)] h0 (fun v h L => v = none ∧ Fr n0 L ∧ Keep h0 h [qa] ∧ Ars Z h qa (.object "java/lang/Object") [(.ref ux), .null, .null, .null, .null, .null, .null, .null, .null, .null, .null]) := by
 refine Ctr.of (plainFor_of_name pn_4) (fun m => ef_c_suc0 m ux qa lam) ?_
 intro p e s m below meth c T0 hx hby hml hown hnm hret hlk hH e0 X0 hnd
 have hZ := hH.wide
 have N0 := Fr.nil n0
 replace hown : s.vm.findClass "java/util/PriorityQueue" = some m.cls := hown
 replace hml : c.maxLocals = 6 := hml
 have KP := Keep.refl h0 [qa]
 refine Run.x_iloadN (q := 1) X0 hx (hb hby d14_0) rfl rfl ?_
 refine Run.x_ifYes (q := 43) X0 hx (hb hby d14_1) ((if0 _ _).trans (flt (by decide : ¬ ((0 : Int32) < (0 : Int32)))).2.2.2) (by decide) (by decide) ?_
 refine Run.x_aloadN (q := 44) X0 hx (hb hby d14_43) rfl rfl rfl ?_
 refine Run.x_iloadN (q := 45) X0 hx (hb hby d14_44) rfl rfl ?_
 refine Run.x_aloadN (q := 46) X0 hx (hb hby d14_45) rfl rfl rfl ?_
 refine Run.y_stR (q := 47) X0 hx hZ e0 A_qa (i := 0) (by decide) (Nat.le_of_ble_eq_true rfl) rfl (own_stoO A_qa O_qa (own_insD D_xs hux (wm160 hw))) (hb hby d14_46) rfl fun T1 h1 X1 e1 W1 A1 => ?_
 replace A_qa : Ars Z h1 qa (.object "java/lang/Object") [(.ref ux), .null, .null, .null, .null, .null, .null, .null, .null, .null, .null] := A1
 replace KP := KP.wr W1 (Or.inl (by simp))
 have N1 := Fr.snoc X1 N0 g_qa
 have Z1 : n0 ≤ h1.size := Nat.le_trans Z0 (Nat.le_of_eq W1.size.symm)
 replace O_qa := O_qa.wr W1
 replace O_lam := O_lam.wr W1
 replace D_xs := D_xs.other W1 ne_xs_qa
 refine Run.retV X1 hx hlk e1 hret (hb hby d14_47) (by decide) (by decide) ?_
 exact ⟨rfl, N1, KP, A_qa⟩
theorem d15_0 : decode jdk_2655_method_27_code 0 = .ok (.aload_n 0, 1) := by decide +kernel
theorem d15_1 : decode jdk_2655_method_27_code 1 = .ok (.getfield 21, 3) := by decide +kernel
theorem d15_4 : decode jdk_2655_method_27_code 4 = .ok (.ifnull 19, 3) := by decide +kernel
theorem d15_7 : decode jdk_2655_method_27_code 7 = .ok (.iload_n 1, 1) := by decide +kernel
theorem d15_8 : decode jdk_2655_method_27_code 8 = .ok (.aload_n 2, 1) := by decide +kernel
theorem d15_9 : decode jdk_2655_method_27_code 9 = .ok (.aload_n 0, 1) := by decide +kernel
theorem d15_10 : decode jdk_2655_method_27_code 10 = .ok (.getfield 17, 3) := by decide +kernel
theorem d15_13 : decode jdk_2655_method_27_code 13 = .ok (.aload_n 0, 1) := by decide +kernel
theorem d15_14 : decode jdk_2655_method_27_code 14 = .ok (.getfield 21, 3) := by decide +kernel
theorem d15_17 : decode jdk_2655_method_27_code 17 = .ok (.invokestatic 136, 3) := by decide +kernel
theorem d15_20 : decode jdk_2655_method_27_code 20 = .ok (.goto 12, 3) := by decide +kernel
theorem d15_23 : decode jdk_2655_method_27_code 23 = .ok (.iload_n 1, 1) := by decide +kernel
theorem d15_24 : decode jdk_2655_method_27_code 24 = .ok (.aload_n 2, 1) := by decide +kernel
theorem d15_25 : decode jdk_2655_method_27_code 25 = .ok (.aload_n 0, 1) := by decide +kernel
theorem d15_26 : decode jdk_2655_method_27_code 26 = .ok (.getfield 17, 3) := by decide +kernel
theorem d15_29 : decode jdk_2655_method_27_code 29 = .ok (.invokestatic 140, 3) := by decide +kernel
theorem d15_32 : decode jdk_2655_method_27_code 32 = .ok (.return_, 1) := by decide +kernel
theorem ef_c_sup0 (m : MethodId) (this : Addr) (ux : Addr) : entryFrame m #[(.ref this), (.int 0), (.ref ux)] 3 = mkF m 0 #[.val (.ref this), .val (.int 0), .val (.ref ux)] [] := by first | (simp [entryFrame, mkF, argsToLocals, Value.category]; done) | rfl
theorem wm77 {a0 : Array Value} {Z : State} (hw : ∀ d ∈ tables_1, d.before a0 Z = true) : (Jvm.Cond.fieldLink "java/util/PriorityQueue" (21 : Nat) "java/util/PriorityQueue" "comparator" "Ljava/util/Comparator;").before a0 Z = true := hw _ (List.mem_of_getElem? (i := 77) rfl)
theorem wm75 {a0 : Array Value} {Z : State} (hw : ∀ d ∈ tables_1, d.before a0 Z = true) : (Jvm.Cond.fieldLink "java/util/PriorityQueue" (17 : Nat) "java/util/PriorityQueue" "queue" "[Ljava/lang/Object;").before a0 Z = true := hw _ (List.mem_of_getElem? (i := 75) rfl)
theorem wm245 {a0 : Array Value} {Z : State} (hw : ∀ d ∈ tables_1, d.before a0 Z = true) : (Jvm.Cond.methodLink "java/util/PriorityQueue" (136 : Nat) ({ cls := "java/util/PriorityQueue", name := "siftUpUsingComparator", desc := "(ILjava/lang/Object;[Ljava/lang/Object;Ljava/util/Comparator;)V" } : Jvm.MethodName)).before a0 Z = true := hw _ (List.mem_of_getElem? (i := 245) rfl)
theorem wm247 {a0 : Array Value} {Z : State} (hw : ∀ d ∈ tables_1, d.before a0 Z = true) : (Jvm.Cond.code ({ cls := "java/util/PriorityQueue", name := "siftUpUsingComparator", desc := "(ILjava/lang/Object;[Ljava/lang/Object;Ljava/util/Comparator;)V" } : Jvm.MethodName) jdk_2655_method_29_code (6 : Nat) (Option.none : Option Jvm.ClassFile.FieldType)).before a0 Z = true := hw _ (List.mem_of_getElem? (i := 247) rfl)
theorem pd_4 : parseMethodDescriptor "(ILjava/lang/Object;[Ljava/lang/Object;Ljava/util/Comparator;)V" = some ⟨[.int, (.object "java/lang/Object"), (.array (.object "java/lang/Object")), (.object "java/util/Comparator")], none⟩ := by decide +kernel
theorem wm246 {a0 : Array Value} {Z : State} (hw : ∀ d ∈ tables_1, d.before a0 Z = true) : (Jvm.Cond.static ({ cls := "java/util/PriorityQueue", name := "siftUpUsingComparator", desc := "(ILjava/lang/Object;[Ljava/lang/Object;Ljava/util/Comparator;)V" } : Jvm.MethodName)).before a0 Z = true := hw _ (List.mem_of_getElem? (i := 246) rfl)
theorem wm58 {a0 : Array Value} {Z : State} (hw : ∀ d ∈ tables_1, d.before a0 Z = true) : (Jvm.Cond.initialized "java/util/PriorityQueue").before a0 Z = true := hw _ (List.mem_of_getElem? (i := 58) rfl)
set_option maxRecDepth 65536 in
set_option maxHeartbeats 40000000 in
theorem c_sup0 (l : Launch) (Z : State) (a0 : Array Value) (hw : ∀ d ∈ tables_1, d.before a0 Z = true) (this : Addr) (ux : Addr) (h0 : Heap) (n0 : Nat) (Z0 : n0 ≤ h0.size) (lam : Addr) (cK : ClassId) (P : Addr → Prop) (xs : List Addr) (qa : Addr) (E_this : Exa Z h0 this "java/util/PriorityQueue") (F_this_queue : Fld Z h0 this "java/util/PriorityQueue" "queue" "[Ljava/lang/Object;" (.ref qa)) (F_this_comparator : Fld Z h0 this "java/util/PriorityQueue" "comparator" "Ljava/util/Comparator;" (.ref lam)) (A_qa : Ars Z h0 qa (.object "java/lang/Object") [.null, .null, .null, .null, .null, .null, .null, .null, .null, .null, .null]) (O_qa : own_Ob Z h0 qa "java/lang/Object") (O_lam : own_Fn Z h0 lam cK) (D_xs : own_DX Z h0 P xs) (g_qa : n0 ≤ qa) (ne_xs_qa : qa ∉ xs) (ne_this_qa : this ≠ qa) (hux : ux ∈ xs) :
  Ctr l Z (⟨"java/util/PriorityQueue", "siftUp", "(ILjava/lang/Object;)V"⟩ : MethodName) jdk_2655_method_27_code 3 none ({ frames := 1, cells := 0, slots := 0, locals := 17 } : Room) #[(.ref this), (.int 0), (.ref ux)] h0 (fun v h L => v = none ∧ Fr n0 L ∧ Keep h0 h [qa] ∧ Ars Z h qa (.object "java/lang/Object") [(.ref ux), .null, .null, .null, .null, .null, .null, .null, .null, .null, .null]) := by
 refine Ctr.of (plainFor_of_name pn_4) (fun m => ef_c_sup0 m this ux) ?_
 intro p e s m below meth c T0 hx hby hml hown hnm hret hlk hH e0 X0 hnd
 have hZ := hH.wide
 have N0 := Fr.nil n0
 replace hown : s.vm.findClass "java/util/PriorityQueue" = some m.cls := hown
 replace hml : c.maxLocals = 3 := hml
 have KP := Keep.refl h0 [qa]
 refine Run.x_aloadN (q := 1) X0 hx (hb hby d15_0) rfl rfl rfl ?_
 refine Run.z_getF (q := 4) X0 hx hZ e0 hown (wm77 hw) F_this_comparator (hb hby d15_1) rfl fun T1 X1 e1 => ?_
 refine Run.st (B := T1.setTop (mkF m 7 #[.val (.ref this), .val (.int 0), .val (.ref ux)] [])) (fun t kt => XS.ifnullNo X1.here hx rfl (hb hby d15_4) rfl kt) ?_
 refine Run.x_iloadN (q := 8) X1 hx (hb hby d15_7) rfl rfl ?_
 refine Run.x_aloadN (q := 9) X1 hx (hb hby d15_8) rfl rfl rfl ?_
 refine Run.x_aloadN (q := 10) X1 hx (hb hby d15_9) rfl rfl rfl ?_
 refine Run.z_getF (q := 13) X1 hx hZ e1 hown (wm75 hw) F_this_queue (hb hby d15_10) rfl fun T2 X2 e2 => ?_
 refine Run.x_aloadN (q := 14) X2 hx (hb hby d15_13) rfl rfl rfl ?_
 refine Run.z_getF (q := 17) X2 hx hZ e2 hown (wm77 hw) F_this_comparator (hb hby d15_14) rfl fun T3 X3 e3 => ?_
 refine Run.callS X3 hx hH e3 (y := (⟨"java/util/PriorityQueue", "siftUpUsingComparator", "(ILjava/lang/Object;[Ljava/lang/Object;Ljava/util/Comparator;)V"⟩ : MethodName)) hown (wm245 hw) (wm246 hw) (wm58 hw) (wm247 hw) (by decide) (argsL := [(.int 0), (.ref ux), (.ref qa), (.ref lam)]) (rest := []) (c_suc0 l Z a0 hw ux qa lam h0 n0 Z0 cK P xs A_qa O_qa O_lam D_xs g_qa ne_xs_qa hux) pd_4 rfl (by rw [hml]; rfl) (W := 0) rfl (by decide) (by decide) (by decide) (by decide) (hb hby d15_17) rfl ?_
 intro T4 v4 L4 X4 q4
 obtain ⟨rfl, M4, K4, Aq4⟩ := q4
 have N4 := Fr.app N0 M4
 show Run p e below s _ _ _ (T4.setTop (mkF m 20 #[.val (.ref this), .val (.int 0), .val (.ref ux)] []))
 have Z4 : n0 ≤ T4.heap.size := Nat.le_trans Z0 K4.1
 replace KP := KP.trans K4 (allS (Or.inl (by simp)) all0)
 refine Run.x_goto (q := 32) X4 hx (hb hby d15_20) (by decide) (by decide) ?_
 replace E_this := E_this.keep K4
 replace F_this_queue := F_this_queue.keep K4 (ninS ne_this_qa nin0)
 replace F_this_comparator := F_this_comparator.keep K4 (ninS ne_this_qa nin0)
 replace O_qa := O_qa.keep K4
 replace O_lam := O_lam.keep K4
 replace D_xs := D_xs.keep K4 (own_dnS ne_xs_qa own_dn0)
 refine Run.retV X4 hx hlk rfl hret (hb hby d15_32) (by decide) (by decide) ?_
 exact ⟨rfl, N4, KP, Aq4⟩
theorem d16_0 : decode jdk_2655_method_14_code 0 = .ok (.aload_n 1, 1) := by decide +kernel
theorem d16_1 : decode jdk_2655_method_14_code 1 = .ok (.ifnonnull 11, 3) := by decide +kernel
theorem d16_4 : decode jdk_2655_method_14_code 4 = .ok (.new 74, 3) := by decide +kernel
theorem d16_7 : decode jdk_2655_method_14_code 7 = .ok (.dup, 1) := by decide +kernel
theorem d16_8 : decode jdk_2655_method_14_code 8 = .ok (.invokespecial 76, 3) := by decide +kernel
theorem d16_11 : decode jdk_2655_method_14_code 11 = .ok (.athrow, 1) := by decide +kernel
theorem d16_12 : decode jdk_2655_method_14_code 12 = .ok (.aload_n 0, 1) := by decide +kernel
theorem d16_13 : decode jdk_2655_method_14_code 13 = .ok (.dup, 1) := by decide +kernel
theorem d16_14 : decode jdk_2655_method_14_code 14 = .ok (.getfield 93, 3) := by decide +kernel
theorem d16_17 : decode jdk_2655_method_14_code 17 = .ok (.iconst 1, 1) := by decide +kernel
theorem d16_18 : decode jdk_2655_method_14_code 18 = .ok (.iadd, 1) := by decide +kernel
theorem d16_19 : decode jdk_2655_method_14_code 19 = .ok (.putfield 93, 3) := by decide +kernel
theorem d16_22 : decode jdk_2655_method_14_code 22 = .ok (.aload_n 0, 1) := by decide +kernel
theorem d16_23 : decode jdk_2655_method_14_code 23 = .ok (.getfield 58, 3) := by decide +kernel
theorem d16_26 : decode jdk_2655_method_14_code 26 = .ok (.istore_n 2, 1) := by decide +kernel
theorem d16_27 : decode jdk_2655_method_14_code 27 = .ok (.iload_n 2, 1) := by decide +kernel
theorem d16_28 : decode jdk_2655_method_14_code 28 = .ok (.aload_n 0, 1) := by decide +kernel
theorem d16_29 : decode jdk_2655_method_14_code 29 = .ok (.getfield 17, 3) := by decide +kernel
theorem d16_32 : decode jdk_2655_method_14_code 32 = .ok (.arraylength, 1) := by decide +kernel
theorem d16_33 : decode jdk_2655_method_14_code 33 = .ok (.if_icmp .lt 10, 3) := by decide +kernel
theorem d16_36 : decode jdk_2655_method_14_code 36 = .ok (.aload_n 0, 1) := by decide +kernel
theorem d16_37 : decode jdk_2655_method_14_code 37 = .ok (.iload_n 2, 1) := by decide +kernel
theorem d16_38 : decode jdk_2655_method_14_code 38 = .ok (.iconst 1, 1) := by decide +kernel
theorem d16_39 : decode jdk_2655_method_14_code 39 = .ok (.iadd, 1) := by decide +kernel
theorem d16_40 : decode jdk_2655_method_14_code 40 = .ok (.invokevirtual 96, 3) := by decide +kernel
theorem d16_43 : decode jdk_2655_method_14_code 43 = .ok (.aload_n 0, 1) := by decide +kernel
theorem d16_44 : decode jdk_2655_method_14_code 44 = .ok (.iload_n 2, 1) := by decide +kernel
theorem d16_45 : decode jdk_2655_method_14_code 45 = .ok (.aload_n 1, 1) := by decide +kernel
theorem d16_46 : decode jdk_2655_method_14_code 46 = .ok (.invokevirtual 100, 3) := by decide +kernel
theorem d16_49 : decode jdk_2655_method_14_code 49 = .ok (.aload_n 0, 1) := by decide +kernel
theorem d16_50 : decode jdk_2655_method_14_code 50 = .ok (.iload_n 2, 1) := by decide +kernel
theorem d16_51 : decode jdk_2655_method_14_code 51 = .ok (.iconst 1, 1) := by decide +kernel
theorem d16_52 : decode jdk_2655_method_14_code 52 = .ok (.iadd, 1) := by decide +kernel
theorem d16_53 : decode jdk_2655_method_14_code 53 = .ok (.putfield 58, 3) := by decide +kernel
theorem d16_56 : decode jdk_2655_method_14_code 56 = .ok (.iconst 1, 1) := by decide +kernel
theorem d16_57 : decode jdk_2655_method_14_code 57 = .ok (.ireturn, 1) := by decide +kernel
theorem ef_c_off0 (m : MethodId) (this : Addr) (ux : Addr) : entryFrame m #[(.ref this), (.ref ux)] 3 = mkF m 0 #[.val (.ref this), .val (.ref ux), .unset] [] := by first | (simp [entryFrame, mkF, argsToLocals, Value.category]; done) | rfl
theorem wm236 {a0 : Array Value} {Z : State} (hw : ∀ d ∈ tables_1, d.before a0 Z = true) : (Jvm.Cond.fieldLink "java/util/PriorityQueue" (93 : Nat) "java/util/PriorityQueue" "modCount" "I").before a0 Z = true := hw _ (List.mem_of_getElem? (i := 236) rfl)
theorem wm237 {a0 : Array Value} {Z : State} (hw : ∀ d ∈ tables_1, d.before a0 Z = true) : (Jvm.Cond.lays "java/util/PriorityQueue" "java/util/PriorityQueue" "modCount" "I").before a0 Z = true := hw _ (List.mem_of_getElem? (i := 237) rfl)
theorem wm57 {a0 : Array Value} {Z : State} (hw : ∀ d ∈ tables_1, d.before a0 Z = true) : (Jvm.Cond.instantiable "java/util/PriorityQueue" (4 : Nat)).before a0 Z = true := hw _ (List.mem_of_getElem? (i := 57) rfl)
theorem wm238 {a0 : Array Value} {Z : State} (hw : ∀ d ∈ tables_1, d.before a0 Z = true) : (Jvm.Cond.fieldLink "java/util/PriorityQueue" (58 : Nat) "java/util/PriorityQueue" "size" "I").before a0 Z = true := hw _ (List.mem_of_getElem? (i := 238) rfl)
theorem wm239 {a0 : Array Value} {Z : State} (hw : ∀ d ∈ tables_1, d.before a0 Z = true) : (Jvm.Cond.lays "java/util/PriorityQueue" "java/util/PriorityQueue" "size" "I").before a0 Z = true := hw _ (List.mem_of_getElem? (i := 239) rfl)
theorem wm76 {a0 : Array Value} {Z : State} (hw : ∀ d ∈ tables_1, d.before a0 Z = true) : (Jvm.Cond.lays "java/util/PriorityQueue" "java/util/PriorityQueue" "queue" "[Ljava/lang/Object;").before a0 Z = true := hw _ (List.mem_of_getElem? (i := 76) rfl)
theorem wm240 {a0 : Array Value} {Z : State} (hw : ∀ d ∈ tables_1, d.before a0 Z = true) : (Jvm.Cond.methodLink "java/util/PriorityQueue" (100 : Nat) ({ cls := "java/util/PriorityQueue", name := "siftUp", desc := "(ILjava/lang/Object;)V" } : Jvm.MethodName)).before a0 Z = true := hw _ (List.mem_of_getElem? (i := 240) rfl)
theorem wm78 {a0 : Array Value} {Z : State} (hw : ∀ d ∈ tables_1, d.before a0 Z = true) : (Jvm.Cond.laysFinal "java/util/PriorityQueue" "java/util/PriorityQueue" "comparator" "Ljava/util/Comparator;").before a0 Z = true := hw _ (List.mem_of_getElem? (i := 78) rfl)
theorem wm244 {a0 : Array Value} {Z : State} (hw : ∀ d ∈ tables_1, d.before a0 Z = true) : (Jvm.Cond.code ({ cls := "java/util/PriorityQueue", name := "siftUp", desc := "(ILjava/lang/Object;)V" } : Jvm.MethodName) jdk_2655_method_27_code (3 : Nat) (Option.none : Option Jvm.ClassFile.FieldType)).before a0 Z = true := hw _ (List.mem_of_getElem? (i := 244) rfl)
theorem pd_5 : parseMethodDescriptor "(ILjava/lang/Object;)V" = some ⟨[.int, (.object "java/lang/Object")], none⟩ := by decide +kernel
theorem wm241 {a0 : Array Value} {Z : State} (hw : ∀ d ∈ tables_1, d.before a0 Z = true) : (Jvm.Cond.instanceMethod ({ cls := "java/util/PriorityQueue", name := "siftUp", desc := "(ILjava/lang/Object;)V" } : Jvm.MethodName)).before a0 Z = true := hw _ (List.mem_of_getElem? (i := 241) rfl)
theorem wm242 {a0 : Array Value} {Z : State} (hw : ∀ d ∈ tables_1, d.before a0 Z = true) : (Jvm.Cond.privateMethod ({ cls := "java/util/PriorityQueue", name := "siftUp", desc := "(ILjava/lang/Object;)V" } : Jvm.MethodName)).before a0 Z = true := hw _ (List.mem_of_getElem? (i := 242) rfl)
theorem wm179 {a0 : Array Value} {Z : State} (hw : ∀ d ∈ tables_1, d.before a0 Z = true) : (Jvm.Cond.selects "java/util/PriorityQueue" ({ cls := "java/util/PriorityQueue", name := "peek", desc := "()Ljava/lang/Object;" } : Jvm.MethodName) ({ cls := "java/util/PriorityQueue", name := "peek", desc := "()Ljava/lang/Object;" } : Jvm.MethodName)).before a0 Z = true := hw _ (List.mem_of_getElem? (i := 179) rfl)
set_option maxRecDepth 65536 in
set_option maxHeartbeats 40000000 in
theorem c_off0 (l : Launch) (Z : State) (a0 : Array Value) (hw : ∀ d ∈ tables_1, d.before a0 Z = true) (this : Addr) (ux : Addr) (h0 : Heap) (n0 : Nat) (Z0 : n0 ≤ h0.size) (lam : Addr) (cK : ClassId) (P : Addr → Prop) (xs : List Addr) (qa : Addr) (mc : Int32) (E_this : Exa Z h0 this "java/util/PriorityQueue") (F_this_queue : Fld Z h0 this "java/util/PriorityQueue" "queue" "[Ljava/lang/Object;" (.ref qa)) (F_this_comparator : Fld Z h0 this "java/util/PriorityQueue" "comparator" "Ljava/util/Comparator;" (.ref lam)) (F_this_size : Fld Z h0 this "java/util/PriorityQueue" "size" "I" (.int 0)) (F_this_modCount : Fld Z h0 this "java/util/PriorityQueue" "modCount" "I" (.int mc)) (A_qa : Ars Z h0 qa (.object "java/lang/Object") [.null, .null, .null, .null, .null, .null, .null, .null, .null, .null, .null]) (O_qa : own_Ob Z h0 qa "java/lang/Object") (O_lam : own_Fn Z h0 lam cK) (D_xs : own_DX Z h0 P xs) (g_this : n0 ≤ this) (g_qa : n0 ≤ qa) (ne_this_qa : this ≠ qa) (ne_xs_this : this ∉ xs) (ne_xs_qa : qa ∉ xs) (hux : ux ∈ xs) :
  Ctr l Z (⟨"java/util/PriorityQueue", "offer", "(Ljava/lang/Object;)Z"⟩ : MethodName) jdk_2655_method_14_code 3 (some .boolean) ({ frames := 2, cells := 0, slots := 0, locals := 31 } : Room) #[(.ref this), (.ref ux)] h0 (fun v h L => v = some (.int 1) ∧ Fr n0 L ∧ Keep h0 h [this, qa] ∧ Exa Z h this "java/util/PriorityQueue" ∧ Fld Z h this "java/util/PriorityQueue" "queue" "[Ljava/lang/Object;" (.ref qa) ∧ Fld Z h this "java/util/PriorityQueue" "comparator" "Ljava/util/Comparator;" (.ref lam) ∧ Fld Z h this "java/util/PriorityQueue" "size" "I" (.int 1) ∧ Fld Z h this "java/util/PriorityQueue" "modCount" "I" (.int (mc + (1 : Int32))) ∧ Ars Z h qa (.object "java/lang/Object") [(.ref ux), .null, .null, .null, .null, .null, .null, .null, .null, .null, .null]) := by
 refine Ctr.of (plainFor_of_name pn_4) (fun m => ef_c_off0 m this ux) ?_
 intro p e s m below meth c T0 hx hby hml hown hnm hret hlk hH e0 X0 hnd
 have hZ := hH.wide
 have N0 := Fr.nil n0
 replace hown : s.vm.findClass "java/util/PriorityQueue" = some m.cls := hown
 replace hml : c.maxLocals = 3 := hml
 have KP := Keep.refl h0 [this, qa]
 refine Run.x_aloadN (q := 1) X0 hx (hb hby d16_0) rfl rfl rfl ?_
 refine Run.st (B := T0.setTop (mkF m 12 #[.val (.ref this), .val (.ref ux), .unset] [])) (fun t kt => XS.ifnonnullYes X0.here hx rfl (pc0 := 1) (pc' := 12) rfl (hb hby d16_1) rfl (by decide) (by decide) kt) ?_
 refine Run.x_aloadN (q := 13) X0 hx (hb hby d16_12) rfl rfl rfl ?_
 refine Run.x_dup (q := 14) X0 hx (hb hby d16_13) rfl rfl ?_
 refine Run.z_getF (q := 17) X0 hx hZ e0 hown (wm236 hw) F_this_modCount (hb hby d16_14) rfl fun T1 X1 e1 => ?_
 refine Run.x_iconst (q := 18) X1 hx (hb hby d16_17) (z := (1 : Int32)) rfl rfl ?_
 refine Run.x_iadd (q := 19) X1 hx (hb hby d16_18) rfl rfl ?_
 obtain ⟨T2, h2, X2, e2, W2, st2⟩ := putF X1 hx hZ hown (host := "") (Or.inl (wm236 hw)) Via.refl e1 F_this_modCount E_this (Or.inl (wm237 hw)) (wm57 hw) (ty := .int) (by decide) rfl rfl (g := (mkF m 19 #[.val (.ref this), .val (.ref ux), .unset] [(.int (mc + (1 : Int32))), (.ref this)])) rfl rfl (hb hby d16_19)
 replace F_this_modCount := F_this_modCount.same W2
 have Z2 : n0 ≤ h2.size := Nat.le_trans Z0 (Nat.le_of_eq W2.size.symm)
 replace KP := KP.wr W2 (Or.inl (by simp))
 have N2 := Fr.snoc X2 N0 g_this
 refine Run.st st2 ?_
 show Run p e below s _ _ _ (T2.setTop (mkF m 22 #[.val (.ref this), .val (.ref ux), .unset] []))
 refine Run.x_aloadN (q := 23) X2 hx (hb hby d16_22) rfl rfl rfl ?_
 replace F_this_size := F_this_size.other W2 (Or.inr (slot_ne (Or.inl (wm239 hw)) (Or.inl (wm237 hw)) (by decide) (t := .int) (t' := .int) (by decide) (by decide)))
 refine Run.z_getF (q := 26) X2 hx hZ e2 hown (wm238 hw) F_this_size (hb hby d16_23) rfl fun T3 X3 e3 => ?_
 refine Run.x_istoreN (q := 27) X3 hx #[.val (.ref this), .val (.ref ux), .val (.int 0)] (hb hby d16_26) rfl rfl ?_
 refine Run.x_iloadN (q := 28) X3 hx (hb hby d16_27) rfl rfl ?_
 refine Run.x_aloadN (q := 29) X3 hx (hb hby d16_28) rfl rfl rfl ?_
 replace F_this_queue := F_this_queue.other W2 (Or.inr (slot_ne (Or.inl (wm76 hw)) (Or.inl (wm237 hw)) (by decide) (t := (.array (.object "java/lang/Object"))) (t' := .int) (by decide) (by decide)))
 refine Run.z_getF (q := 32) X3 hx hZ e3 hown (wm75 hw) F_this_queue (hb hby d16_29) rfl fun T4 X4 e4 => ?_
 replace A_qa := A_qa.other W2 (Ne.symm ne_this_qa)
 refine Run.y_alen (q := 33) X4 hx hZ e4 A_qa (z := (11 : Int32)) (by decide) (hb hby d16_32) rfl ?_
 refine Run.x_icmpYes (q := 43) X4 hx (hb hby d16_33) (tlt (by decide : (0 : Int32) < (11 : Int32))).1 (by decide) (by decide) ?_
 refine Run.x_aloadN (q := 44) X4 hx (hb hby d16_43) rfl rfl rfl ?_
 refine Run.x_iloadN (q := 45) X4 hx (hb hby d16_44) rfl rfl ?_
 refine Run.x_aloadN (q := 46) X4 hx (hb hby d16_45) rfl rfl rfl ?_
 replace E_this := E_this.wr W2
 replace F_this_comparator := F_this_comparator.other W2 (Or.inr (slot_ne (Or.inr (wm78 hw)) (Or.inl (wm237 hw)) (by decide) (t := (.object "java/util/Comparator")) (t' := .int) (by decide) (by decide)))
 replace O_qa := O_qa.wr W2
 replace O_lam := O_lam.wr W2
 replace D_xs := D_xs.other W2 ne_xs_this
 refine own_callP X4 hx hH e4 (y := (⟨"java/util/PriorityQueue", "siftUp", "(ILjava/lang/Object;)V"⟩ : MethodName)) (y2 := (⟨"java/util/PriorityQueue", "peek", "()Ljava/lang/Object;"⟩ : MethodName)) hown (wm240 hw) (wm241 hw) (wm242 hw) (wm179 hw) rfl (wm58 hw) (wm244 hw) (by decide) (a := this) E_this (argsL := [(.int 0), (.ref ux)]) (rest := []) (c_sup0 l Z a0 hw this ux h2 n0 Z2 lam cK P xs qa E_this F_this_queue F_this_comparator A_qa O_qa O_lam D_xs g_qa ne_xs_qa ne_this_qa hux) pd_5 rfl (by rw [hml]; rfl) (W := 0) rfl (by decide) (by decide) (by decide) (by decide) (hb hby d16_46) rfl ?_
 intro T5 v5 L5 X5 q5
 obtain ⟨rfl, M5, K5, Aq5⟩ := q5
 have N5 := Fr.app N2 M5
 show Run p e below s _ _ _ (T5.setTop (mkF m 49 #[.val (.ref this), .val (.ref ux), .val (.int 0)] []))
 have Z5 : n0 ≤ T5.heap.size := Nat.le_trans Z2 K5.1
 replace KP := KP.trans K5 (allS (Or.inl (by simp)) all0)
 refine Run.x_aloadN (q := 50) X5 hx (hb hby d16_49) rfl rfl rfl ?_
 refine Run.x_iloadN (q := 51) X5 hx (hb hby d16_50) rfl rfl ?_
 refine Run.x_iconst (q := 52) X5 hx (hb hby d16_51) (z := (1 : Int32)) rfl rfl ?_
 refine Run.x_iadd (q := 53) X5 hx (hb hby d16_52) (z := (1 : Int32)) (by decide) rfl ?_
 replace F_this_size := F_this_size.keep K5 (ninS ne_this_qa nin0)
 replace E_this := E_this.keep K5
 obtain ⟨T6, h6, X6, e6, W6, st6⟩ := putF X5 hx hZ hown (host := "") (Or.inl (wm238 hw)) Via.refl rfl F_this_size E_this (Or.inl (wm239 hw)) (wm57 hw) (ty := .int) (by decide) rfl rfl (g := (mkF m 53 #[.val (.ref this), .val (.ref ux), .val (.int 0)] [(.int 1), (.ref this)])) rfl rfl (hb hby d16_53)
 replace F_this_size := F_this_size.same W6
 have Z6 : n0 ≤ h6.size := Nat.le_trans Z5 (Nat.le_of_eq W6.size.symm)
 replace KP := KP.wr W6 (Or.inl (by simp))
 have N6 := Fr.snoc X6 N5 g_this
 refine Run.st st6 ?_
 show Run p e below s _ _ _ (T6.setTop (mkF m 56 #[.val (.ref this), .val (.ref ux), .val (.int 0)] []))
 refine Run.x_iconst (q := 57) X6 hx (hb hby d16_56) (z := (1 : Int32)) rfl rfl ?_
 replace E_this := E_this.wr W6
 replace F_this_queue := (F_this_queue.keep K5 (ninS ne_this_qa nin0)).other W6 (Or.inr (slot_ne (Or.inl (wm76 hw)) (Or.inl (wm239 hw)) (by decide) (t := (.array (.object "java/lang/Object"))) (t' := .int) (by decide) (by decide)))
 replace F_this_comparator := (F_this_comparator.keep K5 (ninS ne_this_qa nin0)).other W6 (Or.inr (slot_ne (Or.inr (wm78 hw)) (Or.inl (wm239 hw)) (by decide) (t := (.object "java/util/Comparator")) (t' := .int) (by decide) (by decide)))
 replace F_this_modCount := (F_this_modCount.keep K5 (ninS ne_this_qa nin0)).other W6 (Or.inr (slot_ne (Or.inl (wm237 hw)) (Or.inl (wm239 hw)) (by decide) (t := .int) (t' := .int) (by decide) (by decide)))
 replace O_qa := (O_qa.keep K5).wr W6
 replace O_lam := (O_lam.keep K5).wr W6
 replace D_xs := (D_xs.keep K5 (own_dnS ne_xs_qa own_dn0)).other W6 ne_xs_this
 replace Aq5 := Aq5.other W6 (Ne.symm ne_this_qa)
 refine Run.retN X6 hx hlk e6 (t := .boolean) hret (by simp) (z' := (1 : Int32)) (by decide) (hb hby d16_57) (by decide) (by decide) ?_
 exact ⟨rfl, N6, KP, E_this, F_this_queue, F_this_comparator, F_this_size, F_this_modCount, Aq5⟩
theorem d17_0 : decode jdk_2655_method_13_code 0 = .ok (.aload_n 0, 1) := by decide +kernel
theorem d17_1 : decode jdk_2655_method_13_code 1 = .ok (.aload_n 1, 1) := by decide +kernel
theorem d17_2 : decode jdk_2655_method_13_code 2 = .ok (.invokevirtual 89, 3) := by decide +kernel
theorem d17_5 : decode jdk_2655_method_13_code 5 = .ok (.ireturn, 1) := by decide +kernel
theorem ef_c_addh0 (m : MethodId) (this : Addr) (ux : Addr) : entryFrame m #[(.ref this), (.ref ux)] 2 = mkF m 0 #[.val (.ref this), .val (.ref ux)] [] := by first | (simp [entryFrame, mkF, argsToLocals, Value.category]; done) | rfl
theorem wm231 {a0 : Array Value} {Z : State} (hw : ∀ d ∈ tables_1, d.before a0 Z = true) : (Jvm.Cond.methodLink "java/util/PriorityQueue" (89 : Nat) ({ cls := "java/util/PriorityQueue", name := "offer", desc := "(Ljava/lang/Object;)Z" } : Jvm.MethodName)).before a0 Z = true := hw _ (List.mem_of_getElem? (i := 231) rfl)
theorem wm235 {a0 : Array Value} {Z : State} (hw : ∀ d ∈ tables_1, d.before a0 Z = true) : (Jvm.Cond.code ({ cls := "java/util/PriorityQueue", name := "offer", desc := "(Ljava/lang/Object;)Z" } : Jvm.MethodName) jdk_2655_method_14_code (3 : Nat) (Option.some Jvm.ClassFile.FieldType.boolean)).before a0 Z = true := hw _ (List.mem_of_getElem? (i := 235) rfl)
theorem pd_6 : parseMethodDescriptor "(Ljava/lang/Object;)Z" = some ⟨[(.object "java/lang/Object")], some .boolean⟩ := by decide +kernel
theorem wm234 {a0 : Array Value} {Z : State} (hw : ∀ d ∈ tables_1, d.before a0 Z = true) : (Jvm.Cond.selects "java/util/PriorityQueue" ({ cls := "java/util/PriorityQueue", name := "offer", desc := "(Ljava/lang/Object;)Z" } : Jvm.MethodName) ({ cls := "java/util/PriorityQueue", name := "offer", desc := "(Ljava/lang/Object;)Z" } : Jvm.MethodName)).before a0 Z = true := hw _ (List.mem_of_getElem? (i := 234) rfl)
theorem wm232 {a0 : Array Value} {Z : State} (hw : ∀ d ∈ tables_1, d.before a0 Z = true) : (Jvm.Cond.declares ({ cls := "java/util/PriorityQueue", name := "offer", desc := "(Ljava/lang/Object;)Z" } : Jvm.MethodName)).before a0 Z = true := hw _ (List.mem_of_getElem? (i := 232) rfl)
theorem wm233 {a0 : Array Value} {Z : State} (hw : ∀ d ∈ tables_1, d.before a0 Z = true) : (Jvm.Cond.instanceMethod ({ cls := "java/util/PriorityQueue", name := "offer", desc := "(Ljava/lang/Object;)Z" } : Jvm.MethodName)).before a0 Z = true := hw _ (List.mem_of_getElem? (i := 233) rfl)
set_option maxRecDepth 65536 in
set_option maxHeartbeats 40000000 in
theorem c_addh0 (l : Launch) (Z : State) (a0 : Array Value) (hw : ∀ d ∈ tables_1, d.before a0 Z = true) (this : Addr) (ux : Addr) (h0 : Heap) (n0 : Nat) (Z0 : n0 ≤ h0.size) (lam : Addr) (cK : ClassId) (P : Addr → Prop) (xs : List Addr) (qa : Addr) (mc : Int32) (E_this : Exa Z h0 this "java/util/PriorityQueue") (F_this_queue : Fld Z h0 this "java/util/PriorityQueue" "queue" "[Ljava/lang/Object;" (.ref qa)) (F_this_comparator : Fld Z h0 this "java/util/PriorityQueue" "comparator" "Ljava/util/Comparator;" (.ref lam)) (F_this_size : Fld Z h0 this "java/util/PriorityQueue" "size" "I" (.int 0)) (F_this_modCount : Fld Z h0 this "java/util/PriorityQueue" "modCount" "I" (.int mc)) (A_qa : Ars Z h0 qa (.object "java/lang/Object") [.null, .null, .null, .null, .null, .null, .null, .null, .null, .null, .null]) (O_qa : own_Ob Z h0 qa "java/lang/Object") (O_lam : own_Fn Z h0 lam cK) (D_xs : own_DX Z h0 P xs) (g_this : n0 ≤ this) (g_qa : n0 ≤ qa) (ne_this_qa : this ≠ qa) (ne_xs_this : this ∉ xs) (ne_xs_qa : qa ∉ xs) (hux : ux ∈ xs) :
  Ctr l Z (⟨"java/util/PriorityQueue", "add", "(Ljava/lang/Object;)Z"⟩ : MethodName) jdk_2655_method_13_code 2 (some .boolean) ({ frames := 3, cells := 0, slots := 0, locals := 45 } : Room) #[(.ref this), (.ref ux)] h0 (fun v h L => v = some (.int 1) ∧ Fr n0 L ∧ Keep h0 h [this, qa] ∧ Exa Z h this "java/util/PriorityQueue" ∧ Fld Z h this "java/util/PriorityQueue" "queue" "[Ljava/lang/Object;" (.ref qa) ∧ Fld Z h this "java/util/PriorityQueue" "comparator" "Ljava/util/Comparator;" (.ref lam) ∧ Fld Z h this "java/util/PriorityQueue" "size" "I" (.int 1) ∧ Fld Z h this "java/util/PriorityQueue" "modCount" "I" (.int (mc + (1 : Int32))) ∧ Ars Z h qa (.object "java/lang/Object") [(.ref ux), .null, .null, .null, .null, .null, .null, .null, .null, .null, .null]) := by
 refine Ctr.of (plainFor_of_name pn_4) (fun m => ef_c_addh0 m this ux) ?_
 intro p e s m below meth c T0 hx hby hml hown hnm hret hlk hH e0 X0 hnd
 have hZ := hH.wide
 have N0 := Fr.nil n0
 replace hown : s.vm.findClass "java/util/PriorityQueue" = some m.cls := hown
 replace hml : c.maxLocals = 2 := hml
 have KP := Keep.refl h0 [this, qa]
 refine Run.x_aloadN (q := 1) X0 hx (hb hby d17_0) rfl rfl rfl ?_
 refine Run.x_aloadN (q := 2) X0 hx (hb hby d17_1) rfl rfl rfl ?_
 refine Run.callV X0 hx hH e0 (y := (⟨"java/util/PriorityQueue", "offer", "(Ljava/lang/Object;)Z"⟩ : MethodName)) (z := (⟨"java/util/PriorityQueue", "offer", "(Ljava/lang/Object;)Z"⟩ : MethodName)) hown (wm231 hw) (wm232 hw) (notFace_of_selects (args := #[]) (mvT hZ (wm234 hw))) (wm234 hw) (wm233 hw) (wm58 hw) (wm235 hw) (by decide) (a := this) E_this (argsL := [(.ref ux)]) (rest := []) (c_off0 l Z a0 hw this ux h0 n0 Z0 lam cK P xs qa mc E_this F_this_queue F_this_comparator F_this_size F_this_modCount A_qa O_qa O_lam D_xs g_this g_qa ne_this_qa ne_xs_this ne_xs_qa hux) pd_6 rfl (by rw [hml]; rfl) (W := 0) rfl (by decide) (by decide) (by decide) (by decide) (hb hby d17_2) rfl ?_
 intro T1 v1 L1 X1 q1
 obtain ⟨rfl, M1, K1, E1, Fq1, Fc1, Fs1, Fm1, Aq1⟩ := q1
 have N1 := Fr.app N0 M1
 show Run p e below s _ _ _ (T1.setTop (mkF m 5 #[.val (.ref this), .val (.ref ux)] [(.int 1)]))
 have Z1 : n0 ≤ T1.heap.size := Nat.le_trans Z0 K1.1
 replace KP := KP.trans K1 (allS (Or.inl (by simp)) (allS (Or.inl (by simp)) all0))
 replace O_qa := O_qa.keep K1
 replace O_lam := O_lam.keep K1
 replace D_xs := D_xs.keep K1 (own_dnS ne_xs_this (own_dnS ne_xs_qa own_dn0))
 refine Run.retN X1 hx hlk rfl (t := .boolean) hret (by simp) (z' := (1 : Int32)) (by decide) (hb hby d17_5) (by decide) (by decide) ?_
 exact ⟨rfl, N1, KP, E1, Fq1, Fc1, Fs1, Fm1, Aq1⟩
theorem ef_c_suc1 (m : MethodId) (ux : Addr) (qa : Addr) (lam : Addr) : entryFrame m #[(.int 1), (.ref ux), (.ref qa), (.ref lam)] 6 = mkF m 0 #[.val (.int 1), .val (.ref ux), .val (.ref qa), .val (.ref lam), .unset, .unset] [] := by first | (simp [entryFrame, mkF, argsToLocals, Value.category]; done) | rfl
theorem wm253 {a0 : Array Value} {Z : State} (hw : ∀ d ∈ tables_1, d.before a0 Z = true) : (Jvm.Cond.methodLink "java/util/PriorityQueue" (149 : Nat) ({ cls := "java/util/Comparator", name := "compare", desc := "(Ljava/lang/Object;Ljava/lang/Object;)I" } : Jvm.MethodName)).before a0 Z = true := hw _ (List.mem_of_getElem? (i := 253) rfl)
theorem wm183 {a0 : Array Value} {Z : State} (hw : ∀ d ∈ tables_1, d.before a0 Z = true) : (Jvm.Cond.declares ({ cls := "java/util/Comparator", name := "compare", desc := "(Ljava/lang/Object;Ljava/lang/Object;)I" } : Jvm.MethodName)).before a0 Z = true := hw _ (List.mem_of_getElem? (i := 183) rfl)
theorem wm184 {a0 : Array Value} {Z : State} (hw : ∀ d ∈ tables_1, d.before a0 Z = true) : (Jvm.Cond.interfaceMethod "java/util/Comparator" "java/util/Comparator" "compare" "(Ljava/lang/Object;Ljava/lang/Object;)I").before a0 Z = true := hw _ (List.mem_of_getElem? (i := 184) rfl)
theorem wm186 {a0 : Array Value} {Z : State} (hw : ∀ d ∈ tables_1, d.before a0 Z = true) : (Jvm.Cond.code ({ cls := "com/example/framewheel/framewheel/core/PhaseQueue", name := "compareByDueTime", desc := "(Lcom/example/framewheel/framewheel/core/PhaseQueue$Delayed;Lcom/example/framewheel/framewheel/core/PhaseQueue$Delayed;)I" } : Jvm.MethodName) prog_9_method_2_code (2 : Nat) (Option.some Jvm.ClassFile.FieldType.int)).before a0 Z = true := hw _ (List.mem_of_getElem? (i := 186) rfl)
theorem wm185 {a0 : Array Value} {Z : State} (hw : ∀ d ∈ tables_1, d.before a0 Z = true) : (Jvm.Cond.static ({ cls := "com/example/framewheel/framewheel/core/PhaseQueue", name := "compareByDueTime", desc := "(Lcom/example/framewheel/framewheel/core/PhaseQueue$Delayed;Lcom/example/framewheel/framewheel/core/PhaseQueue$Delayed;)I" } : Jvm.MethodName)).before a0 Z = true := hw _ (List.mem_of_getElem? (i := 185) rfl)
theorem wm11 {a0 : Array Value} {Z : State} (hw : ∀ d ∈ tables_1, d.before a0 Z = true) : (Jvm.Cond.initialized "com/example/framewheel/framewheel/core/PhaseQueue").before a0 Z = true := hw _ (List.mem_of_getElem? (i := 11) rfl)
theorem wm181 {a0 : Array Value} {Z : State} (hw : ∀ d ∈ tables_1, d.before a0 Z = true) : (Jvm.Cond.castable "com/example/framewheel/framewheel/core/PhaseQueue$Delayed" "com/example/framewheel/framewheel/core/PhaseQueue$Delayed").before a0 Z = true := hw _ (List.mem_of_getElem? (i := 181) rfl)
set_option maxRecDepth 65536 in
set_option maxHeartbeats 40000000 in
theorem c_suc1 (l : Launch) (Z : State) (a0 : Array Value) (hw : ∀ d ∈ tables_1, d.before a0 Z = true) (ux : Addr) (qa : Addr) (lam : Addr) (h0 : Heap) (n0 : Nat) (Z0 : n0 ≤ h0.size) (cK : ClassId) (P : Addr → Prop) (xs : List Addr) (y1 : Addr) (A_qa : Ars Z h0 qa (.object "java/lang/Object") [(.ref y1), .null, .null, .null, .null, .null, .null, .null, .null, .null, .null]) (O_qa : own_Ob Z h0 qa "java/lang/Object") (O_lam : own_Fn Z h0 lam cK) (D_xs : own_DX Z h0 P xs) (g_qa : n0 ≤ qa) (ne_xs_qa : qa ∉ xs) (hux : ux ∈ xs) (hy1 : y1 ∈ xs) :
  Ctr l Z (⟨"java/util/PriorityQueue", "siftUpUsingComparator", "(ILjava/lang/Object;[Ljava/lang/Object;Ljava/util/Comparator;)V"⟩ : MethodName) jdk_2655_method_29_code 6 none ({ frames := 3, cells := 0, slots := 0, locals := 42 } : Room) #[(.int 1), (.ref ux), (.ref qa), (.ref lam)] h0 (fun v h L => v = none ∧ Fr n0 L ∧ Keep h0 h [qa] ∧ (∃ a ∈ xs, ∃ b ∈ xs, Ars Z h qa (.object "java/lang/Object") [(.ref a), (.ref b), .null, .null, .null, .null, .null, .null, .null, .null, .null])) := by
 refine Ctr.of (plainFor_of_name pn_4) (fun m => ef_c_suc1 m ux qa lam) ?_
 intro p e s m below meth c T0 hx hby hml hown hnm hret hlk hH e0 X0 hnd
 have hZ := hH.wide
 have N0 := Fr.nil n0
 replace hown : s.vm.findClass "java/util/PriorityQueue" = some m.cls := hown
 replace hml : c.maxLocals = 6 := hml
 have KP := Keep.refl h0 [qa]
 refine Run.x_iloadN (q := 1) X0 hx (hb hby d14_0) rfl rfl ?_
 refine Run.x_ifNo (q := 4) X0 hx (hb hby d14_1) ((if0 _ _).trans (tlt (by decide : (0 : Int32) < (1 : Int32))).2.2.2) rfl ?_
 refine Run.x_iloadN (q := 5) X0 hx (hb hby d14_4) rfl rfl ?_
 refine Run.x_iconst (q := 6) X0 hx (hb hby d14_5) (z := (1 : Int32)) rfl rfl ?_
 refine Run.x_isub (q := 7) X0 hx (hb hby d14_6) (z := (0 : Int32)) (by decide) rfl ?_
 refine Run.x_iconst (q := 8) X0 hx (hb hby d14_7) (z := (1 : Int32)) rfl rfl ?_
 refine Run.x_iushr (q := 9) X0 hx (hb hby d14_8) (z := (0 : Int32)) (by decide) rfl ?_
 refine Run.x_istore (q := 11) X0 hx #[.val (.int 1), .val (.ref ux), .val (.ref qa), .val (.ref lam), .val (.int 0), .unset] (hb hby d14_9) rfl rfl ?_
 refine Run.x_aloadN (q := 12) X0 hx (hb hby d14_11) rfl rfl rfl ?_
 refine Run.x_iload (q := 14) X0 hx (hb hby d14_12) rfl rfl ?_
 refine Run.y_ldR (q := 15) X0 hx hZ e0 A_qa (i := 0) (v := (.ref y1)) (by decide) rfl rfl (hb hby d14_14) rfl ?_
 refine Run.x_astore (q := 17) X0 hx #[.val (.int 1), .val (.ref ux), .val (.ref qa), .val (.ref lam), .val (.int 0), .val (.ref y1)] (hb hby d14_15) rfl rfl rfl ?_
 refine Run.x_aloadN (q := 18) X0 hx (hb hby d14_17) rfl rfl rfl ?_
 refine Run.x_aloadN (q := 19) X0 hx (hb hby d14_18) rfl rfl rfl ?_
 refine Run.x_aload (q := 21) X0 hx (hb hby d14_19) rfl rfl rfl ?_
 obtain ⟨w1_1, d1_1, s1_1, E1_1, -, Fd1_1, Fs1_1, -⟩ := D_xs ux hux
 obtain ⟨w2_1, d2_1, s2_1, E2_1, -, Fd2_1, Fs2_1, -⟩ := D_xs y1 hy1
 refine own_callLam (q := 26) X0 hx hH e0 O_lam hown (wm253 hw) (wm183 hw) (wm184 hw) (wm186 hw) (wm185 hw) (wm11 hw) (wm181 hw) E1_1 E2_1 (c_cmp l Z a0 hw ux y1 h0 n0 Z0 d1_1 s1_1 d2_1 s2_1 E1_1 Fd1_1 Fs1_1 E2_1 Fd2_1 Fs2_1) (rest := []) (by rw [hml]; rfl) (W := 0) rfl (by decide) (by decide) (by decide) (by decide) (hb hby d14_21) rfl fun T1 L1 X1 M1 e1 => ?_
 have N1 := Fr.app N0 M1
 generalize hzc : (own_cmp d1_1 s1_1 d2_1 s2_1) = zc
 by_cases hc26 : zc < (0 : Int32)
 ·skip
  refine Run.x_ifYes (q := 32) X1 hx (hb hby d14_26) ((if0 _ _).trans (tlt hc26).1) (by decide) (by decide) ?_
  refine Run.x_aloadN (q := 33) X1 hx (hb hby d14_32) rfl rfl rfl ?_
  refine Run.x_iloadN (q := 34) X1 hx (hb hby d14_33) rfl rfl ?_
  refine Run.x_aload (q := 36) X1 hx (hb hby d14_34) rfl rfl rfl ?_
  refine Run.y_stR (q := 37) X1 hx hZ e1 A_qa (i := 1) (by decide) (Nat.le_of_ble_eq_true rfl) rfl (own_stoO A_qa O_qa (own_insD D_xs hy1 (wm160 hw))) (hb hby d14_36) rfl fun T2 h2 X2 e2 W2 A2 => ?_
  replace A_qa : Ars Z h2 qa (.object "java/lang/Object") [(.ref y1), (.ref y1), .null, .null, .null, .null, .null, .null, .null, .null, .null] := A2
  replace KP := KP.wr W2 (Or.inl (by simp))
  have N2 := Fr.snoc X2 N1 g_qa
  have Z2 : n0 ≤ h2.size := Nat.le_trans Z0 (Nat.le_of_eq W2.size.symm)
  refine Run.x_iload (q := 39) X2 hx (hb hby d14_37) rfl rfl ?_
  refine Run.x_istoreN (q := 40) X2 hx #[.val (.int 0), .val (.ref ux), .val (.ref qa), .val (.ref lam), .val (.int 0), .val (.ref y1)] (hb hby d14_39) rfl rfl ?_
  refine Run.x_goto (q := 0) X2 hx (hb hby d14_40) (by decide) (by decide) ?_
  refine Run.x_iloadN (q := 1) X2 hx (hb hby d14_0) rfl rfl ?_
  refine Run.x_ifYes (q := 43) X2 hx (hb hby d14_1) ((if0 _ _).trans (flt (by decide : ¬ ((0 : Int32) < (0 : Int32)))).2.2.2) (by decide) (by decide) ?_
  refine Run.x_aloadN (q := 44) X2 hx (hb hby d14_43) rfl rfl rfl ?_
  refine Run.x_iloadN (q := 45) X2 hx (hb hby d14_44) rfl rfl ?_
  refine Run.x_aloadN (q := 46) X2 hx (hb hby d14_45) rfl rfl rfl ?_
  replace O_qa := O_qa.wr W2
  replace D_xs := D_xs.other W2 ne_xs_qa
  refine Run.y_stR (q := 47) X2 hx hZ e2 A_qa (i := 0) (by decide) (Nat.le_of_ble_eq_true rfl) rfl (own_stoO A_qa O_qa (own_insD D_xs hux (wm160 hw))) (hb hby d14_46) rfl fun T3 h3 X3 e3 W3 A3 => ?_
  replace A_qa : Ars Z h3 qa (.object "java/lang/Object") [(.ref ux), (.ref y1), .null, .null, .null, .null, .null, .null, .null, .null, .null] := A3
  replace KP := KP.wr W3 (Or.inl (by simp))
  have N3 := Fr.snoc X3 N2 g_qa
  have Z3 : n0 ≤ h3.size := Nat.le_trans Z2 (Nat.le_of_eq W3.size.symm)
  replace O_qa := O_qa.wr W3
  replace O_lam := (O_lam.wr W2).wr W3
  replace D_xs := D_xs.other W3 ne_xs_qa
  refine Run.retV X3 hx hlk e3 hret (hb hby d14_47) (by decide) (by decide) ?_
  exact ⟨rfl, N3, KP, ⟨ux, hux, y1, hy1, A_qa⟩⟩
 ·skip
  refine Run.x_ifNo (q := 29) X1 hx (hb hby d14_26) ((if0 _ _).trans (flt hc26).1) rfl ?_
  refine Run.x_goto (q := 43) X1 hx (hb hby d14_29) (by decide) (by decide) ?_
  refine Run.x_aloadN (q := 44) X1 hx (hb hby d14_43) rfl rfl rfl ?_
  refine Run.x_iloadN (q := 45) X1 hx (hb hby d14_44) rfl rfl ?_
  refine Run.x_aloadN (q := 46) X1 hx (hb hby d14_45) rfl rfl rfl ?_
  refine Run.y_stR (q := 47) X1 hx hZ e1 A_qa (i := 1) (by decide) (Nat.le_of_ble_eq_true rfl) rfl (own_stoO A_qa O_qa (own_insD D_xs hux (wm160 hw))) (hb hby d14_46) rfl fun T4 h4 X4 e4 W4 A4 => ?_
  replace A_qa : Ars Z h4 qa (.object "java/lang/Object") [(.ref y1), (.ref ux), .null, .null, .null, .null, .null, .null, .null, .null, .null] := A4
  replace KP := KP.wr W4 (Or.inl (by simp))
  have N4 := Fr.snoc X4 N1 g_qa
  have Z4 : n0 ≤ h4.size := Nat.le_trans Z0 (Nat.le_of_eq W4.size.symm)
  replace O_qa := O_qa.wr W4
  replace O_lam := O_lam.wr W4
  replace D_xs := D_xs.other W4 ne_xs_qa
  refine Run.retV X4 hx hlk e4 hret (hb hby d14_47) (by decide) (by decide) ?_
  exact ⟨rfl, N4, KP, ⟨y1, hy1, ux, hux, A_qa⟩⟩
theorem ef_c_sup1 (m : MethodId) (this : Addr) (ux : Addr) : entryFrame m #[(.ref this), (.int 1), (.ref ux)] 3 = mkF m 0 #[.val (.ref this), .val (.int 1), .val (.ref ux)] [] := by first | (simp [entryFrame, mkF, argsToLocals, Value.category]; done) | rfl
set_option maxRecDepth 65536 in
set_option maxHeartbeats 40000000 in
theorem c_sup1 (l : Launch) (Z : State) (a0 : Array Value) (hw : ∀ d ∈ tables_1, d.before a0 Z = true) (this : Addr) (ux : Addr) (h0 : Heap) (n0 : Nat) (Z0 : n0 ≤ h0.size) (lam : Addr) (cK : ClassId) (P : Addr → Prop) (xs : List Addr) (qa : Addr) (y1 : Addr) (E_this : Exa Z h0 this "java/util/PriorityQueue") (F_this_queue : Fld Z h0 this "java/util/PriorityQueue" "queue" "[Ljava/lang/Object;" (.ref qa)) (F_this_comparator : Fld Z h0 this "java/util/PriorityQueue" "comparator" "Ljava/util/Comparator;" (.ref lam)) (A_qa : Ars Z h0 qa (.object "java/lang/Object") [(.ref y1), .null, .null, .null, .null, .null, .null, .null, .null, .null, .null]) (O_qa : own_Ob Z h0 qa "java/lang/Object") (O_lam : own_Fn Z h0 lam cK) (D_xs : own_DX Z h0 P xs) (g_qa : n0 ≤ qa) (ne_xs_qa : qa ∉ xs) (ne_this_qa : this ≠ qa) (hux : ux ∈ xs) (hy1 : y1 ∈ xs) :
  Ctr l Z (⟨"java/util/PriorityQueue", "siftUp", "(ILjava/lang/Object;)V"⟩ : MethodName) jdk_2655_method_27_code 3 none ({ frames := 4, cells := 0, slots := 0, locals := 59 } : Room) #[(.ref this), (.int 1), (.ref ux)] h0 (fun v h L => v = none ∧ Fr n0 L ∧ Keep h0 h [qa] ∧ (∃ a ∈ xs, ∃ b ∈ xs, Ars Z h qa (.object "java/lang/Object") [(.ref a), (.ref b), .null, .null, .null, .null, .null, .null, .null, .null, .null])) := by
 refine Ctr.of (plainFor_of_name pn_4) (fun m => ef_c_sup1 m this ux) ?_
 intro p e s m below meth c T0 hx hby hml hown hnm hret hlk hH e0 X0 hnd
 have hZ := hH.wide
 have N0 := Fr.nil n0
 replace hown : s.vm.findClass "java/util/PriorityQueue" = some m.cls := hown
 replace hml : c.maxLocals = 3 := hml
 have KP := Keep.refl h0 [qa]
 refine Run.x_aloadN (q := 1) X0 hx (hb hby d15_0) rfl rfl rfl ?_
 refine Run.z_getF (q := 4) X0 hx hZ e0 hown (wm77 hw) F_this_comparator (hb hby d15_1) rfl fun T1 X1 e1 => ?_
 refine Run.st (B := T1.setTop (mkF m 7 #[.val (.ref this), .val (.int 1), .val (.ref ux)] [])) (fun t kt => XS.ifnullNo X1.here hx rfl (hb hby d15_4) rfl kt) ?_
 refine Run.x_iloadN (q := 8) X1 hx (hb hby d15_7) rfl rfl ?_
 refine Run.x_aloadN (q := 9) X1 hx (hb hby d15_8) rfl rfl rfl ?_
 refine Run.x_aloadN (q := 10) X1 hx (hb hby d15_9) rfl rfl rfl ?_
 refine Run.z_getF (q := 13) X1 hx hZ e1 hown (wm75 hw) F_this_queue (hb hby d15_10) rfl fun T2 X2 e2 => ?_
 refine Run.x_aloadN (q := 14) X2 hx (hb hby d15_13) rfl rfl rfl ?_
 refine Run.z_getF (q := 17) X2 hx hZ e2 hown (wm77 hw) F_this_comparator (hb hby d15_14) rfl fun T3 X3 e3 => ?_
 refine Run.callS X3 hx hH e3 (y := (⟨"java/util/PriorityQueue", "siftUpUsingComparator", "(ILjava/lang/Object;[Ljava/lang/Object;Ljava/util/Comparator;)V"⟩ : MethodName)) hown (wm245 hw) (wm246 hw) (wm58 hw) (wm247 hw) (by decide) (argsL := [(.int 1), (.ref ux), (.ref qa), (.ref lam)]) (rest := []) (c_suc1 l Z a0 hw ux qa lam h0 n0 Z0 cK P xs y1 A_qa O_qa O_lam D_xs g_qa ne_xs_qa hux hy1) pd_4 rfl (by rw [hml]; rfl) (W := 0) rfl (by decide) (by decide) (by decide) (by decide) (hb hby d15_17) rfl ?_
 intro T4 v4 L4 X4 q4
 obtain ⟨rfl, M4, K4, Aq4⟩ := q4
 have N4 := Fr.app N0 M4
 show Run p e below s _ _ _ (T4.setTop (mkF m 20 #[.val (.ref this), .val (.int 1), .val (.ref ux)] []))
 have Z4 : n0 ≤ T4.heap.size := Nat.le_trans Z0 K4.1
 replace KP := KP.trans K4 (allS (Or.inl (by simp)) all0)
 obtain ⟨ya4, hya4, yb4, hyb4, Aq4⟩ := Aq4
 refine Run.x_goto (q := 32) X4 hx (hb hby d15_20) (by decide) (by decide) ?_
 replace E_this := E_this.keep K4
 replace F_this_queue := F_this_queue.keep K4 (ninS ne_this_qa nin0)
 replace F_this_comparator := F_this_comparator.keep K4 (ninS ne_this_qa nin0)
 replace O_qa := O_qa.keep K4
 replace O_lam := O_lam.keep K4
 replace D_xs := D_xs.keep K4 (own_dnS ne_xs_qa own_dn0)
 refine Run.retV X4 hx hlk rfl hret (hb hby d15_32) (by decide) (by decide) ?_
 exact ⟨rfl, N4, KP, ⟨ya4, hya4, yb4, hyb4, Aq4⟩⟩
theorem ef_c_off1 (m : MethodId) (this : Addr) (ux : Addr) : entryFrame m #[(.ref this), (.ref ux)] 3 = mkF m 0 #[.val (.ref this), .val (.ref ux), .unset] [] := by first | (simp [entryFrame, mkF, argsToLocals, Value.category]; done) | rfl
set_option maxRecDepth 65536 in
set_option maxHeartbeats 40000000 in
theorem c_off1 (l : Launch) (Z : State) (a0 : Array Value) (hw : ∀ d ∈ tables_1, d.before a0 Z = true) (this : Addr) (ux : Addr) (h0 : Heap) (n0 : Nat) (Z0 : n0 ≤ h0.size) (lam : Addr) (cK : ClassId) (P : Addr → Prop) (xs : List Addr) (qa : Addr) (mc : Int32) (y1 : Addr) (E_this : Exa Z h0 this "java/util/PriorityQueue") (F_this_queue : Fld Z h0 this "java/util/PriorityQueue" "queue" "[Ljava/lang/Object;" (.ref qa)) (F_this_comparator : Fld Z h0 this "java/util/PriorityQueue" "comparator" "Ljava/util/Comparator;" (.ref lam)) (F_this_size : Fld Z h0 this "java/util/PriorityQueue" "size" "I" (.int 1)) (F_this_modCount : Fld Z h0 this "java/util/PriorityQueue" "modCount" "I" (.int mc)) (A_qa : Ars Z h0 qa (.object "java/lang/Object") [(.ref y1), .null, .null, .null, .null, .null, .null, .null, .null, .null, .null]) (O_qa : own_Ob Z h0 qa "java/lang/Object") (O_lam : own_Fn Z h0 lam cK) (D_xs : own_DX Z h0 P xs) (g_this : n0 ≤ this) (g_qa : n0 ≤ qa) (ne_this_qa : this ≠ qa) (ne_xs_this : this ∉ xs) (ne_xs_qa : qa ∉ xs) (hux : ux ∈ xs) (hy1 : y1 ∈ xs) :
  Ctr l Z (⟨"java/util/PriorityQueue", "offer", "(Ljava/lang/Object;)Z"⟩ : MethodName) jdk_2655_method_14_code 3 (some .boolean) ({ frames := 5, cells := 0, slots := 0, locals := 73 } : Room) #[(.ref this), (.ref ux)] h0 (fun v h L => v = some (.int 1) ∧ Fr n0 L ∧ Keep h0 h [this, qa] ∧ Exa Z h this "java/util/PriorityQueue" ∧ Fld Z h this "java/util/PriorityQueue" "queue" "[Ljava/lang/Object;" (.ref qa) ∧ Fld Z h this "java/util/PriorityQueue" "comparator" "Ljava/util/Comparator;" (.ref lam) ∧ Fld Z h this "java/util/PriorityQueue" "size" "I" (.int 2) ∧ Fld Z h this "java/util/PriorityQueue" "modCount" "I" (.int (mc + (1 : Int32))) ∧ (∃ a ∈ xs, ∃ b ∈ xs, Ars Z h qa (.object "java/lang/Object") [(.ref a), (.ref b), .null, .null, .null, .null, .null, .null, .null, .null, .null])) := by
 refine Ctr.of (plainFor_of_name pn_4) (fun m => ef_c_off1 m this ux) ?_
 intro p e s m below meth c T0 hx hby hml hown hnm hret hlk hH e0 X0 hnd
 have hZ := hH.wide
 have N0 := Fr.nil n0
 replace hown : s.vm.findClass "java/util/PriorityQueue" = some m.cls := hown
 replace hml : c.maxLocals = 3 := hml
 have KP := Keep.refl h0 [this, qa]
 refine Run.x_aloadN (q := 1) X0 hx (hb hby d16_0) rfl rfl rfl ?_
 refine Run.st (B := T0.setTop (mkF m 12 #[.val (.ref this), .val (.ref ux), .unset] [])) (fun t kt => XS.ifnonnullYes X0.here hx rfl (pc0 := 1) (pc' := 12) rfl (hb hby d16_1) rfl (by decide) (by decide) kt) ?_
 refine Run.x_aloadN (q := 13) X0 hx (hb hby d16_12) rfl rfl rfl ?_
 refine Run.x_dup (q := 14) X0 hx (hb hby d16_13) rfl rfl ?_
 refine Run.z_getF (q := 17) X0 hx hZ e0 hown (wm236 hw) F_this_modCount (hb hby d16_14) rfl fun T1 X1 e1 => ?_
 refine Run.x_iconst (q := 18) X1 hx (hb hby d16_17) (z := (1 : Int32)) rfl rfl ?_
 refine Run.x_iadd (q := 19) X1 hx (hb hby d16_18) rfl rfl ?_
 obtain ⟨T2, h2, X2, e2, W2, st2⟩ := putF X1 hx hZ hown (host := "") (Or.inl (wm236 hw)) Via.refl e1 F_this_modCount E_this (Or.inl (wm237 hw)) (wm57 hw) (ty := .int) (by decide) rfl rfl (g := (mkF m 19 #[.val (.ref this), .val (.ref ux), .unset] [(.int (mc + (1 : Int32))), (.ref this)])) rfl rfl (hb hby d16_19)
 replace F_this_modCount := F_this_modCount.same W2
 have Z2 : n0 ≤ h2.size := Nat.le_trans Z0 (Nat.le_of_eq W2.size.symm)
 replace KP := KP.wr W2 (Or.inl (by simp))
 have N2 := Fr.snoc X2 N0 g_this
 refine Run.st st2 ?_
 show Run p e below s _ _ _ (T2.setTop (mkF m 22 #[.val (.ref this), .val (.ref ux), .unset] []))
 refine Run.x_aloadN (q := 23) X2 hx (hb hby d16_22) rfl rfl rfl ?_
 replace F_this_size := F_this_size.other W2 (Or.inr (slot_ne (Or.inl (wm239 hw)) (Or.inl (wm237 hw)) (by decide) (t := .int) (t' := .int) (by decide) (by decide)))
 refine Run.z_getF (q := 26) X2 hx hZ e2 hown (wm238 hw) F_this_size (hb hby d16_23) rfl fun T3 X3 e3 => ?_
 refine Run.x_istoreN (q := 27) X3 hx #[.val (.ref this), .val (.ref ux), .val (.int 1)] (hb hby d16_26) rfl rfl ?_
 refine Run.x_iloadN (q := 28) X3 hx (hb hby d16_27) rfl rfl ?_
 refine Run.x_aloadN (q := 29) X3 hx (hb hby d16_28) rfl rfl rfl ?_
 replace F_this_queue := F_this_queue.other W2 (Or.inr (slot_ne (Or.inl (wm76 hw)) (Or.inl (wm237 hw)) (by decide) (t := (.array (.object "java/lang/Object"))) (t' := .int) (by decide) (by decide)))
 refine Run.z_getF (q := 32) X3 hx hZ e3 hown (wm75 hw) F_this_queue (hb hby d16_29) rfl fun T4 X4 e4 => ?_
 replace A_qa := A_qa.other W2 (Ne.symm ne_this_qa)
 refine Run.y_alen (q := 33) X4 hx hZ e4 A_qa (z := (11 : Int32)) rfl (hb hby d16_32) rfl ?_
 refine Run.x_icmpYes (q := 43) X4 hx (hb hby d16_33) (tlt (by decide : (1 : Int32) < (11 : Int32))).1 (by decide) (by decide) ?_
 refine Run.x_aloadN (q := 44) X4 hx (hb hby d16_43) rfl rfl rfl ?_
 refine Run.x_iloadN (q := 45) X4 hx (hb hby d16_44) rfl rfl ?_
 refine Run.x_aloadN (q := 46) X4 hx (hb hby d16_45) rfl rfl rfl ?_
 replace E_this := E_this.wr W2
 replace F_this_comparator := F_this_comparator.other W2 (Or.inr (slot_ne (Or.inr (wm78 hw)) (Or.inl (wm237 hw)) (by decide) (t := (.object "java/util/Comparator")) (t' := .int) (by decide) (by decide)))
 replace O_qa := O_qa.wr W2
 replace O_lam := O_lam.wr W2
 replace D_xs := D_xs.other W2 ne_xs_this
 refine own_callP X4 hx hH e4 (y := (⟨"java/util/PriorityQueue", "siftUp", "(ILjava/lang/Object;)V"⟩ : MethodName)) (y2 := (⟨"java/util/PriorityQueue", "peek", "()Ljava/lang/Object;"⟩ : MethodName)) hown (wm240 hw) (wm241 hw) (wm242 hw) (wm179 hw) rfl (wm58 hw) (wm244 hw) (by decide) (a := this) E_this (argsL := [(.int 1), (.ref ux)]) (rest := []) (c_sup1 l Z a0 hw this ux h2 n0 Z2 lam cK P xs qa y1 E_this F_this_queue F_this_comparator A_qa O_qa O_lam D_xs g_qa ne_xs_qa ne_this_qa hux hy1) pd_5 rfl (by rw [hml]; rfl) (W := 0) rfl (by decide) (by decide) (by decide) (by decide) (hb hby d16_46) rfl ?_
 intro T5 v5 L5 X5 q5
 obtain ⟨rfl, M5, K5, Aq5⟩ := q5
 have N5 := Fr.app N2 M5
 show Run p e below s _ _ _ (T5.setTop (mkF m 49 #[.val (.ref this), .val (.ref ux), .val (.int 1)] []))
 have Z5 : n0 ≤ T5.heap.size := Nat.le_trans Z2 K5.1
 replace KP := KP.trans K5 (allS (Or.inl (by simp)) all0)
 obtain ⟨ya5, hya5, yb5, hyb5, Aq5⟩ := Aq5
 refine Run.x_aloadN (q := 50) X5 hx (hb hby d16_49) rfl rfl rfl ?_
 refine Run.x_iloadN (q := 51) X5 hx (hb hby d16_50) rfl rfl ?_
 refine Run.x_iconst (q := 52) X5 hx (hb hby d16_51) (z := (1 : Int32)) rfl rfl ?_
 refine Run.x_iadd (q := 53) X5 hx (hb hby d16_52) (z := (2 : Int32)) (by decide) rfl ?_
 replace F_this_size := F_this_size.keep K5 (ninS ne_this_qa nin0)
 replace E_this := E_this.keep K5
 obtain ⟨T6, h6, X6, e6, W6, st6⟩ := putF X5 hx hZ hown (host := "") (Or.inl (wm238 hw)) Via.refl rfl F_this_size E_this (Or.inl (wm239 hw)) (wm57 hw) (ty := .int) (by decide) rfl rfl (g := (mkF m 53 #[.val (.ref this), .val (.ref ux), .val (.int 1)] [(.int 2), (.ref this)])) rfl rfl (hb hby d16_53)
 replace F_this_size := F_this_size.same W6
 have Z6 : n0 ≤ h6.size := Nat.le_trans Z5 (Nat.le_of_eq W6.size.symm)
 replace KP := KP.wr W6 (Or.inl (by simp))
 have N6 := Fr.snoc X6 N5 g_this
 refine Run.st st6 ?_
 show Run p e below s _ _ _ (T6.setTop (mkF m 56 #[.val (.ref this), .val (.ref ux), .val (.int 1)] []))
 refine Run.x_iconst (q := 57) X6 hx (hb hby d16_56) (z := (1 : Int32)) rfl rfl ?_
 replace E_this := E_this.wr W6
 replace F_this_queue := (F_this_queue.keep K5 (ninS ne_this_qa nin0)).other W6 (Or.inr (slot_ne (Or.inl (wm76 hw)) (Or.inl (wm239 hw)) (by decide) (t := (.array (.object "java/lang/Object"))) (t' := .int) (by decide) (by decide)))
 replace F_this_comparator := (F_this_comparator.keep K5 (ninS ne_this_qa nin0)).other W6 (Or.inr (slot_ne (Or.inr (wm78 hw)) (Or.inl (wm239 hw)) (by decide) (t := (.object "java/util/Comparator")) (t' := .int) (by decide) (by decide)))
 replace F_this_modCount := (F_this_modCount.keep K5 (ninS ne_this_qa nin0)).other W6 (Or.inr (slot_ne (Or.inl (wm237 hw)) (Or.inl (wm239 hw)) (by decide) (t := .int) (t' := .int) (by decide) (by decide)))
 replace O_qa := (O_qa.keep K5).wr W6
 replace O_lam := (O_lam.keep K5).wr W6
 replace D_xs := (D_xs.keep K5 (own_dnS ne_xs_qa own_dn0)).other W6 ne_xs_this
 replace Aq5 := Aq5.other W6 (Ne.symm ne_this_qa)
 refine Run.retN X6 hx hlk e6 (t := .boolean) hret (by simp) (z' := (1 : Int32)) (by decide) (hb hby d16_57) (by decide) (by decide) ?_
 exact ⟨rfl, N6, KP, E_this, F_this_queue, F_this_comparator, F_this_size, F_this_modCount, ⟨ya5, hya5, yb5, hyb5, Aq5⟩⟩
theorem ef_c_addh1 (m : MethodId) (this : Addr) (ux : Addr) : entryFrame m #[(.ref this), (.ref ux)] 2 = mkF m 0 #[.val (.ref this), .val (.ref ux)] [] := by first | (simp [entryFrame, mkF, argsToLocals, Value.category]; done) | rfl
set_option maxRecDepth 65536 in
set_option maxHeartbeats 40000000 in
theorem c_addh1 (l : Launch) (Z : State) (a0 : Array Value) (hw : ∀ d ∈ tables_1, d.before a0 Z = true) (this : Addr) (ux : Addr) (h0 : Heap) (n0 : Nat) (Z0 : n0 ≤ h0.size) (lam : Addr) (cK : ClassId) (P : Addr → Prop) (xs : List Addr) (qa : Addr) (mc : Int32) (y1 : Addr) (E_this : Exa Z h0 this "java/util/PriorityQueue") (F_this_queue : Fld Z h0 this "java/util/PriorityQueue" "queue" "[Ljava/lang/Object;" (.ref qa)) (F_this_comparator : Fld Z h0 this "java/util/PriorityQueue" "comparator" "Ljava/util/Comparator;" (.ref lam)) (F_this_size : Fld Z h0 this "java/util/PriorityQueue" "size" "I" (.int 1)) (F_this_modCount : Fld Z h0 this "java/util/PriorityQueue" "modCount" "I" (.int mc)) (A_qa : Ars Z h0 qa (.object "java/lang/Object") [(.ref y1), .null, .null, .null, .null, .null, .null, .null, .null, .null, .null]) (O_qa : own_Ob Z h0 qa "java/lang/Object") (O_lam : own_Fn Z h0 lam cK) (D_xs : own_DX Z h0 P xs) (g_this : n0 ≤ this) (g_qa : n0 ≤ qa) (ne_this_qa : this ≠ qa) (ne_xs_this : this ∉ xs) (ne_xs_qa : qa ∉ xs) (hux : ux ∈ xs) (hy1 : y1 ∈ xs) :
  Ctr l Z (⟨"java/util/PriorityQueue", "add", "(Ljava/lang/Object;)Z"⟩ : MethodName) jdk_2655_method_13_code 2 (some .boolean) ({ frames := 6, cells := 0, slots := 0, locals := 87 } : Room) #[(.ref this), (.ref ux)] h0 (fun v h L => v = some (.int 1) ∧ Fr n0 L ∧ Keep h0 h [this, qa] ∧ Exa Z h this "java/util/PriorityQueue" ∧ Fld Z h this "java/util/PriorityQueue" "queue" "[Ljava/lang/Object;" (.ref qa) ∧ Fld Z h this "java/util/PriorityQueue" "comparator" "Ljava/util/Comparator;" (.ref lam) ∧ Fld Z h this "java/util/PriorityQueue" "size" "I" (.int 2) ∧ Fld Z h this "java/util/PriorityQueue" "modCount" "I" (.int (mc + (1 : Int32))) ∧ (∃ a ∈ xs, ∃ b ∈ xs, Ars Z h qa (.object "java/lang/Object") [(.ref a), (.ref b), .null, .null, .null, .null, .null, .null, .null, .null, .null])) := by
 refine Ctr.of (plainFor_of_name pn_4) (fun m => ef_c_addh1 m this ux) ?_
 intro p e s m below meth c T0 hx hby hml hown hnm hret hlk hH e0 X0 hnd
 have hZ := hH.wide
 have N0 := Fr.nil n0
 replace hown : s.vm.findClass "java/util/PriorityQueue" = some m.cls := hown
 replace hml : c.maxLocals = 2 := hml
 have KP := Keep.refl h0 [this, qa]
 refine Run.x_aloadN (q := 1) X0 hx (hb hby d17_0) rfl rfl rfl ?_
 refine Run.x_aloadN (q := 2) X0 hx (hb hby d17_1) rfl rfl rfl ?_
 refine Run.callV X0 hx hH e0 (y := (⟨"java/util/PriorityQueue", "offer", "(Ljava/lang/Object;)Z"⟩ : MethodName)) (z := (⟨"java/util/PriorityQueue", "offer", "(Ljava/lang/Object;)Z"⟩ : MethodName)) hown (wm231 hw) (wm232 hw) (notFace_of_selects (args := #[]) (mvT hZ (wm234 hw))) (wm234 hw) (wm233 hw) (wm58 hw) (wm235 hw) (by decide) (a := this) E_this (argsL := [(.ref ux)]) (rest := []) (c_off1 l Z a0 hw this ux h0 n0 Z0 lam cK P xs qa mc y1 E_this F_this_queue F_this_comparator F_this_size F_this_modCount A_qa O_qa O_lam D_xs g_this g_qa ne_this_qa ne_xs_this ne_xs_qa hux hy1) pd_6 rfl (by rw [hml]; rfl) (W := 0) rfl (by decide) (by decide) (by decide) (by decide) (hb hby d17_2) rfl ?_
 intro T1 v1 L1 X1 q1
 obtain ⟨rfl, M1, K1, E1, Fq1, Fc1, Fs1, Fm1, Aq1⟩ := q1
 have N1 := Fr.app N0 M1
 show Run p e below s _ _ _ (T1.setTop (mkF m 5 #[.val (.ref this), .val (.ref ux)] [(.int 1)]))
 have Z1 : n0 ≤ T1.heap.size := Nat.le_trans Z0 K1.1
 replace KP := KP.trans K1 (allS (Or.inl (by simp)) (allS (Or.inl (by simp)) all0))
 obtain ⟨ya1, hya1, yb1, hyb1, Aq1⟩ := Aq1
 replace O_qa := O_qa.keep K1
 replace O_lam := O_lam.keep K1
 replace D_xs := D_xs.keep K1 (own_dnS ne_xs_this (own_dnS ne_xs_qa own_dn0))
 refine Run.retN X1 hx hlk rfl (t := .boolean) hret (by simp) (z' := (1 : Int32)) (by decide) (hb hby d17_5) (by decide) (by decide) ?_
 exact ⟨rfl, N1, KP, E1, Fq1, Fc1, Fs1, Fm1, ⟨ya1, hya1, yb1, hyb1, Aq1⟩⟩
theorem d18_0 : decode jdk_2655_method_32_code 0 = .ok (.iload_n 3, 1) := by decide +kernel
theorem d18_1 : decode jdk_2655_method_32_code 1 = .ok (.iconst 1, 1) := by decide +kernel
theorem d18_2 : decode jdk_2655_method_32_code 2 = .ok (.iushr, 1) := by decide +kernel
theorem d18_3 : decode jdk_2655_method_32_code 3 = .ok (.istore 5, 2) := by decide +kernel
theorem d18_5 : decode jdk_2655_method_32_code 5 = .ok (.iload_n 0, 1) := by decide +kernel
theorem d18_6 : decode jdk_2655_method_32_code 6 = .ok (.iload 5, 2) := by decide +kernel
theorem d18_8 : decode jdk_2655_method_32_code 8 = .ok (.if_icmp .ge 80, 3) := by decide +kernel
theorem d18_11 : decode jdk_2655_method_32_code 11 = .ok (.iload_n 0, 1) := by decide +kernel
theorem d18_12 : decode jdk_2655_method_32_code 12 = .ok (.iconst 1, 1) := by decide +kernel
theorem d18_13 : decode jdk_2655_method_32_code 13 = .ok (.ishl, 1) := by decide +kernel
theorem d18_14 : decode jdk_2655_method_32_code 14 = .ok (.iconst 1, 1) := by decide +kernel
theorem d18_15 : decode jdk_2655_method_32_code 15 = .ok (.iadd, 1) := by decide +kernel
theorem d18_16 : decode jdk_2655_method_32_code 16 = .ok (.istore 6, 2) := by decide +kernel
theorem d18_18 : decode jdk_2655_method_32_code 18 = .ok (.aload_n 2, 1) := by decide +kernel
theorem d18_19 : decode jdk_2655_method_32_code 19 = .ok (.iload 6, 2) := by decide +kernel
theorem d18_21 : decode jdk_2655_method_32_code 21 = .ok (.aaload, 1) := by decide +kernel
theorem d18_22 : decode jdk_2655_method_32_code 22 = .ok (.astore 7, 2) := by decide +kernel
theorem d18_24 : decode jdk_2655_method_32_code 24 = .ok (.iload 6, 2) := by decide +kernel
theorem d18_26 : decode jdk_2655_method_32_code 26 = .ok (.iconst 1, 1) := by decide +kernel
theorem d18_27 : decode jdk_2655_method_32_code 27 = .ok (.iadd, 1) := by decide +kernel
theorem d18_28 : decode jdk_2655_method_32_code 28 = .ok (.istore 8, 2) := by decide +kernel
theorem d18_30 : decode jdk_2655_method_32_code 30 = .ok (.iload 8, 2) := by decide +kernel
theorem d18_32 : decode jdk_2655_method_32_code 32 = .ok (.iload_n 3, 1) := by decide +kernel
theorem d18_33 : decode jdk_2655_method_32_code 33 = .ok (.if_icmp .ge 28, 3) := by decide +kernel
theorem d18_36 : decode jdk_2655_method_32_code 36 = .ok (.aload 4, 2) := by decide +kernel
theorem d18_38 : decode jdk_2655_method_32_code 38 = .ok (.aload 7, 2) := by decide +kernel
theorem d18_40 : decode jdk_2655_method_32_code 40 = .ok (.aload_n 2, 1) := by decide +kernel
theorem d18_41 : decode jdk_2655_method_32_code 41 = .ok (.iload 8, 2) := by decide +kernel
theorem d18_43 : decode jdk_2655_method_32_code 43 = .ok (.aaload, 1) := by decide +kernel
theorem d18_44 : decode jdk_2655_method_32_code 44 = .ok (.invokeinterface 149 3, 5) := by decide +kernel
theorem d18_49 : decode jdk_2655_method_32_code 49 = .ok (.ifCond .le 12, 3) := by decide +kernel
theorem d18_52 : decode jdk_2655_method_32_code 52 = .ok (.aload_n 2, 1) := by decide +kernel
theorem d18_53 : decode jdk_2655_method_32_code 53 = .ok (.iload 8, 2) := by decide +kernel
theorem d18_55 : decode jdk_2655_method_32_code 55 = .ok (.dup, 1) := by decide +kernel
theorem d18_56 : decode jdk_2655_method_32_code 56 = .ok (.istore 6, 2) := by decide +kernel
theorem d18_58 : decode jdk_2655_method_32_code 58 = .ok (.aaload, 1) := by decide +kernel
theorem d18_59 : decode jdk_2655_method_32_code 59 = .ok (.astore 7, 2) := by decide +kernel
theorem d18_61 : decode jdk_2655_method_32_code 61 = .ok (.aload 4, 2) := by decide +kernel
theorem d18_63 : decode jdk_2655_method_32_code 63 = .ok (.aload_n 1, 1) := by decide +kernel
theorem d18_64 : decode jdk_2655_method_32_code 64 = .ok (.aload 7, 2) := by decide +kernel
theorem d18_66 : decode jdk_2655_method_32_code 66 = .ok (.invokeinterface 149 3, 5) := by decide +kernel
theorem d18_71 : decode jdk_2655_method_32_code 71 = .ok (.ifCond .gt 6, 3) := by decide +kernel
theorem d18_74 : decode jdk_2655_method_32_code 74 = .ok (.goto 14, 3) := by decide +kernel
theorem d18_77 : decode jdk_2655_method_32_code 77 = .ok (.aload_n 2, 1) := by decide +kernel
theorem d18_78 : decode jdk_2655_method_32_code 78 = .ok (.iload_n 0, 1) := by decide +kernel
theorem d18_79 : decode jdk_2655_method_32_code 79 = .ok (.aload 7, 2) := by decide +kernel
theorem d18_81 : decode jdk_2655_method_32_code 81 = .ok (.aastore, 1) := by decide +kernel
theorem d18_82 : decode jdk_2655_method_32_code 82 = .ok (.iload 6, 2) := by decide +kernel
theorem d18_84 : decode jdk_2655_method_32_code 84 = .ok (.istore_n 0, 1) := by decide +kernel
theorem d18_85 : decode jdk_2655_method_32_code 85 = .ok (.goto (-80), 3) := by decide +kernel
theorem d18_88 : decode jdk_2655_method_32_code 88 = .ok (.aload_n 2, 1) := by decide +kernel
theorem d18_89 : decode jdk_2655_method_32_code 89 = .ok (.iload_n 0, 1) := by decide +kernel
theorem d18_90 : decode jdk_2655_method_32_code 90 = .ok (.aload_n 1, 1) := by decide +kernel
theorem d18_91 : decode jdk_2655_method_32_code 91 = .ok (.aastore, 1) := by decide +kernel
theorem d18_92 : decode jdk_2655_method_32_code 92 = .ok (.return_, 1) := by decide +kernel
theorem ef_c_sdc (m : MethodId) (y2 : Addr) (qa : Addr) (lam : Addr) : entryFrame m #[(.int 0), (.ref y2), (.ref qa), (.int 1), (.ref lam)] 9 = mkF m 0 #[.val (.int 0), .val (.ref y2), .val (.ref qa), .val (.int 1), .val (.ref lam), .unset, .unset, .unset, .unset] [] := by first | (simp [entryFrame, mkF, argsToLocals, Value.category]; done) | rfl
set_option maxRecDepth 65536 in
set_option maxHeartbeats 40000000 in
theorem c_sdc (l : Launch) (Z : State) (a0 : Array Value) (hw : ∀ d ∈ tables_1, d.before a0 Z = true) (y2 : Addr) (qa : Addr) (lam : Addr) (h0 : Heap) (n0 : Nat) (Z0 : n0 ≤ h0.size) (cK : ClassId) (P : Addr → Prop) (xs : List Addr) (y1 : Addr) (A_qa : Ars Z h0 qa (.object "java/lang/Object") [(.ref y1), .null, .null, .null, .null, .null, .null, .null, .null, .null, .null]) (O_qa : own_Ob Z h0 qa "java/lang/Object") (O_lam : own_Fn Z h0 lam cK) (D_xs : own_DX Z h0 P xs) (g_qa : n0 ≤ qa) (ne_xs_qa : qa ∉ xs) (hy1 : y1 ∈ xs) (hy2 : y2 ∈ xs) :
  Ctr l Z (⟨"java/util/PriorityQueue", "siftDownUsingComparator", "(ILjava/lang/Object;[Ljava/lang/Object;ILjava/util/Comparator;)V"⟩ : MethodName) jdk_2655_method_32_code 9 none ({ frames := 0, cells := 0, slots := 0, locals := 0 } : Room) #[(.int 0), (.ref y2), (.ref qa), (.int 1), (.ref lam)] h0 (fun v h L => v = none ∧ Fr n0 L ∧ Keep h0 h [qa] ∧ Ars Z h qa (.object "java/lang/Object") [(.ref y2), .null, .null, .null, .null, .null, .null, .null, .null, .null, .null]) := by
 refine Ctr.of (plainFor_of_name pn_4) (fun m => ef_c_sdc m y2 qa lam) ?_
 intro p e s m below meth c T0 hx hby hml hown hnm hret hlk hH e0 X0 hnd
 have hZ := hH.wide
 have N0 := Fr.nil n0
 replace hown : s.vm.findClass "java/util/PriorityQueue" = some m.cls := hown
 replace hml : c.maxLocals = 9 := hml
 have KP := Keep.refl h0 [qa]
 refine Run.x_iloadN (q := 1) X0 hx (hb hby d18_0) rfl rfl ?_
 refine Run.x_iconst (q := 2) X0 hx (hb hby d18_1) (z := (1 : Int32)) rfl rfl ?_
 refine Run.x_iushr (q := 3) X0 hx (hb hby d18_2) (z := (0 : Int32)) (by decide) rfl ?_
 refine Run.x_istore (q := 5) X0 hx #[.val (.int 0), .val (.ref y2), .val (.ref qa), .val (.int 1), .val (.ref lam), .val (.int 0), .unset, .unset, .unset] (hb hby d18_3) rfl rfl ?_
 refine Run.x_iloadN (q := 6) X0 hx (hb hby d18_5) rfl rfl ?_
 refine Run.x_iload (q := 8) X0 hx (hb hby d18_6) rfl rfl ?_
 refine Run.x_icmpYes (q := 88) X0 hx (hb hby d18_8) (flt (by decide : ¬ ((0 : Int32) < (0 : Int32)))).2.1 (by decide) (by decide) ?_
 refine Run.x_aloadN (q := 89) X0 hx (hb hby d18_88) rfl rfl rfl ?_
 refine Run.x_iloadN (q := 90) X0 hx (hb hby d18_89) rfl rfl ?_
 refine Run.x_aloadN (q := 91) X0 hx (hb hby d18_90) rfl rfl rfl ?_
 refine Run.y_stR (q := 92) X0 hx hZ e0 A_qa (i := 0) (by decide) (Nat.le_of_ble_eq_true rfl) rfl (own_stoO A_qa O_qa (own_insD D_xs hy2 (wm160 hw))) (hb hby d18_91) rfl fun T1 h1 X1 e1 W1 A1 => ?_
 replace A_qa : Ars Z h1 qa (.object "java/lang/Object") [(.ref y2), .null, .null, .null, .null, .null, .null, .null, .null, .null, .null] := A1
 replace KP := KP.wr W1 (Or.inl (by simp))
 have N1 := Fr.snoc X1 N0 g_qa
 have Z1 : n0 ≤ h1.size := Nat.le_trans Z0 (Nat.le_of_eq W1.size.symm)
 replace O_qa := O_qa.wr W1
 replace O_lam := O_lam.wr W1
 replace D_xs := D_xs.other W1 ne_xs_qa
 refine Run.retV X1 hx hlk e1 hret (hb hby d18_92) (by decide) (by decide) ?_
 exact ⟨rfl, N1, KP, A_qa⟩
theorem d19_0 : decode jdk_2655_method_25_code 0 = .ok (.aload_n 0, 1) := by decide +kernel
theorem d19_1 : decode jdk_2655_method_25_code 1 = .ok (.getfield 17, 3) := by decide +kernel
theorem d19_4 : decode jdk_2655_method_25_code 4 = .ok (.dup, 1) := by decide +kernel
theorem d19_5 : decode jdk_2655_method_25_code 5 = .ok (.astore_n 1, 1) := by decide +kernel
theorem d19_6 : decode jdk_2655_method_25_code 6 = .ok (.iconst 0, 1) := by decide +kernel
theorem d19_7 : decode jdk_2655_method_25_code 7 = .ok (.aaload, 1) := by decide +kernel
theorem d19_8 : decode jdk_2655_method_25_code 8 = .ok (.dup, 1) := by decide +kernel
theorem d19_9 : decode jdk_2655_method_25_code 9 = .ok (.astore_n 2, 1) := by decide +kernel
theorem d19_10 : decode jdk_2655_method_25_code 10 = .ok (.ifnull 69, 3) := by decide +kernel
theorem d19_13 : decode jdk_2655_method_25_code 13 = .ok (.aload_n 0, 1) := by decide +kernel
theorem d19_14 : decode jdk_2655_method_25_code 14 = .ok (.dup, 1) := by decide +kernel
theorem d19_15 : decode jdk_2655_method_25_code 15 = .ok (.getfield 93, 3) := by decide +kernel
theorem d19_18 : decode jdk_2655_method_25_code 18 = .ok (.iconst 1, 1) := by decide +kernel
theorem d19_19 : decode jdk_2655_method_25_code 19 = .ok (.iadd, 1) := by decide +kernel
theorem d19_20 : decode jdk_2655_method_25_code 20 = .ok (.putfield 93, 3) := by decide +kernel
theorem d19_23 : decode jdk_2655_method_25_code 23 = .ok (.aload_n 1, 1) := by decide +kernel
theorem d19_24 : decode jdk_2655_method_25_code 24 = .ok (.aload_n 0, 1) := by decide +kernel
theorem d19_25 : decode jdk_2655_method_25_code 25 = .ok (.dup, 1) := by decide +kernel
theorem d19_26 : decode jdk_2655_method_25_code 26 = .ok (.getfield 58, 3) := by decide +kernel
theorem d19_29 : decode jdk_2655_method_25_code 29 = .ok (.iconst 1, 1) := by decide +kernel
theorem d19_30 : decode jdk_2655_method_25_code 30 = .ok (.isub, 1) := by decide +kernel
theorem d19_31 : decode jdk_2655_method_25_code 31 = .ok (.dup_x1, 1) := by decide +kernel
theorem d19_32 : decode jdk_2655_method_25_code 32 = .ok (.putfield 58, 3) := by decide +kernel
theorem d19_35 : decode jdk_2655_method_25_code 35 = .ok (.dup, 1) := by decide +kernel
theorem d19_36 : decode jdk_2655_method_25_code 36 = .ok (.istore_n 3, 1) := by decide +kernel
theorem d19_37 : decode jdk_2655_method_25_code 37 = .ok (.aaload, 1) := by decide +kernel
theorem d19_38 : decode jdk_2655_method_25_code 38 = .ok (.astore 4, 2) := by decide +kernel
theorem d19_40 : decode jdk_2655_method_25_code 40 = .ok (.aload_n 1, 1) := by decide +kernel
theorem d19_41 : decode jdk_2655_method_25_code 41 = .ok (.iload_n 3, 1) := by decide +kernel
theorem d19_42 : decode jdk_2655_method_25_code 42 = .ok (.aconst_null, 1) := by decide +kernel
theorem d19_43 : decode jdk_2655_method_25_code 43 = .ok (.aastore, 1) := by decide +kernel
theorem d19_44 : decode jdk_2655_method_25_code 44 = .ok (.iload_n 3, 1) := by decide +kernel
theorem d19_45 : decode jdk_2655_method_25_code 45 = .ok (.ifCond .le 34, 3) := by decide +kernel
theorem d19_48 : decode jdk_2655_method_25_code 48 = .ok (.aload_n 0, 1) := by decide +kernel
theorem d19_49 : decode jdk_2655_method_25_code 49 = .ok (.getfield 21, 3) := by decide +kernel
theorem d19_52 : decode jdk_2655_method_25_code 52 = .ok (.dup, 1) := by decide +kernel
theorem d19_53 : decode jdk_2655_method_25_code 53 = .ok (.astore 5, 2) := by decide +kernel
theorem d19_55 : decode jdk_2655_method_25_code 55 = .ok (.ifnonnull 14, 3) := by decide +kernel
theorem d19_58 : decode jdk_2655_method_25_code 58 = .ok (.iconst 0, 1) := by decide +kernel
theorem d19_59 : decode jdk_2655_method_25_code 59 = .ok (.aload 4, 2) := by decide +kernel
theorem d19_61 : decode jdk_2655_method_25_code 61 = .ok (.aload_n 1, 1) := by decide +kernel
theorem d19_62 : decode jdk_2655_method_25_code 62 = .ok (.iload_n 3, 1) := by decide +kernel
theorem d19_63 : decode jdk_2655_method_25_code 63 = .ok (.invokestatic 125, 3) := by decide +kernel
theorem d19_66 : decode jdk_2655_method_25_code 66 = .ok (.goto 13, 3) := by decide +kernel
theorem d19_69 : decode jdk_2655_method_25_code 69 = .ok (.iconst 0, 1) := by decide +kernel
theorem d19_70 : decode jdk_2655_method_25_code 70 = .ok (.aload 4, 2) := by decide +kernel
theorem d19_72 : decode jdk_2655_method_25_code 72 = .ok (.aload_n 1, 1) := by decide +kernel
theorem d19_73 : decode jdk_2655_method_25_code 73 = .ok (.iload_n 3, 1) := by decide +kernel
theorem d19_74 : decode jdk_2655_method_25_code 74 = .ok (.aload 5, 2) := by decide +kernel
theorem d19_76 : decode jdk_2655_method_25_code 76 = .ok (.invokestatic 129, 3) := by decide +kernel
theorem d19_79 : decode jdk_2655_method_25_code 79 = .ok (.aload_n 2, 1) := by decide +kernel
theorem d19_80 : decode jdk_2655_method_25_code 80 = .ok (.areturn, 1) := by decide +kernel
theorem ef_c_polh1 (m : MethodId) (this : Addr) : entryFrame m #[(.ref this)] 6 = mkF m 0 #[.val (.ref this), .unset, .unset, .unset, .unset, .unset] [] := by first | (simp [entryFrame, mkF, argsToLocals, Value.category]; done) | rfl
set_option maxRecDepth 65536 in
set_option maxHeartbeats 40000000 in
theorem c_polh1 (l : Launch) (Z : State) (a0 : Array Value) (hw : ∀ d ∈ tables_1, d.before a0 Z = true) (this : Addr) (h0 : Heap) (n0 : Nat) (Z0 : n0 ≤ h0.size) (lam : Addr) (cK : ClassId) (P : Addr → Prop) (xs : List Addr) (qa : Addr) (mc : Int32) (y1 : Addr) (E_this : Exa Z h0 this "java/util/PriorityQueue") (F_this_queue : Fld Z h0 this "java/util/PriorityQueue" "queue" "[Ljava/lang/Object;" (.ref qa)) (F_this_comparator : Fld Z h0 this "java/util/PriorityQueue" "comparator" "Ljava/util/Comparator;" (.ref lam)) (F_this_size : Fld Z h0 this "java/util/PriorityQueue" "size" "I" (.int 1)) (F_this_modCount : Fld Z h0 this "java/util/PriorityQueue" "modCount" "I" (.int mc)) (A_qa : Ars Z h0 qa (.object "java/lang/Object") [(.ref y1), .null, .null, .null, .null, .null, .null, .null, .null, .null, .null]) (O_qa : own_Ob Z h0 qa "java/lang/Object") (O_lam : own_Fn Z h0 lam cK) (D_xs : own_DX Z h0 P xs) (g_this : n0 ≤ this) (g_qa : n0 ≤ qa) (ne_this_qa : this ≠ qa) (ne_xs_this : this ∉ xs) (ne_xs_qa : qa ∉ xs) (hy1 : y1 ∈ xs) :
  Ctr l Z (⟨"java/util/PriorityQueue", "poll", "()Ljava/lang/Object;"⟩ : MethodName) jdk_2655_method_25_code 6 (some (.object "java/lang/Object")) ({ frames := 0, cells := 0, slots := 0, locals := 0 } : Room) #[(.ref this)] h0 (fun v h L => v = some (.ref y1) ∧ Fr n0 L ∧ Keep h0 h [this, qa] ∧ Exa Z h this "java/util/PriorityQueue" ∧ Fld Z h this "java/util/PriorityQueue" "queue" "[Ljava/lang/Object;" (.ref qa) ∧ Fld Z h this "java/util/PriorityQueue" "comparator" "Ljava/util/Comparator;" (.ref lam) ∧ Fld Z h this "java/util/PriorityQueue" "size" "I" (.int 0) ∧ Fld Z h this "java/util/PriorityQueue" "modCount" "I" (.int (mc + (1 : Int32))) ∧ Ars Z h qa (.object "java/lang/Object") [.null, .null, .null, .null, .null, .null, .null, .null, .null, .null, .null]) := by
 refine Ctr.of (plainFor_of_name pn_4) (fun m => ef_c_polh1 m this) ?_
 intro p e s m below meth c T0 hx hby hml hown hnm hret hlk hH e0 X0 hnd
 have hZ := hH.wide
 have N0 := Fr.nil n0
 replace hown : s.vm.findClass "java/util/PriorityQueue" = some m.cls := hown
 replace hml : c.maxLocals = 6 := hml
 have KP := Keep.refl h0 [this, qa]
 refine Run.x_aloadN (q := 1) X0 hx (hb hby d19_0) rfl rfl rfl ?_
 refine Run.z_getF (q := 4) X0 hx hZ e0 hown (wm75 hw) F_this_queue (hb hby d19_1) rfl fun T1 X1 e1 => ?_
 refine Run.x_dup (q := 5) X1 hx (hb hby d19_4) rfl rfl ?_
 refine Run.x_astoreN (q := 6) X1 hx #[.val (.ref this), .val (.ref qa), .unset, .unset, .unset, .unset] (hb hby d19_5) rfl rfl rfl ?_
 refine Run.x_iconst (q := 7) X1 hx (hb hby d19_6) (z := (0 : Int32)) rfl rfl ?_
 refine Run.y_ldR (q := 8) X1 hx hZ e1 A_qa (i := 0) (v := (.ref y1)) (by decide) rfl rfl (hb hby d19_7) rfl ?_
 refine Run.x_dup (q := 9) X1 hx (hb hby d19_8) rfl rfl ?_
 refine Run.x_astoreN (q := 10) X1 hx #[.val (.ref this), .val (.ref qa), .val (.ref y1), .unset, .unset, .unset] (hb hby d19_9) rfl rfl rfl ?_
 refine Run.st (B := T1.setTop (mkF m 13 #[.val (.ref this), .val (.ref qa), .val (.ref y1), .unset, .unset, .unset] [])) (fun t kt => XS.ifnullNo X1.here hx rfl (hb hby d19_10) rfl kt) ?_
 refine Run.x_aloadN (q := 14) X1 hx (hb hby d19_13) rfl rfl rfl ?_
 refine Run.x_dup (q := 15) X1 hx (hb hby d19_14) rfl rfl ?_
 refine Run.z_getF (q := 18) X1 hx hZ e1 hown (wm236 hw) F_this_modCount (hb hby d19_15) rfl fun T2 X2 e2 => ?_
 refine Run.x_iconst (q := 19) X2 hx (hb hby d19_18) (z := (1 : Int32)) rfl rfl ?_
 refine Run.x_iadd (q := 20) X2 hx (hb hby d19_19) rfl rfl ?_
 obtain ⟨T3, h3, X3, e3, W3, st3⟩ := putF X2 hx hZ hown (host := "") (Or.inl (wm236 hw)) Via.refl e2 F_this_modCount E_this (Or.inl (wm237 hw)) (wm57 hw) (ty := .int) (by decide) rfl rfl (g := (mkF m 20 #[.val (.ref this), .val (.ref qa), .val (.ref y1), .unset, .unset, .unset] [(.int (mc + (1 : Int32))), (.ref this)])) rfl rfl (hb hby d19_20)
 replace F_this_modCount := F_this_modCount.same W3
 have Z3 : n0 ≤ h3.size := Nat.le_trans Z0 (Nat.le_of_eq W3.size.symm)
 replace KP := KP.wr W3 (Or.inl (by simp))
 have N3 := Fr.snoc X3 N0 g_this
 refine Run.st st3 ?_
 show Run p e below s _ _ _ (T3.setTop (mkF m 23 #[.val (.ref this), .val (.ref qa), .val (.ref y1), .unset, .unset, .unset] []))
 refine Run.x_aloadN (q := 24) X3 hx (hb hby d19_23) rfl rfl rfl ?_
 refine Run.x_aloadN (q := 25) X3 hx (hb hby d19_24) rfl rfl rfl ?_
 refine Run.x_dup (q := 26) X3 hx (hb hby d19_25) rfl rfl ?_
 replace F_this_size := F_this_size.other W3 (Or.inr (slot_ne (Or.inl (wm239 hw)) (Or.inl (wm237 hw)) (by decide) (t := .int) (t' := .int) (by decide) (by decide)))
 refine Run.z_getF (q := 29) X3 hx hZ e3 hown (wm238 hw) F_this_size (hb hby d19_26) rfl fun T4 X4 e4 => ?_
 refine Run.x_iconst (q := 30) X4 hx (hb hby d19_29) (z := (1 : Int32)) rfl rfl ?_
 refine Run.x_isub (q := 31) X4 hx (hb hby d19_30) (z := (0 : Int32)) (by decide) rfl ?_
 refine Run.x_dup_x1 (q := 32) X4 hx (hb hby d19_31) rfl rfl rfl ?_
 replace E_this := E_this.wr W3
 obtain ⟨T5, h5, X5, e5, W5, st5⟩ := putF X4 hx hZ hown (host := "") (Or.inl (wm238 hw)) Via.refl e4 F_this_size E_this (Or.inl (wm239 hw)) (wm57 hw) (ty := .int) (by decide) rfl rfl (g := (mkF m 32 #[.val (.ref this), .val (.ref qa), .val (.ref y1), .unset, .unset, .unset] [(.int 0), (.ref this), (.int 0), (.ref qa)])) rfl rfl (hb hby d19_32)
 replace F_this_size := F_this_size.same W5
 have Z5 : n0 ≤ h5.size := Nat.le_trans Z3 (Nat.le_of_eq W5.size.symm)
 replace KP := KP.wr W5 (Or.inl (by simp))
 have N5 := Fr.snoc X5 N3 g_this
 refine Run.st st5 ?_
 show Run p e below s _ _ _ (T5.setTop (mkF m 35 #[.val (.ref this), .val (.ref qa), .val (.ref y1), .unset, .unset, .unset] [(.int 0), (.ref qa)]))
 refine Run.x_dup (q := 36) X5 hx (hb hby d19_35) rfl rfl ?_
 refine Run.x_istoreN (q := 37) X5 hx #[.val (.ref this), .val (.ref qa), .val (.ref y1), .val (.int 0), .unset, .unset] (hb hby d19_36) rfl rfl ?_
 replace A_qa := (A_qa.other W3 (Ne.symm ne_this_qa)).other W5 (Ne.symm ne_this_qa)
 refine Run.y_ldR (q := 38) X5 hx hZ e5 A_qa (i := 0) (v := (.ref y1)) (by decide) rfl rfl (hb hby d19_37) rfl ?_
 refine Run.x_astore (q := 40) X5 hx #[.val (.ref this), .val (.ref qa), .val (.ref y1), .val (.int 0), .val (.ref y1), .unset] (hb hby d19_38) rfl rfl rfl ?_
 refine Run.x_aloadN (q := 41) X5 hx (hb hby d19_40) rfl rfl rfl ?_
 refine Run.x_iloadN (q := 42) X5 hx (hb hby d19_41) rfl rfl ?_
 refine Run.x_null (q := 43) X5 hx (hb hby d19_42)  rfl ?_
 refine Run.y_stR (q := 44) X5 hx hZ e5 A_qa (i := 0) (by decide) (Nat.le_of_ble_eq_true rfl) rfl (Or.inl rfl) (hb hby d19_43) rfl fun T6 h6 X6 e6 W6 A6 => ?_
 replace A_qa : Ars Z h6 qa (.object "java/lang/Object") [.null, .null, .null, .null, .null, .null, .null, .null, .null, .null, .null] := A6
 replace KP := KP.wr W6 (Or.inl (by simp))
 have N6 := Fr.snoc X6 N5 g_qa
 have Z6 : n0 ≤ h6.size := Nat.le_trans Z5 (Nat.le_of_eq W6.size.symm)
 refine Run.x_iloadN (q := 45) X6 hx (hb hby d19_44) rfl rfl ?_
 refine Run.x_ifYes (q := 79) X6 hx (hb hby d19_45) ((if0 _ _).trans (flt (by decide : ¬ ((0 : Int32) < (0 : Int32)))).2.2.2) (by decide) (by decide) ?_
 refine Run.x_aloadN (q := 80) X6 hx (hb hby d19_79) rfl rfl rfl ?_
 replace E_this := (E_this.wr W5).wr W6
 replace F_this_queue := ((F_this_queue.other W3 (Or.inr (slot_ne (Or.inl (wm76 hw)) (Or.inl (wm237 hw)) (by decide) (t := (.array (.object "java/lang/Object"))) (t' := .int) (by decide) (by decide)))).other W5 (Or.inr (slot_ne (Or.inl (wm76 hw)) (Or.inl (wm239 hw)) (by decide) (t := (.array (.object "java/lang/Object"))) (t' := .int) (by decide) (by decide)))).other W6 (Or.inl ne_this_qa)
 replace F_this_comparator := ((F_this_comparator.other W3 (Or.inr (slot_ne (Or.inr (wm78 hw)) (Or.inl (wm237 hw)) (by decide) (t := (.object "java/util/Comparator")) (t' := .int) (by decide) (by decide)))).other W5 (Or.inr (slot_ne (Or.inr (wm78 hw)) (Or.inl (wm239 hw)) (by decide) (t := (.object "java/util/Comparator")) (t' := .int) (by decide) (by decide)))).other W6 (Or.inl ne_this_qa)
 replace F_this_size := F_this_size.other W6 (Or.inl ne_this_qa)
 replace F_this_modCount := (F_this_modCount.other W5 (Or.inr (slot_ne (Or.inl (wm237 hw)) (Or.inl (wm239 hw)) (by decide) (t := .int) (t' := .int) (by decide) (by decide)))).other W6 (Or.inl ne_this_qa)
 replace O_qa := ((O_qa.wr W3).wr W5).wr W6
 replace O_lam := ((O_lam.wr W3).wr W5).wr W6
 replace D_xs := ((D_xs.other W3 ne_xs_this).other W5 ne_xs_this).other W6 ne_xs_qa
 refine Run.retA X6 hx hlk e6 (t := (.object "java/lang/Object")) hret rfl rfl rfl (hb hby d19_80) (by decide) (by decide) ?_
 exact ⟨rfl, N6, KP, E_this, F_this_queue, F_this_comparator, F_this_size, F_this_modCount, A_qa⟩
theorem ef_c_polh2 (m : MethodId) (this : Addr) : entryFrame m #[(.ref this)] 6 = mkF m 0 #[.val (.ref this), .unset, .unset, .unset, .unset, .unset] [] := by first | (simp [entryFrame, mkF, argsToLocals, Value.category]; done) | rfl
theorem wm254 {a0 : Array Value} {Z : State} (hw : ∀ d ∈ tables_1, d.before a0 Z = true) : (Jvm.Cond.methodLink "java/util/PriorityQueue" (129 : Nat) ({ cls := "java/util/PriorityQueue", name := "siftDownUsingComparator", desc := "(ILjava/lang/Object;[Ljava/lang/Object;ILjava/util/Comparator;)V" } : Jvm.MethodName)).before a0 Z = true := hw _ (List.mem_of_getElem? (i := 254) rfl)
theorem wm256 {a0 : Array Value} {Z : State} (hw : ∀ d ∈ tables_1, d.before a0 Z = true) : (Jvm.Cond.code ({ cls := "java/util/PriorityQueue", name := "siftDownUsingComparator", desc := "(ILjava/lang/Object;[Ljava/lang/Object;ILjava/util/Comparator;)V" } : Jvm.MethodName) jdk_2655_method_32_code (9 : Nat) (Option.none : Option Jvm.ClassFile.FieldType)).before a0 Z = true := hw _ (List.mem_of_getElem? (i := 256) rfl)
theorem pd_7 : parseMethodDescriptor "(ILjava/lang/Object;[Ljava/lang/Object;ILjava/util/Comparator;)V" = some ⟨[.int, (.object "java/lang/Object"), (.array (.object "java/lang/Object")), .int, (.object "java/util/Comparator")], none⟩ := by decide +kernel
theorem wm255 {a0 : Array Value} {Z : State} (hw : ∀ d ∈ tables_1, d.before a0 Z = true) : (Jvm.Cond.static ({ cls := "java/util/PriorityQueue", name := "siftDownUsingComparator", desc := "(ILjava/lang/Object;[Ljava/lang/Object;ILjava/util/Comparator;)V" } : Jvm.MethodName)).before a0 Z = true := hw _ (List.mem_of_getElem? (i := 255) rfl)
set_option maxRecDepth 65536 in
set_option maxHeartbeats 40000000 in
theorem c_polh2 (l : Launch) (Z : State) (a0 : Array Value) (hw : ∀ d ∈ tables_1, d.before a0 Z = true) (this : Addr) (h0 : Heap) (n0 : Nat) (Z0 : n0 ≤ h0.size) (lam : Addr) (cK : ClassId) (P : Addr → Prop) (xs : List Addr) (qa : Addr) (mc : Int32) (y1 : Addr) (y2 : Addr) (E_this : Exa Z h0 this "java/util/PriorityQueue") (F_this_queue : Fld Z h0 this "java/util/PriorityQueue" "queue" "[Ljava/lang/Object;" (.ref qa)) (F_this_comparator : Fld Z h0 this "java/util/PriorityQueue" "comparator" "Ljava/util/Comparator;" (.ref lam)) (F_this_size : Fld Z h0 this "java/util/PriorityQueue" "size" "I" (.int 2)) (F_this_modCount : Fld Z h0 this "java/util/PriorityQueue" "modCount" "I" (.int mc)) (A_qa : Ars Z h0 qa (.object "java/lang/Object") [(.ref y1), (.ref y2), .null, .null, .null, .null, .null, .null, .null, .null, .null]) (O_qa : own_Ob Z h0 qa "java/lang/Object") (O_lam : own_Fn Z h0 lam cK) (D_xs : own_DX Z h0 P xs) (g_this : n0 ≤ this) (g_qa : n0 ≤ qa) (ne_this_qa : this ≠ qa) (ne_xs_this : this ∉ xs) (ne_xs_qa : qa ∉ xs) (hy1 : y1 ∈ xs) (hy2 : y2 ∈ xs) :
  Ctr l Z (⟨"java/util/PriorityQueue", "poll", "()Ljava/lang/Object;"⟩ : MethodName) jdk_2655_method_25_code 6 (some (.object "java/lang/Object")) ({ frames := 1, cells := 0, slots := 0, locals := 20 } : Room) #[(.ref this)] h0 (fun v h L => v = some (.ref y1) ∧ Fr n0 L ∧ Keep h0 h [this, qa] ∧ Exa Z h this "java/util/PriorityQueue" ∧ Fld Z h this "java/util/PriorityQueue" "queue" "[Ljava/lang/Object;" (.ref qa) ∧ Fld Z h this "java/util/PriorityQueue" "comparator" "Ljava/util/Comparator;" (.ref lam) ∧ Fld Z h this "java/util/PriorityQueue" "size" "I" (.int 1) ∧ Fld Z h this "java/util/PriorityQueue" "modCount" "I" (.int (mc + (1 : Int32))) ∧ Ars Z h qa (.object "java/lang/Object") [(.ref y2), .null, .null, .null, .null, .null, .null, .null, .null, .null, .null]) := by
 refine Ctr.of (plainFor_of_name pn_4) (fun m => ef_c_polh2 m this) ?_
 intro p e s m below meth c T0 hx hby hml hown hnm hret hlk hH e0 X0 hnd
 have hZ := hH.wide
 have N0 := Fr.nil n0
 replace hown : s.vm.findClass "java/util/PriorityQueue" = some m.cls := hown
 replace hml : c.maxLocals = 6 := hml
 have KP := Keep.refl h0 [this, qa]
 refine Run.x_aloadN (q := 1) X0 hx (hb hby d19_0) rfl rfl rfl ?_
 refine Run.z_getF (q := 4) X0 hx hZ e0 hown (wm75 hw) F_this_queue (hb hby d19_1) rfl fun T1 X1 e1 => ?_
 refine Run.x_dup (q := 5) X1 hx (hb hby d19_4) rfl rfl ?_
 refine Run.x_astoreN (q := 6) X1 hx #[.val (.ref this), .val (.ref qa), .unset, .unset, .unset, .unset] (hb hby d19_5) rfl rfl rfl ?_
 refine Run.x_iconst (q := 7) X1 hx (hb hby d19_6) (z := (0 : Int32)) rfl rfl ?_
 refine Run.y_ldR (q := 8) X1 hx hZ e1 A_qa (i := 0) (v := (.ref y1)) (by decide) rfl rfl (hb hby d19_7) rfl ?_
 refine Run.x_dup (q := 9) X1 hx (hb hby d19_8) rfl rfl ?_
 refine Run.x_astoreN (q := 10) X1 hx #[.val (.ref this), .val (.ref qa), .val (.ref y1), .unset, .unset, .unset] (hb hby d19_9) rfl rfl rfl ?_
 refine Run.st (B := T1.setTop (mkF m 13 #[.val (.ref this), .val (.ref qa), .val (.ref y1), .unset, .unset, .unset] [])) (fun t kt => XS.ifnullNo X1.here hx rfl (hb hby d19_10) rfl kt) ?_
 refine Run.x_aloadN (q := 14) X1 hx (hb hby d19_13) rfl rfl rfl ?_
 refine Run.x_dup (q := 15) X1 hx (hb hby d19_14) rfl rfl ?_
 refine Run.z_getF (q := 18) X1 hx hZ e1 hown (wm236 hw) F_this_modCount (hb hby d19_15) rfl fun T2 X2 e2 => ?_
 refine Run.x_iconst (q := 19) X2 hx (hb hby d19_18) (z := (1 : Int32)) rfl rfl ?_
 refine Run.x_iadd (q := 20) X2 hx (hb hby d19_19) rfl rfl ?_
 obtain ⟨T3, h3, X3, e3, W3, st3⟩ := putF X2 hx hZ hown (host := "") (Or.inl (wm236 hw)) Via.refl e2 F_this_modCount E_this (Or.inl (wm237 hw)) (wm57 hw) (ty := .int) (by decide) rfl rfl (g := (mkF m 20 #[.val (.ref this), .val (.ref qa), .val (.ref y1), .unset, .unset, .unset] [(.int (mc + (1 : Int32))), (.ref this)])) rfl rfl (hb hby d19_20)
 replace F_this_modCount := F_this_modCount.same W3
 have Z3 : n0 ≤ h3.size := Nat.le_trans Z0 (Nat.le_of_eq W3.size.symm)
 replace KP := KP.wr W3 (Or.inl (by simp))
 have N3 := Fr.snoc X3 N0 g_this
 refine Run.st st3 ?_
 show Run p e below s _ _ _ (T3.setTop (mkF m 23 #[.val (.ref this), .val (.ref qa), .val (.ref y1), .unset, .unset, .unset] []))
 refine Run.x_aloadN (q := 24) X3 hx (hb hby d19_23) rfl rfl rfl ?_
 refine Run.x_aloadN (q := 25) X3 hx (hb hby d19_24) rfl rfl rfl ?_
 refine Run.x_dup (q := 26) X3 hx (hb hby d19_25) rfl rfl ?_
 replace F_this_size := F_this_size.other W3 (Or.inr (slot_ne (Or.inl (wm239 hw)) (Or.inl (wm237 hw)) (by decide) (t := .int) (t' := .int) (by decide) (by decide)))
 refine Run.z_getF (q := 29) X3 hx hZ e3 hown (wm238 hw) F_this_size (hb hby d19_26) rfl fun T4 X4 e4 => ?_
 refine Run.x_iconst (q := 30) X4 hx (hb hby d19_29) (z := (1 : Int32)) rfl rfl ?_
 refine Run.x_isub (q := 31) X4 hx (hb hby d19_30) (z := (1 : Int32)) (by decide) rfl ?_
 refine Run.x_dup_x1 (q := 32) X4 hx (hb hby d19_31) rfl rfl rfl ?_
 replace E_this := E_this.wr W3
 obtain ⟨T5, h5, X5, e5, W5, st5⟩ := putF X4 hx hZ hown (host := "") (Or.inl (wm238 hw)) Via.refl e4 F_this_size E_this (Or.inl (wm239 hw)) (wm57 hw) (ty := .int) (by decide) rfl rfl (g := (mkF m 32 #[.val (.ref this), .val (.ref qa), .val (.ref y1), .unset, .unset, .unset] [(.int 1), (.ref this), (.int 1), (.ref qa)])) rfl rfl (hb hby d19_32)
 replace F_this_size := F_this_size.same W5
 have Z5 : n0 ≤ h5.size := Nat.le_trans Z3 (Nat.le_of_eq W5.size.symm)
 replace KP := KP.wr W5 (Or.inl (by simp))
 have N5 := Fr.snoc X5 N3 g_this
 refine Run.st st5 ?_
 show Run p e below s _ _ _ (T5.setTop (mkF m 35 #[.val (.ref this), .val (.ref qa), .val (.ref y1), .unset, .unset, .unset] [(.int 1), (.ref qa)]))
 refine Run.x_dup (q := 36) X5 hx (hb hby d19_35) rfl rfl ?_
 refine Run.x_istoreN (q := 37) X5 hx #[.val (.ref this), .val (.ref qa), .val (.ref y1), .val (.int 1), .unset, .unset] (hb hby d19_36) rfl rfl ?_
 replace A_qa := (A_qa.other W3 (Ne.symm ne_this_qa)).other W5 (Ne.symm ne_this_qa)
 refine Run.y_ldR (q := 38) X5 hx hZ e5 A_qa (i := 1) (v := (.ref y2)) (by decide) rfl rfl (hb hby d19_37) rfl ?_
 refine Run.x_astore (q := 40) X5 hx #[.val (.ref this), .val (.ref qa), .val (.ref y1), .val (.int 1), .val (.ref y2), .unset] (hb hby d19_38) rfl rfl rfl ?_
 refine Run.x_aloadN (q := 41) X5 hx (hb hby d19_40) rfl rfl rfl ?_
 refine Run.x_iloadN (q := 42) X5 hx (hb hby d19_41) rfl rfl ?_
 refine Run.x_null (q := 43) X5 hx (hb hby d19_42)  rfl ?_
 refine Run.y_stR (q := 44) X5 hx hZ e5 A_qa (i := 1) (by decide) (Nat.le_of_ble_eq_true rfl) rfl (Or.inl rfl) (hb hby d19_43) rfl fun T6 h6 X6 e6 W6 A6 => ?_
 replace A_qa : Ars Z h6 qa (.object "java/lang/Object") [(.ref y1), .null, .null, .null, .null, .null, .null, .null, .null, .null, .null] := A6
 replace KP := KP.wr W6 (Or.inl (by simp))
 have N6 := Fr.snoc X6 N5 g_qa
 have Z6 : n0 ≤ h6.size := Nat.le_trans Z5 (Nat.le_of_eq W6.size.symm)
 refine Run.x_iloadN (q := 45) X6 hx (hb hby d19_44) rfl rfl ?_
 refine Run.x_ifNo (q := 48) X6 hx (hb hby d19_45) ((if0 _ _).trans (tlt (by decide : (0 : Int32) < (1 : Int32))).2.2.2) rfl ?_
 refine Run.x_aloadN (q := 49) X6 hx (hb hby d19_48) rfl rfl rfl ?_
 replace F_this_comparator := ((F_this_comparator.other W3 (Or.inr (slot_ne (Or.inr (wm78 hw)) (Or.inl (wm237 hw)) (by decide) (t := (.object "java/util/Comparator")) (t' := .int) (by decide) (by decide)))).other W5 (Or.inr (slot_ne (Or.inr (wm78 hw)) (Or.inl (wm239 hw)) (by decide) (t := (.object "java/util/Comparator")) (t' := .int) (by decide) (by decide)))).other W6 (Or.inl ne_this_qa)
 refine Run.z_getF (q := 52) X6 hx hZ e6 hown (wm77 hw) F_this_comparator (hb hby d19_49) rfl fun T7 X7 e7 => ?_
 refine Run.x_dup (q := 53) X7 hx (hb hby d19_52) rfl rfl ?_
 refine Run.x_astore (q := 55) X7 hx #[.val (.ref this), .val (.ref qa), .val (.ref y1), .val (.int 1), .val (.ref y2), .val (.ref lam)] (hb hby d19_53) rfl rfl rfl ?_
 refine Run.st (B := T7.setTop (mkF m 69 #[.val (.ref this), .val (.ref qa), .val (.ref y1), .val (.int 1), .val (.ref y2), .val (.ref lam)] [])) (fun t kt => XS.ifnonnullYes X7.here hx rfl (pc0 := 55) (pc' := 69) rfl (hb hby d19_55) rfl (by decide) (by decide) kt) ?_
 refine Run.x_iconst (q := 70) X7 hx (hb hby d19_69) (z := (0 : Int32)) rfl rfl ?_
 refine Run.x_aload (q := 72) X7 hx (hb hby d19_70) rfl rfl rfl ?_
 refine Run.x_aloadN (q := 73) X7 hx (hb hby d19_72) rfl rfl rfl ?_
 refine Run.x_iloadN (q := 74) X7 hx (hb hby d19_73) rfl rfl ?_
 refine Run.x_aload (q := 76) X7 hx (hb hby d19_74) rfl rfl rfl ?_
 replace O_qa := ((O_qa.wr W3).wr W5).wr W6
 replace O_lam := ((O_lam.wr W3).wr W5).wr W6
 replace D_xs := ((D_xs.other W3 ne_xs_this).other W5 ne_xs_this).other W6 ne_xs_qa
 refine Run.callS X7 hx hH e7 (y := (⟨"java/util/PriorityQueue", "siftDownUsingComparator", "(ILjava/lang/Object;[Ljava/lang/Object;ILjava/util/Comparator;)V"⟩ : MethodName)) hown (wm254 hw) (wm255 hw) (wm58 hw) (wm256 hw) (by decide) (argsL := [(.int 0), (.ref y2), (.ref qa), (.int 1), (.ref lam)]) (rest := []) (c_sdc l Z a0 hw y2 qa lam h6 n0 Z6 cK P xs y1 A_qa O_qa O_lam D_xs g_qa ne_xs_qa hy1 hy2) pd_7 rfl (by rw [hml]; rfl) (W := 0) rfl (by decide) (by decide) (by decide) (by decide) (hb hby d19_76) rfl ?_
 intro T8 v8 L8 X8 q8
 obtain ⟨rfl, M8, K8, Aq8⟩ := q8
 have N8 := Fr.app N6 M8
 show Run p e below s _ _ _ (T8.setTop (mkF m 79 #[.val (.ref this), .val (.ref qa), .val (.ref y1), .val (.int 1), .val (.ref y2), .val (.ref lam)] []))
 have Z8 : n0 ≤ T8.heap.size := Nat.le_trans Z6 K8.1
 replace KP := KP.trans K8 (allS (Or.inl (by simp)) all0)
 refine Run.x_aloadN (q := 80) X8 hx (hb hby d19_79) rfl rfl rfl ?_
 replace E_this := ((E_this.wr W5).wr W6).keep K8
 replace F_this_queue := (((F_this_queue.other W3 (Or.inr (slot_ne (Or.inl (wm76 hw)) (Or.inl (wm237 hw)) (by decide) (t := (.array (.object "java/lang/Object"))) (t' := .int) (by decide) (by decide)))).other W5 (Or.inr (slot_ne (Or.inl (wm76 hw)) (Or.inl (wm239 hw)) (by decide) (t := (.array (.object "java/lang/Object"))) (t' := .int) (by decide) (by decide)))).other W6 (Or.inl ne_this_qa)).keep K8 (ninS ne_this_qa nin0)
 replace F_this_comparator := F_this_comparator.keep K8 (ninS ne_this_qa nin0)
 replace F_this_size := (F_this_size.other W6 (Or.inl ne_this_qa)).keep K8 (ninS ne_this_qa nin0)
 replace F_this_modCount := ((F_this_modCount.other W5 (Or.inr (slot_ne (Or.inl (wm237 hw)) (Or.inl (wm239 hw)) (by decide) (t := .int) (t' := .int) (by decide) (by decide)))).other W6 (Or.inl ne_this_qa)).keep K8 (ninS ne_this_qa nin0)
 replace O_qa := O_qa.keep K8
 replace O_lam := O_lam.keep K8
 replace D_xs := D_xs.keep K8 (own_dnS ne_xs_qa own_dn0)
 refine Run.retA X8 hx hlk rfl (t := (.object "java/lang/Object")) hret rfl rfl rfl (hb hby d19_80) (by decide) (by decide) ?_
 exact ⟨rfl, N8, KP, E_this, F_this_queue, F_this_comparator, F_this_size, F_this_modCount, Aq8⟩
theorem d20_0 : decode jdk_2655_method_15_code 0 = .ok (.aload_n 0, 1) := by decide +kernel
theorem d20_1 : decode jdk_2655_method_15_code 1 = .ok (.getfield 17, 3) := by decide +kernel
theorem d20_4 : decode jdk_2655_method_15_code 4 = .ok (.iconst 0, 1) := by decide +kernel
theorem d20_5 : decode jdk_2655_method_15_code 5 = .ok (.aaload, 1) := by decide +kernel
theorem d20_6 : decode jdk_2655_method_15_code 6 = .ok (.areturn, 1) := by decide +kernel
theorem ef_c_pkh_n (m : MethodId) (this : Addr) : entryFrame m #[(.ref this)] 1 = mkF m 0 #[.val (.ref this)] [] := by first | (simp [entryFrame, mkF, argsToLocals, Value.category]; done) | rfl
set_option maxRecDepth 65536 in
set_option maxHeartbeats 40000000 in
theorem c_pkh_n (l : Launch) (Z : State) (a0 : Array Value) (hw : ∀ d ∈ tables_1, d.before a0 Z = true) (this : Addr) (h0 : Heap) (n0 : Nat) (Z0 : n0 ≤ h0.size) (qa : Addr) (us : List Value) (E_this : Exa Z h0 this "java/util/PriorityQueue") (F_this_queue : Fld Z h0 this "java/util/PriorityQueue" "queue" "[Ljava/lang/Object;" (.ref qa)) (A_qa : Ars Z h0 qa (.object "java/lang/Object") us) (hv : us[0]? = some .null) :
  Ctr l Z (⟨"java/util/PriorityQueue", "peek", "()Ljava/lang/Object;"⟩ : MethodName) jdk_2655_method_15_code 1 (some (.object "java/lang/Object")) ({ frames := 0, cells := 0, slots := 0, locals := 0 } : Room) #[(.ref this)] h0 (PureR h0 n0 .null) := by
 refine Ctr.of (plainFor_of_name pn_4) (fun m => ef_c_pkh_n m this) ?_
 intro p e s m below meth c T0 hx hby hml hown hnm hret hlk hH e0 X0 hnd
 have hZ := hH.wide
 have N0 := Fr.nil n0
 replace hown : s.vm.findClass "java/util/PriorityQueue" = some m.cls := hown
 replace hml : c.maxLocals = 1 := hml
 refine Run.x_aloadN (q := 1) X0 hx (hb hby d20_0) rfl rfl rfl ?_
 refine Run.z_getF (q := 4) X0 hx hZ e0 hown (wm75 hw) F_this_queue (hb hby d20_1) rfl fun T1 X1 e1 => ?_
 refine Run.x_iconst (q := 5) X1 hx (hb hby d20_4) (z := (0 : Int32)) rfl rfl ?_
 refine Run.y_ldR (q := 6) X1 hx hZ e1 A_qa (i := 0) (v := .null) (by decide) hv rfl (hb hby d20_5) rfl ?_
 refine Run.retA X1 hx hlk e1 (t := (.object "java/lang/Object")) hret rfl rfl rfl (hb hby d20_6) (by decide) (by decide) ?_
 exact ⟨rfl, N0, rfl⟩
theorem ef_c_pkh_r (m : MethodId) (this : Addr) : entryFrame m #[(.ref this)] 1 = mkF m 0 #[.val (.ref this)] [] := by first | (simp [entryFrame, mkF, argsToLocals, Value.category]; done) | rfl
set_option maxRecDepth 65536 in
set_option maxHeartbeats 40000000 in
theorem c_pkh_r (l : Launch) (Z : State) (a0 : Array Value) (hw : ∀ d ∈ tables_1, d.before a0 Z = true) (this : Addr) (h0 : Heap) (n0 : Nat) (Z0 : n0 ≤ h0.size) (qa : Addr) (us : List Value) (x : Addr) (E_this : Exa Z h0 this "java/util/PriorityQueue") (F_this_queue : Fld Z h0 this "java/util/PriorityQueue" "queue" "[Ljava/lang/Object;" (.ref qa)) (A_qa : Ars Z h0 qa (.object "java/lang/Object") us) (hv : us[0]? = some (.ref x)) :
  Ctr l Z (⟨"java/util/PriorityQueue", "peek", "()Ljava/lang/Object;"⟩ : MethodName) jdk_2655_method_15_code 1 (some (.object "java/lang/Object")) ({ frames := 0, cells := 0, slots := 0, locals := 0 } : Room) #[(.ref this)] h0 (PureR h0 n0 (.ref x)) := by
 refine Ctr.of (plainFor_of_name pn_4) (fun m => ef_c_pkh_r m this) ?_
 intro p e s m below meth c T0 hx hby hml hown hnm hret hlk hH e0 X0 hnd
 have hZ := hH.wide
 have N0 := Fr.nil n0
 replace hown : s.vm.findClass "java/util/PriorityQueue" = some m.cls := hown
 replace hml : c.maxLocals = 1 := hml
 refine Run.x_aloadN (q := 1) X0 hx (hb hby d20_0) rfl rfl rfl ?_
 refine Run.z_getF (q := 4) X0 hx hZ e0 hown (wm75 hw) F_this_queue (hb hby d20_1) rfl fun T1 X1 e1 => ?_
 refine Run.x_iconst (q := 5) X1 hx (hb hby d20_4) (z := (0 : Int32)) rfl rfl ?_
 refine Run.y_ldR (q := 6) X1 hx hZ e1 A_qa (i := 0) (v := (.ref x)) (by decide) hv rfl (hb hby d20_5) rfl ?_
 refine Run.retA X1 hx hlk e1 (t := (.object "java/lang/Object")) hret rfl rfl rfl (hb hby d20_6) (by decide) (by decide) ?_
 exact ⟨rfl, N0, rfl⟩
theorem own_lastN {xs : List Addr} {vs : List Value} {hv tv : Int32} {hd tl : Nat} (r : own_rv xs vs hv tv hd tl) (e : hd = tl) : ∃ (dz : Int32) (ii : Nat), own_dec tv (17 : Int32) = dz ∧ dz.toInt = ii ∧ vs[ii]? = some .null := by
 obtain ⟨h1, h2, h3, h4, h5, h6, h7⟩ := r
 cases tl with
 | zero =>
  have q := own_0 h2
  subst q
  exact ⟨16, 16, by decide, by decide, h7 16 (by decide) (by omega)⟩
 | succ t => exact ⟨_, t, rfl, by rw [own_decP h2 (by omega)]; exact own_dec1 h2 (by omega), h7 t (by omega) (by omega)⟩
theorem own_lastR {xs : List Addr} {vs : List Value} {hv tv : Int32} {hd tl : Nat} (r : own_rv xs vs hv tv hd tl) (e : ¬ hd = tl) : ∃ (t : Nat) (x : Addr) (dz : Int32), x ∈ xs ∧ tl = t + 1 ∧ hd ≤ t ∧ t < 17 ∧ own_dec tv (17 : Int32) = dz ∧ dz.toInt = t ∧ vs[t]? = some (.ref x) ∧ own_rv xs (vs.set t .null) hv dz hd t := by
 obtain ⟨t, rfl⟩ : ∃ t, tl = t + 1 := ⟨tl - 1, by have := r.2.2.1; omega⟩
 have r' := r
 obtain ⟨h1, h2, h3, h4, h5, h6, h7⟩ := r
 obtain ⟨x, hx, hq⟩ := h6 t (by omega) (by omega)
 have e2 := own_decP (n := 17) h2 (by omega)
 exact ⟨t, x, _, hx, rfl, by omega, by omega, e2, own_dec1 h2 (by omega), hq, own_rv_last r' (by omega)⟩
theorem own_firstN {xs : List Addr} {vs : List Value} {hv tv : Int32} {hd tl : Nat} (r : own_rv xs vs hv tv hd tl) (e : hd = tl) : vs[hd]? = some .null := r.2.2.2.2.2.2 hd (by have := r.2.2.1; have := r.2.2.2.1; omega) (by omega)
theorem own_firstR {xs : List Addr} {vs : List Value} {hv tv : Int32} {hd tl : Nat} (r : own_rv xs vs hv tv hd tl) (e : ¬ hd = tl) : ∃ x ∈ xs, vs[hd]? = some (.ref x) := r.2.2.2.2.2.1 hd (by omega) (by have := r.2.2.1; omega)
theorem own_lt17 {i : Int32} {n : Nat} (h : i.toInt = n) (q : n ≤ 8) : (i + (1 : Int32)) < (17 : Int32) := by
 rw [lt32, own_one h (by omega)]
 have : (17 : Int32).toInt = 17 := rfl
 omega
theorem own_neT1 {i j : Int32} {n m : Nat} (h : i.toInt = n) (h' : j.toInt = m) (q : n ≤ m) (q' : m ≤ 8) : ¬ i = (j + (1 : Int32)) := fun e => by
 have := own_one h' (by omega)
 rw [← e, h] at this
 omega
theorem own_pn : (0 : Int32).toInt.toNat = 0 ∧ (1 : Int32).toInt.toNat = 1 ∧ (2 : Int32).toInt.toNat = 2 := by decide
theorem d21_0 : decode prog_15_method_3_code 0 = .ok (.aload_n 0, 1) := by decide +kernel
theorem d21_1 : decode prog_15_method_3_code 1 = .ok (.getfield 10, 3) := by decide +kernel
theorem d21_4 : decode prog_15_method_3_code 4 = .ok (.invokevirtual 44, 3) := by decide +kernel
theorem d21_7 : decode prog_15_method_3_code 7 = .ok (.astore_n 2, 1) := by decide +kernel
theorem d21_8 : decode prog_15_method_3_code 8 = .ok (.aload_n 2, 1) := by decide +kernel
theorem d21_9 : decode prog_15_method_3_code 9 = .ok (.ifnull 21, 3) := by decide +kernel
theorem d21_12 : decode prog_15_method_3_code 12 = .ok (.aload_n 0, 1) := by decide +kernel
theorem d21_13 : decode prog_15_method_3_code 13 = .ok (.getfield 16, 3) := by decide +kernel
theorem d21_16 : decode prog_15_method_3_code 16 = .ok (.aload_n 1, 1) := by decide +kernel
theorem d21_17 : decode prog_15_method_3_code 17 = .ok (.aload_n 2, 1) := by decide +kernel
theorem d21_18 : decode prog_15_method_3_code 18 = .ok (.invokeinterface 47 3, 5) := by decide +kernel
theorem d21_23 : decode prog_15_method_3_code 23 = .ok (.ifCond .ge 7, 3) := by decide +kernel
theorem d21_26 : decode prog_15_method_3_code 26 = .ok (.iconst 1, 1) := by decide +kernel
theorem d21_27 : decode prog_15_method_3_code 27 = .ok (.goto 4, 3) := by decide +kernel
theorem d21_30 : decode prog_15_method_3_code 30 = .ok (.iconst 0, 1) := by decide +kernel
theorem d21_31 : decode prog_15_method_3_code 31 = .ok (.ireturn, 1) := by decide +kernel
theorem pn_5 : plainName "com/example/framewheel/framewheel/core/TimeOrderedQueue" = true := by first | (simp [plainName, overriddenIn]; done) | decide +kernel
theorem ef_c_obl_n (m : MethodId) (this : Addr) (ux : Addr) : entryFrame m #[(.ref this), (.ref ux)] 3 = mkF m 0 #[.val (.ref this), .val (.ref ux), .unset] [] := by first | (simp [entryFrame, mkF, argsToLocals, Value.category]; done) | rfl
theorem wm52 {a0 : Array Value} {Z : State} (hw : ∀ d ∈ tables_1, d.before a0 Z = true) : (Jvm.Cond.fieldLink "com/example/framewheel/framewheel/core/TimeOrderedQueue" (10 : Nat) "com/example/framewheel/framewheel/core/TimeOrderedQueue" "run" "Ljava/util/ArrayDeque;").before a0 Z = true := hw _ (List.mem_of_getElem? (i := 52) rfl)
theorem wm142 {a0 : Array Value} {Z : State} (hw : ∀ d ∈ tables_1, d.before a0 Z = true) : (Jvm.Cond.methodLink "com/example/framewheel/framewheel/core/TimeOrderedQueue" (44 : Nat) ({ cls := "java/util/ArrayDeque", name := "peekLast", desc := "()Ljava/lang/Object;" } : Jvm.MethodName)).before a0 Z = true := hw _ (List.mem_of_getElem? (i := 142) rfl)
theorem wm146 {a0 : Array Value} {Z : State} (hw : ∀ d ∈ tables_1, d.before a0 Z = true) : (Jvm.Cond.code ({ cls := "java/util/ArrayDeque", name := "peekLast", desc := "()Ljava/lang/Object;" } : Jvm.MethodName) jdk_21_method_25_code (2 : Nat) (Option.some (Jvm.ClassFile.FieldType.object "java/lang/Object"))).before a0 Z = true := hw _ (List.mem_of_getElem? (i := 146) rfl)
theorem pd_8 : parseMethodDescriptor "()Ljava/lang/Object;" = some ⟨[], some (.object "java/lang/Object")⟩ := by decide +kernel
theorem wm145 {a0 : Array Value} {Z : State} (hw : ∀ d ∈ tables_1, d.before a0 Z = true) : (Jvm.Cond.selects "java/util/ArrayDeque" ({ cls := "java/util/ArrayDeque", name := "peekLast", desc := "()Ljava/lang/Object;" } : Jvm.MethodName) ({ cls := "java/util/ArrayDeque", name := "peekLast", desc := "()Ljava/lang/Object;" } : Jvm.MethodName)).before a0 Z = true := hw _ (List.mem_of_getElem? (i := 145) rfl)
theorem wm143 {a0 : Array Value} {Z : State} (hw : ∀ d ∈ tables_1, d.before a0 Z = true) : (Jvm.Cond.declares ({ cls := "java/util/ArrayDeque", name := "peekLast", desc := "()Ljava/lang/Object;" } : Jvm.MethodName)).before a0 Z = true := hw _ (List.mem_of_getElem? (i := 143) rfl)
theorem wm144 {a0 : Array Value} {Z : State} (hw : ∀ d ∈ tables_1, d.before a0 Z = true) : (Jvm.Cond.instanceMethod ({ cls := "java/util/ArrayDeque", name := "peekLast", desc := "()Ljava/lang/Object;" } : Jvm.MethodName)).before a0 Z = true := hw _ (List.mem_of_getElem? (i := 144) rfl)
set_option maxRecDepth 65536 in
set_option maxHeartbeats 40000000 in
theorem c_obl_n (l : Launch) (Z : State) (a0 : Array Value) (hw : ∀ d ∈ tables_1, d.before a0 Z = true) (this : Addr) (ux : Addr) (h0 : Heap) (n0 : Nat) (Z0 : n0 ≤ h0.size) (cK : ClassId) (P : Addr → Prop) (xs : List Addr) (lam : Addr) (rq : Addr) (ea : Addr) (vs : List Value) (tv : Int32) (dz : Int32) (ii : Nat) (E_this : Exa Z h0 this "com/example/framewheel/framewheel/core/TimeOrderedQueue") (F_this_run : Fld Z h0 this "com/example/framewheel/framewheel/core/TimeOrderedQueue" "run" "Ljava/util/ArrayDeque;" (.ref rq)) (F_this_order : Fld Z h0 this "com/example/framewheel/framewheel/core/TimeOrderedQueue" "order" "Ljava/util/Comparator;" (.ref lam)) (E_rq : Exa Z h0 rq "java/util/ArrayDeque") (F_rq_elements : Fld Z h0 rq "java/util/ArrayDeque" "elements" "[Ljava/lang/Object;" (.ref ea)) (F_rq_tail : Fld Z h0 rq "java/util/ArrayDeque" "tail" "I" (.int tv)) (A_ea : Ars Z h0 ea (.object "java/lang/Object") vs) (O_lam : own_Fn Z h0 lam cK) (D_xs : own_DX Z h0 P xs) (hlen : vs.length = 17) (hdz : own_dec tv (17 : Int32) = dz) (hi : dz.toInt = ii) (hv : vs[ii]? = some .null) :
  Ctr l Z (⟨"com/example/framewheel/framewheel/core/TimeOrderedQueue", "ordersBeforeLastOfRun", "(Ljava/lang/Object;)Z"⟩ : MethodName) prog_15_method_3_code 3 (some .boolean) ({ frames := 2, cells := 0, slots := 0, locals := 27 } : Room) #[(.ref this), (.ref ux)] h0 (PureI h0 n0 (0 : Int32)) := by
 refine Ctr.of (plainFor_of_name pn_5) (fun m => ef_c_obl_n m this ux) ?_
 intro p e s m below meth c T0 hx hby hml hown hnm hret hlk hH e0 X0 hnd
 have hZ := hH.wide
 have N0 := Fr.nil n0
 replace hown : s.vm.findClass "com/example/framewheel/framewheel/core/TimeOrderedQueue" = some m.cls := hown
 replace hml : c.maxLocals = 3 := hml
 refine Run.x_aloadN (q := 1) X0 hx (hb hby d21_0) rfl rfl rfl ?_
 refine Run.z_getF (q := 4) X0 hx hZ e0 hown (wm52 hw) F_this_run (hb hby d21_1) rfl fun T1 X1 e1 => ?_
 refine Run.callV X1 hx hH e1 (y := (⟨"java/util/ArrayDeque", "peekLast", "()Ljava/lang/Object;"⟩ : MethodName)) (z := (⟨"java/util/ArrayDeque", "peekLast", "()Ljava/lang/Object;"⟩ : MethodName)) hown (wm142 hw) (wm143 hw) (notFace_of_selects (args := #[]) (mvT hZ (wm145 hw))) (wm145 hw) (wm144 hw) (wm37 hw) (wm146 hw) (by decide) (a := rq) E_rq (argsL := []) (rest := []) (c_pkl_n l Z a0 hw rq h0 n0 Z0 ea vs tv dz ii E_rq F_rq_elements F_rq_tail A_ea hlen hdz hi hv) pd_8 rfl (by rw [hml]; rfl) (W := 0) rfl (by decide) (by decide) (by decide) (by decide) (hb hby d21_4) rfl ?_
 intro T2 v2 L2 X2 q2
 obtain ⟨rfl, M2, e2⟩ := q2
 have N2 := Fr.app N0 M2
 show Run p e below s _ _ _ (T2.setTop (mkF m 7 #[.val (.ref this), .val (.ref ux), .unset] [.null]))
 refine Run.x_astoreN (q := 8) X2 hx #[.val (.ref this), .val (.ref ux), .val .null] (hb hby d21_7) rfl rfl rfl ?_
 refine Run.x_aloadN (q := 9) X2 hx (hb hby d21_8) rfl rfl rfl ?_
 refine Run.st (B := T2.setTop (mkF m 30 #[.val (.ref this), .val (.ref ux), .val .null] [])) (fun t kt => XS.ifnullYes X2.here hx rfl (pc0 := 9) (pc' := 30) rfl (hb hby d21_9) rfl (by decide) (by decide) kt) ?_
 refine Run.x_iconst (q := 31) X2 hx (hb hby d21_30) (z := (0 : Int32)) rfl rfl ?_
 refine Run.retN X2 hx hlk e2 (t := .boolean) hret (by simp) (z' := (0 : Int32)) (by decide) (hb hby d21_31) (by decide) (by decide) ?_
 exact PureI.mk (by rfl) N2
theorem ef_c_obl_r (m : MethodId) (this : Addr) (ux : Addr) : entryFrame m #[(.ref this), (.ref ux)] 3 = mkF m 0 #[.val (.ref this), .val (.ref ux), .unset] [] := by first | (simp [entryFrame, mkF, argsToLocals, Value.category]; done) | rfl
theorem wm54 {a0 : Array Value} {Z : State} (hw : ∀ d ∈ tables_1, d.before a0 Z = true) : (Jvm.Cond.fieldLink "com/example/framewheel/framewheel/core/TimeOrderedQueue" (16 : Nat) "com/example/framewheel/framewheel/core/TimeOrderedQueue" "order" "Ljava/util/Comparator;").before a0 Z = true := hw _ (List.mem_of_getElem? (i := 54) rfl)
theorem wm182 {a0 : Array Value} {Z : State} (hw : ∀ d ∈ tables_1, d.before a0 Z = true) : (Jvm.Cond.methodLink "com/example/framewheel/framewheel/core/TimeOrderedQueue" (47 : Nat) ({ cls := "java/util/Comparator", name := "compare", desc := "(Ljava/lang/Object;Ljava/lang/Object;)I" } : Jvm.MethodName)).before a0 Z = true := hw _ (List.mem_of_getElem? (i := 182) rfl)
set_option maxRecDepth 65536 in
set_option maxHeartbeats 40000000 in
theorem c_obl_r (l : Launch) (Z : State) (a0 : Array Value) (hw : ∀ d ∈ tables_1, d.before a0 Z = true) (this : Addr) (ux : Addr) (h0 : Heap) (n0 : Nat) (Z0 : n0 ≤ h0.size) (cK : ClassId) (P : Addr → Prop) (xs : List Addr) (lam : Addr) (rq : Addr) (ea : Addr) (vs : List Value) (tv : Int32) (dz : Int32) (ii : Nat) (ul : Addr) (E_this : Exa Z h0 this "com/example/framewheel/framewheel/core/TimeOrderedQueue") (F_this_run : Fld Z h0 this "com/example/framewheel/framewheel/core/TimeOrderedQueue" "run" "Ljava/util/ArrayDeque;" (.ref rq)) (F_this_order : Fld Z h0 this "com/example/framewheel/framewheel/core/TimeOrderedQueue" "order" "Ljava/util/Comparator;" (.ref lam)) (E_rq : Exa Z h0 rq "java/util/ArrayDeque") (F_rq_elements : Fld Z h0 rq "java/util/ArrayDeque" "elements" "[Ljava/lang/Object;" (.ref ea)) (F_rq_tail : Fld Z h0 rq "java/util/ArrayDeque" "tail" "I" (.int tv)) (A_ea : Ars Z h0 ea (.object "java/lang/Object") vs) (O_lam : own_Fn Z h0 lam cK) (D_xs : own_DX Z h0 P xs) (hlen : vs.length = 17) (hdz : own_dec tv (17 : Int32) = dz) (hi : dz.toInt = ii) (hv : vs[ii]? = some (.ref ul)) (hul : ul ∈ xs) (hux : ux ∈ xs) :
  Ctr l Z (⟨"com/example/framewheel/framewheel/core/TimeOrderedQueue", "ordersBeforeLastOfRun", "(Ljava/lang/Object;)Z"⟩ : MethodName) prog_15_method_3_code 3 (some .boolean) ({ frames := 3, cells := 0, slots := 0, locals := 42 } : Room) #[(.ref this), (.ref ux)] h0 (fun v h L => ∃ z : Int32, v = some (.int z) ∧ Fr n0 L ∧ h = h0 ∧ (z = 0 ∨ z = 1)) := by
 refine Ctr.of (plainFor_of_name pn_5) (fun m => ef_c_obl_r m this ux) ?_
 intro p e s m below meth c T0 hx hby hml hown hnm hret hlk hH e0 X0 hnd
 have hZ := hH.wide
 have N0 := Fr.nil n0
 replace hown : s.vm.findClass "com/example/framewheel/framewheel/core/TimeOrderedQueue" = some m.cls := hown
 replace hml : c.maxLocals = 3 := hml
 refine Run.x_aloadN (q := 1) X0 hx (hb hby d21_0) rfl rfl rfl ?_
 refine Run.z_getF (q := 4) X0 hx hZ e0 hown (wm52 hw) F_this_run (hb hby d21_1) rfl fun T1 X1 e1 => ?_
 refine Run.callV X1 hx hH e1 (y := (⟨"java/util/ArrayDeque", "peekLast", "()Ljava/lang/Object;"⟩ : MethodName)) (z := (⟨"java/util/ArrayDeque", "peekLast", "()Ljava/lang/Object;"⟩ : MethodName)) hown (wm142 hw) (wm143 hw) (notFace_of_selects (args := #[]) (mvT hZ (wm145 hw))) (wm145 hw) (wm144 hw) (wm37 hw) (wm146 hw) (by decide) (a := rq) E_rq (argsL := []) (rest := []) (c_pkl_r l Z a0 hw rq h0 n0 Z0 ea vs tv dz ii ul E_rq F_rq_elements F_rq_tail A_ea hlen hdz hi hv) pd_8 rfl (by rw [hml]; rfl) (W := 0) rfl (by decide) (by decide) (by decide) (by decide) (hb hby d21_4) rfl ?_
 intro T2 v2 L2 X2 q2
 obtain ⟨rfl, M2, e2⟩ := q2
 have N2 := Fr.app N0 M2
 show Run p e below s _ _ _ (T2.setTop (mkF m 7 #[.val (.ref this), .val (.ref ux), .unset] [(.ref ul)]))
 refine Run.x_astoreN (q := 8) X2 hx #[.val (.ref this), .val (.ref ux), .val (.ref ul)] (hb hby d21_7) rfl rfl rfl ?_
 refine Run.x_aloadN (q := 9) X2 hx (hb hby d21_8) rfl rfl rfl ?_
 refine Run.st (B := T2.setTop (mkF m 12 #[.val (.ref this), .val (.ref ux), .val (.ref ul)] [])) (fun t kt => XS.ifnullNo X2.here hx rfl (hb hby d21_9) rfl kt) ?_
 refine Run.x_aloadN (q := 13) X2 hx (hb hby d21_12) rfl rfl rfl ?_
 refine Run.z_getF (q := 16) X2 hx hZ e2 hown (wm54 hw) F_this_order (hb hby d21_13) rfl fun T3 X3 e3 => ?_
 refine Run.x_aloadN (q := 17) X3 hx (hb hby d21_16) rfl rfl rfl ?_
 refine Run.x_aloadN (q := 18) X3 hx (hb hby d21_17) rfl rfl rfl ?_
 obtain ⟨w1_4, d1_4, s1_4, E1_4, -, Fd1_4, Fs1_4, -⟩ := D_xs ux hux
 obtain ⟨w2_4, d2_4, s2_4, E2_4, -, Fd2_4, Fs2_4, -⟩ := D_xs ul hul
 refine own_callLam (q := 23) X3 hx hH e3 O_lam hown (wm182 hw) (wm183 hw) (wm184 hw) (wm186 hw) (wm185 hw) (wm11 hw) (wm181 hw) E1_4 E2_4 (c_cmp l Z a0 hw ux ul h0 n0 Z0 d1_4 s1_4 d2_4 s2_4 E1_4 Fd1_4 Fs1_4 E2_4 Fd2_4 Fs2_4) (rest := []) (by rw [hml]; rfl) (W := 0) rfl (by decide) (by decide) (by decide) (by decide) (hb hby d21_18) rfl fun T4 L4 X4 M4 e4 => ?_
 have N4 := Fr.app N2 M4
 generalize hzc : (own_cmp d1_4 s1_4 d2_4 s2_4) = zc
 by_cases hc23 : zc < (0 : Int32)
 ·skip
  refine Run.x_ifNo (q := 26) X4 hx (hb hby d21_23) ((if0 _ _).trans (tlt hc23).2.1) rfl ?_
  refine Run.x_iconst (q := 27) X4 hx (hb hby d21_26) (z := (1 : Int32)) rfl rfl ?_
  refine Run.x_goto (q := 31) X4 hx (hb hby d21_27) (by decide) (by decide) ?_
  refine Run.retN X4 hx hlk e4 (t := .boolean) hret (by simp) (z' := (1 : Int32)) (by decide) (hb hby d21_31) (by decide) (by decide) ?_
  exact ⟨_, rfl, N4, rfl, Or.inr rfl⟩
 ·skip
  refine Run.x_ifYes (q := 30) X4 hx (hb hby d21_23) ((if0 _ _).trans (flt hc23).2.1) (by decide) (by decide) ?_
  refine Run.x_iconst (q := 31) X4 hx (hb hby d21_30) (z := (0 : Int32)) rfl rfl ?_
  refine Run.retN X4 hx hlk e4 (t := .boolean) hret (by simp) (z' := (0 : Int32)) (by decide) (hb hby d21_31) (by decide) (by decide) ?_
  exact ⟨_, rfl, N4, rfl, Or.inl rfl⟩
theorem d22_0 : decode prog_15_method_2_code 0 = .ok (.aload_n 0, 1) := by decide +kernel
theorem d22_1 : decode prog_15_method_2_code 1 = .ok (.aload_n 1, 1) := by decide +kernel
theorem d22_2 : decode prog_15_method_2_code 2 = .ok (.invokevirtual 29, 3) := by decide +kernel
theorem d22_5 : decode prog_15_method_2_code 5 = .ok (.istore_n 2, 1) := by decide +kernel
theorem d22_6 : decode prog_15_method_2_code 6 = .ok (.iload_n 2, 1) := by decide +kernel
theorem d22_7 : decode prog_15_method_2_code 7 = .ok (.ifCond .eq 24, 3) := by decide +kernel
theorem d22_10 : decode prog_15_method_2_code 10 = .ok (.aload_n 0, 1) := by decide +kernel
theorem d22_11 : decode prog_15_method_2_code 11 = .ok (.getfield 25, 3) := by decide +kernel
theorem d22_14 : decode prog_15_method_2_code 14 = .ok (.aload_n 0, 1) := by decide +kernel
theorem d22_15 : decode prog_15_method_2_code 15 = .ok (.getfield 10, 3) := by decide +kernel
theorem d22_18 : decode prog_15_method_2_code 18 = .ok (.invokevirtual 33, 3) := by decide +kernel
theorem d22_21 : decode prog_15_method_2_code 21 = .ok (.invokevirtual 37, 3) := by decide +kernel
theorem d22_24 : decode prog_15_method_2_code 24 = .ok (.pop, 1) := by decide +kernel
theorem d22_25 : decode prog_15_method_2_code 25 = .ok (.aload_n 0, 1) := by decide +kernel
theorem d22_26 : decode prog_15_method_2_code 26 = .ok (.aload_n 1, 1) := by decide +kernel
theorem d22_27 : decode prog_15_method_2_code 27 = .ok (.invokevirtual 29, 3) := by decide +kernel
theorem d22_30 : decode prog_15_method_2_code 30 = .ok (.istore_n 2, 1) := by decide +kernel
theorem d22_31 : decode prog_15_method_2_code 31 = .ok (.iload_n 2, 1) := by decide +kernel
theorem d22_32 : decode prog_15_method_2_code 32 = .ok (.ifCond .eq 15, 3) := by decide +kernel
theorem d22_35 : decode prog_15_method_2_code 35 = .ok (.aload_n 0, 1) := by decide +kernel
theorem d22_36 : decode prog_15_method_2_code 36 = .ok (.getfield 25, 3) := by decide +kernel
theorem d22_39 : decode prog_15_method_2_code 39 = .ok (.aload_n 1, 1) := by decide +kernel
theorem d22_40 : decode prog_15_method_2_code 40 = .ok (.invokevirtual 37, 3) := by decide +kernel
theorem d22_43 : decode prog_15_method_2_code 43 = .ok (.pop, 1) := by decide +kernel
theorem d22_44 : decode prog_15_method_2_code 44 = .ok (.goto 11, 3) := by decide +kernel
theorem d22_47 : decode prog_15_method_2_code 47 = .ok (.aload_n 0, 1) := by decide +kernel
theorem d22_48 : decode prog_15_method_2_code 48 = .ok (.getfield 10, 3) := by decide +kernel
theorem d22_51 : decode prog_15_method_2_code 51 = .ok (.aload_n 1, 1) := by decide +kernel
theorem d22_52 : decode prog_15_method_2_code 52 = .ok (.invokevirtual 40, 3) := by decide +kernel
theorem d22_55 : decode prog_15_method_2_code 55 = .ok (.return_, 1) := by decide +kernel
theorem ef_c_tadd (m : MethodId) (this : Addr) (ux : Addr) : entryFrame m #[(.ref this), (.ref ux)] 3 = mkF m 0 #[.val (.ref this), .val (.ref ux), .unset] [] := by first | (simp [entryFrame, mkF, argsToLocals, Value.category]; done) | rfl
theorem wm138 {a0 : Array Value} {Z : State} (hw : ∀ d ∈ tables_1, d.before a0 Z = true) : (Jvm.Cond.methodLink "com/example/framewheel/framewheel/core/TimeOrderedQueue" (29 : Nat) ({ cls := "com/example/framewheel/framewheel/core/TimeOrderedQueue", name := "ordersBeforeLastOfRun", desc := "(Ljava/lang/Object;)Z" } : Jvm.MethodName)).before a0 Z = true := hw _ (List.mem_of_getElem? (i := 138) rfl)
theorem wm141 {a0 : Array Value} {Z : State} (hw : ∀ d ∈ tables_1, d.before a0 Z = true) : (Jvm.Cond.code ({ cls := "com/example/framewheel/framewheel/core/TimeOrderedQueue", name := "ordersBeforeLastOfRun", desc := "(Ljava/lang/Object;)Z" } : Jvm.MethodName) prog_15_method_3_code (3 : Nat) (Option.some Jvm.ClassFile.FieldType.boolean)).before a0 Z = true := hw _ (List.mem_of_getElem? (i := 141) rfl)
theorem wm139 {a0 : Array Value} {Z : State} (hw : ∀ d ∈ tables_1, d.before a0 Z = true) : (Jvm.Cond.instanceMethod ({ cls := "com/example/framewheel/framewheel/core/TimeOrderedQueue", name := "ordersBeforeLastOfRun", desc := "(Ljava/lang/Object;)Z" } : Jvm.MethodName)).before a0 Z = true := hw _ (List.mem_of_getElem? (i := 139) rfl)
theorem wm140 {a0 : Array Value} {Z : State} (hw : ∀ d ∈ tables_1, d.before a0 Z = true) : (Jvm.Cond.privateMethod ({ cls := "com/example/framewheel/framewheel/core/TimeOrderedQueue", name := "ordersBeforeLastOfRun", desc := "(Ljava/lang/Object;)Z" } : Jvm.MethodName)).before a0 Z = true := hw _ (List.mem_of_getElem? (i := 140) rfl)
theorem wm136 {a0 : Array Value} {Z : State} (hw : ∀ d ∈ tables_1, d.before a0 Z = true) : (Jvm.Cond.selects "com/example/framewheel/framewheel/core/TimeOrderedQueue" ({ cls := "com/example/framewheel/framewheel/core/TimeOrderedQueue", name := "add", desc := "(Ljava/lang/Object;)V" } : Jvm.MethodName) ({ cls := "com/example/framewheel/framewheel/core/TimeOrderedQueue", name := "add", desc := "(Ljava/lang/Object;)V" } : Jvm.MethodName)).before a0 Z = true := hw _ (List.mem_of_getElem? (i := 136) rfl)
theorem wm27 {a0 : Array Value} {Z : State} (hw : ∀ d ∈ tables_1, d.before a0 Z = true) : (Jvm.Cond.initialized "com/example/framewheel/framewheel/core/TimeOrderedQueue").before a0 Z = true := hw _ (List.mem_of_getElem? (i := 27) rfl)
theorem wm155 {a0 : Array Value} {Z : State} (hw : ∀ d ∈ tables_1, d.before a0 Z = true) : (Jvm.Cond.methodLink "com/example/framewheel/framewheel/core/TimeOrderedQueue" (40 : Nat) ({ cls := "java/util/ArrayDeque", name := "addLast", desc := "(Ljava/lang/Object;)V" } : Jvm.MethodName)).before a0 Z = true := hw _ (List.mem_of_getElem? (i := 155) rfl)
theorem wm159 {a0 : Array Value} {Z : State} (hw : ∀ d ∈ tables_1, d.before a0 Z = true) : (Jvm.Cond.code ({ cls := "java/util/ArrayDeque", name := "addLast", desc := "(Ljava/lang/Object;)V" } : Jvm.MethodName) jdk_21_method_13_code (3 : Nat) (Option.none : Option Jvm.ClassFile.FieldType)).before a0 Z = true := hw _ (List.mem_of_getElem? (i := 159) rfl)
theorem pd_9 : parseMethodDescriptor "(Ljava/lang/Object;)V" = some ⟨[(.object "java/lang/Object")], none⟩ := by decide +kernel
theorem wm158 {a0 : Array Value} {Z : State} (hw : ∀ d ∈ tables_1, d.before a0 Z = true) : (Jvm.Cond.selects "java/util/ArrayDeque" ({ cls := "java/util/ArrayDeque", name := "addLast", desc := "(Ljava/lang/Object;)V" } : Jvm.MethodName) ({ cls := "java/util/ArrayDeque", name := "addLast", desc := "(Ljava/lang/Object;)V" } : Jvm.MethodName)).before a0 Z = true := hw _ (List.mem_of_getElem? (i := 158) rfl)
theorem wm156 {a0 : Array Value} {Z : State} (hw : ∀ d ∈ tables_1, d.before a0 Z = true) : (Jvm.Cond.declares ({ cls := "java/util/ArrayDeque", name := "addLast", desc := "(Ljava/lang/Object;)V" } : Jvm.MethodName)).before a0 Z = true := hw _ (List.mem_of_getElem? (i := 156) rfl)
theorem wm157 {a0 : Array Value} {Z : State} (hw : ∀ d ∈ tables_1, d.before a0 Z = true) : (Jvm.Cond.instanceMethod ({ cls := "java/util/ArrayDeque", name := "addLast", desc := "(Ljava/lang/Object;)V" } : Jvm.MethodName)).before a0 Z = true := hw _ (List.mem_of_getElem? (i := 157) rfl)
theorem wm79 {a0 : Array Value} {Z : State} (hw : ∀ d ∈ tables_1, d.before a0 Z = true) : (Jvm.Cond.fieldLink "com/example/framewheel/framewheel/core/TimeOrderedQueue" (25 : Nat) "com/example/framewheel/framewheel/core/TimeOrderedQueue" "heap" "Ljava/util/PriorityQueue;").before a0 Z = true := hw _ (List.mem_of_getElem? (i := 79) rfl)
theorem wm221 {a0 : Array Value} {Z : State} (hw : ∀ d ∈ tables_1, d.before a0 Z = true) : (Jvm.Cond.methodLink "com/example/framewheel/framewheel/core/TimeOrderedQueue" (33 : Nat) ({ cls := "java/util/ArrayDeque", name := "pollLast", desc := "()Ljava/lang/Object;" } : Jvm.MethodName)).before a0 Z = true := hw _ (List.mem_of_getElem? (i := 221) rfl)
theorem wm225 {a0 : Array Value} {Z : State} (hw : ∀ d ∈ tables_1, d.before a0 Z = true) : (Jvm.Cond.code ({ cls := "java/util/ArrayDeque", name := "pollLast", desc := "()Ljava/lang/Object;" } : Jvm.MethodName) jdk_21_method_21_code (4 : Nat) (Option.some (Jvm.ClassFile.FieldType.object "java/lang/Object"))).before a0 Z = true := hw _ (List.mem_of_getElem? (i := 225) rfl)
theorem wm224 {a0 : Array Value} {Z : State} (hw : ∀ d ∈ tables_1, d.before a0 Z = true) : (Jvm.Cond.selects "java/util/ArrayDeque" ({ cls := "java/util/ArrayDeque", name := "pollLast", desc := "()Ljava/lang/Object;" } : Jvm.MethodName) ({ cls := "java/util/ArrayDeque", name := "pollLast", desc := "()Ljava/lang/Object;" } : Jvm.MethodName)).before a0 Z = true := hw _ (List.mem_of_getElem? (i := 224) rfl)
theorem wm222 {a0 : Array Value} {Z : State} (hw : ∀ d ∈ tables_1, d.before a0 Z = true) : (Jvm.Cond.declares ({ cls := "java/util/ArrayDeque", name := "pollLast", desc := "()Ljava/lang/Object;" } : Jvm.MethodName)).before a0 Z = true := hw _ (List.mem_of_getElem? (i := 222) rfl)
theorem wm223 {a0 : Array Value} {Z : State} (hw : ∀ d ∈ tables_1, d.before a0 Z = true) : (Jvm.Cond.instanceMethod ({ cls := "java/util/ArrayDeque", name := "pollLast", desc := "()Ljava/lang/Object;" } : Jvm.MethodName)).before a0 Z = true := hw _ (List.mem_of_getElem? (i := 223) rfl)
theorem wm226 {a0 : Array Value} {Z : State} (hw : ∀ d ∈ tables_1, d.before a0 Z = true) : (Jvm.Cond.methodLink "com/example/framewheel/framewheel/core/TimeOrderedQueue" (37 : Nat) ({ cls := "java/util/PriorityQueue", name := "add", desc := "(Ljava/lang/Object;)Z" } : Jvm.MethodName)).before a0 Z = true := hw _ (List.mem_of_getElem? (i := 226) rfl)
theorem wm230 {a0 : Array Value} {Z : State} (hw : ∀ d ∈ tables_1, d.before a0 Z = true) : (Jvm.Cond.code ({ cls := "java/util/PriorityQueue", name := "add", desc := "(Ljava/lang/Object;)Z" } : Jvm.MethodName) jdk_2655_method_13_code (2 : Nat) (Option.some Jvm.ClassFile.FieldType.boolean)).before a0 Z = true := hw _ (List.mem_of_getElem? (i := 230) rfl)
theorem wm229 {a0 : Array Value} {Z : State} (hw : ∀ d ∈ tables_1, d.before a0 Z = true) : (Jvm.Cond.selects "java/util/PriorityQueue" ({ cls := "java/util/PriorityQueue", name := "add", desc := "(Ljava/lang/Object;)Z" } : Jvm.MethodName) ({ cls := "java/util/PriorityQueue", name := "add", desc := "(Ljava/lang/Object;)Z" } : Jvm.MethodName)).before a0 Z = true := hw _ (List.mem_of_getElem? (i := 229) rfl)
theorem wm227 {a0 : Array Value} {Z : State} (hw : ∀ d ∈ tables_1, d.before a0 Z = true) : (Jvm.Cond.declares ({ cls := "java/util/PriorityQueue", name := "add", desc := "(Ljava/lang/Object;)Z" } : Jvm.MethodName)).before a0 Z = true := hw _ (List.mem_of_getElem? (i := 227) rfl)
theorem wm228 {a0 : Array Value} {Z : State} (hw : ∀ d ∈ tables_1, d.before a0 Z = true) : (Jvm.Cond.instanceMethod ({ cls := "java/util/PriorityQueue", name := "add", desc := "(Ljava/lang/Object;)Z" } : Jvm.MethodName)).before a0 Z = true := hw _ (List.mem_of_getElem? (i := 228) rfl)
set_option maxRecDepth 65536 in
set_option maxHeartbeats 40000000 in
theorem c_tadd (l : Launch) (Z : State) (a0 : Array Value) (hw : ∀ d ∈ tables_1, d.before a0 Z = true) (this : Addr) (ux : Addr) (h0 : Heap) (n0 : Nat) (Z0 : n0 ≤ h0.size) (cK : ClassId) (P : Addr → Prop) (xs : List Addr) (rq : Addr) (hq : Addr) (ea : Addr) (qa : Addr) (vs : List Value) (us : List Value) (hv_ : Int32) (tv : Int32) (pv : Int32) (mc : Int32) (hd : Nat) (tl : Nat) (lam : Addr) (E_this : Exa Z h0 this "com/example/framewheel/framewheel/core/TimeOrderedQueue") (F_this_run : Fld Z h0 this "com/example/framewheel/framewheel/core/TimeOrderedQueue" "run" "Ljava/util/ArrayDeque;" (.ref rq)) (F_this_order : Fld Z h0 this "com/example/framewheel/framewheel/core/TimeOrderedQueue" "order" "Ljava/util/Comparator;" (.ref lam)) (F_this_heap : Fld Z h0 this "com/example/framewheel/framewheel/core/TimeOrderedQueue" "heap" "Ljava/util/PriorityQueue;" (.ref hq)) (E_rq : Exa Z h0 rq "java/util/ArrayDeque") (F_rq_elements : Fld Z h0 rq "java/util/ArrayDeque" "elements" "[Ljava/lang/Object;" (.ref ea)) (F_rq_head : Fld Z h0 rq "java/util/ArrayDeque" "head" "I" (.int hv_)) (F_rq_tail : Fld Z h0 rq "java/util/ArrayDeque" "tail" "I" (.int tv)) (A_ea : Ars Z h0 ea (.object "java/lang/Object") vs) (O_ea : own_Ob Z h0 ea "java/lang/Object") (E_hq : Exa Z h0 hq "java/util/PriorityQueue") (F_hq_queue : Fld Z h0 hq "java/util/PriorityQueue" "queue" "[Ljava/lang/Object;" (.ref qa)) (F_hq_comparator : Fld Z h0 hq "java/util/PriorityQueue" "comparator" "Ljava/util/Comparator;" (.ref lam)) (F_hq_size : Fld Z h0 hq "java/util/PriorityQueue" "size" "I" (.int pv)) (F_hq_modCount : Fld Z h0 hq "java/util/PriorityQueue" "modCount" "I" (.int mc)) (A_qa : Ars Z h0 qa (.object "java/lang/Object") us) (O_qa : own_Ob Z h0 qa "java/lang/Object") (O_lam : own_Fn Z h0 lam cK) (D_xs : own_DX Z h0 P xs) (E_ux : Exa Z h0 ux "com/example/framewheel/framewheel/core/PhaseQueue$Delayed") (g_rq : n0 ≤ rq) (g_hq : n0 ≤ hq) (g_ea : n0 ≤ ea) (g_qa : n0 ≤ qa) (ne_this_rq : this ≠ rq) (ne_this_hq : this ≠ hq) (ne_this_ea : this ≠ ea) (ne_this_qa : this ≠ qa) (ne_rq_hq : rq ≠ hq) (ne_rq_ea : rq ≠ ea) (ne_rq_qa : rq ≠ qa) (ne_hq_ea : hq ≠ ea) (ne_hq_qa : hq ≠ qa) (ne_ea_qa : ea ≠ qa) (ne_xs_this : this ∉ xs) (ne_xs_rq : rq ∉ xs) (ne_xs_hq : hq ∉ xs) (ne_xs_ea : ea ∉ xs) (ne_xs_qa : qa ∉ xs) (hr : own_rv xs vs hv_ tv hd tl) (hh : own_hv xs us pv) (htl : tl ≤ 6) (hk : (tl - hd) + pv.toInt.toNat ≤ 2) (hux : ux ∈ xs) :
  Ctr l Z (⟨"com/example/framewheel/framewheel/core/TimeOrderedQueue", "add", "(Ljava/lang/Object;)V"⟩ : MethodName) prog_15_method_2_code 3 none ({ frames := 7, cells := 0, slots := 0, locals := 100 } : Room) #[(.ref this), (.ref ux)] h0 (fun v h L => v = none ∧ Fr n0 L ∧ Keep h0 h [rq, ea, hq, qa] ∧ ∃ (hv_' tv' pv' mc' : Int32) (hd' tl' : Nat) (vs' us' : List Value), Exa Z h this "com/example/framewheel/framewheel/core/TimeOrderedQueue" ∧ Fld Z h this "com/example/framewheel/framewheel/core/TimeOrderedQueue" "run" "Ljava/util/ArrayDeque;" (.ref rq) ∧ Fld Z h this "com/example/framewheel/framewheel/core/TimeOrderedQueue" "order" "Ljava/util/Comparator;" (.ref lam) ∧ Fld Z h this "com/example/framewheel/framewheel/core/TimeOrderedQueue" "heap" "Ljava/util/PriorityQueue;" (.ref hq) ∧ Exa Z h rq "java/util/ArrayDeque" ∧ Fld Z h rq "java/util/ArrayDeque" "elements" "[Ljava/lang/Object;" (.ref ea) ∧ Fld Z h rq "java/util/ArrayDeque" "head" "I" (.int hv_') ∧ Fld Z h rq "java/util/ArrayDeque" "tail" "I" (.int tv') ∧ Ars Z h ea (.object "java/lang/Object") vs' ∧ own_Ob Z h ea "java/lang/Object" ∧ Exa Z h hq "java/util/PriorityQueue" ∧ Fld Z h hq "java/util/PriorityQueue" "queue" "[Ljava/lang/Object;" (.ref qa) ∧ Fld Z h hq "java/util/PriorityQueue" "comparator" "Ljava/util/Comparator;" (.ref lam) ∧ Fld Z h hq "java/util/PriorityQueue" "size" "I" (.int pv') ∧ Fld Z h hq "java/util/PriorityQueue" "modCount" "I" (.int mc') ∧ Ars Z h qa (.object "java/lang/Object") us' ∧ own_Ob Z h qa "java/lang/Object" ∧ own_Fn Z h lam cK ∧ own_DX Z h P xs ∧ own_rv xs vs' hv_' tv' hd' tl' ∧ own_hv xs us' pv' ∧ (tl' - hd') + pv'.toInt.toNat = (tl - hd) + pv.toInt.toNat + 1 ∧ tl' ≤ tl + 1) := by
 refine Ctr.of (plainFor_of_name pn_5) (fun m => ef_c_tadd m this ux) ?_
 intro p e s m below meth c T0 hx hby hml hown hnm hret hlk hH e0 X0 hnd
 have hZ := hH.wide
 have N0 := Fr.nil n0
 replace hown : s.vm.findClass "com/example/framewheel/framewheel/core/TimeOrderedQueue" = some m.cls := hown
 replace hml : c.maxLocals = 3 := hml
 have KP := Keep.refl h0 [rq, ea, hq, qa]
 rcases hh with ⟨rfl, rfl⟩ | ⟨y1, hy1, rfl, rfl⟩ | ⟨y1, hy1, y2, hy2, rfl, rfl⟩
 ·skip
  by_cases hE : hd = tl
  ·skip
   refine Run.x_aloadN (q := 1) X0 hx (hb hby d22_0) rfl rfl rfl ?_
   refine Run.x_aloadN (q := 2) X0 hx (hb hby d22_1) rfl rfl rfl ?_
   obtain ⟨dz1, ii1, hdz1, hi1, hn1⟩ := own_lastN hr hE
   refine own_callP X0 hx hH e0 (y := (⟨"com/example/framewheel/framewheel/core/TimeOrderedQueue", "ordersBeforeLastOfRun", "(Ljava/lang/Object;)Z"⟩ : MethodName)) (y2 := (⟨"com/example/framewheel/framewheel/core/TimeOrderedQueue", "add", "(Ljava/lang/Object;)V"⟩ : MethodName)) hown (wm138 hw) (wm139 hw) (wm140 hw) (wm136 hw) rfl (wm27 hw) (wm141 hw) (by decide) (a := this) E_this (argsL := [(.ref ux)]) (rest := []) (c_obl_n l Z a0 hw this ux h0 n0 Z0 cK P xs lam rq ea vs tv dz1 ii1 E_this F_this_run F_this_order E_rq F_rq_elements F_rq_tail A_ea O_lam D_xs hr.2.2.2.2.1 hdz1 hi1 hn1) pd_6 rfl (by rw [hml]; rfl) (W := 0) rfl (by decide) (by decide) (by decide) (by decide) (hb hby d22_2) rfl ?_
   intro T1 v1 L1 X1 q1
   obtain ⟨rfl, M1, e1⟩ := q1
   have N1 := Fr.app N0 M1
   show Run p e below s _ _ _ (T1.setTop (mkF m 5 #[.val (.ref this), .val (.ref ux), .unset] [(.int 0)]))
   refine Run.x_istoreN (q := 6) X1 hx #[.val (.ref this), .val (.ref ux), .val (.int 0)] (hb hby d22_5) rfl rfl ?_
   refine Run.x_iloadN (q := 7) X1 hx (hb hby d22_6) rfl rfl ?_
   refine Run.x_ifYes (q := 31) X1 hx (hb hby d22_7) ((if0 _ _).trans (teq (by decide : (0 : Int32) = (0 : Int32))).1) (by decide) (by decide) ?_
   refine Run.x_iloadN (q := 32) X1 hx (hb hby d22_31) rfl rfl ?_
   refine Run.x_ifYes (q := 47) X1 hx (hb hby d22_32) ((if0 _ _).trans (teq (by decide : (0 : Int32) = (0 : Int32))).1) (by decide) (by decide) ?_
   refine Run.x_aloadN (q := 48) X1 hx (hb hby d22_47) rfl rfl rfl ?_
   refine Run.z_getF (q := 51) X1 hx hZ e1 hown (wm52 hw) F_this_run (hb hby d22_48) rfl fun T2 X2 e2 => ?_
   refine Run.x_aloadN (q := 52) X2 hx (hb hby d22_51) rfl rfl rfl ?_
   have tl8 : tl < 8 := by have := hr.2.2.1; omega
   refine Run.callV X2 hx hH e2 (y := (⟨"java/util/ArrayDeque", "addLast", "(Ljava/lang/Object;)V"⟩ : MethodName)) (z := (⟨"java/util/ArrayDeque", "addLast", "(Ljava/lang/Object;)V"⟩ : MethodName)) hown (wm155 hw) (wm156 hw) (notFace_of_selects (args := #[]) (mvT hZ (wm158 hw))) (wm158 hw) (wm157 hw) (wm37 hw) (wm159 hw) (by decide) (a := rq) E_rq (argsL := [(.ref ux)]) (rest := []) (c_addl l Z a0 hw rq ux h0 n0 Z0 ea vs hv_ tv tl E_rq F_rq_elements F_rq_head F_rq_tail A_ea O_ea E_ux g_rq g_ea ne_rq_ea hr.2.2.2.2.1 hr.2.1 (by omega) (own_lt17 hr.2.1 (by omega)) (own_neT1 hr.1 hr.2.1 (by have := hr.2.2.1; omega) (by omega))) pd_9 rfl (by rw [hml]; rfl) (W := 0) rfl (by decide) (by decide) (by decide) (by decide) (hb hby d22_52) rfl ?_
   intro T3 v3 L3 X3 q3
   obtain ⟨rfl, M3, K3, Er3, Fe3, Fh3, Ft3, Ae3⟩ := q3
   have N3 := Fr.app N1 M3
   show Run p e below s _ _ _ (T3.setTop (mkF m 55 #[.val (.ref this), .val (.ref ux), .val (.int 0)] []))
   have Z3 : n0 ≤ T3.heap.size := Nat.le_trans Z0 K3.1
   replace KP := KP.trans K3 (allS (Or.inl (by simp)) (allS (Or.inl (by simp)) all0))
   replace E_this := E_this.keep K3
   replace F_this_run := F_this_run.keep K3 (ninS ne_this_rq (ninS ne_this_ea nin0))
   replace F_this_order := F_this_order.keep K3 (ninS ne_this_rq (ninS ne_this_ea nin0))
   replace F_this_heap := F_this_heap.keep K3 (ninS ne_this_rq (ninS ne_this_ea nin0))
   replace O_ea := O_ea.keep K3
   replace E_hq := E_hq.keep K3
   replace F_hq_queue := F_hq_queue.keep K3 (ninS (Ne.symm ne_rq_hq) (ninS ne_hq_ea nin0))
   replace F_hq_comparator := F_hq_comparator.keep K3 (ninS (Ne.symm ne_rq_hq) (ninS ne_hq_ea nin0))
   replace F_hq_size := F_hq_size.keep K3 (ninS (Ne.symm ne_rq_hq) (ninS ne_hq_ea nin0))
   replace F_hq_modCount := F_hq_modCount.keep K3 (ninS (Ne.symm ne_rq_hq) (ninS ne_hq_ea nin0))
   replace A_qa := A_qa.keep K3 (ninS (Ne.symm ne_rq_qa) (ninS (Ne.symm ne_ea_qa) nin0))
   replace O_qa := O_qa.keep K3
   replace O_lam := O_lam.keep K3
   replace D_xs := D_xs.keep K3 (own_dnS ne_xs_rq (own_dnS ne_xs_ea own_dn0))
   replace E_ux := E_ux.keep K3
   refine Run.retV X3 hx hlk rfl hret (hb hby d22_55) (by decide) (by decide) ?_
   exact ⟨rfl, N3, KP, ⟨_, _, _, _, hd, (tl + 1), _, _, E_this, F_this_run, F_this_order, F_this_heap, Er3, Fe3, Fh3, Ft3, Ae3, O_ea, E_hq, F_hq_queue, F_hq_comparator, F_hq_size, F_hq_modCount, A_qa, O_qa, O_lam, D_xs, (own_rv_push hr hux tl8), Or.inl ⟨rfl, rfl⟩, by have := own_pn; have := hr.2.2.1; omega⟩⟩
  ·skip
   refine Run.x_aloadN (q := 1) X0 hx (hb hby d22_0) rfl rfl rfl ?_
   refine Run.x_aloadN (q := 2) X0 hx (hb hby d22_1) rfl rfl rfl ?_
   obtain ⟨t1, ul1, dz1, hul1, etl1, hdt1, tl171, hdz1, hi1, hv1, r1'⟩ := own_lastR hr hE
   refine own_callP X0 hx hH e0 (y := (⟨"com/example/framewheel/framewheel/core/TimeOrderedQueue", "ordersBeforeLastOfRun", "(Ljava/lang/Object;)Z"⟩ : MethodName)) (y2 := (⟨"com/example/framewheel/framewheel/core/TimeOrderedQueue", "add", "(Ljava/lang/Object;)V"⟩ : MethodName)) hown (wm138 hw) (wm139 hw) (wm140 hw) (wm136 hw) rfl (wm27 hw) (wm141 hw) (by decide) (a := this) E_this (argsL := [(.ref ux)]) (rest := []) (c_obl_r l Z a0 hw this ux h0 n0 Z0 cK P xs lam rq ea vs tv dz1 t1 ul1 E_this F_this_run F_this_order E_rq F_rq_elements F_rq_tail A_ea O_lam D_xs hr.2.2.2.2.1 hdz1 hi1 hv1 hul1 hux) pd_6 rfl (by rw [hml]; rfl) (W := 0) rfl (by decide) (by decide) (by decide) (by decide) (hb hby d22_2) rfl ?_
   intro T4 v4 L4 X4 q4
   obtain ⟨z4, rfl, M4, e4, hz4⟩ := q4
   have N4 := Fr.app N0 M4
   show Run p e below s _ _ _ (T4.setTop (mkF m 5 #[.val (.ref this), .val (.ref ux), .unset] [(.int z4)]))
   refine Run.x_istoreN (q := 6) X4 hx #[.val (.ref this), .val (.ref ux), .val (.int z4)] (hb hby d22_5) rfl rfl ?_
   rcases hz4 with rfl | rfl
   ·skip
    refine Run.x_iloadN (q := 7) X4 hx (hb hby d22_6) rfl rfl ?_
    refine Run.x_ifYes (q := 31) X4 hx (hb hby d22_7) ((if0 _ _).trans (teq (by decide : (0 : Int32) = (0 : Int32))).1) (by decide) (by decide) ?_
    refine Run.x_iloadN (q := 32) X4 hx (hb hby d22_31) rfl rfl ?_
    refine Run.x_ifYes (q := 47) X4 hx (hb hby d22_32) ((if0 _ _).trans (teq (by decide : (0 : Int32) = (0 : Int32))).1) (by decide) (by decide) ?_
    refine Run.x_aloadN (q := 48) X4 hx (hb hby d22_47) rfl rfl rfl ?_
    refine Run.z_getF (q := 51) X4 hx hZ e4 hown (wm52 hw) F_this_run (hb hby d22_48) rfl fun T5 X5 e5 => ?_
    refine Run.x_aloadN (q := 52) X5 hx (hb hby d22_51) rfl rfl rfl ?_
    have tl8 : tl < 8 := by have := hr.2.2.1; omega
    refine Run.callV X5 hx hH e5 (y := (⟨"java/util/ArrayDeque", "addLast", "(Ljava/lang/Object;)V"⟩ : MethodName)) (z := (⟨"java/util/ArrayDeque", "addLast", "(Ljava/lang/Object;)V"⟩ : MethodName)) hown (wm155 hw) (wm156 hw) (notFace_of_selects (args := #[]) (mvT hZ (wm158 hw))) (wm158 hw) (wm157 hw) (wm37 hw) (wm159 hw) (by decide) (a := rq) E_rq (argsL := [(.ref ux)]) (rest := []) (c_addl l Z a0 hw rq ux h0 n0 Z0 ea vs hv_ tv tl E_rq F_rq_elements F_rq_head F_rq_tail A_ea O_ea E_ux g_rq g_ea ne_rq_ea hr.2.2.2.2.1 hr.2.1 (by omega) (own_lt17 hr.2.1 (by omega)) (own_neT1 hr.1 hr.2.1 (by have := hr.2.2.1; omega) (by omega))) pd_9 rfl (by rw [hml]; rfl) (W := 0) rfl (by decide) (by decide) (by decide) (by decide) (hb hby d22_52) rfl ?_
    intro T6 v6 L6 X6 q6
    obtain ⟨rfl, M6, K6, Er6, Fe6, Fh6, Ft6, Ae6⟩ := q6
    have N6 := Fr.app N4 M6
    show Run p e below s _ _ _ (T6.setTop (mkF m 55 #[.val (.ref this), .val (.ref ux), .val (.int 0)] []))
    have Z6 : n0 ≤ T6.heap.size := Nat.le_trans Z0 K6.1
    replace KP := KP.trans K6 (allS (Or.inl (by simp)) (allS (Or.inl (by simp)) all0))
    replace E_this := E_this.keep K6
    replace F_this_run := F_this_run.keep K6 (ninS ne_this_rq (ninS ne_this_ea nin0))
    replace F_this_order := F_this_order.keep K6 (ninS ne_this_rq (ninS ne_this_ea nin0))
    replace F_this_heap := F_this_heap.keep K6 (ninS ne_this_rq (ninS ne_this_ea nin0))
    replace O_ea := O_ea.keep K6
    replace E_hq := E_hq.keep K6
    replace F_hq_queue := F_hq_queue.keep K6 (ninS (Ne.symm ne_rq_hq) (ninS ne_hq_ea nin0))
    replace F_hq_comparator := F_hq_comparator.keep K6 (ninS (Ne.symm ne_rq_hq) (ninS ne_hq_ea nin0))
    replace F_hq_size := F_hq_size.keep K6 (ninS (Ne.symm ne_rq_hq) (ninS ne_hq_ea nin0))
    replace F_hq_modCount := F_hq_modCount.keep K6 (ninS (Ne.symm ne_rq_hq) (ninS ne_hq_ea nin0))
    replace A_qa := A_qa.keep K6 (ninS (Ne.symm ne_rq_qa) (ninS (Ne.symm ne_ea_qa) nin0))
    replace O_qa := O_qa.keep K6
    replace O_lam := O_lam.keep K6
    replace D_xs := D_xs.keep K6 (own_dnS ne_xs_rq (own_dnS ne_xs_ea own_dn0))
    replace E_ux := E_ux.keep K6
    refine Run.retV X6 hx hlk rfl hret (hb hby d22_55) (by decide) (by decide) ?_
    exact ⟨rfl, N6, KP, ⟨_, _, _, _, hd, (tl + 1), _, _, E_this, F_this_run, F_this_order, F_this_heap, Er6, Fe6, Fh6, Ft6, Ae6, O_ea, E_hq, F_hq_queue, F_hq_comparator, F_hq_size, F_hq_modCount, A_qa, O_qa, O_lam, D_xs, (own_rv_push hr hux tl8), Or.inl ⟨rfl, rfl⟩, by have := own_pn; have := hr.2.2.1; omega⟩⟩
   ·skip
    refine Run.x_iloadN (q := 7) X4 hx (hb hby d22_6) rfl rfl ?_
    refine Run.x_ifNo (q := 10) X4 hx (hb hby d22_7) ((if0 _ _).trans (feq (by decide : ¬ ((1 : Int32) = (0 : Int32)))).1) rfl ?_
    refine Run.x_aloadN (q := 11) X4 hx (hb hby d22_10) rfl rfl rfl ?_
    refine Run.z_getF (q := 14) X4 hx hZ e4 hown (wm79 hw) F_this_heap (hb hby d22_11) rfl fun T7 X7 e7 => ?_
    refine Run.x_aloadN (q := 15) X7 hx (hb hby d22_14) rfl rfl rfl ?_
    refine Run.z_getF (q := 18) X7 hx hZ e7 hown (wm52 hw) F_this_run (hb hby d22_15) rfl fun T8 X8 e8 => ?_
    refine Run.callV X8 hx hH e8 (y := (⟨"java/util/ArrayDeque", "pollLast", "()Ljava/lang/Object;"⟩ : MethodName)) (z := (⟨"java/util/ArrayDeque", "pollLast", "()Ljava/lang/Object;"⟩ : MethodName)) hown (wm221 hw) (wm222 hw) (notFace_of_selects (args := #[]) (mvT hZ (wm224 hw))) (wm224 hw) (wm223 hw) (wm37 hw) (wm225 hw) (by decide) (a := rq) E_rq (argsL := []) (rest := [(.ref hq)]) (c_pll l Z a0 hw rq h0 n0 Z0 ea vs hv_ tv dz1 t1 ul1 E_rq F_rq_elements F_rq_head F_rq_tail A_ea O_ea g_rq g_ea ne_rq_ea hr.2.2.2.2.1 hdz1 hi1 tl171 hv1) pd_8 rfl (by rw [hml]; rfl) (W := 1) rfl (by decide) (by decide) (by decide) (by decide) (hb hby d22_18) rfl ?_
    intro T9 v9 L9 X9 q9
    obtain ⟨rfl, M9, K9, Er9, Fe9, Fh9, Ft9, Ae9⟩ := q9
    have N9 := Fr.app N4 M9
    show Run p e below s _ _ _ (T9.setTop (mkF m 21 #[.val (.ref this), .val (.ref ux), .val (.int 1)] [(.ref ul1), (.ref hq)]))
    have Z9 : n0 ≤ T9.heap.size := Nat.le_trans Z0 K9.1
    replace KP := KP.trans K9 (allS (Or.inl (by simp)) (allS (Or.inl (by simp)) all0))
    replace E_hq := E_hq.keep K9
    replace F_hq_queue := F_hq_queue.keep K9 (ninS (Ne.symm ne_rq_hq) (ninS ne_hq_ea nin0))
    replace F_hq_comparator := F_hq_comparator.keep K9 (ninS (Ne.symm ne_rq_hq) (ninS ne_hq_ea nin0))
    replace F_hq_size := F_hq_size.keep K9 (ninS (Ne.symm ne_rq_hq) (ninS ne_hq_ea nin0))
    replace F_hq_modCount := F_hq_modCount.keep K9 (ninS (Ne.symm ne_rq_hq) (ninS ne_hq_ea nin0))
    replace A_qa := A_qa.keep K9 (ninS (Ne.symm ne_rq_qa) (ninS (Ne.symm ne_ea_qa) nin0))
    replace O_qa := O_qa.keep K9
    replace O_lam := O_lam.keep K9
    replace D_xs := D_xs.keep K9 (own_dnS ne_xs_rq (own_dnS ne_xs_ea own_dn0))
    refine Run.callV X9 hx hH rfl (y := (⟨"java/util/PriorityQueue", "add", "(Ljava/lang/Object;)Z"⟩ : MethodName)) (z := (⟨"java/util/PriorityQueue", "add", "(Ljava/lang/Object;)Z"⟩ : MethodName)) hown (wm226 hw) (wm227 hw) (notFace_of_selects (args := #[]) (mvT hZ (wm229 hw))) (wm229 hw) (wm228 hw) (wm58 hw) (wm230 hw) (by decide) (a := hq) E_hq (argsL := [(.ref ul1)]) (rest := []) (c_addh0 l Z a0 hw hq ul1 T9.heap n0 Z9 lam cK P xs qa mc E_hq F_hq_queue F_hq_comparator F_hq_size F_hq_modCount A_qa O_qa O_lam D_xs g_hq g_qa ne_hq_qa ne_xs_hq ne_xs_qa hul1) pd_6 rfl (by rw [hml]; rfl) (W := 0) rfl (by decide) (by decide) (by decide) (by decide) (hb hby d22_21) rfl ?_
    intro T10 v10 L10 X10 q10
    obtain ⟨rfl, M10, K10, Eh10, Fq10, Fc10, Fs10, Fm10, Aq10⟩ := q10
    have N10 := Fr.app N9 M10
    show Run p e below s _ _ _ (T10.setTop (mkF m 24 #[.val (.ref this), .val (.ref ux), .val (.int 1)] [(.int 1)]))
    have Z10 : n0 ≤ T10.heap.size := Nat.le_trans Z9 K10.1
    replace KP := KP.trans K10 (allS (Or.inl (by simp)) (allS (Or.inl (by simp)) all0))
    refine Run.x_pop (q := 25) X10 hx (hb hby d22_24) rfl rfl ?_
    refine Run.x_aloadN (q := 26) X10 hx (hb hby d22_25) rfl rfl rfl ?_
    refine Run.x_aloadN (q := 27) X10 hx (hb hby d22_26) rfl rfl rfl ?_
    by_cases hE2 : hd = t1
    ·skip
     obtain ⟨dz2, ii2, hdz2, hi2, hn2⟩ := own_lastN r1' hE2
     replace E_this := (E_this.keep K9).keep K10
     replace F_this_run := (F_this_run.keep K9 (ninS ne_this_rq (ninS ne_this_ea nin0))).keep K10 (ninS ne_this_hq (ninS ne_this_qa nin0))
     replace F_this_order := (F_this_order.keep K9 (ninS ne_this_rq (ninS ne_this_ea nin0))).keep K10 (ninS ne_this_hq (ninS ne_this_qa nin0))
     replace Er9 := Er9.keep K10
     replace Fe9 := Fe9.keep K10 (ninS ne_rq_hq (ninS ne_rq_qa nin0))
     replace Ft9 := Ft9.keep K10 (ninS ne_rq_hq (ninS ne_rq_qa nin0))
     replace Ae9 := Ae9.keep K10 (ninS (Ne.symm ne_hq_ea) (ninS ne_ea_qa nin0))
     replace O_lam := O_lam.keep K10
     replace D_xs := D_xs.keep K10 (own_dnS ne_xs_hq (own_dnS ne_xs_qa own_dn0))
     refine own_callP X10 hx hH rfl (y := (⟨"com/example/framewheel/framewheel/core/TimeOrderedQueue", "ordersBeforeLastOfRun", "(Ljava/lang/Object;)Z"⟩ : MethodName)) (y2 := (⟨"com/example/framewheel/framewheel/core/TimeOrderedQueue", "add", "(Ljava/lang/Object;)V"⟩ : MethodName)) hown (wm138 hw) (wm139 hw) (wm140 hw) (wm136 hw) rfl (wm27 hw) (wm141 hw) (by decide) (a := this) E_this (argsL := [(.ref ux)]) (rest := []) (c_obl_n l Z a0 hw this ux T10.heap n0 Z10 cK P xs lam rq ea (vs.set t1 .null) dz1 dz2 ii2 E_this F_this_run F_this_order Er9 Fe9 Ft9 Ae9 O_lam D_xs r1'.2.2.2.2.1 hdz2 hi2 hn2) pd_6 rfl (by rw [hml]; rfl) (W := 0) rfl (by decide) (by decide) (by decide) (by decide) (hb hby d22_27) rfl ?_
     intro T11 v11 L11 X11 q11
     obtain ⟨rfl, M11, e11⟩ := q11
     have N11 := Fr.app N10 M11
     show Run p e below s _ _ _ (T11.setTop (mkF m 30 #[.val (.ref this), .val (.ref ux), .val (.int 1)] [(.int 0)]))
     refine Run.x_istoreN (q := 31) X11 hx #[.val (.ref this), .val (.ref ux), .val (.int 0)] (hb hby d22_30) rfl rfl ?_
     refine Run.x_iloadN (q := 32) X11 hx (hb hby d22_31) rfl rfl ?_
     refine Run.x_ifYes (q := 47) X11 hx (hb hby d22_32) ((if0 _ _).trans (teq (by decide : (0 : Int32) = (0 : Int32))).1) (by decide) (by decide) ?_
     refine Run.x_aloadN (q := 48) X11 hx (hb hby d22_47) rfl rfl rfl ?_
     refine Run.z_getF (q := 51) X11 hx hZ e11 hown (wm52 hw) F_this_run (hb hby d22_48) rfl fun T12 X12 e12 => ?_
     refine Run.x_aloadN (q := 52) X12 hx (hb hby d22_51) rfl rfl rfl ?_
     have tl8 : t1 < 8 := by have := hr.2.2.1; omega
     replace Fh9 := Fh9.keep K10 (ninS ne_rq_hq (ninS ne_rq_qa nin0))
     replace O_ea := (O_ea.keep K9).keep K10
     replace E_ux := (E_ux.keep K9).keep K10
     refine Run.callV X12 hx hH e12 (y := (⟨"java/util/ArrayDeque", "addLast", "(Ljava/lang/Object;)V"⟩ : MethodName)) (z := (⟨"java/util/ArrayDeque", "addLast", "(Ljava/lang/Object;)V"⟩ : MethodName)) hown (wm155 hw) (wm156 hw) (notFace_of_selects (args := #[]) (mvT hZ (wm158 hw))) (wm158 hw) (wm157 hw) (wm37 hw) (wm159 hw) (by decide) (a := rq) Er9 (argsL := [(.ref ux)]) (rest := []) (c_addl l Z a0 hw rq ux T10.heap n0 Z10 ea (vs.set t1 .null) hv_ dz1 t1 Er9 Fe9 Fh9 Ft9 Ae9 O_ea E_ux g_rq g_ea ne_rq_ea r1'.2.2.2.2.1 r1'.2.1 (by omega) (own_lt17 r1'.2.1 (by omega)) (own_neT1 r1'.1 r1'.2.1 (by have := r1'.2.2.1; omega) (by omega))) pd_9 rfl (by rw [hml]; rfl) (W := 0) rfl (by decide) (by decide) (by decide) (by decide) (hb hby d22_52) rfl ?_
     intro T13 v13 L13 X13 q13
     obtain ⟨rfl, M13, K13, Er13, Fe13, Fh13, Ft13, Ae13⟩ := q13
     have N13 := Fr.app N11 M13
     show Run p e below s _ _ _ (T13.setTop (mkF m 55 #[.val (.ref this), .val (.ref ux), .val (.int 0)] []))
     have Z13 : n0 ≤ T13.heap.size := Nat.le_trans Z10 K13.1
     replace KP := KP.trans K13 (allS (Or.inl (by simp)) (allS (Or.inl (by simp)) all0))
     replace E_this := E_this.keep K13
     replace F_this_run := F_this_run.keep K13 (ninS ne_this_rq (ninS ne_this_ea nin0))
     replace F_this_order := F_this_order.keep K13 (ninS ne_this_rq (ninS ne_this_ea nin0))
     replace F_this_heap := ((F_this_heap.keep K9 (ninS ne_this_rq (ninS ne_this_ea nin0))).keep K10 (ninS ne_this_hq (ninS ne_this_qa nin0))).keep K13 (ninS ne_this_rq (ninS ne_this_ea nin0))
     replace O_ea := O_ea.keep K13
     replace Eh10 := Eh10.keep K13
     replace O_qa := (O_qa.keep K10).keep K13
     replace O_lam := O_lam.keep K13
     replace D_xs := D_xs.keep K13 (own_dnS ne_xs_rq (own_dnS ne_xs_ea own_dn0))
     replace E_ux := E_ux.keep K13
     replace Fq10 := Fq10.keep K13 (ninS (Ne.symm ne_rq_hq) (ninS ne_hq_ea nin0))
     replace Fc10 := Fc10.keep K13 (ninS (Ne.symm ne_rq_hq) (ninS ne_hq_ea nin0))
     replace Fs10 := Fs10.keep K13 (ninS (Ne.symm ne_rq_hq) (ninS ne_hq_ea nin0))
     replace Fm10 := Fm10.keep K13 (ninS (Ne.symm ne_rq_hq) (ninS ne_hq_ea nin0))
     replace Aq10 := Aq10.keep K13 (ninS (Ne.symm ne_rq_qa) (ninS (Ne.symm ne_ea_qa) nin0))
     refine Run.retV X13 hx hlk rfl hret (hb hby d22_55) (by decide) (by decide) ?_
     exact ⟨rfl, N13, KP, ⟨_, _, _, _, hd, (t1 + 1), _, _, E_this, F_this_run, F_this_order, F_this_heap, Er13, Fe13, Fh13, Ft13, Ae13, O_ea, Eh10, Fq10, Fc10, Fs10, Fm10, Aq10, O_qa, O_lam, D_xs, (own_rv_push r1' hux tl8), Or.inr (Or.inl ⟨ul1, hul1, rfl, rfl⟩), by have := own_pn; have := hr.2.2.1; omega⟩⟩
    ·skip
     obtain ⟨t2, ul2, dz2, hul2, etl2, hdt2, tl172, hdz2, hi2, hv2, r2'⟩ := own_lastR r1' hE2
     replace E_this := (E_this.keep K9).keep K10
     replace F_this_run := (F_this_run.keep K9 (ninS ne_this_rq (ninS ne_this_ea nin0))).keep K10 (ninS ne_this_hq (ninS ne_this_qa nin0))
     replace F_this_order := (F_this_order.keep K9 (ninS ne_this_rq (ninS ne_this_ea nin0))).keep K10 (ninS ne_this_hq (ninS ne_this_qa nin0))
     replace Er9 := Er9.keep K10
     replace Fe9 := Fe9.keep K10 (ninS ne_rq_hq (ninS ne_rq_qa nin0))
     replace Ft9 := Ft9.keep K10 (ninS ne_rq_hq (ninS ne_rq_qa nin0))
     replace Ae9 := Ae9.keep K10 (ninS (Ne.symm ne_hq_ea) (ninS ne_ea_qa nin0))
     replace O_lam := O_lam.keep K10
     replace D_xs := D_xs.keep K10 (own_dnS ne_xs_hq (own_dnS ne_xs_qa own_dn0))
     refine own_callP X10 hx hH rfl (y := (⟨"com/example/framewheel/framewheel/core/TimeOrderedQueue", "ordersBeforeLastOfRun", "(Ljava/lang/Object;)Z"⟩ : MethodName)) (y2 := (⟨"com/example/framewheel/framewheel/core/TimeOrderedQueue", "add", "(Ljava/lang/Object;)V"⟩ : MethodName)) hown (wm138 hw) (wm139 hw) (wm140 hw) (wm136 hw) rfl (wm27 hw) (wm141 hw) (by decide) (a := this) E_this (argsL := [(.ref ux)]) (rest := []) (c_obl_r l Z a0 hw this ux T10.heap n0 Z10 cK P xs lam rq ea (vs.set t1 .null) dz1 dz2 t2 ul2 E_this F_this_run F_this_order Er9 Fe9 Ft9 Ae9 O_lam D_xs r1'.2.2.2.2.1 hdz2 hi2 hv2 hul2 hux) pd_6 rfl (by rw [hml]; rfl) (W := 0) rfl (by decide) (by decide) (by decide) (by decide) (hb hby d22_27) rfl ?_
     intro T14 v14 L14 X14 q14
     obtain ⟨z14, rfl, M14, e14, hz14⟩ := q14
     have N14 := Fr.app N10 M14
     show Run p e below s _ _ _ (T14.setTop (mkF m 30 #[.val (.ref this), .val (.ref ux), .val (.int 1)] [(.int z14)]))
     refine Run.x_istoreN (q := 31) X14 hx #[.val (.ref this), .val (.ref ux), .val (.int z14)] (hb hby d22_30) rfl rfl ?_
     rcases hz14 with rfl | rfl
     ·skip
      refine Run.x_iloadN (q := 32) X14 hx (hb hby d22_31) rfl rfl ?_
      refine Run.x_ifYes (q := 47) X14 hx (hb hby d22_32) ((if0 _ _).trans (teq (by decide : (0 : Int32) = (0 : Int32))).1) (by decide) (by decide) ?_
      refine Run.x_aloadN (q := 48) X14 hx (hb hby d22_47) rfl rfl rfl ?_
      refine Run.z_getF (q := 51) X14 hx hZ e14 hown (wm52 hw) F_this_run (hb hby d22_48) rfl fun T15 X15 e15 => ?_
      refine Run.x_aloadN (q := 52) X15 hx (hb hby d22_51) rfl rfl rfl ?_
      have tl8 : t1 < 8 := by have := hr.2.2.1; omega
      replace Fh9 := Fh9.keep K10 (ninS ne_rq_hq (ninS ne_rq_qa nin0))
      replace O_ea := (O_ea.keep K9).keep K10
      replace E_ux := (E_ux.keep K9).keep K10
      refine Run.callV X15 hx hH e15 (y := (⟨"java/util/ArrayDeque", "addLast", "(Ljava/lang/Object;)V"⟩ : MethodName)) (z := (⟨"java/util/ArrayDeque", "addLast", "(Ljava/lang/Object;)V"⟩ : MethodName)) hown (wm155 hw) (wm156 hw) (notFace_of_selects (args := #[]) (mvT hZ (wm158 hw))) (wm158 hw) (wm157 hw) (wm37 hw) (wm159 hw) (by decide) (a := rq) Er9 (argsL := [(.ref ux)]) (rest := []) (c_addl l Z a0 hw rq ux T10.heap n0 Z10 ea (vs.set t1 .null) hv_ dz1 t1 Er9 Fe9 Fh9 Ft9 Ae9 O_ea E_ux g_rq g_ea ne_rq_ea r1'.2.2.2.2.1 r1'.2.1 (by omega) (own_lt17 r1'.2.1 (by omega)) (own_neT1 r1'.1 r1'.2.1 (by have := r1'.2.2.1; omega) (by omega))) pd_9 rfl (by rw [hml]; rfl) (W := 0) rfl (by decide) (by decide) (by decide) (by decide) (hb hby d22_52) rfl ?_
      intro T16 v16 L16 X16 q16
      obtain ⟨rfl, M16, K16, Er16, Fe16, Fh16, Ft16, Ae16⟩ := q16
      have N16 := Fr.app N14 M16
      show Run p e below s _ _ _ (T16.setTop (mkF m 55 #[.val (.ref this), .val (.ref ux), .val (.int 0)] []))
      have Z16 : n0 ≤ T16.heap.size := Nat.le_trans Z10 K16.1
      replace KP := KP.trans K16 (allS (Or.inl (by simp)) (allS (Or.inl (by simp)) all0))
      replace E_this := E_this.keep K16
      replace F_this_run := F_this_run.keep K16 (ninS ne_this_rq (ninS ne_this_ea nin0))
      replace F_this_order := F_this_order.keep K16 (ninS ne_this_rq (ninS ne_this_ea nin0))
      replace F_this_heap := ((F_this_heap.keep K9 (ninS ne_this_rq (ninS ne_this_ea nin0))).keep K10 (ninS ne_this_hq (ninS ne_this_qa nin0))).keep K16 (ninS ne_this_rq (ninS ne_this_ea nin0))
      replace O_ea := O_ea.keep K16
      replace Eh10 := Eh10.keep K16
      replace O_qa := (O_qa.keep K10).keep K16
      replace O_lam := O_lam.keep K16
      replace D_xs := D_xs.keep K16 (own_dnS ne_xs_rq (own_dnS ne_xs_ea own_dn0))
      replace E_ux := E_ux.keep K16
      replace Fq10 := Fq10.keep K16 (ninS (Ne.symm ne_rq_hq) (ninS ne_hq_ea nin0))
      replace Fc10 := Fc10.keep K16 (ninS (Ne.symm ne_rq_hq) (ninS ne_hq_ea nin0))
      replace Fs10 := Fs10.keep K16 (ninS (Ne.symm ne_rq_hq) (ninS ne_hq_ea nin0))
      replace Fm10 := Fm10.keep K16 (ninS (Ne.symm ne_rq_hq) (ninS ne_hq_ea nin0))
      replace Aq10 := Aq10.keep K16 (ninS (Ne.symm ne_rq_qa) (ninS (Ne.symm ne_ea_qa) nin0))
      refine Run.retV X16 hx hlk rfl hret (hb hby d22_55) (by decide) (by decide) ?_
      exact ⟨rfl, N16, KP, ⟨_, _, _, _, hd, (t1 + 1), _, _, E_this, F_this_run, F_this_order, F_this_heap, Er16, Fe16, Fh16, Ft16, Ae16, O_ea, Eh10, Fq10, Fc10, Fs10, Fm10, Aq10, O_qa, O_lam, D_xs, (own_rv_push r1' hux tl8), Or.inr (Or.inl ⟨ul1, hul1, rfl, rfl⟩), by have := own_pn; have := hr.2.2.1; omega⟩⟩
     ·skip
      refine Run.x_iloadN (q := 32) X14 hx (hb hby d22_31) rfl rfl ?_
      refine Run.x_ifNo (q := 35) X14 hx (hb hby d22_32) ((if0 _ _).trans (feq (by decide : ¬ ((1 : Int32) = (0 : Int32)))).1) rfl ?_
      refine Run.x_aloadN (q := 36) X14 hx (hb hby d22_35) rfl rfl rfl ?_
      replace F_this_heap := (F_this_heap.keep K9 (ninS ne_this_rq (ninS ne_this_ea nin0))).keep K10 (ninS ne_this_hq (ninS ne_this_qa nin0))
      refine Run.z_getF (q := 39) X14 hx hZ e14 hown (wm79 hw) F_this_heap (hb hby d22_36) rfl fun T17 X17 e17 => ?_
      refine Run.x_aloadN (q := 40) X17 hx (hb hby d22_39) rfl rfl rfl ?_
      replace O_qa := O_qa.keep K10
      refine Run.callV X17 hx hH e17 (y := (⟨"java/util/PriorityQueue", "add", "(Ljava/lang/Object;)Z"⟩ : MethodName)) (z := (⟨"java/util/PriorityQueue", "add", "(Ljava/lang/Object;)Z"⟩ : MethodName)) hown (wm226 hw) (wm227 hw) (notFace_of_selects (args := #[]) (mvT hZ (wm229 hw))) (wm229 hw) (wm228 hw) (wm58 hw) (wm230 hw) (by decide) (a := hq) Eh10 (argsL := [(.ref ux)]) (rest := []) (c_addh1 l Z a0 hw hq ux T10.heap n0 Z10 lam cK P xs qa (mc + (1 : Int32)) ul1 Eh10 Fq10 Fc10 Fs10 Fm10 Aq10 O_qa O_lam D_xs g_hq g_qa ne_hq_qa ne_xs_hq ne_xs_qa hux hul1) pd_6 rfl (by rw [hml]; rfl) (W := 0) rfl (by decide) (by decide) (by decide) (by decide) (hb hby d22_40) rfl ?_
      intro T18 v18 L18 X18 q18
      obtain ⟨rfl, M18, K18, Eh18, Fq18, Fc18, Fs18, Fm18, Aq18⟩ := q18
      have N18 := Fr.app N14 M18
      show Run p e below s _ _ _ (T18.setTop (mkF m 43 #[.val (.ref this), .val (.ref ux), .val (.int 1)] [(.int 1)]))
      have Z18 : n0 ≤ T18.heap.size := Nat.le_trans Z10 K18.1
      replace KP := KP.trans K18 (allS (Or.inl (by simp)) (allS (Or.inl (by simp)) all0))
      obtain ⟨ya18, hya18, yb18, hyb18, Aq18⟩ := Aq18
      refine Run.x_pop (q := 44) X18 hx (hb hby d22_43) rfl rfl ?_
      refine Run.x_goto (q := 55) X18 hx (hb hby d22_44) (by decide) (by decide) ?_
      replace E_this := E_this.keep K18
      replace F_this_run := F_this_run.keep K18 (ninS ne_this_hq (ninS ne_this_qa nin0))
      replace F_this_order := F_this_order.keep K18 (ninS ne_this_hq (ninS ne_this_qa nin0))
      replace F_this_heap := F_this_heap.keep K18 (ninS ne_this_hq (ninS ne_this_qa nin0))
      replace Er9 := Er9.keep K18
      replace O_ea := ((O_ea.keep K9).keep K10).keep K18
      replace O_qa := O_qa.keep K18
      replace O_lam := O_lam.keep K18
      replace D_xs := D_xs.keep K18 (own_dnS ne_xs_hq (own_dnS ne_xs_qa own_dn0))
      replace E_ux := ((E_ux.keep K9).keep K10).keep K18
      replace Fe9 := Fe9.keep K18 (ninS ne_rq_hq (ninS ne_rq_qa nin0))
      replace Fh9 := (Fh9.keep K10 (ninS ne_rq_hq (ninS ne_rq_qa nin0))).keep K18 (ninS ne_rq_hq (ninS ne_rq_qa nin0))
      replace Ft9 := Ft9.keep K18 (ninS ne_rq_hq (ninS ne_rq_qa nin0))
      replace Ae9 := Ae9.keep K18 (ninS (Ne.symm ne_hq_ea) (ninS ne_ea_qa nin0))
      refine Run.retV X18 hx hlk rfl hret (hb hby d22_55) (by decide) (by decide) ?_
      exact ⟨rfl, N18, KP, ⟨_, _, _, _, hd, t1, _, _, E_this, F_this_run, F_this_order, F_this_heap, Er9, Fe9, Fh9, Ft9, Ae9, O_ea, Eh18, Fq18, Fc18, Fs18, Fm18, Aq18, O_qa, O_lam, D_xs, r1', Or.inr (Or.inr ⟨ya18, hya18, yb18, hyb18, rfl, rfl⟩), by have := own_pn; have := hr.2.2.1; omega⟩⟩
 ·skip
  by_cases hE : hd = tl
  ·skip
   refine Run.x_aloadN (q := 1) X0 hx (hb hby d22_0) rfl rfl rfl ?_
   refine Run.x_aloadN (q := 2) X0 hx (hb hby d22_1) rfl rfl rfl ?_
   obtain ⟨dz1, ii1, hdz1, hi1, hn1⟩ := own_lastN hr hE
   refine own_callP X0 hx hH e0 (y := (⟨"com/example/framewheel/framewheel/core/TimeOrderedQueue", "ordersBeforeLastOfRun", "(Ljava/lang/Object;)Z"⟩ : MethodName)) (y2 := (⟨"com/example/framewheel/framewheel/core/TimeOrderedQueue", "add", "(Ljava/lang/Object;)V"⟩ : MethodName)) hown (wm138 hw) (wm139 hw) (wm140 hw) (wm136 hw) rfl (wm27 hw) (wm141 hw) (by decide) (a := this) E_this (argsL := [(.ref ux)]) (rest := []) (c_obl_n l Z a0 hw this ux h0 n0 Z0 cK P xs lam rq ea vs tv dz1 ii1 E_this F_this_run F_this_order E_rq F_rq_elements F_rq_tail A_ea O_lam D_xs hr.2.2.2.2.1 hdz1 hi1 hn1) pd_6 rfl (by rw [hml]; rfl) (W := 0) rfl (by decide) (by decide) (by decide) (by decide) (hb hby d22_2) rfl ?_
   intro T19 v19 L19 X19 q19
   obtain ⟨rfl, M19, e19⟩ := q19
   have N19 := Fr.app N0 M19
   show Run p e below s _ _ _ (T19.setTop (mkF m 5 #[.val (.ref this), .val (.ref ux), .unset] [(.int 0)]))
   refine Run.x_istoreN (q := 6) X19 hx #[.val (.ref this), .val (.ref ux), .val (.int 0)] (hb hby d22_5) rfl rfl ?_
   refine Run.x_iloadN (q := 7) X19 hx (hb hby d22_6) rfl rfl ?_
   refine Run.x_ifYes (q := 31) X19 hx (hb hby d22_7) ((if0 _ _).trans (teq (by decide : (0 : Int32) = (0 : Int32))).1) (by decide) (by decide) ?_
   refine Run.x_iloadN (q := 32) X19 hx (hb hby d22_31) rfl rfl ?_
   refine Run.x_ifYes (q := 47) X19 hx (hb hby d22_32) ((if0 _ _).trans (teq (by decide : (0 : Int32) = (0 : Int32))).1) (by decide) (by decide) ?_
   refine Run.x_aloadN (q := 48) X19 hx (hb hby d22_47) rfl rfl rfl ?_
   refine Run.z_getF (q := 51) X19 hx hZ e19 hown (wm52 hw) F_this_run (hb hby d22_48) rfl fun T20 X20 e20 => ?_
   refine Run.x_aloadN (q := 52) X20 hx (hb hby d22_51) rfl rfl rfl ?_
   have tl8 : tl < 8 := by have := hr.2.2.1; omega
   refine Run.callV X20 hx hH e20 (y := (⟨"java/util/ArrayDeque", "addLast", "(Ljava/lang/Object;)V"⟩ : MethodName)) (z := (⟨"java/util/ArrayDeque", "addLast", "(Ljava/lang/Object;)V"⟩ : MethodName)) hown (wm155 hw) (wm156 hw) (notFace_of_selects (args := #[]) (mvT hZ (wm158 hw))) (wm158 hw) (wm157 hw) (wm37 hw) (wm159 hw) (by decide) (a := rq) E_rq (argsL := [(.ref ux)]) (rest := []) (c_addl l Z a0 hw rq ux h0 n0 Z0 ea vs hv_ tv tl E_rq F_rq_elements F_rq_head F_rq_tail A_ea O_ea E_ux g_rq g_ea ne_rq_ea hr.2.2.2.2.1 hr.2.1 (by omega) (own_lt17 hr.2.1 (by omega)) (own_neT1 hr.1 hr.2.1 (by have := hr.2.2.1; omega) (by omega))) pd_9 rfl (by rw [hml]; rfl) (W := 0) rfl (by decide) (by decide) (by decide) (by decide) (hb hby d22_52) rfl ?_
   intro T21 v21 L21 X21 q21
   obtain ⟨rfl, M21, K21, Er21, Fe21, Fh21, Ft21, Ae21⟩ := q21
   have N21 := Fr.app N19 M21
   show Run p e below s _ _ _ (T21.setTop (mkF m 55 #[.val (.ref this), .val (.ref ux), .val (.int 0)] []))
   have Z21 : n0 ≤ T21.heap.size := Nat.le_trans Z0 K21.1
   replace KP := KP.trans K21 (allS (Or.inl (by simp)) (allS (Or.inl (by simp)) all0))
   replace E_this := E_this.keep K21
   replace F_this_run := F_this_run.keep K21 (ninS ne_this_rq (ninS ne_this_ea nin0))
   replace F_this_order := F_this_order.keep K21 (ninS ne_this_rq (ninS ne_this_ea nin0))
   replace F_this_heap := F_this_heap.keep K21 (ninS ne_this_rq (ninS ne_this_ea nin0))
   replace O_ea := O_ea.keep K21
   replace E_hq := E_hq.keep K21
   replace F_hq_queue := F_hq_queue.keep K21 (ninS (Ne.symm ne_rq_hq) (ninS ne_hq_ea nin0))
   replace F_hq_comparator := F_hq_comparator.keep K21 (ninS (Ne.symm ne_rq_hq) (ninS ne_hq_ea nin0))
   replace F_hq_size := F_hq_size.keep K21 (ninS (Ne.symm ne_rq_hq) (ninS ne_hq_ea nin0))
   replace F_hq_modCount := F_hq_modCount.keep K21 (ninS (Ne.symm ne_rq_hq) (ninS ne_hq_ea nin0))
   replace A_qa := A_qa.keep K21 (ninS (Ne.symm ne_rq_qa) (ninS (Ne.symm ne_ea_qa) nin0))
   replace O_qa := O_qa.keep K21
   replace O_lam := O_lam.keep K21
   replace D_xs := D_xs.keep K21 (own_dnS ne_xs_rq (own_dnS ne_xs_ea own_dn0))
   replace E_ux := E_ux.keep K21
   refine Run.retV X21 hx hlk rfl hret (hb hby d22_55) (by decide) (by decide) ?_
   exact ⟨rfl, N21, KP, ⟨_, _, _, _, hd, (tl + 1), _, _, E_this, F_this_run, F_this_order, F_this_heap, Er21, Fe21, Fh21, Ft21, Ae21, O_ea, E_hq, F_hq_queue, F_hq_comparator, F_hq_size, F_hq_modCount, A_qa, O_qa, O_lam, D_xs, (own_rv_push hr hux tl8), Or.inr (Or.inl ⟨y1, hy1, rfl, rfl⟩), by have := own_pn; have := hr.2.2.1; omega⟩⟩
  ·skip
   refine Run.x_aloadN (q := 1) X0 hx (hb hby d22_0) rfl rfl rfl ?_
   refine Run.x_aloadN (q := 2) X0 hx (hb hby d22_1) rfl rfl rfl ?_
   obtain ⟨t1, ul1, dz1, hul1, etl1, hdt1, tl171, hdz1, hi1, hv1, r1'⟩ := own_lastR hr hE
   refine own_callP X0 hx hH e0 (y := (⟨"com/example/framewheel/framewheel/core/TimeOrderedQueue", "ordersBeforeLastOfRun", "(Ljava/lang/Object;)Z"⟩ : MethodName)) (y2 := (⟨"com/example/framewheel/framewheel/core/TimeOrderedQueue", "add", "(Ljava/lang/Object;)V"⟩ : MethodName)) hown (wm138 hw) (wm139 hw) (wm140 hw) (wm136 hw) rfl (wm27 hw) (wm141 hw) (by decide) (a := this) E_this (argsL := [(.ref ux)]) (rest := []) (c_obl_r l Z a0 hw this ux h0 n0 Z0 cK P xs lam rq ea vs tv dz1 t1 ul1 E_this F_this_run F_this_order E_rq F_rq_elements F_rq_tail A_ea O_lam D_xs hr.2.2.2.2.1 hdz1 hi1 hv1 hul1 hux) pd_6 rfl (by rw [hml]; rfl) (W := 0) rfl (by decide) (by decide) (by decide) (by decide) (hb hby d22_2) rfl ?_
   intro T22 v22 L22 X22 q22
   obtain ⟨z22, rfl, M22, e22, hz22⟩ := q22
   have N22 := Fr.app N0 M22
   show Run p e below s _ _ _ (T22.setTop (mkF m 5 #[.val (.ref this), .val (.ref ux), .unset] [(.int z22)]))
   refine Run.x_istoreN (q := 6) X22 hx #[.val (.ref this), .val (.ref ux), .val (.int z22)] (hb hby d22_5) rfl rfl ?_
   rcases hz22 with rfl | rfl
   ·skip
    refine Run.x_iloadN (q := 7) X22 hx (hb hby d22_6) rfl rfl ?_
    refine Run.x_ifYes (q := 31) X22 hx (hb hby d22_7) ((if0 _ _).trans (teq (by decide : (0 : Int32) = (0 : Int32))).1) (by decide) (by decide) ?_
    refine Run.x_iloadN (q := 32) X22 hx (hb hby d22_31) rfl rfl ?_
    refine Run.x_ifYes (q := 47) X22 hx (hb hby d22_32) ((if0 _ _).trans (teq (by decide : (0 : Int32) = (0 : Int32))).1) (by decide) (by decide) ?_
    refine Run.x_aloadN (q := 48) X22 hx (hb hby d22_47) rfl rfl rfl ?_
    refine Run.z_getF (q := 51) X22 hx hZ e22 hown (wm52 hw) F_this_run (hb hby d22_48) rfl fun T23 X23 e23 => ?_
    refine Run.x_aloadN (q := 52) X23 hx (hb hby d22_51) rfl rfl rfl ?_
    have tl8 : tl < 8 := by have := hr.2.2.1; omega
    refine Run.callV X23 hx hH e23 (y := (⟨"java/util/ArrayDeque", "addLast", "(Ljava/lang/Object;)V"⟩ : MethodName)) (z := (⟨"java/util/ArrayDeque", "addLast", "(Ljava/lang/Object;)V"⟩ : MethodName)) hown (wm155 hw) (wm156 hw) (notFace_of_selects (args := #[]) (mvT hZ (wm158 hw))) (wm158 hw) (wm157 hw) (wm37 hw) (wm159 hw) (by decide) (a := rq) E_rq (argsL := [(.ref ux)]) (rest := []) (c_addl l Z a0 hw rq ux h0 n0 Z0 ea vs hv_ tv tl E_rq F_rq_elements F_rq_head F_rq_tail A_ea O_ea E_ux g_rq g_ea ne_rq_ea hr.2.2.2.2.1 hr.2.1 (by omega) (own_lt17 hr.2.1 (by omega)) (own_neT1 hr.1 hr.2.1 (by have := hr.2.2.1; omega) (by omega))) pd_9 rfl (by rw [hml]; rfl) (W := 0) rfl (by decide) (by decide) (by decide) (by decide) (hb hby d22_52) rfl ?_
    intro T24 v24 L24 X24 q24
    obtain ⟨rfl, M24, K24, Er24, Fe24, Fh24, Ft24, Ae24⟩ := q24
    have N24 := Fr.app N22 M24
    show Run p e below s _ _ _ (T24.setTop (mkF m 55 #[.val (.ref this), .val (.ref ux), .val (.int 0)] []))
    have Z24 : n0 ≤ T24.heap.size := Nat.le_trans Z0 K24.1
    replace KP := KP.trans K24 (allS (Or.inl (by simp)) (allS (Or.inl (by simp)) all0))
    replace E_this := E_this.keep K24
    replace F_this_run := F_this_run.keep K24 (ninS ne_this_rq (ninS ne_this_ea nin0))
    replace F_this_order := F_this_order.keep K24 (ninS ne_this_rq (ninS ne_this_ea nin0))
    replace F_this_heap := F_this_heap.keep K24 (ninS ne_this_rq (ninS ne_this_ea nin0))
    replace O_ea := O_ea.keep K24
    replace E_hq := E_hq.keep K24
    replace F_hq_queue := F_hq_queue.keep K24 (ninS (Ne.symm ne_rq_hq) (ninS ne_hq_ea nin0))
    replace F_hq_comparator := F_hq_comparator.keep K24 (ninS (Ne.symm ne_rq_hq) (ninS ne_hq_ea nin0))
    replace F_hq_size := F_hq_size.keep K24 (ninS (Ne.symm ne_rq_hq) (ninS ne_hq_ea nin0))
    replace F_hq_modCount := F_hq_modCount.keep K24 (ninS (Ne.symm ne_rq_hq) (ninS ne_hq_ea nin0))
    replace A_qa := A_qa.keep K24 (ninS (Ne.symm ne_rq_qa) (ninS (Ne.symm ne_ea_qa) nin0))
    replace O_qa := O_qa.keep K24
    replace O_lam := O_lam.keep K24
    replace D_xs := D_xs.keep K24 (own_dnS ne_xs_rq (own_dnS ne_xs_ea own_dn0))
    replace E_ux := E_ux.keep K24
    refine Run.retV X24 hx hlk rfl hret (hb hby d22_55) (by decide) (by decide) ?_
    exact ⟨rfl, N24, KP, ⟨_, _, _, _, hd, (tl + 1), _, _, E_this, F_this_run, F_this_order, F_this_heap, Er24, Fe24, Fh24, Ft24, Ae24, O_ea, E_hq, F_hq_queue, F_hq_comparator, F_hq_size, F_hq_modCount, A_qa, O_qa, O_lam, D_xs, (own_rv_push hr hux tl8), Or.inr (Or.inl ⟨y1, hy1, rfl, rfl⟩), by have := own_pn; have := hr.2.2.1; omega⟩⟩
   ·skip
    refine Run.x_iloadN (q := 7) X22 hx (hb hby d22_6) rfl rfl ?_
    refine Run.x_ifNo (q := 10) X22 hx (hb hby d22_7) ((if0 _ _).trans (feq (by decide : ¬ ((1 : Int32) = (0 : Int32)))).1) rfl ?_
    refine Run.x_aloadN (q := 11) X22 hx (hb hby d22_10) rfl rfl rfl ?_
    refine Run.z_getF (q := 14) X22 hx hZ e22 hown (wm79 hw) F_this_heap (hb hby d22_11) rfl fun T25 X25 e25 => ?_
    refine Run.x_aloadN (q := 15) X25 hx (hb hby d22_14) rfl rfl rfl ?_
    refine Run.z_getF (q := 18) X25 hx hZ e25 hown (wm52 hw) F_this_run (hb hby d22_15) rfl fun T26 X26 e26 => ?_
    refine Run.callV X26 hx hH e26 (y := (⟨"java/util/ArrayDeque", "pollLast", "()Ljava/lang/Object;"⟩ : MethodName)) (z := (⟨"java/util/ArrayDeque", "pollLast", "()Ljava/lang/Object;"⟩ : MethodName)) hown (wm221 hw) (wm222 hw) (notFace_of_selects (args := #[]) (mvT hZ (wm224 hw))) (wm224 hw) (wm223 hw) (wm37 hw) (wm225 hw) (by decide) (a := rq) E_rq (argsL := []) (rest := [(.ref hq)]) (c_pll l Z a0 hw rq h0 n0 Z0 ea vs hv_ tv dz1 t1 ul1 E_rq F_rq_elements F_rq_head F_rq_tail A_ea O_ea g_rq g_ea ne_rq_ea hr.2.2.2.2.1 hdz1 hi1 tl171 hv1) pd_8 rfl (by rw [hml]; rfl) (W := 1) rfl (by decide) (by decide) (by decide) (by decide) (hb hby d22_18) rfl ?_
    intro T27 v27 L27 X27 q27
    obtain ⟨rfl, M27, K27, Er27, Fe27, Fh27, Ft27, Ae27⟩ := q27
    have N27 := Fr.app N22 M27
    show Run p e below s _ _ _ (T27.setTop (mkF m 21 #[.val (.ref this), .val (.ref ux), .val (.int 1)] [(.ref ul1), (.ref hq)]))
    have Z27 : n0 ≤ T27.heap.size := Nat.le_trans Z0 K27.1
    replace KP := KP.trans K27 (allS (Or.inl (by simp)) (allS (Or.inl (by simp)) all0))
    replace E_hq := E_hq.keep K27
    replace F_hq_queue := F_hq_queue.keep K27 (ninS (Ne.symm ne_rq_hq) (ninS ne_hq_ea nin0))
    replace F_hq_comparator := F_hq_comparator.keep K27 (ninS (Ne.symm ne_rq_hq) (ninS ne_hq_ea nin0))
    replace F_hq_size := F_hq_size.keep K27 (ninS (Ne.symm ne_rq_hq) (ninS ne_hq_ea nin0))
    replace F_hq_modCount := F_hq_modCount.keep K27 (ninS (Ne.symm ne_rq_hq) (ninS ne_hq_ea nin0))
    replace A_qa := A_qa.keep K27 (ninS (Ne.symm ne_rq_qa) (ninS (Ne.symm ne_ea_qa) nin0))
    replace O_qa := O_qa.keep K27
    replace O_lam := O_lam.keep K27
    replace D_xs := D_xs.keep K27 (own_dnS ne_xs_rq (own_dnS ne_xs_ea own_dn0))
    refine Run.callV X27 hx hH rfl (y := (⟨"java/util/PriorityQueue", "add", "(Ljava/lang/Object;)Z"⟩ : MethodName)) (z := (⟨"java/util/PriorityQueue", "add", "(Ljava/lang/Object;)Z"⟩ : MethodName)) hown (wm226 hw) (wm227 hw) (notFace_of_selects (args := #[]) (mvT hZ (wm229 hw))) (wm229 hw) (wm228 hw) (wm58 hw) (wm230 hw) (by decide) (a := hq) E_hq (argsL := [(.ref ul1)]) (rest := []) (c_addh1 l Z a0 hw hq ul1 T27.heap n0 Z27 lam cK P xs qa mc y1 E_hq F_hq_queue F_hq_comparator F_hq_size F_hq_modCount A_qa O_qa O_lam D_xs g_hq g_qa ne_hq_qa ne_xs_hq ne_xs_qa hul1 hy1) pd_6 rfl (by rw [hml]; rfl) (W := 0) rfl (by decide) (by decide) (by decide) (by decide) (hb hby d22_21) rfl ?_
    intro T28 v28 L28 X28 q28
    obtain ⟨rfl, M28, K28, Eh28, Fq28, Fc28, Fs28, Fm28, Aq28⟩ := q28
    have N28 := Fr.app N27 M28
    show Run p e below s _ _ _ (T28.setTop (mkF m 24 #[.val (.ref this), .val (.ref ux), .val (.int 1)] [(.int 1)]))
    have Z28 : n0 ≤ T28.heap.size := Nat.le_trans Z27 K28.1
    replace KP := KP.trans K28 (allS (Or.inl (by simp)) (allS (Or.inl (by simp)) all0))
    obtain ⟨ya28, hya28, yb28, hyb28, Aq28⟩ := Aq28
    refine Run.x_pop (q := 25) X28 hx (hb hby d22_24) rfl rfl ?_
    refine Run.x_aloadN (q := 26) X28 hx (hb hby d22_25) rfl rfl rfl ?_
    refine Run.x_aloadN (q := 27) X28 hx (hb hby d22_26) rfl rfl rfl ?_
    by_cases hE2 : hd = t1
    ·skip
     obtain ⟨dz2, ii2, hdz2, hi2, hn2⟩ := own_lastN r1' hE2
     replace E_this := (E_this.keep K27).keep K28
     replace F_this_run := (F_this_run.keep K27 (ninS ne_this_rq (ninS ne_this_ea nin0))).keep K28 (ninS ne_this_hq (ninS ne_this_qa nin0))
     replace F_this_order := (F_this_order.keep K27 (ninS ne_this_rq (ninS ne_this_ea nin0))).keep K28 (ninS ne_this_hq (ninS ne_this_qa nin0))
     replace Er27 := Er27.keep K28
     replace Fe27 := Fe27.keep K28 (ninS ne_rq_hq (ninS ne_rq_qa nin0))
     replace Ft27 := Ft27.keep K28 (ninS ne_rq_hq (ninS ne_rq_qa nin0))
     replace Ae27 := Ae27.keep K28 (ninS (Ne.symm ne_hq_ea) (ninS ne_ea_qa nin0))
     replace O_lam := O_lam.keep K28
     replace D_xs := D_xs.keep K28 (own_dnS ne_xs_hq (own_dnS ne_xs_qa own_dn0))
     refine own_callP X28 hx hH rfl (y := (⟨"com/example/framewheel/framewheel/core/TimeOrderedQueue", "ordersBeforeLastOfRun", "(Ljava/lang/Object;)Z"⟩ : MethodName)) (y2 := (⟨"com/example/framewheel/framewheel/core/TimeOrderedQueue", "add", "(Ljava/lang/Object;)V"⟩ : MethodName)) hown (wm138 hw) (wm139 hw) (wm140 hw) (wm136 hw) rfl (wm27 hw) (wm141 hw) (by decide) (a := this) E_this (argsL := [(.ref ux)]) (rest := []) (c_obl_n l Z a0 hw this ux T28.heap n0 Z28 cK P xs lam rq ea (vs.set t1 .null) dz1 dz2 ii2 E_this F_this_run F_this_order Er27 Fe27 Ft27 Ae27 O_lam D_xs r1'.2.2.2.2.1 hdz2 hi2 hn2) pd_6 rfl (by rw [hml]; rfl) (W := 0) rfl (by decide) (by decide) (by decide) (by decide) (hb hby d22_27) rfl ?_
     intro T29 v29 L29 X29 q29
     obtain ⟨rfl, M29, e29⟩ := q29
     have N29 := Fr.app N28 M29
     show Run p e below s _ _ _ (T29.setTop (mkF m 30 #[.val (.ref this), .val (.ref ux), .val (.int 1)] [(.int 0)]))
     refine Run.x_istoreN (q := 31) X29 hx #[.val (.ref this), .val (.ref ux), .val (.int 0)] (hb hby d22_30) rfl rfl ?_
     refine Run.x_iloadN (q := 32) X29 hx (hb hby d22_31) rfl rfl ?_
     refine Run.x_ifYes (q := 47) X29 hx (hb hby d22_32) ((if0 _ _).trans (teq (by decide : (0 : Int32) = (0 : Int32))).1) (by decide) (by decide) ?_
     refine Run.x_aloadN (q := 48) X29 hx (hb hby d22_47) rfl rfl rfl ?_
     refine Run.z_getF (q := 51) X29 hx hZ e29 hown (wm52 hw) F_this_run (hb hby d22_48) rfl fun T30 X30 e30 => ?_
     refine Run.x_aloadN (q := 52) X30 hx (hb hby d22_51) rfl rfl rfl ?_
     have tl8 : t1 < 8 := by have := hr.2.2.1; omega
     replace Fh27 := Fh27.keep K28 (ninS ne_rq_hq (ninS ne_rq_qa nin0))
     replace O_ea := (O_ea.keep K27).keep K28
     replace E_ux := (E_ux.keep K27).keep K28
     refine Run.callV X30 hx hH e30 (y := (⟨"java/util/ArrayDeque", "addLast", "(Ljava/lang/Object;)V"⟩ : MethodName)) (z := (⟨"java/util/ArrayDeque", "addLast", "(Ljava/lang/Object;)V"⟩ : MethodName)) hown (wm155 hw) (wm156 hw) (notFace_of_selects (args := #[]) (mvT hZ (wm158 hw))) (wm158 hw) (wm157 hw) (wm37 hw) (wm159 hw) (by decide) (a := rq) Er27 (argsL := [(.ref ux)]) (rest := []) (c_addl l Z a0 hw rq ux T28.heap n0 Z28 ea (vs.set t1 .null) hv_ dz1 t1 Er27 Fe27 Fh27 Ft27 Ae27 O_ea E_ux g_rq g_ea ne_rq_ea r1'.2.2.2.2.1 r1'.2.1 (by omega) (own_lt17 r1'.2.1 (by omega)) (own_neT1 r1'.1 r1'.2.1 (by have := r1'.2.2.1; omega) (by omega))) pd_9 rfl (by rw [hml]; rfl) (W := 0) rfl (by decide) (by decide) (by decide) (by decide) (hb hby d22_52) rfl ?_
     intro T31 v31 L31 X31 q31
     obtain ⟨rfl, M31, K31, Er31, Fe31, Fh31, Ft31, Ae31⟩ := q31
     have N31 := Fr.app N29 M31
     show Run p e below s _ _ _ (T31.setTop (mkF m 55 #[.val (.ref this), .val (.ref ux), .val (.int 0)] []))
     have Z31 : n0 ≤ T31.heap.size := Nat.le_trans Z28 K31.1
     replace KP := KP.trans K31 (allS (Or.inl (by simp)) (allS (Or.inl (by simp)) all0))
     replace E_this := E_this.keep K31
     replace F_this_run := F_this_run.keep K31 (ninS ne_this_rq (ninS ne_this_ea nin0))
     replace F_this_order := F_this_order.keep K31 (ninS ne_this_rq (ninS ne_this_ea nin0))
     replace F_this_heap := ((F_this_heap.keep K27 (ninS ne_this_rq (ninS ne_this_ea nin0))).keep K28 (ninS ne_this_hq (ninS ne_this_qa nin0))).keep K31 (ninS ne_this_rq (ninS ne_this_ea nin0))
     replace O_ea := O_ea.keep K31
     replace Eh28 := Eh28.keep K31
     replace O_qa := (O_qa.keep K28).keep K31
     replace O_lam := O_lam.keep K31
     replace D_xs := D_xs.keep K31 (own_dnS ne_xs_rq (own_dnS ne_xs_ea own_dn0))
     replace E_ux := E_ux.keep K31
     replace Fq28 := Fq28.keep K31 (ninS (Ne.symm ne_rq_hq) (ninS ne_hq_ea nin0))
     replace Fc28 := Fc28.keep K31 (ninS (Ne.symm ne_rq_hq) (ninS ne_hq_ea nin0))
     replace Fs28 := Fs28.keep K31 (ninS (Ne.symm ne_rq_hq) (ninS ne_hq_ea nin0))
     replace Fm28 := Fm28.keep K31 (ninS (Ne.symm ne_rq_hq) (ninS ne_hq_ea nin0))
     replace Aq28 := Aq28.keep K31 (ninS (Ne.symm ne_rq_qa) (ninS (Ne.symm ne_ea_qa) nin0))
     refine Run.retV X31 hx hlk rfl hret (hb hby d22_55) (by decide) (by decide) ?_
     exact ⟨rfl, N31, KP, ⟨_, _, _, _, hd, (t1 + 1), _, _, E_this, F_this_run, F_this_order, F_this_heap, Er31, Fe31, Fh31, Ft31, Ae31, O_ea, Eh28, Fq28, Fc28, Fs28, Fm28, Aq28, O_qa, O_lam, D_xs, (own_rv_push r1' hux tl8), Or.inr (Or.inr ⟨ya28, hya28, yb28, hyb28, rfl, rfl⟩), by have := own_pn; have := hr.2.2.1; omega⟩⟩
    ·skip
     obtain ⟨t2, ul2, dz2, hul2, etl2, hdt2, tl172, hdz2, hi2, hv2, r2'⟩ := own_lastR r1' hE2
     replace E_this := (E_this.keep K27).keep K28
     replace F_this_run := (F_this_run.keep K27 (ninS ne_this_rq (ninS ne_this_ea nin0))).keep K28 (ninS ne_this_hq (ninS ne_this_qa nin0))
     replace F_this_order := (F_this_order.keep K27 (ninS ne_this_rq (ninS ne_this_ea nin0))).keep K28 (ninS ne_this_hq (ninS ne_this_qa nin0))
     replace Er27 := Er27.keep K28
     replace Fe27 := Fe27.keep K28 (ninS ne_rq_hq (ninS ne_rq_qa nin0))
     replace Ft27 := Ft27.keep K28 (ninS ne_rq_hq (ninS ne_rq_qa nin0))
     replace Ae27 := Ae27.keep K28 (ninS (Ne.symm ne_hq_ea) (ninS ne_ea_qa nin0))
     replace O_lam := O_lam.keep K28
     replace D_xs := D_xs.keep K28 (own_dnS ne_xs_hq (own_dnS ne_xs_qa own_dn0))
     refine own_callP X28 hx hH rfl (y := (⟨"com/example/framewheel/framewheel/core/TimeOrderedQueue", "ordersBeforeLastOfRun", "(Ljava/lang/Object;)Z"⟩ : MethodName)) (y2 := (⟨"com/example/framewheel/framewheel/core/TimeOrderedQueue", "add", "(Ljava/lang/Object;)V"⟩ : MethodName)) hown (wm138 hw) (wm139 hw) (wm140 hw) (wm136 hw) rfl (wm27 hw) (wm141 hw) (by decide) (a := this) E_this (argsL := [(.ref ux)]) (rest := []) (c_obl_r l Z a0 hw this ux T28.heap n0 Z28 cK P xs lam rq ea (vs.set t1 .null) dz1 dz2 t2 ul2 E_this F_this_run F_this_order Er27 Fe27 Ft27 Ae27 O_lam D_xs r1'.2.2.2.2.1 hdz2 hi2 hv2 hul2 hux) pd_6 rfl (by rw [hml]; rfl) (W := 0) rfl (by decide) (by decide) (by decide) (by decide) (hb hby d22_27) rfl ?_
     intro T32 v32 L32 X32 q32
     obtain ⟨z32, rfl, M32, e32, hz32⟩ := q32
     have N32 := Fr.app N28 M32
     show Run p e below s _ _ _ (T32.setTop (mkF m 30 #[.val (.ref this), .val (.ref ux), .val (.int 1)] [(.int z32)]))
     refine Run.x_istoreN (q := 31) X32 hx #[.val (.ref this), .val (.ref ux), .val (.int z32)] (hb hby d22_30) rfl rfl ?_
     rcases hz32 with rfl | rfl
     ·skip
      refine Run.x_iloadN (q := 32) X32 hx (hb hby d22_31) rfl rfl ?_
      refine Run.x_ifYes (q := 47) X32 hx (hb hby d22_32) ((if0 _ _).trans (teq (by decide : (0 : Int32) = (0 : Int32))).1) (by decide) (by decide) ?_
      refine Run.x_aloadN (q := 48) X32 hx (hb hby d22_47) rfl rfl rfl ?_
      refine Run.z_getF (q := 51) X32 hx hZ e32 hown (wm52 hw) F_this_run (hb hby d22_48) rfl fun T33 X33 e33 => ?_
      refine Run.x_aloadN (q := 52) X33 hx (hb hby d22_51) rfl rfl rfl ?_
      have tl8 : t1 < 8 := by have := hr.2.2.1; omega
      replace Fh27 := Fh27.keep K28 (ninS ne_rq_hq (ninS ne_rq_qa nin0))
      replace O_ea := (O_ea.keep K27).keep K28
      replace E_ux := (E_ux.keep K27).keep K28
      refine Run.callV X33 hx hH e33 (y := (⟨"java/util/ArrayDeque", "addLast", "(Ljava/lang/Object;)V"⟩ : MethodName)) (z := (⟨"java/util/ArrayDeque", "addLast", "(Ljava/lang/Object;)V"⟩ : MethodName)) hown (wm155 hw) (wm156 hw) (notFace_of_selects (args := #[]) (mvT hZ (wm158 hw))) (wm158 hw) (wm157 hw) (wm37 hw) (wm159 hw) (by decide) (a := rq) Er27 (argsL := [(.ref ux)]) (rest := []) (c_addl l Z a0 hw rq ux T28.heap n0 Z28 ea (vs.set t1 .null) hv_ dz1 t1 Er27 Fe27 Fh27 Ft27 Ae27 O_ea E_ux g_rq g_ea ne_rq_ea r1'.2.2.2.2.1 r1'.2.1 (by omega) (own_lt17 r1'.2.1 (by omega)) (own_neT1 r1'.1 r1'.2.1 (by have := r1'.2.2.1; omega) (by omega))) pd_9 rfl (by rw [hml]; rfl) (W := 0) rfl (by decide) (by decide) (by decide) (by decide) (hb hby d22_52) rfl ?_
      intro T34 v34 L34 X34 q34
      obtain ⟨rfl, M34, K34, Er34, Fe34, Fh34, Ft34, Ae34⟩ := q34
      have N34 := Fr.app N32 M34
      show Run p e below s _ _ _ (T34.setTop (mkF m 55 #[.val (.ref this), .val (.ref ux), .val (.int 0)] []))
      have Z34 : n0 ≤ T34.heap.size := Nat.le_trans Z28 K34.1
      replace KP := KP.trans K34 (allS (Or.inl (by simp)) (allS (Or.inl (by simp)) all0))
      replace E_this := E_this.keep K34
      replace F_this_run := F_this_run.keep K34 (ninS ne_this_rq (ninS ne_this_ea nin0))
      replace F_this_order := F_this_order.keep K34 (ninS ne_this_rq (ninS ne_this_ea nin0))
      replace F_this_heap := ((F_this_heap.keep K27 (ninS ne_this_rq (ninS ne_this_ea nin0))).keep K28 (ninS ne_this_hq (ninS ne_this_qa nin0))).keep K34 (ninS ne_this_rq (ninS ne_this_ea nin0))
      replace O_ea := O_ea.keep K34
      replace Eh28 := Eh28.keep K34
      replace O_qa := (O_qa.keep K28).keep K34
      replace O_lam := O_lam.keep K34
      replace D_xs := D_xs.keep K34 (own_dnS ne_xs_rq (own_dnS ne_xs_ea own_dn0))
      replace E_ux := E_ux.keep K34
      replace Fq28 := Fq28.keep K34 (ninS (Ne.symm ne_rq_hq) (ninS ne_hq_ea nin0))
      replace Fc28 := Fc28.keep K34 (ninS (Ne.symm ne_rq_hq) (ninS ne_hq_ea nin0))
      replace Fs28 := Fs28.keep K34 (ninS (Ne.symm ne_rq_hq) (ninS ne_hq_ea nin0))
      replace Fm28 := Fm28.keep K34 (ninS (Ne.symm ne_rq_hq) (ninS ne_hq_ea nin0))
      replace Aq28 := Aq28.keep K34 (ninS (Ne.symm ne_rq_qa) (ninS (Ne.symm ne_ea_qa) nin0))
      refine Run.retV X34 hx hlk rfl hret (hb hby d22_55) (by decide) (by decide) ?_
      exact ⟨rfl, N34, KP, ⟨_, _, _, _, hd, (t1 + 1), _, _, E_this, F_this_run, F_this_order, F_this_heap, Er34, Fe34, Fh34, Ft34, Ae34, O_ea, Eh28, Fq28, Fc28, Fs28, Fm28, Aq28, O_qa, O_lam, D_xs, (own_rv_push r1' hux tl8), Or.inr (Or.inr ⟨ya28, hya28, yb28, hyb28, rfl, rfl⟩), by have := own_pn; have := hr.2.2.1; omega⟩⟩
     ·skip
      refine Run.x_iloadN (q := 32) X32 hx (hb hby d22_31) rfl rfl ?_
      refine Run.x_ifNo (q := 35) X32 hx (hb hby d22_32) ((if0 _ _).trans (feq (by decide : ¬ ((1 : Int32) = (0 : Int32)))).1) rfl ?_
      exfalso
      have := own_pn; have := hr.2.2.1; omega
 ·skip
  by_cases hE : hd = tl
  ·skip
   refine Run.x_aloadN (q := 1) X0 hx (hb hby d22_0) rfl rfl rfl ?_
   refine Run.x_aloadN (q := 2) X0 hx (hb hby d22_1) rfl rfl rfl ?_
   obtain ⟨dz1, ii1, hdz1, hi1, hn1⟩ := own_lastN hr hE
   refine own_callP X0 hx hH e0 (y := (⟨"com/example/framewheel/framewheel/core/TimeOrderedQueue", "ordersBeforeLastOfRun", "(Ljava/lang/Object;)Z"⟩ : MethodName)) (y2 := (⟨"com/example/framewheel/framewheel/core/TimeOrderedQueue", "add", "(Ljava/lang/Object;)V"⟩ : MethodName)) hown (wm138 hw) (wm139 hw) (wm140 hw) (wm136 hw) rfl (wm27 hw) (wm141 hw) (by decide) (a := this) E_this (argsL := [(.ref ux)]) (rest := []) (c_obl_n l Z a0 hw this ux h0 n0 Z0 cK P xs lam rq ea vs tv dz1 ii1 E_this F_this_run F_this_order E_rq F_rq_elements F_rq_tail A_ea O_lam D_xs hr.2.2.2.2.1 hdz1 hi1 hn1) pd_6 rfl (by rw [hml]; rfl) (W := 0) rfl (by decide) (by decide) (by decide) (by decide) (hb hby d22_2) rfl ?_
   intro T35 v35 L35 X35 q35
   obtain ⟨rfl, M35, e35⟩ := q35
   have N35 := Fr.app N0 M35
   show Run p e below s _ _ _ (T35.setTop (mkF m 5 #[.val (.ref this), .val (.ref ux), .unset] [(.int 0)]))
   refine Run.x_istoreN (q := 6) X35 hx #[.val (.ref this), .val (.ref ux), .val (.int 0)] (hb hby d22_5) rfl rfl ?_
   refine Run.x_iloadN (q := 7) X35 hx (hb hby d22_6) rfl rfl ?_
   refine Run.x_ifYes (q := 31) X35 hx (hb hby d22_7) ((if0 _ _).trans (teq (by decide : (0 : Int32) = (0 : Int32))).1) (by decide) (by decide) ?_
   refine Run.x_iloadN (q := 32) X35 hx (hb hby d22_31) rfl rfl ?_
   refine Run.x_ifYes (q := 47) X35 hx (hb hby d22_32) ((if0 _ _).trans (teq (by decide : (0 : Int32) = (0 : Int32))).1) (by decide) (by decide) ?_
   refine Run.x_aloadN (q := 48) X35 hx (hb hby d22_47) rfl rfl rfl ?_
   refine Run.z_getF (q := 51) X35 hx hZ e35 hown (wm52 hw) F_this_run (hb hby d22_48) rfl fun T36 X36 e36 => ?_
   refine Run.x_aloadN (q := 52) X36 hx (hb hby d22_51) rfl rfl rfl ?_
   have tl8 : tl < 8 := by have := hr.2.2.1; omega
   refine Run.callV X36 hx hH e36 (y := (⟨"java/util/ArrayDeque", "addLast", "(Ljava/lang/Object;)V"⟩ : MethodName)) (z := (⟨"java/util/ArrayDeque", "addLast", "(Ljava/lang/Object;)V"⟩ : MethodName)) hown (wm155 hw) (wm156 hw) (notFace_of_selects (args := #[]) (mvT hZ (wm158 hw))) (wm158 hw) (wm157 hw) (wm37 hw) (wm159 hw) (by decide) (a := rq) E_rq (argsL := [(.ref ux)]) (rest := []) (c_addl l Z a0 hw rq ux h0 n0 Z0 ea vs hv_ tv tl E_rq F_rq_elements F_rq_head F_rq_tail A_ea O_ea E_ux g_rq g_ea ne_rq_ea hr.2.2.2.2.1 hr.2.1 (by omega) (own_lt17 hr.2.1 (by omega)) (own_neT1 hr.1 hr.2.1 (by have := hr.2.2.1; omega) (by omega))) pd_9 rfl (by rw [hml]; rfl) (W := 0) rfl (by decide) (by decide) (by decide) (by decide) (hb hby d22_52) rfl ?_
   intro T37 v37 L37 X37 q37
   obtain ⟨rfl, M37, K37, Er37, Fe37, Fh37, Ft37, Ae37⟩ := q37
   have N37 := Fr.app N35 M37
   show Run p e below s _ _ _ (T37.setTop (mkF m 55 #[.val (.ref this), .val (.ref ux), .val (.int 0)] []))
   have Z37 : n0 ≤ T37.heap.size := Nat.le_trans Z0 K37.1
   replace KP := KP.trans K37 (allS (Or.inl (by simp)) (allS (Or.inl (by simp)) all0))
   replace E_this := E_this.keep K37
   replace F_this_run := F_this_run.keep K37 (ninS ne_this_rq (ninS ne_this_ea nin0))
   replace F_this_order := F_this_order.keep K37 (ninS ne_this_rq (ninS ne_this_ea nin0))
   replace F_this_heap := F_this_heap.keep K37 (ninS ne_this_rq (ninS ne_this_ea nin0))
   replace O_ea := O_ea.keep K37
   replace E_hq := E_hq.keep K37
   replace F_hq_queue := F_hq_queue.keep K37 (ninS (Ne.symm ne_rq_hq) (ninS ne_hq_ea nin0))
   replace F_hq_comparator := F_hq_comparator.keep K37 (ninS (Ne.symm ne_rq_hq) (ninS ne_hq_ea nin0))
   replace F_hq_size := F_hq_size.keep K37 (ninS (Ne.symm ne_rq_hq) (ninS ne_hq_ea nin0))
   replace F_hq_modCount := F_hq_modCount.keep K37 (ninS (Ne.symm ne_rq_hq) (ninS ne_hq_ea nin0))
   replace A_qa := A_qa.keep K37 (ninS (Ne.symm ne_rq_qa) (ninS (Ne.symm ne_ea_qa) nin0))
   replace O_qa := O_qa.keep K37
   replace O_lam := O_lam.keep K37
   replace D_xs := D_xs.keep K37 (own_dnS ne_xs_rq (own_dnS ne_xs_ea own_dn0))
   replace E_ux := E_ux.keep K37
   refine Run.retV X37 hx hlk rfl hret (hb hby d22_55) (by decide) (by decide) ?_
   exact ⟨rfl, N37, KP, ⟨_, _, _, _, hd, (tl + 1), _, _, E_this, F_this_run, F_this_order, F_this_heap, Er37, Fe37, Fh37, Ft37, Ae37, O_ea, E_hq, F_hq_queue, F_hq_comparator, F_hq_size, F_hq_modCount, A_qa, O_qa, O_lam, D_xs, (own_rv_push hr hux tl8), Or.inr (Or.inr ⟨y1, hy1, y2, hy2, rfl, rfl⟩), by have := own_pn; have := hr.2.2.1; omega⟩⟩
  ·skip
   refine Run.x_aloadN (q := 1) X0 hx (hb hby d22_0) rfl rfl rfl ?_
   refine Run.x_aloadN (q := 2) X0 hx (hb hby d22_1) rfl rfl rfl ?_
   obtain ⟨t1, ul1, dz1, hul1, etl1, hdt1, tl171, hdz1, hi1, hv1, r1'⟩ := own_lastR hr hE
   refine own_callP X0 hx hH e0 (y := (⟨"com/example/framewheel/framewheel/core/TimeOrderedQueue", "ordersBeforeLastOfRun", "(Ljava/lang/Object;)Z"⟩ : MethodName)) (y2 := (⟨"com/example/framewheel/framewheel/core/TimeOrderedQueue", "add", "(Ljava/lang/Object;)V"⟩ : MethodName)) hown (wm138 hw) (wm139 hw) (wm140 hw) (wm136 hw) rfl (wm27 hw) (wm141 hw) (by decide) (a := this) E_this (argsL := [(.ref ux)]) (rest := []) (c_obl_r l Z a0 hw this ux h0 n0 Z0 cK P xs lam rq ea vs tv dz1 t1 ul1 E_this F_this_run F_this_order E_rq F_rq_elements F_rq_tail A_ea O_lam D_xs hr.2.2.2.2.1 hdz1 hi1 hv1 hul1 hux) pd_6 rfl (by rw [hml]; rfl) (W := 0) rfl (by decide) (by decide) (by decide) (by decide) (hb hby d22_2) rfl ?_
   intro T38 v38 L38 X38 q38
   obtain ⟨z38, rfl, M38, e38, hz38⟩ := q38
   have N38 := Fr.app N0 M38
   show Run p e below s _ _ _ (T38.setTop (mkF m 5 #[.val (.ref this), .val (.ref ux), .unset] [(.int z38)]))
   refine Run.x_istoreN (q := 6) X38 hx #[.val (.ref this), .val (.ref ux), .val (.int z38)] (hb hby d22_5) rfl rfl ?_
   rcases hz38 with rfl | rfl
   ·skip
    refine Run.x_iloadN (q := 7) X38 hx (hb hby d22_6) rfl rfl ?_
    refine Run.x_ifYes (q := 31) X38 hx (hb hby d22_7) ((if0 _ _).trans (teq (by decide : (0 : Int32) = (0 : Int32))).1) (by decide) (by decide) ?_
    refine Run.x_iloadN (q := 32) X38 hx (hb hby d22_31) rfl rfl ?_
    refine Run.x_ifYes (q := 47) X38 hx (hb hby d22_32) ((if0 _ _).trans (teq (by decide : (0 : Int32) = (0 : Int32))).1) (by decide) (by decide) ?_
    refine Run.x_aloadN (q := 48) X38 hx (hb hby d22_47) rfl rfl rfl ?_
    refine Run.z_getF (q := 51) X38 hx hZ e38 hown (wm52 hw) F_this_run (hb hby d22_48) rfl fun T39 X39 e39 => ?_
    refine Run.x_aloadN (q := 52) X39 hx (hb hby d22_51) rfl rfl rfl ?_
    have tl8 : tl < 8 := by have := hr.2.2.1; omega
    refine Run.callV X39 hx hH e39 (y := (⟨"java/util/ArrayDeque", "addLast", "(Ljava/lang/Object;)V"⟩ : MethodName)) (z := (⟨"java/util/ArrayDeque", "addLast", "(Ljava/lang/Object;)V"⟩ : MethodName)) hown (wm155 hw) (wm156 hw) (notFace_of_selects (args := #[]) (mvT hZ (wm158 hw))) (wm158 hw) (wm157 hw) (wm37 hw) (wm159 hw) (by decide) (a := rq) E_rq (argsL := [(.ref ux)]) (rest := []) (c_addl l Z a0 hw rq ux h0 n0 Z0 ea vs hv_ tv tl E_rq F_rq_elements F_rq_head F_rq_tail A_ea O_ea E_ux g_rq g_ea ne_rq_ea hr.2.2.2.2.1 hr.2.1 (by omega) (own_lt17 hr.2.1 (by omega)) (own_neT1 hr.1 hr.2.1 (by have := hr.2.2.1; omega) (by omega))) pd_9 rfl (by rw [hml]; rfl) (W := 0) rfl (by decide) (by decide) (by decide) (by decide) (hb hby d22_52) rfl ?_
    intro T40 v40 L40 X40 q40
    obtain ⟨rfl, M40, K40, Er40, Fe40, Fh40, Ft40, Ae40⟩ := q40
    have N40 := Fr.app N38 M40
    show Run p e below s _ _ _ (T40.setTop (mkF m 55 #[.val (.ref this), .val (.ref ux), .val (.int 0)] []))
    have Z40 : n0 ≤ T40.heap.size := Nat.le_trans Z0 K40.1
    replace KP := KP.trans K40 (allS (Or.inl (by simp)) (allS (Or.inl (by simp)) all0))
    replace E_this := E_this.keep K40
    replace F_this_run := F_this_run.keep K40 (ninS ne_this_rq (ninS ne_this_ea nin0))
    replace F_this_order := F_this_order.keep K40 (ninS ne_this_rq (ninS ne_this_ea nin0))
    replace F_this_heap := F_this_heap.keep K40 (ninS ne_this_rq (ninS ne_this_ea nin0))
    replace O_ea := O_ea.keep K40
    replace E_hq := E_hq.keep K40
    replace F_hq_queue := F_hq_queue.keep K40 (ninS (Ne.symm ne_rq_hq) (ninS ne_hq_ea nin0))
    replace F_hq_comparator := F_hq_comparator.keep K40 (ninS (Ne.symm ne_rq_hq) (ninS ne_hq_ea nin0))
    replace F_hq_size := F_hq_size.keep K40 (ninS (Ne.symm ne_rq_hq) (ninS ne_hq_ea nin0))
    replace F_hq_modCount := F_hq_modCount.keep K40 (ninS (Ne.symm ne_rq_hq) (ninS ne_hq_ea nin0))
    replace A_qa := A_qa.keep K40 (ninS (Ne.symm ne_rq_qa) (ninS (Ne.symm ne_ea_qa) nin0))
    replace O_qa := O_qa.keep K40
    replace O_lam := O_lam.keep K40
    replace D_xs := D_xs.keep K40 (own_dnS ne_xs_rq (own_dnS ne_xs_ea own_dn0))
    replace E_ux := E_ux.keep K40
    refine Run.retV X40 hx hlk rfl hret (hb hby d22_55) (by decide) (by decide) ?_
    exact ⟨rfl, N40, KP, ⟨_, _, _, _, hd, (tl + 1), _, _, E_this, F_this_run, F_this_order, F_this_heap, Er40, Fe40, Fh40, Ft40, Ae40, O_ea, E_hq, F_hq_queue, F_hq_comparator, F_hq_size, F_hq_modCount, A_qa, O_qa, O_lam, D_xs, (own_rv_push hr hux tl8), Or.inr (Or.inr ⟨y1, hy1, y2, hy2, rfl, rfl⟩), by have := own_pn; have := hr.2.2.1; omega⟩⟩
   ·skip
    refine Run.x_iloadN (q := 7) X38 hx (hb hby d22_6) rfl rfl ?_
    refine Run.x_ifNo (q := 10) X38 hx (hb hby d22_7) ((if0 _ _).trans (feq (by decide : ¬ ((1 : Int32) = (0 : Int32)))).1) rfl ?_
    exfalso
    have := own_pn; have := hr.2.2.1; omega
theorem d23_0 : decode prog_15_method_4_code 0 = .ok (.aload_n 0, 1) := by decide +kernel
theorem d23_1 : decode prog_15_method_4_code 1 = .ok (.getfield 10, 3) := by decide +kernel
theorem d23_4 : decode prog_15_method_4_code 4 = .ok (.invokevirtual 53, 3) := by decide +kernel
theorem d23_7 : decode prog_15_method_4_code 7 = .ok (.astore_n 1, 1) := by decide +kernel
theorem d23_8 : decode prog_15_method_4_code 8 = .ok (.aload_n 0, 1) := by decide +kernel
theorem d23_9 : decode prog_15_method_4_code 9 = .ok (.getfield 25, 3) := by decide +kernel
theorem d23_12 : decode prog_15_method_4_code 12 = .ok (.invokevirtual 56, 3) := by decide +kernel
theorem d23_15 : decode prog_15_method_4_code 15 = .ok (.astore_n 2, 1) := by decide +kernel
theorem d23_16 : decode prog_15_method_4_code 16 = .ok (.aload_n 1, 1) := by decide +kernel
theorem d23_17 : decode prog_15_method_4_code 17 = .ok (.ifnonnull 8, 3) := by decide +kernel
theorem d23_20 : decode prog_15_method_4_code 20 = .ok (.aload_n 2, 1) := by decide +kernel
theorem d23_21 : decode prog_15_method_4_code 21 = .ok (.astore_n 3, 1) := by decide +kernel
theorem d23_22 : decode prog_15_method_4_code 22 = .ok (.goto 28, 3) := by decide +kernel
theorem d23_25 : decode prog_15_method_4_code 25 = .ok (.aload_n 2, 1) := by decide +kernel
theorem d23_26 : decode prog_15_method_4_code 26 = .ok (.ifnull 17, 3) := by decide +kernel
theorem d23_29 : decode prog_15_method_4_code 29 = .ok (.aload_n 0, 1) := by decide +kernel
theorem d23_30 : decode prog_15_method_4_code 30 = .ok (.getfield 16, 3) := by decide +kernel
theorem d23_33 : decode prog_15_method_4_code 33 = .ok (.aload_n 1, 1) := by decide +kernel
theorem d23_34 : decode prog_15_method_4_code 34 = .ok (.aload_n 2, 1) := by decide +kernel
theorem d23_35 : decode prog_15_method_4_code 35 = .ok (.invokeinterface 47 3, 5) := by decide +kernel
theorem d23_40 : decode prog_15_method_4_code 40 = .ok (.ifCond .ge 8, 3) := by decide +kernel
theorem d23_43 : decode prog_15_method_4_code 43 = .ok (.aload_n 1, 1) := by decide +kernel
theorem d23_44 : decode prog_15_method_4_code 44 = .ok (.astore_n 3, 1) := by decide +kernel
theorem d23_45 : decode prog_15_method_4_code 45 = .ok (.goto 5, 3) := by decide +kernel
theorem d23_48 : decode prog_15_method_4_code 48 = .ok (.aload_n 2, 1) := by decide +kernel
theorem d23_49 : decode prog_15_method_4_code 49 = .ok (.astore_n 3, 1) := by decide +kernel
theorem d23_50 : decode prog_15_method_4_code 50 = .ok (.aload_n 3, 1) := by decide +kernel
theorem d23_51 : decode prog_15_method_4_code 51 = .ok (.areturn, 1) := by decide +kernel
theorem ef_c_tpek (m : MethodId) (this : Addr) : entryFrame m #[(.ref this)] 4 = mkF m 0 #[.val (.ref this), .unset, .unset, .unset] [] := by first | (simp [entryFrame, mkF, argsToLocals, Value.category]; done) | rfl
theorem wm171 {a0 : Array Value} {Z : State} (hw : ∀ d ∈ tables_1, d.before a0 Z = true) : (Jvm.Cond.methodLink "com/example/framewheel/framewheel/core/TimeOrderedQueue" (53 : Nat) ({ cls := "java/util/ArrayDeque", name := "peekFirst", desc := "()Ljava/lang/Object;" } : Jvm.MethodName)).before a0 Z = true := hw _ (List.mem_of_getElem? (i := 171) rfl)
theorem wm175 {a0 : Array Value} {Z : State} (hw : ∀ d ∈ tables_1, d.before a0 Z = true) : (Jvm.Cond.code ({ cls := "java/util/ArrayDeque", name := "peekFirst", desc := "()Ljava/lang/Object;" } : Jvm.MethodName) jdk_21_method_24_code (1 : Nat) (Option.some (Jvm.ClassFile.FieldType.object "java/lang/Object"))).before a0 Z = true := hw _ (List.mem_of_getElem? (i := 175) rfl)
theorem wm174 {a0 : Array Value} {Z : State} (hw : ∀ d ∈ tables_1, d.before a0 Z = true) : (Jvm.Cond.selects "java/util/ArrayDeque" ({ cls := "java/util/ArrayDeque", name := "peekFirst", desc := "()Ljava/lang/Object;" } : Jvm.MethodName) ({ cls := "java/util/ArrayDeque", name := "peekFirst", desc := "()Ljava/lang/Object;" } : Jvm.MethodName)).before a0 Z = true := hw _ (List.mem_of_getElem? (i := 174) rfl)
theorem wm172 {a0 : Array Value} {Z : State} (hw : ∀ d ∈ tables_1, d.before a0 Z = true) : (Jvm.Cond.declares ({ cls := "java/util/ArrayDeque", name := "peekFirst", desc := "()Ljava/lang/Object;" } : Jvm.MethodName)).before a0 Z = true := hw _ (List.mem_of_getElem? (i := 172) rfl)
theorem wm173 {a0 : Array Value} {Z : State} (hw : ∀ d ∈ tables_1, d.before a0 Z = true) : (Jvm.Cond.instanceMethod ({ cls := "java/util/ArrayDeque", name := "peekFirst", desc := "()Ljava/lang/Object;" } : Jvm.MethodName)).before a0 Z = true := hw _ (List.mem_of_getElem? (i := 173) rfl)
theorem wm176 {a0 : Array Value} {Z : State} (hw : ∀ d ∈ tables_1, d.before a0 Z = true) : (Jvm.Cond.methodLink "com/example/framewheel/framewheel/core/TimeOrderedQueue" (56 : Nat) ({ cls := "java/util/PriorityQueue", name := "peek", desc := "()Ljava/lang/Object;" } : Jvm.MethodName)).before a0 Z = true := hw _ (List.mem_of_getElem? (i := 176) rfl)
theorem wm180 {a0 : Array Value} {Z : State} (hw : ∀ d ∈ tables_1, d.before a0 Z = true) : (Jvm.Cond.code ({ cls := "java/util/PriorityQueue", name := "peek", desc := "()Ljava/lang/Object;" } : Jvm.MethodName) jdk_2655_method_15_code (1 : Nat) (Option.some (Jvm.ClassFile.FieldType.object "java/lang/Object"))).before a0 Z = true := hw _ (List.mem_of_getElem? (i := 180) rfl)
theorem wm177 {a0 : Array Value} {Z : State} (hw : ∀ d ∈ tables_1, d.before a0 Z = true) : (Jvm.Cond.declares ({ cls := "java/util/PriorityQueue", name := "peek", desc := "()Ljava/lang/Object;" } : Jvm.MethodName)).before a0 Z = true := hw _ (List.mem_of_getElem? (i := 177) rfl)
theorem wm178 {a0 : Array Value} {Z : State} (hw : ∀ d ∈ tables_1, d.before a0 Z = true) : (Jvm.Cond.instanceMethod ({ cls := "java/util/PriorityQueue", name := "peek", desc := "()Ljava/lang/Object;" } : Jvm.MethodName)).before a0 Z = true := hw _ (List.mem_of_getElem? (i := 178) rfl)
set_option maxRecDepth 65536 in
set_option maxHeartbeats 40000000 in
theorem c_tpek (l : Launch) (Z : State) (a0 : Array Value) (hw : ∀ d ∈ tables_1, d.before a0 Z = true) (this : Addr) (h0 : Heap) (n0 : Nat) (Z0 : n0 ≤ h0.size) (cK : ClassId) (P : Addr → Prop) (xs : List Addr) (rq : Addr) (hq : Addr) (ea : Addr) (qa : Addr) (vs : List Value) (us : List Value) (hv_ : Int32) (tv : Int32) (pv : Int32) (mc : Int32) (hd : Nat) (tl : Nat) (lam : Addr) (E_this : Exa Z h0 this "com/example/framewheel/framewheel/core/TimeOrderedQueue") (F_this_run : Fld Z h0 this "com/example/framewheel/framewheel/core/TimeOrderedQueue" "run" "Ljava/util/ArrayDeque;" (.ref rq)) (F_this_order : Fld Z h0 this "com/example/framewheel/framewheel/core/TimeOrderedQueue" "order" "Ljava/util/Comparator;" (.ref lam)) (F_this_heap : Fld Z h0 this "com/example/framewheel/framewheel/core/TimeOrderedQueue" "heap" "Ljava/util/PriorityQueue;" (.ref hq)) (E_rq : Exa Z h0 rq "java/util/ArrayDeque") (F_rq_elements : Fld Z h0 rq "java/util/ArrayDeque" "elements" "[Ljava/lang/Object;" (.ref ea)) (F_rq_head : Fld Z h0 rq "java/util/ArrayDeque" "head" "I" (.int hv_)) (F_rq_tail : Fld Z h0 rq "java/util/ArrayDeque" "tail" "I" (.int tv)) (A_ea : Ars Z h0 ea (.object "java/lang/Object") vs) (O_ea : own_Ob Z h0 ea "java/lang/Object") (E_hq : Exa Z h0 hq "java/util/PriorityQueue") (F_hq_queue : Fld Z h0 hq "java/util/PriorityQueue" "queue" "[Ljava/lang/Object;" (.ref qa)) (F_hq_comparator : Fld Z h0 hq "java/util/PriorityQueue" "comparator" "Ljava/util/Comparator;" (.ref lam)) (F_hq_size : Fld Z h0 hq "java/util/PriorityQueue" "size" "I" (.int pv)) (F_hq_modCount : Fld Z h0 hq "java/util/PriorityQueue" "modCount" "I" (.int mc)) (A_qa : Ars Z h0 qa (.object "java/lang/Object") us) (O_qa : own_Ob Z h0 qa "java/lang/Object") (O_lam : own_Fn Z h0 lam cK) (D_xs : own_DX Z h0 P xs) (hr : own_rv xs vs hv_ tv hd tl) (hh : own_hv xs us pv) :
  Ctr l Z (⟨"com/example/framewheel/framewheel/core/TimeOrderedQueue", "peek", "()Ljava/lang/Object;"⟩ : MethodName) prog_15_method_4_code 4 (some (.object "java/lang/Object")) ({ frames := 3, cells := 0, slots := 0, locals := 42 } : Room) #[(.ref this)] h0 (fun v h L => ∃ w : Value, v = some w ∧ Fr n0 L ∧ h = h0 ∧ ((w = .null ∧ hd = tl ∧ pv = 0) ∨ (∃ x ∈ xs, w = .ref x ∧ ((¬ hd = tl ∧ vs[hd]? = some (.ref x)) ∨ ¬ pv = 0)))) := by
 refine Ctr.of (plainFor_of_name pn_5) (fun m => ef_c_tpek m this) ?_
 intro p e s m below meth c T0 hx hby hml hown hnm hret hlk hH e0 X0 hnd
 have hZ := hH.wide
 have N0 := Fr.nil n0
 replace hown : s.vm.findClass "com/example/framewheel/framewheel/core/TimeOrderedQueue" = some m.cls := hown
 replace hml : c.maxLocals = 4 := hml
 rcases hh with ⟨rfl, rfl⟩ | ⟨y1, hy1, rfl, rfl⟩ | ⟨y1, hy1, y2, hy2, rfl, rfl⟩
 ·skip
  by_cases hE : hd = tl
  ·skip
   refine Run.x_aloadN (q := 1) X0 hx (hb hby d23_0) rfl rfl rfl ?_
   refine Run.z_getF (q := 4) X0 hx hZ e0 hown (wm52 hw) F_this_run (hb hby d23_1) rfl fun T1 X1 e1 => ?_
   have hf := own_firstN hr hE
   refine Run.callV X1 hx hH e1 (y := (⟨"java/util/ArrayDeque", "peekFirst", "()Ljava/lang/Object;"⟩ : MethodName)) (z := (⟨"java/util/ArrayDeque", "peekFirst", "()Ljava/lang/Object;"⟩ : MethodName)) hown (wm171 hw) (wm172 hw) (notFace_of_selects (args := #[]) (mvT hZ (wm174 hw))) (wm174 hw) (wm173 hw) (wm37 hw) (wm175 hw) (by decide) (a := rq) E_rq (argsL := []) (rest := []) (c_pkf_n l Z a0 hw rq h0 n0 Z0 ea vs hv_ hd E_rq F_rq_elements F_rq_head A_ea hr.1 hf) pd_8 rfl (by rw [hml]; rfl) (W := 0) rfl (by decide) (by decide) (by decide) (by decide) (hb hby d23_4) rfl ?_
   intro T2 v2 L2 X2 q2
   obtain ⟨rfl, M2, e2⟩ := q2
   have N2 := Fr.app N0 M2
   show Run p e below s _ _ _ (T2.setTop (mkF m 7 #[.val (.ref this), .unset, .unset, .unset] [.null]))
   refine Run.x_astoreN (q := 8) X2 hx #[.val (.ref this), .val .null, .unset, .unset] (hb hby d23_7) rfl rfl rfl ?_
   refine Run.x_aloadN (q := 9) X2 hx (hb hby d23_8) rfl rfl rfl ?_
   refine Run.z_getF (q := 12) X2 hx hZ e2 hown (wm79 hw) F_this_heap (hb hby d23_9) rfl fun T3 X3 e3 => ?_
   refine Run.callV X3 hx hH e3 (y := (⟨"java/util/PriorityQueue", "peek", "()Ljava/lang/Object;"⟩ : MethodName)) (z := (⟨"java/util/PriorityQueue", "peek", "()Ljava/lang/Object;"⟩ : MethodName)) hown (wm176 hw) (wm177 hw) (notFace_of_selects (args := #[]) (mvT hZ (wm179 hw))) (wm179 hw) (wm178 hw) (wm58 hw) (wm180 hw) (by decide) (a := hq) E_hq (argsL := []) (rest := []) (c_pkh_n l Z a0 hw hq h0 n0 Z0 qa [.null, .null, .null, .null, .null, .null, .null, .null, .null, .null, .null] E_hq F_hq_queue A_qa rfl) pd_8 rfl (by rw [hml]; rfl) (W := 0) rfl (by decide) (by decide) (by decide) (by decide) (hb hby d23_12) rfl ?_
   intro T4 v4 L4 X4 q4
   obtain ⟨rfl, M4, e4⟩ := q4
   have N4 := Fr.app N2 M4
   show Run p e below s _ _ _ (T4.setTop (mkF m 15 #[.val (.ref this), .val .null, .unset, .unset] [.null]))
   refine Run.x_astoreN (q := 16) X4 hx #[.val (.ref this), .val .null, .val .null, .unset] (hb hby d23_15) rfl rfl rfl ?_
   refine Run.x_aloadN (q := 17) X4 hx (hb hby d23_16) rfl rfl rfl ?_
   refine Run.st (B := T4.setTop (mkF m 20 #[.val (.ref this), .val .null, .val .null, .unset] [])) (fun t kt => XS.ifnonnullNo X4.here hx rfl (hb hby d23_17) rfl kt) ?_
   refine Run.x_aloadN (q := 21) X4 hx (hb hby d23_20) rfl rfl rfl ?_
   refine Run.x_astoreN (q := 22) X4 hx #[.val (.ref this), .val .null, .val .null, .val .null] (hb hby d23_21) rfl rfl rfl ?_
   refine Run.x_goto (q := 50) X4 hx (hb hby d23_22) (by decide) (by decide) ?_
   refine Run.x_aloadN (q := 51) X4 hx (hb hby d23_50) rfl rfl rfl ?_
   refine Run.retA X4 hx hlk e4 (t := (.object "java/lang/Object")) hret rfl rfl rfl (hb hby d23_51) (by decide) (by decide) ?_
   exact ⟨_, rfl, N4, rfl, Or.inl ⟨rfl, hE, rfl⟩⟩
  ·skip
   refine Run.x_aloadN (q := 1) X0 hx (hb hby d23_0) rfl rfl rfl ?_
   refine Run.z_getF (q := 4) X0 hx hZ e0 hown (wm52 hw) F_this_run (hb hby d23_1) rfl fun T5 X5 e5 => ?_
   obtain ⟨uf, huf, hf⟩ := own_firstR hr hE
   refine Run.callV X5 hx hH e5 (y := (⟨"java/util/ArrayDeque", "peekFirst", "()Ljava/lang/Object;"⟩ : MethodName)) (z := (⟨"java/util/ArrayDeque", "peekFirst", "()Ljava/lang/Object;"⟩ : MethodName)) hown (wm171 hw) (wm172 hw) (notFace_of_selects (args := #[]) (mvT hZ (wm174 hw))) (wm174 hw) (wm173 hw) (wm37 hw) (wm175 hw) (by decide) (a := rq) E_rq (argsL := []) (rest := []) (c_pkf_r l Z a0 hw rq h0 n0 Z0 ea vs hv_ hd uf E_rq F_rq_elements F_rq_head A_ea hr.1 hf) pd_8 rfl (by rw [hml]; rfl) (W := 0) rfl (by decide) (by decide) (by decide) (by decide) (hb hby d23_4) rfl ?_
   intro T6 v6 L6 X6 q6
   obtain ⟨rfl, M6, e6⟩ := q6
   have N6 := Fr.app N0 M6
   show Run p e below s _ _ _ (T6.setTop (mkF m 7 #[.val (.ref this), .unset, .unset, .unset] [(.ref uf)]))
   refine Run.x_astoreN (q := 8) X6 hx #[.val (.ref this), .val (.ref uf), .unset, .unset] (hb hby d23_7) rfl rfl rfl ?_
   refine Run.x_aloadN (q := 9) X6 hx (hb hby d23_8) rfl rfl rfl ?_
   refine Run.z_getF (q := 12) X6 hx hZ e6 hown (wm79 hw) F_this_heap (hb hby d23_9) rfl fun T7 X7 e7 => ?_
   refine Run.callV X7 hx hH e7 (y := (⟨"java/util/PriorityQueue", "peek", "()Ljava/lang/Object;"⟩ : MethodName)) (z := (⟨"java/util/PriorityQueue", "peek", "()Ljava/lang/Object;"⟩ : MethodName)) hown (wm176 hw) (wm177 hw) (notFace_of_selects (args := #[]) (mvT hZ (wm179 hw))) (wm179 hw) (wm178 hw) (wm58 hw) (wm180 hw) (by decide) (a := hq) E_hq (argsL := []) (rest := []) (c_pkh_n l Z a0 hw hq h0 n0 Z0 qa [.null, .null, .null, .null, .null, .null, .null, .null, .null, .null, .null] E_hq F_hq_queue A_qa rfl) pd_8 rfl (by rw [hml]; rfl) (W := 0) rfl (by decide) (by decide) (by decide) (by decide) (hb hby d23_12) rfl ?_
   intro T8 v8 L8 X8 q8
   obtain ⟨rfl, M8, e8⟩ := q8
   have N8 := Fr.app N6 M8
   show Run p e below s _ _ _ (T8.setTop (mkF m 15 #[.val (.ref this), .val (.ref uf), .unset, .unset] [.null]))
   refine Run.x_astoreN (q := 16) X8 hx #[.val (.ref this), .val (.ref uf), .val .null, .unset] (hb hby d23_15) rfl rfl rfl ?_
   refine Run.x_aloadN (q := 17) X8 hx (hb hby d23_16) rfl rfl rfl ?_
   refine Run.st (B := T8.setTop (mkF m 25 #[.val (.ref this), .val (.ref uf), .val .null, .unset] [])) (fun t kt => XS.ifnonnullYes X8.here hx rfl (pc0 := 17) (pc' := 25) rfl (hb hby d23_17) rfl (by decide) (by decide) kt) ?_
   refine Run.x_aloadN (q := 26) X8 hx (hb hby d23_25) rfl rfl rfl ?_
   refine Run.st (B := T8.setTop (mkF m 43 #[.val (.ref this), .val (.ref uf), .val .null, .unset] [])) (fun t kt => XS.ifnullYes X8.here hx rfl (pc0 := 26) (pc' := 43) rfl (hb hby d23_26) rfl (by decide) (by decide) kt) ?_
   refine Run.x_aloadN (q := 44) X8 hx (hb hby d23_43) rfl rfl rfl ?_
   refine Run.x_astoreN (q := 45) X8 hx #[.val (.ref this), .val (.ref uf), .val .null, .val (.ref uf)] (hb hby d23_44) rfl rfl rfl ?_
   refine Run.x_goto (q := 50) X8 hx (hb hby d23_45) (by decide) (by decide) ?_
   refine Run.x_aloadN (q := 51) X8 hx (hb hby d23_50) rfl rfl rfl ?_
   refine Run.retA X8 hx hlk e8 (t := (.object "java/lang/Object")) hret rfl rfl rfl (hb hby d23_51) (by decide) (by decide) ?_
   exact ⟨_, rfl, N8, rfl, Or.inr ⟨uf, huf, rfl, Or.inl ⟨hE, hf⟩⟩⟩
 ·skip
  by_cases hE : hd = tl
  ·skip
   refine Run.x_aloadN (q := 1) X0 hx (hb hby d23_0) rfl rfl rfl ?_
   refine Run.z_getF (q := 4) X0 hx hZ e0 hown (wm52 hw) F_this_run (hb hby d23_1) rfl fun T9 X9 e9 => ?_
   have hf := own_firstN hr hE
   refine Run.callV X9 hx hH e9 (y := (⟨"java/util/ArrayDeque", "peekFirst", "()Ljava/lang/Object;"⟩ : MethodName)) (z := (⟨"java/util/ArrayDeque", "peekFirst", "()Ljava/lang/Object;"⟩ : MethodName)) hown (wm171 hw) (wm172 hw) (notFace_of_selects (args := #[]) (mvT hZ (wm174 hw))) (wm174 hw) (wm173 hw) (wm37 hw) (wm175 hw) (by decide) (a := rq) E_rq (argsL := []) (rest := []) (c_pkf_n l Z a0 hw rq h0 n0 Z0 ea vs hv_ hd E_rq F_rq_elements F_rq_head A_ea hr.1 hf) pd_8 rfl (by rw [hml]; rfl) (W := 0) rfl (by decide) (by decide) (by decide) (by decide) (hb hby d23_4) rfl ?_
   intro T10 v10 L10 X10 q10
   obtain ⟨rfl, M10, e10⟩ := q10
   have N10 := Fr.app N0 M10
   show Run p e below s _ _ _ (T10.setTop (mkF m 7 #[.val (.ref this), .unset, .unset, .unset] [.null]))
   refine Run.x_astoreN (q := 8) X10 hx #[.val (.ref this), .val .null, .unset, .unset] (hb hby d23_7) rfl rfl rfl ?_
   refine Run.x_aloadN (q := 9) X10 hx (hb hby d23_8) rfl rfl rfl ?_
   refine Run.z_getF (q := 12) X10 hx hZ e10 hown (wm79 hw) F_this_heap (hb hby d23_9) rfl fun T11 X11 e11 => ?_
   refine Run.callV X11 hx hH e11 (y := (⟨"java/util/PriorityQueue", "peek", "()Ljava/lang/Object;"⟩ : MethodName)) (z := (⟨"java/util/PriorityQueue", "peek", "()Ljava/lang/Object;"⟩ : MethodName)) hown (wm176 hw) (wm177 hw) (notFace_of_selects (args := #[]) (mvT hZ (wm179 hw))) (wm179 hw) (wm178 hw) (wm58 hw) (wm180 hw) (by decide) (a := hq) E_hq (argsL := []) (rest := []) (c_pkh_r l Z a0 hw hq h0 n0 Z0 qa [(.ref y1), .null, .null, .null, .null, .null, .null, .null, .null, .null, .null] y1 E_hq F_hq_queue A_qa rfl) pd_8 rfl (by rw [hml]; rfl) (W := 0) rfl (by decide) (by decide) (by decide) (by decide) (hb hby d23_12) rfl ?_
   intro T12 v12 L12 X12 q12
   obtain ⟨rfl, M12, e12⟩ := q12
   have N12 := Fr.app N10 M12
   show Run p e below s _ _ _ (T12.setTop (mkF m 15 #[.val (.ref this), .val .null, .unset, .unset] [(.ref y1)]))
   refine Run.x_astoreN (q := 16) X12 hx #[.val (.ref this), .val .null, .val (.ref y1), .unset] (hb hby d23_15) rfl rfl rfl ?_
   refine Run.x_aloadN (q := 17) X12 hx (hb hby d23_16) rfl rfl rfl ?_
   refine Run.st (B := T12.setTop (mkF m 20 #[.val (.ref this), .val .null, .val (.ref y1), .unset] [])) (fun t kt => XS.ifnonnullNo X12.here hx rfl (hb hby d23_17) rfl kt) ?_
   refine Run.x_aloadN (q := 21) X12 hx (hb hby d23_20) rfl rfl rfl ?_
   refine Run.x_astoreN (q := 22) X12 hx #[.val (.ref this), .val .null, .val (.ref y1), .val (.ref y1)] (hb hby d23_21) rfl rfl rfl ?_
   refine Run.x_goto (q := 50) X12 hx (hb hby d23_22) (by decide) (by decide) ?_
   refine Run.x_aloadN (q := 51) X12 hx (hb hby d23_50) rfl rfl rfl ?_
   refine Run.retA X12 hx hlk e12 (t := (.object "java/lang/Object")) hret rfl rfl rfl (hb hby d23_51) (by decide) (by decide) ?_
   exact ⟨_, rfl, N12, rfl, Or.inr ⟨y1, hy1, rfl, Or.inr (by decide)⟩⟩
  ·skip
   refine Run.x_aloadN (q := 1) X0 hx (hb hby d23_0) rfl rfl rfl ?_
   refine Run.z_getF (q := 4) X0 hx hZ e0 hown (wm52 hw) F_this_run (hb hby d23_1) rfl fun T13 X13 e13 => ?_
   obtain ⟨uf, huf, hf⟩ := own_firstR hr hE
   refine Run.callV X13 hx hH e13 (y := (⟨"java/util/ArrayDeque", "peekFirst", "()Ljava/lang/Object;"⟩ : MethodName)) (z := (⟨"java/util/ArrayDeque", "peekFirst", "()Ljava/lang/Object;"⟩ : MethodName)) hown (wm171 hw) (wm172 hw) (notFace_of_selects (args := #[]) (mvT hZ (wm174 hw))) (wm174 hw) (wm173 hw) (wm37 hw) (wm175 hw) (by decide) (a := rq) E_rq (argsL := []) (rest := []) (c_pkf_r l Z a0 hw rq h0 n0 Z0 ea vs hv_ hd uf E_rq F_rq_elements F_rq_head A_ea hr.1 hf) pd_8 rfl (by rw [hml]; rfl) (W := 0) rfl (by decide) (by decide) (by decide) (by decide) (hb hby d23_4) rfl ?_
   intro T14 v14 L14 X14 q14
   obtain ⟨rfl, M14, e14⟩ := q14
   have N14 := Fr.app N0 M14
   show Run p e below s _ _ _ (T14.setTop (mkF m 7 #[.val (.ref this), .unset, .unset, .unset] [(.ref uf)]))
   refine Run.x_astoreN (q := 8) X14 hx #[.val (.ref this), .val (.ref uf), .unset, .unset] (hb hby d23_7) rfl rfl rfl ?_
   refine Run.x_aloadN (q := 9) X14 hx (hb hby d23_8) rfl rfl rfl ?_
   refine Run.z_getF (q := 12) X14 hx hZ e14 hown (wm79 hw) F_this_heap (hb hby d23_9) rfl fun T15 X15 e15 => ?_
   refine Run.callV X15 hx hH e15 (y := (⟨"java/util/PriorityQueue", "peek", "()Ljava/lang/Object;"⟩ : MethodName)) (z := (⟨"java/util/PriorityQueue", "peek", "()Ljava/lang/Object;"⟩ : MethodName)) hown (wm176 hw) (wm177 hw) (notFace_of_selects (args := #[]) (mvT hZ (wm179 hw))) (wm179 hw) (wm178 hw) (wm58 hw) (wm180 hw) (by decide) (a := hq) E_hq (argsL := []) (rest := []) (c_pkh_r l Z a0 hw hq h0 n0 Z0 qa [(.ref y1), .null, .null, .null, .null, .null, .null, .null, .null, .null, .null] y1 E_hq F_hq_queue A_qa rfl) pd_8 rfl (by rw [hml]; rfl) (W := 0) rfl (by decide) (by decide) (by decide) (by decide) (hb hby d23_12) rfl ?_
   intro T16 v16 L16 X16 q16
   obtain ⟨rfl, M16, e16⟩ := q16
   have N16 := Fr.app N14 M16
   show Run p e below s _ _ _ (T16.setTop (mkF m 15 #[.val (.ref this), .val (.ref uf), .unset, .unset] [(.ref y1)]))
   refine Run.x_astoreN (q := 16) X16 hx #[.val (.ref this), .val (.ref uf), .val (.ref y1), .unset] (hb hby d23_15) rfl rfl rfl ?_
   refine Run.x_aloadN (q := 17) X16 hx (hb hby d23_16) rfl rfl rfl ?_
   refine Run.st (B := T16.setTop (mkF m 25 #[.val (.ref this), .val (.ref uf), .val (.ref y1), .unset] [])) (fun t kt => XS.ifnonnullYes X16.here hx rfl (pc0 := 17) (pc' := 25) rfl (hb hby d23_17) rfl (by decide) (by decide) kt) ?_
   refine Run.x_aloadN (q := 26) X16 hx (hb hby d23_25) rfl rfl rfl ?_
   refine Run.st (B := T16.setTop (mkF m 29 #[.val (.ref this), .val (.ref uf), .val (.ref y1), .unset] [])) (fun t kt => XS.ifnullNo X16.here hx rfl (hb hby d23_26) rfl kt) ?_
   refine Run.x_aloadN (q := 30) X16 hx (hb hby d23_29) rfl rfl rfl ?_
   refine Run.z_getF (q := 33) X16 hx hZ e16 hown (wm54 hw) F_this_order (hb hby d23_30) rfl fun T17 X17 e17 => ?_
   refine Run.x_aloadN (q := 34) X17 hx (hb hby d23_33) rfl rfl rfl ?_
   refine Run.x_aloadN (q := 35) X17 hx (hb hby d23_34) rfl rfl rfl ?_
   obtain ⟨w1_18, d1_18, s1_18, E1_18, -, Fd1_18, Fs1_18, -⟩ := D_xs uf huf
   obtain ⟨w2_18, d2_18, s2_18, E2_18, -, Fd2_18, Fs2_18, -⟩ := D_xs y1 hy1
   refine own_callLam (q := 40) X17 hx hH e17 O_lam hown (wm182 hw) (wm183 hw) (wm184 hw) (wm186 hw) (wm185 hw) (wm11 hw) (wm181 hw) E1_18 E2_18 (c_cmp l Z a0 hw uf y1 h0 n0 Z0 d1_18 s1_18 d2_18 s2_18 E1_18 Fd1_18 Fs1_18 E2_18 Fd2_18 Fs2_18) (rest := []) (by rw [hml]; rfl) (W := 0) rfl (by decide) (by decide) (by decide) (by decide) (hb hby d23_35) rfl fun T18 L18 X18 M18 e18 => ?_
   have N18 := Fr.app N16 M18
   generalize hzc : (own_cmp d1_18 s1_18 d2_18 s2_18) = zc
   by_cases hc40 : zc < (0 : Int32)
   ·skip
    refine Run.x_ifNo (q := 43) X18 hx (hb hby d23_40) ((if0 _ _).trans (tlt hc40).2.1) rfl ?_
    refine Run.x_aloadN (q := 44) X18 hx (hb hby d23_43) rfl rfl rfl ?_
    refine Run.x_astoreN (q := 45) X18 hx #[.val (.ref this), .val (.ref uf), .val (.ref y1), .val (.ref uf)] (hb hby d23_44) rfl rfl rfl ?_
    refine Run.x_goto (q := 50) X18 hx (hb hby d23_45) (by decide) (by decide) ?_
    refine Run.x_aloadN (q := 51) X18 hx (hb hby d23_50) rfl rfl rfl ?_
    refine Run.retA X18 hx hlk e18 (t := (.object "java/lang/Object")) hret rfl rfl rfl (hb hby d23_51) (by decide) (by decide) ?_
    exact ⟨_, rfl, N18, rfl, Or.inr ⟨uf, huf, rfl, Or.inl ⟨hE, hf⟩⟩⟩
   ·skip
    refine Run.x_ifYes (q := 48) X18 hx (hb hby d23_40) ((if0 _ _).trans (flt hc40).2.1) (by decide) (by decide) ?_
    refine Run.x_aloadN (q := 49) X18 hx (hb hby d23_48) rfl rfl rfl ?_
    refine Run.x_astoreN (q := 50) X18 hx #[.val (.ref this), .val (.ref uf), .val (.ref y1), .val (.ref y1)] (hb hby d23_49) rfl rfl rfl ?_
    refine Run.x_aloadN (q := 51) X18 hx (hb hby d23_50) rfl rfl rfl ?_
    refine Run.retA X18 hx hlk e18 (t := (.object "java/lang/Object")) hret rfl rfl rfl (hb hby d23_51) (by decide) (by decide) ?_
    exact ⟨_, rfl, N18, rfl, Or.inr ⟨y1, hy1, rfl, Or.inr (by decide)⟩⟩
 ·skip
  by_cases hE : hd = tl
  ·skip
   refine Run.x_aloadN (q := 1) X0 hx (hb hby d23_0) rfl rfl rfl ?_
   refine Run.z_getF (q := 4) X0 hx hZ e0 hown (wm52 hw) F_this_run (hb hby d23_1) rfl fun T19 X19 e19 => ?_
   have hf := own_firstN hr hE
   refine Run.callV X19 hx hH e19 (y := (⟨"java/util/ArrayDeque", "peekFirst", "()Ljava/lang/Object;"⟩ : MethodName)) (z := (⟨"java/util/ArrayDeque", "peekFirst", "()Ljava/lang/Object;"⟩ : MethodName)) hown (wm171 hw) (wm172 hw) (notFace_of_selects (args := #[]) (mvT hZ (wm174 hw))) (wm174 hw) (wm173 hw) (wm37 hw) (wm175 hw) (by decide) (a := rq) E_rq (argsL := []) (rest := []) (c_pkf_n l Z a0 hw rq h0 n0 Z0 ea vs hv_ hd E_rq F_rq_elements F_rq_head A_ea hr.1 hf) pd_8 rfl (by rw [hml]; rfl) (W := 0) rfl (by decide) (by decide) (by decide) (by decide) (hb hby d23_4) rfl ?_
   intro T20 v20 L20 X20 q20
   obtain ⟨rfl, M20, e20⟩ := q20
   have N20 := Fr.app N0 M20
   show Run p e below s _ _ _ (T20.setTop (mkF m 7 #[.val (.ref this), .unset, .unset, .unset] [.null]))
   refine Run.x_astoreN (q := 8) X20 hx #[.val (.ref this), .val .null, .unset, .unset] (hb hby d23_7) rfl rfl rfl ?_
   refine Run.x_aloadN (q := 9) X20 hx (hb hby d23_8) rfl rfl rfl ?_
   refine Run.z_getF (q := 12) X20 hx hZ e20 hown (wm79 hw) F_this_heap (hb hby d23_9) rfl fun T21 X21 e21 => ?_
   refine Run.callV X21 hx hH e21 (y := (⟨"java/util/PriorityQueue", "peek", "()Ljava/lang/Object;"⟩ : MethodName)) (z := (⟨"java/util/PriorityQueue", "peek", "()Ljava/lang/Object;"⟩ : MethodName)) hown (wm176 hw) (wm177 hw) (notFace_of_selects (args := #[]) (mvT hZ (wm179 hw))) (wm179 hw) (wm178 hw) (wm58 hw) (wm180 hw) (by decide) (a := hq) E_hq (argsL := []) (rest := []) (c_pkh_r l Z a0 hw hq h0 n0 Z0 qa [(.ref y1), (.ref y2), .null, .null, .null, .null, .null, .null, .null, .null, .null] y1 E_hq F_hq_queue A_qa rfl) pd_8 rfl (by rw [hml]; rfl) (W := 0) rfl (by decide) (by decide) (by decide) (by decide) (hb hby d23_12) rfl ?_
   intro T22 v22 L22 X22 q22
   obtain ⟨rfl, M22, e22⟩ := q22
   have N22 := Fr.app N20 M22
   show Run p e below s _ _ _ (T22.setTop (mkF m 15 #[.val (.ref this), .val .null, .unset, .unset] [(.ref y1)]))
   refine Run.x_astoreN (q := 16) X22 hx #[.val (.ref this), .val .null, .val (.ref y1), .unset] (hb hby d23_15) rfl rfl rfl ?_
   refine Run.x_aloadN (q := 17) X22 hx (hb hby d23_16) rfl rfl rfl ?_
   refine Run.st (B := T22.setTop (mkF m 20 #[.val (.ref this), .val .null, .val (.ref y1), .unset] [])) (fun t kt => XS.ifnonnullNo X22.here hx rfl (hb hby d23_17) rfl kt) ?_
   refine Run.x_aloadN (q := 21) X22 hx (hb hby d23_20) rfl rfl rfl ?_
   refine Run.x_astoreN (q := 22) X22 hx #[.val (.ref this), .val .null, .val (.ref y1), .val (.ref y1)] (hb hby d23_21) rfl rfl rfl ?_
   refine Run.x_goto (q := 50) X22 hx (hb hby d23_22) (by decide) (by decide) ?_
   refine Run.x_aloadN (q := 51) X22 hx (hb hby d23_50) rfl rfl rfl ?_
   refine Run.retA X22 hx hlk e22 (t := (.object "java/lang/Object")) hret rfl rfl rfl (hb hby d23_51) (by decide) (by decide) ?_
   exact ⟨_, rfl, N22, rfl, Or.inr ⟨y1, hy1, rfl, Or.inr (by decide)⟩⟩
  ·skip
   refine Run.x_aloadN (q := 1) X0 hx (hb hby d23_0) rfl rfl rfl ?_
   refine Run.z_getF (q := 4) X0 hx hZ e0 hown (wm52 hw) F_this_run (hb hby d23_1) rfl fun T23 X23 e23 => ?_
   obtain ⟨uf, huf, hf⟩ := own_firstR hr hE
   refine Run.callV X23 hx hH e23 (y := (⟨"java/util/ArrayDeque", "peekFirst", "()Ljava/lang/Object;"⟩ : MethodName)) (z := (⟨"java/util/ArrayDeque", "peekFirst", "()Ljava/lang/Object;"⟩ : MethodName)) hown (wm171 hw) (wm172 hw) (notFace_of_selects (args := #[]) (mvT hZ (wm174 hw))) (wm174 hw) (wm173 hw) (wm37 hw) (wm175 hw) (by decide) (a := rq) E_rq (argsL := []) (rest := []) (c_pkf_r l Z a0 hw rq h0 n0 Z0 ea vs hv_ hd uf E_rq F_rq_elements F_rq_head A_ea hr.1 hf) pd_8 rfl (by rw [hml]; rfl) (W := 0) rfl (by decide) (by decide) (by decide) (by decide) (hb hby d23_4) rfl ?_
   intro T24 v24 L24 X24 q24
   obtain ⟨rfl, M24, e24⟩ := q24
   have N24 := Fr.app N0 M24
   show Run p e below s _ _ _ (T24.setTop (mkF m 7 #[.val (.ref this), .unset, .unset, .unset] [(.ref uf)]))
   refine Run.x_astoreN (q := 8) X24 hx #[.val (.ref this), .val (.ref uf), .unset, .unset] (hb hby d23_7) rfl rfl rfl ?_
   refine Run.x_aloadN (q := 9) X24 hx (hb hby d23_8) rfl rfl rfl ?_
   refine Run.z_getF (q := 12) X24 hx hZ e24 hown (wm79 hw) F_this_heap (hb hby d23_9) rfl fun T25 X25 e25 => ?_
   refine Run.callV X25 hx hH e25 (y := (⟨"java/util/PriorityQueue", "peek", "()Ljava/lang/Object;"⟩ : MethodName)) (z := (⟨"java/util/PriorityQueue", "peek", "()Ljava/lang/Object;"⟩ : MethodName)) hown (wm176 hw) (wm177 hw) (notFace_of_selects (args := #[]) (mvT hZ (wm179 hw))) (wm179 hw) (wm178 hw) (wm58 hw) (wm180 hw) (by decide) (a := hq) E_hq (argsL := []) (rest := []) (c_pkh_r l Z a0 hw hq h0 n0 Z0 qa [(.ref y1), (.ref y2), .null, .null, .null, .null, .null, .null, .null, .null, .null] y1 E_hq F_hq_queue A_qa rfl) pd_8 rfl (by rw [hml]; rfl) (W := 0) rfl (by decide) (by decide) (by decide) (by decide) (hb hby d23_12) rfl ?_
   intro T26 v26 L26 X26 q26
   obtain ⟨rfl, M26, e26⟩ := q26
   have N26 := Fr.app N24 M26
   show Run p e below s _ _ _ (T26.setTop (mkF m 15 #[.val (.ref this), .val (.ref uf), .unset, .unset] [(.ref y1)]))
   refine Run.x_astoreN (q := 16) X26 hx #[.val (.ref this), .val (.ref uf), .val (.ref y1), .unset] (hb hby d23_15) rfl rfl rfl ?_
   refine Run.x_aloadN (q := 17) X26 hx (hb hby d23_16) rfl rfl rfl ?_
   refine Run.st (B := T26.setTop (mkF m 25 #[.val (.ref this), .val (.ref uf), .val (.ref y1), .unset] [])) (fun t kt => XS.ifnonnullYes X26.here hx rfl (pc0 := 17) (pc' := 25) rfl (hb hby d23_17) rfl (by decide) (by decide) kt) ?_
   refine Run.x_aloadN (q := 26) X26 hx (hb hby d23_25) rfl rfl rfl ?_
   refine Run.st (B := T26.setTop (mkF m 29 #[.val (.ref this), .val (.ref uf), .val (.ref y1), .unset] [])) (fun t kt => XS.ifnullNo X26.here hx rfl (hb hby d23_26) rfl kt) ?_
   refine Run.x_aloadN (q := 30) X26 hx (hb hby d23_29) rfl rfl rfl ?_
   refine Run.z_getF (q := 33) X26 hx hZ e26 hown (wm54 hw) F_this_order (hb hby d23_30) rfl fun T27 X27 e27 => ?_
   refine Run.x_aloadN (q := 34) X27 hx (hb hby d23_33) rfl rfl rfl ?_
   refine Run.x_aloadN (q := 35) X27 hx (hb hby d23_34) rfl rfl rfl ?_
   obtain ⟨w1_28, d1_28, s1_28, E1_28, -, Fd1_28, Fs1_28, -⟩ := D_xs uf huf
   obtain ⟨w2_28, d2_28, s2_28, E2_28, -, Fd2_28, Fs2_28, -⟩ := D_xs y1 hy1
   refine own_callLam (q := 40) X27 hx hH e27 O_lam hown (wm182 hw) (wm183 hw) (wm184 hw) (wm186 hw) (wm185 hw) (wm11 hw) (wm181 hw) E1_28 E2_28 (c_cmp l Z a0 hw uf y1 h0 n0 Z0 d1_28 s1_28 d2_28 s2_28 E1_28 Fd1_28 Fs1_28 E2_28 Fd2_28 Fs2_28) (rest := []) (by rw [hml]; rfl) (W := 0) rfl (by decide) (by decide) (by decide) (by decide) (hb hby d23_35) rfl fun T28 L28 X28 M28 e28 => ?_
   have N28 := Fr.app N26 M28
   generalize hzc : (own_cmp d1_28 s1_28 d2_28 s2_28) = zc
   by_cases hc40 : zc < (0 : Int32)
   ·skip
    refine Run.x_ifNo (q := 43) X28 hx (hb hby d23_40) ((if0 _ _).trans (tlt hc40).2.1) rfl ?_
    refine Run.x_aloadN (q := 44) X28 hx (hb hby d23_43) rfl rfl rfl ?_
    refine Run.x_astoreN (q := 45) X28 hx #[.val (.ref this), .val (.ref uf), .val (.ref y1), .val (.ref uf)] (hb hby d23_44) rfl rfl rfl ?_
    refine Run.x_goto (q := 50) X28 hx (hb hby d23_45) (by decide) (by decide) ?_
    refine Run.x_aloadN (q := 51) X28 hx (hb hby d23_50) rfl rfl rfl ?_
    refine Run.retA X28 hx hlk e28 (t := (.object "java/lang/Object")) hret rfl rfl rfl (hb hby d23_51) (by decide) (by decide) ?_
    exact ⟨_, rfl, N28, rfl, Or.inr ⟨uf, huf, rfl, Or.inl ⟨hE, hf⟩⟩⟩
   ·skip
    refine Run.x_ifYes (q := 48) X28 hx (hb hby d23_40) ((if0 _ _).trans (flt hc40).2.1) (by decide) (by decide) ?_
    refine Run.x_aloadN (q := 49) X28 hx (hb hby d23_48) rfl rfl rfl ?_
    refine Run.x_astoreN (q := 50) X28 hx #[.val (.ref this), .val (.ref uf), .val (.ref y1), .val (.ref y1)] (hb hby d23_49) rfl rfl rfl ?_
    refine Run.x_aloadN (q := 51) X28 hx (hb hby d23_50) rfl rfl rfl ?_
    refine Run.retA X28 hx hlk e28 (t := (.object "java/lang/Object")) hret rfl rfl rfl (hb hby d23_51) (by decide) (by decide) ?_
    exact ⟨_, rfl, N28, rfl, Or.inr ⟨y1, hy1, rfl, Or.inr (by decide)⟩⟩
theorem d24_0 : decode prog_15_method_5_code 0 = .ok (.aload_n 0, 1) := by decide +kernel
theorem d24_1 : decode prog_15_method_5_code 1 = .ok (.invokevirtual 59, 3) := by decide +kernel
theorem d24_4 : decode prog_15_method_5_code 4 = .ok (.astore_n 1, 1) := by decide +kernel
theorem d24_5 : decode prog_15_method_5_code 5 = .ok (.aload_n 1, 1) := by decide +kernel
theorem d24_6 : decode prog_15_method_5_code 6 = .ok (.ifnull 25, 3) := by decide +kernel
theorem d24_9 : decode prog_15_method_5_code 9 = .ok (.aload_n 1, 1) := by decide +kernel
theorem d24_10 : decode prog_15_method_5_code 10 = .ok (.aload_n 0, 1) := by decide +kernel
theorem d24_11 : decode prog_15_method_5_code 11 = .ok (.getfield 10, 3) := by decide +kernel
theorem d24_14 : decode prog_15_method_5_code 14 = .ok (.invokevirtual 53, 3) := by decide +kernel
theorem d24_17 : decode prog_15_method_5_code 17 = .ok (.if_acmp .ne 14, 3) := by decide +kernel
theorem d24_20 : decode prog_15_method_5_code 20 = .ok (.aload_n 0, 1) := by decide +kernel
theorem d24_21 : decode prog_15_method_5_code 21 = .ok (.getfield 10, 3) := by decide +kernel
theorem d24_24 : decode prog_15_method_5_code 24 = .ok (.invokevirtual 60, 3) := by decide +kernel
theorem d24_27 : decode prog_15_method_5_code 27 = .ok (.pop, 1) := by decide +kernel
theorem d24_28 : decode prog_15_method_5_code 28 = .ok (.goto 15, 3) := by decide +kernel
theorem d24_31 : decode prog_15_method_5_code 31 = .ok (.aload_n 1, 1) := by decide +kernel
theorem d24_32 : decode prog_15_method_5_code 32 = .ok (.ifnull 11, 3) := by decide +kernel
theorem d24_35 : decode prog_15_method_5_code 35 = .ok (.aload_n 0, 1) := by decide +kernel
theorem d24_36 : decode prog_15_method_5_code 36 = .ok (.getfield 25, 3) := by decide +kernel
theorem d24_39 : decode prog_15_method_5_code 39 = .ok (.invokevirtual 63, 3) := by decide +kernel
theorem d24_42 : decode prog_15_method_5_code 42 = .ok (.pop, 1) := by decide +kernel
theorem d24_43 : decode prog_15_method_5_code 43 = .ok (.aload_n 1, 1) := by decide +kernel
theorem d24_44 : decode prog_15_method_5_code 44 = .ok (.areturn, 1) := by decide +kernel
theorem ef_c_tpol (m : MethodId) (this : Addr) : entryFrame m #[(.ref this)] 2 = mkF m 0 #[.val (.ref this), .unset] [] := by first | (simp [entryFrame, mkF, argsToLocals, Value.category]; done) | rfl
theorem wm215 {a0 : Array Value} {Z : State} (hw : ∀ d ∈ tables_1, d.before a0 Z = true) : (Jvm.Cond.methodLink "com/example/framewheel/framewheel/core/TimeOrderedQueue" (59 : Nat) ({ cls := "com/example/framewheel/framewheel/core/TimeOrderedQueue", name := "peek", desc := "()Ljava/lang/Object;" } : Jvm.MethodName)).before a0 Z = true := hw _ (List.mem_of_getElem? (i := 215) rfl)
theorem wm170 {a0 : Array Value} {Z : State} (hw : ∀ d ∈ tables_1, d.before a0 Z = true) : (Jvm.Cond.code ({ cls := "com/example/framewheel/framewheel/core/TimeOrderedQueue", name := "peek", desc := "()Ljava/lang/Object;" } : Jvm.MethodName) prog_15_method_4_code (4 : Nat) (Option.some (Jvm.ClassFile.FieldType.object "java/lang/Object"))).before a0 Z = true := hw _ (List.mem_of_getElem? (i := 170) rfl)
theorem wm169 {a0 : Array Value} {Z : State} (hw : ∀ d ∈ tables_1, d.before a0 Z = true) : (Jvm.Cond.selects "com/example/framewheel/framewheel/core/TimeOrderedQueue" ({ cls := "com/example/framewheel/framewheel/core/TimeOrderedQueue", name := "peek", desc := "()Ljava/lang/Object;" } : Jvm.MethodName) ({ cls := "com/example/framewheel/framewheel/core/TimeOrderedQueue", name := "peek", desc := "()Ljava/lang/Object;" } : Jvm.MethodName)).before a0 Z = true := hw _ (List.mem_of_getElem? (i := 169) rfl)
theorem wm167 {a0 : Array Value} {Z : State} (hw : ∀ d ∈ tables_1, d.before a0 Z = true) : (Jvm.Cond.declares ({ cls := "com/example/framewheel/framewheel/core/TimeOrderedQueue", name := "peek", desc := "()Ljava/lang/Object;" } : Jvm.MethodName)).before a0 Z = true := hw _ (List.mem_of_getElem? (i := 167) rfl)
theorem wm168 {a0 : Array Value} {Z : State} (hw : ∀ d ∈ tables_1, d.before a0 Z = true) : (Jvm.Cond.instanceMethod ({ cls := "com/example/framewheel/framewheel/core/TimeOrderedQueue", name := "peek", desc := "()Ljava/lang/Object;" } : Jvm.MethodName)).before a0 Z = true := hw _ (List.mem_of_getElem? (i := 168) rfl)
theorem wm216 {a0 : Array Value} {Z : State} (hw : ∀ d ∈ tables_1, d.before a0 Z = true) : (Jvm.Cond.methodLink "com/example/framewheel/framewheel/core/TimeOrderedQueue" (60 : Nat) ({ cls := "java/util/ArrayDeque", name := "pollFirst", desc := "()Ljava/lang/Object;" } : Jvm.MethodName)).before a0 Z = true := hw _ (List.mem_of_getElem? (i := 216) rfl)
theorem wm220 {a0 : Array Value} {Z : State} (hw : ∀ d ∈ tables_1, d.before a0 Z = true) : (Jvm.Cond.code ({ cls := "java/util/ArrayDeque", name := "pollFirst", desc := "()Ljava/lang/Object;" } : Jvm.MethodName) jdk_21_method_20_code (4 : Nat) (Option.some (Jvm.ClassFile.FieldType.object "java/lang/Object"))).before a0 Z = true := hw _ (List.mem_of_getElem? (i := 220) rfl)
theorem wm219 {a0 : Array Value} {Z : State} (hw : ∀ d ∈ tables_1, d.before a0 Z = true) : (Jvm.Cond.selects "java/util/ArrayDeque" ({ cls := "java/util/ArrayDeque", name := "pollFirst", desc := "()Ljava/lang/Object;" } : Jvm.MethodName) ({ cls := "java/util/ArrayDeque", name := "pollFirst", desc := "()Ljava/lang/Object;" } : Jvm.MethodName)).before a0 Z = true := hw _ (List.mem_of_getElem? (i := 219) rfl)
theorem wm217 {a0 : Array Value} {Z : State} (hw : ∀ d ∈ tables_1, d.before a0 Z = true) : (Jvm.Cond.declares ({ cls := "java/util/ArrayDeque", name := "pollFirst", desc := "()Ljava/lang/Object;" } : Jvm.MethodName)).before a0 Z = true := hw _ (List.mem_of_getElem? (i := 217) rfl)
theorem wm218 {a0 : Array Value} {Z : State} (hw : ∀ d ∈ tables_1, d.before a0 Z = true) : (Jvm.Cond.instanceMethod ({ cls := "java/util/ArrayDeque", name := "pollFirst", desc := "()Ljava/lang/Object;" } : Jvm.MethodName)).before a0 Z = true := hw _ (List.mem_of_getElem? (i := 218) rfl)
theorem wm248 {a0 : Array Value} {Z : State} (hw : ∀ d ∈ tables_1, d.before a0 Z = true) : (Jvm.Cond.methodLink "com/example/framewheel/framewheel/core/TimeOrderedQueue" (63 : Nat) ({ cls := "java/util/PriorityQueue", name := "poll", desc := "()Ljava/lang/Object;" } : Jvm.MethodName)).before a0 Z = true := hw _ (List.mem_of_getElem? (i := 248) rfl)
theorem wm252 {a0 : Array Value} {Z : State} (hw : ∀ d ∈ tables_1, d.before a0 Z = true) : (Jvm.Cond.code ({ cls := "java/util/PriorityQueue", name := "poll", desc := "()Ljava/lang/Object;" } : Jvm.MethodName) jdk_2655_method_25_code (6 : Nat) (Option.some (Jvm.ClassFile.FieldType.object "java/lang/Object"))).before a0 Z = true := hw _ (List.mem_of_getElem? (i := 252) rfl)
theorem wm251 {a0 : Array Value} {Z : State} (hw : ∀ d ∈ tables_1, d.before a0 Z = true) : (Jvm.Cond.selects "java/util/PriorityQueue" ({ cls := "java/util/PriorityQueue", name := "poll", desc := "()Ljava/lang/Object;" } : Jvm.MethodName) ({ cls := "java/util/PriorityQueue", name := "poll", desc := "()Ljava/lang/Object;" } : Jvm.MethodName)).before a0 Z = true := hw _ (List.mem_of_getElem? (i := 251) rfl)
theorem wm249 {a0 : Array Value} {Z : State} (hw : ∀ d ∈ tables_1, d.before a0 Z = true) : (Jvm.Cond.declares ({ cls := "java/util/PriorityQueue", name := "poll", desc := "()Ljava/lang/Object;" } : Jvm.MethodName)).before a0 Z = true := hw _ (List.mem_of_getElem? (i := 249) rfl)
theorem wm250 {a0 : Array Value} {Z : State} (hw : ∀ d ∈ tables_1, d.before a0 Z = true) : (Jvm.Cond.instanceMethod ({ cls := "java/util/PriorityQueue", name := "poll", desc := "()Ljava/lang/Object;" } : Jvm.MethodName)).before a0 Z = true := hw _ (List.mem_of_getElem? (i := 250) rfl)
set_option maxRecDepth 65536 in
set_option maxHeartbeats 40000000 in
theorem c_tpol (l : Launch) (Z : State) (a0 : Array Value) (hw : ∀ d ∈ tables_1, d.before a0 Z = true) (this : Addr) (h0 : Heap) (n0 : Nat) (Z0 : n0 ≤ h0.size) (cK : ClassId) (P : Addr → Prop) (xs : List Addr) (rq : Addr) (hq : Addr) (ea : Addr) (qa : Addr) (vs : List Value) (us : List Value) (hv_ : Int32) (tv : Int32) (pv : Int32) (mc : Int32) (hd : Nat) (tl : Nat) (lam : Addr) (E_this : Exa Z h0 this "com/example/framewheel/framewheel/core/TimeOrderedQueue") (F_this_run : Fld Z h0 this "com/example/framewheel/framewheel/core/TimeOrderedQueue" "run" "Ljava/util/ArrayDeque;" (.ref rq)) (F_this_order : Fld Z h0 this "com/example/framewheel/framewheel/core/TimeOrderedQueue" "order" "Ljava/util/Comparator;" (.ref lam)) (F_this_heap : Fld Z h0 this "com/example/framewheel/framewheel/core/TimeOrderedQueue" "heap" "Ljava/util/PriorityQueue;" (.ref hq)) (E_rq : Exa Z h0 rq "java/util/ArrayDeque") (F_rq_elements : Fld Z h0 rq "java/util/ArrayDeque" "elements" "[Ljava/lang/Object;" (.ref ea)) (F_rq_head : Fld Z h0 rq "java/util/ArrayDeque" "head" "I" (.int hv_)) (F_rq_tail : Fld Z h0 rq "java/util/ArrayDeque" "tail" "I" (.int tv)) (A_ea : Ars Z h0 ea (.object "java/lang/Object") vs) (O_ea : own_Ob Z h0 ea "java/lang/Object") (E_hq : Exa Z h0 hq "java/util/PriorityQueue") (F_hq_queue : Fld Z h0 hq "java/util/PriorityQueue" "queue" "[Ljava/lang/Object;" (.ref qa)) (F_hq_comparator : Fld Z h0 hq "java/util/PriorityQueue" "comparator" "Ljava/util/Comparator;" (.ref lam)) (F_hq_size : Fld Z h0 hq "java/util/PriorityQueue" "size" "I" (.int pv)) (F_hq_modCount : Fld Z h0 hq "java/util/PriorityQueue" "modCount" "I" (.int mc)) (A_qa : Ars Z h0 qa (.object "java/lang/Object") us) (O_qa : own_Ob Z h0 qa "java/lang/Object") (O_lam : own_Fn Z h0 lam cK) (D_xs : own_DX Z h0 P xs) (g_rq : n0 ≤ rq) (g_hq : n0 ≤ hq) (g_ea : n0 ≤ ea) (g_qa : n0 ≤ qa) (ne_this_rq : this ≠ rq) (ne_this_hq : this ≠ hq) (ne_this_ea : this ≠ ea) (ne_this_qa : this ≠ qa) (ne_rq_hq : rq ≠ hq) (ne_rq_ea : rq ≠ ea) (ne_rq_qa : rq ≠ qa) (ne_hq_ea : hq ≠ ea) (ne_hq_qa : hq ≠ qa) (ne_ea_qa : ea ≠ qa) (ne_xs_this : this ∉ xs) (ne_xs_rq : rq ∉ xs) (ne_xs_hq : hq ∉ xs) (ne_xs_ea : ea ∉ xs) (ne_xs_qa : qa ∉ xs) (hr : own_rv xs vs hv_ tv hd tl) (hh : own_hv xs us pv) (hne : ¬ hd = tl ∨ ¬ pv = 0) :
  Ctr l Z (⟨"com/example/framewheel/framewheel/core/TimeOrderedQueue", "poll", "()Ljava/lang/Object;"⟩ : MethodName) prog_15_method_5_code 2 (some (.object "java/lang/Object")) ({ frames := 4, cells := 0, slots := 0, locals := 57 } : Room) #[(.ref this)] h0 (fun v h L => ∃ w : Addr, v = some (.ref w) ∧ Fr n0 L ∧ Keep h0 h [rq, ea, hq, qa] ∧ ∃ (hv_' tv' pv' mc' : Int32) (hd' tl' : Nat) (vs' us' : List Value), Exa Z h this "com/example/framewheel/framewheel/core/TimeOrderedQueue" ∧ Fld Z h this "com/example/framewheel/framewheel/core/TimeOrderedQueue" "run" "Ljava/util/ArrayDeque;" (.ref rq) ∧ Fld Z h this "com/example/framewheel/framewheel/core/TimeOrderedQueue" "order" "Ljava/util/Comparator;" (.ref lam) ∧ Fld Z h this "com/example/framewheel/framewheel/core/TimeOrderedQueue" "heap" "Ljava/util/PriorityQueue;" (.ref hq) ∧ Exa Z h rq "java/util/ArrayDeque" ∧ Fld Z h rq "java/util/ArrayDeque" "elements" "[Ljava/lang/Object;" (.ref ea) ∧ Fld Z h rq "java/util/ArrayDeque" "head" "I" (.int hv_') ∧ Fld Z h rq "java/util/ArrayDeque" "tail" "I" (.int tv') ∧ Ars Z h ea (.object "java/lang/Object") vs' ∧ own_Ob Z h ea "java/lang/Object" ∧ Exa Z h hq "java/util/PriorityQueue" ∧ Fld Z h hq "java/util/PriorityQueue" "queue" "[Ljava/lang/Object;" (.ref qa) ∧ Fld Z h hq "java/util/PriorityQueue" "comparator" "Ljava/util/Comparator;" (.ref lam) ∧ Fld Z h hq "java/util/PriorityQueue" "size" "I" (.int pv') ∧ Fld Z h hq "java/util/PriorityQueue" "modCount" "I" (.int mc') ∧ Ars Z h qa (.object "java/lang/Object") us' ∧ own_Ob Z h qa "java/lang/Object" ∧ own_Fn Z h lam cK ∧ own_DX Z h P xs ∧ own_rv xs vs' hv_' tv' hd' tl' ∧ own_hv xs us' pv' ∧ (tl' - hd') + pv'.toInt.toNat + 1 = (tl - hd) + pv.toInt.toNat ∧ tl' ≤ tl) := by
 refine Ctr.of (plainFor_of_name pn_5) (fun m => ef_c_tpol m this) ?_
 intro p e s m below meth c T0 hx hby hml hown hnm hret hlk hH e0 X0 hnd
 have hZ := hH.wide
 have N0 := Fr.nil n0
 replace hown : s.vm.findClass "com/example/framewheel/framewheel/core/TimeOrderedQueue" = some m.cls := hown
 replace hml : c.maxLocals = 2 := hml
 have KP := Keep.refl h0 [rq, ea, hq, qa]
 refine Run.x_aloadN (q := 1) X0 hx (hb hby d24_0) rfl rfl rfl ?_
 refine Run.callV X0 hx hH e0 (y := (⟨"com/example/framewheel/framewheel/core/TimeOrderedQueue", "peek", "()Ljava/lang/Object;"⟩ : MethodName)) (z := (⟨"com/example/framewheel/framewheel/core/TimeOrderedQueue", "peek", "()Ljava/lang/Object;"⟩ : MethodName)) hown (wm215 hw) (wm167 hw) (notFace_of_selects (args := #[]) (mvT hZ (wm169 hw))) (wm169 hw) (wm168 hw) (wm27 hw) (wm170 hw) (by decide) (a := this) E_this (argsL := []) (rest := []) (c_tpek l Z a0 hw this h0 n0 Z0 cK P xs rq hq ea qa vs us hv_ tv pv mc hd tl lam E_this F_this_run F_this_order F_this_heap E_rq F_rq_elements F_rq_head F_rq_tail A_ea O_ea E_hq F_hq_queue F_hq_comparator F_hq_size F_hq_modCount A_qa O_qa O_lam D_xs hr hh) pd_8 rfl (by rw [hml]; rfl) (W := 0) rfl (by decide) (by decide) (by decide) (by decide) (hb hby d24_1) rfl ?_
 intro T1 v1 L1 X1 q1
 obtain ⟨wv1, rfl, M1, e1, hw1⟩ := q1
 have N1 := Fr.app N0 M1
 show Run p e below s _ _ _ (T1.setTop (mkF m 4 #[.val (.ref this), .unset] [wv1]))
 rcases hw1 with ⟨rfl, hE0, hp0⟩ | ⟨ux, hux, rfl, hwh⟩
 ·skip
  exact absurd hp0 (hne.resolve_left (fun q => q hE0))
 ·skip
  show Run p e below s _ _ _ (T1.setTop (mkF m 4 #[.val (.ref this), .unset] [(.ref ux)]))
  rcases hh with ⟨rfl, rfl⟩ | ⟨y1, hy1, rfl, rfl⟩ | ⟨y1, hy1, y2, hy2, rfl, rfl⟩
  ·skip
   by_cases hE : hd = tl
   ·skip
    refine Run.x_astoreN (q := 5) X1 hx #[.val (.ref this), .val (.ref ux)] (hb hby d24_4) rfl rfl rfl ?_
    refine Run.x_aloadN (q := 6) X1 hx (hb hby d24_5) rfl rfl rfl ?_
    refine Run.st (B := T1.setTop (mkF m 9 #[.val (.ref this), .val (.ref ux)] [])) (fun t kt => XS.ifnullNo X1.here hx rfl (hb hby d24_6) rfl kt) ?_
    refine Run.x_aloadN (q := 10) X1 hx (hb hby d24_9) rfl rfl rfl ?_
    refine Run.x_aloadN (q := 11) X1 hx (hb hby d24_10) rfl rfl rfl ?_
    refine Run.z_getF (q := 14) X1 hx hZ e1 hown (wm52 hw) F_this_run (hb hby d24_11) rfl fun T2 X2 e2 => ?_
    have hf := own_firstN hr hE
    refine Run.callV X2 hx hH e2 (y := (⟨"java/util/ArrayDeque", "peekFirst", "()Ljava/lang/Object;"⟩ : MethodName)) (z := (⟨"java/util/ArrayDeque", "peekFirst", "()Ljava/lang/Object;"⟩ : MethodName)) hown (wm171 hw) (wm172 hw) (notFace_of_selects (args := #[]) (mvT hZ (wm174 hw))) (wm174 hw) (wm173 hw) (wm37 hw) (wm175 hw) (by decide) (a := rq) E_rq (argsL := []) (rest := [(.ref ux)]) (c_pkf_n l Z a0 hw rq h0 n0 Z0 ea vs hv_ hd E_rq F_rq_elements F_rq_head A_ea hr.1 hf) pd_8 rfl (by rw [hml]; rfl) (W := 1) rfl (by decide) (by decide) (by decide) (by decide) (hb hby d24_14) rfl ?_
    intro T3 v3 L3 X3 q3
    obtain ⟨rfl, M3, e3⟩ := q3
    have N3 := Fr.app N1 M3
    show Run p e below s _ _ _ (T3.setTop (mkF m 17 #[.val (.ref this), .val (.ref ux)] [.null, (.ref ux)]))
    refine Run.st (B := T3.setTop (mkF m 31 #[.val (.ref this), .val (.ref ux)] [])) (fun t kt => Jvm.RoadKit.acmp (g := (mkF m 17 #[.val (.ref this), .val (.ref ux)] [.null, (.ref ux)])) X3 hx rfl rfl rfl (pc0 := 17) (pc' := 31) (same := false) rfl (hb hby d24_17) rfl (decide_eq_false nofun) (by decide) (by decide) kt) ?_
    refine Run.x_aloadN (q := 32) X3 hx (hb hby d24_31) rfl rfl rfl ?_
    refine Run.st (B := T3.setTop (mkF m 35 #[.val (.ref this), .val (.ref ux)] [])) (fun t kt => XS.ifnullNo X3.here hx rfl (hb hby d24_32) rfl kt) ?_
    exact absurd rfl (hne.resolve_left (fun q => q hE))
   ·skip
    refine Run.x_astoreN (q := 5) X1 hx #[.val (.ref this), .val (.ref ux)] (hb hby d24_4) rfl rfl rfl ?_
    refine Run.x_aloadN (q := 6) X1 hx (hb hby d24_5) rfl rfl rfl ?_
    refine Run.st (B := T1.setTop (mkF m 9 #[.val (.ref this), .val (.ref ux)] [])) (fun t kt => XS.ifnullNo X1.here hx rfl (hb hby d24_6) rfl kt) ?_
    refine Run.x_aloadN (q := 10) X1 hx (hb hby d24_9) rfl rfl rfl ?_
    refine Run.x_aloadN (q := 11) X1 hx (hb hby d24_10) rfl rfl rfl ?_
    refine Run.z_getF (q := 14) X1 hx hZ e1 hown (wm52 hw) F_this_run (hb hby d24_11) rfl fun T4 X4 e4 => ?_
    obtain ⟨uf, huf, hf⟩ := own_firstR hr hE
    refine Run.callV X4 hx hH e4 (y := (⟨"java/util/ArrayDeque", "peekFirst", "()Ljava/lang/Object;"⟩ : MethodName)) (z := (⟨"java/util/ArrayDeque", "peekFirst", "()Ljava/lang/Object;"⟩ : MethodName)) hown (wm171 hw) (wm172 hw) (notFace_of_selects (args := #[]) (mvT hZ (wm174 hw))) (wm174 hw) (wm173 hw) (wm37 hw) (wm175 hw) (by decide) (a := rq) E_rq (argsL := []) (rest := [(.ref ux)]) (c_pkf_r l Z a0 hw rq h0 n0 Z0 ea vs hv_ hd uf E_rq F_rq_elements F_rq_head A_ea hr.1 hf) pd_8 rfl (by rw [hml]; rfl) (W := 1) rfl (by decide) (by decide) (by decide) (by decide) (hb hby d24_14) rfl ?_
    intro T5 v5 L5 X5 q5
    obtain ⟨rfl, M5, e5⟩ := q5
    have N5 := Fr.app N1 M5
    show Run p e below s _ _ _ (T5.setTop (mkF m 17 #[.val (.ref this), .val (.ref ux)] [(.ref uf), (.ref ux)]))
    by_cases hxu : ux = uf
    ·skip
     refine Run.st (B := T5.setTop (mkF m 20 #[.val (.ref this), .val (.ref ux)] [])) (fun t kt => Jvm.RoadKit.acmp (g := (mkF m 17 #[.val (.ref this), .val (.ref ux)] [(.ref uf), (.ref ux)])) X5 hx rfl rfl rfl (pc0 := 17) (pc' := 20) (same := true) rfl (hb hby d24_17) rfl (decide_eq_true (congrArg Value.ref hxu)) (by decide) (by decide) kt) ?_
     refine Run.x_aloadN (q := 21) X5 hx (hb hby d24_20) rfl rfl rfl ?_
     refine Run.z_getF (q := 24) X5 hx hZ e5 hown (wm52 hw) F_this_run (hb hby d24_21) rfl fun T6 X6 e6 => ?_
     refine Run.callV X6 hx hH e6 (y := (⟨"java/util/ArrayDeque", "pollFirst", "()Ljava/lang/Object;"⟩ : MethodName)) (z := (⟨"java/util/ArrayDeque", "pollFirst", "()Ljava/lang/Object;"⟩ : MethodName)) hown (wm216 hw) (wm217 hw) (notFace_of_selects (args := #[]) (mvT hZ (wm219 hw))) (wm219 hw) (wm218 hw) (wm37 hw) (wm220 hw) (by decide) (a := rq) E_rq (argsL := []) (rest := []) (c_plf l Z a0 hw rq h0 n0 Z0 ea vs hv_ tv hd uf E_rq F_rq_elements F_rq_head F_rq_tail A_ea O_ea g_rq g_ea ne_rq_ea hr.2.2.2.2.1 hr.1 (by have := hr.2.2.1; have := hr.2.2.2.1; omega) hf (own_lt17 hr.1 (by have := hr.2.2.1; have := hr.2.2.2.1; omega))) pd_8 rfl (by rw [hml]; rfl) (W := 0) rfl (by decide) (by decide) (by decide) (by decide) (hb hby d24_24) rfl ?_
     intro T7 v7 L7 X7 q7
     obtain ⟨rfl, M7, K7, Er7, Fe7, Fh7, Ft7, Ae7⟩ := q7
     have N7 := Fr.app N5 M7
     show Run p e below s _ _ _ (T7.setTop (mkF m 27 #[.val (.ref this), .val (.ref ux)] [(.ref uf)]))
     have Z7 : n0 ≤ T7.heap.size := Nat.le_trans Z0 K7.1
     replace KP := KP.trans K7 (allS (Or.inl (by simp)) (allS (Or.inl (by simp)) all0))
     refine Run.x_pop (q := 28) X7 hx (hb hby d24_27) rfl rfl ?_
     refine Run.x_goto (q := 43) X7 hx (hb hby d24_28) (by decide) (by decide) ?_
     refine Run.x_aloadN (q := 44) X7 hx (hb hby d24_43) rfl rfl rfl ?_
     replace E_this := E_this.keep K7
     replace F_this_run := F_this_run.keep K7 (ninS ne_this_rq (ninS ne_this_ea nin0))
     replace F_this_order := F_this_order.keep K7 (ninS ne_this_rq (ninS ne_this_ea nin0))
     replace F_this_heap := F_this_heap.keep K7 (ninS ne_this_rq (ninS ne_this_ea nin0))
     replace O_ea := O_ea.keep K7
     replace E_hq := E_hq.keep K7
     replace F_hq_queue := F_hq_queue.keep K7 (ninS (Ne.symm ne_rq_hq) (ninS ne_hq_ea nin0))
     replace F_hq_comparator := F_hq_comparator.keep K7 (ninS (Ne.symm ne_rq_hq) (ninS ne_hq_ea nin0))
     replace F_hq_size := F_hq_size.keep K7 (ninS (Ne.symm ne_rq_hq) (ninS ne_hq_ea nin0))
     replace F_hq_modCount := F_hq_modCount.keep K7 (ninS (Ne.symm ne_rq_hq) (ninS ne_hq_ea nin0))
     replace A_qa := A_qa.keep K7 (ninS (Ne.symm ne_rq_qa) (ninS (Ne.symm ne_ea_qa) nin0))
     replace O_qa := O_qa.keep K7
     replace O_lam := O_lam.keep K7
     replace D_xs := D_xs.keep K7 (own_dnS ne_xs_rq (own_dnS ne_xs_ea own_dn0))
     refine Run.retA X7 hx hlk rfl (t := (.object "java/lang/Object")) hret rfl rfl rfl (hb hby d24_44) (by decide) (by decide) ?_
     exact ⟨_, rfl, N7, KP, ⟨_, _, _, _, (hd + 1), tl, _, _, E_this, F_this_run, F_this_order, F_this_heap, Er7, Fe7, Fh7, Ft7, Ae7, O_ea, E_hq, F_hq_queue, F_hq_comparator, F_hq_size, F_hq_modCount, A_qa, O_qa, O_lam, D_xs, (own_rv_first hr (by have := hr.2.2.1; omega)), Or.inl ⟨rfl, rfl⟩, by have := own_pn; have := hr.2.2.1; omega⟩⟩
    ·skip
     have hp := hwh.resolve_left (fun q => hxu (by have := q.2.symm.trans hf; cases this; rfl))
     refine Run.st (B := T5.setTop (mkF m 31 #[.val (.ref this), .val (.ref ux)] [])) (fun t kt => Jvm.RoadKit.acmp (g := (mkF m 17 #[.val (.ref this), .val (.ref ux)] [(.ref uf), (.ref ux)])) X5 hx rfl rfl rfl (pc0 := 17) (pc' := 31) (same := false) rfl (hb hby d24_17) rfl (decide_eq_false fun q => hxu (Value.ref.inj q)) (by decide) (by decide) kt) ?_
     refine Run.x_aloadN (q := 32) X5 hx (hb hby d24_31) rfl rfl rfl ?_
     refine Run.st (B := T5.setTop (mkF m 35 #[.val (.ref this), .val (.ref ux)] [])) (fun t kt => XS.ifnullNo X5.here hx rfl (hb hby d24_32) rfl kt) ?_
     exact absurd rfl (hp)
  ·skip
   by_cases hE : hd = tl
   ·skip
    refine Run.x_astoreN (q := 5) X1 hx #[.val (.ref this), .val (.ref ux)] (hb hby d24_4) rfl rfl rfl ?_
    refine Run.x_aloadN (q := 6) X1 hx (hb hby d24_5) rfl rfl rfl ?_
    refine Run.st (B := T1.setTop (mkF m 9 #[.val (.ref this), .val (.ref ux)] [])) (fun t kt => XS.ifnullNo X1.here hx rfl (hb hby d24_6) rfl kt) ?_
    refine Run.x_aloadN (q := 10) X1 hx (hb hby d24_9) rfl rfl rfl ?_
    refine Run.x_aloadN (q := 11) X1 hx (hb hby d24_10) rfl rfl rfl ?_
    refine Run.z_getF (q := 14) X1 hx hZ e1 hown (wm52 hw) F_this_run (hb hby d24_11) rfl fun T8 X8 e8 => ?_
    have hf := own_firstN hr hE
    refine Run.callV X8 hx hH e8 (y := (⟨"java/util/ArrayDeque", "peekFirst", "()Ljava/lang/Object;"⟩ : MethodName)) (z := (⟨"java/util/ArrayDeque", "peekFirst", "()Ljava/lang/Object;"⟩ : MethodName)) hown (wm171 hw) (wm172 hw) (notFace_of_selects (args := #[]) (mvT hZ (wm174 hw))) (wm174 hw) (wm173 hw) (wm37 hw) (wm175 hw) (by decide) (a := rq) E_rq (argsL := []) (rest := [(.ref ux)]) (c_pkf_n l Z a0 hw rq h0 n0 Z0 ea vs hv_ hd E_rq F_rq_elements F_rq_head A_ea hr.1 hf) pd_8 rfl (by rw [hml]; rfl) (W := 1) rfl (by decide) (by decide) (by decide) (by decide) (hb hby d24_14) rfl ?_
    intro T9 v9 L9 X9 q9
    obtain ⟨rfl, M9, e9⟩ := q9
    have N9 := Fr.app N1 M9
    show Run p e below s _ _ _ (T9.setTop (mkF m 17 #[.val (.ref this), .val (.ref ux)] [.null, (.ref ux)]))
    refine Run.st (B := T9.setTop (mkF m 31 #[.val (.ref this), .val (.ref ux)] [])) (fun t kt => Jvm.RoadKit.acmp (g := (mkF m 17 #[.val (.ref this), .val (.ref ux)] [.null, (.ref ux)])) X9 hx rfl rfl rfl (pc0 := 17) (pc' := 31) (same := false) rfl (hb hby d24_17) rfl (decide_eq_false nofun) (by decide) (by decide) kt) ?_
    refine Run.x_aloadN (q := 32) X9 hx (hb hby d24_31) rfl rfl rfl ?_
    refine Run.st (B := T9.setTop (mkF m 35 #[.val (.ref this), .val (.ref ux)] [])) (fun t kt => XS.ifnullNo X9.here hx rfl (hb hby d24_32) rfl kt) ?_
    refine Run.x_aloadN (q := 36) X9 hx (hb hby d24_35) rfl rfl rfl ?_
    refine Run.z_getF (q := 39) X9 hx hZ e9 hown (wm79 hw) F_this_heap (hb hby d24_36) rfl fun T10 X10 e10 => ?_
    refine Run.callV X10 hx hH e10 (y := (⟨"java/util/PriorityQueue", "poll", "()Ljava/lang/Object;"⟩ : MethodName)) (z := (⟨"java/util/PriorityQueue", "poll", "()Ljava/lang/Object;"⟩ : MethodName)) hown (wm248 hw) (wm249 hw) (notFace_of_selects (args := #[]) (mvT hZ (wm251 hw))) (wm251 hw) (wm250 hw) (wm58 hw) (wm252 hw) (by decide) (a := hq) E_hq (argsL := []) (rest := []) (c_polh1 l Z a0 hw hq h0 n0 Z0 lam cK P xs qa mc y1 E_hq F_hq_queue F_hq_comparator F_hq_size F_hq_modCount A_qa O_qa O_lam D_xs g_hq g_qa ne_hq_qa ne_xs_hq ne_xs_qa hy1) pd_8 rfl (by rw [hml]; rfl) (W := 0) rfl (by decide) (by decide) (by decide) (by decide) (hb hby d24_39) rfl ?_
    intro T11 v11 L11 X11 q11
    obtain ⟨rfl, M11, K11, Eh11, Fq11, Fc11, Fs11, Fm11, Aq11⟩ := q11
    have N11 := Fr.app N9 M11
    show Run p e below s _ _ _ (T11.setTop (mkF m 42 #[.val (.ref this), .val (.ref ux)] [(.ref y1)]))
    have Z11 : n0 ≤ T11.heap.size := Nat.le_trans Z0 K11.1
    replace KP := KP.trans K11 (allS (Or.inl (by simp)) (allS (Or.inl (by simp)) all0))
    refine Run.x_pop (q := 43) X11 hx (hb hby d24_42) rfl rfl ?_
    refine Run.x_aloadN (q := 44) X11 hx (hb hby d24_43) rfl rfl rfl ?_
    replace E_this := E_this.keep K11
    replace F_this_run := F_this_run.keep K11 (ninS ne_this_hq (ninS ne_this_qa nin0))
    replace F_this_order := F_this_order.keep K11 (ninS ne_this_hq (ninS ne_this_qa nin0))
    replace F_this_heap := F_this_heap.keep K11 (ninS ne_this_hq (ninS ne_this_qa nin0))
    replace E_rq := E_rq.keep K11
    replace F_rq_elements := F_rq_elements.keep K11 (ninS ne_rq_hq (ninS ne_rq_qa nin0))
    replace F_rq_head := F_rq_head.keep K11 (ninS ne_rq_hq (ninS ne_rq_qa nin0))
    replace F_rq_tail := F_rq_tail.keep K11 (ninS ne_rq_hq (ninS ne_rq_qa nin0))
    replace A_ea := A_ea.keep K11 (ninS (Ne.symm ne_hq_ea) (ninS ne_ea_qa nin0))
    replace O_ea := O_ea.keep K11
    replace O_qa := O_qa.keep K11
    replace O_lam := O_lam.keep K11
    replace D_xs := D_xs.keep K11 (own_dnS ne_xs_hq (own_dnS ne_xs_qa own_dn0))
    refine Run.retA X11 hx hlk rfl (t := (.object "java/lang/Object")) hret rfl rfl rfl (hb hby d24_44) (by decide) (by decide) ?_
    exact ⟨_, rfl, N11, KP, ⟨_, _, _, _, hd, tl, _, _, E_this, F_this_run, F_this_order, F_this_heap, E_rq, F_rq_elements, F_rq_head, F_rq_tail, A_ea, O_ea, Eh11, Fq11, Fc11, Fs11, Fm11, Aq11, O_qa, O_lam, D_xs, hr, Or.inl ⟨rfl, rfl⟩, by have := own_pn; have := hr.2.2.1; omega⟩⟩
   ·skip
    refine Run.x_astoreN (q := 5) X1 hx #[.val (.ref this), .val (.ref ux)] (hb hby d24_4) rfl rfl rfl ?_
    refine Run.x_aloadN (q := 6) X1 hx (hb hby d24_5) rfl rfl rfl ?_
    refine Run.st (B := T1.setTop (mkF m 9 #[.val (.ref this), .val (.ref ux)] [])) (fun t kt => XS.ifnullNo X1.here hx rfl (hb hby d24_6) rfl kt) ?_
    refine Run.x_aloadN (q := 10) X1 hx (hb hby d24_9) rfl rfl rfl ?_
    refine Run.x_aloadN (q := 11) X1 hx (hb hby d24_10) rfl rfl rfl ?_
    refine Run.z_getF (q := 14) X1 hx hZ e1 hown (wm52 hw) F_this_run (hb hby d24_11) rfl fun T12 X12 e12 => ?_
    obtain ⟨uf, huf, hf⟩ := own_firstR hr hE
    refine Run.callV X12 hx hH e12 (y := (⟨"java/util/ArrayDeque", "peekFirst", "()Ljava/lang/Object;"⟩ : MethodName)) (z := (⟨"java/util/ArrayDeque", "peekFirst", "()Ljava/lang/Object;"⟩ : MethodName)) hown (wm171 hw) (wm172 hw) (notFace_of_selects (args := #[]) (mvT hZ (wm174 hw))) (wm174 hw) (wm173 hw) (wm37 hw) (wm175 hw) (by decide) (a := rq) E_rq (argsL := []) (rest := [(.ref ux)]) (c_pkf_r l Z a0 hw rq h0 n0 Z0 ea vs hv_ hd uf E_rq F_rq_elements F_rq_head A_ea hr.1 hf) pd_8 rfl (by rw [hml]; rfl) (W := 1) rfl (by decide) (by decide) (by decide) (by decide) (hb hby d24_14) rfl ?_
    intro T13 v13 L13 X13 q13
    obtain ⟨rfl, M13, e13⟩ := q13
    have N13 := Fr.app N1 M13
    show Run p e below s _ _ _ (T13.setTop (mkF m 17 #[.val (.ref this), .val (.ref ux)] [(.ref uf), (.ref ux)]))
    by_cases hxu : ux = uf
    ·skip
     refine Run.st (B := T13.setTop (mkF m 20 #[.val (.ref this), .val (.ref ux)] [])) (fun t kt => Jvm.RoadKit.acmp (g := (mkF m 17 #[.val (.ref this), .val (.ref ux)] [(.ref uf), (.ref ux)])) X13 hx rfl rfl rfl (pc0 := 17) (pc' := 20) (same := true) rfl (hb hby d24_17) rfl (decide_eq_true (congrArg Value.ref hxu)) (by decide) (by decide) kt) ?_
     refine Run.x_aloadN (q := 21) X13 hx (hb hby d24_20) rfl rfl rfl ?_
     refine Run.z_getF (q := 24) X13 hx hZ e13 hown (wm52 hw) F_this_run (hb hby d24_21) rfl fun T14 X14 e14 => ?_
     refine Run.callV X14 hx hH e14 (y := (⟨"java/util/ArrayDeque", "pollFirst", "()Ljava/lang/Object;"⟩ : MethodName)) (z := (⟨"java/util/ArrayDeque", "pollFirst", "()Ljava/lang/Object;"⟩ : MethodName)) hown (wm216 hw) (wm217 hw) (notFace_of_selects (args := #[]) (mvT hZ (wm219 hw))) (wm219 hw) (wm218 hw) (wm37 hw) (wm220 hw) (by decide) (a := rq) E_rq (argsL := []) (rest := []) (c_plf l Z a0 hw rq h0 n0 Z0 ea vs hv_ tv hd uf E_rq F_rq_elements F_rq_head F_rq_tail A_ea O_ea g_rq g_ea ne_rq_ea hr.2.2.2.2.1 hr.1 (by have := hr.2.2.1; have := hr.2.2.2.1; omega) hf (own_lt17 hr.1 (by have := hr.2.2.1; have := hr.2.2.2.1; omega))) pd_8 rfl (by rw [hml]; rfl) (W := 0) rfl (by decide) (by decide) (by decide) (by decide) (hb hby d24_24) rfl ?_
     intro T15 v15 L15 X15 q15
     obtain ⟨rfl, M15, K15, Er15, Fe15, Fh15, Ft15, Ae15⟩ := q15
     have N15 := Fr.app N13 M15
     show Run p e below s _ _ _ (T15.setTop (mkF m 27 #[.val (.ref this), .val (.ref ux)] [(.ref uf)]))
     have Z15 : n0 ≤ T15.heap.size := Nat.le_trans Z0 K15.1
     replace KP := KP.trans K15 (allS (Or.inl (by simp)) (allS (Or.inl (by simp)) all0))
     refine Run.x_pop (q := 28) X15 hx (hb hby d24_27) rfl rfl ?_
     refine Run.x_goto (q := 43) X15 hx (hb hby d24_28) (by decide) (by decide) ?_
     refine Run.x_aloadN (q := 44) X15 hx (hb hby d24_43) rfl rfl rfl ?_
     replace E_this := E_this.keep K15
     replace F_this_run := F_this_run.keep K15 (ninS ne_this_rq (ninS ne_this_ea nin0))
     replace F_this_order := F_this_order.keep K15 (ninS ne_this_rq (ninS ne_this_ea nin0))
     replace F_this_heap := F_this_heap.keep K15 (ninS ne_this_rq (ninS ne_this_ea nin0))
     replace O_ea := O_ea.keep K15
     replace E_hq := E_hq.keep K15
     replace F_hq_queue := F_hq_queue.keep K15 (ninS (Ne.symm ne_rq_hq) (ninS ne_hq_ea nin0))
     replace F_hq_comparator := F_hq_comparator.keep K15 (ninS (Ne.symm ne_rq_hq) (ninS ne_hq_ea nin0))
     replace F_hq_size := F_hq_size.keep K15 (ninS (Ne.symm ne_rq_hq) (ninS ne_hq_ea nin0))
     replace F_hq_modCount := F_hq_modCount.keep K15 (ninS (Ne.symm ne_rq_hq) (ninS ne_hq_ea nin0))
     replace A_qa := A_qa.keep K15 (ninS (Ne.symm ne_rq_qa) (ninS (Ne.symm ne_ea_qa) nin0))
     replace O_qa := O_qa.keep K15
     replace O_lam := O_lam.keep K15
     replace D_xs := D_xs.keep K15 (own_dnS ne_xs_rq (own_dnS ne_xs_ea own_dn0))
     refine Run.retA X15 hx hlk rfl (t := (.object "java/lang/Object")) hret rfl rfl rfl (hb hby d24_44) (by decide) (by decide) ?_
     exact ⟨_, rfl, N15, KP, ⟨_, _, _, _, (hd + 1), tl, _, _, E_this, F_this_run, F_this_order, F_this_heap, Er15, Fe15, Fh15, Ft15, Ae15, O_ea, E_hq, F_hq_queue, F_hq_comparator, F_hq_size, F_hq_modCount, A_qa, O_qa, O_lam, D_xs, (own_rv_first hr (by have := hr.2.2.1; omega)), Or.inr (Or.inl ⟨y1, hy1, rfl, rfl⟩), by have := own_pn; have := hr.2.2.1; omega⟩⟩
    ·skip
     have hp := hwh.resolve_left (fun q => hxu (by have := q.2.symm.trans hf; cases this; rfl))
     refine Run.st (B := T13.setTop (mkF m 31 #[.val (.ref this), .val (.ref ux)] [])) (fun t kt => Jvm.RoadKit.acmp (g := (mkF m 17 #[.val (.ref this), .val (.ref ux)] [(.ref uf), (.ref ux)])) X13 hx rfl rfl rfl (pc0 := 17) (pc' := 31) (same := false) rfl (hb hby d24_17) rfl (decide_eq_false fun q => hxu (Value.ref.inj q)) (by decide) (by decide) kt) ?_
     refine Run.x_aloadN (q := 32) X13 hx (hb hby d24_31) rfl rfl rfl ?_
     refine Run.st (B := T13.setTop (mkF m 35 #[.val (.ref this), .val (.ref ux)] [])) (fun t kt => XS.ifnullNo X13.here hx rfl (hb hby d24_32) rfl kt) ?_
     refine Run.x_aloadN (q := 36) X13 hx (hb hby d24_35) rfl rfl rfl ?_
     refine Run.z_getF (q := 39) X13 hx hZ e13 hown (wm79 hw) F_this_heap (hb hby d24_36) rfl fun T16 X16 e16 => ?_
     refine Run.callV X16 hx hH e16 (y := (⟨"java/util/PriorityQueue", "poll", "()Ljava/lang/Object;"⟩ : MethodName)) (z := (⟨"java/util/PriorityQueue", "poll", "()Ljava/lang/Object;"⟩ : MethodName)) hown (wm248 hw) (wm249 hw) (notFace_of_selects (args := #[]) (mvT hZ (wm251 hw))) (wm251 hw) (wm250 hw) (wm58 hw) (wm252 hw) (by decide) (a := hq) E_hq (argsL := []) (rest := []) (c_polh1 l Z a0 hw hq h0 n0 Z0 lam cK P xs qa mc y1 E_hq F_hq_queue F_hq_comparator F_hq_size F_hq_modCount A_qa O_qa O_lam D_xs g_hq g_qa ne_hq_qa ne_xs_hq ne_xs_qa hy1) pd_8 rfl (by rw [hml]; rfl) (W := 0) rfl (by decide) (by decide) (by decide) (by decide) (hb hby d24_39) rfl ?_
     intro T17 v17 L17 X17 q17
     obtain ⟨rfl, M17, K17, Eh17, Fq17, Fc17, Fs17, Fm17, Aq17⟩ := q17
     have N17 := Fr.app N13 M17
     show Run p e below s _ _ _ (T17.setTop (mkF m 42 #[.val (.ref this), .val (.ref ux)] [(.ref y1)]))
     have Z17 : n0 ≤ T17.heap.size := Nat.le_trans Z0 K17.1
     replace KP := KP.trans K17 (allS (Or.inl (by simp)) (allS (Or.inl (by simp)) all0))
     refine Run.x_pop (q := 43) X17 hx (hb hby d24_42) rfl rfl ?_
     refine Run.x_aloadN (q := 44) X17 hx (hb hby d24_43) rfl rfl rfl ?_
     replace E_this := E_this.keep K17
     replace F_this_run := F_this_run.keep K17 (ninS ne_this_hq (ninS ne_this_qa nin0))
     replace F_this_order := F_this_order.keep K17 (ninS ne_this_hq (ninS ne_this_qa nin0))
     replace F_this_heap := F_this_heap.keep K17 (ninS ne_this_hq (ninS ne_this_qa nin0))
     replace E_rq := E_rq.keep K17
     replace F_rq_elements := F_rq_elements.keep K17 (ninS ne_rq_hq (ninS ne_rq_qa nin0))
     replace F_rq_head := F_rq_head.keep K17 (ninS ne_rq_hq (ninS ne_rq_qa nin0))
     replace F_rq_tail := F_rq_tail.keep K17 (ninS ne_rq_hq (ninS ne_rq_qa nin0))
     replace A_ea := A_ea.keep K17 (ninS (Ne.symm ne_hq_ea) (ninS ne_ea_qa nin0))
     replace O_ea := O_ea.keep K17
     replace O_qa := O_qa.keep K17
     replace O_lam := O_lam.keep K17
     replace D_xs := D_xs.keep K17 (own_dnS ne_xs_hq (own_dnS ne_xs_qa own_dn0))
     refine Run.retA X17 hx hlk rfl (t := (.object "java/lang/Object")) hret rfl rfl rfl (hb hby d24_44) (by decide) (by decide) ?_
     exact ⟨_, rfl, N17, KP, ⟨_, _, _, _, hd, tl, _, _, E_this, F_this_run, F_this_order, F_this_heap, E_rq, F_rq_elements, F_rq_head, F_rq_tail, A_ea, O_ea, Eh17, Fq17, Fc17, Fs17, Fm17, Aq17, O_qa, O_lam, D_xs, hr, Or.inl ⟨rfl, rfl⟩, by have := own_pn; have := hr.2.2.1; omega⟩⟩
  ·skip
   by_cases hE : hd = tl
   ·skip
    refine Run.x_astoreN (q := 5) X1 hx #[.val (.ref this), .val (.ref ux)] (hb hby d24_4) rfl rfl rfl ?_
    refine Run.x_aloadN (q := 6) X1 hx (hb hby d24_5) rfl rfl rfl ?_
    refine Run.st (B := T1.setTop (mkF m 9 #[.val (.ref this), .val (.ref ux)] [])) (fun t kt => XS.ifnullNo X1.here hx rfl (hb hby d24_6) rfl kt) ?_
    refine Run.x_aloadN (q := 10) X1 hx (hb hby d24_9) rfl rfl rfl ?_
    refine Run.x_aloadN (q := 11) X1 hx (hb hby d24_10) rfl rfl rfl ?_
    refine Run.z_getF (q := 14) X1 hx hZ e1 hown (wm52 hw) F_this_run (hb hby d24_11) rfl fun T18 X18 e18 => ?_
    have hf := own_firstN hr hE
    refine Run.callV X18 hx hH e18 (y := (⟨"java/util/ArrayDeque", "peekFirst", "()Ljava/lang/Object;"⟩ : MethodName)) (z := (⟨"java/util/ArrayDeque", "peekFirst", "()Ljava/lang/Object;"⟩ : MethodName)) hown (wm171 hw) (wm172 hw) (notFace_of_selects (args := #[]) (mvT hZ (wm174 hw))) (wm174 hw) (wm173 hw) (wm37 hw) (wm175 hw) (by decide) (a := rq) E_rq (argsL := []) (rest := [(.ref ux)]) (c_pkf_n l Z a0 hw rq h0 n0 Z0 ea vs hv_ hd E_rq F_rq_elements F_rq_head A_ea hr.1 hf) pd_8 rfl (by rw [hml]; rfl) (W := 1) rfl (by decide) (by decide) (by decide) (by decide) (hb hby d24_14) rfl ?_
    intro T19 v19 L19 X19 q19
    obtain ⟨rfl, M19, e19⟩ := q19
    have N19 := Fr.app N1 M19
    show Run p e below s _ _ _ (T19.setTop (mkF m 17 #[.val (.ref this), .val (.ref ux)] [.null, (.ref ux)]))
    refine Run.st (B := T19.setTop (mkF m 31 #[.val (.ref this), .val (.ref ux)] [])) (fun t kt => Jvm.RoadKit.acmp (g := (mkF m 17 #[.val (.ref this), .val (.ref ux)] [.null, (.ref ux)])) X19 hx rfl rfl rfl (pc0 := 17) (pc' := 31) (same := false) rfl (hb hby d24_17) rfl (decide_eq_false nofun) (by decide) (by decide) kt) ?_
    refine Run.x_aloadN (q := 32) X19 hx (hb hby d24_31) rfl rfl rfl ?_
    refine Run.st (B := T19.setTop (mkF m 35 #[.val (.ref this), .val (.ref ux)] [])) (fun t kt => XS.ifnullNo X19.here hx rfl (hb hby d24_32) rfl kt) ?_
    refine Run.x_aloadN (q := 36) X19 hx (hb hby d24_35) rfl rfl rfl ?_
    refine Run.z_getF (q := 39) X19 hx hZ e19 hown (wm79 hw) F_this_heap (hb hby d24_36) rfl fun T20 X20 e20 => ?_
    refine Run.callV X20 hx hH e20 (y := (⟨"java/util/PriorityQueue", "poll", "()Ljava/lang/Object;"⟩ : MethodName)) (z := (⟨"java/util/PriorityQueue", "poll", "()Ljava/lang/Object;"⟩ : MethodName)) hown (wm248 hw) (wm249 hw) (notFace_of_selects (args := #[]) (mvT hZ (wm251 hw))) (wm251 hw) (wm250 hw) (wm58 hw) (wm252 hw) (by decide) (a := hq) E_hq (argsL := []) (rest := []) (c_polh2 l Z a0 hw hq h0 n0 Z0 lam cK P xs qa mc y1 y2 E_hq F_hq_queue F_hq_comparator F_hq_size F_hq_modCount A_qa O_qa O_lam D_xs g_hq g_qa ne_hq_qa ne_xs_hq ne_xs_qa hy1 hy2) pd_8 rfl (by rw [hml]; rfl) (W := 0) rfl (by decide) (by decide) (by decide) (by decide) (hb hby d24_39) rfl ?_
    intro T21 v21 L21 X21 q21
    obtain ⟨rfl, M21, K21, Eh21, Fq21, Fc21, Fs21, Fm21, Aq21⟩ := q21
    have N21 := Fr.app N19 M21
    show Run p e below s _ _ _ (T21.setTop (mkF m 42 #[.val (.ref this), .val (.ref ux)] [(.ref y1)]))
    have Z21 : n0 ≤ T21.heap.size := Nat.le_trans Z0 K21.1
    replace KP := KP.trans K21 (allS (Or.inl (by simp)) (allS (Or.inl (by simp)) all0))
    refine Run.x_pop (q := 43) X21 hx (hb hby d24_42) rfl rfl ?_
    refine Run.x_aloadN (q := 44) X21 hx (hb hby d24_43) rfl rfl rfl ?_
    replace E_this := E_this.keep K21
    replace F_this_run := F_this_run.keep K21 (ninS ne_this_hq (ninS ne_this_qa nin0))
    replace F_this_order := F_this_order.keep K21 (ninS ne_this_hq (ninS ne_this_qa nin0))
    replace F_this_heap := F_this_heap.keep K21 (ninS ne_this_hq (ninS ne_this_qa nin0))
    replace E_rq := E_rq.keep K21
    replace F_rq_elements := F_rq_elements.keep K21 (ninS ne_rq_hq (ninS ne_rq_qa nin0))
    replace F_rq_head := F_rq_head.keep K21 (ninS ne_rq_hq (ninS ne_rq_qa nin0))
    replace F_rq_tail := F_rq_tail.keep K21 (ninS ne_rq_hq (ninS ne_rq_qa nin0))
    replace A_ea := A_ea.keep K21 (ninS (Ne.symm ne_hq_ea) (ninS ne_ea_qa nin0))
    replace O_ea := O_ea.keep K21
    replace O_qa := O_qa.keep K21
    replace O_lam := O_lam.keep K21
    replace D_xs := D_xs.keep K21 (own_dnS ne_xs_hq (own_dnS ne_xs_qa own_dn0))
    refine Run.retA X21 hx hlk rfl (t := (.object "java/lang/Object")) hret rfl rfl rfl (hb hby d24_44) (by decide) (by decide) ?_
    exact ⟨_, rfl, N21, KP, ⟨_, _, _, _, hd, tl, _, _, E_this, F_this_run, F_this_order, F_this_heap, E_rq, F_rq_elements, F_rq_head, F_rq_tail, A_ea, O_ea, Eh21, Fq21, Fc21, Fs21, Fm21, Aq21, O_qa, O_lam, D_xs, hr, Or.inr (Or.inl ⟨y2, hy2, rfl, rfl⟩), by have := own_pn; have := hr.2.2.1; omega⟩⟩
   ·skip
    refine Run.x_astoreN (q := 5) X1 hx #[.val (.ref this), .val (.ref ux)] (hb hby d24_4) rfl rfl rfl ?_
    refine Run.x_aloadN (q := 6) X1 hx (hb hby d24_5) rfl rfl rfl ?_
    refine Run.st (B := T1.setTop (mkF m 9 #[.val (.ref this), .val (.ref ux)] [])) (fun t kt => XS.ifnullNo X1.here hx rfl (hb hby d24_6) rfl kt) ?_
    refine Run.x_aloadN (q := 10) X1 hx (hb hby d24_9) rfl rfl rfl ?_
    refine Run.x_aloadN (q := 11) X1 hx (hb hby d24_10) rfl rfl rfl ?_
    refine Run.z_getF (q := 14) X1 hx hZ e1 hown (wm52 hw) F_this_run (hb hby d24_11) rfl fun T22 X22 e22 => ?_
    obtain ⟨uf, huf, hf⟩ := own_firstR hr hE
    refine Run.callV X22 hx hH e22 (y := (⟨"java/util/ArrayDeque", "peekFirst", "()Ljava/lang/Object;"⟩ : MethodName)) (z := (⟨"java/util/ArrayDeque", "peekFirst", "()Ljava/lang/Object;"⟩ : MethodName)) hown (wm171 hw) (wm172 hw) (notFace_of_selects (args := #[]) (mvT hZ (wm174 hw))) (wm174 hw) (wm173 hw) (wm37 hw) (wm175 hw) (by decide) (a := rq) E_rq (argsL := []) (rest := [(.ref ux)]) (c_pkf_r l Z a0 hw rq h0 n0 Z0 ea vs hv_ hd uf E_rq F_rq_elements F_rq_head A_ea hr.1 hf) pd_8 rfl (by rw [hml]; rfl) (W := 1) rfl (by decide) (by decide) (by decide) (by decide) (hb hby d24_14) rfl ?_
    intro T23 v23 L23 X23 q23
    obtain ⟨rfl, M23, e23⟩ := q23
    have N23 := Fr.app N1 M23
    show Run p e below s _ _ _ (T23.setTop (mkF m 17 #[.val (.ref this), .val (.ref ux)] [(.ref uf), (.ref ux)]))
    by_cases hxu : ux = uf
    ·skip
     refine Run.st (B := T23.setTop (mkF m 20 #[.val (.ref this), .val (.ref ux)] [])) (fun t kt => Jvm.RoadKit.acmp (g := (mkF m 17 #[.val (.ref this), .val (.ref ux)] [(.ref uf), (.ref ux)])) X23 hx rfl rfl rfl (pc0 := 17) (pc' := 20) (same := true) rfl (hb hby d24_17) rfl (decide_eq_true (congrArg Value.ref hxu)) (by decide) (by decide) kt) ?_
     refine Run.x_aloadN (q := 21) X23 hx (hb hby d24_20) rfl rfl rfl ?_
     refine Run.z_getF (q := 24) X23 hx hZ e23 hown (wm52 hw) F_this_run (hb hby d24_21) rfl fun T24 X24 e24 => ?_
     refine Run.callV X24 hx hH e24 (y := (⟨"java/util/ArrayDeque", "pollFirst", "()Ljava/lang/Object;"⟩ : MethodName)) (z := (⟨"java/util/ArrayDeque", "pollFirst", "()Ljava/lang/Object;"⟩ : MethodName)) hown (wm216 hw) (wm217 hw) (notFace_of_selects (args := #[]) (mvT hZ (wm219 hw))) (wm219 hw) (wm218 hw) (wm37 hw) (wm220 hw) (by decide) (a := rq) E_rq (argsL := []) (rest := []) (c_plf l Z a0 hw rq h0 n0 Z0 ea vs hv_ tv hd uf E_rq F_rq_elements F_rq_head F_rq_tail A_ea O_ea g_rq g_ea ne_rq_ea hr.2.2.2.2.1 hr.1 (by have := hr.2.2.1; have := hr.2.2.2.1; omega) hf (own_lt17 hr.1 (by have := hr.2.2.1; have := hr.2.2.2.1; omega))) pd_8 rfl (by rw [hml]; rfl) (W := 0) rfl (by decide) (by decide) (by decide) (by decide) (hb hby d24_24) rfl ?_
     intro T25 v25 L25 X25 q25
     obtain ⟨rfl, M25, K25, Er25, Fe25, Fh25, Ft25, Ae25⟩ := q25
     have N25 := Fr.app N23 M25
     show Run p e below s _ _ _ (T25.setTop (mkF m 27 #[.val (.ref this), .val (.ref ux)] [(.ref uf)]))
     have Z25 : n0 ≤ T25.heap.size := Nat.le_trans Z0 K25.1
     replace KP := KP.trans K25 (allS (Or.inl (by simp)) (allS (Or.inl (by simp)) all0))
     refine Run.x_pop (q := 28) X25 hx (hb hby d24_27) rfl rfl ?_
     refine Run.x_goto (q := 43) X25 hx (hb hby d24_28) (by decide) (by decide) ?_
     refine Run.x_aloadN (q := 44) X25 hx (hb hby d24_43) rfl rfl rfl ?_
     replace E_this := E_this.keep K25
     replace F_this_run := F_this_run.keep K25 (ninS ne_this_rq (ninS ne_this_ea nin0))
     replace F_this_order := F_this_order.keep K25 (ninS ne_this_rq (ninS ne_this_ea nin0))
     replace F_this_heap := F_this_heap.keep K25 (ninS ne_this_rq (ninS ne_this_ea nin0))
     replace O_ea := O_ea.keep K25
     replace E_hq := E_hq.keep K25
     replace F_hq_queue := F_hq_queue.keep K25 (ninS (Ne.symm ne_rq_hq) (ninS ne_hq_ea nin0))
     replace F_hq_comparator := F_hq_comparator.keep K25 (ninS (Ne.symm ne_rq_hq) (ninS ne_hq_ea nin0))
     replace F_hq_size := F_hq_size.keep K25 (ninS (Ne.symm ne_rq_hq) (ninS ne_hq_ea nin0))
     replace F_hq_modCount := F_hq_modCount.keep K25 (ninS (Ne.symm ne_rq_hq) (ninS ne_hq_ea nin0))
     replace A_qa := A_qa.keep K25 (ninS (Ne.symm ne_rq_qa) (ninS (Ne.symm ne_ea_qa) nin0))
     replace O_qa := O_qa.keep K25
     replace O_lam := O_lam.keep K25
     replace D_xs := D_xs.keep K25 (own_dnS ne_xs_rq (own_dnS ne_xs_ea own_dn0))
     refine Run.retA X25 hx hlk rfl (t := (.object "java/lang/Object")) hret rfl rfl rfl (hb hby d24_44) (by decide) (by decide) ?_
     exact ⟨_, rfl, N25, KP, ⟨_, _, _, _, (hd + 1), tl, _, _, E_this, F_this_run, F_this_order, F_this_heap, Er25, Fe25, Fh25, Ft25, Ae25, O_ea, E_hq, F_hq_queue, F_hq_comparator, F_hq_size, F_hq_modCount, A_qa, O_qa, O_lam, D_xs, (own_rv_first hr (by have := hr.2.2.1; omega)), Or.inr (Or.inr ⟨y1, hy1, y2, hy2, rfl, rfl⟩), by have := own_pn; have := hr.2.2.1; omega⟩⟩
    ·skip
     have hp := hwh.resolve_left (fun q => hxu (by have := q.2.symm.trans hf; cases this; rfl))
     refine Run.st (B := T23.setTop (mkF m 31 #[.val (.ref this), .val (.ref ux)] [])) (fun t kt => Jvm.RoadKit.acmp (g := (mkF m 17 #[.val (.ref this), .val (.ref ux)] [(.ref uf), (.ref ux)])) X23 hx rfl rfl rfl (pc0 := 17) (pc' := 31) (same := false) rfl (hb hby d24_17) rfl (decide_eq_false fun q => hxu (Value.ref.inj q)) (by decide) (by decide) kt) ?_
     refine Run.x_aloadN (q := 32) X23 hx (hb hby d24_31) rfl rfl rfl ?_
     refine Run.st (B := T23.setTop (mkF m 35 #[.val (.ref this), .val (.ref ux)] [])) (fun t kt => XS.ifnullNo X23.here hx rfl (hb hby d24_32) rfl kt) ?_
     refine Run.x_aloadN (q := 36) X23 hx (hb hby d24_35) rfl rfl rfl ?_
     refine Run.z_getF (q := 39) X23 hx hZ e23 hown (wm79 hw) F_this_heap (hb hby d24_36) rfl fun T26 X26 e26 => ?_
     refine Run.callV X26 hx hH e26 (y := (⟨"java/util/PriorityQueue", "poll", "()Ljava/lang/Object;"⟩ : MethodName)) (z := (⟨"java/util/PriorityQueue", "poll", "()Ljava/lang/Object;"⟩ : MethodName)) hown (wm248 hw) (wm249 hw) (notFace_of_selects (args := #[]) (mvT hZ (wm251 hw))) (wm251 hw) (wm250 hw) (wm58 hw) (wm252 hw) (by decide) (a := hq) E_hq (argsL := []) (rest := []) (c_polh2 l Z a0 hw hq h0 n0 Z0 lam cK P xs qa mc y1 y2 E_hq F_hq_queue F_hq_comparator F_hq_size F_hq_modCount A_qa O_qa O_lam D_xs g_hq g_qa ne_hq_qa ne_xs_hq ne_xs_qa hy1 hy2) pd_8 rfl (by rw [hml]; rfl) (W := 0) rfl (by decide) (by decide) (by decide) (by decide) (hb hby d24_39) rfl ?_
     intro T27 v27 L27 X27 q27
     obtain ⟨rfl, M27, K27, Eh27, Fq27, Fc27, Fs27, Fm27, Aq27⟩ := q27
     have N27 := Fr.app N23 M27
     show Run p e below s _ _ _ (T27.setTop (mkF m 42 #[.val (.ref this), .val (.ref ux)] [(.ref y1)]))
     have Z27 : n0 ≤ T27.heap.size := Nat.le_trans Z0 K27.1
     replace KP := KP.trans K27 (allS (Or.inl (by simp)) (allS (Or.inl (by simp)) all0))
     refine Run.x_pop (q := 43) X27 hx (hb hby d24_42) rfl rfl ?_
     refine Run.x_aloadN (q := 44) X27 hx (hb hby d24_43) rfl rfl rfl ?_
     replace E_this := E_this.keep K27
     replace F_this_run := F_this_run.keep K27 (ninS ne_this_hq (ninS ne_this_qa nin0))
     replace F_this_order := F_this_order.keep K27 (ninS ne_this_hq (ninS ne_this_qa nin0))
     replace F_this_heap := F_this_heap.keep K27 (ninS ne_this_hq (ninS ne_this_qa nin0))
     replace E_rq := E_rq.keep K27
     replace F_rq_elements := F_rq_elements.keep K27 (ninS ne_rq_hq (ninS ne_rq_qa nin0))
     replace F_rq_head := F_rq_head.keep K27 (ninS ne_rq_hq (ninS ne_rq_qa nin0))
     replace F_rq_tail := F_rq_tail.keep K27 (ninS ne_rq_hq (ninS ne_rq_qa nin0))
     replace A_ea := A_ea.keep K27 (ninS (Ne.symm ne_hq_ea) (ninS ne_ea_qa nin0))
     replace O_ea := O_ea.keep K27
     replace O_qa := O_qa.keep K27
     replace O_lam := O_lam.keep K27
     replace D_xs := D_xs.keep K27 (own_dnS ne_xs_hq (own_dnS ne_xs_qa own_dn0))
     refine Run.retA X27 hx hlk rfl (t := (.object "java/lang/Object")) hret rfl rfl rfl (hb hby d24_44) (by decide) (by decide) ?_
     exact ⟨_, rfl, N27, KP, ⟨_, _, _, _, hd, tl, _, _, E_this, F_this_run, F_this_order, F_this_heap, E_rq, F_rq_elements, F_rq_head, F_rq_tail, A_ea, O_ea, Eh27, Fq27, Fc27, Fs27, Fm27, Aq27, O_qa, O_lam, D_xs, hr, Or.inr (Or.inl ⟨y2, hy2, rfl, rfl⟩), by have := own_pn; have := hr.2.2.1; omega⟩⟩
theorem own_newRO {p : Program} {l : Launch} {e : Env} {R : Room} {s : State} {m : MethodId} {args : Array Value} {below : List Frame} {meth : Method} {c : Code} {T : State} {locs : List Loc} {cells slots : Nat} {Z : State} {a0 : Array Value} {h : Heap} {Q : Option Value → Heap → List Loc → Prop} {k n : Nat} (X : Stand p l e R s m args below meth c T locs cells slots) (hx : p.tables.exec = Jvm.exec) (hZ : Z.Warmed39 s.vm) (eT : T.heap = h) {own C : String} {index : Nat} (hown : s.vm.findClass own = some m.cls) (w1 : (Jvm.Cond.classLink own index C).before a0 Z = true) (w2 : (Jvm.Cond.arrayOver (.object C)).before a0 Z = true) {pc : Nat} {Ls : Array Slot} {z : Int32} {rest : List Value} (hd : decode c.code pc = .ok (.anewarray index, 3))
  {len : Nat} (hz : ¬ z < 0) (hlen : z.toNatClampNeg = len) {cap : Nat} (hcap : len ≤ cap) (hb : cap * 8 ≤ 536870912) (hc : cells + 1 ≤ R.cells) (hl : slots + cap ≤ R.slots)
  (kk : ∀ (T' : State) (h' : Heap) (b : Addr), b = h.size → Stand p l e R s m args below meth c T' locs (cells + 1) (slots + cap) → T'.heap = h' → Ext h h' → Ars Z h' b (.object C) (List.replicate len .null) → own_Ob Z h' b C → Run p e below s Q k n (T'.setTop (mkF m (pc + 3) Ls (.ref b :: rest)))) :
  Run p e below s Q k n (T.setTop (mkF m pc Ls (.int z :: rest))) := by
 obtain ⟨T', h', k', X', e', E', A', O', st'⟩ := RoadKit.newR X hx hZ hown w1 w2 eT (g := mkF m pc Ls (.int z :: rest)) rfl hd rfl hz (cap := cap) (by rw [hlen]; exact hcap) hb hc hl
 have A2 := Ars.new A'
 rw [hlen] at A2
 exact Run.st st' (kk T' h' _ rfl X' e' E' A2 ⟨_, A'.1, O'⟩)
def own_fdv (xs : List Addr) (fd : Value) (k : Nat) : Prop := (fd = .null ∧ k = 0) ∨ (∃ x ∈ xs, fd = .ref x ∧ 0 < k)
def own_lgs (ds : List Value) : Prop := ds.length = 16 ∧ ∀ i, i < 16 → ∃ d : Int64, ds[i]? = some (.long d)
def own_ring (P' : Addr → Prop) (ws : List Value) (rh rs : Int32) (rn sn j : Nat) : Prop := rh.toInt = rn ∧ rs.toInt = sn ∧ rn + sn ≤ j ∧ ws.length = 16 ∧ ∀ i, rn ≤ i → i < rn + sn → ∃ w, ws[i]? = some (.ref w) ∧ P' w
theorem own_lgs.set {ds : List Value} (h : own_lgs ds) (i : Nat) (d : Int64) : own_lgs (ds.set i (.long d)) := by
 refine ⟨by rw [List.length_set]; exact h.1, fun q hq => ?_⟩
 by_cases e : i = q
 ·subst e; exact ⟨d, by rw [List.getElem?_set_self (by have := h.1; omega)]⟩
 ·rw [List.getElem?_set_ne e]; exact h.2 q hq
theorem own_len16 {vs : List Value} (h : vs.length = 16) : vs.length.toInt32 = 16 := by rw [h]; decide
theorem own_hvlen {xs : List Addr} {us : List Value} {pv : Int32} (h : own_hv xs us pv) : us.length = 11 := by
 rcases h with ⟨-, rfl⟩ | ⟨y1, -, -, rfl⟩ | ⟨y1, -, y2, -, -, rfl⟩ <;> rfl
theorem own_pvpos {xs : List Addr} {us : List Value} {pv : Int32} (h : own_hv xs us pv) (q : ¬ pv = 0) : 0 < pv.toInt.toNat := by
 rcases h with ⟨rfl, -⟩ | ⟨y1, -, rfl, -⟩ | ⟨y1, -, y2, -, rfl, -⟩
 ·exact absurd rfl q
 ·decide
 ·decide
theorem own_rv.mono {xs ys : List Addr} {vs : List Value} {hv tv : Int32} {hd tl : Nat} (r : own_rv xs vs hv tv hd tl) (q : ∀ x ∈ xs, x ∈ ys) : own_rv ys vs hv tv hd tl := by
 obtain ⟨h1, h2, h3, h4, h5, h6, h7⟩ := r
 exact ⟨h1, h2, h3, h4, h5, fun i a b => by obtain ⟨x, hx, hq⟩ := h6 i a b; exact ⟨x, q x hx, hq⟩, h7⟩
theorem own_hv.mono {xs ys : List Addr} {us : List Value} {pv : Int32} (h : own_hv xs us pv) (q : ∀ x ∈ xs, x ∈ ys) : own_hv ys us pv := by
 rcases h with ⟨a, b⟩ | ⟨y1, h1, a, b⟩ | ⟨y1, h1, y2, h2, a, b⟩
 ·exact Or.inl ⟨a, b⟩
 ·exact Or.inr (Or.inl ⟨y1, q _ h1, a, b⟩)
 ·exact Or.inr (Or.inr ⟨y1, q _ h1, y2, q _ h2, a, b⟩)
theorem own_DX.cons {Z : State} {h : Heap} {P : Addr → Prop} {xs : List Addr} {x : Addr} (D : own_DX Z h P xs) (d : own_Del Z h P x) : own_DX Z h P (x :: xs) := fun y hy => by
 rcases List.mem_cons.mp hy with rfl | hy
 ·exact d
 ·exact D y hy
theorem own_lit {i : Int32} {n : Nat} (h : i.toInt = n) (q : n ≤ 3) : (i = 0 ∧ n = 0) ∨ (i = 1 ∧ n = 1) ∨ (i = 2 ∧ n = 2) ∨ (i = 3 ∧ n = 3) := by
 have e : ∀ (z : Int32) (k : Nat), z.toInt = k → n = k → i = z := fun z k a b => Int32.toInt_inj.mp (by rw [h, b, a])
 match n, q with
 | 0, _ => exact Or.inl ⟨e 0 0 rfl rfl, rfl⟩
 | 1, _ => exact Or.inr (Or.inl ⟨e 1 1 rfl rfl, rfl⟩)
 | 2, _ => exact Or.inr (Or.inr (Or.inl ⟨e 2 2 rfl rfl, rfl⟩))
 | 3, _ => exact Or.inr (Or.inr (Or.inr ⟨e 3 3 rfl rfl, rfl⟩))
theorem own_slot {i i' : Int32} {a b : Nat} (h : i.toInt = a) (h' : i'.toInt = b) (q : a + b ≤ 3) : ∃ z : Int32, ((i + i') &&& (15 : Int32)) = z ∧ z.toInt = ((a + b : Nat) : Int) := by
 have e : (i + i').toInt = ((a + b : Nat) : Int) := by
  have q1 := c_iadd i i'
  have r := rng32 (i + i')
  omega
 refine ⟨_, rfl, ?_⟩
 rcases own_lit e q with ⟨h1, h2⟩ | ⟨h1, h2⟩ | ⟨h1, h2⟩ | ⟨h1, h2⟩ <;> (rw [h1, h2]; decide)
theorem own_sn {rs : Int32} {sn : Nat} (h : rs.toInt = sn) : (0 : Int32) < rs ↔ 0 < sn := by
 rw [lt32, h]
 have : (0 : Int32).toInt = 0 := rfl
 omega
theorem own_s16 {rs : Int32} {sn : Nat} (h : rs.toInt = sn) (q : sn ≤ 3) : ¬ rs = (16 : Int32) := fun e => by
 rw [e] at h
 have : (16 : Int32).toInt = 16 := rfl
 omega
theorem own_ring.push {P' : Addr → Prop} {ws : List Value} {rh rs : Int32} {rn sn j : Nat} {w : Addr} (g : own_ring P' ws rh rs rn sn j) (q : j ≤ 2) (hP : P' w) : own_ring P' (ws.set (rn + sn) (.ref w)) rh (rs + (1 : Int32)) rn (sn + 1) (j + 1) := by
 obtain ⟨h1, h2, h3, h4, h5⟩ := g
 refine ⟨h1, own_one h2 (by omega), by omega, by rw [List.length_set]; exact h4, fun i a b => ?_⟩
 by_cases e : rn + sn = i
 ·subst e; exact ⟨w, by rw [List.getElem?_set_self (by omega)], hP⟩
 ·rw [List.getElem?_set_ne e]; exact h5 i a (by omega)
theorem own_ring.mono {P' : Addr → Prop} {ws : List Value} {rh rs : Int32} {rn sn j : Nat} (g : own_ring P' ws rh rs rn sn j) : own_ring P' ws rh rs rn sn (j + 1) := by
 obtain ⟨h1, h2, h3, h4, h5⟩ := g
 exact ⟨h1, h2, by omega, h4, h5⟩
theorem own_ring.pop {P' : Addr → Prop} {ws : List Value} {rh rs z : Int32} {rn sn j : Nat} (g : own_ring P' ws rh rs rn sn j) (q : j ≤ 3) (p : 0 < sn) (hz : z.toInt = ((rn + 1 : Nat) : Int)) : own_ring P' (ws.set rn .null) z (rs - (1 : Int32)) (rn + 1) (sn - 1) j := by
 obtain ⟨h1, h2, h3, h4, h5⟩ := g
 refine ⟨hz, ?_, by omega, by rw [List.length_set]; exact h4, fun i a b => ?_⟩
 ·rcases own_lit h2 (by omega) with ⟨a, b⟩ | ⟨a, b⟩ | ⟨a, b⟩ | ⟨a, b⟩
  ·omega
  ·rw [a, b]; decide
  ·rw [a, b]; decide
  ·rw [a, b]; decide
 ·rw [List.getElem?_set_ne (by omega)]; exact h5 i (by omega) (by omega)
def own_b (k : Nat) : Int32 := if k = 0 then 0 else 1
def own_PD (w1 w2 w3 : Addr) (z1 z2 z3 v : Int32) (t : Addr) : Prop := (t = w1 ∧ z1 = v) ∨ (t = w2 ∧ z2 = v) ∨ (t = w3 ∧ z3 = v)
theorem own_bz {z : Int32} {k : Nat} (h : z = 0 ∨ z = 1) (q : z.toInt = k) : own_b k = z := by
 rcases h with rfl | rfl
 ·have : k = 0 := by have : (0 : Int32).toInt = 0 := rfl; omega
  rw [this]; rfl
 ·have : k = 1 := by have : (1 : Int32).toInt = 1 := rfl; omega
  rw [this]; rfl
theorem own_b1 {lf : Int32} {k : Nat} (h : lf.toInt = k) (q : (0 : Int32) < lf) : own_b k = 1 := if_neg (by have := (own_sn h).mp q; omega)
theorem own_b0 {lf : Int32} {k : Nat} (h : lf.toInt = k) (q : ¬ (0 : Int32) < lf) : own_b k = 0 := if_pos (by have := mt (own_sn h).mpr q; omega)
theorem d25_0 : decode jdk_22_method_1_code 0 = .ok (.aload_n 0, 1) := by decide +kernel
theorem d25_1 : decode jdk_22_method_1_code 1 = .ok (.invokespecial 1, 3) := by decide +kernel
theorem d25_4 : decode jdk_22_method_1_code 4 = .ok (.return_, 1) := by decide +kernel
theorem pn_6 : plainName "java/util/AbstractCollection" = true := by first | (simp [plainName, overriddenIn]; done) | decide +kernel
theorem ef_c_aci (m : MethodId) (this : Addr) : entryFrame m #[(.ref this)] 1 = mkF m 0 #[.val (.ref this)] [] := by first | (simp [entryFrame, mkF, argsToLocals, Value.category]; done) | rfl
theorem wm47 {a0 : Array Value} {Z : State} (hw : ∀ d ∈ tables_1, d.before a0 Z = true) : (Jvm.Cond.methodLink "java/util/AbstractCollection" (1 : Nat) ({ cls := "java/lang/Object", name := "<init>", desc := "()V" } : Jvm.MethodName)).before a0 Z = true := hw _ (List.mem_of_getElem? (i := 47) rfl)
theorem wm8 {a0 : Array Value} {Z : State} (hw : ∀ d ∈ tables_1, d.before a0 Z = true) : (Jvm.Cond.code ({ cls := "java/lang/Object", name := "<init>", desc := "()V" } : Jvm.MethodName) object_method_1_code (1 : Nat) (Option.none : Option Jvm.ClassFile.FieldType)).before a0 Z = true := hw _ (List.mem_of_getElem? (i := 8) rfl)
theorem wm7 {a0 : Array Value} {Z : State} (hw : ∀ d ∈ tables_1, d.before a0 Z = true) : (Jvm.Cond.instanceMethod ({ cls := "java/lang/Object", name := "<init>", desc := "()V" } : Jvm.MethodName)).before a0 Z = true := hw _ (List.mem_of_getElem? (i := 7) rfl)
set_option maxRecDepth 65536 in
set_option maxHeartbeats 40000000 in
theorem c_aci (l : Launch) (Z : State) (a0 : Array Value) (hw : ∀ d ∈ tables_1, d.before a0 Z = true) (this : Addr) (h0 : Heap) (n0 : Nat) (Z0 : n0 ≤ h0.size)  :
  Ctr l Z (⟨"java/util/AbstractCollection", "<init>", "()V"⟩ : MethodName) jdk_22_method_1_code 1 none ({ frames := 1, cells := 0, slots := 0, locals := 12 } : Room) #[(.ref this)] h0 (fun v h L => v = none ∧ Fr n0 L ∧ h = h0) := by
 refine Ctr.of (plainFor_of_name pn_6) (fun m => ef_c_aci m this) ?_
 intro p e s m below meth c T0 hx hby hml hown hnm hret hlk hH e0 X0 hnd
 have hZ := hH.wide
 have N0 := Fr.nil n0
 replace hown : s.vm.findClass "java/util/AbstractCollection" = some m.cls := hown
 replace hml : c.maxLocals = 1 := hml
 refine Run.x_aloadN (q := 1) X0 hx (hb hby d25_0) rfl rfl rfl ?_
 refine Run.init X0 hx hZ e0 hown (wm47 hw) (wm7 hw) (wm8 hw) (by rw [hml]; rfl) (hb hby d25_1) (by decide) (W := 0) rfl (by decide) ?_
 intro T1 X1 e1
 show Run p e below s _ _ _ (T1.setTop (mkF m 4 #[.val (.ref this)] []))
 refine Run.retV X1 hx hlk e1 hret (hb hby d25_4) (by decide) (by decide) ?_
 exact ⟨rfl, N0, rfl⟩
theorem d26_0 : decode jdk_2435_method_1_code 0 = .ok (.aload_n 0, 1) := by decide +kernel
theorem d26_1 : decode jdk_2435_method_1_code 1 = .ok (.invokespecial 1, 3) := by decide +kernel
theorem d26_4 : decode jdk_2435_method_1_code 4 = .ok (.return_, 1) := by decide +kernel
theorem pn_7 : plainName "java/util/AbstractQueue" = true := by first | (simp [plainName, overriddenIn]; done) | decide +kernel
theorem ef_c_aqi (m : MethodId) (this : Addr) : entryFrame m #[(.ref this)] 1 = mkF m 0 #[.val (.ref this)] [] := by first | (simp [entryFrame, mkF, argsToLocals, Value.category]; done) | rfl
theorem wm72 {a0 : Array Value} {Z : State} (hw : ∀ d ∈ tables_1, d.before a0 Z = true) : (Jvm.Cond.methodLink "java/util/AbstractQueue" (1 : Nat) ({ cls := "java/util/AbstractCollection", name := "<init>", desc := "()V" } : Jvm.MethodName)).before a0 Z = true := hw _ (List.mem_of_getElem? (i := 72) rfl)
theorem wm46 {a0 : Array Value} {Z : State} (hw : ∀ d ∈ tables_1, d.before a0 Z = true) : (Jvm.Cond.code ({ cls := "java/util/AbstractCollection", name := "<init>", desc := "()V" } : Jvm.MethodName) jdk_22_method_1_code (1 : Nat) (Option.none : Option Jvm.ClassFile.FieldType)).before a0 Z = true := hw _ (List.mem_of_getElem? (i := 46) rfl)
theorem pd_10 : parseMethodDescriptor "()V" = some ⟨[], none⟩ := by decide +kernel
theorem wm42 {a0 : Array Value} {Z : State} (hw : ∀ d ∈ tables_1, d.before a0 Z = true) : (Jvm.Cond.instanceMethod ({ cls := "java/util/AbstractCollection", name := "<init>", desc := "()V" } : Jvm.MethodName)).before a0 Z = true := hw _ (List.mem_of_getElem? (i := 42) rfl)
theorem wm45 {a0 : Array Value} {Z : State} (hw : ∀ d ∈ tables_1, d.before a0 Z = true) : (Jvm.Cond.initialized "java/util/AbstractCollection").before a0 Z = true := hw _ (List.mem_of_getElem? (i := 45) rfl)
set_option maxRecDepth 65536 in
set_option maxHeartbeats 40000000 in
theorem c_aqi (l : Launch) (Z : State) (a0 : Array Value) (hw : ∀ d ∈ tables_1, d.before a0 Z = true) (this : Addr) (h0 : Heap) (n0 : Nat) (Z0 : n0 ≤ h0.size)  :
  Ctr l Z (⟨"java/util/AbstractQueue", "<init>", "()V"⟩ : MethodName) jdk_2435_method_1_code 1 none ({ frames := 2, cells := 0, slots := 0, locals := 24 } : Room) #[(.ref this)] h0 (fun v h L => v = none ∧ Fr n0 L ∧ h = h0) := by
 refine Ctr.of (plainFor_of_name pn_7) (fun m => ef_c_aqi m this) ?_
 intro p e s m below meth c T0 hx hby hml hown hnm hret hlk hH e0 X0 hnd
 have hZ := hH.wide
 have N0 := Fr.nil n0
 replace hown : s.vm.findClass "java/util/AbstractQueue" = some m.cls := hown
 replace hml : c.maxLocals = 1 := hml
 refine Run.x_aloadN (q := 1) X0 hx (hb hby d26_0) rfl rfl rfl ?_
 refine Run.callC X0 hx hH e0 (y := (⟨"java/util/AbstractCollection", "<init>", "()V"⟩ : MethodName)) hown rfl (wm72 hw) (wm42 hw) (wm45 hw) (wm46 hw) (by decide) (a := this) (argsL := []) (rest := []) (c_aci l Z a0 hw this h0 n0 Z0 ) pd_10 rfl (by rw [hml]; rfl) (W := 0) rfl (by decide) (by decide) (by decide) (by decide) (hb hby d26_1) rfl ?_
 intro T1 v1 L1 X1 q1
 obtain ⟨rfl, M1, e1⟩ := q1
 have N1 := Fr.app N0 M1
 show Run p e below s _ _ _ (T1.setTop (mkF m 4 #[.val (.ref this)] []))
 refine Run.retV X1 hx hlk e1 hret (hb hby d26_4) (by decide) (by decide) ?_
 exact ⟨rfl, N1, rfl⟩
theorem d27_0 : decode jdk_30_method_1_code 0 = .ok (.aload_n 0, 1) := by decide +kernel
theorem d27_1 : decode jdk_30_method_1_code 1 = .ok (.invokespecial 1, 3) := by decide +kernel
theorem d27_4 : decode jdk_30_method_1_code 4 = .ok (.return_, 1) := by decide +kernel
theorem pn_8 : plainName "java/lang/Record" = true := by first | (simp [plainName, overriddenIn]; done) | decide +kernel
theorem ef_c_rci (m : MethodId) (this : Addr) : entryFrame m #[(.ref this)] 1 = mkF m 0 #[.val (.ref this)] [] := by first | (simp [entryFrame, mkF, argsToLocals, Value.category]; done) | rfl
theorem wm124 {a0 : Array Value} {Z : State} (hw : ∀ d ∈ tables_1, d.before a0 Z = true) : (Jvm.Cond.methodLink "java/lang/Record" (1 : Nat) ({ cls := "java/lang/Object", name := "<init>", desc := "()V" } : Jvm.MethodName)).before a0 Z = true := hw _ (List.mem_of_getElem? (i := 124) rfl)
set_option maxRecDepth 65536 in
set_option maxHeartbeats 40000000 in
theorem c_rci (l : Launch) (Z : State) (a0 : Array Value) (hw : ∀ d ∈ tables_1, d.before a0 Z = true) (this : Addr) (h0 : Heap) (n0 : Nat) (Z0 : n0 ≤ h0.size)  :
  Ctr l Z (⟨"java/lang/Record", "<init>", "()V"⟩ : MethodName) jdk_30_method_1_code 1 none ({ frames := 1, cells := 0, slots := 0, locals := 12 } : Room) #[(.ref this)] h0 (fun v h L => v = none ∧ Fr n0 L ∧ h = h0) := by
 refine Ctr.of (plainFor_of_name pn_8) (fun m => ef_c_rci m this) ?_
 intro p e s m below meth c T0 hx hby hml hown hnm hret hlk hH e0 X0 hnd
 have hZ := hH.wide
 have N0 := Fr.nil n0
 replace hown : s.vm.findClass "java/lang/Record" = some m.cls := hown
 replace hml : c.maxLocals = 1 := hml
 refine Run.x_aloadN (q := 1) X0 hx (hb hby d27_0) rfl rfl rfl ?_
 refine Run.init X0 hx hZ e0 hown (wm124 hw) (wm7 hw) (wm8 hw) (by rw [hml]; rfl) (hb hby d27_1) (by decide) (W := 0) rfl (by decide) ?_
 intro T1 X1 e1
 show Run p e below s _ _ _ (T1.setTop (mkF m 4 #[.val (.ref this)] []))
 refine Run.retV X1 hx hlk e1 hret (hb hby d27_4) (by decide) (by decide) ?_
 exact ⟨rfl, N0, rfl⟩
theorem d28_0 : decode method_1_code 0 = .ok (.aload_n 0, 1) := by decide +kernel
theorem d28_1 : decode method_1_code 1 = .ok (.invokespecial 1, 3) := by decide +kernel
theorem d28_4 : decode method_1_code 4 = .ok (.return_, 1) := by decide +kernel
theorem pn_9 : plainName "com/example/framewheel/framewheel/core/PhaseQueueHasDelayedPinLaw" = true := by first | (simp [plainName, overriddenIn]; done) | decide +kernel
theorem ef_c_lwi (m : MethodId) (this : Addr) : entryFrame m #[(.ref this)] 1 = mkF m 0 #[.val (.ref this)] [] := by first | (simp [entryFrame, mkF, argsToLocals, Value.category]; done) | rfl
theorem wm6 {a0 : Array Value} {Z : State} (hw : ∀ d ∈ tables_1, d.before a0 Z = true) : (Jvm.Cond.methodLink "com/example/framewheel/framewheel/core/PhaseQueueHasDelayedPinLaw" (1 : Nat) ({ cls := "java/lang/Object", name := "<init>", desc := "()V" } : Jvm.MethodName)).before a0 Z = true := hw _ (List.mem_of_getElem? (i := 6) rfl)
set_option maxRecDepth 65536 in
set_option maxHeartbeats 40000000 in
theorem c_lwi (l : Launch) (Z : State) (a0 : Array Value) (hw : ∀ d ∈ tables_1, d.before a0 Z = true) (this : Addr) (h0 : Heap) (n0 : Nat) (Z0 : n0 ≤ h0.size)  :
  Ctr l Z (⟨"com/example/framewheel/framewheel/core/PhaseQueueHasDelayedPinLaw", "<init>", "()V"⟩ : MethodName) method_1_code 1 none ({ frames := 1, cells := 0, slots := 0, locals := 12 } : Room) #[(.ref this)] h0 (fun v h L => v = none ∧ Fr n0 L ∧ h = h0) := by
 refine Ctr.of (plainFor_of_name pn_9) (fun m => ef_c_lwi m this) ?_
 intro p e s m below meth c T0 hx hby hml hown hnm hret hlk hH e0 X0 hnd
 have hZ := hH.wide
 have N0 := Fr.nil n0
 replace hown : s.vm.findClass "com/example/framewheel/framewheel/core/PhaseQueueHasDelayedPinLaw" = some m.cls := hown
 replace hml : c.maxLocals = 1 := hml
 refine Run.x_aloadN (q := 1) X0 hx (hb hby d28_0) rfl rfl rfl ?_
 refine Run.init X0 hx hZ e0 hown (wm6 hw) (wm7 hw) (wm8 hw) (by rw [hml]; rfl) (hb hby d28_1) (by decide) (W := 0) rfl (by decide) ?_
 intro T1 X1 e1
 show Run p e below s _ _ _ (T1.setTop (mkF m 4 #[.val (.ref this)] []))
 refine Run.retV X1 hx hlk e1 hret (hb hby d28_4) (by decide) (by decide) ?_
 exact ⟨rfl, N0, rfl⟩
theorem d29_0 : decode prog_10_method_1_code 0 = .ok (.aload_n 0, 1) := by decide +kernel
theorem d29_1 : decode prog_10_method_1_code 1 = .ok (.invokespecial 1, 3) := by decide +kernel
theorem d29_4 : decode prog_10_method_1_code 4 = .ok (.aload_n 0, 1) := by decide +kernel
theorem d29_5 : decode prog_10_method_1_code 5 = .ok (.aload_n 1, 1) := by decide +kernel
theorem d29_6 : decode prog_10_method_1_code 6 = .ok (.putfield 7, 3) := by decide +kernel
theorem d29_9 : decode prog_10_method_1_code 9 = .ok (.aload_n 0, 1) := by decide +kernel
theorem d29_10 : decode prog_10_method_1_code 10 = .ok (.lload_n 2, 1) := by decide +kernel
theorem d29_11 : decode prog_10_method_1_code 11 = .ok (.putfield 13, 3) := by decide +kernel
theorem d29_14 : decode prog_10_method_1_code 14 = .ok (.aload_n 0, 1) := by decide +kernel
theorem d29_15 : decode prog_10_method_1_code 15 = .ok (.lload 4, 2) := by decide +kernel
theorem d29_17 : decode prog_10_method_1_code 17 = .ok (.putfield 17, 3) := by decide +kernel
theorem d29_20 : decode prog_10_method_1_code 20 = .ok (.aload_n 0, 1) := by decide +kernel
theorem d29_21 : decode prog_10_method_1_code 21 = .ok (.aload 6, 2) := by decide +kernel
theorem d29_23 : decode prog_10_method_1_code 23 = .ok (.putfield 20, 3) := by decide +kernel
theorem d29_26 : decode prog_10_method_1_code 26 = .ok (.return_, 1) := by decide +kernel
theorem ef_c_dli (m : MethodId) (this : Addr) (w : Addr) (d : Int64) (sq : Int64) (wk : Addr) : entryFrame m #[(.ref this), (.ref w), (.long d), (.long sq), (.ref wk)] 7 = mkF m 0 #[.val (.ref this), .val (.ref w), .val (.long d), .second, .val (.long sq), .second, .val (.ref wk)] [] := by first | (simp [entryFrame, mkF, argsToLocals, Value.category]; done) | rfl
theorem wm119 {a0 : Array Value} {Z : State} (hw : ∀ d ∈ tables_1, d.before a0 Z = true) : (Jvm.Cond.methodLink "com/example/framewheel/framewheel/core/PhaseQueue$Delayed" (1 : Nat) ({ cls := "java/lang/Record", name := "<init>", desc := "()V" } : Jvm.MethodName)).before a0 Z = true := hw _ (List.mem_of_getElem? (i := 119) rfl)
theorem wm123 {a0 : Array Value} {Z : State} (hw : ∀ d ∈ tables_1, d.before a0 Z = true) : (Jvm.Cond.code ({ cls := "java/lang/Record", name := "<init>", desc := "()V" } : Jvm.MethodName) jdk_30_method_1_code (1 : Nat) (Option.none : Option Jvm.ClassFile.FieldType)).before a0 Z = true := hw _ (List.mem_of_getElem? (i := 123) rfl)
theorem wm120 {a0 : Array Value} {Z : State} (hw : ∀ d ∈ tables_1, d.before a0 Z = true) : (Jvm.Cond.instanceMethod ({ cls := "java/lang/Record", name := "<init>", desc := "()V" } : Jvm.MethodName)).before a0 Z = true := hw _ (List.mem_of_getElem? (i := 120) rfl)
theorem wm122 {a0 : Array Value} {Z : State} (hw : ∀ d ∈ tables_1, d.before a0 Z = true) : (Jvm.Cond.initialized "java/lang/Record").before a0 Z = true := hw _ (List.mem_of_getElem? (i := 122) rfl)
theorem wm126 {a0 : Array Value} {Z : State} (hw : ∀ d ∈ tables_1, d.before a0 Z = true) : (Jvm.Cond.laysFinal "com/example/framewheel/framewheel/core/PhaseQueue$Delayed" "com/example/framewheel/framewheel/core/PhaseQueue$Delayed" "work" "Lcom/example/framewheel/framewheel/core/FrameCallback;").before a0 Z = true := hw _ (List.mem_of_getElem? (i := 126) rfl)
theorem wm114 {a0 : Array Value} {Z : State} (hw : ∀ d ∈ tables_1, d.before a0 Z = true) : (Jvm.Cond.instantiable "com/example/framewheel/framewheel/core/PhaseQueue$Delayed" (4 : Nat)).before a0 Z = true := hw _ (List.mem_of_getElem? (i := 114) rfl)
theorem wm128 {a0 : Array Value} {Z : State} (hw : ∀ d ∈ tables_1, d.before a0 Z = true) : (Jvm.Cond.laysFinal "com/example/framewheel/framewheel/core/PhaseQueue$Delayed" "com/example/framewheel/framewheel/core/PhaseQueue$Delayed" "dueNanos" "J").before a0 Z = true := hw _ (List.mem_of_getElem? (i := 128) rfl)
theorem wm130 {a0 : Array Value} {Z : State} (hw : ∀ d ∈ tables_1, d.before a0 Z = true) : (Jvm.Cond.laysFinal "com/example/framewheel/framewheel/core/PhaseQueue$Delayed" "com/example/framewheel/framewheel/core/PhaseQueue$Delayed" "sequence" "J").before a0 Z = true := hw _ (List.mem_of_getElem? (i := 130) rfl)
theorem wm131 {a0 : Array Value} {Z : State} (hw : ∀ d ∈ tables_1, d.before a0 Z = true) : (Jvm.Cond.fieldLink "com/example/framewheel/framewheel/core/PhaseQueue$Delayed" (20 : Nat) "com/example/framewheel/framewheel/core/PhaseQueue$Delayed" "wake" "Ljava/lang/Runnable;").before a0 Z = true := hw _ (List.mem_of_getElem? (i := 131) rfl)
theorem wm132 {a0 : Array Value} {Z : State} (hw : ∀ d ∈ tables_1, d.before a0 Z = true) : (Jvm.Cond.laysFinal "com/example/framewheel/framewheel/core/PhaseQueue$Delayed" "com/example/framewheel/framewheel/core/PhaseQueue$Delayed" "wake" "Ljava/lang/Runnable;").before a0 Z = true := hw _ (List.mem_of_getElem? (i := 132) rfl)
set_option maxRecDepth 65536 in
set_option maxHeartbeats 40000000 in
theorem c_dli (l : Launch) (Z : State) (a0 : Array Value) (hw : ∀ d ∈ tables_1, d.before a0 Z = true) (this : Addr) (w : Addr) (d : Int64) (sq : Int64) (wk : Addr) (h0 : Heap) (n0 : Nat) (Z0 : n0 ≤ h0.size) (E_this : Exa Z h0 this "com/example/framewheel/framewheel/core/PhaseQueue$Delayed") (F_this_work : Fld Z h0 this "com/example/framewheel/framewheel/core/PhaseQueue$Delayed" "work" "Lcom/example/framewheel/framewheel/core/FrameCallback;" .null) (F_this_dueNanos : Fld Z h0 this "com/example/framewheel/framewheel/core/PhaseQueue$Delayed" "dueNanos" "J" (.long (0 : Int64))) (F_this_sequence : Fld Z h0 this "com/example/framewheel/framewheel/core/PhaseQueue$Delayed" "sequence" "J" (.long (0 : Int64))) (F_this_wake : Fld Z h0 this "com/example/framewheel/framewheel/core/PhaseQueue$Delayed" "wake" "Ljava/lang/Runnable;" .null) (g_this : n0 ≤ this) :
  Ctr l Z (⟨"com/example/framewheel/framewheel/core/PhaseQueue$Delayed", "<init>", "(Lcom/example/framewheel/framewheel/core/FrameCallback;JJLjava/lang/Runnable;)V"⟩ : MethodName) prog_10_method_1_code 7 none ({ frames := 2, cells := 0, slots := 0, locals := 24 } : Room) #[(.ref this), (.ref w), (.long d), (.long sq), (.ref wk)] h0 (fun v h L => v = none ∧ Fr n0 L ∧ Keep h0 h [this] ∧ Exa Z h this "com/example/framewheel/framewheel/core/PhaseQueue$Delayed" ∧ Fld Z h this "com/example/framewheel/framewheel/core/PhaseQueue$Delayed" "work" "Lcom/example/framewheel/framewheel/core/FrameCallback;" (.ref w) ∧ Fld Z h this "com/example/framewheel/framewheel/core/PhaseQueue$Delayed" "dueNanos" "J" (.long d) ∧ Fld Z h this "com/example/framewheel/framewheel/core/PhaseQueue$Delayed" "sequence" "J" (.long sq) ∧ Fld Z h this "com/example/framewheel/framewheel/core/PhaseQueue$Delayed" "wake" "Ljava/lang/Runnable;" (.ref wk)) := by
 refine Ctr.of (plainFor_of_name pn_0) (fun m => ef_c_dli m this w d sq wk) ?_
 intro p e s m below meth c T0 hx hby hml hown hnm hret hlk hH e0 X0 hnd
 have hZ := hH.wide
 have N0 := Fr.nil n0
 replace hown : s.vm.findClass "com/example/framewheel/framewheel/core/PhaseQueue$Delayed" = some m.cls := hown
 replace hml : c.maxLocals = 7 := hml
 have KP := Keep.refl h0 [this]
 refine Run.x_aloadN (q := 1) X0 hx (hb hby d29_0) rfl rfl rfl ?_
 refine Run.callC X0 hx hH e0 (y := (⟨"java/lang/Record", "<init>", "()V"⟩ : MethodName)) hown rfl (wm119 hw) (wm120 hw) (wm122 hw) (wm123 hw) (by decide) (a := this) (argsL := []) (rest := []) (c_rci l Z a0 hw this h0 n0 Z0 ) pd_10 rfl (by rw [hml]; rfl) (W := 0) rfl (by decide) (by decide) (by decide) (by decide) (hb hby d29_1) rfl ?_
 intro T1 v1 L1 X1 q1
 obtain ⟨rfl, M1, e1⟩ := q1
 have N1 := Fr.app N0 M1
 show Run p e below s _ _ _ (T1.setTop (mkF m 4 #[.val (.ref this), .val (.ref w), .val (.long d), .second, .val (.long sq), .second, .val (.ref wk)] []))
 refine Run.x_aloadN (q := 5) X1 hx (hb hby d29_4) rfl rfl rfl ?_
 refine Run.x_aloadN (q := 6) X1 hx (hb hby d29_5) rfl rfl rfl ?_
 obtain ⟨T2, h2, X2, e2, W2, st2⟩ := putF X1 hx hZ hown (host := "") (Or.inl (wm125 hw)) Via.refl e1 F_this_work E_this (Or.inr ⟨(wm126 hw), rfl, hnm⟩) (wm114 hw) (ty := (.object "com/example/framewheel/framewheel/core/FrameCallback")) (by decide) rfl rfl (g := (mkF m 6 #[.val (.ref this), .val (.ref w), .val (.long d), .second, .val (.long sq), .second, .val (.ref wk)] [(.ref w), (.ref this)])) rfl rfl (hb hby d29_6)
 replace F_this_work := F_this_work.same W2
 have Z2 : n0 ≤ h2.size := Nat.le_trans Z0 (Nat.le_of_eq W2.size.symm)
 replace KP := KP.wr W2 (Or.inl (by simp))
 have N2 := Fr.snoc X2 N1 g_this
 refine Run.st st2 ?_
 show Run p e below s _ _ _ (T2.setTop (mkF m 9 #[.val (.ref this), .val (.ref w), .val (.long d), .second, .val (.long sq), .second, .val (.ref wk)] []))
 refine Run.x_aloadN (q := 10) X2 hx (hb hby d29_9) rfl rfl rfl ?_
 refine Run.x_lloadN (q := 11) X2 hx (hb hby d29_10) rfl rfl ?_
 replace F_this_dueNanos := F_this_dueNanos.other W2 (Or.inr (slot_ne (Or.inr (wm128 hw)) (Or.inr (wm126 hw)) (by decide) (t := .long) (t' := (.object "com/example/framewheel/framewheel/core/FrameCallback")) (by decide) (by decide)))
 replace E_this := E_this.wr W2
 obtain ⟨T3, h3, X3, e3, W3, st3⟩ := putF X2 hx hZ hown (host := "") (Or.inl (wm127 hw)) Via.refl e2 F_this_dueNanos E_this (Or.inr ⟨(wm128 hw), rfl, hnm⟩) (wm114 hw) (ty := .long) (by decide) rfl rfl (g := (mkF m 11 #[.val (.ref this), .val (.ref w), .val (.long d), .second, .val (.long sq), .second, .val (.ref wk)] [(.long d), (.ref this)])) rfl rfl (hb hby d29_11)
 replace F_this_dueNanos := F_this_dueNanos.same W3
 have Z3 : n0 ≤ h3.size := Nat.le_trans Z2 (Nat.le_of_eq W3.size.symm)
 replace KP := KP.wr W3 (Or.inl (by simp))
 have N3 := Fr.snoc X3 N2 g_this
 refine Run.st st3 ?_
 show Run p e below s _ _ _ (T3.setTop (mkF m 14 #[.val (.ref this), .val (.ref w), .val (.long d), .second, .val (.long sq), .second, .val (.ref wk)] []))
 refine Run.x_aloadN (q := 15) X3 hx (hb hby d29_14) rfl rfl rfl ?_
 refine Run.x_lload (q := 17) X3 hx (hb hby d29_15) rfl rfl ?_
 replace F_this_sequence := (F_this_sequence.other W2 (Or.inr (slot_ne (Or.inr (wm130 hw)) (Or.inr (wm126 hw)) (by decide) (t := .long) (t' := (.object "com/example/framewheel/framewheel/core/FrameCallback")) (by decide) (by decide)))).other W3 (Or.inr (slot_ne (Or.inr (wm130 hw)) (Or.inr (wm128 hw)) (by decide) (t := .long) (t' := .long) (by decide) (by decide)))
 replace E_this := E_this.wr W3
 obtain ⟨T4, h4, X4, e4, W4, st4⟩ := putF X3 hx hZ hown (host := "") (Or.inl (wm129 hw)) Via.refl e3 F_this_sequence E_this (Or.inr ⟨(wm130 hw), rfl, hnm⟩) (wm114 hw) (ty := .long) (by decide) rfl rfl (g := (mkF m 17 #[.val (.ref this), .val (.ref w), .val (.long d), .second, .val (.long sq), .second, .val (.ref wk)] [(.long sq), (.ref this)])) rfl rfl (hb hby d29_17)
 replace F_this_sequence := F_this_sequence.same W4
 have Z4 : n0 ≤ h4.size := Nat.le_trans Z3 (Nat.le_of_eq W4.size.symm)
 replace KP := KP.wr W4 (Or.inl (by simp))
 have N4 := Fr.snoc X4 N3 g_this
 refine Run.st st4 ?_
 show Run p e below s _ _ _ (T4.setTop (mkF m 20 #[.val (.ref this), .val (.ref w), .val (.long d), .second, .val (.long sq), .second, .val (.ref wk)] []))
 refine Run.x_aloadN (q := 21) X4 hx (hb hby d29_20) rfl rfl rfl ?_
 refine Run.x_aload (q := 23) X4 hx (hb hby d29_21) rfl rfl rfl ?_
 replace F_this_wake := ((F_this_wake.other W2 (Or.inr (slot_ne (Or.inr (wm132 hw)) (Or.inr (wm126 hw)) (by decide) (t := (.object "java/lang/Runnable")) (t' := (.object "com/example/framewheel/framewheel/core/FrameCallback")) (by decide) (by decide)))).other W3 (Or.inr (slot_ne (Or.inr (wm132 hw)) (Or.inr (wm128 hw)) (by decide) (t := (.object "java/lang/Runnable")) (t' := .long) (by decide) (by decide)))).other W4 (Or.inr (slot_ne (Or.inr (wm132 hw)) (Or.inr (wm130 hw)) (by decide) (t := (.object "java/lang/Runnable")) (t' := .long) (by decide) (by decide)))
 replace E_this := E_this.wr W4
 obtain ⟨T5, h5, X5, e5, W5, st5⟩ := putF X4 hx hZ hown (host := "") (Or.inl (wm131 hw)) Via.refl e4 F_this_wake E_this (Or.inr ⟨(wm132 hw), rfl, hnm⟩) (wm114 hw) (ty := (.object "java/lang/Runnable")) (by decide) rfl rfl (g := (mkF m 23 #[.val (.ref this), .val (.ref w), .val (.long d), .second, .val (.long sq), .second, .val (.ref wk)] [(.ref wk), (.ref this)])) rfl rfl (hb hby d29_23)
 replace F_this_wake := F_this_wake.same W5
 have Z5 : n0 ≤ h5.size := Nat.le_trans Z4 (Nat.le_of_eq W5.size.symm)
 replace KP := KP.wr W5 (Or.inl (by simp))
 have N5 := Fr.snoc X5 N4 g_this
 refine Run.st st5 ?_
 show Run p e below s _ _ _ (T5.setTop (mkF m 26 #[.val (.ref this), .val (.ref w), .val (.long d), .second, .val (.long sq), .second, .val (.ref wk)] []))
 replace E_this := E_this.wr W5
 replace F_this_work := ((F_this_work.other W3 (Or.inr (slot_ne (Or.inr (wm126 hw)) (Or.inr (wm128 hw)) (by decide) (t := (.object "com/example/framewheel/framewheel/core/FrameCallback")) (t' := .long) (by decide) (by decide)))).other W4 (Or.inr (slot_ne (Or.inr (wm126 hw)) (Or.inr (wm130 hw)) (by decide) (t := (.object "com/example/framewheel/framewheel/core/FrameCallback")) (t' := .long) (by decide) (by decide)))).other W5 (Or.inr (slot_ne (Or.inr (wm126 hw)) (Or.inr (wm132 hw)) (by decide) (t := (.object "com/example/framewheel/framewheel/core/FrameCallback")) (t' := (.object "java/lang/Runnable")) (by decide) (by decide)))
 replace F_this_dueNanos := (F_this_dueNanos.other W4 (Or.inr (slot_ne (Or.inr (wm128 hw)) (Or.inr (wm130 hw)) (by decide) (t := .long) (t' := .long) (by decide) (by decide)))).other W5 (Or.inr (slot_ne (Or.inr (wm128 hw)) (Or.inr (wm132 hw)) (by decide) (t := .long) (t' := (.object "java/lang/Runnable")) (by decide) (by decide)))
 replace F_this_sequence := F_this_sequence.other W5 (Or.inr (slot_ne (Or.inr (wm130 hw)) (Or.inr (wm132 hw)) (by decide) (t := .long) (t' := (.object "java/lang/Runnable")) (by decide) (by decide)))
 refine Run.retV X5 hx hlk e5 hret (hb hby d29_26) (by decide) (by decide) ?_
 exact ⟨rfl, N5, KP, E_this, F_this_work, F_this_dueNanos, F_this_sequence, F_this_wake⟩
theorem d30_0 : decode jdk_21_method_3_code 0 = .ok (.aload_n 0, 1) := by decide +kernel
theorem d30_1 : decode jdk_21_method_3_code 1 = .ok (.invokespecial 42, 3) := by decide +kernel
theorem d30_4 : decode jdk_21_method_3_code 4 = .ok (.aload_n 0, 1) := by decide +kernel
theorem d30_5 : decode jdk_21_method_3_code 5 = .ok (.bipush 17, 2) := by decide +kernel
theorem d30_7 : decode jdk_21_method_3_code 7 = .ok (.anewarray 47, 3) := by decide +kernel
theorem d30_10 : decode jdk_21_method_3_code 10 = .ok (.putfield 3, 3) := by decide +kernel
theorem d30_13 : decode jdk_21_method_3_code 13 = .ok (.return_, 1) := by decide +kernel
theorem ef_c_adi (m : MethodId) (this : Addr) : entryFrame m #[(.ref this)] 1 = mkF m 0 #[.val (.ref this)] [] := by first | (simp [entryFrame, mkF, argsToLocals, Value.category]; done) | rfl
theorem wm41 {a0 : Array Value} {Z : State} (hw : ∀ d ∈ tables_1, d.before a0 Z = true) : (Jvm.Cond.methodLink "java/util/ArrayDeque" (42 : Nat) ({ cls := "java/util/AbstractCollection", name := "<init>", desc := "()V" } : Jvm.MethodName)).before a0 Z = true := hw _ (List.mem_of_getElem? (i := 41) rfl)
theorem wm48 {a0 : Array Value} {Z : State} (hw : ∀ d ∈ tables_1, d.before a0 Z = true) : (Jvm.Cond.classLink "java/util/ArrayDeque" (47 : Nat) "java/lang/Object").before a0 Z = true := hw _ (List.mem_of_getElem? (i := 48) rfl)
theorem wm49 {a0 : Array Value} {Z : State} (hw : ∀ d ∈ tables_1, d.before a0 Z = true) : (Jvm.Cond.arrayOver (Jvm.ClassFile.FieldType.object "java/lang/Object")).before a0 Z = true := hw _ (List.mem_of_getElem? (i := 49) rfl)
set_option maxRecDepth 65536 in
set_option maxHeartbeats 40000000 in
theorem c_adi (l : Launch) (Z : State) (a0 : Array Value) (hw : ∀ d ∈ tables_1, d.before a0 Z = true) (this : Addr) (h0 : Heap) (n0 : Nat) (Z0 : n0 ≤ h0.size) (E_this : Exa Z h0 this "java/util/ArrayDeque") (F_this_elements : Fld Z h0 this "java/util/ArrayDeque" "elements" "[Ljava/lang/Object;" .null) (F_this_head : Fld Z h0 this "java/util/ArrayDeque" "head" "I" (.int 0)) (F_this_tail : Fld Z h0 this "java/util/ArrayDeque" "tail" "I" (.int 0)) (g_this : n0 ≤ this) :
  Ctr l Z (⟨"java/util/ArrayDeque", "<init>", "()V"⟩ : MethodName) jdk_21_method_3_code 1 none ({ frames := 2, cells := 1, slots := 17, locals := 24 } : Room) #[(.ref this)] h0 (fun v h L => ∃ ea, v = none ∧ Fr n0 L ∧ Keep h0 h [this] ∧ h0.size ≤ ea ∧ Exa Z h this "java/util/ArrayDeque" ∧ Fld Z h this "java/util/ArrayDeque" "elements" "[Ljava/lang/Object;" (.ref ea) ∧ Fld Z h this "java/util/ArrayDeque" "head" "I" (.int 0) ∧ Fld Z h this "java/util/ArrayDeque" "tail" "I" (.int 0) ∧ Ars Z h ea (.object "java/lang/Object") [.null, .null, .null, .null, .null, .null, .null, .null, .null, .null, .null, .null, .null, .null, .null, .null, .null] ∧ own_Ob Z h ea "java/lang/Object") := by
 refine Ctr.of (plainFor_of_name pn_3) (fun m => ef_c_adi m this) ?_
 intro p e s m below meth c T0 hx hby hml hown hnm hret hlk hH e0 X0 hnd
 have hZ := hH.wide
 have N0 := Fr.nil n0
 replace hown : s.vm.findClass "java/util/ArrayDeque" = some m.cls := hown
 replace hml : c.maxLocals = 1 := hml
 have KP := Keep.refl h0 [this]
 refine Run.x_aloadN (q := 1) X0 hx (hb hby d30_0) rfl rfl rfl ?_
 refine Run.callC X0 hx hH e0 (y := (⟨"java/util/AbstractCollection", "<init>", "()V"⟩ : MethodName)) hown rfl (wm41 hw) (wm42 hw) (wm45 hw) (wm46 hw) (by decide) (a := this) (argsL := []) (rest := []) (c_aci l Z a0 hw this h0 n0 Z0 ) pd_10 rfl (by rw [hml]; rfl) (W := 0) rfl (by decide) (by decide) (by decide) (by decide) (hb hby d30_1) rfl ?_
 intro T1 v1 L1 X1 q1
 obtain ⟨rfl, M1, e1⟩ := q1
 have N1 := Fr.app N0 M1
 show Run p e below s _ _ _ (T1.setTop (mkF m 4 #[.val (.ref this)] []))
 refine Run.x_aloadN (q := 5) X1 hx (hb hby d30_4) rfl rfl rfl ?_
 refine Run.x_bipush (q := 7) X1 hx (hb hby d30_5) (z := (17 : Int32)) rfl rfl ?_
 refine own_newRO X1 hx hZ e1 hown (wm48 hw) (wm49 hw) (hb hby d30_7) (len := 17) (by decide) (by decide) (cap := 17) (by decide) (by decide) (by decide) (by decide) ?_
 intro T2 h2 b2 gg2 X2 e2 E2 A_b2 O_b2
 have g_b2 : n0 ≤ b2 := Nat.le_trans Z0 (Nat.le_of_eq gg2.symm)
 have ne_this_b2 : this ≠ b2 := Nat.ne_of_lt (Nat.lt_of_lt_of_le E_this.lt (Nat.le_of_eq gg2.symm))
 have sz_b2 : h0.size ≤ b2 := Nat.le_trans KP.1 (Nat.le_of_eq gg2.symm)
 have Z2 : n0 ≤ h2.size := Nat.le_trans Z0 E2.1
 replace KP := KP.ext E2
 replace A_b2 : Ars Z h2 b2 (.object "java/lang/Object") [.null, .null, .null, .null, .null, .null, .null, .null, .null, .null, .null, .null, .null, .null, .null, .null, .null] := A_b2
 show Run p e below s _ _ _ (T2.setTop (mkF m 10 #[.val (.ref this)] [(.ref b2), (.ref this)]))
 replace F_this_elements := F_this_elements.ext E2
 replace E_this := E_this.ext E2
 obtain ⟨T3, h3, X3, e3, W3, st3⟩ := putF X2 hx hZ hown (host := "") (Or.inl (wm50 hw)) Via.refl e2 F_this_elements E_this (Or.inl (wm51 hw)) (wm36 hw) (ty := (.array (.object "java/lang/Object"))) (by decide) rfl rfl (g := (mkF m 10 #[.val (.ref this)] [(.ref b2), (.ref this)])) rfl rfl (hb hby d30_10)
 replace F_this_elements := F_this_elements.same W3
 have Z3 : n0 ≤ h3.size := Nat.le_trans Z2 (Nat.le_of_eq W3.size.symm)
 replace KP := KP.wr W3 (Or.inl (by simp))
 have N3 := Fr.snoc X3 N1 g_this
 refine Run.st st3 ?_
 show Run p e below s _ _ _ (T3.setTop (mkF m 13 #[.val (.ref this)] []))
 replace E_this := E_this.wr W3
 replace F_this_head := (F_this_head.ext E2).other W3 (Or.inr (slot_ne (Or.inl (wm162 hw)) (Or.inl (wm51 hw)) (by decide) (t := .int) (t' := (.array (.object "java/lang/Object"))) (by decide) (by decide)))
 replace F_this_tail := (F_this_tail.ext E2).other W3 (Or.inr (slot_ne (Or.inl (wm148 hw)) (Or.inl (wm51 hw)) (by decide) (t := .int) (t' := (.array (.object "java/lang/Object"))) (by decide) (by decide)))
 replace O_b2 := O_b2.wr W3
 replace A_b2 := A_b2.other W3 (Ne.symm ne_this_b2)
 refine Run.retV X3 hx hlk e3 hret (hb hby d30_13) (by decide) (by decide) ?_
 exact ⟨_, rfl, N3, KP, sz_b2, E_this, F_this_elements, F_this_head, F_this_tail, A_b2, O_b2⟩
theorem d31_0 : decode jdk_2655_method_4_code 0 = .ok (.aload_n 0, 1) := by decide +kernel
theorem d31_1 : decode jdk_2655_method_4_code 1 = .ok (.invokespecial 7, 3) := by decide +kernel
theorem d31_4 : decode jdk_2655_method_4_code 4 = .ok (.iload_n 1, 1) := by decide +kernel
theorem d31_5 : decode jdk_2655_method_4_code 5 = .ok (.iconst 1, 1) := by decide +kernel
theorem d31_6 : decode jdk_2655_method_4_code 6 = .ok (.if_icmp .ge 11, 3) := by decide +kernel
theorem d31_9 : decode jdk_2655_method_4_code 9 = .ok (.new 12, 3) := by decide +kernel
theorem d31_12 : decode jdk_2655_method_4_code 12 = .ok (.dup, 1) := by decide +kernel
theorem d31_13 : decode jdk_2655_method_4_code 13 = .ok (.invokespecial 14, 3) := by decide +kernel
theorem d31_16 : decode jdk_2655_method_4_code 16 = .ok (.athrow, 1) := by decide +kernel
theorem d31_17 : decode jdk_2655_method_4_code 17 = .ok (.aload_n 0, 1) := by decide +kernel
theorem d31_18 : decode jdk_2655_method_4_code 18 = .ok (.iload_n 1, 1) := by decide +kernel
theorem d31_19 : decode jdk_2655_method_4_code 19 = .ok (.anewarray 15, 3) := by decide +kernel
theorem d31_22 : decode jdk_2655_method_4_code 22 = .ok (.putfield 17, 3) := by decide +kernel
theorem d31_25 : decode jdk_2655_method_4_code 25 = .ok (.aload_n 0, 1) := by decide +kernel
theorem d31_26 : decode jdk_2655_method_4_code 26 = .ok (.aload_n 2, 1) := by decide +kernel
theorem d31_27 : decode jdk_2655_method_4_code 27 = .ok (.putfield 21, 3) := by decide +kernel
theorem d31_30 : decode jdk_2655_method_4_code 30 = .ok (.return_, 1) := by decide +kernel
theorem ef_c_pri (m : MethodId) (this : Addr) (lam : Addr) : entryFrame m #[(.ref this), (.int 11), (.ref lam)] 3 = mkF m 0 #[.val (.ref this), .val (.int 11), .val (.ref lam)] [] := by first | (simp [entryFrame, mkF, argsToLocals, Value.category]; done) | rfl
theorem wm66 {a0 : Array Value} {Z : State} (hw : ∀ d ∈ tables_1, d.before a0 Z = true) : (Jvm.Cond.methodLink "java/util/PriorityQueue" (7 : Nat) ({ cls := "java/util/AbstractQueue", name := "<init>", desc := "()V" } : Jvm.MethodName)).before a0 Z = true := hw _ (List.mem_of_getElem? (i := 66) rfl)
theorem wm71 {a0 : Array Value} {Z : State} (hw : ∀ d ∈ tables_1, d.before a0 Z = true) : (Jvm.Cond.code ({ cls := "java/util/AbstractQueue", name := "<init>", desc := "()V" } : Jvm.MethodName) jdk_2435_method_1_code (1 : Nat) (Option.none : Option Jvm.ClassFile.FieldType)).before a0 Z = true := hw _ (List.mem_of_getElem? (i := 71) rfl)
theorem wm67 {a0 : Array Value} {Z : State} (hw : ∀ d ∈ tables_1, d.before a0 Z = true) : (Jvm.Cond.instanceMethod ({ cls := "java/util/AbstractQueue", name := "<init>", desc := "()V" } : Jvm.MethodName)).before a0 Z = true := hw _ (List.mem_of_getElem? (i := 67) rfl)
theorem wm70 {a0 : Array Value} {Z : State} (hw : ∀ d ∈ tables_1, d.before a0 Z = true) : (Jvm.Cond.initialized "java/util/AbstractQueue").before a0 Z = true := hw _ (List.mem_of_getElem? (i := 70) rfl)
theorem wm74 {a0 : Array Value} {Z : State} (hw : ∀ d ∈ tables_1, d.before a0 Z = true) : (Jvm.Cond.classLink "java/util/PriorityQueue" (15 : Nat) "java/lang/Object").before a0 Z = true := hw _ (List.mem_of_getElem? (i := 74) rfl)
set_option maxRecDepth 65536 in
set_option maxHeartbeats 40000000 in
theorem c_pri (l : Launch) (Z : State) (a0 : Array Value) (hw : ∀ d ∈ tables_1, d.before a0 Z = true) (this : Addr) (lam : Addr) (h0 : Heap) (n0 : Nat) (Z0 : n0 ≤ h0.size) (E_this : Exa Z h0 this "java/util/PriorityQueue") (F_this_queue : Fld Z h0 this "java/util/PriorityQueue" "queue" "[Ljava/lang/Object;" .null) (F_this_comparator : Fld Z h0 this "java/util/PriorityQueue" "comparator" "Ljava/util/Comparator;" .null) (F_this_size : Fld Z h0 this "java/util/PriorityQueue" "size" "I" (.int 0)) (F_this_modCount : Fld Z h0 this "java/util/PriorityQueue" "modCount" "I" (.int 0)) (g_this : n0 ≤ this) :
  Ctr l Z (⟨"java/util/PriorityQueue", "<init>", "(ILjava/util/Comparator;)V"⟩ : MethodName) jdk_2655_method_4_code 3 none ({ frames := 3, cells := 1, slots := 11, locals := 36 } : Room) #[(.ref this), (.int 11), (.ref lam)] h0 (fun v h L => ∃ qa, v = none ∧ Fr n0 L ∧ Keep h0 h [this] ∧ h0.size ≤ qa ∧ Exa Z h this "java/util/PriorityQueue" ∧ Fld Z h this "java/util/PriorityQueue" "queue" "[Ljava/lang/Object;" (.ref qa) ∧ Fld Z h this "java/util/PriorityQueue" "comparator" "Ljava/util/Comparator;" (.ref lam) ∧ Fld Z h this "java/util/PriorityQueue" "size" "I" (.int 0) ∧ Fld Z h this "java/util/PriorityQueue" "modCount" "I" (.int 0) ∧ Ars Z h qa (.object "java/lang/Object") [.null, .null, .null, .null, .null, .null, .null, .null, .null, .null, .null] ∧ own_Ob Z h qa "java/lang/Object") := by
 refine Ctr.of (plainFor_of_name pn_4) (fun m => ef_c_pri m this lam) ?_
 intro p e s m below meth c T0 hx hby hml hown hnm hret hlk hH e0 X0 hnd
 have hZ := hH.wide
 have N0 := Fr.nil n0
 replace hown : s.vm.findClass "java/util/PriorityQueue" = some m.cls := hown
 replace hml : c.maxLocals = 3 := hml
 have KP := Keep.refl h0 [this]
 refine Run.x_aloadN (q := 1) X0 hx (hb hby d31_0) rfl rfl rfl ?_
 refine Run.callC X0 hx hH e0 (y := (⟨"java/util/AbstractQueue", "<init>", "()V"⟩ : MethodName)) hown rfl (wm66 hw) (wm67 hw) (wm70 hw) (wm71 hw) (by decide) (a := this) (argsL := []) (rest := []) (c_aqi l Z a0 hw this h0 n0 Z0 ) pd_10 rfl (by rw [hml]; rfl) (W := 0) rfl (by decide) (by decide) (by decide) (by decide) (hb hby d31_1) rfl ?_
 intro T1 v1 L1 X1 q1
 obtain ⟨rfl, M1, e1⟩ := q1
 have N1 := Fr.app N0 M1
 show Run p e below s _ _ _ (T1.setTop (mkF m 4 #[.val (.ref this), .val (.int 11), .val (.ref lam)] []))
 refine Run.x_iloadN (q := 5) X1 hx (hb hby d31_4) rfl rfl ?_
 refine Run.x_iconst (q := 6) X1 hx (hb hby d31_5) (z := (1 : Int32)) rfl rfl ?_
 refine Run.x_icmpYes (q := 17) X1 hx (hb hby d31_6) (flt (by decide : ¬ ((11 : Int32) < (1 : Int32)))).2.1 (by decide) (by decide) ?_
 refine Run.x_aloadN (q := 18) X1 hx (hb hby d31_17) rfl rfl rfl ?_
 refine Run.x_iloadN (q := 19) X1 hx (hb hby d31_18) rfl rfl ?_
 refine own_newRO X1 hx hZ e1 hown (wm74 hw) (wm49 hw) (hb hby d31_19) (len := 11) (by decide) (by decide) (cap := 11) (by decide) (by decide) (by decide) (by decide) ?_
 intro T2 h2 b2 gg2 X2 e2 E2 A_b2 O_b2
 have g_b2 : n0 ≤ b2 := Nat.le_trans Z0 (Nat.le_of_eq gg2.symm)
 have ne_this_b2 : this ≠ b2 := Nat.ne_of_lt (Nat.lt_of_lt_of_le E_this.lt (Nat.le_of_eq gg2.symm))
 have sz_b2 : h0.size ≤ b2 := Nat.le_trans KP.1 (Nat.le_of_eq gg2.symm)
 have Z2 : n0 ≤ h2.size := Nat.le_trans Z0 E2.1
 replace KP := KP.ext E2
 replace A_b2 : Ars Z h2 b2 (.object "java/lang/Object") [.null, .null, .null, .null, .null, .null, .null, .null, .null, .null, .null] := A_b2
 show Run p e below s _ _ _ (T2.setTop (mkF m 22 #[.val (.ref this), .val (.int 11), .val (.ref lam)] [(.ref b2), (.ref this)]))
 replace F_this_queue := F_this_queue.ext E2
 replace E_this := E_this.ext E2
 obtain ⟨T3, h3, X3, e3, W3, st3⟩ := putF X2 hx hZ hown (host := "") (Or.inl (wm75 hw)) Via.refl e2 F_this_queue E_this (Or.inl (wm76 hw)) (wm57 hw) (ty := (.array (.object "java/lang/Object"))) (by decide) rfl rfl (g := (mkF m 22 #[.val (.ref this), .val (.int 11), .val (.ref lam)] [(.ref b2), (.ref this)])) rfl rfl (hb hby d31_22)
 replace F_this_queue := F_this_queue.same W3
 have Z3 : n0 ≤ h3.size := Nat.le_trans Z2 (Nat.le_of_eq W3.size.symm)
 replace KP := KP.wr W3 (Or.inl (by simp))
 have N3 := Fr.snoc X3 N1 g_this
 refine Run.st st3 ?_
 show Run p e below s _ _ _ (T3.setTop (mkF m 25 #[.val (.ref this), .val (.int 11), .val (.ref lam)] []))
 refine Run.x_aloadN (q := 26) X3 hx (hb hby d31_25) rfl rfl rfl ?_
 refine Run.x_aloadN (q := 27) X3 hx (hb hby d31_26) rfl rfl rfl ?_
 replace F_this_comparator := (F_this_comparator.ext E2).other W3 (Or.inr (slot_ne (Or.inr (wm78 hw)) (Or.inl (wm76 hw)) (by decide) (t := (.object "java/util/Comparator")) (t' := (.array (.object "java/lang/Object"))) (by decide) (by decide)))
 replace E_this := E_this.wr W3
 obtain ⟨T4, h4, X4, e4, W4, st4⟩ := putF X3 hx hZ hown (host := "") (Or.inl (wm77 hw)) Via.refl e3 F_this_comparator E_this (Or.inr ⟨(wm78 hw), rfl, hnm⟩) (wm57 hw) (ty := (.object "java/util/Comparator")) (by decide) rfl rfl (g := (mkF m 27 #[.val (.ref this), .val (.int 11), .val (.ref lam)] [(.ref lam), (.ref this)])) rfl rfl (hb hby d31_27)
 replace F_this_comparator := F_this_comparator.same W4
 have Z4 : n0 ≤ h4.size := Nat.le_trans Z3 (Nat.le_of_eq W4.size.symm)
 replace KP := KP.wr W4 (Or.inl (by simp))
 have N4 := Fr.snoc X4 N3 g_this
 refine Run.st st4 ?_
 show Run p e below s _ _ _ (T4.setTop (mkF m 30 #[.val (.ref this), .val (.int 11), .val (.ref lam)] []))
 replace E_this := E_this.wr W4
 replace F_this_queue := F_this_queue.other W4 (Or.inr (slot_ne (Or.inl (wm76 hw)) (Or.inr (wm78 hw)) (by decide) (t := (.array (.object "java/lang/Object"))) (t' := (.object "java/util/Comparator")) (by decide) (by decide)))
 replace F_this_size := ((F_this_size.ext E2).other W3 (Or.inr (slot_ne (Or.inl (wm239 hw)) (Or.inl (wm76 hw)) (by decide) (t := .int) (t' := (.array (.object "java/lang/Object"))) (by decide) (by decide)))).other W4 (Or.inr (slot_ne (Or.inl (wm239 hw)) (Or.inr (wm78 hw)) (by decide) (t := .int) (t' := (.object "java/util/Comparator")) (by decide) (by decide)))
 replace F_this_modCount := ((F_this_modCount.ext E2).other W3 (Or.inr (slot_ne (Or.inl (wm237 hw)) (Or.inl (wm76 hw)) (by decide) (t := .int) (t' := (.array (.object "java/lang/Object"))) (by decide) (by decide)))).other W4 (Or.inr (slot_ne (Or.inl (wm237 hw)) (Or.inr (wm78 hw)) (by decide) (t := .int) (t' := (.object "java/util/Comparator")) (by decide) (by decide)))
 replace O_b2 := (O_b2.wr W3).wr W4
 replace A_b2 := (A_b2.other W3 (Ne.symm ne_this_b2)).other W4 (Ne.symm ne_this_b2)
 refine Run.retV X4 hx hlk e4 hret (hb hby d31_30) (by decide) (by decide) ?_
 exact ⟨_, rfl, N4, KP, sz_b2, E_this, F_this_queue, F_this_comparator, F_this_size, F_this_modCount, A_b2, O_b2⟩
theorem d32_0 : decode jdk_2655_method_3_code 0 = .ok (.aload_n 0, 1) := by decide +kernel
theorem d32_1 : decode jdk_2655_method_3_code 1 = .ok (.bipush 11, 2) := by decide +kernel
theorem d32_3 : decode jdk_2655_method_3_code 3 = .ok (.aload_n 1, 1) := by decide +kernel
theorem d32_4 : decode jdk_2655_method_3_code 4 = .ok (.invokespecial 3, 3) := by decide +kernel
theorem d32_7 : decode jdk_2655_method_3_code 7 = .ok (.return_, 1) := by decide +kernel
theorem ef_c_prc (m : MethodId) (this : Addr) (lam : Addr) : entryFrame m #[(.ref this), (.ref lam)] 2 = mkF m 0 #[.val (.ref this), .val (.ref lam)] [] := by first | (simp [entryFrame, mkF, argsToLocals, Value.category]; done) | rfl
theorem wm62 {a0 : Array Value} {Z : State} (hw : ∀ d ∈ tables_1, d.before a0 Z = true) : (Jvm.Cond.methodLink "java/util/PriorityQueue" (3 : Nat) ({ cls := "java/util/PriorityQueue", name := "<init>", desc := "(ILjava/util/Comparator;)V" } : Jvm.MethodName)).before a0 Z = true := hw _ (List.mem_of_getElem? (i := 62) rfl)
theorem wm65 {a0 : Array Value} {Z : State} (hw : ∀ d ∈ tables_1, d.before a0 Z = true) : (Jvm.Cond.code ({ cls := "java/util/PriorityQueue", name := "<init>", desc := "(ILjava/util/Comparator;)V" } : Jvm.MethodName) jdk_2655_method_4_code (3 : Nat) (Option.none : Option Jvm.ClassFile.FieldType)).before a0 Z = true := hw _ (List.mem_of_getElem? (i := 65) rfl)
theorem pd_11 : parseMethodDescriptor "(ILjava/util/Comparator;)V" = some ⟨[.int, (.object "java/util/Comparator")], none⟩ := by decide +kernel
theorem wm63 {a0 : Array Value} {Z : State} (hw : ∀ d ∈ tables_1, d.before a0 Z = true) : (Jvm.Cond.instanceMethod ({ cls := "java/util/PriorityQueue", name := "<init>", desc := "(ILjava/util/Comparator;)V" } : Jvm.MethodName)).before a0 Z = true := hw _ (List.mem_of_getElem? (i := 63) rfl)
set_option maxRecDepth 65536 in
set_option maxHeartbeats 40000000 in
theorem c_prc (l : Launch) (Z : State) (a0 : Array Value) (hw : ∀ d ∈ tables_1, d.before a0 Z = true) (this : Addr) (lam : Addr) (h0 : Heap) (n0 : Nat) (Z0 : n0 ≤ h0.size) (E_this : Exa Z h0 this "java/util/PriorityQueue") (F_this_queue : Fld Z h0 this "java/util/PriorityQueue" "queue" "[Ljava/lang/Object;" .null) (F_this_comparator : Fld Z h0 this "java/util/PriorityQueue" "comparator" "Ljava/util/Comparator;" .null) (F_this_size : Fld Z h0 this "java/util/PriorityQueue" "size" "I" (.int 0)) (F_this_modCount : Fld Z h0 this "java/util/PriorityQueue" "modCount" "I" (.int 0)) (g_this : n0 ≤ this) :
  Ctr l Z (⟨"java/util/PriorityQueue", "<init>", "(Ljava/util/Comparator;)V"⟩ : MethodName) jdk_2655_method_3_code 2 none ({ frames := 4, cells := 1, slots := 11, locals := 50 } : Room) #[(.ref this), (.ref lam)] h0 (fun v h L => ∃ qa, v = none ∧ Fr n0 L ∧ Keep h0 h [this] ∧ h0.size ≤ qa ∧ Exa Z h this "java/util/PriorityQueue" ∧ Fld Z h this "java/util/PriorityQueue" "queue" "[Ljava/lang/Object;" (.ref qa) ∧ Fld Z h this "java/util/PriorityQueue" "comparator" "Ljava/util/Comparator;" (.ref lam) ∧ Fld Z h this "java/util/PriorityQueue" "size" "I" (.int 0) ∧ Fld Z h this "java/util/PriorityQueue" "modCount" "I" (.int 0) ∧ Ars Z h qa (.object "java/lang/Object") [.null, .null, .null, .null, .null, .null, .null, .null, .null, .null, .null] ∧ own_Ob Z h qa "java/lang/Object") := by
 refine Ctr.of (plainFor_of_name pn_4) (fun m => ef_c_prc m this lam) ?_
 intro p e s m below meth c T0 hx hby hml hown hnm hret hlk hH e0 X0 hnd
 have hZ := hH.wide
 have N0 := Fr.nil n0
 replace hown : s.vm.findClass "java/util/PriorityQueue" = some m.cls := hown
 replace hml : c.maxLocals = 2 := hml
 have KP := Keep.refl h0 [this]
 refine Run.x_aloadN (q := 1) X0 hx (hb hby d32_0) rfl rfl rfl ?_
 refine Run.x_bipush (q := 3) X0 hx (hb hby d32_1) (z := (11 : Int32)) rfl rfl ?_
 refine Run.x_aloadN (q := 4) X0 hx (hb hby d32_3) rfl rfl rfl ?_
 refine Run.callC X0 hx hH e0 (y := (⟨"java/util/PriorityQueue", "<init>", "(ILjava/util/Comparator;)V"⟩ : MethodName)) hown rfl (wm62 hw) (wm63 hw) (wm58 hw) (wm65 hw) (by decide) (a := this) (argsL := [(.int 11), (.ref lam)]) (rest := []) (c_pri l Z a0 hw this lam h0 n0 Z0 E_this F_this_queue F_this_comparator F_this_size F_this_modCount g_this) pd_11 rfl (by rw [hml]; rfl) (W := 0) rfl (by decide) (by decide) (by decide) (by decide) (hb hby d32_4) rfl ?_
 intro T1 v1 L1 X1 q1
 obtain ⟨qa1, rfl, M1, K1, sq1, E1, Fq1, Fc1, Fs1, Fm1, Aq1, Oq1⟩ := q1
 have N1 := Fr.app N0 M1
 show Run p e below s _ _ _ (T1.setTop (mkF m 7 #[.val (.ref this), .val (.ref lam)] []))
 have ne_this_qa1 : this ≠ qa1 := Nat.ne_of_lt (Nat.lt_of_lt_of_le E_this.lt sq1)
 have g_qa1 : n0 ≤ qa1 := Nat.le_trans Z0 sq1
 have sz_qa1 : h0.size ≤ qa1 := Nat.le_trans KP.1 sq1
 have Z1 : n0 ≤ T1.heap.size := Nat.le_trans Z0 K1.1
 replace KP := KP.trans K1 (allS (Or.inl (by simp)) all0)
 refine Run.retV X1 hx hlk rfl hret (hb hby d32_7) (by decide) (by decide) ?_
 exact ⟨_, rfl, N1, KP, sz_qa1, E1, Fq1, Fc1, Fs1, Fm1, Aq1, Oq1⟩
theorem d33_0 : decode prog_15_method_1_code 0 = .ok (.aload_n 0, 1) := by decide +kernel
theorem d33_1 : decode prog_15_method_1_code 1 = .ok (.invokespecial 1, 3) := by decide +kernel
theorem d33_4 : decode prog_15_method_1_code 4 = .ok (.aload_n 0, 1) := by decide +kernel
theorem d33_5 : decode prog_15_method_1_code 5 = .ok (.new 7, 3) := by decide +kernel
theorem d33_8 : decode prog_15_method_1_code 8 = .ok (.dup, 1) := by decide +kernel
theorem d33_9 : decode prog_15_method_1_code 9 = .ok (.invokespecial 9, 3) := by decide +kernel
theorem d33_12 : decode prog_15_method_1_code 12 = .ok (.putfield 10, 3) := by decide +kernel
theorem d33_15 : decode prog_15_method_1_code 15 = .ok (.aload_n 0, 1) := by decide +kernel
theorem d33_16 : decode prog_15_method_1_code 16 = .ok (.aload_n 1, 1) := by decide +kernel
theorem d33_17 : decode prog_15_method_1_code 17 = .ok (.putfield 16, 3) := by decide +kernel
theorem d33_20 : decode prog_15_method_1_code 20 = .ok (.aload_n 0, 1) := by decide +kernel
theorem d33_21 : decode prog_15_method_1_code 21 = .ok (.new 20, 3) := by decide +kernel
theorem d33_24 : decode prog_15_method_1_code 24 = .ok (.dup, 1) := by decide +kernel
theorem d33_25 : decode prog_15_method_1_code 25 = .ok (.aload_n 1, 1) := by decide +kernel
theorem d33_26 : decode prog_15_method_1_code 26 = .ok (.invokespecial 22, 3) := by decide +kernel
theorem d33_29 : decode prog_15_method_1_code 29 = .ok (.putfield 25, 3) := by decide +kernel
theorem d33_32 : decode prog_15_method_1_code 32 = .ok (.return_, 1) := by decide +kernel
theorem ef_c_tqi (m : MethodId) (this : Addr) (lam : Addr) : entryFrame m #[(.ref this), (.ref lam)] 2 = mkF m 0 #[.val (.ref this), .val (.ref lam)] [] := by first | (simp [entryFrame, mkF, argsToLocals, Value.category]; done) | rfl
theorem wm34 {a0 : Array Value} {Z : State} (hw : ∀ d ∈ tables_1, d.before a0 Z = true) : (Jvm.Cond.methodLink "com/example/framewheel/framewheel/core/TimeOrderedQueue" (1 : Nat) ({ cls := "java/lang/Object", name := "<init>", desc := "()V" } : Jvm.MethodName)).before a0 Z = true := hw _ (List.mem_of_getElem? (i := 34) rfl)
theorem wm35 {a0 : Array Value} {Z : State} (hw : ∀ d ∈ tables_1, d.before a0 Z = true) : (Jvm.Cond.classLink "com/example/framewheel/framewheel/core/TimeOrderedQueue" (7 : Nat) "java/util/ArrayDeque").before a0 Z = true := hw _ (List.mem_of_getElem? (i := 35) rfl)
theorem wm38 {a0 : Array Value} {Z : State} (hw : ∀ d ∈ tables_1, d.before a0 Z = true) : (Jvm.Cond.methodLink "com/example/framewheel/framewheel/core/TimeOrderedQueue" (9 : Nat) ({ cls := "java/util/ArrayDeque", name := "<init>", desc := "()V" } : Jvm.MethodName)).before a0 Z = true := hw _ (List.mem_of_getElem? (i := 38) rfl)
theorem wm40 {a0 : Array Value} {Z : State} (hw : ∀ d ∈ tables_1, d.before a0 Z = true) : (Jvm.Cond.code ({ cls := "java/util/ArrayDeque", name := "<init>", desc := "()V" } : Jvm.MethodName) jdk_21_method_3_code (1 : Nat) (Option.none : Option Jvm.ClassFile.FieldType)).before a0 Z = true := hw _ (List.mem_of_getElem? (i := 40) rfl)
theorem wm39 {a0 : Array Value} {Z : State} (hw : ∀ d ∈ tables_1, d.before a0 Z = true) : (Jvm.Cond.instanceMethod ({ cls := "java/util/ArrayDeque", name := "<init>", desc := "()V" } : Jvm.MethodName)).before a0 Z = true := hw _ (List.mem_of_getElem? (i := 39) rfl)
theorem wm53 {a0 : Array Value} {Z : State} (hw : ∀ d ∈ tables_1, d.before a0 Z = true) : (Jvm.Cond.laysFinal "com/example/framewheel/framewheel/core/TimeOrderedQueue" "com/example/framewheel/framewheel/core/TimeOrderedQueue" "run" "Ljava/util/ArrayDeque;").before a0 Z = true := hw _ (List.mem_of_getElem? (i := 53) rfl)
theorem wm26 {a0 : Array Value} {Z : State} (hw : ∀ d ∈ tables_1, d.before a0 Z = true) : (Jvm.Cond.instantiable "com/example/framewheel/framewheel/core/TimeOrderedQueue" (3 : Nat)).before a0 Z = true := hw _ (List.mem_of_getElem? (i := 26) rfl)
theorem wm55 {a0 : Array Value} {Z : State} (hw : ∀ d ∈ tables_1, d.before a0 Z = true) : (Jvm.Cond.laysFinal "com/example/framewheel/framewheel/core/TimeOrderedQueue" "com/example/framewheel/framewheel/core/TimeOrderedQueue" "order" "Ljava/util/Comparator;").before a0 Z = true := hw _ (List.mem_of_getElem? (i := 55) rfl)
theorem wm56 {a0 : Array Value} {Z : State} (hw : ∀ d ∈ tables_1, d.before a0 Z = true) : (Jvm.Cond.classLink "com/example/framewheel/framewheel/core/TimeOrderedQueue" (20 : Nat) "java/util/PriorityQueue").before a0 Z = true := hw _ (List.mem_of_getElem? (i := 56) rfl)
theorem wm59 {a0 : Array Value} {Z : State} (hw : ∀ d ∈ tables_1, d.before a0 Z = true) : (Jvm.Cond.methodLink "com/example/framewheel/framewheel/core/TimeOrderedQueue" (22 : Nat) ({ cls := "java/util/PriorityQueue", name := "<init>", desc := "(Ljava/util/Comparator;)V" } : Jvm.MethodName)).before a0 Z = true := hw _ (List.mem_of_getElem? (i := 59) rfl)
theorem wm61 {a0 : Array Value} {Z : State} (hw : ∀ d ∈ tables_1, d.before a0 Z = true) : (Jvm.Cond.code ({ cls := "java/util/PriorityQueue", name := "<init>", desc := "(Ljava/util/Comparator;)V" } : Jvm.MethodName) jdk_2655_method_3_code (2 : Nat) (Option.none : Option Jvm.ClassFile.FieldType)).before a0 Z = true := hw _ (List.mem_of_getElem? (i := 61) rfl)
theorem pd_12 : parseMethodDescriptor "(Ljava/util/Comparator;)V" = some ⟨[(.object "java/util/Comparator")], none⟩ := by decide +kernel
theorem wm60 {a0 : Array Value} {Z : State} (hw : ∀ d ∈ tables_1, d.before a0 Z = true) : (Jvm.Cond.instanceMethod ({ cls := "java/util/PriorityQueue", name := "<init>", desc := "(Ljava/util/Comparator;)V" } : Jvm.MethodName)).before a0 Z = true := hw _ (List.mem_of_getElem? (i := 60) rfl)
theorem wm80 {a0 : Array Value} {Z : State} (hw : ∀ d ∈ tables_1, d.before a0 Z = true) : (Jvm.Cond.laysFinal "com/example/framewheel/framewheel/core/TimeOrderedQueue" "com/example/framewheel/framewheel/core/TimeOrderedQueue" "heap" "Ljava/util/PriorityQueue;").before a0 Z = true := hw _ (List.mem_of_getElem? (i := 80) rfl)
set_option maxRecDepth 65536 in
set_option maxHeartbeats 40000000 in
theorem c_tqi (l : Launch) (Z : State) (a0 : Array Value) (hw : ∀ d ∈ tables_1, d.before a0 Z = true) (this : Addr) (lam : Addr) (h0 : Heap) (n0 : Nat) (Z0 : n0 ≤ h0.size) (E_this : Exa Z h0 this "com/example/framewheel/framewheel/core/TimeOrderedQueue") (F_this_run : Fld Z h0 this "com/example/framewheel/framewheel/core/TimeOrderedQueue" "run" "Ljava/util/ArrayDeque;" .null) (F_this_order : Fld Z h0 this "com/example/framewheel/framewheel/core/TimeOrderedQueue" "order" "Ljava/util/Comparator;" .null) (F_this_heap : Fld Z h0 this "com/example/framewheel/framewheel/core/TimeOrderedQueue" "heap" "Ljava/util/PriorityQueue;" .null) (g_this : n0 ≤ this) :
  Ctr l Z (⟨"com/example/framewheel/framewheel/core/TimeOrderedQueue", "<init>", "(Ljava/util/Comparator;)V"⟩ : MethodName) prog_15_method_1_code 2 none ({ frames := 5, cells := 4, slots := 35, locals := 65 } : Room) #[(.ref this), (.ref lam)] h0 (fun v h L => ∃ rq ea hq qa, v = none ∧ Fr n0 L ∧ Keep h0 h [this] ∧ h0.size ≤ rq ∧ h0.size ≤ ea ∧ h0.size ≤ hq ∧ h0.size ≤ qa ∧ Exa Z h this "com/example/framewheel/framewheel/core/TimeOrderedQueue" ∧ Fld Z h this "com/example/framewheel/framewheel/core/TimeOrderedQueue" "run" "Ljava/util/ArrayDeque;" (.ref rq) ∧ Fld Z h this "com/example/framewheel/framewheel/core/TimeOrderedQueue" "order" "Ljava/util/Comparator;" (.ref lam) ∧ Fld Z h this "com/example/framewheel/framewheel/core/TimeOrderedQueue" "heap" "Ljava/util/PriorityQueue;" (.ref hq) ∧ Exa Z h rq "java/util/ArrayDeque" ∧ Fld Z h rq "java/util/ArrayDeque" "elements" "[Ljava/lang/Object;" (.ref ea) ∧ Fld Z h rq "java/util/ArrayDeque" "head" "I" (.int 0) ∧ Fld Z h rq "java/util/ArrayDeque" "tail" "I" (.int 0) ∧ Ars Z h ea (.object "java/lang/Object") [.null, .null, .null, .null, .null, .null, .null, .null, .null, .null, .null, .null, .null, .null, .null, .null, .null] ∧ own_Ob Z h ea "java/lang/Object" ∧ Exa Z h hq "java/util/PriorityQueue" ∧ Fld Z h hq "java/util/PriorityQueue" "queue" "[Ljava/lang/Object;" (.ref qa) ∧ Fld Z h hq "java/util/PriorityQueue" "comparator" "Ljava/util/Comparator;" (.ref lam) ∧ Fld Z h hq "java/util/PriorityQueue" "size" "I" (.int 0) ∧ Fld Z h hq "java/util/PriorityQueue" "modCount" "I" (.int 0) ∧ Ars Z h qa (.object "java/lang/Object") [.null, .null, .null, .null, .null, .null, .null, .null, .null, .null, .null] ∧ own_Ob Z h qa "java/lang/Object") := by
 refine Ctr.of (plainFor_of_name pn_5) (fun m => ef_c_tqi m this lam) ?_
 intro p e s m below meth c T0 hx hby hml hown hnm hret hlk hH e0 X0 hnd
 have hZ := hH.wide
 have N0 := Fr.nil n0
 replace hown : s.vm.findClass "com/example/framewheel/framewheel/core/TimeOrderedQueue" = some m.cls := hown
 replace hml : c.maxLocals = 2 := hml
 have KP := Keep.refl h0 [this]
 refine Run.x_aloadN (q := 1) X0 hx (hb hby d33_0) rfl rfl rfl ?_
 refine Run.init X0 hx hZ e0 hown (wm34 hw) (wm7 hw) (wm8 hw) (by rw [hml]; rfl) (hb hby d33_1) (by decide) (W := 0) rfl (by decide) ?_
 intro T1 X1 e1
 show Run p e below s _ _ _ (T1.setTop (mkF m 4 #[.val (.ref this), .val (.ref lam)] []))
 refine Run.x_aloadN (q := 5) X1 hx (hb hby d33_4) rfl rfl rfl ?_
 obtain ⟨T2, h2, X2, e2, E2, A2, D2, -, st2⟩ := newO X1 hx hZ hown (wm35 hw) (wm36 hw) (wm37 hw) e1 (g := (mkF m 5 #[.val (.ref this), .val (.ref lam)] [(.ref this)])) rfl (hb hby d33_5) (by decide) (by decide)
 obtain ⟨b2, gg2⟩ : ∃ z, z = h0.size := ⟨_, rfl⟩
 rw [← gg2] at A2 D2 st2
 have g_b2 : n0 ≤ b2 := Nat.le_trans Z0 (Nat.le_of_eq gg2.symm)
 have ne_this_b2 : this ≠ b2 := Nat.ne_of_lt (Nat.lt_of_lt_of_le E_this.lt (Nat.le_of_eq gg2.symm))
 have sz_b2 : h0.size ≤ b2 := Nat.le_trans KP.1 (Nat.le_of_eq gg2.symm)
 have Z2 : n0 ≤ h2.size := Nat.le_trans Z0 E2.1
 replace KP := KP.ext E2
 have E_b2 := A2
 have F_b2_elements : Fld Z h2 b2 "java/util/ArrayDeque" "elements" "[Ljava/lang/Object;" .null := D2 (Or.inl (wm51 hw)) (ty := (.array (.object "java/lang/Object"))) (by decide)
 have F_b2_tail : Fld Z h2 b2 "java/util/ArrayDeque" "tail" "I" (.int 0) := D2 (Or.inl (wm148 hw)) (ty := .int) (by decide)
 have F_b2_head : Fld Z h2 b2 "java/util/ArrayDeque" "head" "I" (.int 0) := D2 (Or.inl (wm162 hw)) (ty := .int) (by decide)
 refine Run.st st2 ?_
 show Run p e below s _ _ _ (T2.setTop (mkF m 8 #[.val (.ref this), .val (.ref lam)] [(.ref b2), (.ref this)]))
 refine Run.x_dup (q := 9) X2 hx (hb hby d33_8) rfl rfl ?_
 refine Run.callC X2 hx hH e2 (y := (⟨"java/util/ArrayDeque", "<init>", "()V"⟩ : MethodName)) hown rfl (wm38 hw) (wm39 hw) (wm37 hw) (wm40 hw) (by decide) (a := b2) (argsL := []) (rest := [(.ref b2), (.ref this)]) (c_adi l Z a0 hw b2 h2 n0 Z2 E_b2 F_b2_elements F_b2_head F_b2_tail g_b2) pd_10 rfl (by rw [hml]; rfl) (W := 2) rfl (by decide) (by decide) (by decide) (by decide) (hb hby d33_9) rfl ?_
 intro T3 v3 L3 X3 q3
 obtain ⟨ea3, rfl, M3, K3, sq3, E3, Fe3, Fh3, Ft3, Aa3, Oa3⟩ := q3
 have N3 := Fr.app N0 M3
 show Run p e below s _ _ _ (T3.setTop (mkF m 12 #[.val (.ref this), .val (.ref lam)] [(.ref b2), (.ref this)]))
 replace E_this := E_this.ext E2
 have ne_this_ea3 : this ≠ ea3 := Nat.ne_of_lt (Nat.lt_of_lt_of_le E_this.lt sq3)
 have ne_b2_ea3 : b2 ≠ ea3 := Nat.ne_of_lt (Nat.lt_of_lt_of_le E_b2.lt sq3)
 have g_ea3 : n0 ≤ ea3 := Nat.le_trans Z2 sq3
 have sz_ea3 : h0.size ≤ ea3 := Nat.le_trans KP.1 sq3
 have Z3 : n0 ≤ T3.heap.size := Nat.le_trans Z2 K3.1
 replace KP := KP.trans K3 (allS (Or.inr sz_b2) all0)
 replace F_this_run := (F_this_run.ext E2).keep K3 (ninS ne_this_b2 nin0)
 replace E_this := E_this.keep K3
 obtain ⟨T4, h4, X4, e4, W4, st4⟩ := putF X3 hx hZ hown (host := "") (Or.inl (wm52 hw)) Via.refl rfl F_this_run E_this (Or.inr ⟨(wm53 hw), rfl, hnm⟩) (wm26 hw) (ty := (.object "java/util/ArrayDeque")) (by decide) rfl rfl (g := (mkF m 12 #[.val (.ref this), .val (.ref lam)] [(.ref b2), (.ref this)])) rfl rfl (hb hby d33_12)
 replace F_this_run := F_this_run.same W4
 have Z4 : n0 ≤ h4.size := Nat.le_trans Z3 (Nat.le_of_eq W4.size.symm)
 replace KP := KP.wr W4 (Or.inl (by simp))
 have N4 := Fr.snoc X4 N3 g_this
 refine Run.st st4 ?_
 show Run p e below s _ _ _ (T4.setTop (mkF m 15 #[.val (.ref this), .val (.ref lam)] []))
 refine Run.x_aloadN (q := 16) X4 hx (hb hby d33_15) rfl rfl rfl ?_
 refine Run.x_aloadN (q := 17) X4 hx (hb hby d33_16) rfl rfl rfl ?_
 replace F_this_order := ((F_this_order.ext E2).keep K3 (ninS ne_this_b2 nin0)).other W4 (Or.inr (slot_ne (Or.inr (wm55 hw)) (Or.inr (wm53 hw)) (by decide) (t := (.object "java/util/Comparator")) (t' := (.object "java/util/ArrayDeque")) (by decide) (by decide)))
 replace E_this := E_this.wr W4
 obtain ⟨T5, h5, X5, e5, W5, st5⟩ := putF X4 hx hZ hown (host := "") (Or.inl (wm54 hw)) Via.refl e4 F_this_order E_this (Or.inr ⟨(wm55 hw), rfl, hnm⟩) (wm26 hw) (ty := (.object "java/util/Comparator")) (by decide) rfl rfl (g := (mkF m 17 #[.val (.ref this), .val (.ref lam)] [(.ref lam), (.ref this)])) rfl rfl (hb hby d33_17)
 replace F_this_order := F_this_order.same W5
 have Z5 : n0 ≤ h5.size := Nat.le_trans Z4 (Nat.le_of_eq W5.size.symm)
 replace KP := KP.wr W5 (Or.inl (by simp))
 have N5 := Fr.snoc X5 N4 g_this
 refine Run.st st5 ?_
 show Run p e below s _ _ _ (T5.setTop (mkF m 20 #[.val (.ref this), .val (.ref lam)] []))
 refine Run.x_aloadN (q := 21) X5 hx (hb hby d33_20) rfl rfl rfl ?_
 obtain ⟨T6, h6, X6, e6, E6, A6, D6, -, st6⟩ := newO X5 hx hZ hown (wm56 hw) (wm57 hw) (wm58 hw) e5 (g := (mkF m 21 #[.val (.ref this), .val (.ref lam)] [(.ref this)])) rfl (hb hby d33_21) (by decide) (by decide)
 obtain ⟨b6, gg6⟩ : ∃ z, z = h5.size := ⟨_, rfl⟩
 rw [← gg6] at A6 D6 st6
 have g_b6 : n0 ≤ b6 := Nat.le_trans Z5 (Nat.le_of_eq gg6.symm)
 replace E_this := E_this.wr W5
 have ne_this_b6 : this ≠ b6 := Nat.ne_of_lt (Nat.lt_of_lt_of_le E_this.lt (Nat.le_of_eq gg6.symm))
 replace E3 := (E3.wr W4).wr W5
 have ne_b2_b6 : b2 ≠ b6 := Nat.ne_of_lt (Nat.lt_of_lt_of_le E3.lt (Nat.le_of_eq gg6.symm))
 replace Aa3 := (Aa3.other W4 (Ne.symm ne_this_ea3)).other W5 (Ne.symm ne_this_ea3)
 have ne_ea3_b6 : ea3 ≠ b6 := Nat.ne_of_lt (Nat.lt_of_lt_of_le Aa3.lt (Nat.le_of_eq gg6.symm))
 have sz_b6 : h0.size ≤ b6 := Nat.le_trans KP.1 (Nat.le_of_eq gg6.symm)
 have Z6 : n0 ≤ h6.size := Nat.le_trans Z5 E6.1
 replace KP := KP.ext E6
 have E_b6 := A6
 have F_b6_queue : Fld Z h6 b6 "java/util/PriorityQueue" "queue" "[Ljava/lang/Object;" .null := D6 (Or.inl (wm76 hw)) (ty := (.array (.object "java/lang/Object"))) (by decide)
 have F_b6_comparator : Fld Z h6 b6 "java/util/PriorityQueue" "comparator" "Ljava/util/Comparator;" .null := D6 (Or.inr (wm78 hw)) (ty := (.object "java/util/Comparator")) (by decide)
 have F_b6_modCount : Fld Z h6 b6 "java/util/PriorityQueue" "modCount" "I" (.int 0) := D6 (Or.inl (wm237 hw)) (ty := .int) (by decide)
 have F_b6_size : Fld Z h6 b6 "java/util/PriorityQueue" "size" "I" (.int 0) := D6 (Or.inl (wm239 hw)) (ty := .int) (by decide)
 refine Run.st st6 ?_
 show Run p e below s _ _ _ (T6.setTop (mkF m 24 #[.val (.ref this), .val (.ref lam)] [(.ref b6), (.ref this)]))
 refine Run.x_dup (q := 25) X6 hx (hb hby d33_24) rfl rfl ?_
 refine Run.x_aloadN (q := 26) X6 hx (hb hby d33_25) rfl rfl rfl ?_
 refine Run.callC X6 hx hH e6 (y := (⟨"java/util/PriorityQueue", "<init>", "(Ljava/util/Comparator;)V"⟩ : MethodName)) hown rfl (wm59 hw) (wm60 hw) (wm58 hw) (wm61 hw) (by decide) (a := b6) (argsL := [(.ref lam)]) (rest := [(.ref b6), (.ref this)]) (c_prc l Z a0 hw b6 lam h6 n0 Z6 E_b6 F_b6_queue F_b6_comparator F_b6_size F_b6_modCount g_b6) pd_12 rfl (by rw [hml]; rfl) (W := 2) rfl (by decide) (by decide) (by decide) (by decide) (hb hby d33_26) rfl ?_
 intro T7 v7 L7 X7 q7
 obtain ⟨qa7, rfl, M7, K7, sq7, E7, Fq7, Fc7, Fs7, Fm7, Aq7, Oq7⟩ := q7
 have N7 := Fr.app N5 M7
 show Run p e below s _ _ _ (T7.setTop (mkF m 29 #[.val (.ref this), .val (.ref lam)] [(.ref b6), (.ref this)]))
 replace E_this := E_this.ext E6
 have ne_this_qa7 : this ≠ qa7 := Nat.ne_of_lt (Nat.lt_of_lt_of_le E_this.lt sq7)
 replace E3 := E3.ext E6
 have ne_b2_qa7 : b2 ≠ qa7 := Nat.ne_of_lt (Nat.lt_of_lt_of_le E3.lt sq7)
 replace Aa3 := Aa3.ext E6
 have ne_ea3_qa7 : ea3 ≠ qa7 := Nat.ne_of_lt (Nat.lt_of_lt_of_le Aa3.lt sq7)
 have ne_b6_qa7 : b6 ≠ qa7 := Nat.ne_of_lt (Nat.lt_of_lt_of_le E_b6.lt sq7)
 have g_qa7 : n0 ≤ qa7 := Nat.le_trans Z6 sq7
 have sz_qa7 : h0.size ≤ qa7 := Nat.le_trans KP.1 sq7
 have Z7 : n0 ≤ T7.heap.size := Nat.le_trans Z6 K7.1
 replace KP := KP.trans K7 (allS (Or.inr sz_b6) all0)
 replace F_this_heap := (((((F_this_heap.ext E2).keep K3 (ninS ne_this_b2 nin0)).other W4 (Or.inr (slot_ne (Or.inr (wm80 hw)) (Or.inr (wm53 hw)) (by decide) (t := (.object "java/util/PriorityQueue")) (t' := (.object "java/util/ArrayDeque")) (by decide) (by decide)))).other W5 (Or.inr (slot_ne (Or.inr (wm80 hw)) (Or.inr (wm55 hw)) (by decide) (t := (.object "java/util/PriorityQueue")) (t' := (.object "java/util/Comparator")) (by decide) (by decide)))).ext E6).keep K7 (ninS ne_this_b6 nin0)
 replace E_this := E_this.keep K7
 obtain ⟨T8, h8, X8, e8, W8, st8⟩ := putF X7 hx hZ hown (host := "") (Or.inl (wm79 hw)) Via.refl rfl F_this_heap E_this (Or.inr ⟨(wm80 hw), rfl, hnm⟩) (wm26 hw) (ty := (.object "java/util/PriorityQueue")) (by decide) rfl rfl (g := (mkF m 29 #[.val (.ref this), .val (.ref lam)] [(.ref b6), (.ref this)])) rfl rfl (hb hby d33_29)
 replace F_this_heap := F_this_heap.same W8
 have Z8 : n0 ≤ h8.size := Nat.le_trans Z7 (Nat.le_of_eq W8.size.symm)
 replace KP := KP.wr W8 (Or.inl (by simp))
 have N8 := Fr.snoc X8 N7 g_this
 refine Run.st st8 ?_
 show Run p e below s _ _ _ (T8.setTop (mkF m 32 #[.val (.ref this), .val (.ref lam)] []))
 replace E_this := E_this.wr W8
 replace F_this_run := (((F_this_run.other W5 (Or.inr (slot_ne (Or.inr (wm53 hw)) (Or.inr (wm55 hw)) (by decide) (t := (.object "java/util/ArrayDeque")) (t' := (.object "java/util/Comparator")) (by decide) (by decide)))).ext E6).keep K7 (ninS ne_this_b6 nin0)).other W8 (Or.inr (slot_ne (Or.inr (wm53 hw)) (Or.inr (wm80 hw)) (by decide) (t := (.object "java/util/ArrayDeque")) (t' := (.object "java/util/PriorityQueue")) (by decide) (by decide)))
 replace F_this_order := ((F_this_order.ext E6).keep K7 (ninS ne_this_b6 nin0)).other W8 (Or.inr (slot_ne (Or.inr (wm55 hw)) (Or.inr (wm80 hw)) (by decide) (t := (.object "java/util/Comparator")) (t' := (.object "java/util/PriorityQueue")) (by decide) (by decide)))
 replace E3 := (E3.keep K7).wr W8
 replace Fe3 := ((((Fe3.other W4 (Or.inl (Ne.symm ne_this_b2))).other W5 (Or.inl (Ne.symm ne_this_b2))).ext E6).keep K7 (ninS ne_b2_b6 nin0)).other W8 (Or.inl (Ne.symm ne_this_b2))
 replace Fh3 := ((((Fh3.other W4 (Or.inl (Ne.symm ne_this_b2))).other W5 (Or.inl (Ne.symm ne_this_b2))).ext E6).keep K7 (ninS ne_b2_b6 nin0)).other W8 (Or.inl (Ne.symm ne_this_b2))
 replace Ft3 := ((((Ft3.other W4 (Or.inl (Ne.symm ne_this_b2))).other W5 (Or.inl (Ne.symm ne_this_b2))).ext E6).keep K7 (ninS ne_b2_b6 nin0)).other W8 (Or.inl (Ne.symm ne_this_b2))
 replace Aa3 := (Aa3.keep K7 (ninS ne_ea3_b6 nin0)).other W8 (Ne.symm ne_this_ea3)
 replace Oa3 := ((((Oa3.wr W4).wr W5).ext E6).keep K7).wr W8
 replace E7 := E7.wr W8
 replace Fq7 := Fq7.other W8 (Or.inl (Ne.symm ne_this_b6))
 replace Fc7 := Fc7.other W8 (Or.inl (Ne.symm ne_this_b6))
 replace Fs7 := Fs7.other W8 (Or.inl (Ne.symm ne_this_b6))
 replace Fm7 := Fm7.other W8 (Or.inl (Ne.symm ne_this_b6))
 replace Aq7 := Aq7.other W8 (Ne.symm ne_this_qa7)
 replace Oq7 := Oq7.wr W8
 refine Run.retV X8 hx hlk e8 hret (hb hby d33_32) (by decide) (by decide) ?_
 exact ⟨_, _, _, _, rfl, N8, KP, sz_b2, sz_ea3, sz_b6, sz_qa7, E_this, F_this_run, F_this_order, F_this_heap, E3, Fe3, Fh3, Ft3, Aa3, Oa3, E7, Fq7, Fc7, Fs7, Fm7, Aq7, Oq7⟩
def own_QS (Z : State) (h : Heap) (n0 : Nat) (P P' : Addr → Prop) (lam : Addr) (cK : ClassId) (q : Addr) (k j : Nat) : Prop := ∃ (xs : List Addr) (tq : Addr) (rq : Addr) (hq : Addr) (ea : Addr) (qa : Addr) (wa : Addr) (da : Addr) (sa : Addr) (vs : List Value) (us : List Value) (ws : List Value) (ds : List Value) (ss : List Value) (hv_ : Int32) (tv : Int32) (pv : Int32) (mc : Int32) (rh : Int32) (rs : Int32) (hd : Nat) (tl : Nat) (rn : Nat) (sn : Nat) (fd : Value), Exa Z h q "com/example/framewheel/framewheel/core/PhaseQueue" ∧ Fld Z h q "com/example/framewheel/framewheel/core/PhaseQueue" "works" "[Lcom/example/framewheel/framewheel/core/FrameCallback;" (.ref wa) ∧ Fld Z h q "com/example/framewheel/framewheel/core/PhaseQueue" "dueTimes" "[J" (.ref da) ∧ Fld Z h q "com/example/framewheel/framewheel/core/PhaseQueue" "sequences" "[J" (.ref sa) ∧ Fld Z h q "com/example/framewheel/framewheel/core/PhaseQueue" "head" "I" (.int rh) ∧ Fld Z h q "com/example/framewheel/framewheel/core/PhaseQueue" "size" "I" (.int rs) ∧ Fld Z h q "com/example/framewheel/framewheel/core/PhaseQueue" "delayed" "Lcom/example/framewheel/framewheel/core/TimeOrderedQueue;" (.ref tq) ∧ Fld Z h q "com/example/framewheel/framewheel/core/PhaseQueue" "firstDelayed" "Lcom/example/framewheel/framewheel/core/PhaseQueue$Delayed;" fd ∧ Ars Z h wa (.object "com/example/framewheel/framewheel/core/FrameCallback") ws ∧ own_Ob Z h wa "com/example/framewheel/framewheel/core/FrameCallback" ∧ Ars Z h da .long ds ∧ Ars Z h sa .long ss ∧ Exa Z h tq "com/example/framewheel/framewheel/core/TimeOrderedQueue" ∧ Fld Z h tq "com/example/framewheel/framewheel/core/TimeOrderedQueue" "run" "Ljava/util/ArrayDeque;" (.ref rq) ∧ Fld Z h tq "com/example/framewheel/framewheel/core/TimeOrderedQueue" "order" "Ljava/util/Comparator;" (.ref lam) ∧ Fld Z h tq "com/example/framewheel/framewheel/core/TimeOrderedQueue" "heap" "Ljava/util/PriorityQueue;" (.ref hq) ∧ Exa Z h rq "java/util/ArrayDeque" ∧ Fld Z h rq "java/util/ArrayDeque" "elements" "[Ljava/lang/Object;" (.ref ea) ∧ Fld Z h rq "java/util/ArrayDeque" "head" "I" (.int hv_) ∧ Fld Z h rq "java/util/ArrayDeque" "tail" "I" (.int tv) ∧ Ars Z h ea (.object "java/lang/Object") vs ∧ own_Ob Z h ea "java/lang/Object" ∧ Exa Z h hq "java/util/PriorityQueue" ∧ Fld Z h hq "java/util/PriorityQueue" "queue" "[Ljava/lang/Object;" (.ref qa) ∧ Fld Z h hq "java/util/PriorityQueue" "comparator" "Ljava/util/Comparator;" (.ref lam) ∧ Fld Z h hq "java/util/PriorityQueue" "size" "I" (.int pv) ∧ Fld Z h hq "java/util/PriorityQueue" "modCount" "I" (.int mc) ∧ Ars Z h qa (.object "java/lang/Object") us ∧ own_Ob Z h qa "java/lang/Object" ∧ own_Fn Z h lam cK ∧ own_DX Z h P xs ∧ n0 ≤ q ∧ n0 ≤ rq ∧ n0 ≤ hq ∧ n0 ≤ ea ∧ n0 ≤ qa ∧ n0 ≤ wa ∧ n0 ≤ da ∧ n0 ≤ sa ∧ wa ≠ da ∧ wa ≠ sa ∧ da ≠ sa ∧ own_rv xs vs hv_ tv hd tl ∧ own_hv xs us pv ∧ own_fdv xs fd k ∧ (tl - hd) + pv.toInt.toNat = k ∧ tl ≤ j ∧ k ≤ j ∧ own_ring P' ws rh rs rn sn j ∧ own_lgs ds ∧ own_lgs ss
theorem d34_0 : decode prog_9_method_4_code 0 = .ok (.aload_n 0, 1) := by decide +kernel
theorem d34_1 : decode prog_9_method_4_code 1 = .ok (.getfield 60, 3) := by decide +kernel
theorem d34_4 : decode prog_9_method_4_code 4 = .ok (.ifnull 7, 3) := by decide +kernel
theorem d34_7 : decode prog_9_method_4_code 7 = .ok (.iconst 1, 1) := by decide +kernel
theorem d34_8 : decode prog_9_method_4_code 8 = .ok (.goto 4, 3) := by decide +kernel
theorem d34_11 : decode prog_9_method_4_code 11 = .ok (.iconst 0, 1) := by decide +kernel
theorem d34_12 : decode prog_9_method_4_code 12 = .ok (.ireturn, 1) := by decide +kernel
theorem ef_c_has (m : MethodId) (this : Addr) : entryFrame m #[(.ref this)] 1 = mkF m 0 #[.val (.ref this)] [] := by first | (simp [entryFrame, mkF, argsToLocals, Value.category]; done) | rfl
theorem wm88 {a0 : Array Value} {Z : State} (hw : ∀ d ∈ tables_1, d.before a0 Z = true) : (Jvm.Cond.fieldLink "com/example/framewheel/framewheel/core/PhaseQueue" (60 : Nat) "com/example/framewheel/framewheel/core/PhaseQueue" "firstDelayed" "Lcom/example/framewheel/framewheel/core/PhaseQueue$Delayed;").before a0 Z = true := hw _ (List.mem_of_getElem? (i := 88) rfl)
set_option maxRecDepth 65536 in
set_option maxHeartbeats 40000000 in
theorem c_has (l : Launch) (Z : State) (a0 : Array Value) (hw : ∀ d ∈ tables_1, d.before a0 Z = true) (this : Addr) (h0 : Heap) (n0 : Nat) (Z0 : n0 ≤ h0.size) (P : Addr → Prop) (P' : Addr → Prop) (lam : Addr) (cK : ClassId) (k : Nat) (j : Nat) (hQ : own_QS Z h0 n0 P P' lam cK this k j) :
  Ctr l Z (⟨"com/example/framewheel/framewheel/core/PhaseQueue", "hasDelayed", "()Z"⟩ : MethodName) prog_9_method_4_code 1 (some .boolean) ({ frames := 0, cells := 0, slots := 0, locals := 0 } : Room) #[(.ref this)] h0 (PureI h0 n0 (own_b k)) := by
 refine Ctr.of (plainFor_of_name pn_2) (fun m => ef_c_has m this) ?_
 intro p e s m below meth c T0 hx hby hml hown hnm hret hlk hH e0 X0 hnd
 have hZ := hH.wide
 have N0 := Fr.nil n0
 replace hown : s.vm.findClass "com/example/framewheel/framewheel/core/PhaseQueue" = some m.cls := hown
 replace hml : c.maxLocals = 1 := hml
 obtain ⟨xs, tq, rq, hq, ea, qa, wa, da, sa, vs, us, ws, ds, ss, hv_, tv, pv, mc, rh, rs, hd, tl, rn, sn, fd, E_this, F_this_works, F_this_dueTimes, F_this_sequences, F_this_head, F_this_size, F_this_delayed, F_this_firstDelayed, A_wa, O_wa, A_da, A_sa, E_tq, F_tq_run, F_tq_order, F_tq_heap, E_rq, F_rq_elements, F_rq_head, F_rq_tail, A_ea, O_ea, E_hq, F_hq_queue, F_hq_comparator, F_hq_size, F_hq_modCount, A_qa, O_qa, O_lam, D_xs, g_this, g_rq, g_hq, g_ea, g_qa, g_wa, g_da, g_sa, ne_wa_da, ne_wa_sa, ne_da_sa, hr, hh, hfd, hk, htl, hkj, hg, hds, hss⟩ := hQ
 rcases hfd with ⟨rfl, hk0⟩ | ⟨x, hx_, rfl, hk0⟩
 ·skip
  refine Run.x_aloadN (q := 1) X0 hx (hb hby d34_0) rfl rfl rfl ?_
  refine Run.z_getF (q := 4) X0 hx hZ e0 hown (wm88 hw) F_this_firstDelayed (hb hby d34_1) rfl fun T1 X1 e1 => ?_
  refine Run.st (B := T1.setTop (mkF m 11 #[.val (.ref this)] [])) (fun t kt => XS.ifnullYes X1.here hx rfl (pc0 := 4) (pc' := 11) rfl (hb hby d34_4) rfl (by decide) (by decide) kt) ?_
  refine Run.x_iconst (q := 12) X1 hx (hb hby d34_11) (z := (0 : Int32)) rfl rfl ?_
  refine Run.retN X1 hx hlk e1 (t := .boolean) hret (by simp) (z' := (0 : Int32)) (by decide) (hb hby d34_12) (by decide) (by decide) ?_
  exact PureI.mk (by exact (if_pos hk0).symm) N0
 ·skip
  refine Run.x_aloadN (q := 1) X0 hx (hb hby d34_0) rfl rfl rfl ?_
  refine Run.z_getF (q := 4) X0 hx hZ e0 hown (wm88 hw) F_this_firstDelayed (hb hby d34_1) rfl fun T2 X2 e2 => ?_
  refine Run.st (B := T2.setTop (mkF m 7 #[.val (.ref this)] [])) (fun t kt => XS.ifnullNo X2.here hx rfl (hb hby d34_4) rfl kt) ?_
  refine Run.x_iconst (q := 8) X2 hx (hb hby d34_7) (z := (1 : Int32)) rfl rfl ?_
  refine Run.x_goto (q := 12) X2 hx (hb hby d34_8) (by decide) (by decide) ?_
  refine Run.retN X2 hx hlk e2 (t := .boolean) hret (by simp) (z' := (1 : Int32)) (by decide) (hb hby d34_12) (by decide) (by decide) ?_
  exact PureI.mk (by exact (if_neg (by omega)).symm) N0
theorem d35_0 : decode prog_9_method_9_code 0 = .ok (.aload_n 0, 1) := by decide +kernel
theorem d35_1 : decode prog_9_method_9_code 1 = .ok (.getfield 75, 3) := by decide +kernel
theorem d35_4 : decode prog_9_method_9_code 4 = .ok (.iload_n 1, 1) := by decide +kernel
theorem d35_5 : decode prog_9_method_9_code 5 = .ok (.iadd, 1) := by decide +kernel
theorem d35_6 : decode prog_9_method_9_code 6 = .ok (.aload_n 0, 1) := by decide +kernel
theorem d35_7 : decode prog_9_method_9_code 7 = .ok (.getfield 11, 3) := by decide +kernel
theorem d35_10 : decode prog_9_method_9_code 10 = .ok (.arraylength, 1) := by decide +kernel
theorem d35_11 : decode prog_9_method_9_code 11 = .ok (.iconst 1, 1) := by decide +kernel
theorem d35_12 : decode prog_9_method_9_code 12 = .ok (.isub, 1) := by decide +kernel
theorem d35_13 : decode prog_9_method_9_code 13 = .ok (.iand, 1) := by decide +kernel
theorem d35_14 : decode prog_9_method_9_code 14 = .ok (.ireturn, 1) := by decide +kernel
theorem ef_c_slot (m : MethodId) (this : Addr) (i : Int32) : entryFrame m #[(.ref this), (.int i)] 2 = mkF m 0 #[.val (.ref this), .val (.int i)] [] := by first | (simp [entryFrame, mkF, argsToLocals, Value.category]; done) | rfl
theorem wm101 {a0 : Array Value} {Z : State} (hw : ∀ d ∈ tables_1, d.before a0 Z = true) : (Jvm.Cond.fieldLink "com/example/framewheel/framewheel/core/PhaseQueue" (75 : Nat) "com/example/framewheel/framewheel/core/PhaseQueue" "head" "I").before a0 Z = true := hw _ (List.mem_of_getElem? (i := 101) rfl)
theorem wm18 {a0 : Array Value} {Z : State} (hw : ∀ d ∈ tables_1, d.before a0 Z = true) : (Jvm.Cond.fieldLink "com/example/framewheel/framewheel/core/PhaseQueue" (11 : Nat) "com/example/framewheel/framewheel/core/PhaseQueue" "works" "[Lcom/example/framewheel/framewheel/core/FrameCallback;").before a0 Z = true := hw _ (List.mem_of_getElem? (i := 18) rfl)
set_option maxRecDepth 65536 in
set_option maxHeartbeats 40000000 in
theorem c_slot (l : Launch) (Z : State) (a0 : Array Value) (hw : ∀ d ∈ tables_1, d.before a0 Z = true) (this : Addr) (i : Int32) (h0 : Heap) (n0 : Nat) (Z0 : n0 ≤ h0.size) (wa : Addr) (ws : List Value) (rh : Int32) (z : Int32) (E_this : Exa Z h0 this "com/example/framewheel/framewheel/core/PhaseQueue") (F_this_head : Fld Z h0 this "com/example/framewheel/framewheel/core/PhaseQueue" "head" "I" (.int rh)) (F_this_works : Fld Z h0 this "com/example/framewheel/framewheel/core/PhaseQueue" "works" "[Lcom/example/framewheel/framewheel/core/FrameCallback;" (.ref wa)) (A_wa : Ars Z h0 wa (.object "com/example/framewheel/framewheel/core/FrameCallback") ws) (hlen : ws.length = 16) (hz : ((rh + i) &&& (15 : Int32)) = z) :
  Ctr l Z (⟨"com/example/framewheel/framewheel/core/PhaseQueue", "slot", "(I)I"⟩ : MethodName) prog_9_method_9_code 2 (some .int) ({ frames := 0, cells := 0, slots := 0, locals := 0 } : Room) #[(.ref this), (.int i)] h0 (PureI h0 n0 z) := by
 refine Ctr.of (plainFor_of_name pn_2) (fun m => ef_c_slot m this i) ?_
 intro p e s m below meth c T0 hx hby hml hown hnm hret hlk hH e0 X0 hnd
 have hZ := hH.wide
 have N0 := Fr.nil n0
 replace hown : s.vm.findClass "com/example/framewheel/framewheel/core/PhaseQueue" = some m.cls := hown
 replace hml : c.maxLocals = 2 := hml
 refine Run.x_aloadN (q := 1) X0 hx (hb hby d35_0) rfl rfl rfl ?_
 refine Run.z_getF (q := 4) X0 hx hZ e0 hown (wm101 hw) F_this_head (hb hby d35_1) rfl fun T1 X1 e1 => ?_
 refine Run.x_iloadN (q := 5) X1 hx (hb hby d35_4) rfl rfl ?_
 refine Run.x_iadd (q := 6) X1 hx (hb hby d35_5) rfl rfl ?_
 refine Run.x_aloadN (q := 7) X1 hx (hb hby d35_6) rfl rfl rfl ?_
 refine Run.z_getF (q := 10) X1 hx hZ e1 hown (wm18 hw) F_this_works (hb hby d35_7) rfl fun T2 X2 e2 => ?_
 refine Run.y_alen (q := 11) X2 hx hZ e2 A_wa (z := (16 : Int32)) (own_len16 hlen) (hb hby d35_10) rfl ?_
 refine Run.x_iconst (q := 12) X2 hx (hb hby d35_11) (z := (1 : Int32)) rfl rfl ?_
 refine Run.x_isub (q := 13) X2 hx (hb hby d35_12) (z := (15 : Int32)) (by decide) rfl ?_
 refine Run.x_iand (q := 14) X2 hx (hb hby d35_13) rfl rfl ?_
 refine Run.retI X2 hx hlk e2 hret (hb hby d35_14) (by decide) (by decide) ?_
 exact PureI.mk (by exact hz) N0
theorem d36_0 : decode prog_9_method_3_code 0 = .ok (.aload 6, 2) := by decide +kernel
theorem d36_2 : decode prog_9_method_3_code 2 = .ok (.ifnull 40, 3) := by decide +kernel
theorem d36_5 : decode prog_9_method_3_code 5 = .ok (.aload_n 0, 1) := by decide +kernel
theorem d36_6 : decode prog_9_method_3_code 6 = .ok (.getfield 31, 3) := by decide +kernel
theorem d36_9 : decode prog_9_method_3_code 9 = .ok (.new 36, 3) := by decide +kernel
theorem d36_12 : decode prog_9_method_3_code 12 = .ok (.dup, 1) := by decide +kernel
theorem d36_13 : decode prog_9_method_3_code 13 = .ok (.aload_n 1, 1) := by decide +kernel
theorem d36_14 : decode prog_9_method_3_code 14 = .ok (.lload_n 2, 1) := by decide +kernel
theorem d36_15 : decode prog_9_method_3_code 15 = .ok (.lload 4, 2) := by decide +kernel
theorem d36_17 : decode prog_9_method_3_code 17 = .ok (.aload 6, 2) := by decide +kernel
theorem d36_19 : decode prog_9_method_3_code 19 = .ok (.invokespecial 49, 3) := by decide +kernel
theorem d36_22 : decode prog_9_method_3_code 22 = .ok (.invokevirtual 52, 3) := by decide +kernel
theorem d36_25 : decode prog_9_method_3_code 25 = .ok (.aload_n 0, 1) := by decide +kernel
theorem d36_26 : decode prog_9_method_3_code 26 = .ok (.aload_n 0, 1) := by decide +kernel
theorem d36_27 : decode prog_9_method_3_code 27 = .ok (.getfield 31, 3) := by decide +kernel
theorem d36_30 : decode prog_9_method_3_code 30 = .ok (.invokevirtual 56, 3) := by decide +kernel
theorem d36_33 : decode prog_9_method_3_code 33 = .ok (.checkcast 36, 3) := by decide +kernel
theorem d36_36 : decode prog_9_method_3_code 36 = .ok (.putfield 60, 3) := by decide +kernel
theorem d36_39 : decode prog_9_method_3_code 39 = .ok (.goto 64, 3) := by decide +kernel
theorem d36_42 : decode prog_9_method_3_code 42 = .ok (.aload_n 0, 1) := by decide +kernel
theorem d36_43 : decode prog_9_method_3_code 43 = .ok (.getfield 64, 3) := by decide +kernel
theorem d36_46 : decode prog_9_method_3_code 46 = .ok (.aload_n 0, 1) := by decide +kernel
theorem d36_47 : decode prog_9_method_3_code 47 = .ok (.getfield 11, 3) := by decide +kernel
theorem d36_50 : decode prog_9_method_3_code 50 = .ok (.arraylength, 1) := by decide +kernel
theorem d36_51 : decode prog_9_method_3_code 51 = .ok (.if_icmp .ne 7, 3) := by decide +kernel
theorem d36_54 : decode prog_9_method_3_code 54 = .ok (.aload_n 0, 1) := by decide +kernel
theorem d36_55 : decode prog_9_method_3_code 55 = .ok (.invokevirtual 68, 3) := by decide +kernel
theorem d36_58 : decode prog_9_method_3_code 58 = .ok (.aload_n 0, 1) := by decide +kernel
theorem d36_59 : decode prog_9_method_3_code 59 = .ok (.aload_n 0, 1) := by decide +kernel
theorem d36_60 : decode prog_9_method_3_code 60 = .ok (.getfield 64, 3) := by decide +kernel
theorem d36_63 : decode prog_9_method_3_code 63 = .ok (.invokevirtual 71, 3) := by decide +kernel
theorem d36_66 : decode prog_9_method_3_code 66 = .ok (.istore 7, 2) := by decide +kernel
theorem d36_68 : decode prog_9_method_3_code 68 = .ok (.aload_n 0, 1) := by decide +kernel
theorem d36_69 : decode prog_9_method_3_code 69 = .ok (.getfield 11, 3) := by decide +kernel
theorem d36_72 : decode prog_9_method_3_code 72 = .ok (.iload 7, 2) := by decide +kernel
theorem d36_74 : decode prog_9_method_3_code 74 = .ok (.aload_n 1, 1) := by decide +kernel
theorem d36_75 : decode prog_9_method_3_code 75 = .ok (.aastore, 1) := by decide +kernel
theorem d36_76 : decode prog_9_method_3_code 76 = .ok (.aload_n 0, 1) := by decide +kernel
theorem d36_77 : decode prog_9_method_3_code 77 = .ok (.getfield 15, 3) := by decide +kernel
theorem d36_80 : decode prog_9_method_3_code 80 = .ok (.iload 7, 2) := by decide +kernel
theorem d36_82 : decode prog_9_method_3_code 82 = .ok (.lload_n 2, 1) := by decide +kernel
theorem d36_83 : decode prog_9_method_3_code 83 = .ok (.lastore, 1) := by decide +kernel
theorem d36_84 : decode prog_9_method_3_code 84 = .ok (.aload_n 0, 1) := by decide +kernel
theorem d36_85 : decode prog_9_method_3_code 85 = .ok (.getfield 19, 3) := by decide +kernel
theorem d36_88 : decode prog_9_method_3_code 88 = .ok (.iload 7, 2) := by decide +kernel
theorem d36_90 : decode prog_9_method_3_code 90 = .ok (.lload 4, 2) := by decide +kernel
theorem d36_92 : decode prog_9_method_3_code 92 = .ok (.lastore, 1) := by decide +kernel
theorem d36_93 : decode prog_9_method_3_code 93 = .ok (.aload_n 0, 1) := by decide +kernel
theorem d36_94 : decode prog_9_method_3_code 94 = .ok (.dup, 1) := by decide +kernel
theorem d36_95 : decode prog_9_method_3_code 95 = .ok (.getfield 64, 3) := by decide +kernel
theorem d36_98 : decode prog_9_method_3_code 98 = .ok (.iconst 1, 1) := by decide +kernel
theorem d36_99 : decode prog_9_method_3_code 99 = .ok (.iadd, 1) := by decide +kernel
theorem d36_100 : decode prog_9_method_3_code 100 = .ok (.putfield 64, 3) := by decide +kernel
theorem d36_103 : decode prog_9_method_3_code 103 = .ok (.return_, 1) := by decide +kernel
theorem ef_c_adn (m : MethodId) (this : Addr) (w : Addr) (d : Int64) (sq : Int64) : entryFrame m #[(.ref this), (.ref w), (.long d), (.long sq), .null] 8 = mkF m 0 #[.val (.ref this), .val (.ref w), .val (.long d), .second, .val (.long sq), .second, .val .null, .unset] [] := by first | (simp [entryFrame, mkF, argsToLocals, Value.category]; done) | rfl
theorem wm10 {a0 : Array Value} {Z : State} (hw : ∀ d ∈ tables_1, d.before a0 Z = true) : (Jvm.Cond.instantiable "com/example/framewheel/framewheel/core/PhaseQueue" (7 : Nat)).before a0 Z = true := hw _ (List.mem_of_getElem? (i := 10) rfl)
theorem wm95 {a0 : Array Value} {Z : State} (hw : ∀ d ∈ tables_1, d.before a0 Z = true) : (Jvm.Cond.fieldLink "com/example/framewheel/framewheel/core/PhaseQueue" (64 : Nat) "com/example/framewheel/framewheel/core/PhaseQueue" "size" "I").before a0 Z = true := hw _ (List.mem_of_getElem? (i := 95) rfl)
theorem wm97 {a0 : Array Value} {Z : State} (hw : ∀ d ∈ tables_1, d.before a0 Z = true) : (Jvm.Cond.methodLink "com/example/framewheel/framewheel/core/PhaseQueue" (71 : Nat) ({ cls := "com/example/framewheel/framewheel/core/PhaseQueue", name := "slot", desc := "(I)I" } : Jvm.MethodName)).before a0 Z = true := hw _ (List.mem_of_getElem? (i := 97) rfl)
theorem wm100 {a0 : Array Value} {Z : State} (hw : ∀ d ∈ tables_1, d.before a0 Z = true) : (Jvm.Cond.code ({ cls := "com/example/framewheel/framewheel/core/PhaseQueue", name := "slot", desc := "(I)I" } : Jvm.MethodName) prog_9_method_9_code (2 : Nat) (Option.some Jvm.ClassFile.FieldType.int)).before a0 Z = true := hw _ (List.mem_of_getElem? (i := 100) rfl)
theorem pd_13 : parseMethodDescriptor "(I)I" = some ⟨[.int], some .int⟩ := by decide +kernel
theorem wm98 {a0 : Array Value} {Z : State} (hw : ∀ d ∈ tables_1, d.before a0 Z = true) : (Jvm.Cond.instanceMethod ({ cls := "com/example/framewheel/framewheel/core/PhaseQueue", name := "slot", desc := "(I)I" } : Jvm.MethodName)).before a0 Z = true := hw _ (List.mem_of_getElem? (i := 98) rfl)
theorem wm99 {a0 : Array Value} {Z : State} (hw : ∀ d ∈ tables_1, d.before a0 Z = true) : (Jvm.Cond.privateMethod ({ cls := "com/example/framewheel/framewheel/core/PhaseQueue", name := "slot", desc := "(I)I" } : Jvm.MethodName)).before a0 Z = true := hw _ (List.mem_of_getElem? (i := 99) rfl)
theorem wm86 {a0 : Array Value} {Z : State} (hw : ∀ d ∈ tables_1, d.before a0 Z = true) : (Jvm.Cond.selects "com/example/framewheel/framewheel/core/PhaseQueue" ({ cls := "com/example/framewheel/framewheel/core/PhaseQueue", name := "hasDelayed", desc := "()Z" } : Jvm.MethodName) ({ cls := "com/example/framewheel/framewheel/core/PhaseQueue", name := "hasDelayed", desc := "()Z" } : Jvm.MethodName)).before a0 Z = true := hw _ (List.mem_of_getElem? (i := 86) rfl)
theorem wm103 {a0 : Array Value} {Z : State} (hw : ∀ d ∈ tables_1, d.before a0 Z = true) : (Jvm.Cond.castable "com/example/framewheel/framewheel/core/PhaseQueueHasDelayedPinLaw" "com/example/framewheel/framewheel/core/FrameCallback").before a0 Z = true := hw _ (List.mem_of_getElem? (i := 103) rfl)
theorem wm21 {a0 : Array Value} {Z : State} (hw : ∀ d ∈ tables_1, d.before a0 Z = true) : (Jvm.Cond.fieldLink "com/example/framewheel/framewheel/core/PhaseQueue" (15 : Nat) "com/example/framewheel/framewheel/core/PhaseQueue" "dueTimes" "[J").before a0 Z = true := hw _ (List.mem_of_getElem? (i := 21) rfl)
theorem wm23 {a0 : Array Value} {Z : State} (hw : ∀ d ∈ tables_1, d.before a0 Z = true) : (Jvm.Cond.fieldLink "com/example/framewheel/framewheel/core/PhaseQueue" (19 : Nat) "com/example/framewheel/framewheel/core/PhaseQueue" "sequences" "[J").before a0 Z = true := hw _ (List.mem_of_getElem? (i := 23) rfl)
theorem wm96 {a0 : Array Value} {Z : State} (hw : ∀ d ∈ tables_1, d.before a0 Z = true) : (Jvm.Cond.lays "com/example/framewheel/framewheel/core/PhaseQueue" "com/example/framewheel/framewheel/core/PhaseQueue" "size" "I").before a0 Z = true := hw _ (List.mem_of_getElem? (i := 96) rfl)
theorem wm19 {a0 : Array Value} {Z : State} (hw : ∀ d ∈ tables_1, d.before a0 Z = true) : (Jvm.Cond.lays "com/example/framewheel/framewheel/core/PhaseQueue" "com/example/framewheel/framewheel/core/PhaseQueue" "works" "[Lcom/example/framewheel/framewheel/core/FrameCallback;").before a0 Z = true := hw _ (List.mem_of_getElem? (i := 19) rfl)
theorem wm22 {a0 : Array Value} {Z : State} (hw : ∀ d ∈ tables_1, d.before a0 Z = true) : (Jvm.Cond.lays "com/example/framewheel/framewheel/core/PhaseQueue" "com/example/framewheel/framewheel/core/PhaseQueue" "dueTimes" "[J").before a0 Z = true := hw _ (List.mem_of_getElem? (i := 22) rfl)
theorem wm24 {a0 : Array Value} {Z : State} (hw : ∀ d ∈ tables_1, d.before a0 Z = true) : (Jvm.Cond.lays "com/example/framewheel/framewheel/core/PhaseQueue" "com/example/framewheel/framewheel/core/PhaseQueue" "sequences" "[J").before a0 Z = true := hw _ (List.mem_of_getElem? (i := 24) rfl)
theorem wm102 {a0 : Array Value} {Z : State} (hw : ∀ d ∈ tables_1, d.before a0 Z = true) : (Jvm.Cond.lays "com/example/framewheel/framewheel/core/PhaseQueue" "com/example/framewheel/framewheel/core/PhaseQueue" "head" "I").before a0 Z = true := hw _ (List.mem_of_getElem? (i := 102) rfl)
theorem wm82 {a0 : Array Value} {Z : State} (hw : ∀ d ∈ tables_1, d.before a0 Z = true) : (Jvm.Cond.laysFinal "com/example/framewheel/framewheel/core/PhaseQueue" "com/example/framewheel/framewheel/core/PhaseQueue" "delayed" "Lcom/example/framewheel/framewheel/core/TimeOrderedQueue;").before a0 Z = true := hw _ (List.mem_of_getElem? (i := 82) rfl)
theorem wm89 {a0 : Array Value} {Z : State} (hw : ∀ d ∈ tables_1, d.before a0 Z = true) : (Jvm.Cond.lays "com/example/framewheel/framewheel/core/PhaseQueue" "com/example/framewheel/framewheel/core/PhaseQueue" "firstDelayed" "Lcom/example/framewheel/framewheel/core/PhaseQueue$Delayed;").before a0 Z = true := hw _ (List.mem_of_getElem? (i := 89) rfl)
set_option maxRecDepth 65536 in
set_option maxHeartbeats 40000000 in
theorem c_adn (l : Launch) (Z : State) (a0 : Array Value) (hw : ∀ d ∈ tables_1, d.before a0 Z = true) (this : Addr) (w : Addr) (d : Int64) (sq : Int64) (h0 : Heap) (n0 : Nat) (Z0 : n0 ≤ h0.size) (P : Addr → Prop) (P' : Addr → Prop) (lam : Addr) (cK : ClassId) (k : Nat) (j : Nat) (E_w : Exa Z h0 w "com/example/framewheel/framewheel/core/PhaseQueueHasDelayedPinLaw") (hQ : own_QS Z h0 n0 P P' lam cK this k j) (hj : j ≤ 2) (hPw : P' w) :
  Ctr l Z (⟨"com/example/framewheel/framewheel/core/PhaseQueue", "add", "(Lcom/example/framewheel/framewheel/core/FrameCallback;JJLjava/lang/Runnable;)V"⟩ : MethodName) prog_9_method_3_code 8 none ({ frames := 1, cells := 0, slots := 0, locals := 13 } : Room) #[(.ref this), (.ref w), (.long d), (.long sq), .null] h0 (fun v h L => v = none ∧ Fr n0 L ∧ (∃ ws, Keep h0 h ws) ∧ own_QS Z h n0 P P' lam cK this k (j + 1)) := by
 refine Ctr.of (plainFor_of_name pn_2) (fun m => ef_c_adn m this w d sq) ?_
 intro p e s m below meth c T0 hx hby hml hown hnm hret hlk hH e0 X0 hnd
 have hZ := hH.wide
 have N0 := Fr.nil n0
 replace hown : s.vm.findClass "com/example/framewheel/framewheel/core/PhaseQueue" = some m.cls := hown
 replace hml : c.maxLocals = 8 := hml
 obtain ⟨xs, tq, rq, hq, ea, qa, wa, da, sa, vs, us, ws, ds, ss, hv_, tv, pv, mc, rh, rs, hd, tl, rn, sn, fd, E_this, F_this_works, F_this_dueTimes, F_this_sequences, F_this_head, F_this_size, F_this_delayed, F_this_firstDelayed, A_wa, O_wa, A_da, A_sa, E_tq, F_tq_run, F_tq_order, F_tq_heap, E_rq, F_rq_elements, F_rq_head, F_rq_tail, A_ea, O_ea, E_hq, F_hq_queue, F_hq_comparator, F_hq_size, F_hq_modCount, A_qa, O_qa, O_lam, D_xs, g_this, g_rq, g_hq, g_ea, g_qa, g_wa, g_da, g_sa, ne_wa_da, ne_wa_sa, ne_da_sa, hr, hh, hfd, hk, htl, hkj, hg, hds, hss⟩ := hQ
 have lv : vs.length = 17 := hr.2.2.2.2.1
 have lu : us.length = 11 := own_hvlen hh
 have lw : ws.length = 16 := hg.2.2.2.1
 have ld : ds.length = 16 := hds.1
 have ls : ss.length = 16 := hss.1
 have ne_this_tq : this ≠ tq := Exa.ne E_this E_tq (by decide)
 have ne_this_rq : this ≠ rq := Exa.ne E_this E_rq (by decide)
 have ne_this_hq : this ≠ hq := Exa.ne E_this E_hq (by decide)
 have ne_this_ea : this ≠ ea := own_neA E_this A_ea (wm10 hw)
 have ne_this_qa : this ≠ qa := own_neA E_this A_qa (wm10 hw)
 have ne_this_wa : this ≠ wa := own_neA E_this A_wa (wm10 hw)
 have ne_this_da : this ≠ da := own_neA E_this A_da (wm10 hw)
 have ne_this_sa : this ≠ sa := own_neA E_this A_sa (wm10 hw)
 have ne_tq_rq : tq ≠ rq := Exa.ne E_tq E_rq (by decide)
 have ne_tq_hq : tq ≠ hq := Exa.ne E_tq E_hq (by decide)
 have ne_tq_ea : tq ≠ ea := own_neA E_tq A_ea (wm26 hw)
 have ne_tq_qa : tq ≠ qa := own_neA E_tq A_qa (wm26 hw)
 have ne_tq_wa : tq ≠ wa := own_neA E_tq A_wa (wm26 hw)
 have ne_tq_da : tq ≠ da := own_neA E_tq A_da (wm26 hw)
 have ne_tq_sa : tq ≠ sa := own_neA E_tq A_sa (wm26 hw)
 have ne_rq_hq : rq ≠ hq := Exa.ne E_rq E_hq (by decide)
 have ne_rq_ea : rq ≠ ea := own_neA E_rq A_ea (wm36 hw)
 have ne_rq_qa : rq ≠ qa := own_neA E_rq A_qa (wm36 hw)
 have ne_rq_wa : rq ≠ wa := own_neA E_rq A_wa (wm36 hw)
 have ne_rq_da : rq ≠ da := own_neA E_rq A_da (wm36 hw)
 have ne_rq_sa : rq ≠ sa := own_neA E_rq A_sa (wm36 hw)
 have ne_hq_ea : hq ≠ ea := own_neA E_hq A_ea (wm57 hw)
 have ne_hq_qa : hq ≠ qa := own_neA E_hq A_qa (wm57 hw)
 have ne_hq_wa : hq ≠ wa := own_neA E_hq A_wa (wm57 hw)
 have ne_hq_da : hq ≠ da := own_neA E_hq A_da (wm57 hw)
 have ne_hq_sa : hq ≠ sa := own_neA E_hq A_sa (wm57 hw)
 have ne_ea_qa : ea ≠ qa := own_neT A_ea A_qa (by omega)
 have ne_ea_wa : ea ≠ wa := own_neT A_ea A_wa (by omega)
 have ne_ea_da : ea ≠ da := own_neT A_ea A_da (by omega)
 have ne_ea_sa : ea ≠ sa := own_neT A_ea A_sa (by omega)
 have ne_qa_wa : qa ≠ wa := own_neT A_qa A_wa (by omega)
 have ne_qa_da : qa ≠ da := own_neT A_qa A_da (by omega)
 have ne_qa_sa : qa ≠ sa := own_neT A_qa A_sa (by omega)
 have ne_xs_this : this ∉ xs := D_xs.neE E_this (by decide)
 have ne_xs_tq : tq ∉ xs := D_xs.neE E_tq (by decide)
 have ne_xs_rq : rq ∉ xs := D_xs.neE E_rq (by decide)
 have ne_xs_hq : hq ∉ xs := D_xs.neE E_hq (by decide)
 have ne_xs_ea : ea ∉ xs := D_xs.neA A_ea (wm114 hw)
 have ne_xs_qa : qa ∉ xs := D_xs.neA A_qa (wm114 hw)
 have ne_xs_wa : wa ∉ xs := D_xs.neA A_wa (wm114 hw)
 have ne_xs_da : da ∉ xs := D_xs.neA A_da (wm114 hw)
 have ne_xs_sa : sa ∉ xs := D_xs.neA A_sa (wm114 hw)
 have KP := Keep.refl h0 [this, wa, da, sa]
 refine Run.x_aload (q := 2) X0 hx (hb hby d36_0) rfl rfl rfl ?_
 refine Run.st (B := T0.setTop (mkF m 42 #[.val (.ref this), .val (.ref w), .val (.long d), .second, .val (.long sq), .second, .val .null, .unset] [])) (fun t kt => XS.ifnullYes X0.here hx rfl (pc0 := 2) (pc' := 42) rfl (hb hby d36_2) rfl (by decide) (by decide) kt) ?_
 refine Run.x_aloadN (q := 43) X0 hx (hb hby d36_42) rfl rfl rfl ?_
 refine Run.z_getF (q := 46) X0 hx hZ e0 hown (wm95 hw) F_this_size (hb hby d36_43) rfl fun T1 X1 e1 => ?_
 refine Run.x_aloadN (q := 47) X1 hx (hb hby d36_46) rfl rfl rfl ?_
 refine Run.z_getF (q := 50) X1 hx hZ e1 hown (wm18 hw) F_this_works (hb hby d36_47) rfl fun T2 X2 e2 => ?_
 refine Run.y_alen (q := 51) X2 hx hZ e2 A_wa (z := (16 : Int32)) (own_len16 lw) (hb hby d36_50) rfl ?_
 refine Run.x_icmpYes (q := 58) X2 hx (hb hby d36_51) (feq (own_s16 hg.2.1 (by have := hg.2.2.1; omega))).2 (by decide) (by decide) ?_
 refine Run.x_aloadN (q := 59) X2 hx (hb hby d36_58) rfl rfl rfl ?_
 refine Run.x_aloadN (q := 60) X2 hx (hb hby d36_59) rfl rfl rfl ?_
 refine Run.z_getF (q := 63) X2 hx hZ e2 hown (wm95 hw) F_this_size (hb hby d36_60) rfl fun T3 X3 e3 => ?_
 obtain ⟨zs, hzs, hzi⟩ := own_slot hg.1 hg.2.1 (by have := hg.2.2.1; omega)
 refine own_callP X3 hx hH e3 (y := (⟨"com/example/framewheel/framewheel/core/PhaseQueue", "slot", "(I)I"⟩ : MethodName)) (y2 := (⟨"com/example/framewheel/framewheel/core/PhaseQueue", "hasDelayed", "()Z"⟩ : MethodName)) hown (wm97 hw) (wm98 hw) (wm99 hw) (wm86 hw) rfl (wm11 hw) (wm100 hw) (by decide) (a := this) E_this (argsL := [(.int rs)]) (rest := []) (c_slot l Z a0 hw this rs h0 n0 Z0 wa ws rh zs E_this F_this_head F_this_works A_wa lw hzs) pd_13 rfl (by rw [hml]; rfl) (W := 0) rfl (by decide) (by decide) (by decide) (by decide) (hb hby d36_63) rfl ?_
 intro T4 v4 L4 X4 q4
 obtain ⟨rfl, M4, e4⟩ := q4
 have N4 := Fr.app N0 M4
 show Run p e below s _ _ _ (T4.setTop (mkF m 66 #[.val (.ref this), .val (.ref w), .val (.long d), .second, .val (.long sq), .second, .val .null, .unset] [(.int zs)]))
 refine Run.x_istore (q := 68) X4 hx #[.val (.ref this), .val (.ref w), .val (.long d), .second, .val (.long sq), .second, .val .null, .val (.int zs)] (hb hby d36_66) rfl rfl ?_
 refine Run.x_aloadN (q := 69) X4 hx (hb hby d36_68) rfl rfl rfl ?_
 refine Run.z_getF (q := 72) X4 hx hZ e4 hown (wm18 hw) F_this_works (hb hby d36_69) rfl fun T5 X5 e5 => ?_
 refine Run.x_iload (q := 74) X5 hx (hb hby d36_72) rfl rfl ?_
 refine Run.x_aloadN (q := 75) X5 hx (hb hby d36_74) rfl rfl rfl ?_
 refine Run.y_stR (q := 76) X5 hx hZ e5 A_wa (i := (rn + sn)) hzi (by have := hg.2.2.1; omega) rfl (own_stoO A_wa O_wa (Ins.of_exa E_w (wm103 hw))) (hb hby d36_75) rfl fun T6 h6 X6 e6 W6 A6 => ?_
 replace A_wa : Ars Z h6 wa (.object "com/example/framewheel/framewheel/core/FrameCallback") (ws.set (rn + sn) (.ref w)) := A6
 replace KP := KP.wr W6 (Or.inl (by simp))
 have N6 := Fr.snoc X6 N4 g_wa
 have Z6 : n0 ≤ h6.size := Nat.le_trans Z0 (Nat.le_of_eq W6.size.symm)
 refine Run.x_aloadN (q := 77) X6 hx (hb hby d36_76) rfl rfl rfl ?_
 replace F_this_dueTimes := F_this_dueTimes.other W6 (Or.inl ne_this_wa)
 refine Run.z_getF (q := 80) X6 hx hZ e6 hown (wm21 hw) F_this_dueTimes (hb hby d36_77) rfl fun T7 X7 e7 => ?_
 refine Run.x_iload (q := 82) X7 hx (hb hby d36_80) rfl rfl ?_
 refine Run.x_lloadN (q := 83) X7 hx (hb hby d36_82) rfl rfl ?_
 replace A_da := A_da.other W6 (Ne.symm ne_wa_da)
 refine Run.y_stJ (q := 84) X7 hx hZ e7 A_da (i := (rn + sn)) hzi (by have := hg.2.2.1; omega) (hb hby d36_83) rfl fun T8 h8 X8 e8 W8 A8 => ?_
 replace A_da : Ars Z h8 da .long (ds.set (rn + sn) (.long d)) := A8
 replace KP := KP.wr W8 (Or.inl (by simp))
 have N8 := Fr.snoc X8 N6 g_da
 have Z8 : n0 ≤ h8.size := Nat.le_trans Z6 (Nat.le_of_eq W8.size.symm)
 refine Run.x_aloadN (q := 85) X8 hx (hb hby d36_84) rfl rfl rfl ?_
 replace F_this_sequences := (F_this_sequences.other W6 (Or.inl ne_this_wa)).other W8 (Or.inl ne_this_da)
 refine Run.z_getF (q := 88) X8 hx hZ e8 hown (wm23 hw) F_this_sequences (hb hby d36_85) rfl fun T9 X9 e9 => ?_
 refine Run.x_iload (q := 90) X9 hx (hb hby d36_88) rfl rfl ?_
 refine Run.x_lload (q := 92) X9 hx (hb hby d36_90) rfl rfl ?_
 replace A_sa := (A_sa.other W6 (Ne.symm ne_wa_sa)).other W8 (Ne.symm ne_da_sa)
 refine Run.y_stJ (q := 93) X9 hx hZ e9 A_sa (i := (rn + sn)) hzi (by have := hg.2.2.1; omega) (hb hby d36_92) rfl fun T10 h10 X10 e10 W10 A10 => ?_
 replace A_sa : Ars Z h10 sa .long (ss.set (rn + sn) (.long sq)) := A10
 replace KP := KP.wr W10 (Or.inl (by simp))
 have N10 := Fr.snoc X10 N8 g_sa
 have Z10 : n0 ≤ h10.size := Nat.le_trans Z8 (Nat.le_of_eq W10.size.symm)
 refine Run.x_aloadN (q := 94) X10 hx (hb hby d36_93) rfl rfl rfl ?_
 refine Run.x_dup (q := 95) X10 hx (hb hby d36_94) rfl rfl ?_
 replace F_this_size := ((F_this_size.other W6 (Or.inl ne_this_wa)).other W8 (Or.inl ne_this_da)).other W10 (Or.inl ne_this_sa)
 refine Run.z_getF (q := 98) X10 hx hZ e10 hown (wm95 hw) F_this_size (hb hby d36_95) rfl fun T11 X11 e11 => ?_
 refine Run.x_iconst (q := 99) X11 hx (hb hby d36_98) (z := (1 : Int32)) rfl rfl ?_
 refine Run.x_iadd (q := 100) X11 hx (hb hby d36_99) rfl rfl ?_
 replace E_this := ((E_this.wr W6).wr W8).wr W10
 obtain ⟨T12, h12, X12, e12, W12, st12⟩ := putF X11 hx hZ hown (host := "") (Or.inl (wm95 hw)) Via.refl e11 F_this_size E_this (Or.inl (wm96 hw)) (wm10 hw) (ty := .int) (by decide) rfl rfl (g := (mkF m 100 #[.val (.ref this), .val (.ref w), .val (.long d), .second, .val (.long sq), .second, .val .null, .val (.int zs)] [(.int (rs + (1 : Int32))), (.ref this)])) rfl rfl (hb hby d36_100)
 replace F_this_size := F_this_size.same W12
 have Z12 : n0 ≤ h12.size := Nat.le_trans Z10 (Nat.le_of_eq W12.size.symm)
 replace KP := KP.wr W12 (Or.inl (by simp))
 have N12 := Fr.snoc X12 N10 g_this
 refine Run.st st12 ?_
 show Run p e below s _ _ _ (T12.setTop (mkF m 103 #[.val (.ref this), .val (.ref w), .val (.long d), .second, .val (.long sq), .second, .val .null, .val (.int zs)] []))
 replace E_w := (((E_w.wr W6).wr W8).wr W10).wr W12
 replace E_this := E_this.wr W12
 replace F_this_works := (((F_this_works.other W6 (Or.inl ne_this_wa)).other W8 (Or.inl ne_this_da)).other W10 (Or.inl ne_this_sa)).other W12 (Or.inr (slot_ne (Or.inl (wm19 hw)) (Or.inl (wm96 hw)) (by decide) (t := (.array (.object "com/example/framewheel/framewheel/core/FrameCallback"))) (t' := .int) (by decide) (by decide)))
 replace F_this_dueTimes := ((F_this_dueTimes.other W8 (Or.inl ne_this_da)).other W10 (Or.inl ne_this_sa)).other W12 (Or.inr (slot_ne (Or.inl (wm22 hw)) (Or.inl (wm96 hw)) (by decide) (t := (.array .long)) (t' := .int) (by decide) (by decide)))
 replace F_this_sequences := (F_this_sequences.other W10 (Or.inl ne_this_sa)).other W12 (Or.inr (slot_ne (Or.inl (wm24 hw)) (Or.inl (wm96 hw)) (by decide) (t := (.array .long)) (t' := .int) (by decide) (by decide)))
 replace F_this_head := (((F_this_head.other W6 (Or.inl ne_this_wa)).other W8 (Or.inl ne_this_da)).other W10 (Or.inl ne_this_sa)).other W12 (Or.inr (slot_ne (Or.inl (wm102 hw)) (Or.inl (wm96 hw)) (by decide) (t := .int) (t' := .int) (by decide) (by decide)))
 replace F_this_delayed := (((F_this_delayed.other W6 (Or.inl ne_this_wa)).other W8 (Or.inl ne_this_da)).other W10 (Or.inl ne_this_sa)).other W12 (Or.inr (slot_ne (Or.inr (wm82 hw)) (Or.inl (wm96 hw)) (by decide) (t := (.object "com/example/framewheel/framewheel/core/TimeOrderedQueue")) (t' := .int) (by decide) (by decide)))
 replace F_this_firstDelayed := (((F_this_firstDelayed.other W6 (Or.inl ne_this_wa)).other W8 (Or.inl ne_this_da)).other W10 (Or.inl ne_this_sa)).other W12 (Or.inr (slot_ne (Or.inl (wm89 hw)) (Or.inl (wm96 hw)) (by decide) (t := (.object "com/example/framewheel/framewheel/core/PhaseQueue$Delayed")) (t' := .int) (by decide) (by decide)))
 replace A_wa := ((A_wa.other W8 ne_wa_da).other W10 ne_wa_sa).other W12 (Ne.symm ne_this_wa)
 replace O_wa := (((O_wa.wr W6).wr W8).wr W10).wr W12
 replace A_da := (A_da.other W10 ne_da_sa).other W12 (Ne.symm ne_this_da)
 replace A_sa := A_sa.other W12 (Ne.symm ne_this_sa)
 replace E_tq := (((E_tq.wr W6).wr W8).wr W10).wr W12
 replace F_tq_run := (((F_tq_run.other W6 (Or.inl ne_tq_wa)).other W8 (Or.inl ne_tq_da)).other W10 (Or.inl ne_tq_sa)).other W12 (Or.inl (Ne.symm ne_this_tq))
 replace F_tq_order := (((F_tq_order.other W6 (Or.inl ne_tq_wa)).other W8 (Or.inl ne_tq_da)).other W10 (Or.inl ne_tq_sa)).other W12 (Or.inl (Ne.symm ne_this_tq))
 replace F_tq_heap := (((F_tq_heap.other W6 (Or.inl ne_tq_wa)).other W8 (Or.inl ne_tq_da)).other W10 (Or.inl ne_tq_sa)).other W12 (Or.inl (Ne.symm ne_this_tq))
 replace E_rq := (((E_rq.wr W6).wr W8).wr W10).wr W12
 replace F_rq_elements := (((F_rq_elements.other W6 (Or.inl ne_rq_wa)).other W8 (Or.inl ne_rq_da)).other W10 (Or.inl ne_rq_sa)).other W12 (Or.inl (Ne.symm ne_this_rq))
 replace F_rq_head := (((F_rq_head.other W6 (Or.inl ne_rq_wa)).other W8 (Or.inl ne_rq_da)).other W10 (Or.inl ne_rq_sa)).other W12 (Or.inl (Ne.symm ne_this_rq))
 replace F_rq_tail := (((F_rq_tail.other W6 (Or.inl ne_rq_wa)).other W8 (Or.inl ne_rq_da)).other W10 (Or.inl ne_rq_sa)).other W12 (Or.inl (Ne.symm ne_this_rq))
 replace A_ea := (((A_ea.other W6 ne_ea_wa).other W8 ne_ea_da).other W10 ne_ea_sa).other W12 (Ne.symm ne_this_ea)
 replace O_ea := (((O_ea.wr W6).wr W8).wr W10).wr W12
 replace E_hq := (((E_hq.wr W6).wr W8).wr W10).wr W12
 replace F_hq_queue := (((F_hq_queue.other W6 (Or.inl ne_hq_wa)).other W8 (Or.inl ne_hq_da)).other W10 (Or.inl ne_hq_sa)).other W12 (Or.inl (Ne.symm ne_this_hq))
 replace F_hq_comparator := (((F_hq_comparator.other W6 (Or.inl ne_hq_wa)).other W8 (Or.inl ne_hq_da)).other W10 (Or.inl ne_hq_sa)).other W12 (Or.inl (Ne.symm ne_this_hq))
 replace F_hq_size := (((F_hq_size.other W6 (Or.inl ne_hq_wa)).other W8 (Or.inl ne_hq_da)).other W10 (Or.inl ne_hq_sa)).other W12 (Or.inl (Ne.symm ne_this_hq))
 replace F_hq_modCount := (((F_hq_modCount.other W6 (Or.inl ne_hq_wa)).other W8 (Or.inl ne_hq_da)).other W10 (Or.inl ne_hq_sa)).other W12 (Or.inl (Ne.symm ne_this_hq))
 replace A_qa := (((A_qa.other W6 ne_qa_wa).other W8 ne_qa_da).other W10 ne_qa_sa).other W12 (Ne.symm ne_this_qa)
 replace O_qa := (((O_qa.wr W6).wr W8).wr W10).wr W12
 replace O_lam := (((O_lam.wr W6).wr W8).wr W10).wr W12
 replace D_xs := (((D_xs.other W6 ne_xs_wa).other W8 ne_xs_da).other W10 ne_xs_sa).other W12 ne_xs_this
 refine Run.retV X12 hx hlk e12 hret (hb hby d36_103) (by decide) (by decide) ?_
 exact ⟨rfl, N12, ⟨_, KP⟩, ⟨xs, tq, rq, hq, ea, qa, wa, da, sa, vs, us, _, _, _, hv_, tv, pv, mc, rh, _, hd, tl, rn, _, fd, E_this, F_this_works, F_this_dueTimes, F_this_sequences, F_this_head, F_this_size, F_this_delayed, F_this_firstDelayed, A_wa, O_wa, A_da, A_sa, E_tq, F_tq_run, F_tq_order, F_tq_heap, E_rq, F_rq_elements, F_rq_head, F_rq_tail, A_ea, O_ea, E_hq, F_hq_queue, F_hq_comparator, F_hq_size, F_hq_modCount, A_qa, O_qa, O_lam, D_xs, g_this, g_rq, g_hq, g_ea, g_qa, g_wa, g_da, g_sa, ne_wa_da, ne_wa_sa, ne_da_sa, hr, hh, hfd, hk, (by omega), (by omega), (hg.push hj hPw), (hds.set _ _), (hss.set _ _)⟩⟩
theorem ef_c_adw (m : MethodId) (this : Addr) (w : Addr) (d : Int64) (sq : Int64) (wk : Addr) : entryFrame m #[(.ref this), (.ref w), (.long d), (.long sq), (.ref wk)] 8 = mkF m 0 #[.val (.ref this), .val (.ref w), .val (.long d), .second, .val (.long sq), .second, .val (.ref wk), .unset] [] := by first | (simp [entryFrame, mkF, argsToLocals, Value.category]; done) | rfl
theorem wm81 {a0 : Array Value} {Z : State} (hw : ∀ d ∈ tables_1, d.before a0 Z = true) : (Jvm.Cond.fieldLink "com/example/framewheel/framewheel/core/PhaseQueue" (31 : Nat) "com/example/framewheel/framewheel/core/PhaseQueue" "delayed" "Lcom/example/framewheel/framewheel/core/TimeOrderedQueue;").before a0 Z = true := hw _ (List.mem_of_getElem? (i := 81) rfl)
theorem wm113 {a0 : Array Value} {Z : State} (hw : ∀ d ∈ tables_1, d.before a0 Z = true) : (Jvm.Cond.classLink "com/example/framewheel/framewheel/core/PhaseQueue" (36 : Nat) "com/example/framewheel/framewheel/core/PhaseQueue$Delayed").before a0 Z = true := hw _ (List.mem_of_getElem? (i := 113) rfl)
theorem wm116 {a0 : Array Value} {Z : State} (hw : ∀ d ∈ tables_1, d.before a0 Z = true) : (Jvm.Cond.methodRef "com/example/framewheel/framewheel/core/PhaseQueue" (49 : Nat) ({ cls := "com/example/framewheel/framewheel/core/PhaseQueue$Delayed", name := "<init>", desc := "(Lcom/example/framewheel/framewheel/core/FrameCallback;JJLjava/lang/Runnable;)V" } : Jvm.MethodName)).before a0 Z = true := hw _ (List.mem_of_getElem? (i := 116) rfl)
theorem wm118 {a0 : Array Value} {Z : State} (hw : ∀ d ∈ tables_1, d.before a0 Z = true) : (Jvm.Cond.code ({ cls := "com/example/framewheel/framewheel/core/PhaseQueue$Delayed", name := "<init>", desc := "(Lcom/example/framewheel/framewheel/core/FrameCallback;JJLjava/lang/Runnable;)V" } : Jvm.MethodName) prog_10_method_1_code (7 : Nat) (Option.none : Option Jvm.ClassFile.FieldType)).before a0 Z = true := hw _ (List.mem_of_getElem? (i := 118) rfl)
theorem pd_14 : parseMethodDescriptor "(Lcom/example/framewheel/framewheel/core/FrameCallback;JJLjava/lang/Runnable;)V" = some ⟨[(.object "com/example/framewheel/framewheel/core/FrameCallback"), .long, .long, (.object "java/lang/Runnable")], none⟩ := by decide +kernel
theorem wm117 {a0 : Array Value} {Z : State} (hw : ∀ d ∈ tables_1, d.before a0 Z = true) : (Jvm.Cond.instanceMethod ({ cls := "com/example/framewheel/framewheel/core/PhaseQueue$Delayed", name := "<init>", desc := "(Lcom/example/framewheel/framewheel/core/FrameCallback;JJLjava/lang/Runnable;)V" } : Jvm.MethodName)).before a0 Z = true := hw _ (List.mem_of_getElem? (i := 117) rfl)
theorem wm133 {a0 : Array Value} {Z : State} (hw : ∀ d ∈ tables_1, d.before a0 Z = true) : (Jvm.Cond.methodLink "com/example/framewheel/framewheel/core/PhaseQueue" (52 : Nat) ({ cls := "com/example/framewheel/framewheel/core/TimeOrderedQueue", name := "add", desc := "(Ljava/lang/Object;)V" } : Jvm.MethodName)).before a0 Z = true := hw _ (List.mem_of_getElem? (i := 133) rfl)
theorem wm137 {a0 : Array Value} {Z : State} (hw : ∀ d ∈ tables_1, d.before a0 Z = true) : (Jvm.Cond.code ({ cls := "com/example/framewheel/framewheel/core/TimeOrderedQueue", name := "add", desc := "(Ljava/lang/Object;)V" } : Jvm.MethodName) prog_15_method_2_code (3 : Nat) (Option.none : Option Jvm.ClassFile.FieldType)).before a0 Z = true := hw _ (List.mem_of_getElem? (i := 137) rfl)
theorem wm134 {a0 : Array Value} {Z : State} (hw : ∀ d ∈ tables_1, d.before a0 Z = true) : (Jvm.Cond.declares ({ cls := "com/example/framewheel/framewheel/core/TimeOrderedQueue", name := "add", desc := "(Ljava/lang/Object;)V" } : Jvm.MethodName)).before a0 Z = true := hw _ (List.mem_of_getElem? (i := 134) rfl)
theorem wm135 {a0 : Array Value} {Z : State} (hw : ∀ d ∈ tables_1, d.before a0 Z = true) : (Jvm.Cond.instanceMethod ({ cls := "com/example/framewheel/framewheel/core/TimeOrderedQueue", name := "add", desc := "(Ljava/lang/Object;)V" } : Jvm.MethodName)).before a0 Z = true := hw _ (List.mem_of_getElem? (i := 135) rfl)
theorem wm166 {a0 : Array Value} {Z : State} (hw : ∀ d ∈ tables_1, d.before a0 Z = true) : (Jvm.Cond.methodLink "com/example/framewheel/framewheel/core/PhaseQueue" (56 : Nat) ({ cls := "com/example/framewheel/framewheel/core/TimeOrderedQueue", name := "peek", desc := "()Ljava/lang/Object;" } : Jvm.MethodName)).before a0 Z = true := hw _ (List.mem_of_getElem? (i := 166) rfl)
set_option maxRecDepth 65536 in
set_option maxHeartbeats 40000000 in
theorem c_adw (l : Launch) (Z : State) (a0 : Array Value) (hw : ∀ d ∈ tables_1, d.before a0 Z = true) (this : Addr) (w : Addr) (d : Int64) (sq : Int64) (wk : Addr) (h0 : Heap) (n0 : Nat) (Z0 : n0 ≤ h0.size) (P : Addr → Prop) (P' : Addr → Prop) (lam : Addr) (cK : ClassId) (k : Nat) (j : Nat) (E_w : Exa Z h0 w "com/example/framewheel/framewheel/core/PhaseQueueHasDelayedPinLaw") (hQ : own_QS Z h0 n0 P P' lam cK this k j) (hj : j ≤ 2) (hPw : P w) :
  Ctr l Z (⟨"com/example/framewheel/framewheel/core/PhaseQueue", "add", "(Lcom/example/framewheel/framewheel/core/FrameCallback;JJLjava/lang/Runnable;)V"⟩ : MethodName) prog_9_method_3_code 8 none ({ frames := 8, cells := 1, slots := 4, locals := 114 } : Room) #[(.ref this), (.ref w), (.long d), (.long sq), (.ref wk)] h0 (fun v h L => v = none ∧ Fr n0 L ∧ (∃ ws, Keep h0 h ws) ∧ own_QS Z h n0 P P' lam cK this (k + 1) (j + 1)) := by
 refine Ctr.of (plainFor_of_name pn_2) (fun m => ef_c_adw m this w d sq wk) ?_
 intro p e s m below meth c T0 hx hby hml hown hnm hret hlk hH e0 X0 hnd
 have hZ := hH.wide
 have N0 := Fr.nil n0
 replace hown : s.vm.findClass "com/example/framewheel/framewheel/core/PhaseQueue" = some m.cls := hown
 replace hml : c.maxLocals = 8 := hml
 obtain ⟨xs, tq, rq, hq, ea, qa, wa, da, sa, vs, us, ws, ds, ss, hv_, tv, pv, mc, rh, rs, hd, tl, rn, sn, fd, E_this, F_this_works, F_this_dueTimes, F_this_sequences, F_this_head, F_this_size, F_this_delayed, F_this_firstDelayed, A_wa, O_wa, A_da, A_sa, E_tq, F_tq_run, F_tq_order, F_tq_heap, E_rq, F_rq_elements, F_rq_head, F_rq_tail, A_ea, O_ea, E_hq, F_hq_queue, F_hq_comparator, F_hq_size, F_hq_modCount, A_qa, O_qa, O_lam, D_xs, g_this, g_rq, g_hq, g_ea, g_qa, g_wa, g_da, g_sa, ne_wa_da, ne_wa_sa, ne_da_sa, hr, hh, hfd, hk, htl, hkj, hg, hds, hss⟩ := hQ
 have lv : vs.length = 17 := hr.2.2.2.2.1
 have lu : us.length = 11 := own_hvlen hh
 have lw : ws.length = 16 := hg.2.2.2.1
 have ld : ds.length = 16 := hds.1
 have ls : ss.length = 16 := hss.1
 have ne_this_tq : this ≠ tq := Exa.ne E_this E_tq (by decide)
 have ne_this_rq : this ≠ rq := Exa.ne E_this E_rq (by decide)
 have ne_this_hq : this ≠ hq := Exa.ne E_this E_hq (by decide)
 have ne_this_ea : this ≠ ea := own_neA E_this A_ea (wm10 hw)
 have ne_this_qa : this ≠ qa := own_neA E_this A_qa (wm10 hw)
 have ne_this_wa : this ≠ wa := own_neA E_this A_wa (wm10 hw)
 have ne_this_da : this ≠ da := own_neA E_this A_da (wm10 hw)
 have ne_this_sa : this ≠ sa := own_neA E_this A_sa (wm10 hw)
 have ne_tq_rq : tq ≠ rq := Exa.ne E_tq E_rq (by decide)
 have ne_tq_hq : tq ≠ hq := Exa.ne E_tq E_hq (by decide)
 have ne_tq_ea : tq ≠ ea := own_neA E_tq A_ea (wm26 hw)
 have ne_tq_qa : tq ≠ qa := own_neA E_tq A_qa (wm26 hw)
 have ne_tq_wa : tq ≠ wa := own_neA E_tq A_wa (wm26 hw)
 have ne_tq_da : tq ≠ da := own_neA E_tq A_da (wm26 hw)
 have ne_tq_sa : tq ≠ sa := own_neA E_tq A_sa (wm26 hw)
 have ne_rq_hq : rq ≠ hq := Exa.ne E_rq E_hq (by decide)
 have ne_rq_ea : rq ≠ ea := own_neA E_rq A_ea (wm36 hw)
 have ne_rq_qa : rq ≠ qa := own_neA E_rq A_qa (wm36 hw)
 have ne_rq_wa : rq ≠ wa := own_neA E_rq A_wa (wm36 hw)
 have ne_rq_da : rq ≠ da := own_neA E_rq A_da (wm36 hw)
 have ne_rq_sa : rq ≠ sa := own_neA E_rq A_sa (wm36 hw)
 have ne_hq_ea : hq ≠ ea := own_neA E_hq A_ea (wm57 hw)
 have ne_hq_qa : hq ≠ qa := own_neA E_hq A_qa (wm57 hw)
 have ne_hq_wa : hq ≠ wa := own_neA E_hq A_wa (wm57 hw)
 have ne_hq_da : hq ≠ da := own_neA E_hq A_da (wm57 hw)
 have ne_hq_sa : hq ≠ sa := own_neA E_hq A_sa (wm57 hw)
 have ne_ea_qa : ea ≠ qa := own_neT A_ea A_qa (by omega)
 have ne_ea_wa : ea ≠ wa := own_neT A_ea A_wa (by omega)
 have ne_ea_da : ea ≠ da := own_neT A_ea A_da (by omega)
 have ne_ea_sa : ea ≠ sa := own_neT A_ea A_sa (by omega)
 have ne_qa_wa : qa ≠ wa := own_neT A_qa A_wa (by omega)
 have ne_qa_da : qa ≠ da := own_neT A_qa A_da (by omega)
 have ne_qa_sa : qa ≠ sa := own_neT A_qa A_sa (by omega)
 have ne_xs_this : this ∉ xs := D_xs.neE E_this (by decide)
 have ne_xs_tq : tq ∉ xs := D_xs.neE E_tq (by decide)
 have ne_xs_rq : rq ∉ xs := D_xs.neE E_rq (by decide)
 have ne_xs_hq : hq ∉ xs := D_xs.neE E_hq (by decide)
 have ne_xs_ea : ea ∉ xs := D_xs.neA A_ea (wm114 hw)
 have ne_xs_qa : qa ∉ xs := D_xs.neA A_qa (wm114 hw)
 have ne_xs_wa : wa ∉ xs := D_xs.neA A_wa (wm114 hw)
 have ne_xs_da : da ∉ xs := D_xs.neA A_da (wm114 hw)
 have ne_xs_sa : sa ∉ xs := D_xs.neA A_sa (wm114 hw)
 have KP := Keep.refl h0 [this, rq, ea, hq, qa]
 refine Run.x_aload (q := 2) X0 hx (hb hby d36_0) rfl rfl rfl ?_
 refine Run.st (B := T0.setTop (mkF m 5 #[.val (.ref this), .val (.ref w), .val (.long d), .second, .val (.long sq), .second, .val (.ref wk), .unset] [])) (fun t kt => XS.ifnullNo X0.here hx rfl (hb hby d36_2) rfl kt) ?_
 refine Run.x_aloadN (q := 6) X0 hx (hb hby d36_5) rfl rfl rfl ?_
 refine Run.z_getF (q := 9) X0 hx hZ e0 hown (wm81 hw) F_this_delayed (hb hby d36_6) rfl fun T1 X1 e1 => ?_
 obtain ⟨T2, h2, X2, e2, E2, A2, D2, -, st2⟩ := newO X1 hx hZ hown (wm113 hw) (wm114 hw) (wm115 hw) e1 (g := (mkF m 9 #[.val (.ref this), .val (.ref w), .val (.long d), .second, .val (.long sq), .second, .val (.ref wk), .unset] [(.ref tq)])) rfl (hb hby d36_9) (by decide) (by decide)
 obtain ⟨b2, gg2⟩ : ∃ z, z = h0.size := ⟨_, rfl⟩
 rw [← gg2] at A2 D2 st2
 have g_b2 : n0 ≤ b2 := Nat.le_trans Z0 (Nat.le_of_eq gg2.symm)
 have ne_w_b2 : w ≠ b2 := Nat.ne_of_lt (Nat.lt_of_lt_of_le E_w.lt (Nat.le_of_eq gg2.symm))
 have ne_this_b2 : this ≠ b2 := Nat.ne_of_lt (Nat.lt_of_lt_of_le E_this.lt (Nat.le_of_eq gg2.symm))
 have ne_wa_b2 : wa ≠ b2 := Nat.ne_of_lt (Nat.lt_of_lt_of_le A_wa.lt (Nat.le_of_eq gg2.symm))
 have ne_da_b2 : da ≠ b2 := Nat.ne_of_lt (Nat.lt_of_lt_of_le A_da.lt (Nat.le_of_eq gg2.symm))
 have ne_sa_b2 : sa ≠ b2 := Nat.ne_of_lt (Nat.lt_of_lt_of_le A_sa.lt (Nat.le_of_eq gg2.symm))
 have ne_tq_b2 : tq ≠ b2 := Nat.ne_of_lt (Nat.lt_of_lt_of_le E_tq.lt (Nat.le_of_eq gg2.symm))
 have ne_rq_b2 : rq ≠ b2 := Nat.ne_of_lt (Nat.lt_of_lt_of_le E_rq.lt (Nat.le_of_eq gg2.symm))
 have ne_ea_b2 : ea ≠ b2 := Nat.ne_of_lt (Nat.lt_of_lt_of_le A_ea.lt (Nat.le_of_eq gg2.symm))
 have ne_hq_b2 : hq ≠ b2 := Nat.ne_of_lt (Nat.lt_of_lt_of_le E_hq.lt (Nat.le_of_eq gg2.symm))
 have ne_qa_b2 : qa ≠ b2 := Nat.ne_of_lt (Nat.lt_of_lt_of_le A_qa.lt (Nat.le_of_eq gg2.symm))
 have ne_xs_b2 : b2 ∉ xs := D_xs.fresh (Nat.le_of_eq gg2.symm)
 have sz_b2 : h0.size ≤ b2 := Nat.le_trans KP.1 (Nat.le_of_eq gg2.symm)
 have Z2 : n0 ≤ h2.size := Nat.le_trans Z0 E2.1
 replace KP := KP.ext E2
 have E_b2 := A2
 have F_b2_work : Fld Z h2 b2 "com/example/framewheel/framewheel/core/PhaseQueue$Delayed" "work" "Lcom/example/framewheel/framewheel/core/FrameCallback;" .null := D2 (Or.inr (wm126 hw)) (ty := (.object "com/example/framewheel/framewheel/core/FrameCallback")) (by decide)
 have F_b2_dueNanos : Fld Z h2 b2 "com/example/framewheel/framewheel/core/PhaseQueue$Delayed" "dueNanos" "J" (.long (0 : Int64)) := D2 (Or.inr (wm128 hw)) (ty := .long) (by decide)
 have F_b2_sequence : Fld Z h2 b2 "com/example/framewheel/framewheel/core/PhaseQueue$Delayed" "sequence" "J" (.long (0 : Int64)) := D2 (Or.inr (wm130 hw)) (ty := .long) (by decide)
 have F_b2_wake : Fld Z h2 b2 "com/example/framewheel/framewheel/core/PhaseQueue$Delayed" "wake" "Ljava/lang/Runnable;" .null := D2 (Or.inr (wm132 hw)) (ty := (.object "java/lang/Runnable")) (by decide)
 refine Run.st st2 ?_
 show Run p e below s _ _ _ (T2.setTop (mkF m 12 #[.val (.ref this), .val (.ref w), .val (.long d), .second, .val (.long sq), .second, .val (.ref wk), .unset] [(.ref b2), (.ref tq)]))
 refine Run.x_dup (q := 13) X2 hx (hb hby d36_12) rfl rfl ?_
 refine Run.x_aloadN (q := 14) X2 hx (hb hby d36_13) rfl rfl rfl ?_
 refine Run.x_lloadN (q := 15) X2 hx (hb hby d36_14) rfl rfl ?_
 refine Run.x_lload (q := 17) X2 hx (hb hby d36_15) rfl rfl ?_
 refine Run.x_aload (q := 19) X2 hx (hb hby d36_17) rfl rfl rfl ?_
 refine own_callR X2 hx hH e2 (y := (⟨"com/example/framewheel/framewheel/core/PhaseQueue$Delayed", "<init>", "(Lcom/example/framewheel/framewheel/core/FrameCallback;JJLjava/lang/Runnable;)V"⟩ : MethodName)) hown rfl (wm116 hw) (wm117 hw) (wm115 hw) (wm118 hw) (by decide) (a := b2) (argsL := [(.ref w), (.long d), (.long sq), (.ref wk)]) (rest := [(.ref b2), (.ref tq)]) (c_dli l Z a0 hw b2 w d sq wk h2 n0 Z2 E_b2 F_b2_work F_b2_dueNanos F_b2_sequence F_b2_wake g_b2) pd_14 rfl (by rw [hml]; rfl) (W := 2) rfl (by decide) (by decide) (by decide) (by decide) (hb hby d36_19) rfl ?_
 intro T3 v3 L3 X3 q3
 obtain ⟨rfl, M3, K3, E3, Fw3, Fd3, Fs3, Fk3⟩ := q3
 have N3 := Fr.app N0 M3
 show Run p e below s _ _ _ (T3.setTop (mkF m 22 #[.val (.ref this), .val (.ref w), .val (.long d), .second, .val (.long sq), .second, .val (.ref wk), .unset] [(.ref b2), (.ref tq)]))
 have Z3 : n0 ≤ T3.heap.size := Nat.le_trans Z2 K3.1
 replace KP := KP.trans K3 (allS (Or.inr sz_b2) all0)
 replace D_xs := (D_xs.ext E2).keep K3 (own_dnS ne_xs_b2 own_dn0)
 have Dy := D_xs.cons (x := b2) ⟨w, d, sq, E3, Fw3, Fd3, Fs3, hPw⟩
 have hym : ∀ x ∈ xs, x ∈ b2 :: xs := fun x hx => List.mem_cons_of_mem _ hx
 have hyb : b2 ∈ b2 :: xs := List.mem_cons_self
 generalize b2 :: xs = ys at Dy hym hyb
 replace E_this := (E_this.ext E2).keep K3
 have ne_ys_this : this ∉ ys := Dy.neE E_this (by decide)
 replace E_tq := (E_tq.ext E2).keep K3
 have ne_ys_tq : tq ∉ ys := Dy.neE E_tq (by decide)
 replace E_rq := (E_rq.ext E2).keep K3
 have ne_ys_rq : rq ∉ ys := Dy.neE E_rq (by decide)
 replace E_hq := (E_hq.ext E2).keep K3
 have ne_ys_hq : hq ∉ ys := Dy.neE E_hq (by decide)
 replace A_ea := (A_ea.ext E2).keep K3 (ninS ne_ea_b2 nin0)
 have ne_ys_ea : ea ∉ ys := Dy.neA A_ea (wm114 hw)
 replace A_qa := (A_qa.ext E2).keep K3 (ninS ne_qa_b2 nin0)
 have ne_ys_qa : qa ∉ ys := Dy.neA A_qa (wm114 hw)
 replace A_wa := (A_wa.ext E2).keep K3 (ninS ne_wa_b2 nin0)
 have ne_ys_wa : wa ∉ ys := Dy.neA A_wa (wm114 hw)
 replace A_da := (A_da.ext E2).keep K3 (ninS ne_da_b2 nin0)
 have ne_ys_da : da ∉ ys := Dy.neA A_da (wm114 hw)
 replace A_sa := (A_sa.ext E2).keep K3 (ninS ne_sa_b2 nin0)
 have ne_ys_sa : sa ∉ ys := Dy.neA A_sa (wm114 hw)
 replace F_tq_run := (F_tq_run.ext E2).keep K3 (ninS ne_tq_b2 nin0)
 replace F_tq_order := (F_tq_order.ext E2).keep K3 (ninS ne_tq_b2 nin0)
 replace F_tq_heap := (F_tq_heap.ext E2).keep K3 (ninS ne_tq_b2 nin0)
 replace F_rq_elements := (F_rq_elements.ext E2).keep K3 (ninS ne_rq_b2 nin0)
 replace F_rq_head := (F_rq_head.ext E2).keep K3 (ninS ne_rq_b2 nin0)
 replace F_rq_tail := (F_rq_tail.ext E2).keep K3 (ninS ne_rq_b2 nin0)
 replace O_ea := (O_ea.ext E2).keep K3
 replace F_hq_queue := (F_hq_queue.ext E2).keep K3 (ninS ne_hq_b2 nin0)
 replace F_hq_comparator := (F_hq_comparator.ext E2).keep K3 (ninS ne_hq_b2 nin0)
 replace F_hq_size := (F_hq_size.ext E2).keep K3 (ninS ne_hq_b2 nin0)
 replace F_hq_modCount := (F_hq_modCount.ext E2).keep K3 (ninS ne_hq_b2 nin0)
 replace O_qa := (O_qa.ext E2).keep K3
 replace O_lam := (O_lam.ext E2).keep K3
 refine Run.callV X3 hx hH rfl (y := (⟨"com/example/framewheel/framewheel/core/TimeOrderedQueue", "add", "(Ljava/lang/Object;)V"⟩ : MethodName)) (z := (⟨"com/example/framewheel/framewheel/core/TimeOrderedQueue", "add", "(Ljava/lang/Object;)V"⟩ : MethodName)) hown (wm133 hw) (wm134 hw) (notFace_of_selects (args := #[]) (mvT hZ (wm136 hw))) (wm136 hw) (wm135 hw) (wm27 hw) (wm137 hw) (by decide) (a := tq) E_tq (argsL := [(.ref b2)]) (rest := []) (c_tadd l Z a0 hw tq b2 T3.heap n0 Z3 cK P ys rq hq ea qa vs us hv_ tv pv mc hd tl lam E_tq F_tq_run F_tq_order F_tq_heap E_rq F_rq_elements F_rq_head F_rq_tail A_ea O_ea E_hq F_hq_queue F_hq_comparator F_hq_size F_hq_modCount A_qa O_qa O_lam Dy E3 g_rq g_hq g_ea g_qa ne_tq_rq ne_tq_hq ne_tq_ea ne_tq_qa ne_rq_hq ne_rq_ea ne_rq_qa ne_hq_ea ne_hq_qa ne_ea_qa ne_ys_tq ne_ys_rq ne_ys_hq ne_ys_ea ne_ys_qa (hr.mono hym) (hh.mono hym) (by omega) (by omega) hyb) pd_9 rfl (by rw [hml]; rfl) (W := 0) rfl (by decide) (by decide) (by decide) (by decide) (hb hby d36_22) rfl ?_
 intro T4 v4 L4 X4 q4
 obtain ⟨rfl, M4, K4, hv4, tv4, pv4, mc4, hd4, tl4, vs4, us4, -, -, -, -, -, Fe4, Fh4, Ft4, Ae4, -, -, Fq4, Fc4, Fs4, Fm4, Aq4, -, -, -, rv4, hh4, cnt4, tle4⟩ := q4
 have N4 := Fr.app N3 M4
 show Run p e below s _ _ _ (T4.setTop (mkF m 25 #[.val (.ref this), .val (.ref w), .val (.long d), .second, .val (.long sq), .second, .val (.ref wk), .unset] []))
 have Z4 : n0 ≤ T4.heap.size := Nat.le_trans Z3 K4.1
 replace KP := KP.trans K4 (allS (Or.inl (by simp)) (allS (Or.inl (by simp)) (allS (Or.inl (by simp)) (allS (Or.inl (by simp)) all0))))
 refine Run.x_aloadN (q := 26) X4 hx (hb hby d36_25) rfl rfl rfl ?_
 refine Run.x_aloadN (q := 27) X4 hx (hb hby d36_26) rfl rfl rfl ?_
 replace F_this_delayed := ((F_this_delayed.ext E2).keep K3 (ninS ne_this_b2 nin0)).keep K4 (ninS ne_this_rq (ninS ne_this_ea (ninS ne_this_hq (ninS ne_this_qa nin0))))
 refine Run.z_getF (q := 30) X4 hx hZ rfl hown (wm81 hw) F_this_delayed (hb hby d36_27) rfl fun T5 X5 e5 => ?_
 replace E_tq := E_tq.keep K4
 replace F_tq_run := F_tq_run.keep K4 (ninS ne_tq_rq (ninS ne_tq_ea (ninS ne_tq_hq (ninS ne_tq_qa nin0))))
 replace F_tq_order := F_tq_order.keep K4 (ninS ne_tq_rq (ninS ne_tq_ea (ninS ne_tq_hq (ninS ne_tq_qa nin0))))
 replace F_tq_heap := F_tq_heap.keep K4 (ninS ne_tq_rq (ninS ne_tq_ea (ninS ne_tq_hq (ninS ne_tq_qa nin0))))
 replace E_rq := E_rq.keep K4
 replace O_ea := O_ea.keep K4
 replace E_hq := E_hq.keep K4
 replace O_qa := O_qa.keep K4
 replace O_lam := O_lam.keep K4
 replace Dy := Dy.keep K4 (own_dnS ne_ys_rq (own_dnS ne_ys_ea (own_dnS ne_ys_hq (own_dnS ne_ys_qa own_dn0))))
 refine Run.callV X5 hx hH e5 (y := (⟨"com/example/framewheel/framewheel/core/TimeOrderedQueue", "peek", "()Ljava/lang/Object;"⟩ : MethodName)) (z := (⟨"com/example/framewheel/framewheel/core/TimeOrderedQueue", "peek", "()Ljava/lang/Object;"⟩ : MethodName)) hown (wm166 hw) (wm167 hw) (notFace_of_selects (args := #[]) (mvT hZ (wm169 hw))) (wm169 hw) (wm168 hw) (wm27 hw) (wm170 hw) (by decide) (a := tq) E_tq (argsL := []) (rest := [(.ref this)]) (c_tpek l Z a0 hw tq T4.heap n0 Z4 cK P ys rq hq ea qa vs4 us4 hv4 tv4 pv4 mc4 hd4 tl4 lam E_tq F_tq_run F_tq_order F_tq_heap E_rq Fe4 Fh4 Ft4 Ae4 O_ea E_hq Fq4 Fc4 Fs4 Fm4 Aq4 O_qa O_lam Dy rv4 hh4) pd_8 rfl (by rw [hml]; rfl) (W := 1) rfl (by decide) (by decide) (by decide) (by decide) (hb hby d36_30) rfl ?_
 intro T6 v6 L6 X6 q6
 obtain ⟨wv6, rfl, M6, e6, hw6⟩ := q6
 have N6 := Fr.app N4 M6
 show Run p e below s _ _ _ (T6.setTop (mkF m 33 #[.val (.ref this), .val (.ref w), .val (.long d), .second, .val (.long sq), .second, .val (.ref wk), .unset] [wv6, (.ref this)]))
 rcases hw6 with ⟨rfl, hE0, hp0⟩ | ⟨uy, huy, rfl, hwh⟩
 ·skip
  rw [hE0, hp0] at cnt4
  have := own_pn; omega
 ·skip
  obtain ⟨_, _, _, E_uy, -⟩ := Dy uy huy
  show Run p e below s _ _ _ (T6.setTop (mkF m 33 #[.val (.ref this), .val (.ref w), .val (.long d), .second, .val (.long sq), .second, .val (.ref wk), .unset] [(.ref uy), (.ref this)]))
  refine own_cc (q := 36) X6 hx hZ e6 hown (wm113 hw) (wm181 hw) E_uy (hb hby d36_33) rfl fun T7 X7 e7 => ?_
  replace F_this_firstDelayed := ((F_this_firstDelayed.ext E2).keep K3 (ninS ne_this_b2 nin0)).keep K4 (ninS ne_this_rq (ninS ne_this_ea (ninS ne_this_hq (ninS ne_this_qa nin0))))
  replace E_this := E_this.keep K4
  obtain ⟨T8, h8, X8, e8, W8, st8⟩ := putF X7 hx hZ hown (host := "") (Or.inl (wm88 hw)) Via.refl e7 F_this_firstDelayed E_this (Or.inl (wm89 hw)) (wm10 hw) (ty := (.object "com/example/framewheel/framewheel/core/PhaseQueue$Delayed")) (by decide) rfl rfl (g := (mkF m 36 #[.val (.ref this), .val (.ref w), .val (.long d), .second, .val (.long sq), .second, .val (.ref wk), .unset] [(.ref uy), (.ref this)])) rfl rfl (hb hby d36_36)
  replace F_this_firstDelayed := F_this_firstDelayed.same W8
  have Z8 : n0 ≤ h8.size := Nat.le_trans Z4 (Nat.le_of_eq W8.size.symm)
  replace KP := KP.wr W8 (Or.inl (by simp))
  have N8 := Fr.snoc X8 N6 g_this
  refine Run.st st8 ?_
  show Run p e below s _ _ _ (T8.setTop (mkF m 39 #[.val (.ref this), .val (.ref w), .val (.long d), .second, .val (.long sq), .second, .val (.ref wk), .unset] []))
  refine Run.x_goto (q := 103) X8 hx (hb hby d36_39) (by decide) (by decide) ?_
  replace E_w := (((E_w.ext E2).keep K3).keep K4).wr W8
  replace E_this := E_this.wr W8
  replace F_this_works := (((F_this_works.ext E2).keep K3 (ninS ne_this_b2 nin0)).keep K4 (ninS ne_this_rq (ninS ne_this_ea (ninS ne_this_hq (ninS ne_this_qa nin0))))).other W8 (Or.inr (slot_ne (Or.inl (wm19 hw)) (Or.inl (wm89 hw)) (by decide) (t := (.array (.object "com/example/framewheel/framewheel/core/FrameCallback"))) (t' := (.object "com/example/framewheel/framewheel/core/PhaseQueue$Delayed")) (by decide) (by decide)))
  replace F_this_dueTimes := (((F_this_dueTimes.ext E2).keep K3 (ninS ne_this_b2 nin0)).keep K4 (ninS ne_this_rq (ninS ne_this_ea (ninS ne_this_hq (ninS ne_this_qa nin0))))).other W8 (Or.inr (slot_ne (Or.inl (wm22 hw)) (Or.inl (wm89 hw)) (by decide) (t := (.array .long)) (t' := (.object "com/example/framewheel/framewheel/core/PhaseQueue$Delayed")) (by decide) (by decide)))
  replace F_this_sequences := (((F_this_sequences.ext E2).keep K3 (ninS ne_this_b2 nin0)).keep K4 (ninS ne_this_rq (ninS ne_this_ea (ninS ne_this_hq (ninS ne_this_qa nin0))))).other W8 (Or.inr (slot_ne (Or.inl (wm24 hw)) (Or.inl (wm89 hw)) (by decide) (t := (.array .long)) (t' := (.object "com/example/framewheel/framewheel/core/PhaseQueue$Delayed")) (by decide) (by decide)))
  replace F_this_head := (((F_this_head.ext E2).keep K3 (ninS ne_this_b2 nin0)).keep K4 (ninS ne_this_rq (ninS ne_this_ea (ninS ne_this_hq (ninS ne_this_qa nin0))))).other W8 (Or.inr (slot_ne (Or.inl (wm102 hw)) (Or.inl (wm89 hw)) (by decide) (t := .int) (t' := (.object "com/example/framewheel/framewheel/core/PhaseQueue$Delayed")) (by decide) (by decide)))
  replace F_this_size := (((F_this_size.ext E2).keep K3 (ninS ne_this_b2 nin0)).keep K4 (ninS ne_this_rq (ninS ne_this_ea (ninS ne_this_hq (ninS ne_this_qa nin0))))).other W8 (Or.inr (slot_ne (Or.inl (wm96 hw)) (Or.inl (wm89 hw)) (by decide) (t := .int) (t' := (.object "com/example/framewheel/framewheel/core/PhaseQueue$Delayed")) (by decide) (by decide)))
  replace F_this_delayed := F_this_delayed.other W8 (Or.inr (slot_ne (Or.inr (wm82 hw)) (Or.inl (wm89 hw)) (by decide) (t := (.object "com/example/framewheel/framewheel/core/TimeOrderedQueue")) (t' := (.object "com/example/framewheel/framewheel/core/PhaseQueue$Delayed")) (by decide) (by decide)))
  replace A_wa := (A_wa.keep K4 (ninS (Ne.symm ne_rq_wa) (ninS (Ne.symm ne_ea_wa) (ninS (Ne.symm ne_hq_wa) (ninS (Ne.symm ne_qa_wa) nin0))))).other W8 (Ne.symm ne_this_wa)
  replace O_wa := (((O_wa.ext E2).keep K3).keep K4).wr W8
  replace A_da := (A_da.keep K4 (ninS (Ne.symm ne_rq_da) (ninS (Ne.symm ne_ea_da) (ninS (Ne.symm ne_hq_da) (ninS (Ne.symm ne_qa_da) nin0))))).other W8 (Ne.symm ne_this_da)
  replace A_sa := (A_sa.keep K4 (ninS (Ne.symm ne_rq_sa) (ninS (Ne.symm ne_ea_sa) (ninS (Ne.symm ne_hq_sa) (ninS (Ne.symm ne_qa_sa) nin0))))).other W8 (Ne.symm ne_this_sa)
  replace E_tq := E_tq.wr W8
  replace F_tq_run := F_tq_run.other W8 (Or.inl (Ne.symm ne_this_tq))
  replace F_tq_order := F_tq_order.other W8 (Or.inl (Ne.symm ne_this_tq))
  replace F_tq_heap := F_tq_heap.other W8 (Or.inl (Ne.symm ne_this_tq))
  replace E_rq := E_rq.wr W8
  replace O_ea := O_ea.wr W8
  replace E_hq := E_hq.wr W8
  replace O_qa := O_qa.wr W8
  replace O_lam := O_lam.wr W8
  replace E3 := (E3.keep K4).wr W8
  replace Dy := Dy.other W8 ne_ys_this
  replace Fe4 := Fe4.other W8 (Or.inl (Ne.symm ne_this_rq))
  replace Fh4 := Fh4.other W8 (Or.inl (Ne.symm ne_this_rq))
  replace Ft4 := Ft4.other W8 (Or.inl (Ne.symm ne_this_rq))
  replace Ae4 := Ae4.other W8 (Ne.symm ne_this_ea)
  replace Fq4 := Fq4.other W8 (Or.inl (Ne.symm ne_this_hq))
  replace Fc4 := Fc4.other W8 (Or.inl (Ne.symm ne_this_hq))
  replace Fs4 := Fs4.other W8 (Or.inl (Ne.symm ne_this_hq))
  replace Fm4 := Fm4.other W8 (Or.inl (Ne.symm ne_this_hq))
  replace Aq4 := Aq4.other W8 (Ne.symm ne_this_qa)
  replace E_uy := E_uy.wr W8
  refine Run.retV X8 hx hlk e8 hret (hb hby d36_103) (by decide) (by decide) ?_
  exact ⟨rfl, N8, ⟨_, KP⟩, ⟨_, tq, rq, hq, ea, qa, wa, da, sa, _, _, ws, ds, ss, _, _, _, _, rh, rs, _, _, rn, sn, _, E_this, F_this_works, F_this_dueTimes, F_this_sequences, F_this_head, F_this_size, F_this_delayed, F_this_firstDelayed, A_wa, O_wa, A_da, A_sa, E_tq, F_tq_run, F_tq_order, F_tq_heap, E_rq, Fe4, Fh4, Ft4, Ae4, O_ea, E_hq, Fq4, Fc4, Fs4, Fm4, Aq4, O_qa, O_lam, Dy, g_this, g_rq, g_hq, g_ea, g_qa, g_wa, g_da, g_sa, ne_wa_da, ne_wa_sa, ne_da_sa, rv4, hh4, (Or.inr ⟨uy, huy, rfl, Nat.succ_pos _⟩), (by omega), (by omega), (by omega), hg.mono, hds, hss⟩⟩
theorem d37_0 : decode prog_9_method_8_code 0 = .ok (.aload_n 0, 1) := by decide +kernel
theorem d37_1 : decode prog_9_method_8_code 1 = .ok (.getfield 15, 3) := by decide +kernel
theorem d37_4 : decode prog_9_method_8_code 4 = .ok (.aload_n 0, 1) := by decide +kernel
theorem d37_5 : decode prog_9_method_8_code 5 = .ok (.getfield 75, 3) := by decide +kernel
theorem d37_8 : decode prog_9_method_8_code 8 = .ok (.laload, 1) := by decide +kernel
theorem d37_9 : decode prog_9_method_8_code 9 = .ok (.lstore_n 2, 1) := by decide +kernel
theorem d37_10 : decode prog_9_method_8_code 10 = .ok (.lload_n 2, 1) := by decide +kernel
theorem d37_11 : decode prog_9_method_8_code 11 = .ok (.aload_n 1, 1) := by decide +kernel
theorem d37_12 : decode prog_9_method_8_code 12 = .ok (.invokevirtual 35, 3) := by decide +kernel
theorem d37_15 : decode prog_9_method_8_code 15 = .ok (.lcmp, 1) := by decide +kernel
theorem d37_16 : decode prog_9_method_8_code 16 = .ok (.ifCond .eq 20, 3) := by decide +kernel
theorem d37_19 : decode prog_9_method_8_code 19 = .ok (.lload_n 2, 1) := by decide +kernel
theorem d37_20 : decode prog_9_method_8_code 20 = .ok (.aload_n 1, 1) := by decide +kernel
theorem d37_21 : decode prog_9_method_8_code 21 = .ok (.invokevirtual 35, 3) := by decide +kernel
theorem d37_24 : decode prog_9_method_8_code 24 = .ok (.lcmp, 1) := by decide +kernel
theorem d37_25 : decode prog_9_method_8_code 25 = .ok (.ifCond .ge 7, 3) := by decide +kernel
theorem d37_28 : decode prog_9_method_8_code 28 = .ok (.iconst 1, 1) := by decide +kernel
theorem d37_29 : decode prog_9_method_8_code 29 = .ok (.goto 29, 3) := by decide +kernel
theorem d37_32 : decode prog_9_method_8_code 32 = .ok (.iconst 0, 1) := by decide +kernel
theorem d37_33 : decode prog_9_method_8_code 33 = .ok (.goto 25, 3) := by decide +kernel
theorem d37_36 : decode prog_9_method_8_code 36 = .ok (.aload_n 0, 1) := by decide +kernel
theorem d37_37 : decode prog_9_method_8_code 37 = .ok (.getfield 19, 3) := by decide +kernel
theorem d37_40 : decode prog_9_method_8_code 40 = .ok (.aload_n 0, 1) := by decide +kernel
theorem d37_41 : decode prog_9_method_8_code 41 = .ok (.getfield 75, 3) := by decide +kernel
theorem d37_44 : decode prog_9_method_8_code 44 = .ok (.laload, 1) := by decide +kernel
theorem d37_45 : decode prog_9_method_8_code 45 = .ok (.aload_n 1, 1) := by decide +kernel
theorem d37_46 : decode prog_9_method_8_code 46 = .ok (.invokevirtual 46, 3) := by decide +kernel
theorem d37_49 : decode prog_9_method_8_code 49 = .ok (.lcmp, 1) := by decide +kernel
theorem d37_50 : decode prog_9_method_8_code 50 = .ok (.ifCond .ge 7, 3) := by decide +kernel
theorem d37_53 : decode prog_9_method_8_code 53 = .ok (.iconst 1, 1) := by decide +kernel
theorem d37_54 : decode prog_9_method_8_code 54 = .ok (.goto 4, 3) := by decide +kernel
theorem d37_57 : decode prog_9_method_8_code 57 = .ok (.iconst 0, 1) := by decide +kernel
theorem d37_58 : decode prog_9_method_8_code 58 = .ok (.ireturn, 1) := by decide +kernel
theorem ef_c_rfb (m : MethodId) (this : Addr) (x1 : Addr) : entryFrame m #[(.ref this), (.ref x1)] 4 = mkF m 0 #[.val (.ref this), .val (.ref x1), .unset, .unset] [] := by first | (simp [entryFrame, mkF, argsToLocals, Value.category]; done) | rfl
set_option maxRecDepth 65536 in
set_option maxHeartbeats 40000000 in
theorem c_rfb (l : Launch) (Z : State) (a0 : Array Value) (hw : ∀ d ∈ tables_1, d.before a0 Z = true) (this : Addr) (x1 : Addr) (h0 : Heap) (n0 : Nat) (Z0 : n0 ≤ h0.size) (da : Addr) (sa : Addr) (ds : List Value) (ss : List Value) (rh : Int32) (rn : Nat) (dv : Int64) (sv : Int64) (d1 : Int64) (s1 : Int64) (E_this : Exa Z h0 this "com/example/framewheel/framewheel/core/PhaseQueue") (F_this_dueTimes : Fld Z h0 this "com/example/framewheel/framewheel/core/PhaseQueue" "dueTimes" "[J" (.ref da)) (F_this_sequences : Fld Z h0 this "com/example/framewheel/framewheel/core/PhaseQueue" "sequences" "[J" (.ref sa)) (F_this_head : Fld Z h0 this "com/example/framewheel/framewheel/core/PhaseQueue" "head" "I" (.int rh)) (A_da : Ars Z h0 da .long ds) (A_sa : Ars Z h0 sa .long ss) (E_x1 : Exa Z h0 x1 "com/example/framewheel/framewheel/core/PhaseQueue$Delayed") (F_x1_dueNanos : Fld Z h0 x1 "com/example/framewheel/framewheel/core/PhaseQueue$Delayed" "dueNanos" "J" (.long d1)) (F_x1_sequence : Fld Z h0 x1 "com/example/framewheel/framewheel/core/PhaseQueue$Delayed" "sequence" "J" (.long s1)) (hi : rh.toInt = rn) (hdv : ds[rn]? = some (.long dv)) (hsv : ss[rn]? = some (.long sv)) :
  Ctr l Z (⟨"com/example/framewheel/framewheel/core/PhaseQueue", "ringFirstOrdersBefore", "(Lcom/example/framewheel/framewheel/core/PhaseQueue$Delayed;)Z"⟩ : MethodName) prog_9_method_8_code 4 (some .boolean) ({ frames := 1, cells := 0, slots := 0, locals := 14 } : Room) #[(.ref this), (.ref x1)] h0 (fun v h L => ∃ z : Int32, v = some (.int z) ∧ Fr n0 L ∧ h = h0 ∧ (z = 0 ∨ z = 1)) := by
 refine Ctr.of (plainFor_of_name pn_2) (fun m => ef_c_rfb m this x1) ?_
 intro p e s m below meth c T0 hx hby hml hown hnm hret hlk hH e0 X0 hnd
 have hZ := hH.wide
 have N0 := Fr.nil n0
 replace hown : s.vm.findClass "com/example/framewheel/framewheel/core/PhaseQueue" = some m.cls := hown
 replace hml : c.maxLocals = 4 := hml
 refine Run.x_aloadN (q := 1) X0 hx (hb hby d37_0) rfl rfl rfl ?_
 refine Run.z_getF (q := 4) X0 hx hZ e0 hown (wm21 hw) F_this_dueTimes (hb hby d37_1) rfl fun T1 X1 e1 => ?_
 refine Run.x_aloadN (q := 5) X1 hx (hb hby d37_4) rfl rfl rfl ?_
 refine Run.z_getF (q := 8) X1 hx hZ e1 hown (wm101 hw) F_this_head (hb hby d37_5) rfl fun T2 X2 e2 => ?_
 refine Run.y_ldJ (q := 9) X2 hx hZ e2 A_da (i := rn) (v := (.long dv)) hi hdv (hb hby d37_8) rfl ?_
 refine Run.x_lstoreN (q := 10) X2 hx #[.val (.ref this), .val (.ref x1), .val (.long dv), .second] (hb hby d37_9) rfl rfl ?_
 refine Run.x_lloadN (q := 11) X2 hx (hb hby d37_10) rfl rfl ?_
 refine Run.x_aloadN (q := 12) X2 hx (hb hby d37_11) rfl rfl rfl ?_
 refine Run.callV X2 hx hH e2 (y := (⟨"com/example/framewheel/framewheel/core/PhaseQueue$Delayed", "dueNanos", "()J"⟩ : MethodName)) (z := (⟨"com/example/framewheel/framewheel/core/PhaseQueue$Delayed", "dueNanos", "()J"⟩ : MethodName)) hown (wm187 hw) (wm188 hw) (notFace_of_selects (args := #[]) (mvT hZ (wm190 hw))) (wm190 hw) (wm189 hw) (wm115 hw) (wm191 hw) (by decide) (a := x1) E_x1 (argsL := []) (rest := [(.long dv)]) (c_due l Z a0 hw x1 h0 n0 Z0 d1 E_x1 F_x1_dueNanos) pd_0 rfl (by rw [hml]; rfl) (W := 2) rfl (by decide) (by decide) (by decide) (by decide) (hb hby d37_12) rfl ?_
 intro T3 v3 L3 X3 q3
 obtain ⟨rfl, M3, e3⟩ := q3
 have N3 := Fr.app N0 M3
 show Run p e below s _ _ _ (T3.setTop (mkF m 15 #[.val (.ref this), .val (.ref x1), .val (.long dv), .second] [(.long d1), (.long dv)]))
 refine Run.x_lcmp (q := 16) X3 hx (hb hby d37_15)  rfl ?_
 by_cases hc16 : dv = d1
 ·skip
  refine Run.x_ifYes (q := 36) X3 hx (hb hby d37_16) ((if0 _ _).trans (teq ((lw_eq dv d1).mpr hc16)).1) (by decide) (by decide) ?_
  refine Run.x_aloadN (q := 37) X3 hx (hb hby d37_36) rfl rfl rfl ?_
  refine Run.z_getF (q := 40) X3 hx hZ e3 hown (wm23 hw) F_this_sequences (hb hby d37_37) rfl fun T4 X4 e4 => ?_
  refine Run.x_aloadN (q := 41) X4 hx (hb hby d37_40) rfl rfl rfl ?_
  refine Run.z_getF (q := 44) X4 hx hZ e4 hown (wm101 hw) F_this_head (hb hby d37_41) rfl fun T5 X5 e5 => ?_
  refine Run.y_ldJ (q := 45) X5 hx hZ e5 A_sa (i := rn) (v := (.long sv)) hi hsv (hb hby d37_44) rfl ?_
  refine Run.x_aloadN (q := 46) X5 hx (hb hby d37_45) rfl rfl rfl ?_
  refine Run.callV X5 hx hH e5 (y := (⟨"com/example/framewheel/framewheel/core/PhaseQueue$Delayed", "sequence", "()J"⟩ : MethodName)) (z := (⟨"com/example/framewheel/framewheel/core/PhaseQueue$Delayed", "sequence", "()J"⟩ : MethodName)) hown (wm200 hw) (wm201 hw) (notFace_of_selects (args := #[]) (mvT hZ (wm203 hw))) (wm203 hw) (wm202 hw) (wm115 hw) (wm204 hw) (by decide) (a := x1) E_x1 (argsL := []) (rest := [(.long sv)]) (c_seq l Z a0 hw x1 h0 n0 Z0 s1 E_x1 F_x1_sequence) pd_0 rfl (by rw [hml]; rfl) (W := 2) rfl (by decide) (by decide) (by decide) (by decide) (hb hby d37_46) rfl ?_
  intro T6 v6 L6 X6 q6
  obtain ⟨rfl, M6, e6⟩ := q6
  have N6 := Fr.app N3 M6
  show Run p e below s _ _ _ (T6.setTop (mkF m 49 #[.val (.ref this), .val (.ref x1), .val (.long dv), .second] [(.long s1), (.long sv)]))
  refine Run.x_lcmp (q := 50) X6 hx (hb hby d37_49)  rfl ?_
  by_cases hc50 : sv < s1
  ·skip
   refine Run.x_ifNo (q := 53) X6 hx (hb hby d37_50) ((if0 _ _).trans (tlt ((lw_lt sv s1).mpr hc50)).2.1) rfl ?_
   refine Run.x_iconst (q := 54) X6 hx (hb hby d37_53) (z := (1 : Int32)) rfl rfl ?_
   refine Run.x_goto (q := 58) X6 hx (hb hby d37_54) (by decide) (by decide) ?_
   refine Run.retN X6 hx hlk e6 (t := .boolean) hret (by simp) (z' := (1 : Int32)) (by decide) (hb hby d37_58) (by decide) (by decide) ?_
   exact ⟨_, rfl, N6, rfl, Or.inr rfl⟩
  ·skip
   refine Run.x_ifYes (q := 57) X6 hx (hb hby d37_50) ((if0 _ _).trans (flt (mt (lw_lt sv s1).mp hc50)).2.1) (by decide) (by decide) ?_
   refine Run.x_iconst (q := 58) X6 hx (hb hby d37_57) (z := (0 : Int32)) rfl rfl ?_
   refine Run.retN X6 hx hlk e6 (t := .boolean) hret (by simp) (z' := (0 : Int32)) (by decide) (hb hby d37_58) (by decide) (by decide) ?_
   exact ⟨_, rfl, N6, rfl, Or.inl rfl⟩
 ·skip
  refine Run.x_ifNo (q := 19) X3 hx (hb hby d37_16) ((if0 _ _).trans (feq (mt (lw_eq dv d1).mp hc16)).1) rfl ?_
  refine Run.x_lloadN (q := 20) X3 hx (hb hby d37_19) rfl rfl ?_
  refine Run.x_aloadN (q := 21) X3 hx (hb hby d37_20) rfl rfl rfl ?_
  refine Run.callV X3 hx hH e3 (y := (⟨"com/example/framewheel/framewheel/core/PhaseQueue$Delayed", "dueNanos", "()J"⟩ : MethodName)) (z := (⟨"com/example/framewheel/framewheel/core/PhaseQueue$Delayed", "dueNanos", "()J"⟩ : MethodName)) hown (wm187 hw) (wm188 hw) (notFace_of_selects (args := #[]) (mvT hZ (wm190 hw))) (wm190 hw) (wm189 hw) (wm115 hw) (wm191 hw) (by decide) (a := x1) E_x1 (argsL := []) (rest := [(.long dv)]) (c_due l Z a0 hw x1 h0 n0 Z0 d1 E_x1 F_x1_dueNanos) pd_0 rfl (by rw [hml]; rfl) (W := 2) rfl (by decide) (by decide) (by decide) (by decide) (hb hby d37_21) rfl ?_
  intro T7 v7 L7 X7 q7
  obtain ⟨rfl, M7, e7⟩ := q7
  have N7 := Fr.app N3 M7
  show Run p e below s _ _ _ (T7.setTop (mkF m 24 #[.val (.ref this), .val (.ref x1), .val (.long dv), .second] [(.long d1), (.long dv)]))
  refine Run.x_lcmp (q := 25) X7 hx (hb hby d37_24)  rfl ?_
  by_cases hc25 : dv < d1
  ·skip
   refine Run.x_ifNo (q := 28) X7 hx (hb hby d37_25) ((if0 _ _).trans (tlt ((lw_lt dv d1).mpr hc25)).2.1) rfl ?_
   refine Run.x_iconst (q := 29) X7 hx (hb hby d37_28) (z := (1 : Int32)) rfl rfl ?_
   refine Run.x_goto (q := 58) X7 hx (hb hby d37_29) (by decide) (by decide) ?_
   refine Run.retN X7 hx hlk e7 (t := .boolean) hret (by simp) (z' := (1 : Int32)) (by decide) (hb hby d37_58) (by decide) (by decide) ?_
   exact ⟨_, rfl, N7, rfl, Or.inr rfl⟩
  ·skip
   refine Run.x_ifYes (q := 32) X7 hx (hb hby d37_25) ((if0 _ _).trans (flt (mt (lw_lt dv d1).mp hc25)).2.1) (by decide) (by decide) ?_
   refine Run.x_iconst (q := 33) X7 hx (hb hby d37_32) (z := (0 : Int32)) rfl rfl ?_
   refine Run.x_goto (q := 58) X7 hx (hb hby d37_33) (by decide) (by decide) ?_
   refine Run.retN X7 hx hlk e7 (t := .boolean) hret (by simp) (z' := (0 : Int32)) (by decide) (hb hby d37_58) (by decide) (by decide) ?_
   exact ⟨_, rfl, N7, rfl, Or.inl rfl⟩
theorem d38_0 : decode prog_9_method_6_code 0 = .ok (.aconst_null, 1) := by decide +kernel
theorem d38_1 : decode prog_9_method_6_code 1 = .ok (.astore 5, 2) := by decide +kernel
theorem d38_3 : decode prog_9_method_6_code 3 = .ok (.aload_n 0, 1) := by decide +kernel
theorem d38_4 : decode prog_9_method_6_code 4 = .ok (.getfield 64, 3) := by decide +kernel
theorem d38_7 : decode prog_9_method_6_code 7 = .ok (.ifCond .le 92, 3) := by decide +kernel
theorem d38_10 : decode prog_9_method_6_code 10 = .ok (.aload_n 0, 1) := by decide +kernel
theorem d38_11 : decode prog_9_method_6_code 11 = .ok (.getfield 60, 3) := by decide +kernel
theorem d38_14 : decode prog_9_method_6_code 14 = .ok (.ifnull 14, 3) := by decide +kernel
theorem d38_17 : decode prog_9_method_6_code 17 = .ok (.aload_n 0, 1) := by decide +kernel
theorem d38_18 : decode prog_9_method_6_code 18 = .ok (.aload_n 0, 1) := by decide +kernel
theorem d38_19 : decode prog_9_method_6_code 19 = .ok (.getfield 60, 3) := by decide +kernel
theorem d38_22 : decode prog_9_method_6_code 22 = .ok (.invokevirtual 78, 3) := by decide +kernel
theorem d38_25 : decode prog_9_method_6_code 25 = .ok (.ifCond .eq 74, 3) := by decide +kernel
theorem d38_28 : decode prog_9_method_6_code 28 = .ok (.aload_n 0, 1) := by decide +kernel
theorem d38_29 : decode prog_9_method_6_code 29 = .ok (.getfield 15, 3) := by decide +kernel
theorem d38_32 : decode prog_9_method_6_code 32 = .ok (.aload_n 0, 1) := by decide +kernel
theorem d38_33 : decode prog_9_method_6_code 33 = .ok (.getfield 75, 3) := by decide +kernel
theorem d38_36 : decode prog_9_method_6_code 36 = .ok (.laload, 1) := by decide +kernel
theorem d38_37 : decode prog_9_method_6_code 37 = .ok (.lload_n 1, 1) := by decide +kernel
theorem d38_38 : decode prog_9_method_6_code 38 = .ok (.lcmp, 1) := by decide +kernel
theorem d38_39 : decode prog_9_method_6_code 39 = .ok (.ifCond .gt 122, 3) := by decide +kernel
theorem d38_42 : decode prog_9_method_6_code 42 = .ok (.aload_n 0, 1) := by decide +kernel
theorem d38_43 : decode prog_9_method_6_code 43 = .ok (.getfield 19, 3) := by decide +kernel
theorem d38_46 : decode prog_9_method_6_code 46 = .ok (.aload_n 0, 1) := by decide +kernel
theorem d38_47 : decode prog_9_method_6_code 47 = .ok (.getfield 75, 3) := by decide +kernel
theorem d38_50 : decode prog_9_method_6_code 50 = .ok (.laload, 1) := by decide +kernel
theorem d38_51 : decode prog_9_method_6_code 51 = .ok (.lload_n 3, 1) := by decide +kernel
theorem d38_52 : decode prog_9_method_6_code 52 = .ok (.lcmp, 1) := by decide +kernel
theorem d38_53 : decode prog_9_method_6_code 53 = .ok (.ifCond .ge 108, 3) := by decide +kernel
theorem d38_56 : decode prog_9_method_6_code 56 = .ok (.aload_n 0, 1) := by decide +kernel
theorem d38_57 : decode prog_9_method_6_code 57 = .ok (.getfield 11, 3) := by decide +kernel
theorem d38_60 : decode prog_9_method_6_code 60 = .ok (.aload_n 0, 1) := by decide +kernel
theorem d38_61 : decode prog_9_method_6_code 61 = .ok (.getfield 75, 3) := by decide +kernel
theorem d38_64 : decode prog_9_method_6_code 64 = .ok (.aaload, 1) := by decide +kernel
theorem d38_65 : decode prog_9_method_6_code 65 = .ok (.astore 5, 2) := by decide +kernel
theorem d38_67 : decode prog_9_method_6_code 67 = .ok (.aload_n 0, 1) := by decide +kernel
theorem d38_68 : decode prog_9_method_6_code 68 = .ok (.getfield 11, 3) := by decide +kernel
theorem d38_71 : decode prog_9_method_6_code 71 = .ok (.aload_n 0, 1) := by decide +kernel
theorem d38_72 : decode prog_9_method_6_code 72 = .ok (.getfield 75, 3) := by decide +kernel
theorem d38_75 : decode prog_9_method_6_code 75 = .ok (.aconst_null, 1) := by decide +kernel
theorem d38_76 : decode prog_9_method_6_code 76 = .ok (.aastore, 1) := by decide +kernel
theorem d38_77 : decode prog_9_method_6_code 77 = .ok (.aload_n 0, 1) := by decide +kernel
theorem d38_78 : decode prog_9_method_6_code 78 = .ok (.aload_n 0, 1) := by decide +kernel
theorem d38_79 : decode prog_9_method_6_code 79 = .ok (.iconst 1, 1) := by decide +kernel
theorem d38_80 : decode prog_9_method_6_code 80 = .ok (.invokevirtual 71, 3) := by decide +kernel
theorem d38_83 : decode prog_9_method_6_code 83 = .ok (.putfield 75, 3) := by decide +kernel
theorem d38_86 : decode prog_9_method_6_code 86 = .ok (.aload_n 0, 1) := by decide +kernel
theorem d38_87 : decode prog_9_method_6_code 87 = .ok (.dup, 1) := by decide +kernel
theorem d38_88 : decode prog_9_method_6_code 88 = .ok (.getfield 64, 3) := by decide +kernel
theorem d38_91 : decode prog_9_method_6_code 91 = .ok (.iconst 1, 1) := by decide +kernel
theorem d38_92 : decode prog_9_method_6_code 92 = .ok (.isub, 1) := by decide +kernel
theorem d38_93 : decode prog_9_method_6_code 93 = .ok (.putfield 64, 3) := by decide +kernel
theorem d38_96 : decode prog_9_method_6_code 96 = .ok (.goto 65, 3) := by decide +kernel
theorem d38_99 : decode prog_9_method_6_code 99 = .ok (.aload_n 0, 1) := by decide +kernel
theorem d38_100 : decode prog_9_method_6_code 100 = .ok (.getfield 60, 3) := by decide +kernel
theorem d38_103 : decode prog_9_method_6_code 103 = .ok (.ifnull 58, 3) := by decide +kernel
theorem d38_106 : decode prog_9_method_6_code 106 = .ok (.aload_n 0, 1) := by decide +kernel
theorem d38_107 : decode prog_9_method_6_code 107 = .ok (.getfield 60, 3) := by decide +kernel
theorem d38_110 : decode prog_9_method_6_code 110 = .ok (.invokevirtual 35, 3) := by decide +kernel
theorem d38_113 : decode prog_9_method_6_code 113 = .ok (.lload_n 1, 1) := by decide +kernel
theorem d38_114 : decode prog_9_method_6_code 114 = .ok (.lcmp, 1) := by decide +kernel
theorem d38_115 : decode prog_9_method_6_code 115 = .ok (.ifCond .gt 46, 3) := by decide +kernel
theorem d38_118 : decode prog_9_method_6_code 118 = .ok (.aload_n 0, 1) := by decide +kernel
theorem d38_119 : decode prog_9_method_6_code 119 = .ok (.getfield 60, 3) := by decide +kernel
theorem d38_122 : decode prog_9_method_6_code 122 = .ok (.invokevirtual 46, 3) := by decide +kernel
theorem d38_125 : decode prog_9_method_6_code 125 = .ok (.lload_n 3, 1) := by decide +kernel
theorem d38_126 : decode prog_9_method_6_code 126 = .ok (.lcmp, 1) := by decide +kernel
theorem d38_127 : decode prog_9_method_6_code 127 = .ok (.ifCond .ge 34, 3) := by decide +kernel
theorem d38_130 : decode prog_9_method_6_code 130 = .ok (.aload_n 0, 1) := by decide +kernel
theorem d38_131 : decode prog_9_method_6_code 131 = .ok (.getfield 60, 3) := by decide +kernel
theorem d38_134 : decode prog_9_method_6_code 134 = .ok (.invokevirtual 82, 3) := by decide +kernel
theorem d38_137 : decode prog_9_method_6_code 137 = .ok (.astore 5, 2) := by decide +kernel
theorem d38_139 : decode prog_9_method_6_code 139 = .ok (.aload_n 0, 1) := by decide +kernel
theorem d38_140 : decode prog_9_method_6_code 140 = .ok (.getfield 31, 3) := by decide +kernel
theorem d38_143 : decode prog_9_method_6_code 143 = .ok (.invokevirtual 86, 3) := by decide +kernel
theorem d38_146 : decode prog_9_method_6_code 146 = .ok (.pop, 1) := by decide +kernel
theorem d38_147 : decode prog_9_method_6_code 147 = .ok (.aload_n 0, 1) := by decide +kernel
theorem d38_148 : decode prog_9_method_6_code 148 = .ok (.aload_n 0, 1) := by decide +kernel
theorem d38_149 : decode prog_9_method_6_code 149 = .ok (.getfield 31, 3) := by decide +kernel
theorem d38_152 : decode prog_9_method_6_code 152 = .ok (.invokevirtual 56, 3) := by decide +kernel
theorem d38_155 : decode prog_9_method_6_code 155 = .ok (.checkcast 36, 3) := by decide +kernel
theorem d38_158 : decode prog_9_method_6_code 158 = .ok (.putfield 60, 3) := by decide +kernel
theorem d38_161 : decode prog_9_method_6_code 161 = .ok (.aload 5, 2) := by decide +kernel
theorem d38_163 : decode prog_9_method_6_code 163 = .ok (.areturn, 1) := by decide +kernel
theorem ef_c_take (m : MethodId) (this : Addr) (now : Int64) (bf : Int64) : entryFrame m #[(.ref this), (.long now), (.long bf)] 6 = mkF m 0 #[.val (.ref this), .val (.long now), .second, .val (.long bf), .second, .unset] [] := by first | (simp [entryFrame, mkF, argsToLocals, Value.category]; done) | rfl
theorem wm196 {a0 : Array Value} {Z : State} (hw : ∀ d ∈ tables_1, d.before a0 Z = true) : (Jvm.Cond.methodLink "com/example/framewheel/framewheel/core/PhaseQueue" (78 : Nat) ({ cls := "com/example/framewheel/framewheel/core/PhaseQueue", name := "ringFirstOrdersBefore", desc := "(Lcom/example/framewheel/framewheel/core/PhaseQueue$Delayed;)Z" } : Jvm.MethodName)).before a0 Z = true := hw _ (List.mem_of_getElem? (i := 196) rfl)
theorem wm199 {a0 : Array Value} {Z : State} (hw : ∀ d ∈ tables_1, d.before a0 Z = true) : (Jvm.Cond.code ({ cls := "com/example/framewheel/framewheel/core/PhaseQueue", name := "ringFirstOrdersBefore", desc := "(Lcom/example/framewheel/framewheel/core/PhaseQueue$Delayed;)Z" } : Jvm.MethodName) prog_9_method_8_code (4 : Nat) (Option.some Jvm.ClassFile.FieldType.boolean)).before a0 Z = true := hw _ (List.mem_of_getElem? (i := 199) rfl)
theorem pd_15 : parseMethodDescriptor "(Lcom/example/framewheel/framewheel/core/PhaseQueue$Delayed;)Z" = some ⟨[(.object "com/example/framewheel/framewheel/core/PhaseQueue$Delayed")], some .boolean⟩ := by decide +kernel
theorem wm197 {a0 : Array Value} {Z : State} (hw : ∀ d ∈ tables_1, d.before a0 Z = true) : (Jvm.Cond.instanceMethod ({ cls := "com/example/framewheel/framewheel/core/PhaseQueue", name := "ringFirstOrdersBefore", desc := "(Lcom/example/framewheel/framewheel/core/PhaseQueue$Delayed;)Z" } : Jvm.MethodName)).before a0 Z = true := hw _ (List.mem_of_getElem? (i := 197) rfl)
theorem wm198 {a0 : Array Value} {Z : State} (hw : ∀ d ∈ tables_1, d.before a0 Z = true) : (Jvm.Cond.privateMethod ({ cls := "com/example/framewheel/framewheel/core/PhaseQueue", name := "ringFirstOrdersBefore", desc := "(Lcom/example/framewheel/framewheel/core/PhaseQueue$Delayed;)Z" } : Jvm.MethodName)).before a0 Z = true := hw _ (List.mem_of_getElem? (i := 198) rfl)
theorem wm205 {a0 : Array Value} {Z : State} (hw : ∀ d ∈ tables_1, d.before a0 Z = true) : (Jvm.Cond.methodLink "com/example/framewheel/framewheel/core/PhaseQueue" (82 : Nat) ({ cls := "com/example/framewheel/framewheel/core/PhaseQueue$Delayed", name := "work", desc := "()Lcom/example/framewheel/framewheel/core/FrameCallback;" } : Jvm.MethodName)).before a0 Z = true := hw _ (List.mem_of_getElem? (i := 205) rfl)
theorem wm209 {a0 : Array Value} {Z : State} (hw : ∀ d ∈ tables_1, d.before a0 Z = true) : (Jvm.Cond.code ({ cls := "com/example/framewheel/framewheel/core/PhaseQueue$Delayed", name := "work", desc := "()Lcom/example/framewheel/framewheel/core/FrameCallback;" } : Jvm.MethodName) prog_10_method_5_code (1 : Nat) (Option.some (Jvm.ClassFile.FieldType.object "com/example/framewheel/framewheel/core/FrameCallback"))).before a0 Z = true := hw _ (List.mem_of_getElem? (i := 209) rfl)
theorem pd_16 : parseMethodDescriptor "()Lcom/example/framewheel/framewheel/core/FrameCallback;" = some ⟨[], some (.object "com/example/framewheel/framewheel/core/FrameCallback")⟩ := by decide +kernel
theorem wm208 {a0 : Array Value} {Z : State} (hw : ∀ d ∈ tables_1, d.before a0 Z = true) : (Jvm.Cond.selects "com/example/framewheel/framewheel/core/PhaseQueue$Delayed" ({ cls := "com/example/framewheel/framewheel/core/PhaseQueue$Delayed", name := "work", desc := "()Lcom/example/framewheel/framewheel/core/FrameCallback;" } : Jvm.MethodName) ({ cls := "com/example/framewheel/framewheel/core/PhaseQueue$Delayed", name := "work", desc := "()Lcom/example/framewheel/framewheel/core/FrameCallback;" } : Jvm.MethodName)).before a0 Z = true := hw _ (List.mem_of_getElem? (i := 208) rfl)
theorem wm206 {a0 : Array Value} {Z : State} (hw : ∀ d ∈ tables_1, d.before a0 Z = true) : (Jvm.Cond.declares ({ cls := "com/example/framewheel/framewheel/core/PhaseQueue$Delayed", name := "work", desc := "()Lcom/example/framewheel/framewheel/core/FrameCallback;" } : Jvm.MethodName)).before a0 Z = true := hw _ (List.mem_of_getElem? (i := 206) rfl)
theorem wm207 {a0 : Array Value} {Z : State} (hw : ∀ d ∈ tables_1, d.before a0 Z = true) : (Jvm.Cond.instanceMethod ({ cls := "com/example/framewheel/framewheel/core/PhaseQueue$Delayed", name := "work", desc := "()Lcom/example/framewheel/framewheel/core/FrameCallback;" } : Jvm.MethodName)).before a0 Z = true := hw _ (List.mem_of_getElem? (i := 207) rfl)
theorem wm210 {a0 : Array Value} {Z : State} (hw : ∀ d ∈ tables_1, d.before a0 Z = true) : (Jvm.Cond.methodLink "com/example/framewheel/framewheel/core/PhaseQueue" (86 : Nat) ({ cls := "com/example/framewheel/framewheel/core/TimeOrderedQueue", name := "poll", desc := "()Ljava/lang/Object;" } : Jvm.MethodName)).before a0 Z = true := hw _ (List.mem_of_getElem? (i := 210) rfl)
theorem wm214 {a0 : Array Value} {Z : State} (hw : ∀ d ∈ tables_1, d.before a0 Z = true) : (Jvm.Cond.code ({ cls := "com/example/framewheel/framewheel/core/TimeOrderedQueue", name := "poll", desc := "()Ljava/lang/Object;" } : Jvm.MethodName) prog_15_method_5_code (2 : Nat) (Option.some (Jvm.ClassFile.FieldType.object "java/lang/Object"))).before a0 Z = true := hw _ (List.mem_of_getElem? (i := 214) rfl)
theorem wm213 {a0 : Array Value} {Z : State} (hw : ∀ d ∈ tables_1, d.before a0 Z = true) : (Jvm.Cond.selects "com/example/framewheel/framewheel/core/TimeOrderedQueue" ({ cls := "com/example/framewheel/framewheel/core/TimeOrderedQueue", name := "poll", desc := "()Ljava/lang/Object;" } : Jvm.MethodName) ({ cls := "com/example/framewheel/framewheel/core/TimeOrderedQueue", name := "poll", desc := "()Ljava/lang/Object;" } : Jvm.MethodName)).before a0 Z = true := hw _ (List.mem_of_getElem? (i := 213) rfl)
theorem wm211 {a0 : Array Value} {Z : State} (hw : ∀ d ∈ tables_1, d.before a0 Z = true) : (Jvm.Cond.declares ({ cls := "com/example/framewheel/framewheel/core/TimeOrderedQueue", name := "poll", desc := "()Ljava/lang/Object;" } : Jvm.MethodName)).before a0 Z = true := hw _ (List.mem_of_getElem? (i := 211) rfl)
theorem wm212 {a0 : Array Value} {Z : State} (hw : ∀ d ∈ tables_1, d.before a0 Z = true) : (Jvm.Cond.instanceMethod ({ cls := "com/example/framewheel/framewheel/core/TimeOrderedQueue", name := "poll", desc := "()Ljava/lang/Object;" } : Jvm.MethodName)).before a0 Z = true := hw _ (List.mem_of_getElem? (i := 212) rfl)
set_option maxRecDepth 65536 in
set_option maxHeartbeats 40000000 in
theorem c_take (l : Launch) (Z : State) (a0 : Array Value) (hw : ∀ d ∈ tables_1, d.before a0 Z = true) (this : Addr) (now : Int64) (bf : Int64) (h0 : Heap) (n0 : Nat) (Z0 : n0 ≤ h0.size) (P : Addr → Prop) (P' : Addr → Prop) (lam : Addr) (cK : ClassId) (k : Nat) (j : Nat) (hQ : own_QS Z h0 n0 P P' lam cK this k j) (hj : j ≤ 3) :
  Ctr l Z (⟨"com/example/framewheel/framewheel/core/PhaseQueue", "takeFirstDue", "(JJ)Lcom/example/framewheel/framewheel/core/FrameCallback;"⟩ : MethodName) prog_9_method_6_code 6 (some (.object "com/example/framewheel/framewheel/core/FrameCallback")) ({ frames := 5, cells := 0, slots := 0, locals := 70 } : Room) #[(.ref this), (.long now), (.long bf)] h0 (fun v h L => ∃ w : Value, v = some w ∧ Fr n0 L ∧ (∃ ws, Keep h0 h ws) ∧ ((w = .null ∧ own_QS Z h n0 P P' lam cK this k j) ∨ (∃ a, w = .ref a ∧ P' a ∧ own_QS Z h n0 P P' lam cK this k j) ∨ (∃ a, w = .ref a ∧ P a ∧ ∃ k', k = k' + 1 ∧ own_QS Z h n0 P P' lam cK this k' j))) := by
 refine Ctr.of (plainFor_of_name pn_2) (fun m => ef_c_take m this now bf) ?_
 intro p e s m below meth c T0 hx hby hml hown hnm hret hlk hH e0 X0 hnd
 have hZ := hH.wide
 have N0 := Fr.nil n0
 replace hown : s.vm.findClass "com/example/framewheel/framewheel/core/PhaseQueue" = some m.cls := hown
 replace hml : c.maxLocals = 6 := hml
 obtain ⟨xs, tq, rq, hq, ea, qa, wa, da, sa, vs, us, ws, ds, ss, hv_, tv, pv, mc, rh, rs, hd, tl, rn, sn, fd, E_this, F_this_works, F_this_dueTimes, F_this_sequences, F_this_head, F_this_size, F_this_delayed, F_this_firstDelayed, A_wa, O_wa, A_da, A_sa, E_tq, F_tq_run, F_tq_order, F_tq_heap, E_rq, F_rq_elements, F_rq_head, F_rq_tail, A_ea, O_ea, E_hq, F_hq_queue, F_hq_comparator, F_hq_size, F_hq_modCount, A_qa, O_qa, O_lam, D_xs, g_this, g_rq, g_hq, g_ea, g_qa, g_wa, g_da, g_sa, ne_wa_da, ne_wa_sa, ne_da_sa, hr, hh, hfd, hk, htl, hkj, hg, hds, hss⟩ := hQ
 have lv : vs.length = 17 := hr.2.2.2.2.1
 have lu : us.length = 11 := own_hvlen hh
 have lw : ws.length = 16 := hg.2.2.2.1
 have ld : ds.length = 16 := hds.1
 have ls : ss.length = 16 := hss.1
 have ne_this_tq : this ≠ tq := Exa.ne E_this E_tq (by decide)
 have ne_this_rq : this ≠ rq := Exa.ne E_this E_rq (by decide)
 have ne_this_hq : this ≠ hq := Exa.ne E_this E_hq (by decide)
 have ne_this_ea : this ≠ ea := own_neA E_this A_ea (wm10 hw)
 have ne_this_qa : this ≠ qa := own_neA E_this A_qa (wm10 hw)
 have ne_this_wa : this ≠ wa := own_neA E_this A_wa (wm10 hw)
 have ne_this_da : this ≠ da := own_neA E_this A_da (wm10 hw)
 have ne_this_sa : this ≠ sa := own_neA E_this A_sa (wm10 hw)
 have ne_tq_rq : tq ≠ rq := Exa.ne E_tq E_rq (by decide)
 have ne_tq_hq : tq ≠ hq := Exa.ne E_tq E_hq (by decide)
 have ne_tq_ea : tq ≠ ea := own_neA E_tq A_ea (wm26 hw)
 have ne_tq_qa : tq ≠ qa := own_neA E_tq A_qa (wm26 hw)
 have ne_tq_wa : tq ≠ wa := own_neA E_tq A_wa (wm26 hw)
 have ne_tq_da : tq ≠ da := own_neA E_tq A_da (wm26 hw)
 have ne_tq_sa : tq ≠ sa := own_neA E_tq A_sa (wm26 hw)
 have ne_rq_hq : rq ≠ hq := Exa.ne E_rq E_hq (by decide)
 have ne_rq_ea : rq ≠ ea := own_neA E_rq A_ea (wm36 hw)
 have ne_rq_qa : rq ≠ qa := own_neA E_rq A_qa (wm36 hw)
 have ne_rq_wa : rq ≠ wa := own_neA E_rq A_wa (wm36 hw)
 have ne_rq_da : rq ≠ da := own_neA E_rq A_da (wm36 hw)
 have ne_rq_sa : rq ≠ sa := own_neA E_rq A_sa (wm36 hw)
 have ne_hq_ea : hq ≠ ea := own_neA E_hq A_ea (wm57 hw)
 have ne_hq_qa : hq ≠ qa := own_neA E_hq A_qa (wm57 hw)
 have ne_hq_wa : hq ≠ wa := own_neA E_hq A_wa (wm57 hw)
 have ne_hq_da : hq ≠ da := own_neA E_hq A_da (wm57 hw)
 have ne_hq_sa : hq ≠ sa := own_neA E_hq A_sa (wm57 hw)
 have ne_ea_qa : ea ≠ qa := own_neT A_ea A_qa (by omega)
 have ne_ea_wa : ea ≠ wa := own_neT A_ea A_wa (by omega)
 have ne_ea_da : ea ≠ da := own_neT A_ea A_da (by omega)
 have ne_ea_sa : ea ≠ sa := own_neT A_ea A_sa (by omega)
 have ne_qa_wa : qa ≠ wa := own_neT A_qa A_wa (by omega)
 have ne_qa_da : qa ≠ da := own_neT A_qa A_da (by omega)
 have ne_qa_sa : qa ≠ sa := own_neT A_qa A_sa (by omega)
 have ne_xs_this : this ∉ xs := D_xs.neE E_this (by decide)
 have ne_xs_tq : tq ∉ xs := D_xs.neE E_tq (by decide)
 have ne_xs_rq : rq ∉ xs := D_xs.neE E_rq (by decide)
 have ne_xs_hq : hq ∉ xs := D_xs.neE E_hq (by decide)
 have ne_xs_ea : ea ∉ xs := D_xs.neA A_ea (wm114 hw)
 have ne_xs_qa : qa ∉ xs := D_xs.neA A_qa (wm114 hw)
 have ne_xs_wa : wa ∉ xs := D_xs.neA A_wa (wm114 hw)
 have ne_xs_da : da ∉ xs := D_xs.neA A_da (wm114 hw)
 have ne_xs_sa : sa ∉ xs := D_xs.neA A_sa (wm114 hw)
 have KP := Keep.refl h0 [this, wa, rq, ea, hq, qa]
 obtain ⟨dv, hdv⟩ := hds.2 rn (by have := hg.2.2.1; omega)
 obtain ⟨sv, hsv⟩ := hss.2 rn (by have := hg.2.2.1; omega)
 rcases hfd with ⟨rfl, hk0⟩ | ⟨ux, hux, rfl, hk0⟩
 ·skip
  refine Run.x_null (q := 1) X0 hx (hb hby d38_0)  rfl ?_
  refine Run.x_astore (q := 3) X0 hx #[.val (.ref this), .val (.long now), .second, .val (.long bf), .second, .val .null] (hb hby d38_1) rfl rfl rfl ?_
  refine Run.x_aloadN (q := 4) X0 hx (hb hby d38_3) rfl rfl rfl ?_
  refine Run.z_getF (q := 7) X0 hx hZ e0 hown (wm95 hw) F_this_size (hb hby d38_4) rfl fun T1 X1 e1 => ?_
  by_cases hc7 : (0 : Int32) < rs
  ·skip
   refine Run.x_ifNo (q := 10) X1 hx (hb hby d38_7) ((if0 _ _).trans (tlt hc7).2.2.2) rfl ?_
   refine Run.x_aloadN (q := 11) X1 hx (hb hby d38_10) rfl rfl rfl ?_
   refine Run.z_getF (q := 14) X1 hx hZ e1 hown (wm88 hw) F_this_firstDelayed (hb hby d38_11) rfl fun T2 X2 e2 => ?_
   refine Run.st (B := T2.setTop (mkF m 28 #[.val (.ref this), .val (.long now), .second, .val (.long bf), .second, .val .null] [])) (fun t kt => XS.ifnullYes X2.here hx rfl (pc0 := 14) (pc' := 28) rfl (hb hby d38_14) rfl (by decide) (by decide) kt) ?_
   refine Run.x_aloadN (q := 29) X2 hx (hb hby d38_28) rfl rfl rfl ?_
   refine Run.z_getF (q := 32) X2 hx hZ e2 hown (wm21 hw) F_this_dueTimes (hb hby d38_29) rfl fun T3 X3 e3 => ?_
   refine Run.x_aloadN (q := 33) X3 hx (hb hby d38_32) rfl rfl rfl ?_
   refine Run.z_getF (q := 36) X3 hx hZ e3 hown (wm101 hw) F_this_head (hb hby d38_33) rfl fun T4 X4 e4 => ?_
   refine Run.y_ldJ (q := 37) X4 hx hZ e4 A_da (i := rn) (v := (.long dv)) hg.1 hdv (hb hby d38_36) rfl ?_
   refine Run.x_lloadN (q := 38) X4 hx (hb hby d38_37) rfl rfl ?_
   refine Run.x_lcmp (q := 39) X4 hx (hb hby d38_38)  rfl ?_
   by_cases hc39 : now < dv
   ·skip
    refine Run.x_ifYes (q := 161) X4 hx (hb hby d38_39) ((if0 _ _).trans (tlt ((lw_gt dv now).mpr hc39)).2.2.1) (by decide) (by decide) ?_
    refine Run.x_aload (q := 163) X4 hx (hb hby d38_161) rfl rfl rfl ?_
    refine Run.retA X4 hx hlk e4 (t := (.object "com/example/framewheel/framewheel/core/FrameCallback")) hret rfl rfl rfl (hb hby d38_163) (by decide) (by decide) ?_
    exact ⟨_, rfl, N0, ⟨_, KP⟩, Or.inl ⟨rfl, ⟨xs, tq, rq, hq, ea, qa, wa, da, sa, vs, us, ws, ds, ss, hv_, tv, pv, mc, rh, rs, hd, tl, rn, sn, _, E_this, F_this_works, F_this_dueTimes, F_this_sequences, F_this_head, F_this_size, F_this_delayed, F_this_firstDelayed, A_wa, O_wa, A_da, A_sa, E_tq, F_tq_run, F_tq_order, F_tq_heap, E_rq, F_rq_elements, F_rq_head, F_rq_tail, A_ea, O_ea, E_hq, F_hq_queue, F_hq_comparator, F_hq_size, F_hq_modCount, A_qa, O_qa, O_lam, D_xs, g_this, g_rq, g_hq, g_ea, g_qa, g_wa, g_da, g_sa, ne_wa_da, ne_wa_sa, ne_da_sa, hr, hh, (Or.inl ⟨rfl, hk0⟩), hk, htl, hkj, hg, hds, hss⟩⟩⟩
   ·skip
    refine Run.x_ifNo (q := 42) X4 hx (hb hby d38_39) ((if0 _ _).trans (flt (mt (lw_gt dv now).mp hc39)).2.2.1) rfl ?_
    refine Run.x_aloadN (q := 43) X4 hx (hb hby d38_42) rfl rfl rfl ?_
    refine Run.z_getF (q := 46) X4 hx hZ e4 hown (wm23 hw) F_this_sequences (hb hby d38_43) rfl fun T5 X5 e5 => ?_
    refine Run.x_aloadN (q := 47) X5 hx (hb hby d38_46) rfl rfl rfl ?_
    refine Run.z_getF (q := 50) X5 hx hZ e5 hown (wm101 hw) F_this_head (hb hby d38_47) rfl fun T6 X6 e6 => ?_
    refine Run.y_ldJ (q := 51) X6 hx hZ e6 A_sa (i := rn) (v := (.long sv)) hg.1 hsv (hb hby d38_50) rfl ?_
    refine Run.x_lloadN (q := 52) X6 hx (hb hby d38_51) rfl rfl ?_
    refine Run.x_lcmp (q := 53) X6 hx (hb hby d38_52)  rfl ?_
    by_cases hc53 : sv < bf
    ·skip
     refine Run.x_ifNo (q := 56) X6 hx (hb hby d38_53) ((if0 _ _).trans (tlt ((lw_lt sv bf).mpr hc53)).2.1) rfl ?_
     have hsp : 0 < sn := (own_sn hg.2.1).mp hc7
     obtain ⟨wt, hwt, hPt⟩ := hg.2.2.2.2 rn (Nat.le_refl _) (by omega)
     refine Run.x_aloadN (q := 57) X6 hx (hb hby d38_56) rfl rfl rfl ?_
     refine Run.z_getF (q := 60) X6 hx hZ e6 hown (wm18 hw) F_this_works (hb hby d38_57) rfl fun T7 X7 e7 => ?_
     refine Run.x_aloadN (q := 61) X7 hx (hb hby d38_60) rfl rfl rfl ?_
     refine Run.z_getF (q := 64) X7 hx hZ e7 hown (wm101 hw) F_this_head (hb hby d38_61) rfl fun T8 X8 e8 => ?_
     refine Run.y_ldR (q := 65) X8 hx hZ e8 A_wa (i := rn) (v := (.ref wt)) hg.1 hwt rfl (hb hby d38_64) rfl ?_
     refine Run.x_astore (q := 67) X8 hx #[.val (.ref this), .val (.long now), .second, .val (.long bf), .second, .val (.ref wt)] (hb hby d38_65) rfl rfl rfl ?_
     refine Run.x_aloadN (q := 68) X8 hx (hb hby d38_67) rfl rfl rfl ?_
     refine Run.z_getF (q := 71) X8 hx hZ e8 hown (wm18 hw) F_this_works (hb hby d38_68) rfl fun T9 X9 e9 => ?_
     refine Run.x_aloadN (q := 72) X9 hx (hb hby d38_71) rfl rfl rfl ?_
     refine Run.z_getF (q := 75) X9 hx hZ e9 hown (wm101 hw) F_this_head (hb hby d38_72) rfl fun T10 X10 e10 => ?_
     refine Run.x_null (q := 76) X10 hx (hb hby d38_75)  rfl ?_
     refine Run.y_stR (q := 77) X10 hx hZ e10 A_wa (i := rn) hg.1 (by have := hg.2.2.1; omega) rfl (Or.inl rfl) (hb hby d38_76) rfl fun T11 h11 X11 e11 W11 A11 => ?_
     replace A_wa : Ars Z h11 wa (.object "com/example/framewheel/framewheel/core/FrameCallback") (ws.set rn .null) := A11
     replace KP := KP.wr W11 (Or.inl (by simp))
     have N11 := Fr.snoc X11 N0 g_wa
     have Z11 : n0 ≤ h11.size := Nat.le_trans Z0 (Nat.le_of_eq W11.size.symm)
     refine Run.x_aloadN (q := 78) X11 hx (hb hby d38_77) rfl rfl rfl ?_
     refine Run.x_aloadN (q := 79) X11 hx (hb hby d38_78) rfl rfl rfl ?_
     refine Run.x_iconst (q := 80) X11 hx (hb hby d38_79) (z := (1 : Int32)) rfl rfl ?_
     obtain ⟨zs, hzs, hzi⟩ := own_slot hg.1 (i' := 1) (b := 1) (by decide) (by have := hg.2.2.1; omega)
     replace E_this := E_this.wr W11
     replace F_this_head := F_this_head.other W11 (Or.inl ne_this_wa)
     replace F_this_works := F_this_works.other W11 (Or.inl ne_this_wa)
     refine own_callP X11 hx hH e11 (y := (⟨"com/example/framewheel/framewheel/core/PhaseQueue", "slot", "(I)I"⟩ : MethodName)) (y2 := (⟨"com/example/framewheel/framewheel/core/PhaseQueue", "hasDelayed", "()Z"⟩ : MethodName)) hown (wm97 hw) (wm98 hw) (wm99 hw) (wm86 hw) rfl (wm11 hw) (wm100 hw) (by decide) (a := this) E_this (argsL := [(.int 1)]) (rest := [(.ref this)]) (c_slot l Z a0 hw this (1 : Int32) h11 n0 Z11 wa (ws.set rn .null) rh zs E_this F_this_head F_this_works A_wa (by rw [List.length_set]; exact lw) hzs) pd_13 rfl (by rw [hml]; rfl) (W := 1) rfl (by decide) (by decide) (by decide) (by decide) (hb hby d38_80) rfl ?_
     intro T12 v12 L12 X12 q12
     obtain ⟨rfl, M12, e12⟩ := q12
     have N12 := Fr.app N11 M12
     show Run p e below s _ _ _ (T12.setTop (mkF m 83 #[.val (.ref this), .val (.long now), .second, .val (.long bf), .second, .val (.ref wt)] [(.int zs), (.ref this)]))
     obtain ⟨T13, h13, X13, e13, W13, st13⟩ := putF X12 hx hZ hown (host := "") (Or.inl (wm101 hw)) Via.refl e12 F_this_head E_this (Or.inl (wm102 hw)) (wm10 hw) (ty := .int) (by decide) rfl rfl (g := (mkF m 83 #[.val (.ref this), .val (.long now), .second, .val (.long bf), .second, .val (.ref wt)] [(.int zs), (.ref this)])) rfl rfl (hb hby d38_83)
     replace F_this_head := F_this_head.same W13
     have Z13 : n0 ≤ h13.size := Nat.le_trans Z11 (Nat.le_of_eq W13.size.symm)
     replace KP := KP.wr W13 (Or.inl (by simp))
     have N13 := Fr.snoc X13 N12 g_this
     refine Run.st st13 ?_
     show Run p e below s _ _ _ (T13.setTop (mkF m 86 #[.val (.ref this), .val (.long now), .second, .val (.long bf), .second, .val (.ref wt)] []))
     refine Run.x_aloadN (q := 87) X13 hx (hb hby d38_86) rfl rfl rfl ?_
     refine Run.x_dup (q := 88) X13 hx (hb hby d38_87) rfl rfl ?_
     replace F_this_size := (F_this_size.other W11 (Or.inl ne_this_wa)).other W13 (Or.inr (slot_ne (Or.inl (wm96 hw)) (Or.inl (wm102 hw)) (by decide) (t := .int) (t' := .int) (by decide) (by decide)))
     refine Run.z_getF (q := 91) X13 hx hZ e13 hown (wm95 hw) F_this_size (hb hby d38_88) rfl fun T14 X14 e14 => ?_
     refine Run.x_iconst (q := 92) X14 hx (hb hby d38_91) (z := (1 : Int32)) rfl rfl ?_
     refine Run.x_isub (q := 93) X14 hx (hb hby d38_92) rfl rfl ?_
     replace E_this := E_this.wr W13
     obtain ⟨T15, h15, X15, e15, W15, st15⟩ := putF X14 hx hZ hown (host := "") (Or.inl (wm95 hw)) Via.refl e14 F_this_size E_this (Or.inl (wm96 hw)) (wm10 hw) (ty := .int) (by decide) rfl rfl (g := (mkF m 93 #[.val (.ref this), .val (.long now), .second, .val (.long bf), .second, .val (.ref wt)] [(.int (rs - (1 : Int32))), (.ref this)])) rfl rfl (hb hby d38_93)
     replace F_this_size := F_this_size.same W15
     have Z15 : n0 ≤ h15.size := Nat.le_trans Z13 (Nat.le_of_eq W15.size.symm)
     replace KP := KP.wr W15 (Or.inl (by simp))
     have N15 := Fr.snoc X15 N13 g_this
     refine Run.st st15 ?_
     show Run p e below s _ _ _ (T15.setTop (mkF m 96 #[.val (.ref this), .val (.long now), .second, .val (.long bf), .second, .val (.ref wt)] []))
     refine Run.x_goto (q := 161) X15 hx (hb hby d38_96) (by decide) (by decide) ?_
     refine Run.x_aload (q := 163) X15 hx (hb hby d38_161) rfl rfl rfl ?_
     replace E_this := E_this.wr W15
     replace F_this_works := (F_this_works.other W13 (Or.inr (slot_ne (Or.inl (wm19 hw)) (Or.inl (wm102 hw)) (by decide) (t := (.array (.object "com/example/framewheel/framewheel/core/FrameCallback"))) (t' := .int) (by decide) (by decide)))).other W15 (Or.inr (slot_ne (Or.inl (wm19 hw)) (Or.inl (wm96 hw)) (by decide) (t := (.array (.object "com/example/framewheel/framewheel/core/FrameCallback"))) (t' := .int) (by decide) (by decide)))
     replace F_this_dueTimes := ((F_this_dueTimes.other W11 (Or.inl ne_this_wa)).other W13 (Or.inr (slot_ne (Or.inl (wm22 hw)) (Or.inl (wm102 hw)) (by decide) (t := (.array .long)) (t' := .int) (by decide) (by decide)))).other W15 (Or.inr (slot_ne (Or.inl (wm22 hw)) (Or.inl (wm96 hw)) (by decide) (t := (.array .long)) (t' := .int) (by decide) (by decide)))
     replace F_this_sequences := ((F_this_sequences.other W11 (Or.inl ne_this_wa)).other W13 (Or.inr (slot_ne (Or.inl (wm24 hw)) (Or.inl (wm102 hw)) (by decide) (t := (.array .long)) (t' := .int) (by decide) (by decide)))).other W15 (Or.inr (slot_ne (Or.inl (wm24 hw)) (Or.inl (wm96 hw)) (by decide) (t := (.array .long)) (t' := .int) (by decide) (by decide)))
     replace F_this_head := F_this_head.other W15 (Or.inr (slot_ne (Or.inl (wm102 hw)) (Or.inl (wm96 hw)) (by decide) (t := .int) (t' := .int) (by decide) (by decide)))
     replace F_this_delayed := ((F_this_delayed.other W11 (Or.inl ne_this_wa)).other W13 (Or.inr (slot_ne (Or.inr (wm82 hw)) (Or.inl (wm102 hw)) (by decide) (t := (.object "com/example/framewheel/framewheel/core/TimeOrderedQueue")) (t' := .int) (by decide) (by decide)))).other W15 (Or.inr (slot_ne (Or.inr (wm82 hw)) (Or.inl (wm96 hw)) (by decide) (t := (.object "com/example/framewheel/framewheel/core/TimeOrderedQueue")) (t' := .int) (by decide) (by decide)))
     replace F_this_firstDelayed := ((F_this_firstDelayed.other W11 (Or.inl ne_this_wa)).other W13 (Or.inr (slot_ne (Or.inl (wm89 hw)) (Or.inl (wm102 hw)) (by decide) (t := (.object "com/example/framewheel/framewheel/core/PhaseQueue$Delayed")) (t' := .int) (by decide) (by decide)))).other W15 (Or.inr (slot_ne (Or.inl (wm89 hw)) (Or.inl (wm96 hw)) (by decide) (t := (.object "com/example/framewheel/framewheel/core/PhaseQueue$Delayed")) (t' := .int) (by decide) (by decide)))
     replace A_wa := (A_wa.other W13 (Ne.symm ne_this_wa)).other W15 (Ne.symm ne_this_wa)
     replace O_wa := ((O_wa.wr W11).wr W13).wr W15
     replace A_da := ((A_da.other W11 (Ne.symm ne_wa_da)).other W13 (Ne.symm ne_this_da)).other W15 (Ne.symm ne_this_da)
     replace A_sa := ((A_sa.other W11 (Ne.symm ne_wa_sa)).other W13 (Ne.symm ne_this_sa)).other W15 (Ne.symm ne_this_sa)
     replace E_tq := ((E_tq.wr W11).wr W13).wr W15
     replace F_tq_run := ((F_tq_run.other W11 (Or.inl ne_tq_wa)).other W13 (Or.inl (Ne.symm ne_this_tq))).other W15 (Or.inl (Ne.symm ne_this_tq))
     replace F_tq_order := ((F_tq_order.other W11 (Or.inl ne_tq_wa)).other W13 (Or.inl (Ne.symm ne_this_tq))).other W15 (Or.inl (Ne.symm ne_this_tq))
     replace F_tq_heap := ((F_tq_heap.other W11 (Or.inl ne_tq_wa)).other W13 (Or.inl (Ne.symm ne_this_tq))).other W15 (Or.inl (Ne.symm ne_this_tq))
     replace E_rq := ((E_rq.wr W11).wr W13).wr W15
     replace F_rq_elements := ((F_rq_elements.other W11 (Or.inl ne_rq_wa)).other W13 (Or.inl (Ne.symm ne_this_rq))).other W15 (Or.inl (Ne.symm ne_this_rq))
     replace F_rq_head := ((F_rq_head.other W11 (Or.inl ne_rq_wa)).other W13 (Or.inl (Ne.symm ne_this_rq))).other W15 (Or.inl (Ne.symm ne_this_rq))
     replace F_rq_tail := ((F_rq_tail.other W11 (Or.inl ne_rq_wa)).other W13 (Or.inl (Ne.symm ne_this_rq))).other W15 (Or.inl (Ne.symm ne_this_rq))
     replace A_ea := ((A_ea.other W11 ne_ea_wa).other W13 (Ne.symm ne_this_ea)).other W15 (Ne.symm ne_this_ea)
     replace O_ea := ((O_ea.wr W11).wr W13).wr W15
     replace E_hq := ((E_hq.wr W11).wr W13).wr W15
     replace F_hq_queue := ((F_hq_queue.other W11 (Or.inl ne_hq_wa)).other W13 (Or.inl (Ne.symm ne_this_hq))).other W15 (Or.inl (Ne.symm ne_this_hq))
     replace F_hq_comparator := ((F_hq_comparator.other W11 (Or.inl ne_hq_wa)).other W13 (Or.inl (Ne.symm ne_this_hq))).other W15 (Or.inl (Ne.symm ne_this_hq))
     replace F_hq_size := ((F_hq_size.other W11 (Or.inl ne_hq_wa)).other W13 (Or.inl (Ne.symm ne_this_hq))).other W15 (Or.inl (Ne.symm ne_this_hq))
     replace F_hq_modCount := ((F_hq_modCount.other W11 (Or.inl ne_hq_wa)).other W13 (Or.inl (Ne.symm ne_this_hq))).other W15 (Or.inl (Ne.symm ne_this_hq))
     replace A_qa := ((A_qa.other W11 ne_qa_wa).other W13 (Ne.symm ne_this_qa)).other W15 (Ne.symm ne_this_qa)
     replace O_qa := ((O_qa.wr W11).wr W13).wr W15
     replace O_lam := ((O_lam.wr W11).wr W13).wr W15
     replace D_xs := ((D_xs.other W11 ne_xs_wa).other W13 ne_xs_this).other W15 ne_xs_this
     refine Run.retA X15 hx hlk e15 (t := (.object "com/example/framewheel/framewheel/core/FrameCallback")) hret rfl rfl rfl (hb hby d38_163) (by decide) (by decide) ?_
     exact ⟨_, rfl, N15, ⟨_, KP⟩, Or.inr (Or.inl ⟨wt, rfl, hPt, ⟨xs, tq, rq, hq, ea, qa, wa, da, sa, vs, us, _, ds, ss, hv_, tv, pv, mc, _, _, hd, tl, _, _, _, E_this, F_this_works, F_this_dueTimes, F_this_sequences, F_this_head, F_this_size, F_this_delayed, F_this_firstDelayed, A_wa, O_wa, A_da, A_sa, E_tq, F_tq_run, F_tq_order, F_tq_heap, E_rq, F_rq_elements, F_rq_head, F_rq_tail, A_ea, O_ea, E_hq, F_hq_queue, F_hq_comparator, F_hq_size, F_hq_modCount, A_qa, O_qa, O_lam, D_xs, g_this, g_rq, g_hq, g_ea, g_qa, g_wa, g_da, g_sa, ne_wa_da, ne_wa_sa, ne_da_sa, hr, hh, (Or.inl ⟨rfl, hk0⟩), hk, htl, hkj, (hg.pop hj hsp hzi), hds, hss⟩⟩)⟩
    ·skip
     refine Run.x_ifYes (q := 161) X6 hx (hb hby d38_53) ((if0 _ _).trans (flt (mt (lw_lt sv bf).mp hc53)).2.1) (by decide) (by decide) ?_
     refine Run.x_aload (q := 163) X6 hx (hb hby d38_161) rfl rfl rfl ?_
     refine Run.retA X6 hx hlk e6 (t := (.object "com/example/framewheel/framewheel/core/FrameCallback")) hret rfl rfl rfl (hb hby d38_163) (by decide) (by decide) ?_
     exact ⟨_, rfl, N0, ⟨_, KP⟩, Or.inl ⟨rfl, ⟨xs, tq, rq, hq, ea, qa, wa, da, sa, vs, us, ws, ds, ss, hv_, tv, pv, mc, rh, rs, hd, tl, rn, sn, _, E_this, F_this_works, F_this_dueTimes, F_this_sequences, F_this_head, F_this_size, F_this_delayed, F_this_firstDelayed, A_wa, O_wa, A_da, A_sa, E_tq, F_tq_run, F_tq_order, F_tq_heap, E_rq, F_rq_elements, F_rq_head, F_rq_tail, A_ea, O_ea, E_hq, F_hq_queue, F_hq_comparator, F_hq_size, F_hq_modCount, A_qa, O_qa, O_lam, D_xs, g_this, g_rq, g_hq, g_ea, g_qa, g_wa, g_da, g_sa, ne_wa_da, ne_wa_sa, ne_da_sa, hr, hh, (Or.inl ⟨rfl, hk0⟩), hk, htl, hkj, hg, hds, hss⟩⟩⟩
  ·skip
   refine Run.x_ifYes (q := 99) X1 hx (hb hby d38_7) ((if0 _ _).trans (flt hc7).2.2.2) (by decide) (by decide) ?_
   refine Run.x_aloadN (q := 100) X1 hx (hb hby d38_99) rfl rfl rfl ?_
   refine Run.z_getF (q := 103) X1 hx hZ e1 hown (wm88 hw) F_this_firstDelayed (hb hby d38_100) rfl fun T16 X16 e16 => ?_
   refine Run.st (B := T16.setTop (mkF m 161 #[.val (.ref this), .val (.long now), .second, .val (.long bf), .second, .val .null] [])) (fun t kt => XS.ifnullYes X16.here hx rfl (pc0 := 103) (pc' := 161) rfl (hb hby d38_103) rfl (by decide) (by decide) kt) ?_
   refine Run.x_aload (q := 163) X16 hx (hb hby d38_161) rfl rfl rfl ?_
   refine Run.retA X16 hx hlk e16 (t := (.object "com/example/framewheel/framewheel/core/FrameCallback")) hret rfl rfl rfl (hb hby d38_163) (by decide) (by decide) ?_
   exact ⟨_, rfl, N0, ⟨_, KP⟩, Or.inl ⟨rfl, ⟨xs, tq, rq, hq, ea, qa, wa, da, sa, vs, us, ws, ds, ss, hv_, tv, pv, mc, rh, rs, hd, tl, rn, sn, _, E_this, F_this_works, F_this_dueTimes, F_this_sequences, F_this_head, F_this_size, F_this_delayed, F_this_firstDelayed, A_wa, O_wa, A_da, A_sa, E_tq, F_tq_run, F_tq_order, F_tq_heap, E_rq, F_rq_elements, F_rq_head, F_rq_tail, A_ea, O_ea, E_hq, F_hq_queue, F_hq_comparator, F_hq_size, F_hq_modCount, A_qa, O_qa, O_lam, D_xs, g_this, g_rq, g_hq, g_ea, g_qa, g_wa, g_da, g_sa, ne_wa_da, ne_wa_sa, ne_da_sa, hr, hh, (Or.inl ⟨rfl, hk0⟩), hk, htl, hkj, hg, hds, hss⟩⟩⟩
 ·skip
  obtain ⟨uw, ud, us_, E_ux, F_ux_work, F_ux_dueNanos, F_ux_sequence, hPu⟩ := D_xs ux hux
  refine Run.x_null (q := 1) X0 hx (hb hby d38_0)  rfl ?_
  refine Run.x_astore (q := 3) X0 hx #[.val (.ref this), .val (.long now), .second, .val (.long bf), .second, .val .null] (hb hby d38_1) rfl rfl rfl ?_
  refine Run.x_aloadN (q := 4) X0 hx (hb hby d38_3) rfl rfl rfl ?_
  refine Run.z_getF (q := 7) X0 hx hZ e0 hown (wm95 hw) F_this_size (hb hby d38_4) rfl fun T17 X17 e17 => ?_
  by_cases hc7 : (0 : Int32) < rs
  ·skip
   refine Run.x_ifNo (q := 10) X17 hx (hb hby d38_7) ((if0 _ _).trans (tlt hc7).2.2.2) rfl ?_
   refine Run.x_aloadN (q := 11) X17 hx (hb hby d38_10) rfl rfl rfl ?_
   refine Run.z_getF (q := 14) X17 hx hZ e17 hown (wm88 hw) F_this_firstDelayed (hb hby d38_11) rfl fun T18 X18 e18 => ?_
   refine Run.st (B := T18.setTop (mkF m 17 #[.val (.ref this), .val (.long now), .second, .val (.long bf), .second, .val .null] [])) (fun t kt => XS.ifnullNo X18.here hx rfl (hb hby d38_14) rfl kt) ?_
   refine Run.x_aloadN (q := 18) X18 hx (hb hby d38_17) rfl rfl rfl ?_
   refine Run.x_aloadN (q := 19) X18 hx (hb hby d38_18) rfl rfl rfl ?_
   refine Run.z_getF (q := 22) X18 hx hZ e18 hown (wm88 hw) F_this_firstDelayed (hb hby d38_19) rfl fun T19 X19 e19 => ?_
   refine own_callP X19 hx hH e19 (y := (⟨"com/example/framewheel/framewheel/core/PhaseQueue", "ringFirstOrdersBefore", "(Lcom/example/framewheel/framewheel/core/PhaseQueue$Delayed;)Z"⟩ : MethodName)) (y2 := (⟨"com/example/framewheel/framewheel/core/PhaseQueue", "hasDelayed", "()Z"⟩ : MethodName)) hown (wm196 hw) (wm197 hw) (wm198 hw) (wm86 hw) rfl (wm11 hw) (wm199 hw) (by decide) (a := this) E_this (argsL := [(.ref ux)]) (rest := []) (c_rfb l Z a0 hw this ux h0 n0 Z0 da sa ds ss rh rn dv sv ud us_ E_this F_this_dueTimes F_this_sequences F_this_head A_da A_sa E_ux F_ux_dueNanos F_ux_sequence hg.1 hdv hsv) pd_15 rfl (by rw [hml]; rfl) (W := 0) rfl (by decide) (by decide) (by decide) (by decide) (hb hby d38_22) rfl ?_
   intro T20 v20 L20 X20 q20
   obtain ⟨z20, rfl, M20, e20, hz20⟩ := q20
   have N20 := Fr.app N0 M20
   show Run p e below s _ _ _ (T20.setTop (mkF m 25 #[.val (.ref this), .val (.long now), .second, .val (.long bf), .second, .val .null] [(.int z20)]))
   rcases hz20 with rfl | rfl
   ·skip
    refine Run.x_ifYes (q := 99) X20 hx (hb hby d38_25) ((if0 _ _).trans (teq (by decide : (0 : Int32) = (0 : Int32))).1) (by decide) (by decide) ?_
    refine Run.x_aloadN (q := 100) X20 hx (hb hby d38_99) rfl rfl rfl ?_
    refine Run.z_getF (q := 103) X20 hx hZ e20 hown (wm88 hw) F_this_firstDelayed (hb hby d38_100) rfl fun T21 X21 e21 => ?_
    refine Run.st (B := T21.setTop (mkF m 106 #[.val (.ref this), .val (.long now), .second, .val (.long bf), .second, .val .null] [])) (fun t kt => XS.ifnullNo X21.here hx rfl (hb hby d38_103) rfl kt) ?_
    refine Run.x_aloadN (q := 107) X21 hx (hb hby d38_106) rfl rfl rfl ?_
    refine Run.z_getF (q := 110) X21 hx hZ e21 hown (wm88 hw) F_this_firstDelayed (hb hby d38_107) rfl fun T22 X22 e22 => ?_
    refine Run.callV X22 hx hH e22 (y := (⟨"com/example/framewheel/framewheel/core/PhaseQueue$Delayed", "dueNanos", "()J"⟩ : MethodName)) (z := (⟨"com/example/framewheel/framewheel/core/PhaseQueue$Delayed", "dueNanos", "()J"⟩ : MethodName)) hown (wm187 hw) (wm188 hw) (notFace_of_selects (args := #[]) (mvT hZ (wm190 hw))) (wm190 hw) (wm189 hw) (wm115 hw) (wm191 hw) (by decide) (a := ux) E_ux (argsL := []) (rest := []) (c_due l Z a0 hw ux h0 n0 Z0 ud E_ux F_ux_dueNanos) pd_0 rfl (by rw [hml]; rfl) (W := 0) rfl (by decide) (by decide) (by decide) (by decide) (hb hby d38_110) rfl ?_
    intro T23 v23 L23 X23 q23
    obtain ⟨rfl, M23, e23⟩ := q23
    have N23 := Fr.app N20 M23
    show Run p e below s _ _ _ (T23.setTop (mkF m 113 #[.val (.ref this), .val (.long now), .second, .val (.long bf), .second, .val .null] [(.long ud)]))
    refine Run.x_lloadN (q := 114) X23 hx (hb hby d38_113) rfl rfl ?_
    refine Run.x_lcmp (q := 115) X23 hx (hb hby d38_114)  rfl ?_
    by_cases hc115 : now < ud
    ·skip
     refine Run.x_ifYes (q := 161) X23 hx (hb hby d38_115) ((if0 _ _).trans (tlt ((lw_gt ud now).mpr hc115)).2.2.1) (by decide) (by decide) ?_
     refine Run.x_aload (q := 163) X23 hx (hb hby d38_161) rfl rfl rfl ?_
     refine Run.retA X23 hx hlk e23 (t := (.object "com/example/framewheel/framewheel/core/FrameCallback")) hret rfl rfl rfl (hb hby d38_163) (by decide) (by decide) ?_
     exact ⟨_, rfl, N23, ⟨_, KP⟩, Or.inl ⟨rfl, ⟨xs, tq, rq, hq, ea, qa, wa, da, sa, vs, us, ws, ds, ss, hv_, tv, pv, mc, rh, rs, hd, tl, rn, sn, _, E_this, F_this_works, F_this_dueTimes, F_this_sequences, F_this_head, F_this_size, F_this_delayed, F_this_firstDelayed, A_wa, O_wa, A_da, A_sa, E_tq, F_tq_run, F_tq_order, F_tq_heap, E_rq, F_rq_elements, F_rq_head, F_rq_tail, A_ea, O_ea, E_hq, F_hq_queue, F_hq_comparator, F_hq_size, F_hq_modCount, A_qa, O_qa, O_lam, D_xs, g_this, g_rq, g_hq, g_ea, g_qa, g_wa, g_da, g_sa, ne_wa_da, ne_wa_sa, ne_da_sa, hr, hh, (Or.inr ⟨ux, hux, rfl, hk0⟩), hk, htl, hkj, hg, hds, hss⟩⟩⟩
    ·skip
     refine Run.x_ifNo (q := 118) X23 hx (hb hby d38_115) ((if0 _ _).trans (flt (mt (lw_gt ud now).mp hc115)).2.2.1) rfl ?_
     refine Run.x_aloadN (q := 119) X23 hx (hb hby d38_118) rfl rfl rfl ?_
     refine Run.z_getF (q := 122) X23 hx hZ e23 hown (wm88 hw) F_this_firstDelayed (hb hby d38_119) rfl fun T24 X24 e24 => ?_
     refine Run.callV X24 hx hH e24 (y := (⟨"com/example/framewheel/framewheel/core/PhaseQueue$Delayed", "sequence", "()J"⟩ : MethodName)) (z := (⟨"com/example/framewheel/framewheel/core/PhaseQueue$Delayed", "sequence", "()J"⟩ : MethodName)) hown (wm200 hw) (wm201 hw) (notFace_of_selects (args := #[]) (mvT hZ (wm203 hw))) (wm203 hw) (wm202 hw) (wm115 hw) (wm204 hw) (by decide) (a := ux) E_ux (argsL := []) (rest := []) (c_seq l Z a0 hw ux h0 n0 Z0 us_ E_ux F_ux_sequence) pd_0 rfl (by rw [hml]; rfl) (W := 0) rfl (by decide) (by decide) (by decide) (by decide) (hb hby d38_122) rfl ?_
     intro T25 v25 L25 X25 q25
     obtain ⟨rfl, M25, e25⟩ := q25
     have N25 := Fr.app N23 M25
     show Run p e below s _ _ _ (T25.setTop (mkF m 125 #[.val (.ref this), .val (.long now), .second, .val (.long bf), .second, .val .null] [(.long us_)]))
     refine Run.x_lloadN (q := 126) X25 hx (hb hby d38_125) rfl rfl ?_
     refine Run.x_lcmp (q := 127) X25 hx (hb hby d38_126)  rfl ?_
     by_cases hc127 : us_ < bf
     ·skip
      refine Run.x_ifNo (q := 130) X25 hx (hb hby d38_127) ((if0 _ _).trans (tlt ((lw_lt us_ bf).mpr hc127)).2.1) rfl ?_
      refine Run.x_aloadN (q := 131) X25 hx (hb hby d38_130) rfl rfl rfl ?_
      refine Run.z_getF (q := 134) X25 hx hZ e25 hown (wm88 hw) F_this_firstDelayed (hb hby d38_131) rfl fun T26 X26 e26 => ?_
      refine Run.callV X26 hx hH e26 (y := (⟨"com/example/framewheel/framewheel/core/PhaseQueue$Delayed", "work", "()Lcom/example/framewheel/framewheel/core/FrameCallback;"⟩ : MethodName)) (z := (⟨"com/example/framewheel/framewheel/core/PhaseQueue$Delayed", "work", "()Lcom/example/framewheel/framewheel/core/FrameCallback;"⟩ : MethodName)) hown (wm205 hw) (wm206 hw) (notFace_of_selects (args := #[]) (mvT hZ (wm208 hw))) (wm208 hw) (wm207 hw) (wm115 hw) (wm209 hw) (by decide) (a := ux) E_ux (argsL := []) (rest := []) (c_wrk l Z a0 hw ux h0 n0 Z0 uw E_ux F_ux_work) pd_16 rfl (by rw [hml]; rfl) (W := 0) rfl (by decide) (by decide) (by decide) (by decide) (hb hby d38_134) rfl ?_
      intro T27 v27 L27 X27 q27
      obtain ⟨rfl, M27, e27⟩ := q27
      have N27 := Fr.app N25 M27
      show Run p e below s _ _ _ (T27.setTop (mkF m 137 #[.val (.ref this), .val (.long now), .second, .val (.long bf), .second, .val .null] [(.ref uw)]))
      refine Run.x_astore (q := 139) X27 hx #[.val (.ref this), .val (.long now), .second, .val (.long bf), .second, .val (.ref uw)] (hb hby d38_137) rfl rfl rfl ?_
      refine Run.x_aloadN (q := 140) X27 hx (hb hby d38_139) rfl rfl rfl ?_
      refine Run.z_getF (q := 143) X27 hx hZ e27 hown (wm81 hw) F_this_delayed (hb hby d38_140) rfl fun T28 X28 e28 => ?_
      have hne : ¬ hd = tl ∨ ¬ pv = 0 := Decidable.byContradiction fun q => by
       have q1 : hd = tl := Decidable.byContradiction fun a => q (Or.inl a)
       have q2 : pv = 0 := Decidable.byContradiction fun a => q (Or.inr a)
       rw [q1, q2] at hk
       have := own_pn; omega
      refine Run.callV X28 hx hH e28 (y := (⟨"com/example/framewheel/framewheel/core/TimeOrderedQueue", "poll", "()Ljava/lang/Object;"⟩ : MethodName)) (z := (⟨"com/example/framewheel/framewheel/core/TimeOrderedQueue", "poll", "()Ljava/lang/Object;"⟩ : MethodName)) hown (wm210 hw) (wm211 hw) (notFace_of_selects (args := #[]) (mvT hZ (wm213 hw))) (wm213 hw) (wm212 hw) (wm27 hw) (wm214 hw) (by decide) (a := tq) E_tq (argsL := []) (rest := []) (c_tpol l Z a0 hw tq h0 n0 Z0 cK P xs rq hq ea qa vs us hv_ tv pv mc hd tl lam E_tq F_tq_run F_tq_order F_tq_heap E_rq F_rq_elements F_rq_head F_rq_tail A_ea O_ea E_hq F_hq_queue F_hq_comparator F_hq_size F_hq_modCount A_qa O_qa O_lam D_xs g_rq g_hq g_ea g_qa ne_tq_rq ne_tq_hq ne_tq_ea ne_tq_qa ne_rq_hq ne_rq_ea ne_rq_qa ne_hq_ea ne_hq_qa ne_ea_qa ne_xs_tq ne_xs_rq ne_xs_hq ne_xs_ea ne_xs_qa hr hh hne) pd_8 rfl (by rw [hml]; rfl) (W := 0) rfl (by decide) (by decide) (by decide) (by decide) (hb hby d38_143) rfl ?_
      intro T29 v29 L29 X29 q29
      obtain ⟨pw29, rfl, M29, K29, hv29, tv29, pv29, mc29, hd29, tl29, vs29, us29, -, -, -, -, -, Fe29, Fh29, Ft29, Ae29, -, -, Fq29, Fc29, Fs29, Fm29, Aq29, -, -, -, rv29, hh29, cnt29, tle29⟩ := q29
      have N29 := Fr.app N27 M29
      show Run p e below s _ _ _ (T29.setTop (mkF m 146 #[.val (.ref this), .val (.long now), .second, .val (.long bf), .second, .val (.ref uw)] [(.ref pw29)]))
      have Z29 : n0 ≤ T29.heap.size := Nat.le_trans Z0 K29.1
      replace KP := KP.trans K29 (allS (Or.inl (by simp)) (allS (Or.inl (by simp)) (allS (Or.inl (by simp)) (allS (Or.inl (by simp)) all0))))
      refine Run.x_pop (q := 147) X29 hx (hb hby d38_146) rfl rfl ?_
      refine Run.x_aloadN (q := 148) X29 hx (hb hby d38_147) rfl rfl rfl ?_
      refine Run.x_aloadN (q := 149) X29 hx (hb hby d38_148) rfl rfl rfl ?_
      replace F_this_delayed := F_this_delayed.keep K29 (ninS ne_this_rq (ninS ne_this_ea (ninS ne_this_hq (ninS ne_this_qa nin0))))
      refine Run.z_getF (q := 152) X29 hx hZ rfl hown (wm81 hw) F_this_delayed (hb hby d38_149) rfl fun T30 X30 e30 => ?_
      replace E_tq := E_tq.keep K29
      replace F_tq_run := F_tq_run.keep K29 (ninS ne_tq_rq (ninS ne_tq_ea (ninS ne_tq_hq (ninS ne_tq_qa nin0))))
      replace F_tq_order := F_tq_order.keep K29 (ninS ne_tq_rq (ninS ne_tq_ea (ninS ne_tq_hq (ninS ne_tq_qa nin0))))
      replace F_tq_heap := F_tq_heap.keep K29 (ninS ne_tq_rq (ninS ne_tq_ea (ninS ne_tq_hq (ninS ne_tq_qa nin0))))
      replace E_rq := E_rq.keep K29
      replace O_ea := O_ea.keep K29
      replace E_hq := E_hq.keep K29
      replace O_qa := O_qa.keep K29
      replace O_lam := O_lam.keep K29
      replace D_xs := D_xs.keep K29 (own_dnS ne_xs_rq (own_dnS ne_xs_ea (own_dnS ne_xs_hq (own_dnS ne_xs_qa own_dn0))))
      refine Run.callV X30 hx hH e30 (y := (⟨"com/example/framewheel/framewheel/core/TimeOrderedQueue", "peek", "()Ljava/lang/Object;"⟩ : MethodName)) (z := (⟨"com/example/framewheel/framewheel/core/TimeOrderedQueue", "peek", "()Ljava/lang/Object;"⟩ : MethodName)) hown (wm166 hw) (wm167 hw) (notFace_of_selects (args := #[]) (mvT hZ (wm169 hw))) (wm169 hw) (wm168 hw) (wm27 hw) (wm170 hw) (by decide) (a := tq) E_tq (argsL := []) (rest := [(.ref this)]) (c_tpek l Z a0 hw tq T29.heap n0 Z29 cK P xs rq hq ea qa vs29 us29 hv29 tv29 pv29 mc29 hd29 tl29 lam E_tq F_tq_run F_tq_order F_tq_heap E_rq Fe29 Fh29 Ft29 Ae29 O_ea E_hq Fq29 Fc29 Fs29 Fm29 Aq29 O_qa O_lam D_xs rv29 hh29) pd_8 rfl (by rw [hml]; rfl) (W := 1) rfl (by decide) (by decide) (by decide) (by decide) (hb hby d38_152) rfl ?_
      intro T31 v31 L31 X31 q31
      obtain ⟨wv31, rfl, M31, e31, hw31⟩ := q31
      have N31 := Fr.app N29 M31
      show Run p e below s _ _ _ (T31.setTop (mkF m 155 #[.val (.ref this), .val (.long now), .second, .val (.long bf), .second, .val (.ref uw)] [wv31, (.ref this)]))
      rcases hw31 with ⟨rfl, hE0, hp0⟩ | ⟨uy, huy, rfl, hwh⟩
      ·skip
       rw [hE0, hp0] at cnt29
       show Run p e below s _ _ _ (T31.setTop (mkF m 155 #[.val (.ref this), .val (.long now), .second, .val (.long bf), .second, .val (.ref uw)] [.null, (.ref this)]))
       refine own_ccN (q := 158) X31 hx (hb hby d38_155) rfl ?_
       replace F_this_firstDelayed := F_this_firstDelayed.keep K29 (ninS ne_this_rq (ninS ne_this_ea (ninS ne_this_hq (ninS ne_this_qa nin0))))
       replace E_this := E_this.keep K29
       obtain ⟨T33, h33, X33, e33, W33, st33⟩ := putF X31 hx hZ hown (host := "") (Or.inl (wm88 hw)) Via.refl e31 F_this_firstDelayed E_this (Or.inl (wm89 hw)) (wm10 hw) (ty := (.object "com/example/framewheel/framewheel/core/PhaseQueue$Delayed")) (by decide) rfl rfl (g := (mkF m 158 #[.val (.ref this), .val (.long now), .second, .val (.long bf), .second, .val (.ref uw)] [.null, (.ref this)])) rfl rfl (hb hby d38_158)
       replace F_this_firstDelayed := F_this_firstDelayed.same W33
       have Z33 : n0 ≤ h33.size := Nat.le_trans Z29 (Nat.le_of_eq W33.size.symm)
       replace KP := KP.wr W33 (Or.inl (by simp))
       have N33 := Fr.snoc X33 N31 g_this
       refine Run.st st33 ?_
       show Run p e below s _ _ _ (T33.setTop (mkF m 161 #[.val (.ref this), .val (.long now), .second, .val (.long bf), .second, .val (.ref uw)] []))
       refine Run.x_aload (q := 163) X33 hx (hb hby d38_161) rfl rfl rfl ?_
       replace E_this := E_this.wr W33
       replace F_this_works := (F_this_works.keep K29 (ninS ne_this_rq (ninS ne_this_ea (ninS ne_this_hq (ninS ne_this_qa nin0))))).other W33 (Or.inr (slot_ne (Or.inl (wm19 hw)) (Or.inl (wm89 hw)) (by decide) (t := (.array (.object "com/example/framewheel/framewheel/core/FrameCallback"))) (t' := (.object "com/example/framewheel/framewheel/core/PhaseQueue$Delayed")) (by decide) (by decide)))
       replace F_this_dueTimes := (F_this_dueTimes.keep K29 (ninS ne_this_rq (ninS ne_this_ea (ninS ne_this_hq (ninS ne_this_qa nin0))))).other W33 (Or.inr (slot_ne (Or.inl (wm22 hw)) (Or.inl (wm89 hw)) (by decide) (t := (.array .long)) (t' := (.object "com/example/framewheel/framewheel/core/PhaseQueue$Delayed")) (by decide) (by decide)))
       replace F_this_sequences := (F_this_sequences.keep K29 (ninS ne_this_rq (ninS ne_this_ea (ninS ne_this_hq (ninS ne_this_qa nin0))))).other W33 (Or.inr (slot_ne (Or.inl (wm24 hw)) (Or.inl (wm89 hw)) (by decide) (t := (.array .long)) (t' := (.object "com/example/framewheel/framewheel/core/PhaseQueue$Delayed")) (by decide) (by decide)))
       replace F_this_head := (F_this_head.keep K29 (ninS ne_this_rq (ninS ne_this_ea (ninS ne_this_hq (ninS ne_this_qa nin0))))).other W33 (Or.inr (slot_ne (Or.inl (wm102 hw)) (Or.inl (wm89 hw)) (by decide) (t := .int) (t' := (.object "com/example/framewheel/framewheel/core/PhaseQueue$Delayed")) (by decide) (by decide)))
       replace F_this_size := (F_this_size.keep K29 (ninS ne_this_rq (ninS ne_this_ea (ninS ne_this_hq (ninS ne_this_qa nin0))))).other W33 (Or.inr (slot_ne (Or.inl (wm96 hw)) (Or.inl (wm89 hw)) (by decide) (t := .int) (t' := (.object "com/example/framewheel/framewheel/core/PhaseQueue$Delayed")) (by decide) (by decide)))
       replace F_this_delayed := F_this_delayed.other W33 (Or.inr (slot_ne (Or.inr (wm82 hw)) (Or.inl (wm89 hw)) (by decide) (t := (.object "com/example/framewheel/framewheel/core/TimeOrderedQueue")) (t' := (.object "com/example/framewheel/framewheel/core/PhaseQueue$Delayed")) (by decide) (by decide)))
       replace A_wa := (A_wa.keep K29 (ninS (Ne.symm ne_rq_wa) (ninS (Ne.symm ne_ea_wa) (ninS (Ne.symm ne_hq_wa) (ninS (Ne.symm ne_qa_wa) nin0))))).other W33 (Ne.symm ne_this_wa)
       replace O_wa := (O_wa.keep K29).wr W33
       replace A_da := (A_da.keep K29 (ninS (Ne.symm ne_rq_da) (ninS (Ne.symm ne_ea_da) (ninS (Ne.symm ne_hq_da) (ninS (Ne.symm ne_qa_da) nin0))))).other W33 (Ne.symm ne_this_da)
       replace A_sa := (A_sa.keep K29 (ninS (Ne.symm ne_rq_sa) (ninS (Ne.symm ne_ea_sa) (ninS (Ne.symm ne_hq_sa) (ninS (Ne.symm ne_qa_sa) nin0))))).other W33 (Ne.symm ne_this_sa)
       replace E_tq := E_tq.wr W33
       replace F_tq_run := F_tq_run.other W33 (Or.inl (Ne.symm ne_this_tq))
       replace F_tq_order := F_tq_order.other W33 (Or.inl (Ne.symm ne_this_tq))
       replace F_tq_heap := F_tq_heap.other W33 (Or.inl (Ne.symm ne_this_tq))
       replace E_rq := E_rq.wr W33
       replace O_ea := O_ea.wr W33
       replace E_hq := E_hq.wr W33
       replace O_qa := O_qa.wr W33
       replace O_lam := O_lam.wr W33
       replace D_xs := D_xs.other W33 ne_xs_this
       replace E_ux := (E_ux.keep K29).wr W33
       replace Fe29 := Fe29.other W33 (Or.inl (Ne.symm ne_this_rq))
       replace Fh29 := Fh29.other W33 (Or.inl (Ne.symm ne_this_rq))
       replace Ft29 := Ft29.other W33 (Or.inl (Ne.symm ne_this_rq))
       replace Ae29 := Ae29.other W33 (Ne.symm ne_this_ea)
       replace Fq29 := Fq29.other W33 (Or.inl (Ne.symm ne_this_hq))
       replace Fc29 := Fc29.other W33 (Or.inl (Ne.symm ne_this_hq))
       replace Fs29 := Fs29.other W33 (Or.inl (Ne.symm ne_this_hq))
       replace Fm29 := Fm29.other W33 (Or.inl (Ne.symm ne_this_hq))
       replace Aq29 := Aq29.other W33 (Ne.symm ne_this_qa)
       refine Run.retA X33 hx hlk e33 (t := (.object "com/example/framewheel/framewheel/core/FrameCallback")) hret rfl rfl rfl (hb hby d38_163) (by decide) (by decide) ?_
       exact ⟨_, rfl, N33, ⟨_, KP⟩, Or.inr (Or.inr ⟨uw, rfl, hPu, 0, by have := own_pn; omega, ⟨xs, tq, rq, hq, ea, qa, wa, da, sa, _, _, ws, ds, ss, _, _, _, _, rh, rs, _, _, rn, sn, _, E_this, F_this_works, F_this_dueTimes, F_this_sequences, F_this_head, F_this_size, F_this_delayed, F_this_firstDelayed, A_wa, O_wa, A_da, A_sa, E_tq, F_tq_run, F_tq_order, F_tq_heap, E_rq, Fe29, Fh29, Ft29, Ae29, O_ea, E_hq, Fq29, Fc29, Fs29, Fm29, Aq29, O_qa, O_lam, D_xs, g_this, g_rq, g_hq, g_ea, g_qa, g_wa, g_da, g_sa, ne_wa_da, ne_wa_sa, ne_da_sa, rv29, hh29, (Or.inl ⟨rfl, rfl⟩), (by rw [hE0, hp0]; have := own_pn; omega), (by omega), (by omega), hg, hds, hss⟩⟩)⟩
      ·skip
       obtain ⟨_, _, _, E_uy, -⟩ := D_xs uy huy
       have hpos : 0 < (tl29 - hd29) + pv29.toInt.toNat := by
        rcases hwh with ⟨h1, -⟩ | h1
        ·have := rv29.2.2.1; omega
        ·have := own_pvpos hh29 h1; omega
       show Run p e below s _ _ _ (T31.setTop (mkF m 155 #[.val (.ref this), .val (.long now), .second, .val (.long bf), .second, .val (.ref uw)] [(.ref uy), (.ref this)]))
       refine own_cc (q := 158) X31 hx hZ e31 hown (wm113 hw) (wm181 hw) E_uy (hb hby d38_155) rfl fun T34 X34 e34 => ?_
       replace F_this_firstDelayed := F_this_firstDelayed.keep K29 (ninS ne_this_rq (ninS ne_this_ea (ninS ne_this_hq (ninS ne_this_qa nin0))))
       replace E_this := E_this.keep K29
       obtain ⟨T35, h35, X35, e35, W35, st35⟩ := putF X34 hx hZ hown (host := "") (Or.inl (wm88 hw)) Via.refl e34 F_this_firstDelayed E_this (Or.inl (wm89 hw)) (wm10 hw) (ty := (.object "com/example/framewheel/framewheel/core/PhaseQueue$Delayed")) (by decide) rfl rfl (g := (mkF m 158 #[.val (.ref this), .val (.long now), .second, .val (.long bf), .second, .val (.ref uw)] [(.ref uy), (.ref this)])) rfl rfl (hb hby d38_158)
       replace F_this_firstDelayed := F_this_firstDelayed.same W35
       have Z35 : n0 ≤ h35.size := Nat.le_trans Z29 (Nat.le_of_eq W35.size.symm)
       replace KP := KP.wr W35 (Or.inl (by simp))
       have N35 := Fr.snoc X35 N31 g_this
       refine Run.st st35 ?_
       show Run p e below s _ _ _ (T35.setTop (mkF m 161 #[.val (.ref this), .val (.long now), .second, .val (.long bf), .second, .val (.ref uw)] []))
       refine Run.x_aload (q := 163) X35 hx (hb hby d38_161) rfl rfl rfl ?_
       replace E_this := E_this.wr W35
       replace F_this_works := (F_this_works.keep K29 (ninS ne_this_rq (ninS ne_this_ea (ninS ne_this_hq (ninS ne_this_qa nin0))))).other W35 (Or.inr (slot_ne (Or.inl (wm19 hw)) (Or.inl (wm89 hw)) (by decide) (t := (.array (.object "com/example/framewheel/framewheel/core/FrameCallback"))) (t' := (.object "com/example/framewheel/framewheel/core/PhaseQueue$Delayed")) (by decide) (by decide)))
       replace F_this_dueTimes := (F_this_dueTimes.keep K29 (ninS ne_this_rq (ninS ne_this_ea (ninS ne_this_hq (ninS ne_this_qa nin0))))).other W35 (Or.inr (slot_ne (Or.inl (wm22 hw)) (Or.inl (wm89 hw)) (by decide) (t := (.array .long)) (t' := (.object "com/example/framewheel/framewheel/core/PhaseQueue$Delayed")) (by decide) (by decide)))
       replace F_this_sequences := (F_this_sequences.keep K29 (ninS ne_this_rq (ninS ne_this_ea (ninS ne_this_hq (ninS ne_this_qa nin0))))).other W35 (Or.inr (slot_ne (Or.inl (wm24 hw)) (Or.inl (wm89 hw)) (by decide) (t := (.array .long)) (t' := (.object "com/example/framewheel/framewheel/core/PhaseQueue$Delayed")) (by decide) (by decide)))
       replace F_this_head := (F_this_head.keep K29 (ninS ne_this_rq (ninS ne_this_ea (ninS ne_this_hq (ninS ne_this_qa nin0))))).other W35 (Or.inr (slot_ne (Or.inl (wm102 hw)) (Or.inl (wm89 hw)) (by decide) (t := .int) (t' := (.object "com/example/framewheel/framewheel/core/PhaseQueue$Delayed")) (by decide) (by decide)))
       replace F_this_size := (F_this_size.keep K29 (ninS ne_this_rq (ninS ne_this_ea (ninS ne_this_hq (ninS ne_this_qa nin0))))).other W35 (Or.inr (slot_ne (Or.inl (wm96 hw)) (Or.inl (wm89 hw)) (by decide) (t := .int) (t' := (.object "com/example/framewheel/framewheel/core/PhaseQueue$Delayed")) (by decide) (by decide)))
       replace F_this_delayed := F_this_delayed.other W35 (Or.inr (slot_ne (Or.inr (wm82 hw)) (Or.inl (wm89 hw)) (by decide) (t := (.object "com/example/framewheel/framewheel/core/TimeOrderedQueue")) (t' := (.object "com/example/framewheel/framewheel/core/PhaseQueue$Delayed")) (by decide) (by decide)))
       replace A_wa := (A_wa.keep K29 (ninS (Ne.symm ne_rq_wa) (ninS (Ne.symm ne_ea_wa) (ninS (Ne.symm ne_hq_wa) (ninS (Ne.symm ne_qa_wa) nin0))))).other W35 (Ne.symm ne_this_wa)
       replace O_wa := (O_wa.keep K29).wr W35
       replace A_da := (A_da.keep K29 (ninS (Ne.symm ne_rq_da) (ninS (Ne.symm ne_ea_da) (ninS (Ne.symm ne_hq_da) (ninS (Ne.symm ne_qa_da) nin0))))).other W35 (Ne.symm ne_this_da)
       replace A_sa := (A_sa.keep K29 (ninS (Ne.symm ne_rq_sa) (ninS (Ne.symm ne_ea_sa) (ninS (Ne.symm ne_hq_sa) (ninS (Ne.symm ne_qa_sa) nin0))))).other W35 (Ne.symm ne_this_sa)
       replace E_tq := E_tq.wr W35
       replace F_tq_run := F_tq_run.other W35 (Or.inl (Ne.symm ne_this_tq))
       replace F_tq_order := F_tq_order.other W35 (Or.inl (Ne.symm ne_this_tq))
       replace F_tq_heap := F_tq_heap.other W35 (Or.inl (Ne.symm ne_this_tq))
       replace E_rq := E_rq.wr W35
       replace O_ea := O_ea.wr W35
       replace E_hq := E_hq.wr W35
       replace O_qa := O_qa.wr W35
       replace O_lam := O_lam.wr W35
       replace D_xs := D_xs.other W35 ne_xs_this
       replace E_ux := (E_ux.keep K29).wr W35
       replace Fe29 := Fe29.other W35 (Or.inl (Ne.symm ne_this_rq))
       replace Fh29 := Fh29.other W35 (Or.inl (Ne.symm ne_this_rq))
       replace Ft29 := Ft29.other W35 (Or.inl (Ne.symm ne_this_rq))
       replace Ae29 := Ae29.other W35 (Ne.symm ne_this_ea)
       replace Fq29 := Fq29.other W35 (Or.inl (Ne.symm ne_this_hq))
       replace Fc29 := Fc29.other W35 (Or.inl (Ne.symm ne_this_hq))
       replace Fs29 := Fs29.other W35 (Or.inl (Ne.symm ne_this_hq))
       replace Fm29 := Fm29.other W35 (Or.inl (Ne.symm ne_this_hq))
       replace Aq29 := Aq29.other W35 (Ne.symm ne_this_qa)
       replace E_uy := E_uy.wr W35
       refine Run.retA X35 hx hlk e35 (t := (.object "com/example/framewheel/framewheel/core/FrameCallback")) hret rfl rfl rfl (hb hby d38_163) (by decide) (by decide) ?_
       exact ⟨_, rfl, N35, ⟨_, KP⟩, Or.inr (Or.inr ⟨uw, rfl, hPu, ((tl29 - hd29) + pv29.toInt.toNat), by omega, ⟨xs, tq, rq, hq, ea, qa, wa, da, sa, _, _, ws, ds, ss, _, _, _, _, rh, rs, _, _, rn, sn, _, E_this, F_this_works, F_this_dueTimes, F_this_sequences, F_this_head, F_this_size, F_this_delayed, F_this_firstDelayed, A_wa, O_wa, A_da, A_sa, E_tq, F_tq_run, F_tq_order, F_tq_heap, E_rq, Fe29, Fh29, Ft29, Ae29, O_ea, E_hq, Fq29, Fc29, Fs29, Fm29, Aq29, O_qa, O_lam, D_xs, g_this, g_rq, g_hq, g_ea, g_qa, g_wa, g_da, g_sa, ne_wa_da, ne_wa_sa, ne_da_sa, rv29, hh29, (Or.inr ⟨uy, huy, rfl, hpos⟩), rfl, (by omega), (by omega), hg, hds, hss⟩⟩)⟩
     ·skip
      refine Run.x_ifYes (q := 161) X25 hx (hb hby d38_127) ((if0 _ _).trans (flt (mt (lw_lt us_ bf).mp hc127)).2.1) (by decide) (by decide) ?_
      refine Run.x_aload (q := 163) X25 hx (hb hby d38_161) rfl rfl rfl ?_
      refine Run.retA X25 hx hlk e25 (t := (.object "com/example/framewheel/framewheel/core/FrameCallback")) hret rfl rfl rfl (hb hby d38_163) (by decide) (by decide) ?_
      exact ⟨_, rfl, N25, ⟨_, KP⟩, Or.inl ⟨rfl, ⟨xs, tq, rq, hq, ea, qa, wa, da, sa, vs, us, ws, ds, ss, hv_, tv, pv, mc, rh, rs, hd, tl, rn, sn, _, E_this, F_this_works, F_this_dueTimes, F_this_sequences, F_this_head, F_this_size, F_this_delayed, F_this_firstDelayed, A_wa, O_wa, A_da, A_sa, E_tq, F_tq_run, F_tq_order, F_tq_heap, E_rq, F_rq_elements, F_rq_head, F_rq_tail, A_ea, O_ea, E_hq, F_hq_queue, F_hq_comparator, F_hq_size, F_hq_modCount, A_qa, O_qa, O_lam, D_xs, g_this, g_rq, g_hq, g_ea, g_qa, g_wa, g_da, g_sa, ne_wa_da, ne_wa_sa, ne_da_sa, hr, hh, (Or.inr ⟨ux, hux, rfl, hk0⟩), hk, htl, hkj, hg, hds, hss⟩⟩⟩
   ·skip
    refine Run.x_ifNo (q := 28) X20 hx (hb hby d38_25) ((if0 _ _).trans (feq (by decide : ¬ ((1 : Int32) = (0 : Int32)))).1) rfl ?_
    refine Run.x_aloadN (q := 29) X20 hx (hb hby d38_28) rfl rfl rfl ?_
    refine Run.z_getF (q := 32) X20 hx hZ e20 hown (wm21 hw) F_this_dueTimes (hb hby d38_29) rfl fun T36 X36 e36 => ?_
    refine Run.x_aloadN (q := 33) X36 hx (hb hby d38_32) rfl rfl rfl ?_
    refine Run.z_getF (q := 36) X36 hx hZ e36 hown (wm101 hw) F_this_head (hb hby d38_33) rfl fun T37 X37 e37 => ?_
    refine Run.y_ldJ (q := 37) X37 hx hZ e37 A_da (i := rn) (v := (.long dv)) hg.1 hdv (hb hby d38_36) rfl ?_
    refine Run.x_lloadN (q := 38) X37 hx (hb hby d38_37) rfl rfl ?_
    refine Run.x_lcmp (q := 39) X37 hx (hb hby d38_38)  rfl ?_
    by_cases hc39 : now < dv
    ·skip
     refine Run.x_ifYes (q := 161) X37 hx (hb hby d38_39) ((if0 _ _).trans (tlt ((lw_gt dv now).mpr hc39)).2.2.1) (by decide) (by decide) ?_
     refine Run.x_aload (q := 163) X37 hx (hb hby d38_161) rfl rfl rfl ?_
     refine Run.retA X37 hx hlk e37 (t := (.object "com/example/framewheel/framewheel/core/FrameCallback")) hret rfl rfl rfl (hb hby d38_163) (by decide) (by decide) ?_
     exact ⟨_, rfl, N20, ⟨_, KP⟩, Or.inl ⟨rfl, ⟨xs, tq, rq, hq, ea, qa, wa, da, sa, vs, us, ws, ds, ss, hv_, tv, pv, mc, rh, rs, hd, tl, rn, sn, _, E_this, F_this_works, F_this_dueTimes, F_this_sequences, F_this_head, F_this_size, F_this_delayed, F_this_firstDelayed, A_wa, O_wa, A_da, A_sa, E_tq, F_tq_run, F_tq_order, F_tq_heap, E_rq, F_rq_elements, F_rq_head, F_rq_tail, A_ea, O_ea, E_hq, F_hq_queue, F_hq_comparator, F_hq_size, F_hq_modCount, A_qa, O_qa, O_lam, D_xs, g_this, g_rq, g_hq, g_ea, g_qa, g_wa, g_da, g_sa, ne_wa_da, ne_wa_sa, ne_da_sa, hr, hh, (Or.inr ⟨ux, hux, rfl, hk0⟩), hk, htl, hkj, hg, hds, hss⟩⟩⟩
    ·skip
     refine Run.x_ifNo (q := 42) X37 hx (hb hby d38_39) ((if0 _ _).trans (flt (mt (lw_gt dv now).mp hc39)).2.2.1) rfl ?_
     refine Run.x_aloadN (q := 43) X37 hx (hb hby d38_42) rfl rfl rfl ?_
     refine Run.z_getF (q := 46) X37 hx hZ e37 hown (wm23 hw) F_this_sequences (hb hby d38_43) rfl fun T38 X38 e38 => ?_
     refine Run.x_aloadN (q := 47) X38 hx (hb hby d38_46) rfl rfl rfl ?_
     refine Run.z_getF (q := 50) X38 hx hZ e38 hown (wm101 hw) F_this_head (hb hby d38_47) rfl fun T39 X39 e39 => ?_
     refine Run.y_ldJ (q := 51) X39 hx hZ e39 A_sa (i := rn) (v := (.long sv)) hg.1 hsv (hb hby d38_50) rfl ?_
     refine Run.x_lloadN (q := 52) X39 hx (hb hby d38_51) rfl rfl ?_
     refine Run.x_lcmp (q := 53) X39 hx (hb hby d38_52)  rfl ?_
     by_cases hc53 : sv < bf
     ·skip
      refine Run.x_ifNo (q := 56) X39 hx (hb hby d38_53) ((if0 _ _).trans (tlt ((lw_lt sv bf).mpr hc53)).2.1) rfl ?_
      have hsp : 0 < sn := (own_sn hg.2.1).mp hc7
      obtain ⟨wt, hwt, hPt⟩ := hg.2.2.2.2 rn (Nat.le_refl _) (by omega)
      refine Run.x_aloadN (q := 57) X39 hx (hb hby d38_56) rfl rfl rfl ?_
      refine Run.z_getF (q := 60) X39 hx hZ e39 hown (wm18 hw) F_this_works (hb hby d38_57) rfl fun T40 X40 e40 => ?_
      refine Run.x_aloadN (q := 61) X40 hx (hb hby d38_60) rfl rfl rfl ?_
      refine Run.z_getF (q := 64) X40 hx hZ e40 hown (wm101 hw) F_this_head (hb hby d38_61) rfl fun T41 X41 e41 => ?_
      refine Run.y_ldR (q := 65) X41 hx hZ e41 A_wa (i := rn) (v := (.ref wt)) hg.1 hwt rfl (hb hby d38_64) rfl ?_
      refine Run.x_astore (q := 67) X41 hx #[.val (.ref this), .val (.long now), .second, .val (.long bf), .second, .val (.ref wt)] (hb hby d38_65) rfl rfl rfl ?_
      refine Run.x_aloadN (q := 68) X41 hx (hb hby d38_67) rfl rfl rfl ?_
      refine Run.z_getF (q := 71) X41 hx hZ e41 hown (wm18 hw) F_this_works (hb hby d38_68) rfl fun T42 X42 e42 => ?_
      refine Run.x_aloadN (q := 72) X42 hx (hb hby d38_71) rfl rfl rfl ?_
      refine Run.z_getF (q := 75) X42 hx hZ e42 hown (wm101 hw) F_this_head (hb hby d38_72) rfl fun T43 X43 e43 => ?_
      refine Run.x_null (q := 76) X43 hx (hb hby d38_75)  rfl ?_
      refine Run.y_stR (q := 77) X43 hx hZ e43 A_wa (i := rn) hg.1 (by have := hg.2.2.1; omega) rfl (Or.inl rfl) (hb hby d38_76) rfl fun T44 h44 X44 e44 W44 A44 => ?_
      replace A_wa : Ars Z h44 wa (.object "com/example/framewheel/framewheel/core/FrameCallback") (ws.set rn .null) := A44
      replace KP := KP.wr W44 (Or.inl (by simp))
      have N44 := Fr.snoc X44 N20 g_wa
      have Z44 : n0 ≤ h44.size := Nat.le_trans Z0 (Nat.le_of_eq W44.size.symm)
      refine Run.x_aloadN (q := 78) X44 hx (hb hby d38_77) rfl rfl rfl ?_
      refine Run.x_aloadN (q := 79) X44 hx (hb hby d38_78) rfl rfl rfl ?_
      refine Run.x_iconst (q := 80) X44 hx (hb hby d38_79) (z := (1 : Int32)) rfl rfl ?_
      obtain ⟨zs, hzs, hzi⟩ := own_slot hg.1 (i' := 1) (b := 1) (by decide) (by have := hg.2.2.1; omega)
      replace E_this := E_this.wr W44
      replace F_this_head := F_this_head.other W44 (Or.inl ne_this_wa)
      replace F_this_works := F_this_works.other W44 (Or.inl ne_this_wa)
      refine own_callP X44 hx hH e44 (y := (⟨"com/example/framewheel/framewheel/core/PhaseQueue", "slot", "(I)I"⟩ : MethodName)) (y2 := (⟨"com/example/framewheel/framewheel/core/PhaseQueue", "hasDelayed", "()Z"⟩ : MethodName)) hown (wm97 hw) (wm98 hw) (wm99 hw) (wm86 hw) rfl (wm11 hw) (wm100 hw) (by decide) (a := this) E_this (argsL := [(.int 1)]) (rest := [(.ref this)]) (c_slot l Z a0 hw this (1 : Int32) h44 n0 Z44 wa (ws.set rn .null) rh zs E_this F_this_head F_this_works A_wa (by rw [List.length_set]; exact lw) hzs) pd_13 rfl (by rw [hml]; rfl) (W := 1) rfl (by decide) (by decide) (by decide) (by decide) (hb hby d38_80) rfl ?_
      intro T45 v45 L45 X45 q45
      obtain ⟨rfl, M45, e45⟩ := q45
      have N45 := Fr.app N44 M45
      show Run p e below s _ _ _ (T45.setTop (mkF m 83 #[.val (.ref this), .val (.long now), .second, .val (.long bf), .second, .val (.ref wt)] [(.int zs), (.ref this)]))
      obtain ⟨T46, h46, X46, e46, W46, st46⟩ := putF X45 hx hZ hown (host := "") (Or.inl (wm101 hw)) Via.refl e45 F_this_head E_this (Or.inl (wm102 hw)) (wm10 hw) (ty := .int) (by decide) rfl rfl (g := (mkF m 83 #[.val (.ref this), .val (.long now), .second, .val (.long bf), .second, .val (.ref wt)] [(.int zs), (.ref this)])) rfl rfl (hb hby d38_83)
      replace F_this_head := F_this_head.same W46
      have Z46 : n0 ≤ h46.size := Nat.le_trans Z44 (Nat.le_of_eq W46.size.symm)
      replace KP := KP.wr W46 (Or.inl (by simp))
      have N46 := Fr.snoc X46 N45 g_this
      refine Run.st st46 ?_
      show Run p e below s _ _ _ (T46.setTop (mkF m 86 #[.val (.ref this), .val (.long now), .second, .val (.long bf), .second, .val (.ref wt)] []))
      refine Run.x_aloadN (q := 87) X46 hx (hb hby d38_86) rfl rfl rfl ?_
      refine Run.x_dup (q := 88) X46 hx (hb hby d38_87) rfl rfl ?_
      replace F_this_size := (F_this_size.other W44 (Or.inl ne_this_wa)).other W46 (Or.inr (slot_ne (Or.inl (wm96 hw)) (Or.inl (wm102 hw)) (by decide) (t := .int) (t' := .int) (by decide) (by decide)))
      refine Run.z_getF (q := 91) X46 hx hZ e46 hown (wm95 hw) F_this_size (hb hby d38_88) rfl fun T47 X47 e47 => ?_
      refine Run.x_iconst (q := 92) X47 hx (hb hby d38_91) (z := (1 : Int32)) rfl rfl ?_
      refine Run.x_isub (q := 93) X47 hx (hb hby d38_92) rfl rfl ?_
      replace E_this := E_this.wr W46
      obtain ⟨T48, h48, X48, e48, W48, st48⟩ := putF X47 hx hZ hown (host := "") (Or.inl (wm95 hw)) Via.refl e47 F_this_size E_this (Or.inl (wm96 hw)) (wm10 hw) (ty := .int) (by decide) rfl rfl (g := (mkF m 93 #[.val (.ref this), .val (.long now), .second, .val (.long bf), .second, .val (.ref wt)] [(.int (rs - (1 : Int32))), (.ref this)])) rfl rfl (hb hby d38_93)
      replace F_this_size := F_this_size.same W48
      have Z48 : n0 ≤ h48.size := Nat.le_trans Z46 (Nat.le_of_eq W48.size.symm)
      replace KP := KP.wr W48 (Or.inl (by simp))
      have N48 := Fr.snoc X48 N46 g_this
      refine Run.st st48 ?_
      show Run p e below s _ _ _ (T48.setTop (mkF m 96 #[.val (.ref this), .val (.long now), .second, .val (.long bf), .second, .val (.ref wt)] []))
      refine Run.x_goto (q := 161) X48 hx (hb hby d38_96) (by decide) (by decide) ?_
      refine Run.x_aload (q := 163) X48 hx (hb hby d38_161) rfl rfl rfl ?_
      replace E_this := E_this.wr W48
      replace F_this_works := (F_this_works.other W46 (Or.inr (slot_ne (Or.inl (wm19 hw)) (Or.inl (wm102 hw)) (by decide) (t := (.array (.object "com/example/framewheel/framewheel/core/FrameCallback"))) (t' := .int) (by decide) (by decide)))).other W48 (Or.inr (slot_ne (Or.inl (wm19 hw)) (Or.inl (wm96 hw)) (by decide) (t := (.array (.object "com/example/framewheel/framewheel/core/FrameCallback"))) (t' := .int) (by decide) (by decide)))
      replace F_this_dueTimes := ((F_this_dueTimes.other W44 (Or.inl ne_this_wa)).other W46 (Or.inr (slot_ne (Or.inl (wm22 hw)) (Or.inl (wm102 hw)) (by decide) (t := (.array .long)) (t' := .int) (by decide) (by decide)))).other W48 (Or.inr (slot_ne (Or.inl (wm22 hw)) (Or.inl (wm96 hw)) (by decide) (t := (.array .long)) (t' := .int) (by decide) (by decide)))
      replace F_this_sequences := ((F_this_sequences.other W44 (Or.inl ne_this_wa)).other W46 (Or.inr (slot_ne (Or.inl (wm24 hw)) (Or.inl (wm102 hw)) (by decide) (t := (.array .long)) (t' := .int) (by decide) (by decide)))).other W48 (Or.inr (slot_ne (Or.inl (wm24 hw)) (Or.inl (wm96 hw)) (by decide) (t := (.array .long)) (t' := .int) (by decide) (by decide)))
      replace F_this_head := F_this_head.other W48 (Or.inr (slot_ne (Or.inl (wm102 hw)) (Or.inl (wm96 hw)) (by decide) (t := .int) (t' := .int) (by decide) (by decide)))
      replace F_this_delayed := ((F_this_delayed.other W44 (Or.inl ne_this_wa)).other W46 (Or.inr (slot_ne (Or.inr (wm82 hw)) (Or.inl (wm102 hw)) (by decide) (t := (.object "com/example/framewheel/framewheel/core/TimeOrderedQueue")) (t' := .int) (by decide) (by decide)))).other W48 (Or.inr (slot_ne (Or.inr (wm82 hw)) (Or.inl (wm96 hw)) (by decide) (t := (.object "com/example/framewheel/framewheel/core/TimeOrderedQueue")) (t' := .int) (by decide) (by decide)))
      replace F_this_firstDelayed := ((F_this_firstDelayed.other W44 (Or.inl ne_this_wa)).other W46 (Or.inr (slot_ne (Or.inl (wm89 hw)) (Or.inl (wm102 hw)) (by decide) (t := (.object "com/example/framewheel/framewheel/core/PhaseQueue$Delayed")) (t' := .int) (by decide) (by decide)))).other W48 (Or.inr (slot_ne (Or.inl (wm89 hw)) (Or.inl (wm96 hw)) (by decide) (t := (.object "com/example/framewheel/framewheel/core/PhaseQueue$Delayed")) (t' := .int) (by decide) (by decide)))
      replace A_wa := (A_wa.other W46 (Ne.symm ne_this_wa)).other W48 (Ne.symm ne_this_wa)
      replace O_wa := ((O_wa.wr W44).wr W46).wr W48
      replace A_da := ((A_da.other W44 (Ne.symm ne_wa_da)).other W46 (Ne.symm ne_this_da)).other W48 (Ne.symm ne_this_da)
      replace A_sa := ((A_sa.other W44 (Ne.symm ne_wa_sa)).other W46 (Ne.symm ne_this_sa)).other W48 (Ne.symm ne_this_sa)
      replace E_tq := ((E_tq.wr W44).wr W46).wr W48
      replace F_tq_run := ((F_tq_run.other W44 (Or.inl ne_tq_wa)).other W46 (Or.inl (Ne.symm ne_this_tq))).other W48 (Or.inl (Ne.symm ne_this_tq))
      replace F_tq_order := ((F_tq_order.other W44 (Or.inl ne_tq_wa)).other W46 (Or.inl (Ne.symm ne_this_tq))).other W48 (Or.inl (Ne.symm ne_this_tq))
      replace F_tq_heap := ((F_tq_heap.other W44 (Or.inl ne_tq_wa)).other W46 (Or.inl (Ne.symm ne_this_tq))).other W48 (Or.inl (Ne.symm ne_this_tq))
      replace E_rq := ((E_rq.wr W44).wr W46).wr W48
      replace F_rq_elements := ((F_rq_elements.other W44 (Or.inl ne_rq_wa)).other W46 (Or.inl (Ne.symm ne_this_rq))).other W48 (Or.inl (Ne.symm ne_this_rq))
      replace F_rq_head := ((F_rq_head.other W44 (Or.inl ne_rq_wa)).other W46 (Or.inl (Ne.symm ne_this_rq))).other W48 (Or.inl (Ne.symm ne_this_rq))
      replace F_rq_tail := ((F_rq_tail.other W44 (Or.inl ne_rq_wa)).other W46 (Or.inl (Ne.symm ne_this_rq))).other W48 (Or.inl (Ne.symm ne_this_rq))
      replace A_ea := ((A_ea.other W44 ne_ea_wa).other W46 (Ne.symm ne_this_ea)).other W48 (Ne.symm ne_this_ea)
      replace O_ea := ((O_ea.wr W44).wr W46).wr W48
      replace E_hq := ((E_hq.wr W44).wr W46).wr W48
      replace F_hq_queue := ((F_hq_queue.other W44 (Or.inl ne_hq_wa)).other W46 (Or.inl (Ne.symm ne_this_hq))).other W48 (Or.inl (Ne.symm ne_this_hq))
      replace F_hq_comparator := ((F_hq_comparator.other W44 (Or.inl ne_hq_wa)).other W46 (Or.inl (Ne.symm ne_this_hq))).other W48 (Or.inl (Ne.symm ne_this_hq))
      replace F_hq_size := ((F_hq_size.other W44 (Or.inl ne_hq_wa)).other W46 (Or.inl (Ne.symm ne_this_hq))).other W48 (Or.inl (Ne.symm ne_this_hq))
      replace F_hq_modCount := ((F_hq_modCount.other W44 (Or.inl ne_hq_wa)).other W46 (Or.inl (Ne.symm ne_this_hq))).other W48 (Or.inl (Ne.symm ne_this_hq))
      replace A_qa := ((A_qa.other W44 ne_qa_wa).other W46 (Ne.symm ne_this_qa)).other W48 (Ne.symm ne_this_qa)
      replace O_qa := ((O_qa.wr W44).wr W46).wr W48
      replace O_lam := ((O_lam.wr W44).wr W46).wr W48
      replace D_xs := ((D_xs.other W44 ne_xs_wa).other W46 ne_xs_this).other W48 ne_xs_this
      replace E_ux := ((E_ux.wr W44).wr W46).wr W48
      refine Run.retA X48 hx hlk e48 (t := (.object "com/example/framewheel/framewheel/core/FrameCallback")) hret rfl rfl rfl (hb hby d38_163) (by decide) (by decide) ?_
      exact ⟨_, rfl, N48, ⟨_, KP⟩, Or.inr (Or.inl ⟨wt, rfl, hPt, ⟨xs, tq, rq, hq, ea, qa, wa, da, sa, vs, us, _, ds, ss, hv_, tv, pv, mc, _, _, hd, tl, _, _, _, E_this, F_this_works, F_this_dueTimes, F_this_sequences, F_this_head, F_this_size, F_this_delayed, F_this_firstDelayed, A_wa, O_wa, A_da, A_sa, E_tq, F_tq_run, F_tq_order, F_tq_heap, E_rq, F_rq_elements, F_rq_head, F_rq_tail, A_ea, O_ea, E_hq, F_hq_queue, F_hq_comparator, F_hq_size, F_hq_modCount, A_qa, O_qa, O_lam, D_xs, g_this, g_rq, g_hq, g_ea, g_qa, g_wa, g_da, g_sa, ne_wa_da, ne_wa_sa, ne_da_sa, hr, hh, (Or.inr ⟨ux, hux, rfl, hk0⟩), hk, htl, hkj, (hg.pop hj hsp hzi), hds, hss⟩⟩)⟩
     ·skip
      refine Run.x_ifYes (q := 161) X39 hx (hb hby d38_53) ((if0 _ _).trans (flt (mt (lw_lt sv bf).mp hc53)).2.1) (by decide) (by decide) ?_
      refine Run.x_aload (q := 163) X39 hx (hb hby d38_161) rfl rfl rfl ?_
      refine Run.retA X39 hx hlk e39 (t := (.object "com/example/framewheel/framewheel/core/FrameCallback")) hret rfl rfl rfl (hb hby d38_163) (by decide) (by decide) ?_
      exact ⟨_, rfl, N20, ⟨_, KP⟩, Or.inl ⟨rfl, ⟨xs, tq, rq, hq, ea, qa, wa, da, sa, vs, us, ws, ds, ss, hv_, tv, pv, mc, rh, rs, hd, tl, rn, sn, _, E_this, F_this_works, F_this_dueTimes, F_this_sequences, F_this_head, F_this_size, F_this_delayed, F_this_firstDelayed, A_wa, O_wa, A_da, A_sa, E_tq, F_tq_run, F_tq_order, F_tq_heap, E_rq, F_rq_elements, F_rq_head, F_rq_tail, A_ea, O_ea, E_hq, F_hq_queue, F_hq_comparator, F_hq_size, F_hq_modCount, A_qa, O_qa, O_lam, D_xs, g_this, g_rq, g_hq, g_ea, g_qa, g_wa, g_da, g_sa, ne_wa_da, ne_wa_sa, ne_da_sa, hr, hh, (Or.inr ⟨ux, hux, rfl, hk0⟩), hk, htl, hkj, hg, hds, hss⟩⟩⟩
  ·skip
   refine Run.x_ifYes (q := 99) X17 hx (hb hby d38_7) ((if0 _ _).trans (flt hc7).2.2.2) (by decide) (by decide) ?_
   refine Run.x_aloadN (q := 100) X17 hx (hb hby d38_99) rfl rfl rfl ?_
   refine Run.z_getF (q := 103) X17 hx hZ e17 hown (wm88 hw) F_this_firstDelayed (hb hby d38_100) rfl fun T49 X49 e49 => ?_
   refine Run.st (B := T49.setTop (mkF m 106 #[.val (.ref this), .val (.long now), .second, .val (.long bf), .second, .val .null] [])) (fun t kt => XS.ifnullNo X49.here hx rfl (hb hby d38_103) rfl kt) ?_
   refine Run.x_aloadN (q := 107) X49 hx (hb hby d38_106) rfl rfl rfl ?_
   refine Run.z_getF (q := 110) X49 hx hZ e49 hown (wm88 hw) F_this_firstDelayed (hb hby d38_107) rfl fun T50 X50 e50 => ?_
   refine Run.callV X50 hx hH e50 (y := (⟨"com/example/framewheel/framewheel/core/PhaseQueue$Delayed", "dueNanos", "()J"⟩ : MethodName)) (z := (⟨"com/example/framewheel/framewheel/core/PhaseQueue$Delayed", "dueNanos", "()J"⟩ : MethodName)) hown (wm187 hw) (wm188 hw) (notFace_of_selects (args := #[]) (mvT hZ (wm190 hw))) (wm190 hw) (wm189 hw) (wm115 hw) (wm191 hw) (by decide) (a := ux) E_ux (argsL := []) (rest := []) (c_due l Z a0 hw ux h0 n0 Z0 ud E_ux F_ux_dueNanos) pd_0 rfl (by rw [hml]; rfl) (W := 0) rfl (by decide) (by decide) (by decide) (by decide) (hb hby d38_110) rfl ?_
   intro T51 v51 L51 X51 q51
   obtain ⟨rfl, M51, e51⟩ := q51
   have N51 := Fr.app N0 M51
   show Run p e below s _ _ _ (T51.setTop (mkF m 113 #[.val (.ref this), .val (.long now), .second, .val (.long bf), .second, .val .null] [(.long ud)]))
   refine Run.x_lloadN (q := 114) X51 hx (hb hby d38_113) rfl rfl ?_
   refine Run.x_lcmp (q := 115) X51 hx (hb hby d38_114)  rfl ?_
   by_cases hc115 : now < ud
   ·skip
    refine Run.x_ifYes (q := 161) X51 hx (hb hby d38_115) ((if0 _ _).trans (tlt ((lw_gt ud now).mpr hc115)).2.2.1) (by decide) (by decide) ?_
    refine Run.x_aload (q := 163) X51 hx (hb hby d38_161) rfl rfl rfl ?_
    refine Run.retA X51 hx hlk e51 (t := (.object "com/example/framewheel/framewheel/core/FrameCallback")) hret rfl rfl rfl (hb hby d38_163) (by decide) (by decide) ?_
    exact ⟨_, rfl, N51, ⟨_, KP⟩, Or.inl ⟨rfl, ⟨xs, tq, rq, hq, ea, qa, wa, da, sa, vs, us, ws, ds, ss, hv_, tv, pv, mc, rh, rs, hd, tl, rn, sn, _, E_this, F_this_works, F_this_dueTimes, F_this_sequences, F_this_head, F_this_size, F_this_delayed, F_this_firstDelayed, A_wa, O_wa, A_da, A_sa, E_tq, F_tq_run, F_tq_order, F_tq_heap, E_rq, F_rq_elements, F_rq_head, F_rq_tail, A_ea, O_ea, E_hq, F_hq_queue, F_hq_comparator, F_hq_size, F_hq_modCount, A_qa, O_qa, O_lam, D_xs, g_this, g_rq, g_hq, g_ea, g_qa, g_wa, g_da, g_sa, ne_wa_da, ne_wa_sa, ne_da_sa, hr, hh, (Or.inr ⟨ux, hux, rfl, hk0⟩), hk, htl, hkj, hg, hds, hss⟩⟩⟩
   ·skip
    refine Run.x_ifNo (q := 118) X51 hx (hb hby d38_115) ((if0 _ _).trans (flt (mt (lw_gt ud now).mp hc115)).2.2.1) rfl ?_
    refine Run.x_aloadN (q := 119) X51 hx (hb hby d38_118) rfl rfl rfl ?_
    refine Run.z_getF (q := 122) X51 hx hZ e51 hown (wm88 hw) F_this_firstDelayed (hb hby d38_119) rfl fun T52 X52 e52 => ?_
    refine Run.callV X52 hx hH e52 (y := (⟨"com/example/framewheel/framewheel/core/PhaseQueue$Delayed", "sequence", "()J"⟩ : MethodName)) (z := (⟨"com/example/framewheel/framewheel/core/PhaseQueue$Delayed", "sequence", "()J"⟩ : MethodName)) hown (wm200 hw) (wm201 hw) (notFace_of_selects (args := #[]) (mvT hZ (wm203 hw))) (wm203 hw) (wm202 hw) (wm115 hw) (wm204 hw) (by decide) (a := ux) E_ux (argsL := []) (rest := []) (c_seq l Z a0 hw ux h0 n0 Z0 us_ E_ux F_ux_sequence) pd_0 rfl (by rw [hml]; rfl) (W := 0) rfl (by decide) (by decide) (by decide) (by decide) (hb hby d38_122) rfl ?_
    intro T53 v53 L53 X53 q53
    obtain ⟨rfl, M53, e53⟩ := q53
    have N53 := Fr.app N51 M53
    show Run p e below s _ _ _ (T53.setTop (mkF m 125 #[.val (.ref this), .val (.long now), .second, .val (.long bf), .second, .val .null] [(.long us_)]))
    refine Run.x_lloadN (q := 126) X53 hx (hb hby d38_125) rfl rfl ?_
    refine Run.x_lcmp (q := 127) X53 hx (hb hby d38_126)  rfl ?_
    by_cases hc127 : us_ < bf
    ·skip
     refine Run.x_ifNo (q := 130) X53 hx (hb hby d38_127) ((if0 _ _).trans (tlt ((lw_lt us_ bf).mpr hc127)).2.1) rfl ?_
     refine Run.x_aloadN (q := 131) X53 hx (hb hby d38_130) rfl rfl rfl ?_
     refine Run.z_getF (q := 134) X53 hx hZ e53 hown (wm88 hw) F_this_firstDelayed (hb hby d38_131) rfl fun T54 X54 e54 => ?_
     refine Run.callV X54 hx hH e54 (y := (⟨"com/example/framewheel/framewheel/core/PhaseQueue$Delayed", "work", "()Lcom/example/framewheel/framewheel/core/FrameCallback;"⟩ : MethodName)) (z := (⟨"com/example/framewheel/framewheel/core/PhaseQueue$Delayed", "work", "()Lcom/example/framewheel/framewheel/core/FrameCallback;"⟩ : MethodName)) hown (wm205 hw) (wm206 hw) (notFace_of_selects (args := #[]) (mvT hZ (wm208 hw))) (wm208 hw) (wm207 hw) (wm115 hw) (wm209 hw) (by decide) (a := ux) E_ux (argsL := []) (rest := []) (c_wrk l Z a0 hw ux h0 n0 Z0 uw E_ux F_ux_work) pd_16 rfl (by rw [hml]; rfl) (W := 0) rfl (by decide) (by decide) (by decide) (by decide) (hb hby d38_134) rfl ?_
     intro T55 v55 L55 X55 q55
     obtain ⟨rfl, M55, e55⟩ := q55
     have N55 := Fr.app N53 M55
     show Run p e below s _ _ _ (T55.setTop (mkF m 137 #[.val (.ref this), .val (.long now), .second, .val (.long bf), .second, .val .null] [(.ref uw)]))
     refine Run.x_astore (q := 139) X55 hx #[.val (.ref this), .val (.long now), .second, .val (.long bf), .second, .val (.ref uw)] (hb hby d38_137) rfl rfl rfl ?_
     refine Run.x_aloadN (q := 140) X55 hx (hb hby d38_139) rfl rfl rfl ?_
     refine Run.z_getF (q := 143) X55 hx hZ e55 hown (wm81 hw) F_this_delayed (hb hby d38_140) rfl fun T56 X56 e56 => ?_
     have hne : ¬ hd = tl ∨ ¬ pv = 0 := Decidable.byContradiction fun q => by
      have q1 : hd = tl := Decidable.byContradiction fun a => q (Or.inl a)
      have q2 : pv = 0 := Decidable.byContradiction fun a => q (Or.inr a)
      rw [q1, q2] at hk
      have := own_pn; omega
     refine Run.callV X56 hx hH e56 (y := (⟨"com/example/framewheel/framewheel/core/TimeOrderedQueue", "poll", "()Ljava/lang/Object;"⟩ : MethodName)) (z := (⟨"com/example/framewheel/framewheel/core/TimeOrderedQueue", "poll", "()Ljava/lang/Object;"⟩ : MethodName)) hown (wm210 hw) (wm211 hw) (notFace_of_selects (args := #[]) (mvT hZ (wm213 hw))) (wm213 hw) (wm212 hw) (wm27 hw) (wm214 hw) (by decide) (a := tq) E_tq (argsL := []) (rest := []) (c_tpol l Z a0 hw tq h0 n0 Z0 cK P xs rq hq ea qa vs us hv_ tv pv mc hd tl lam E_tq F_tq_run F_tq_order F_tq_heap E_rq F_rq_elements F_rq_head F_rq_tail A_ea O_ea E_hq F_hq_queue F_hq_comparator F_hq_size F_hq_modCount A_qa O_qa O_lam D_xs g_rq g_hq g_ea g_qa ne_tq_rq ne_tq_hq ne_tq_ea ne_tq_qa ne_rq_hq ne_rq_ea ne_rq_qa ne_hq_ea ne_hq_qa ne_ea_qa ne_xs_tq ne_xs_rq ne_xs_hq ne_xs_ea ne_xs_qa hr hh hne) pd_8 rfl (by rw [hml]; rfl) (W := 0) rfl (by decide) (by decide) (by decide) (by decide) (hb hby d38_143) rfl ?_
     intro T57 v57 L57 X57 q57
     obtain ⟨pw57, rfl, M57, K57, hv57, tv57, pv57, mc57, hd57, tl57, vs57, us57, -, -, -, -, -, Fe57, Fh57, Ft57, Ae57, -, -, Fq57, Fc57, Fs57, Fm57, Aq57, -, -, -, rv57, hh57, cnt57, tle57⟩ := q57
     have N57 := Fr.app N55 M57
     show Run p e below s _ _ _ (T57.setTop (mkF m 146 #[.val (.ref this), .val (.long now), .second, .val (.long bf), .second, .val (.ref uw)] [(.ref pw57)]))
     have Z57 : n0 ≤ T57.heap.size := Nat.le_trans Z0 K57.1
     replace KP := KP.trans K57 (allS (Or.inl (by simp)) (allS (Or.inl (by simp)) (allS (Or.inl (by simp)) (allS (Or.inl (by simp)) all0))))
     refine Run.x_pop (q := 147) X57 hx (hb hby d38_146) rfl rfl ?_
     refine Run.x_aloadN (q := 148) X57 hx (hb hby d38_147) rfl rfl rfl ?_
     refine Run.x_aloadN (q := 149) X57 hx (hb hby d38_148) rfl rfl rfl ?_
     replace F_this_delayed := F_this_delayed.keep K57 (ninS ne_this_rq (ninS ne_this_ea (ninS ne_this_hq (ninS ne_this_qa nin0))))
     refine Run.z_getF (q := 152) X57 hx hZ rfl hown (wm81 hw) F_this_delayed (hb hby d38_149) rfl fun T58 X58 e58 => ?_
     replace E_tq := E_tq.keep K57
     replace F_tq_run := F_tq_run.keep K57 (ninS ne_tq_rq (ninS ne_tq_ea (ninS ne_tq_hq (ninS ne_tq_qa nin0))))
     replace F_tq_order := F_tq_order.keep K57 (ninS ne_tq_rq (ninS ne_tq_ea (ninS ne_tq_hq (ninS ne_tq_qa nin0))))
     replace F_tq_heap := F_tq_heap.keep K57 (ninS ne_tq_rq (ninS ne_tq_ea (ninS ne_tq_hq (ninS ne_tq_qa nin0))))
     replace E_rq := E_rq.keep K57
     replace O_ea := O_ea.keep K57
     replace E_hq := E_hq.keep K57
     replace O_qa := O_qa.keep K57
     replace O_lam := O_lam.keep K57
     replace D_xs := D_xs.keep K57 (own_dnS ne_xs_rq (own_dnS ne_xs_ea (own_dnS ne_xs_hq (own_dnS ne_xs_qa own_dn0))))
     refine Run.callV X58 hx hH e58 (y := (⟨"com/example/framewheel/framewheel/core/TimeOrderedQueue", "peek", "()Ljava/lang/Object;"⟩ : MethodName)) (z := (⟨"com/example/framewheel/framewheel/core/TimeOrderedQueue", "peek", "()Ljava/lang/Object;"⟩ : MethodName)) hown (wm166 hw) (wm167 hw) (notFace_of_selects (args := #[]) (mvT hZ (wm169 hw))) (wm169 hw) (wm168 hw) (wm27 hw) (wm170 hw) (by decide) (a := tq) E_tq (argsL := []) (rest := [(.ref this)]) (c_tpek l Z a0 hw tq T57.heap n0 Z57 cK P xs rq hq ea qa vs57 us57 hv57 tv57 pv57 mc57 hd57 tl57 lam E_tq F_tq_run F_tq_order F_tq_heap E_rq Fe57 Fh57 Ft57 Ae57 O_ea E_hq Fq57 Fc57 Fs57 Fm57 Aq57 O_qa O_lam D_xs rv57 hh57) pd_8 rfl (by rw [hml]; rfl) (W := 1) rfl (by decide) (by decide) (by decide) (by decide) (hb hby d38_152) rfl ?_
     intro T59 v59 L59 X59 q59
     obtain ⟨wv59, rfl, M59, e59, hw59⟩ := q59
     have N59 := Fr.app N57 M59
     show Run p e below s _ _ _ (T59.setTop (mkF m 155 #[.val (.ref this), .val (.long now), .second, .val (.long bf), .second, .val (.ref uw)] [wv59, (.ref this)]))
     rcases hw59 with ⟨rfl, hE0, hp0⟩ | ⟨uy, huy, rfl, hwh⟩
     ·skip
      rw [hE0, hp0] at cnt57
      show Run p e below s _ _ _ (T59.setTop (mkF m 155 #[.val (.ref this), .val (.long now), .second, .val (.long bf), .second, .val (.ref uw)] [.null, (.ref this)]))
      refine own_ccN (q := 158) X59 hx (hb hby d38_155) rfl ?_
      replace F_this_firstDelayed := F_this_firstDelayed.keep K57 (ninS ne_this_rq (ninS ne_this_ea (ninS ne_this_hq (ninS ne_this_qa nin0))))
      replace E_this := E_this.keep K57
      obtain ⟨T61, h61, X61, e61, W61, st61⟩ := putF X59 hx hZ hown (host := "") (Or.inl (wm88 hw)) Via.refl e59 F_this_firstDelayed E_this (Or.inl (wm89 hw)) (wm10 hw) (ty := (.object "com/example/framewheel/framewheel/core/PhaseQueue$Delayed")) (by decide) rfl rfl (g := (mkF m 158 #[.val (.ref this), .val (.long now), .second, .val (.long bf), .second, .val (.ref uw)] [.null, (.ref this)])) rfl rfl (hb hby d38_158)
      replace F_this_firstDelayed := F_this_firstDelayed.same W61
      have Z61 : n0 ≤ h61.size := Nat.le_trans Z57 (Nat.le_of_eq W61.size.symm)
      replace KP := KP.wr W61 (Or.inl (by simp))
      have N61 := Fr.snoc X61 N59 g_this
      refine Run.st st61 ?_
      show Run p e below s _ _ _ (T61.setTop (mkF m 161 #[.val (.ref this), .val (.long now), .second, .val (.long bf), .second, .val (.ref uw)] []))
      refine Run.x_aload (q := 163) X61 hx (hb hby d38_161) rfl rfl rfl ?_
      replace E_this := E_this.wr W61
      replace F_this_works := (F_this_works.keep K57 (ninS ne_this_rq (ninS ne_this_ea (ninS ne_this_hq (ninS ne_this_qa nin0))))).other W61 (Or.inr (slot_ne (Or.inl (wm19 hw)) (Or.inl (wm89 hw)) (by decide) (t := (.array (.object "com/example/framewheel/framewheel/core/FrameCallback"))) (t' := (.object "com/example/framewheel/framewheel/core/PhaseQueue$Delayed")) (by decide) (by decide)))
      replace F_this_dueTimes := (F_this_dueTimes.keep K57 (ninS ne_this_rq (ninS ne_this_ea (ninS ne_this_hq (ninS ne_this_qa nin0))))).other W61 (Or.inr (slot_ne (Or.inl (wm22 hw)) (Or.inl (wm89 hw)) (by decide) (t := (.array .long)) (t' := (.object "com/example/framewheel/framewheel/core/PhaseQueue$Delayed")) (by decide) (by decide)))
      replace F_this_sequences := (F_this_sequences.keep K57 (ninS ne_this_rq (ninS ne_this_ea (ninS ne_this_hq (ninS ne_this_qa nin0))))).other W61 (Or.inr (slot_ne (Or.inl (wm24 hw)) (Or.inl (wm89 hw)) (by decide) (t := (.array .long)) (t' := (.object "com/example/framewheel/framewheel/core/PhaseQueue$Delayed")) (by decide) (by decide)))
      replace F_this_head := (F_this_head.keep K57 (ninS ne_this_rq (ninS ne_this_ea (ninS ne_this_hq (ninS ne_this_qa nin0))))).other W61 (Or.inr (slot_ne (Or.inl (wm102 hw)) (Or.inl (wm89 hw)) (by decide) (t := .int) (t' := (.object "com/example/framewheel/framewheel/core/PhaseQueue$Delayed")) (by decide) (by decide)))
      replace F_this_size := (F_this_size.keep K57 (ninS ne_this_rq (ninS ne_this_ea (ninS ne_this_hq (ninS ne_this_qa nin0))))).other W61 (Or.inr (slot_ne (Or.inl (wm96 hw)) (Or.inl (wm89 hw)) (by decide) (t := .int) (t' := (.object "com/example/framewheel/framewheel/core/PhaseQueue$Delayed")) (by decide) (by decide)))
      replace F_this_delayed := F_this_delayed.other W61 (Or.inr (slot_ne (Or.inr (wm82 hw)) (Or.inl (wm89 hw)) (by decide) (t := (.object "com/example/framewheel/framewheel/core/TimeOrderedQueue")) (t' := (.object "com/example/framewheel/framewheel/core/PhaseQueue$Delayed")) (by decide) (by decide)))
      replace A_wa := (A_wa.keep K57 (ninS (Ne.symm ne_rq_wa) (ninS (Ne.symm ne_ea_wa) (ninS (Ne.symm ne_hq_wa) (ninS (Ne.symm ne_qa_wa) nin0))))).other W61 (Ne.symm ne_this_wa)
      replace O_wa := (O_wa.keep K57).wr W61
      replace A_da := (A_da.keep K57 (ninS (Ne.symm ne_rq_da) (ninS (Ne.symm ne_ea_da) (ninS (Ne.symm ne_hq_da) (ninS (Ne.symm ne_qa_da) nin0))))).other W61 (Ne.symm ne_this_da)
      replace A_sa := (A_sa.keep K57 (ninS (Ne.symm ne_rq_sa) (ninS (Ne.symm ne_ea_sa) (ninS (Ne.symm ne_hq_sa) (ninS (Ne.symm ne_qa_sa) nin0))))).other W61 (Ne.symm ne_this_sa)
      replace E_tq := E_tq.wr W61
      replace F_tq_run := F_tq_run.other W61 (Or.inl (Ne.symm ne_this_tq))
      replace F_tq_order := F_tq_order.other W61 (Or.inl (Ne.symm ne_this_tq))
      replace F_tq_heap := F_tq_heap.other W61 (Or.inl (Ne.symm ne_this_tq))
      replace E_rq := E_rq.wr W61
      replace O_ea := O_ea.wr W61
      replace E_hq := E_hq.wr W61
      replace O_qa := O_qa.wr W61
      replace O_lam := O_lam.wr W61
      replace D_xs := D_xs.other W61 ne_xs_this
      replace E_ux := (E_ux.keep K57).wr W61
      replace Fe57 := Fe57.other W61 (Or.inl (Ne.symm ne_this_rq))
      replace Fh57 := Fh57.other W61 (Or.inl (Ne.symm ne_this_rq))
      replace Ft57 := Ft57.other W61 (Or.inl (Ne.symm ne_this_rq))
      replace Ae57 := Ae57.other W61 (Ne.symm ne_this_ea)
      replace Fq57 := Fq57.other W61 (Or.inl (Ne.symm ne_this_hq))
      replace Fc57 := Fc57.other W61 (Or.inl (Ne.symm ne_this_hq))
      replace Fs57 := Fs57.other W61 (Or.inl (Ne.symm ne_this_hq))
      replace Fm57 := Fm57.other W61 (Or.inl (Ne.symm ne_this_hq))
      replace Aq57 := Aq57.other W61 (Ne.symm ne_this_qa)
      refine Run.retA X61 hx hlk e61 (t := (.object "com/example/framewheel/framewheel/core/FrameCallback")) hret rfl rfl rfl (hb hby d38_163) (by decide) (by decide) ?_
      exact ⟨_, rfl, N61, ⟨_, KP⟩, Or.inr (Or.inr ⟨uw, rfl, hPu, 0, by have := own_pn; omega, ⟨xs, tq, rq, hq, ea, qa, wa, da, sa, _, _, ws, ds, ss, _, _, _, _, rh, rs, _, _, rn, sn, _, E_this, F_this_works, F_this_dueTimes, F_this_sequences, F_this_head, F_this_size, F_this_delayed, F_this_firstDelayed, A_wa, O_wa, A_da, A_sa, E_tq, F_tq_run, F_tq_order, F_tq_heap, E_rq, Fe57, Fh57, Ft57, Ae57, O_ea, E_hq, Fq57, Fc57, Fs57, Fm57, Aq57, O_qa, O_lam, D_xs, g_this, g_rq, g_hq, g_ea, g_qa, g_wa, g_da, g_sa, ne_wa_da, ne_wa_sa, ne_da_sa, rv57, hh57, (Or.inl ⟨rfl, rfl⟩), (by rw [hE0, hp0]; have := own_pn; omega), (by omega), (by omega), hg, hds, hss⟩⟩)⟩
     ·skip
      obtain ⟨_, _, _, E_uy, -⟩ := D_xs uy huy
      have hpos : 0 < (tl57 - hd57) + pv57.toInt.toNat := by
       rcases hwh with ⟨h1, -⟩ | h1
       ·have := rv57.2.2.1; omega
       ·have := own_pvpos hh57 h1; omega
      show Run p e below s _ _ _ (T59.setTop (mkF m 155 #[.val (.ref this), .val (.long now), .second, .val (.long bf), .second, .val (.ref uw)] [(.ref uy), (.ref this)]))
      refine own_cc (q := 158) X59 hx hZ e59 hown (wm113 hw) (wm181 hw) E_uy (hb hby d38_155) rfl fun T62 X62 e62 => ?_
      replace F_this_firstDelayed := F_this_firstDelayed.keep K57 (ninS ne_this_rq (ninS ne_this_ea (ninS ne_this_hq (ninS ne_this_qa nin0))))
      replace E_this := E_this.keep K57
      obtain ⟨T63, h63, X63, e63, W63, st63⟩ := putF X62 hx hZ hown (host := "") (Or.inl (wm88 hw)) Via.refl e62 F_this_firstDelayed E_this (Or.inl (wm89 hw)) (wm10 hw) (ty := (.object "com/example/framewheel/framewheel/core/PhaseQueue$Delayed")) (by decide) rfl rfl (g := (mkF m 158 #[.val (.ref this), .val (.long now), .second, .val (.long bf), .second, .val (.ref uw)] [(.ref uy), (.ref this)])) rfl rfl (hb hby d38_158)
      replace F_this_firstDelayed := F_this_firstDelayed.same W63
      have Z63 : n0 ≤ h63.size := Nat.le_trans Z57 (Nat.le_of_eq W63.size.symm)
      replace KP := KP.wr W63 (Or.inl (by simp))
      have N63 := Fr.snoc X63 N59 g_this
      refine Run.st st63 ?_
      show Run p e below s _ _ _ (T63.setTop (mkF m 161 #[.val (.ref this), .val (.long now), .second, .val (.long bf), .second, .val (.ref uw)] []))
      refine Run.x_aload (q := 163) X63 hx (hb hby d38_161) rfl rfl rfl ?_
      replace E_this := E_this.wr W63
      replace F_this_works := (F_this_works.keep K57 (ninS ne_this_rq (ninS ne_this_ea (ninS ne_this_hq (ninS ne_this_qa nin0))))).other W63 (Or.inr (slot_ne (Or.inl (wm19 hw)) (Or.inl (wm89 hw)) (by decide) (t := (.array (.object "com/example/framewheel/framewheel/core/FrameCallback"))) (t' := (.object "com/example/framewheel/framewheel/core/PhaseQueue$Delayed")) (by decide) (by decide)))
      replace F_this_dueTimes := (F_this_dueTimes.keep K57 (ninS ne_this_rq (ninS ne_this_ea (ninS ne_this_hq (ninS ne_this_qa nin0))))).other W63 (Or.inr (slot_ne (Or.inl (wm22 hw)) (Or.inl (wm89 hw)) (by decide) (t := (.array .long)) (t' := (.object "com/example/framewheel/framewheel/core/PhaseQueue$Delayed")) (by decide) (by decide)))
      replace F_this_sequences := (F_this_sequences.keep K57 (ninS ne_this_rq (ninS ne_this_ea (ninS ne_this_hq (ninS ne_this_qa nin0))))).other W63 (Or.inr (slot_ne (Or.inl (wm24 hw)) (Or.inl (wm89 hw)) (by decide) (t := (.array .long)) (t' := (.object "com/example/framewheel/framewheel/core/PhaseQueue$Delayed")) (by decide) (by decide)))
      replace F_this_head := (F_this_head.keep K57 (ninS ne_this_rq (ninS ne_this_ea (ninS ne_this_hq (ninS ne_this_qa nin0))))).other W63 (Or.inr (slot_ne (Or.inl (wm102 hw)) (Or.inl (wm89 hw)) (by decide) (t := .int) (t' := (.object "com/example/framewheel/framewheel/core/PhaseQueue$Delayed")) (by decide) (by decide)))
      replace F_this_size := (F_this_size.keep K57 (ninS ne_this_rq (ninS ne_this_ea (ninS ne_this_hq (ninS ne_this_qa nin0))))).other W63 (Or.inr (slot_ne (Or.inl (wm96 hw)) (Or.inl (wm89 hw)) (by decide) (t := .int) (t' := (.object "com/example/framewheel/framewheel/core/PhaseQueue$Delayed")) (by decide) (by decide)))
      replace F_this_delayed := F_this_delayed.other W63 (Or.inr (slot_ne (Or.inr (wm82 hw)) (Or.inl (wm89 hw)) (by decide) (t := (.object "com/example/framewheel/framewheel/core/TimeOrderedQueue")) (t' := (.object "com/example/framewheel/framewheel/core/PhaseQueue$Delayed")) (by decide) (by decide)))
      replace A_wa := (A_wa.keep K57 (ninS (Ne.symm ne_rq_wa) (ninS (Ne.symm ne_ea_wa) (ninS (Ne.symm ne_hq_wa) (ninS (Ne.symm ne_qa_wa) nin0))))).other W63 (Ne.symm ne_this_wa)
      replace O_wa := (O_wa.keep K57).wr W63
      replace A_da := (A_da.keep K57 (ninS (Ne.symm ne_rq_da) (ninS (Ne.symm ne_ea_da) (ninS (Ne.symm ne_hq_da) (ninS (Ne.symm ne_qa_da) nin0))))).other W63 (Ne.symm ne_this_da)
      replace A_sa := (A_sa.keep K57 (ninS (Ne.symm ne_rq_sa) (ninS (Ne.symm ne_ea_sa) (ninS (Ne.symm ne_hq_sa) (ninS (Ne.symm ne_qa_sa) nin0))))).other W63 (Ne.symm ne_this_sa)
      replace E_tq := E_tq.wr W63
      replace F_tq_run := F_tq_run.other W63 (Or.inl (Ne.symm ne_this_tq))
      replace F_tq_order := F_tq_order.other W63 (Or.inl (Ne.symm ne_this_tq))
      replace F_tq_heap := F_tq_heap.other W63 (Or.inl (Ne.symm ne_this_tq))
      replace E_rq := E_rq.wr W63
      replace O_ea := O_ea.wr W63
      replace E_hq := E_hq.wr W63
      replace O_qa := O_qa.wr W63
      replace O_lam := O_lam.wr W63
      replace D_xs := D_xs.other W63 ne_xs_this
      replace E_ux := (E_ux.keep K57).wr W63
      replace Fe57 := Fe57.other W63 (Or.inl (Ne.symm ne_this_rq))
      replace Fh57 := Fh57.other W63 (Or.inl (Ne.symm ne_this_rq))
      replace Ft57 := Ft57.other W63 (Or.inl (Ne.symm ne_this_rq))
      replace Ae57 := Ae57.other W63 (Ne.symm ne_this_ea)
      replace Fq57 := Fq57.other W63 (Or.inl (Ne.symm ne_this_hq))
      replace Fc57 := Fc57.other W63 (Or.inl (Ne.symm ne_this_hq))
      replace Fs57 := Fs57.other W63 (Or.inl (Ne.symm ne_this_hq))
      replace Fm57 := Fm57.other W63 (Or.inl (Ne.symm ne_this_hq))
      replace Aq57 := Aq57.other W63 (Ne.symm ne_this_qa)
      replace E_uy := E_uy.wr W63
      refine Run.retA X63 hx hlk e63 (t := (.object "com/example/framewheel/framewheel/core/FrameCallback")) hret rfl rfl rfl (hb hby d38_163) (by decide) (by decide) ?_
      exact ⟨_, rfl, N63, ⟨_, KP⟩, Or.inr (Or.inr ⟨uw, rfl, hPu, ((tl57 - hd57) + pv57.toInt.toNat), by omega, ⟨xs, tq, rq, hq, ea, qa, wa, da, sa, _, _, ws, ds, ss, _, _, _, _, rh, rs, _, _, rn, sn, _, E_this, F_this_works, F_this_dueTimes, F_this_sequences, F_this_head, F_this_size, F_this_delayed, F_this_firstDelayed, A_wa, O_wa, A_da, A_sa, E_tq, F_tq_run, F_tq_order, F_tq_heap, E_rq, Fe57, Fh57, Ft57, Ae57, O_ea, E_hq, Fq57, Fc57, Fs57, Fm57, Aq57, O_qa, O_lam, D_xs, g_this, g_rq, g_hq, g_ea, g_qa, g_wa, g_da, g_sa, ne_wa_da, ne_wa_sa, ne_da_sa, rv57, hh57, (Or.inr ⟨uy, huy, rfl, hpos⟩), rfl, (by omega), (by omega), hg, hds, hss⟩⟩)⟩
    ·skip
     refine Run.x_ifYes (q := 161) X53 hx (hb hby d38_127) ((if0 _ _).trans (flt (mt (lw_lt us_ bf).mp hc127)).2.1) (by decide) (by decide) ?_
     refine Run.x_aload (q := 163) X53 hx (hb hby d38_161) rfl rfl rfl ?_
     refine Run.retA X53 hx hlk e53 (t := (.object "com/example/framewheel/framewheel/core/FrameCallback")) hret rfl rfl rfl (hb hby d38_163) (by decide) (by decide) ?_
     exact ⟨_, rfl, N53, ⟨_, KP⟩, Or.inl ⟨rfl, ⟨xs, tq, rq, hq, ea, qa, wa, da, sa, vs, us, ws, ds, ss, hv_, tv, pv, mc, rh, rs, hd, tl, rn, sn, _, E_this, F_this_works, F_this_dueTimes, F_this_sequences, F_this_head, F_this_size, F_this_delayed, F_this_firstDelayed, A_wa, O_wa, A_da, A_sa, E_tq, F_tq_run, F_tq_order, F_tq_heap, E_rq, F_rq_elements, F_rq_head, F_rq_tail, A_ea, O_ea, E_hq, F_hq_queue, F_hq_comparator, F_hq_size, F_hq_modCount, A_qa, O_qa, O_lam, D_xs, g_this, g_rq, g_hq, g_ea, g_qa, g_wa, g_da, g_sa, ne_wa_da, ne_wa_sa, ne_da_sa, hr, hh, (Or.inr ⟨ux, hux, rfl, hk0⟩), hk, htl, hkj, hg, hds, hss⟩⟩⟩
theorem own_rv0 : own_rv [] [.null, .null, .null, .null, .null, .null, .null, .null, .null, .null, .null, .null, .null, .null, .null, .null, .null] 0 0 0 0 := ⟨rfl, rfl, Nat.le_refl _, by omega, rfl, fun i a b => absurd b (by omega), fun i a _ => by
 match i, a with
 | 0, _ => rfl
 | 1, _ => rfl
 | 2, _ => rfl
 | 3, _ => rfl
 | 4, _ => rfl
 | 5, _ => rfl
 | 6, _ => rfl
 | 7, _ => rfl
 | 8, _ => rfl
 | 9, _ => rfl
 | 10, _ => rfl
 | 11, _ => rfl
 | 12, _ => rfl
 | 13, _ => rfl
 | 14, _ => rfl
 | 15, _ => rfl
 | 16, _ => rfl
 | n + 17, h => exact absurd h (by omega)⟩
theorem own_lgs0 : own_lgs [.long 0, .long 0, .long 0, .long 0, .long 0, .long 0, .long 0, .long 0, .long 0, .long 0, .long 0, .long 0, .long 0, .long 0, .long 0, .long 0] := ⟨rfl, fun i a => ⟨0, by
 match i, a with
 | 0, _ => rfl
 | 1, _ => rfl
 | 2, _ => rfl
 | 3, _ => rfl
 | 4, _ => rfl
 | 5, _ => rfl
 | 6, _ => rfl
 | 7, _ => rfl
 | 8, _ => rfl
 | 9, _ => rfl
 | 10, _ => rfl
 | 11, _ => rfl
 | 12, _ => rfl
 | 13, _ => rfl
 | 14, _ => rfl
 | 15, _ => rfl
 | n + 16, h => exact absurd h (by omega)⟩⟩
theorem d39_0 : decode prog_9_method_1_code 0 = .ok (.aload_n 0, 1) := by decide +kernel
theorem d39_1 : decode prog_9_method_1_code 1 = .ok (.invokespecial 1, 3) := by decide +kernel
theorem d39_4 : decode prog_9_method_1_code 4 = .ok (.aload_n 0, 1) := by decide +kernel
theorem d39_5 : decode prog_9_method_1_code 5 = .ok (.bipush 16, 2) := by decide +kernel
theorem d39_7 : decode prog_9_method_1_code 7 = .ok (.anewarray 9, 3) := by decide +kernel
theorem d39_10 : decode prog_9_method_1_code 10 = .ok (.putfield 11, 3) := by decide +kernel
theorem d39_13 : decode prog_9_method_1_code 13 = .ok (.aload_n 0, 1) := by decide +kernel
theorem d39_14 : decode prog_9_method_1_code 14 = .ok (.bipush 16, 2) := by decide +kernel
theorem d39_16 : decode prog_9_method_1_code 16 = .ok (.newarray .long, 2) := by decide +kernel
theorem d39_18 : decode prog_9_method_1_code 18 = .ok (.putfield 15, 3) := by decide +kernel
theorem d39_21 : decode prog_9_method_1_code 21 = .ok (.aload_n 0, 1) := by decide +kernel
theorem d39_22 : decode prog_9_method_1_code 22 = .ok (.bipush 16, 2) := by decide +kernel
theorem d39_24 : decode prog_9_method_1_code 24 = .ok (.newarray .long, 2) := by decide +kernel
theorem d39_26 : decode prog_9_method_1_code 26 = .ok (.putfield 19, 3) := by decide +kernel
theorem d39_29 : decode prog_9_method_1_code 29 = .ok (.aload_n 0, 1) := by decide +kernel
theorem d39_30 : decode prog_9_method_1_code 30 = .ok (.new 22, 3) := by decide +kernel
theorem d39_33 : decode prog_9_method_1_code 33 = .ok (.dup, 1) := by decide +kernel
theorem d39_34 : decode prog_9_method_1_code 34 = .ok (.invokedynamic 24, 5) := by decide +kernel
theorem d39_39 : decode prog_9_method_1_code 39 = .ok (.invokespecial 28, 3) := by decide +kernel
theorem d39_42 : decode prog_9_method_1_code 42 = .ok (.putfield 31, 3) := by decide +kernel
theorem d39_45 : decode prog_9_method_1_code 45 = .ok (.return_, 1) := by decide +kernel
theorem ef_c_pqi (m : MethodId) (this : Addr) : entryFrame m #[(.ref this)] 1 = mkF m 0 #[.val (.ref this)] [] := by first | (simp [entryFrame, mkF, argsToLocals, Value.category]; done) | rfl
theorem wm15 {a0 : Array Value} {Z : State} (hw : ∀ d ∈ tables_1, d.before a0 Z = true) : (Jvm.Cond.methodLink "com/example/framewheel/framewheel/core/PhaseQueue" (1 : Nat) ({ cls := "java/lang/Object", name := "<init>", desc := "()V" } : Jvm.MethodName)).before a0 Z = true := hw _ (List.mem_of_getElem? (i := 15) rfl)
theorem wm16 {a0 : Array Value} {Z : State} (hw : ∀ d ∈ tables_1, d.before a0 Z = true) : (Jvm.Cond.classLink "com/example/framewheel/framewheel/core/PhaseQueue" (9 : Nat) "com/example/framewheel/framewheel/core/FrameCallback").before a0 Z = true := hw _ (List.mem_of_getElem? (i := 16) rfl)
theorem wm17 {a0 : Array Value} {Z : State} (hw : ∀ d ∈ tables_1, d.before a0 Z = true) : (Jvm.Cond.arrayOver (Jvm.ClassFile.FieldType.object "com/example/framewheel/framewheel/core/FrameCallback")).before a0 Z = true := hw _ (List.mem_of_getElem? (i := 17) rfl)
theorem wm20 {a0 : Array Value} {Z : State} (hw : ∀ d ∈ tables_1, d.before a0 Z = true) : (Jvm.Cond.arrayClass Jvm.ClassFile.FieldType.long).before a0 Z = true := hw _ (List.mem_of_getElem? (i := 20) rfl)
theorem wm25 {a0 : Array Value} {Z : State} (hw : ∀ d ∈ tables_1, d.before a0 Z = true) : (Jvm.Cond.classLink "com/example/framewheel/framewheel/core/PhaseQueue" (22 : Nat) "com/example/framewheel/framewheel/core/TimeOrderedQueue").before a0 Z = true := hw _ (List.mem_of_getElem? (i := 25) rfl)
theorem wm31 {a0 : Array Value} {Z : State} (hw : ∀ d ∈ tables_1, d.before a0 Z = true) : (Jvm.Cond.methodLink "com/example/framewheel/framewheel/core/PhaseQueue" (28 : Nat) ({ cls := "com/example/framewheel/framewheel/core/TimeOrderedQueue", name := "<init>", desc := "(Ljava/util/Comparator;)V" } : Jvm.MethodName)).before a0 Z = true := hw _ (List.mem_of_getElem? (i := 31) rfl)
theorem wm33 {a0 : Array Value} {Z : State} (hw : ∀ d ∈ tables_1, d.before a0 Z = true) : (Jvm.Cond.code ({ cls := "com/example/framewheel/framewheel/core/TimeOrderedQueue", name := "<init>", desc := "(Ljava/util/Comparator;)V" } : Jvm.MethodName) prog_15_method_1_code (2 : Nat) (Option.none : Option Jvm.ClassFile.FieldType)).before a0 Z = true := hw _ (List.mem_of_getElem? (i := 33) rfl)
theorem wm32 {a0 : Array Value} {Z : State} (hw : ∀ d ∈ tables_1, d.before a0 Z = true) : (Jvm.Cond.instanceMethod ({ cls := "com/example/framewheel/framewheel/core/TimeOrderedQueue", name := "<init>", desc := "(Ljava/util/Comparator;)V" } : Jvm.MethodName)).before a0 Z = true := hw _ (List.mem_of_getElem? (i := 32) rfl)
set_option maxRecDepth 65536 in
set_option maxHeartbeats 40000000 in
theorem c_pqi (l : Launch) (Z : State) (a0 : Array Value) (hw : ∀ d ∈ tables_1, d.before a0 Z = true) (this : Addr) (h0 : Heap) (n0 : Nat) (Z0 : n0 ≤ h0.size) (P : Addr → Prop) (P' : Addr → Prop) (lam : Addr) (cK : ClassId) (E_this : Exa Z h0 this "com/example/framewheel/framewheel/core/PhaseQueue") (F_this_works : Fld Z h0 this "com/example/framewheel/framewheel/core/PhaseQueue" "works" "[Lcom/example/framewheel/framewheel/core/FrameCallback;" .null) (F_this_dueTimes : Fld Z h0 this "com/example/framewheel/framewheel/core/PhaseQueue" "dueTimes" "[J" .null) (F_this_sequences : Fld Z h0 this "com/example/framewheel/framewheel/core/PhaseQueue" "sequences" "[J" .null) (F_this_head : Fld Z h0 this "com/example/framewheel/framewheel/core/PhaseQueue" "head" "I" (.int 0)) (F_this_size : Fld Z h0 this "com/example/framewheel/framewheel/core/PhaseQueue" "size" "I" (.int 0)) (F_this_delayed : Fld Z h0 this "com/example/framewheel/framewheel/core/PhaseQueue" "delayed" "Lcom/example/framewheel/framewheel/core/TimeOrderedQueue;" .null) (F_this_firstDelayed : Fld Z h0 this "com/example/framewheel/framewheel/core/PhaseQueue" "firstDelayed" "Lcom/example/framewheel/framewheel/core/PhaseQueue$Delayed;" .null) (O_lam : own_Fn Z h0 lam cK) (g_this : n0 ≤ this) :
  Ctr l Z (⟨"com/example/framewheel/framewheel/core/PhaseQueue", "<init>", "()V"⟩ : MethodName) prog_9_method_1_code 1 none ({ frames := 6, cells := 8, slots := 86, locals := 3075 } : Room) #[(.ref this)] h0 (fun v h L => v = none ∧ Fr n0 L ∧ (∃ ws, Keep h0 h ws) ∧ own_QS Z h n0 P P' lam cK this 0 0) := by
 refine Ctr.of (plainFor_of_name pn_2) (fun m => ef_c_pqi m this) ?_
 intro p e s m below meth c T0 hx hby hml hown hnm hret hlk hH e0 X0 hnd
 have hZ := hH.wide
 have N0 := Fr.nil n0
 replace hown : s.vm.findClass "com/example/framewheel/framewheel/core/PhaseQueue" = some m.cls := hown
 replace hml : c.maxLocals = 1 := hml
 have KP := Keep.refl h0 [this]
 refine Run.x_aloadN (q := 1) X0 hx (hb hby d39_0) rfl rfl rfl ?_
 refine Run.init X0 hx hZ e0 hown (wm15 hw) (wm7 hw) (wm8 hw) (by rw [hml]; rfl) (hb hby d39_1) (by decide) (W := 0) rfl (by decide) ?_
 intro T1 X1 e1
 show Run p e below s _ _ _ (T1.setTop (mkF m 4 #[.val (.ref this)] []))
 refine Run.x_aloadN (q := 5) X1 hx (hb hby d39_4) rfl rfl rfl ?_
 refine Run.x_bipush (q := 7) X1 hx (hb hby d39_5) (z := (16 : Int32)) rfl rfl ?_
 refine own_newRO X1 hx hZ e1 hown (wm16 hw) (wm17 hw) (hb hby d39_7) (len := 16) (by decide) (by decide) (cap := 16) (by decide) (by decide) (by decide) (by decide) ?_
 intro T2 h2 b2 gg2 X2 e2 E2 A_b2 O_b2
 have g_b2 : n0 ≤ b2 := Nat.le_trans Z0 (Nat.le_of_eq gg2.symm)
 have ne_this_b2 : this ≠ b2 := Nat.ne_of_lt (Nat.lt_of_lt_of_le E_this.lt (Nat.le_of_eq gg2.symm))
 have sz_b2 : h0.size ≤ b2 := Nat.le_trans KP.1 (Nat.le_of_eq gg2.symm)
 have Z2 : n0 ≤ h2.size := Nat.le_trans Z0 E2.1
 replace KP := KP.ext E2
 replace A_b2 : Ars Z h2 b2 (.object "com/example/framewheel/framewheel/core/FrameCallback") [.null, .null, .null, .null, .null, .null, .null, .null, .null, .null, .null, .null, .null, .null, .null, .null] := A_b2
 show Run p e below s _ _ _ (T2.setTop (mkF m 10 #[.val (.ref this)] [(.ref b2), (.ref this)]))
 replace F_this_works := F_this_works.ext E2
 replace E_this := E_this.ext E2
 obtain ⟨T3, h3, X3, e3, W3, st3⟩ := putF X2 hx hZ hown (host := "") (Or.inl (wm18 hw)) Via.refl e2 F_this_works E_this (Or.inl (wm19 hw)) (wm10 hw) (ty := (.array (.object "com/example/framewheel/framewheel/core/FrameCallback"))) (by decide) rfl rfl (g := (mkF m 10 #[.val (.ref this)] [(.ref b2), (.ref this)])) rfl rfl (hb hby d39_10)
 replace F_this_works := F_this_works.same W3
 have Z3 : n0 ≤ h3.size := Nat.le_trans Z2 (Nat.le_of_eq W3.size.symm)
 replace KP := KP.wr W3 (Or.inl (by simp))
 have N3 := Fr.snoc X3 N0 g_this
 refine Run.st st3 ?_
 show Run p e below s _ _ _ (T3.setTop (mkF m 13 #[.val (.ref this)] []))
 refine Run.x_aloadN (q := 14) X3 hx (hb hby d39_13) rfl rfl rfl ?_
 refine Run.x_bipush (q := 16) X3 hx (hb hby d39_14) (z := (16 : Int32)) rfl rfl ?_
 refine Run.newP (aty := .long) X3 hx hZ e3 (wm20 hw) (hb hby d39_16) (len := 16) (by decide) (by decide) (cap := 16) (by decide) (by decide) (by decide) (by decide) ?_
 intro T4 h4 b4 gg4 X4 e4 E4 A_b4
 have g_b4 : n0 ≤ b4 := Nat.le_trans Z3 (Nat.le_of_eq gg4.symm)
 replace E_this := E_this.wr W3
 have ne_this_b4 : this ≠ b4 := Nat.ne_of_lt (Nat.lt_of_lt_of_le E_this.lt (Nat.le_of_eq gg4.symm))
 replace A_b2 := A_b2.other W3 (Ne.symm ne_this_b2)
 have ne_b2_b4 : b2 ≠ b4 := Nat.ne_of_lt (Nat.lt_of_lt_of_le A_b2.lt (Nat.le_of_eq gg4.symm))
 have sz_b4 : h0.size ≤ b4 := Nat.le_trans KP.1 (Nat.le_of_eq gg4.symm)
 have Z4 : n0 ≤ h4.size := Nat.le_trans Z3 E4.1
 replace KP := KP.ext E4
 replace A_b4 : Ars Z h4 b4 .long [(.long (0 : Int64)), (.long (0 : Int64)), (.long (0 : Int64)), (.long (0 : Int64)), (.long (0 : Int64)), (.long (0 : Int64)), (.long (0 : Int64)), (.long (0 : Int64)), (.long (0 : Int64)), (.long (0 : Int64)), (.long (0 : Int64)), (.long (0 : Int64)), (.long (0 : Int64)), (.long (0 : Int64)), (.long (0 : Int64)), (.long (0 : Int64))] := A_b4
 show Run p e below s _ _ _ (T4.setTop (mkF m 18 #[.val (.ref this)] [(.ref b4), (.ref this)]))
 replace F_this_dueTimes := ((F_this_dueTimes.ext E2).other W3 (Or.inr (slot_ne (Or.inl (wm22 hw)) (Or.inl (wm19 hw)) (by decide) (t := (.array .long)) (t' := (.array (.object "com/example/framewheel/framewheel/core/FrameCallback"))) (by decide) (by decide)))).ext E4
 replace E_this := E_this.ext E4
 obtain ⟨T5, h5, X5, e5, W5, st5⟩ := putF X4 hx hZ hown (host := "") (Or.inl (wm21 hw)) Via.refl e4 F_this_dueTimes E_this (Or.inl (wm22 hw)) (wm10 hw) (ty := (.array .long)) (by decide) rfl rfl (g := (mkF m 18 #[.val (.ref this)] [(.ref b4), (.ref this)])) rfl rfl (hb hby d39_18)
 replace F_this_dueTimes := F_this_dueTimes.same W5
 have Z5 : n0 ≤ h5.size := Nat.le_trans Z4 (Nat.le_of_eq W5.size.symm)
 replace KP := KP.wr W5 (Or.inl (by simp))
 have N5 := Fr.snoc X5 N3 g_this
 refine Run.st st5 ?_
 show Run p e below s _ _ _ (T5.setTop (mkF m 21 #[.val (.ref this)] []))
 refine Run.x_aloadN (q := 22) X5 hx (hb hby d39_21) rfl rfl rfl ?_
 refine Run.x_bipush (q := 24) X5 hx (hb hby d39_22) (z := (16 : Int32)) rfl rfl ?_
 refine Run.newP (aty := .long) X5 hx hZ e5 (wm20 hw) (hb hby d39_24) (len := 16) (by decide) (by decide) (cap := 16) (by decide) (by decide) (by decide) (by decide) ?_
 intro T6 h6 b6 gg6 X6 e6 E6 A_b6
 have g_b6 : n0 ≤ b6 := Nat.le_trans Z5 (Nat.le_of_eq gg6.symm)
 replace E_this := E_this.wr W5
 have ne_this_b6 : this ≠ b6 := Nat.ne_of_lt (Nat.lt_of_lt_of_le E_this.lt (Nat.le_of_eq gg6.symm))
 replace A_b2 := (A_b2.ext E4).other W5 (Ne.symm ne_this_b2)
 have ne_b2_b6 : b2 ≠ b6 := Nat.ne_of_lt (Nat.lt_of_lt_of_le A_b2.lt (Nat.le_of_eq gg6.symm))
 replace A_b4 := A_b4.other W5 (Ne.symm ne_this_b4)
 have ne_b4_b6 : b4 ≠ b6 := Nat.ne_of_lt (Nat.lt_of_lt_of_le A_b4.lt (Nat.le_of_eq gg6.symm))
 have sz_b6 : h0.size ≤ b6 := Nat.le_trans KP.1 (Nat.le_of_eq gg6.symm)
 have Z6 : n0 ≤ h6.size := Nat.le_trans Z5 E6.1
 replace KP := KP.ext E6
 replace A_b6 : Ars Z h6 b6 .long [(.long (0 : Int64)), (.long (0 : Int64)), (.long (0 : Int64)), (.long (0 : Int64)), (.long (0 : Int64)), (.long (0 : Int64)), (.long (0 : Int64)), (.long (0 : Int64)), (.long (0 : Int64)), (.long (0 : Int64)), (.long (0 : Int64)), (.long (0 : Int64)), (.long (0 : Int64)), (.long (0 : Int64)), (.long (0 : Int64)), (.long (0 : Int64))] := A_b6
 show Run p e below s _ _ _ (T6.setTop (mkF m 26 #[.val (.ref this)] [(.ref b6), (.ref this)]))
 replace F_this_sequences := ((((F_this_sequences.ext E2).other W3 (Or.inr (slot_ne (Or.inl (wm24 hw)) (Or.inl (wm19 hw)) (by decide) (t := (.array .long)) (t' := (.array (.object "com/example/framewheel/framewheel/core/FrameCallback"))) (by decide) (by decide)))).ext E4).other W5 (Or.inr (slot_ne (Or.inl (wm24 hw)) (Or.inl (wm22 hw)) (by decide) (t := (.array .long)) (t' := (.array .long)) (by decide) (by decide)))).ext E6
 replace E_this := E_this.ext E6
 obtain ⟨T7, h7, X7, e7, W7, st7⟩ := putF X6 hx hZ hown (host := "") (Or.inl (wm23 hw)) Via.refl e6 F_this_sequences E_this (Or.inl (wm24 hw)) (wm10 hw) (ty := (.array .long)) (by decide) rfl rfl (g := (mkF m 26 #[.val (.ref this)] [(.ref b6), (.ref this)])) rfl rfl (hb hby d39_26)
 replace F_this_sequences := F_this_sequences.same W7
 have Z7 : n0 ≤ h7.size := Nat.le_trans Z6 (Nat.le_of_eq W7.size.symm)
 replace KP := KP.wr W7 (Or.inl (by simp))
 have N7 := Fr.snoc X7 N5 g_this
 refine Run.st st7 ?_
 show Run p e below s _ _ _ (T7.setTop (mkF m 29 #[.val (.ref this)] []))
 refine Run.x_aloadN (q := 30) X7 hx (hb hby d39_29) rfl rfl rfl ?_
 obtain ⟨T8, h8, X8, e8, E8, A8, D8, -, st8⟩ := newO X7 hx hZ hown (wm25 hw) (wm26 hw) (wm27 hw) e7 (g := (mkF m 30 #[.val (.ref this)] [(.ref this)])) rfl (hb hby d39_30) (by decide) (by decide)
 obtain ⟨b8, gg8⟩ : ∃ z, z = h7.size := ⟨_, rfl⟩
 rw [← gg8] at A8 D8 st8
 have g_b8 : n0 ≤ b8 := Nat.le_trans Z7 (Nat.le_of_eq gg8.symm)
 replace E_this := E_this.wr W7
 have ne_this_b8 : this ≠ b8 := Nat.ne_of_lt (Nat.lt_of_lt_of_le E_this.lt (Nat.le_of_eq gg8.symm))
 replace A_b2 := (A_b2.ext E6).other W7 (Ne.symm ne_this_b2)
 have ne_b2_b8 : b2 ≠ b8 := Nat.ne_of_lt (Nat.lt_of_lt_of_le A_b2.lt (Nat.le_of_eq gg8.symm))
 replace A_b4 := (A_b4.ext E6).other W7 (Ne.symm ne_this_b4)
 have ne_b4_b8 : b4 ≠ b8 := Nat.ne_of_lt (Nat.lt_of_lt_of_le A_b4.lt (Nat.le_of_eq gg8.symm))
 replace A_b6 := A_b6.other W7 (Ne.symm ne_this_b6)
 have ne_b6_b8 : b6 ≠ b8 := Nat.ne_of_lt (Nat.lt_of_lt_of_le A_b6.lt (Nat.le_of_eq gg8.symm))
 have sz_b8 : h0.size ≤ b8 := Nat.le_trans KP.1 (Nat.le_of_eq gg8.symm)
 have Z8 : n0 ≤ h8.size := Nat.le_trans Z7 E8.1
 replace KP := KP.ext E8
 have E_b8 := A8
 have F_b8_run : Fld Z h8 b8 "com/example/framewheel/framewheel/core/TimeOrderedQueue" "run" "Ljava/util/ArrayDeque;" .null := D8 (Or.inr (wm53 hw)) (ty := (.object "java/util/ArrayDeque")) (by decide)
 have F_b8_order : Fld Z h8 b8 "com/example/framewheel/framewheel/core/TimeOrderedQueue" "order" "Ljava/util/Comparator;" .null := D8 (Or.inr (wm55 hw)) (ty := (.object "java/util/Comparator")) (by decide)
 have F_b8_heap : Fld Z h8 b8 "com/example/framewheel/framewheel/core/TimeOrderedQueue" "heap" "Ljava/util/PriorityQueue;" .null := D8 (Or.inr (wm80 hw)) (ty := (.object "java/util/PriorityQueue")) (by decide)
 refine Run.st st8 ?_
 show Run p e below s _ _ _ (T8.setTop (mkF m 33 #[.val (.ref this)] [(.ref b8), (.ref this)]))
 refine Run.x_dup (q := 34) X8 hx (hb hby d39_33) rfl rfl ?_
 replace O_lam := ((((((O_lam.ext E2).wr W3).ext E4).wr W5).ext E6).wr W7).ext E8
 refine own_site X8 hx hZ O_lam.1 hnd (by rw [hml]; rfl) (W := 3) rfl (by decide) (hb hby d39_34) ?_
 show Run p e below s _ _ _ (T8.setTop (mkF m 39 #[.val (.ref this)] [(.ref lam), (.ref b8), (.ref b8), (.ref this)]))
 refine Run.callC X8 hx hH e8 (y := (⟨"com/example/framewheel/framewheel/core/TimeOrderedQueue", "<init>", "(Ljava/util/Comparator;)V"⟩ : MethodName)) hown rfl (wm31 hw) (wm32 hw) (wm27 hw) (wm33 hw) (by decide) (a := b8) (argsL := [(.ref lam)]) (rest := [(.ref b8), (.ref this)]) (c_tqi l Z a0 hw b8 lam h8 n0 Z8 E_b8 F_b8_run F_b8_order F_b8_heap g_b8) pd_12 rfl (by rw [hml]; rfl) (W := 2) rfl (by decide) (by decide) (by decide) (by decide) (hb hby d39_39) rfl ?_
 intro T9 v9 L9 X9 q9
 obtain ⟨rq9, ea9, hq9, qa9, rfl, M9, K9, srq9, sea9, shq9, sqa9, Q0_9, Q1_9, Q2_9, Q3_9, Q4_9, Q5_9, Q6_9, Q7_9, Q8_9, Q9_9, Q10_9, Q11_9, Q12_9, Q13_9, Q14_9, Q15_9, Q16_9⟩ := q9
 have N9 := Fr.app N7 M9
 show Run p e below s _ _ _ (T9.setTop (mkF m 42 #[.val (.ref this)] [(.ref b8), (.ref this)]))
 replace E_this := E_this.ext E8
 have ne_this_rq9 : this ≠ rq9 := Nat.ne_of_lt (Nat.lt_of_lt_of_le E_this.lt srq9)
 replace A_b2 := A_b2.ext E8
 have ne_b2_rq9 : b2 ≠ rq9 := Nat.ne_of_lt (Nat.lt_of_lt_of_le A_b2.lt srq9)
 replace A_b4 := A_b4.ext E8
 have ne_b4_rq9 : b4 ≠ rq9 := Nat.ne_of_lt (Nat.lt_of_lt_of_le A_b4.lt srq9)
 replace A_b6 := A_b6.ext E8
 have ne_b6_rq9 : b6 ≠ rq9 := Nat.ne_of_lt (Nat.lt_of_lt_of_le A_b6.lt srq9)
 have ne_b8_rq9 : b8 ≠ rq9 := Nat.ne_of_lt (Nat.lt_of_lt_of_le E_b8.lt srq9)
 have g_rq9 : n0 ≤ rq9 := Nat.le_trans Z8 srq9
 have sz_rq9 : h0.size ≤ rq9 := Nat.le_trans KP.1 srq9
 have ne_this_ea9 : this ≠ ea9 := Nat.ne_of_lt (Nat.lt_of_lt_of_le E_this.lt sea9)
 have ne_b2_ea9 : b2 ≠ ea9 := Nat.ne_of_lt (Nat.lt_of_lt_of_le A_b2.lt sea9)
 have ne_b4_ea9 : b4 ≠ ea9 := Nat.ne_of_lt (Nat.lt_of_lt_of_le A_b4.lt sea9)
 have ne_b6_ea9 : b6 ≠ ea9 := Nat.ne_of_lt (Nat.lt_of_lt_of_le A_b6.lt sea9)
 have ne_b8_ea9 : b8 ≠ ea9 := Nat.ne_of_lt (Nat.lt_of_lt_of_le E_b8.lt sea9)
 have g_ea9 : n0 ≤ ea9 := Nat.le_trans Z8 sea9
 have sz_ea9 : h0.size ≤ ea9 := Nat.le_trans KP.1 sea9
 have ne_this_hq9 : this ≠ hq9 := Nat.ne_of_lt (Nat.lt_of_lt_of_le E_this.lt shq9)
 have ne_b2_hq9 : b2 ≠ hq9 := Nat.ne_of_lt (Nat.lt_of_lt_of_le A_b2.lt shq9)
 have ne_b4_hq9 : b4 ≠ hq9 := Nat.ne_of_lt (Nat.lt_of_lt_of_le A_b4.lt shq9)
 have ne_b6_hq9 : b6 ≠ hq9 := Nat.ne_of_lt (Nat.lt_of_lt_of_le A_b6.lt shq9)
 have ne_b8_hq9 : b8 ≠ hq9 := Nat.ne_of_lt (Nat.lt_of_lt_of_le E_b8.lt shq9)
 have g_hq9 : n0 ≤ hq9 := Nat.le_trans Z8 shq9
 have sz_hq9 : h0.size ≤ hq9 := Nat.le_trans KP.1 shq9
 have ne_this_qa9 : this ≠ qa9 := Nat.ne_of_lt (Nat.lt_of_lt_of_le E_this.lt sqa9)
 have ne_b2_qa9 : b2 ≠ qa9 := Nat.ne_of_lt (Nat.lt_of_lt_of_le A_b2.lt sqa9)
 have ne_b4_qa9 : b4 ≠ qa9 := Nat.ne_of_lt (Nat.lt_of_lt_of_le A_b4.lt sqa9)
 have ne_b6_qa9 : b6 ≠ qa9 := Nat.ne_of_lt (Nat.lt_of_lt_of_le A_b6.lt sqa9)
 have ne_b8_qa9 : b8 ≠ qa9 := Nat.ne_of_lt (Nat.lt_of_lt_of_le E_b8.lt sqa9)
 have g_qa9 : n0 ≤ qa9 := Nat.le_trans Z8 sqa9
 have sz_qa9 : h0.size ≤ qa9 := Nat.le_trans KP.1 sqa9
 have Z9 : n0 ≤ T9.heap.size := Nat.le_trans Z8 K9.1
 replace KP := KP.trans K9 (allS (Or.inr sz_b8) all0)
 replace F_this_delayed := (((((((F_this_delayed.ext E2).other W3 (Or.inr (slot_ne (Or.inr (wm82 hw)) (Or.inl (wm19 hw)) (by decide) (t := (.object "com/example/framewheel/framewheel/core/TimeOrderedQueue")) (t' := (.array (.object "com/example/framewheel/framewheel/core/FrameCallback"))) (by decide) (by decide)))).ext E4).other W5 (Or.inr (slot_ne (Or.inr (wm82 hw)) (Or.inl (wm22 hw)) (by decide) (t := (.object "com/example/framewheel/framewheel/core/TimeOrderedQueue")) (t' := (.array .long)) (by decide) (by decide)))).ext E6).other W7 (Or.inr (slot_ne (Or.inr (wm82 hw)) (Or.inl (wm24 hw)) (by decide) (t := (.object "com/example/framewheel/framewheel/core/TimeOrderedQueue")) (t' := (.array .long)) (by decide) (by decide)))).ext E8).keep K9 (ninS ne_this_b8 nin0)
 replace E_this := E_this.keep K9
 obtain ⟨T10, h10, X10, e10, W10, st10⟩ := putF X9 hx hZ hown (host := "") (Or.inl (wm81 hw)) Via.refl rfl F_this_delayed E_this (Or.inr ⟨(wm82 hw), rfl, hnm⟩) (wm10 hw) (ty := (.object "com/example/framewheel/framewheel/core/TimeOrderedQueue")) (by decide) rfl rfl (g := (mkF m 42 #[.val (.ref this)] [(.ref b8), (.ref this)])) rfl rfl (hb hby d39_42)
 replace F_this_delayed := F_this_delayed.same W10
 have Z10 : n0 ≤ h10.size := Nat.le_trans Z9 (Nat.le_of_eq W10.size.symm)
 replace KP := KP.wr W10 (Or.inl (by simp))
 have N10 := Fr.snoc X10 N9 g_this
 refine Run.st st10 ?_
 show Run p e below s _ _ _ (T10.setTop (mkF m 45 #[.val (.ref this)] []))
 replace E_this := E_this.wr W10
 replace F_this_works := ((((((F_this_works.ext E4).other W5 (Or.inr (slot_ne (Or.inl (wm19 hw)) (Or.inl (wm22 hw)) (by decide) (t := (.array (.object "com/example/framewheel/framewheel/core/FrameCallback"))) (t' := (.array .long)) (by decide) (by decide)))).ext E6).other W7 (Or.inr (slot_ne (Or.inl (wm19 hw)) (Or.inl (wm24 hw)) (by decide) (t := (.array (.object "com/example/framewheel/framewheel/core/FrameCallback"))) (t' := (.array .long)) (by decide) (by decide)))).ext E8).keep K9 (ninS ne_this_b8 nin0)).other W10 (Or.inr (slot_ne (Or.inl (wm19 hw)) (Or.inr (wm82 hw)) (by decide) (t := (.array (.object "com/example/framewheel/framewheel/core/FrameCallback"))) (t' := (.object "com/example/framewheel/framewheel/core/TimeOrderedQueue")) (by decide) (by decide)))
 replace F_this_dueTimes := ((((F_this_dueTimes.ext E6).other W7 (Or.inr (slot_ne (Or.inl (wm22 hw)) (Or.inl (wm24 hw)) (by decide) (t := (.array .long)) (t' := (.array .long)) (by decide) (by decide)))).ext E8).keep K9 (ninS ne_this_b8 nin0)).other W10 (Or.inr (slot_ne (Or.inl (wm22 hw)) (Or.inr (wm82 hw)) (by decide) (t := (.array .long)) (t' := (.object "com/example/framewheel/framewheel/core/TimeOrderedQueue")) (by decide) (by decide)))
 replace F_this_sequences := ((F_this_sequences.ext E8).keep K9 (ninS ne_this_b8 nin0)).other W10 (Or.inr (slot_ne (Or.inl (wm24 hw)) (Or.inr (wm82 hw)) (by decide) (t := (.array .long)) (t' := (.object "com/example/framewheel/framewheel/core/TimeOrderedQueue")) (by decide) (by decide)))
 replace F_this_head := ((((((((F_this_head.ext E2).other W3 (Or.inr (slot_ne (Or.inl (wm102 hw)) (Or.inl (wm19 hw)) (by decide) (t := .int) (t' := (.array (.object "com/example/framewheel/framewheel/core/FrameCallback"))) (by decide) (by decide)))).ext E4).other W5 (Or.inr (slot_ne (Or.inl (wm102 hw)) (Or.inl (wm22 hw)) (by decide) (t := .int) (t' := (.array .long)) (by decide) (by decide)))).ext E6).other W7 (Or.inr (slot_ne (Or.inl (wm102 hw)) (Or.inl (wm24 hw)) (by decide) (t := .int) (t' := (.array .long)) (by decide) (by decide)))).ext E8).keep K9 (ninS ne_this_b8 nin0)).other W10 (Or.inr (slot_ne (Or.inl (wm102 hw)) (Or.inr (wm82 hw)) (by decide) (t := .int) (t' := (.object "com/example/framewheel/framewheel/core/TimeOrderedQueue")) (by decide) (by decide)))
 replace F_this_size := ((((((((F_this_size.ext E2).other W3 (Or.inr (slot_ne (Or.inl (wm96 hw)) (Or.inl (wm19 hw)) (by decide) (t := .int) (t' := (.array (.object "com/example/framewheel/framewheel/core/FrameCallback"))) (by decide) (by decide)))).ext E4).other W5 (Or.inr (slot_ne (Or.inl (wm96 hw)) (Or.inl (wm22 hw)) (by decide) (t := .int) (t' := (.array .long)) (by decide) (by decide)))).ext E6).other W7 (Or.inr (slot_ne (Or.inl (wm96 hw)) (Or.inl (wm24 hw)) (by decide) (t := .int) (t' := (.array .long)) (by decide) (by decide)))).ext E8).keep K9 (ninS ne_this_b8 nin0)).other W10 (Or.inr (slot_ne (Or.inl (wm96 hw)) (Or.inr (wm82 hw)) (by decide) (t := .int) (t' := (.object "com/example/framewheel/framewheel/core/TimeOrderedQueue")) (by decide) (by decide)))
 replace F_this_firstDelayed := ((((((((F_this_firstDelayed.ext E2).other W3 (Or.inr (slot_ne (Or.inl (wm89 hw)) (Or.inl (wm19 hw)) (by decide) (t := (.object "com/example/framewheel/framewheel/core/PhaseQueue$Delayed")) (t' := (.array (.object "com/example/framewheel/framewheel/core/FrameCallback"))) (by decide) (by decide)))).ext E4).other W5 (Or.inr (slot_ne (Or.inl (wm89 hw)) (Or.inl (wm22 hw)) (by decide) (t := (.object "com/example/framewheel/framewheel/core/PhaseQueue$Delayed")) (t' := (.array .long)) (by decide) (by decide)))).ext E6).other W7 (Or.inr (slot_ne (Or.inl (wm89 hw)) (Or.inl (wm24 hw)) (by decide) (t := (.object "com/example/framewheel/framewheel/core/PhaseQueue$Delayed")) (t' := (.array .long)) (by decide) (by decide)))).ext E8).keep K9 (ninS ne_this_b8 nin0)).other W10 (Or.inr (slot_ne (Or.inl (wm89 hw)) (Or.inr (wm82 hw)) (by decide) (t := (.object "com/example/framewheel/framewheel/core/PhaseQueue$Delayed")) (t' := (.object "com/example/framewheel/framewheel/core/TimeOrderedQueue")) (by decide) (by decide)))
 replace O_lam := (O_lam.keep K9).wr W10
 replace O_b2 := (((((((O_b2.wr W3).ext E4).wr W5).ext E6).wr W7).ext E8).keep K9).wr W10
 replace A_b2 := (A_b2.keep K9 (ninS ne_b2_b8 nin0)).other W10 (Ne.symm ne_this_b2)
 replace A_b4 := (A_b4.keep K9 (ninS ne_b4_b8 nin0)).other W10 (Ne.symm ne_this_b4)
 replace A_b6 := (A_b6.keep K9 (ninS ne_b6_b8 nin0)).other W10 (Ne.symm ne_this_b6)
 replace Q0_9 := Q0_9.wr W10
 replace Q1_9 := Q1_9.other W10 (Or.inl (Ne.symm ne_this_b8))
 replace Q2_9 := Q2_9.other W10 (Or.inl (Ne.symm ne_this_b8))
 replace Q3_9 := Q3_9.other W10 (Or.inl (Ne.symm ne_this_b8))
 replace Q4_9 := Q4_9.wr W10
 replace Q5_9 := Q5_9.other W10 (Or.inl (Ne.symm ne_this_rq9))
 replace Q6_9 := Q6_9.other W10 (Or.inl (Ne.symm ne_this_rq9))
 replace Q7_9 := Q7_9.other W10 (Or.inl (Ne.symm ne_this_rq9))
 replace Q8_9 := Q8_9.other W10 (Ne.symm ne_this_ea9)
 replace Q10_9 := Q10_9.wr W10
 replace Q11_9 := Q11_9.other W10 (Or.inl (Ne.symm ne_this_hq9))
 replace Q12_9 := Q12_9.other W10 (Or.inl (Ne.symm ne_this_hq9))
 replace Q13_9 := Q13_9.other W10 (Or.inl (Ne.symm ne_this_hq9))
 replace Q14_9 := Q14_9.other W10 (Or.inl (Ne.symm ne_this_hq9))
 replace Q15_9 := Q15_9.other W10 (Ne.symm ne_this_qa9)
 replace Q9_9 := Q9_9.wr W10
 replace Q16_9 := Q16_9.wr W10
 refine Run.retV X10 hx hlk e10 hret (hb hby d39_45) (by decide) (by decide) ?_
 exact ⟨rfl, N10, ⟨_, KP⟩, ⟨[], _, _, _, _, _, _, _, _, _, _, _, _, _, _, _, _, _, _, _, 0, 0, 0, 0, _, E_this, F_this_works, F_this_dueTimes, F_this_sequences, F_this_head, F_this_size, F_this_delayed, F_this_firstDelayed, A_b2, O_b2, A_b4, A_b6, Q0_9, Q1_9, Q2_9, Q3_9, Q4_9, Q5_9, Q6_9, Q7_9, Q8_9, Q9_9, Q10_9, Q11_9, Q12_9, Q13_9, Q14_9, Q15_9, Q16_9, O_lam, (fun _ h => nomatch h), g_this, g_rq9, g_hq9, g_ea9, g_qa9, g_b2, g_b4, g_b6, ne_b2_b4, ne_b2_b6, ne_b4_b6, own_rv0, (Or.inl ⟨rfl, rfl⟩), (Or.inl ⟨rfl, rfl⟩), rfl, (Nat.le_refl _), (Nat.le_refl _), ⟨rfl, rfl, Nat.le_refl _, rfl, fun i a b => absurd b (by omega)⟩, own_lgs0, own_lgs0⟩⟩
theorem d40_0 : decode method_5_code 0 = .ok (.aload_n 0, 1) := by decide +kernel
theorem d40_1 : decode method_5_code 1 = .ok (.ifnonnull 5, 3) := by decide +kernel
theorem d40_4 : decode method_5_code 4 = .ok (.iconst 0, 1) := by decide +kernel
theorem d40_5 : decode method_5_code 5 = .ok (.ireturn, 1) := by decide +kernel
theorem d40_6 : decode method_5_code 6 = .ok (.aload_n 0, 1) := by decide +kernel
theorem d40_7 : decode method_5_code 7 = .ok (.aload_n 1, 1) := by decide +kernel
theorem d40_8 : decode method_5_code 8 = .ok (.if_acmp .ne 14, 3) := by decide +kernel
theorem d40_11 : decode method_5_code 11 = .ok (.iload 4, 2) := by decide +kernel
theorem d40_13 : decode method_5_code 13 = .ok (.ifCond .eq 7, 3) := by decide +kernel
theorem d40_16 : decode method_5_code 16 = .ok (.iconst 1, 1) := by decide +kernel
theorem d40_17 : decode method_5_code 17 = .ok (.goto 4, 3) := by decide +kernel
theorem d40_20 : decode method_5_code 20 = .ok (.iconst 0, 1) := by decide +kernel
theorem d40_21 : decode method_5_code 21 = .ok (.ireturn, 1) := by decide +kernel
theorem d40_22 : decode method_5_code 22 = .ok (.aload_n 0, 1) := by decide +kernel
theorem d40_23 : decode method_5_code 23 = .ok (.aload_n 2, 1) := by decide +kernel
theorem d40_24 : decode method_5_code 24 = .ok (.if_acmp .ne 14, 3) := by decide +kernel
theorem d40_27 : decode method_5_code 27 = .ok (.iload 5, 2) := by decide +kernel
theorem d40_29 : decode method_5_code 29 = .ok (.ifCond .eq 7, 3) := by decide +kernel
theorem d40_32 : decode method_5_code 32 = .ok (.iconst 1, 1) := by decide +kernel
theorem d40_33 : decode method_5_code 33 = .ok (.goto 4, 3) := by decide +kernel
theorem d40_36 : decode method_5_code 36 = .ok (.iconst 0, 1) := by decide +kernel
theorem d40_37 : decode method_5_code 37 = .ok (.ireturn, 1) := by decide +kernel
theorem d40_38 : decode method_5_code 38 = .ok (.aload_n 0, 1) := by decide +kernel
theorem d40_39 : decode method_5_code 39 = .ok (.aload_n 3, 1) := by decide +kernel
theorem d40_40 : decode method_5_code 40 = .ok (.if_acmp .ne 14, 3) := by decide +kernel
theorem d40_43 : decode method_5_code 43 = .ok (.iload 6, 2) := by decide +kernel
theorem d40_45 : decode method_5_code 45 = .ok (.ifCond .eq 7, 3) := by decide +kernel
theorem d40_48 : decode method_5_code 48 = .ok (.iconst 1, 1) := by decide +kernel
theorem d40_49 : decode method_5_code 49 = .ok (.goto 4, 3) := by decide +kernel
theorem d40_52 : decode method_5_code 52 = .ok (.iconst 0, 1) := by decide +kernel
theorem d40_53 : decode method_5_code 53 = .ok (.ireturn, 1) := by decide +kernel
theorem d40_54 : decode method_5_code 54 = .ok (.iconst 0, 1) := by decide +kernel
theorem d40_55 : decode method_5_code 55 = .ok (.ireturn, 1) := by decide +kernel
theorem ef_c_tdn (m : MethodId) (w1 : Addr) (w2 : Addr) (w3 : Addr) (z1 : Int32) (z2 : Int32) (z3 : Int32) : entryFrame m #[.null, (.ref w1), (.ref w2), (.ref w3), (.int z1), (.int z2), (.int z3)] 7 = mkF m 0 #[.val .null, .val (.ref w1), .val (.ref w2), .val (.ref w3), .val (.int z1), .val (.int z2), .val (.int z3)] [] := by first | (simp [entryFrame, mkF, argsToLocals, Value.category]; done) | rfl
set_option maxRecDepth 65536 in
set_option maxHeartbeats 40000000 in
theorem c_tdn (l : Launch) (Z : State) (a0 : Array Value) (hw : ∀ d ∈ tables_1, d.before a0 Z = true) (w1 : Addr) (w2 : Addr) (w3 : Addr) (z1 : Int32) (z2 : Int32) (z3 : Int32) (h0 : Heap) (n0 : Nat) (Z0 : n0 ≤ h0.size)  :
  Ctr l Z (⟨"com/example/framewheel/framewheel/core/PhaseQueueHasDelayedPinLaw", "takenDelayed", "(Lcom/example/framewheel/framewheel/core/FrameCallback;Ljava/lang/Object;Ljava/lang/Object;Ljava/lang/Object;ZZZ)I"⟩ : MethodName) method_5_code 7 (some .int) ({ frames := 0, cells := 0, slots := 0, locals := 0 } : Room) #[.null, (.ref w1), (.ref w2), (.ref w3), (.int z1), (.int z2), (.int z3)] h0 (PureI h0 n0 (0 : Int32)) := by
 refine Ctr.of (plainFor_of_name pn_9) (fun m => ef_c_tdn m w1 w2 w3 z1 z2 z3) ?_
 intro p e s m below meth c T0 hx hby hml hown hnm hret hlk hH e0 X0 hnd
 have hZ := hH.wide
 have N0 := Fr.nil n0
 replace hown : s.vm.findClass "com/example/framewheel/framewheel/core/PhaseQueueHasDelayedPinLaw" = some m.cls := hown
 replace hml : c.maxLocals = 7 := hml
 refine Run.x_aloadN (q := 1) X0 hx (hb hby d40_0) rfl rfl rfl ?_
 refine Run.st (B := T0.setTop (mkF m 4 #[.val .null, .val (.ref w1), .val (.ref w2), .val (.ref w3), .val (.int z1), .val (.int z2), .val (.int z3)] [])) (fun t kt => XS.ifnonnullNo X0.here hx rfl (hb hby d40_1) rfl kt) ?_
 refine Run.x_iconst (q := 5) X0 hx (hb hby d40_4) (z := (0 : Int32)) rfl rfl ?_
 refine Run.retI X0 hx hlk e0 hret (hb hby d40_5) (by decide) (by decide) ?_
 exact PureI.mk (by rfl) N0
theorem ef_c_tdr (m : MethodId) (tk : Addr) (w1 : Addr) (w2 : Addr) (w3 : Addr) (z1 : Int32) (z2 : Int32) (z3 : Int32) : entryFrame m #[(.ref tk), (.ref w1), (.ref w2), (.ref w3), (.int z1), (.int z2), (.int z3)] 7 = mkF m 0 #[.val (.ref tk), .val (.ref w1), .val (.ref w2), .val (.ref w3), .val (.int z1), .val (.int z2), .val (.int z3)] [] := by first | (simp [entryFrame, mkF, argsToLocals, Value.category]; done) | rfl
set_option maxRecDepth 65536 in
set_option maxHeartbeats 40000000 in
theorem c_tdr (l : Launch) (Z : State) (a0 : Array Value) (hw : ∀ d ∈ tables_1, d.before a0 Z = true) (tk : Addr) (w1 : Addr) (w2 : Addr) (w3 : Addr) (z1 : Int32) (z2 : Int32) (z3 : Int32) (h0 : Heap) (n0 : Nat) (Z0 : n0 ≤ h0.size) (zr : Int32) (ne_w1_w2 : w1 ≠ w2) (ne_w1_w3 : w1 ≠ w3) (ne_w2_w3 : w2 ≠ w3) (hT : own_PD w1 w2 w3 z1 z2 z3 zr tk) (hzr : zr = 0 ∨ zr = 1) :
  Ctr l Z (⟨"com/example/framewheel/framewheel/core/PhaseQueueHasDelayedPinLaw", "takenDelayed", "(Lcom/example/framewheel/framewheel/core/FrameCallback;Ljava/lang/Object;Ljava/lang/Object;Ljava/lang/Object;ZZZ)I"⟩ : MethodName) method_5_code 7 (some .int) ({ frames := 0, cells := 0, slots := 0, locals := 0 } : Room) #[(.ref tk), (.ref w1), (.ref w2), (.ref w3), (.int z1), (.int z2), (.int z3)] h0 (PureI h0 n0 zr) := by
 refine Ctr.of (plainFor_of_name pn_9) (fun m => ef_c_tdr m tk w1 w2 w3 z1 z2 z3) ?_
 intro p e s m below meth c T0 hx hby hml hown hnm hret hlk hH e0 X0 hnd
 have hZ := hH.wide
 have N0 := Fr.nil n0
 replace hown : s.vm.findClass "com/example/framewheel/framewheel/core/PhaseQueueHasDelayedPinLaw" = some m.cls := hown
 replace hml : c.maxLocals = 7 := hml
 rcases hT with ⟨ht, hz⟩ | ⟨ht, hz⟩ | ⟨ht, hz⟩
 ·skip
  refine Run.x_aloadN (q := 1) X0 hx (hb hby d40_0) rfl rfl rfl ?_
  refine Run.st (B := T0.setTop (mkF m 6 #[.val (.ref tk), .val (.ref w1), .val (.ref w2), .val (.ref w3), .val (.int z1), .val (.int z2), .val (.int z3)] [])) (fun t kt => XS.ifnonnullYes X0.here hx rfl (pc0 := 1) (pc' := 6) rfl (hb hby d40_1) rfl (by decide) (by decide) kt) ?_
  refine Run.x_aloadN (q := 7) X0 hx (hb hby d40_6) rfl rfl rfl ?_
  refine Run.x_aloadN (q := 8) X0 hx (hb hby d40_7) rfl rfl rfl ?_
  refine Run.st (B := T0.setTop (mkF m 11 #[.val (.ref tk), .val (.ref w1), .val (.ref w2), .val (.ref w3), .val (.int z1), .val (.int z2), .val (.int z3)] [])) (fun t kt => Jvm.RoadKit.acmp (g := (mkF m 8 #[.val (.ref tk), .val (.ref w1), .val (.ref w2), .val (.ref w3), .val (.int z1), .val (.int z2), .val (.int z3)] [(.ref w1), (.ref tk)])) X0 hx rfl rfl rfl (pc0 := 8) (pc' := 11) (same := true) rfl (hb hby d40_8) rfl (decide_eq_true (congrArg Value.ref ht)) (by decide) (by decide) kt) ?_
  refine Run.x_iload (q := 13) X0 hx (hb hby d40_11) rfl rfl ?_
  by_cases hc13 : z1 = (0 : Int32)
  ·skip
   refine Run.x_ifYes (q := 20) X0 hx (hb hby d40_13) ((if0 _ _).trans (teq hc13).1) (by decide) (by decide) ?_
   refine Run.x_iconst (q := 21) X0 hx (hb hby d40_20) (z := (0 : Int32)) rfl rfl ?_
   refine Run.retI X0 hx hlk e0 hret (hb hby d40_21) (by decide) (by decide) ?_
   exact PureI.mk (by exact hc13.symm.trans hz) N0
  ·skip
   refine Run.x_ifNo (q := 16) X0 hx (hb hby d40_13) ((if0 _ _).trans (feq hc13).1) rfl ?_
   refine Run.x_iconst (q := 17) X0 hx (hb hby d40_16) (z := (1 : Int32)) rfl rfl ?_
   refine Run.x_goto (q := 21) X0 hx (hb hby d40_17) (by decide) (by decide) ?_
   refine Run.retI X0 hx hlk e0 hret (hb hby d40_21) (by decide) (by decide) ?_
   exact PureI.mk (by exact (hzr.resolve_left (fun q => hc13 (hz.trans q))).symm) N0
 ·skip
  refine Run.x_aloadN (q := 1) X0 hx (hb hby d40_0) rfl rfl rfl ?_
  refine Run.st (B := T0.setTop (mkF m 6 #[.val (.ref tk), .val (.ref w1), .val (.ref w2), .val (.ref w3), .val (.int z1), .val (.int z2), .val (.int z3)] [])) (fun t kt => XS.ifnonnullYes X0.here hx rfl (pc0 := 1) (pc' := 6) rfl (hb hby d40_1) rfl (by decide) (by decide) kt) ?_
  refine Run.x_aloadN (q := 7) X0 hx (hb hby d40_6) rfl rfl rfl ?_
  refine Run.x_aloadN (q := 8) X0 hx (hb hby d40_7) rfl rfl rfl ?_
  refine Run.st (B := T0.setTop (mkF m 22 #[.val (.ref tk), .val (.ref w1), .val (.ref w2), .val (.ref w3), .val (.int z1), .val (.int z2), .val (.int z3)] [])) (fun t kt => Jvm.RoadKit.acmp (g := (mkF m 8 #[.val (.ref tk), .val (.ref w1), .val (.ref w2), .val (.ref w3), .val (.int z1), .val (.int z2), .val (.int z3)] [(.ref w1), (.ref tk)])) X0 hx rfl rfl rfl (pc0 := 8) (pc' := 22) (same := false) rfl (hb hby d40_8) rfl (decide_eq_false fun q => ne_w1_w2 ((Value.ref.inj q).symm.trans ht)) (by decide) (by decide) kt) ?_
  refine Run.x_aloadN (q := 23) X0 hx (hb hby d40_22) rfl rfl rfl ?_
  refine Run.x_aloadN (q := 24) X0 hx (hb hby d40_23) rfl rfl rfl ?_
  refine Run.st (B := T0.setTop (mkF m 27 #[.val (.ref tk), .val (.ref w1), .val (.ref w2), .val (.ref w3), .val (.int z1), .val (.int z2), .val (.int z3)] [])) (fun t kt => Jvm.RoadKit.acmp (g := (mkF m 24 #[.val (.ref tk), .val (.ref w1), .val (.ref w2), .val (.ref w3), .val (.int z1), .val (.int z2), .val (.int z3)] [(.ref w2), (.ref tk)])) X0 hx rfl rfl rfl (pc0 := 24) (pc' := 27) (same := true) rfl (hb hby d40_24) rfl (decide_eq_true (congrArg Value.ref ht)) (by decide) (by decide) kt) ?_
  refine Run.x_iload (q := 29) X0 hx (hb hby d40_27) rfl rfl ?_
  by_cases hc29 : z2 = (0 : Int32)
  ·skip
   refine Run.x_ifYes (q := 36) X0 hx (hb hby d40_29) ((if0 _ _).trans (teq hc29).1) (by decide) (by decide) ?_
   refine Run.x_iconst (q := 37) X0 hx (hb hby d40_36) (z := (0 : Int32)) rfl rfl ?_
   refine Run.retI X0 hx hlk e0 hret (hb hby d40_37) (by decide) (by decide) ?_
   exact PureI.mk (by exact hc29.symm.trans hz) N0
  ·skip
   refine Run.x_ifNo (q := 32) X0 hx (hb hby d40_29) ((if0 _ _).trans (feq hc29).1) rfl ?_
   refine Run.x_iconst (q := 33) X0 hx (hb hby d40_32) (z := (1 : Int32)) rfl rfl ?_
   refine Run.x_goto (q := 37) X0 hx (hb hby d40_33) (by decide) (by decide) ?_
   refine Run.retI X0 hx hlk e0 hret (hb hby d40_37) (by decide) (by decide) ?_
   exact PureI.mk (by exact (hzr.resolve_left (fun q => hc29 (hz.trans q))).symm) N0
 ·skip
  refine Run.x_aloadN (q := 1) X0 hx (hb hby d40_0) rfl rfl rfl ?_
  refine Run.st (B := T0.setTop (mkF m 6 #[.val (.ref tk), .val (.ref w1), .val (.ref w2), .val (.ref w3), .val (.int z1), .val (.int z2), .val (.int z3)] [])) (fun t kt => XS.ifnonnullYes X0.here hx rfl (pc0 := 1) (pc' := 6) rfl (hb hby d40_1) rfl (by decide) (by decide) kt) ?_
  refine Run.x_aloadN (q := 7) X0 hx (hb hby d40_6) rfl rfl rfl ?_
  refine Run.x_aloadN (q := 8) X0 hx (hb hby d40_7) rfl rfl rfl ?_
  refine Run.st (B := T0.setTop (mkF m 22 #[.val (.ref tk), .val (.ref w1), .val (.ref w2), .val (.ref w3), .val (.int z1), .val (.int z2), .val (.int z3)] [])) (fun t kt => Jvm.RoadKit.acmp (g := (mkF m 8 #[.val (.ref tk), .val (.ref w1), .val (.ref w2), .val (.ref w3), .val (.int z1), .val (.int z2), .val (.int z3)] [(.ref w1), (.ref tk)])) X0 hx rfl rfl rfl (pc0 := 8) (pc' := 22) (same := false) rfl (hb hby d40_8) rfl (decide_eq_false fun q => ne_w1_w3 ((Value.ref.inj q).symm.trans ht)) (by decide) (by decide) kt) ?_
  refine Run.x_aloadN (q := 23) X0 hx (hb hby d40_22) rfl rfl rfl ?_
  refine Run.x_aloadN (q := 24) X0 hx (hb hby d40_23) rfl rfl rfl ?_
  refine Run.st (B := T0.setTop (mkF m 38 #[.val (.ref tk), .val (.ref w1), .val (.ref w2), .val (.ref w3), .val (.int z1), .val (.int z2), .val (.int z3)] [])) (fun t kt => Jvm.RoadKit.acmp (g := (mkF m 24 #[.val (.ref tk), .val (.ref w1), .val (.ref w2), .val (.ref w3), .val (.int z1), .val (.int z2), .val (.int z3)] [(.ref w2), (.ref tk)])) X0 hx rfl rfl rfl (pc0 := 24) (pc' := 38) (same := false) rfl (hb hby d40_24) rfl (decide_eq_false fun q => ne_w2_w3 ((Value.ref.inj q).symm.trans ht)) (by decide) (by decide) kt) ?_
  refine Run.x_aloadN (q := 39) X0 hx (hb hby d40_38) rfl rfl rfl ?_
  refine Run.x_aloadN (q := 40) X0 hx (hb hby d40_39) rfl rfl rfl ?_
  refine Run.st (B := T0.setTop (mkF m 43 #[.val (.ref tk), .val (.ref w1), .val (.ref w2), .val (.ref w3), .val (.int z1), .val (.int z2), .val (.int z3)] [])) (fun t kt => Jvm.RoadKit.acmp (g := (mkF m 40 #[.val (.ref tk), .val (.ref w1), .val (.ref w2), .val (.ref w3), .val (.int z1), .val (.int z2), .val (.int z3)] [(.ref w3), (.ref tk)])) X0 hx rfl rfl rfl (pc0 := 40) (pc' := 43) (same := true) rfl (hb hby d40_40) rfl (decide_eq_true (congrArg Value.ref ht)) (by decide) (by decide) kt) ?_
  refine Run.x_iload (q := 45) X0 hx (hb hby d40_43) rfl rfl ?_
  by_cases hc45 : z3 = (0 : Int32)
  ·skip
   refine Run.x_ifYes (q := 52) X0 hx (hb hby d40_45) ((if0 _ _).trans (teq hc45).1) (by decide) (by decide) ?_
   refine Run.x_iconst (q := 53) X0 hx (hb hby d40_52) (z := (0 : Int32)) rfl rfl ?_
   refine Run.retI X0 hx hlk e0 hret (hb hby d40_53) (by decide) (by decide) ?_
   exact PureI.mk (by exact hc45.symm.trans hz) N0
  ·skip
   refine Run.x_ifNo (q := 48) X0 hx (hb hby d40_45) ((if0 _ _).trans (feq hc45).1) rfl ?_
   refine Run.x_iconst (q := 49) X0 hx (hb hby d40_48) (z := (1 : Int32)) rfl rfl ?_
   refine Run.x_goto (q := 53) X0 hx (hb hby d40_49) (by decide) (by decide) ?_
   refine Run.retI X0 hx hlk e0 hret (hb hby d40_53) (by decide) (by decide) ?_
   exact PureI.mk (by exact (hzr.resolve_left (fun q => hc45 (hz.trans q))).symm) N0
theorem own_z0 {z : Int32} (h : z = 0) : z.toInt = 0 := by rw [h]; rfl
theorem own_z1 {z : Int32} (h : z = 0 ∨ z = 1) (q : ¬ z = 0) : z.toInt = 1 := by rw [h.resolve_left q]; rfl
theorem own_sub0 {lf : Int32} {k : Nat} (h : lf.toInt = k) : (lf - (0 : Int32)).toInt = k := by rw [Int32.sub_zero]; exact h
theorem own_sub1 {lf : Int32} {k k' : Nat} (h : lf.toInt = k) (q : k = k' + 1) (b : k ≤ 3) : (lf - (1 : Int32)).toInt = k' := by
 subst q
 rcases own_lit h b with ⟨x, y⟩ | ⟨x, y⟩ | ⟨x, y⟩ | ⟨x, y⟩
 ·omega
 ·rw [x, show k' = 0 by omega]; decide
 ·rw [x, show k' = 1 by omega]; decide
 ·rw [x, show k' = 2 by omega]; decide
theorem ef_c_law (m : MethodId) (p1 : Int32) (p2 : Int64) (p3 : Int64) (p4 : Int64) (p5 : Int64) : entryFrame m #[(.int p1), (.long p2), (.long p3), (.long p4), (.long p5)] maxLocals = mkF m 0 #[.val (.int p1), .val (.long p2), .second, .val (.long p3), .second, .val (.long p4), .second, .val (.long p5), .second, .unset, .unset, .unset, .unset, .unset, .unset, .unset, .unset, .unset, .unset, .unset, .unset, .unset] [] := by first | (simp [entryFrame, mkF, argsToLocals, Value.category, maxLocals]; done) | rfl
theorem wm0 {a0 : Array Value} {Z : State} (hw : ∀ d ∈ tables_1, d.before a0 Z = true) : (Jvm.Cond.classLink "com/example/framewheel/framewheel/core/PhaseQueueHasDelayedPinLaw" (7 : Nat) "com/example/framewheel/framewheel/core/PhaseQueueHasDelayedPinLaw").before a0 Z = true := hw _ (List.mem_of_getElem? (i := 0) rfl)
theorem wm1 {a0 : Array Value} {Z : State} (hw : ∀ d ∈ tables_1, d.before a0 Z = true) : (Jvm.Cond.instantiable "com/example/framewheel/framewheel/core/PhaseQueueHasDelayedPinLaw" (0 : Nat)).before a0 Z = true := hw _ (List.mem_of_getElem? (i := 1) rfl)
theorem wm2 {a0 : Array Value} {Z : State} (hw : ∀ d ∈ tables_1, d.before a0 Z = true) : (Jvm.Cond.initialized "com/example/framewheel/framewheel/core/PhaseQueueHasDelayedPinLaw").before a0 Z = true := hw _ (List.mem_of_getElem? (i := 2) rfl)
theorem wm3 {a0 : Array Value} {Z : State} (hw : ∀ d ∈ tables_1, d.before a0 Z = true) : (Jvm.Cond.methodLink "com/example/framewheel/framewheel/core/PhaseQueueHasDelayedPinLaw" (9 : Nat) ({ cls := "com/example/framewheel/framewheel/core/PhaseQueueHasDelayedPinLaw", name := "<init>", desc := "()V" } : Jvm.MethodName)).before a0 Z = true := hw _ (List.mem_of_getElem? (i := 3) rfl)
theorem wm5 {a0 : Array Value} {Z : State} (hw : ∀ d ∈ tables_1, d.before a0 Z = true) : (Jvm.Cond.code ({ cls := "com/example/framewheel/framewheel/core/PhaseQueueHasDelayedPinLaw", name := "<init>", desc := "()V" } : Jvm.MethodName) method_1_code (1 : Nat) (Option.none : Option Jvm.ClassFile.FieldType)).before a0 Z = true := hw _ (List.mem_of_getElem? (i := 5) rfl)
theorem wm4 {a0 : Array Value} {Z : State} (hw : ∀ d ∈ tables_1, d.before a0 Z = true) : (Jvm.Cond.instanceMethod ({ cls := "com/example/framewheel/framewheel/core/PhaseQueueHasDelayedPinLaw", name := "<init>", desc := "()V" } : Jvm.MethodName)).before a0 Z = true := hw _ (List.mem_of_getElem? (i := 4) rfl)
theorem wm9 {a0 : Array Value} {Z : State} (hw : ∀ d ∈ tables_1, d.before a0 Z = true) : (Jvm.Cond.classLink "com/example/framewheel/framewheel/core/PhaseQueueHasDelayedPinLaw" (10 : Nat) "com/example/framewheel/framewheel/core/PhaseQueue").before a0 Z = true := hw _ (List.mem_of_getElem? (i := 9) rfl)
theorem wm12 {a0 : Array Value} {Z : State} (hw : ∀ d ∈ tables_1, d.before a0 Z = true) : (Jvm.Cond.methodLink "com/example/framewheel/framewheel/core/PhaseQueueHasDelayedPinLaw" (12 : Nat) ({ cls := "com/example/framewheel/framewheel/core/PhaseQueue", name := "<init>", desc := "()V" } : Jvm.MethodName)).before a0 Z = true := hw _ (List.mem_of_getElem? (i := 12) rfl)
theorem wm14 {a0 : Array Value} {Z : State} (hw : ∀ d ∈ tables_1, d.before a0 Z = true) : (Jvm.Cond.code ({ cls := "com/example/framewheel/framewheel/core/PhaseQueue", name := "<init>", desc := "()V" } : Jvm.MethodName) prog_9_method_1_code (1 : Nat) (Option.none : Option Jvm.ClassFile.FieldType)).before a0 Z = true := hw _ (List.mem_of_getElem? (i := 14) rfl)
theorem wm13 {a0 : Array Value} {Z : State} (hw : ∀ d ∈ tables_1, d.before a0 Z = true) : (Jvm.Cond.instanceMethod ({ cls := "com/example/framewheel/framewheel/core/PhaseQueue", name := "<init>", desc := "()V" } : Jvm.MethodName)).before a0 Z = true := hw _ (List.mem_of_getElem? (i := 13) rfl)
theorem wm83 {a0 : Array Value} {Z : State} (hw : ∀ d ∈ tables_1, d.before a0 Z = true) : (Jvm.Cond.methodLink "com/example/framewheel/framewheel/core/PhaseQueueHasDelayedPinLaw" (13 : Nat) ({ cls := "com/example/framewheel/framewheel/core/PhaseQueue", name := "hasDelayed", desc := "()Z" } : Jvm.MethodName)).before a0 Z = true := hw _ (List.mem_of_getElem? (i := 83) rfl)
theorem wm87 {a0 : Array Value} {Z : State} (hw : ∀ d ∈ tables_1, d.before a0 Z = true) : (Jvm.Cond.code ({ cls := "com/example/framewheel/framewheel/core/PhaseQueue", name := "hasDelayed", desc := "()Z" } : Jvm.MethodName) prog_9_method_4_code (1 : Nat) (Option.some Jvm.ClassFile.FieldType.boolean)).before a0 Z = true := hw _ (List.mem_of_getElem? (i := 87) rfl)
theorem pd_17 : parseMethodDescriptor "()Z" = some ⟨[], some .boolean⟩ := by decide +kernel
theorem wm84 {a0 : Array Value} {Z : State} (hw : ∀ d ∈ tables_1, d.before a0 Z = true) : (Jvm.Cond.declares ({ cls := "com/example/framewheel/framewheel/core/PhaseQueue", name := "hasDelayed", desc := "()Z" } : Jvm.MethodName)).before a0 Z = true := hw _ (List.mem_of_getElem? (i := 84) rfl)
theorem wm85 {a0 : Array Value} {Z : State} (hw : ∀ d ∈ tables_1, d.before a0 Z = true) : (Jvm.Cond.instanceMethod ({ cls := "com/example/framewheel/framewheel/core/PhaseQueue", name := "hasDelayed", desc := "()Z" } : Jvm.MethodName)).before a0 Z = true := hw _ (List.mem_of_getElem? (i := 85) rfl)
theorem wm105 {a0 : Array Value} {Z : State} (hw : ∀ d ∈ tables_1, d.before a0 Z = true) : (Jvm.Cond.methodLink "com/example/framewheel/framewheel/core/PhaseQueueHasDelayedPinLaw" (23 : Nat) ({ cls := "com/example/framewheel/framewheel/core/PhaseQueue", name := "takeFirstDue", desc := "(JJ)Lcom/example/framewheel/framewheel/core/FrameCallback;" } : Jvm.MethodName)).before a0 Z = true := hw _ (List.mem_of_getElem? (i := 105) rfl)
theorem wm109 {a0 : Array Value} {Z : State} (hw : ∀ d ∈ tables_1, d.before a0 Z = true) : (Jvm.Cond.code ({ cls := "com/example/framewheel/framewheel/core/PhaseQueue", name := "takeFirstDue", desc := "(JJ)Lcom/example/framewheel/framewheel/core/FrameCallback;" } : Jvm.MethodName) prog_9_method_6_code (6 : Nat) (Option.some (Jvm.ClassFile.FieldType.object "com/example/framewheel/framewheel/core/FrameCallback"))).before a0 Z = true := hw _ (List.mem_of_getElem? (i := 109) rfl)
theorem pd_18 : parseMethodDescriptor "(JJ)Lcom/example/framewheel/framewheel/core/FrameCallback;" = some ⟨[.long, .long], some (.object "com/example/framewheel/framewheel/core/FrameCallback")⟩ := by decide +kernel
theorem wm108 {a0 : Array Value} {Z : State} (hw : ∀ d ∈ tables_1, d.before a0 Z = true) : (Jvm.Cond.selects "com/example/framewheel/framewheel/core/PhaseQueue" ({ cls := "com/example/framewheel/framewheel/core/PhaseQueue", name := "takeFirstDue", desc := "(JJ)Lcom/example/framewheel/framewheel/core/FrameCallback;" } : Jvm.MethodName) ({ cls := "com/example/framewheel/framewheel/core/PhaseQueue", name := "takeFirstDue", desc := "(JJ)Lcom/example/framewheel/framewheel/core/FrameCallback;" } : Jvm.MethodName)).before a0 Z = true := hw _ (List.mem_of_getElem? (i := 108) rfl)
theorem wm106 {a0 : Array Value} {Z : State} (hw : ∀ d ∈ tables_1, d.before a0 Z = true) : (Jvm.Cond.declares ({ cls := "com/example/framewheel/framewheel/core/PhaseQueue", name := "takeFirstDue", desc := "(JJ)Lcom/example/framewheel/framewheel/core/FrameCallback;" } : Jvm.MethodName)).before a0 Z = true := hw _ (List.mem_of_getElem? (i := 106) rfl)
theorem wm107 {a0 : Array Value} {Z : State} (hw : ∀ d ∈ tables_1, d.before a0 Z = true) : (Jvm.Cond.instanceMethod ({ cls := "com/example/framewheel/framewheel/core/PhaseQueue", name := "takeFirstDue", desc := "(JJ)Lcom/example/framewheel/framewheel/core/FrameCallback;" } : Jvm.MethodName)).before a0 Z = true := hw _ (List.mem_of_getElem? (i := 107) rfl)
theorem wm110 {a0 : Array Value} {Z : State} (hw : ∀ d ∈ tables_1, d.before a0 Z = true) : (Jvm.Cond.methodLink "com/example/framewheel/framewheel/core/PhaseQueueHasDelayedPinLaw" (27 : Nat) ({ cls := "com/example/framewheel/framewheel/core/PhaseQueueHasDelayedPinLaw", name := "takenDelayed", desc := "(Lcom/example/framewheel/framewheel/core/FrameCallback;Ljava/lang/Object;Ljava/lang/Object;Ljava/lang/Object;ZZZ)I" } : Jvm.MethodName)).before a0 Z = true := hw _ (List.mem_of_getElem? (i := 110) rfl)
theorem wm112 {a0 : Array Value} {Z : State} (hw : ∀ d ∈ tables_1, d.before a0 Z = true) : (Jvm.Cond.code ({ cls := "com/example/framewheel/framewheel/core/PhaseQueueHasDelayedPinLaw", name := "takenDelayed", desc := "(Lcom/example/framewheel/framewheel/core/FrameCallback;Ljava/lang/Object;Ljava/lang/Object;Ljava/lang/Object;ZZZ)I" } : Jvm.MethodName) method_5_code (7 : Nat) (Option.some Jvm.ClassFile.FieldType.int)).before a0 Z = true := hw _ (List.mem_of_getElem? (i := 112) rfl)
theorem pd_19 : parseMethodDescriptor "(Lcom/example/framewheel/framewheel/core/FrameCallback;Ljava/lang/Object;Ljava/lang/Object;Ljava/lang/Object;ZZZ)I" = some ⟨[(.object "com/example/framewheel/framewheel/core/FrameCallback"), (.object "java/lang/Object"), (.object "java/lang/Object"), (.object "java/lang/Object"), .boolean, .boolean, .boolean], some .int⟩ := by decide +kernel
theorem wm111 {a0 : Array Value} {Z : State} (hw : ∀ d ∈ tables_1, d.before a0 Z = true) : (Jvm.Cond.static ({ cls := "com/example/framewheel/framewheel/core/PhaseQueueHasDelayedPinLaw", name := "takenDelayed", desc := "(Lcom/example/framewheel/framewheel/core/FrameCallback;Ljava/lang/Object;Ljava/lang/Object;Ljava/lang/Object;ZZZ)I" } : Jvm.MethodName)).before a0 Z = true := hw _ (List.mem_of_getElem? (i := 111) rfl)
theorem wm104 {a0 : Array Value} {Z : State} (hw : ∀ d ∈ tables_1, d.before a0 Z = true) : (Jvm.Cond.constantLong "com/example/framewheel/framewheel/core/PhaseQueueHasDelayedPinLaw" (21 : Nat) (2 : Int64)).before a0 Z = true := hw _ (List.mem_of_getElem? (i := 104) rfl)
theorem wm90 {a0 : Array Value} {Z : State} (hw : ∀ d ∈ tables_1, d.before a0 Z = true) : (Jvm.Cond.methodLink "com/example/framewheel/framewheel/core/PhaseQueueHasDelayedPinLaw" (17 : Nat) ({ cls := "com/example/framewheel/framewheel/core/PhaseQueue", name := "add", desc := "(Lcom/example/framewheel/framewheel/core/FrameCallback;JJLjava/lang/Runnable;)V" } : Jvm.MethodName)).before a0 Z = true := hw _ (List.mem_of_getElem? (i := 90) rfl)
theorem wm94 {a0 : Array Value} {Z : State} (hw : ∀ d ∈ tables_1, d.before a0 Z = true) : (Jvm.Cond.code ({ cls := "com/example/framewheel/framewheel/core/PhaseQueue", name := "add", desc := "(Lcom/example/framewheel/framewheel/core/FrameCallback;JJLjava/lang/Runnable;)V" } : Jvm.MethodName) prog_9_method_3_code (8 : Nat) (Option.none : Option Jvm.ClassFile.FieldType)).before a0 Z = true := hw _ (List.mem_of_getElem? (i := 94) rfl)
theorem wm93 {a0 : Array Value} {Z : State} (hw : ∀ d ∈ tables_1, d.before a0 Z = true) : (Jvm.Cond.selects "com/example/framewheel/framewheel/core/PhaseQueue" ({ cls := "com/example/framewheel/framewheel/core/PhaseQueue", name := "add", desc := "(Lcom/example/framewheel/framewheel/core/FrameCallback;JJLjava/lang/Runnable;)V" } : Jvm.MethodName) ({ cls := "com/example/framewheel/framewheel/core/PhaseQueue", name := "add", desc := "(Lcom/example/framewheel/framewheel/core/FrameCallback;JJLjava/lang/Runnable;)V" } : Jvm.MethodName)).before a0 Z = true := hw _ (List.mem_of_getElem? (i := 93) rfl)
theorem wm91 {a0 : Array Value} {Z : State} (hw : ∀ d ∈ tables_1, d.before a0 Z = true) : (Jvm.Cond.declares ({ cls := "com/example/framewheel/framewheel/core/PhaseQueue", name := "add", desc := "(Lcom/example/framewheel/framewheel/core/FrameCallback;JJLjava/lang/Runnable;)V" } : Jvm.MethodName)).before a0 Z = true := hw _ (List.mem_of_getElem? (i := 91) rfl)
theorem wm92 {a0 : Array Value} {Z : State} (hw : ∀ d ∈ tables_1, d.before a0 Z = true) : (Jvm.Cond.instanceMethod ({ cls := "com/example/framewheel/framewheel/core/PhaseQueue", name := "add", desc := "(Lcom/example/framewheel/framewheel/core/FrameCallback;JJLjava/lang/Runnable;)V" } : Jvm.MethodName)).before a0 Z = true := hw _ (List.mem_of_getElem? (i := 92) rfl)
set_option maxRecDepth 65536 in
set_option maxHeartbeats 40000000 in
theorem c_law (l : Launch) (Z : State) (a0 : Array Value) (hw : ∀ d ∈ tables_1, d.before a0 Z = true) (p1 : Int32) (p2 : Int64) (p3 : Int64) (p4 : Int64) (p5 : Int64) (h0 : Heap) (n0 : Nat) (Z0 : n0 ≤ h0.size) (lam : Addr) (cK : ClassId) (O_lam : own_Fn Z h0 lam cK) :
  Ctr l Z x code maxLocals ret room_1 #[(.int p1), (.long p2), (.long p3), (.long p4), (.long p5)] h0 (Tru n0) := by
 refine Ctr.of (plainFor_of_name pn_9) (fun m => ef_c_law m p1 p2 p3 p4 p5) ?_
 intro p e s m below meth c T0 hx hby hml hown hnm hret hlk hH e0 X0 hnd
 have hZ := hH.wide
 have N0 := Fr.nil n0
 replace hown : s.vm.findClass "com/example/framewheel/framewheel/core/PhaseQueueHasDelayedPinLaw" = some m.cls := hown
 replace hml : c.maxLocals = 22 := hml
 have J39 : ∀ (T1 : State) (h1 : Heap) (lo1 : List Loc) (z1 : Int32) (z2 : Int32) (z3 : Int32), Stand p l e room_1 s m #[(.int p1), (.long p2), (.long p3), (.long p4), (.long p5)] below meth c T1 lo1 0 0 → T1.heap = h1 → Fr n0 lo1 → n0 ≤ h1.size → own_Fn Z h1 lam cK → (z1 = 0 ∨ z1 = 1) → (z2 = 0 ∨ z2 = 1) → (z3 = 0 ∨ z3 = 1) → Run p e below s (Tru n0) room_1.cells room_1.slots (T1.setTop (mkF m 39 #[.val (.int p1), .val (.long p2), .second, .val (.long p3), .second, .val (.long p4), .second, .val (.long p5), .second, .val (.int z1), .val (.int z2), .val (.int z3), .unset, .unset, .unset, .unset, .unset, .unset, .unset, .unset, .unset, .unset] [])) := by
  intro T1 h1 lo1 z1 z2 z3 X1 e1 N1 Z1 O_lam hz1 hz2 hz3
  refine Run.x_iloadN (q := 40) X1 hx (hb hby at_39) rfl rfl ?_
  refine Run.x_iconst (q := 41) X1 hx (hb hby at_40) (z := (3 : Int32)) rfl rfl ?_
  refine Run.x_iushr (q := 42) X1 hx (hb hby at_41) rfl rfl ?_
  refine Run.x_iconst (q := 43) X1 hx (hb hby at_42) (z := (3 : Int32)) rfl rfl ?_
  refine Run.x_iand (q := 44) X1 hx (hb hby at_43) rfl rfl ?_
  refine Run.x_i2l (q := 45) X1 hx (hb hby at_44) rfl rfl ?_
  refine Run.x_lstore (q := 47) X1 hx #[.val (.int p1), .val (.long p2), .second, .val (.long p3), .second, .val (.long p4), .second, .val (.long p5), .second, .val (.int z1), .val (.int z2), .val (.int z3), .val (.long (((p1.toUInt32 >>> ((3 : Int32) &&& 31).toUInt32).toInt32) &&& (3 : Int32)).toInt64), .second, .unset, .unset, .unset, .unset, .unset, .unset, .unset, .unset] (hb hby at_45) rfl rfl ?_
  generalize hbf : (((p1.toUInt32 >>> ((3 : Int32) &&& 31).toUInt32).toInt32) &&& (3 : Int32)).toInt64 = bf
  obtain ⟨T2, h2, X2, e2, E2, A2, D2, -, st2⟩ := newO X1 hx hZ hown (wm0 hw) (wm1 hw) (wm2 hw) e1 (g := (mkF m 47 #[.val (.int p1), .val (.long p2), .second, .val (.long p3), .second, .val (.long p4), .second, .val (.long p5), .second, .val (.int z1), .val (.int z2), .val (.int z3), .val (.long bf), .second, .unset, .unset, .unset, .unset, .unset, .unset, .unset, .unset] [])) rfl (hb hby at_47) (by decide) (by decide)
  obtain ⟨b2, gg2⟩ : ∃ z, z = h1.size := ⟨_, rfl⟩
  rw [← gg2] at A2 D2 st2
  have g_b2 : n0 ≤ b2 := Nat.le_trans Z1 (Nat.le_of_eq gg2.symm)
  have Z2 : n0 ≤ h2.size := Nat.le_trans Z1 E2.1
  have E_b2 := A2
  refine Run.st st2 ?_
  show Run p e below s _ _ _ (T2.setTop (mkF m 50 #[.val (.int p1), .val (.long p2), .second, .val (.long p3), .second, .val (.long p4), .second, .val (.long p5), .second, .val (.int z1), .val (.int z2), .val (.int z3), .val (.long bf), .second, .unset, .unset, .unset, .unset, .unset, .unset, .unset, .unset] [(.ref b2)]))
  refine Run.x_dup (q := 51) X2 hx (hb hby at_50) rfl rfl ?_
  refine Run.callC X2 hx hH e2 (y := (⟨"com/example/framewheel/framewheel/core/PhaseQueueHasDelayedPinLaw", "<init>", "()V"⟩ : MethodName)) hown rfl (wm3 hw) (wm4 hw) (wm2 hw) (wm5 hw) (by decide) (a := b2) (argsL := []) (rest := [(.ref b2)]) (c_lwi l Z a0 hw b2 h2 n0 Z2 ) pd_10 rfl (by rw [hml]; rfl) (W := 1) rfl (by decide) (by decide) (by decide) (by decide) (hb hby at_51) rfl ?_
  intro T3 v3 L3 X3 q3
  obtain ⟨rfl, M3, e3⟩ := q3
  have N3 := Fr.app N1 M3
  show Run p e below s _ _ _ (T3.setTop (mkF m 54 #[.val (.int p1), .val (.long p2), .second, .val (.long p3), .second, .val (.long p4), .second, .val (.long p5), .second, .val (.int z1), .val (.int z2), .val (.int z3), .val (.long bf), .second, .unset, .unset, .unset, .unset, .unset, .unset, .unset, .unset] [(.ref b2)]))
  refine Run.x_astore (q := 56) X3 hx #[.val (.int p1), .val (.long p2), .second, .val (.long p3), .second, .val (.long p4), .second, .val (.long p5), .second, .val (.int z1), .val (.int z2), .val (.int z3), .val (.long bf), .second, .val (.ref b2), .unset, .unset, .unset, .unset, .unset, .unset, .unset] (hb hby at_54) rfl rfl rfl ?_
  obtain ⟨T4, h4, X4, e4, E4, A4, D4, -, st4⟩ := newO X3 hx hZ hown (wm0 hw) (wm1 hw) (wm2 hw) e3 (g := (mkF m 56 #[.val (.int p1), .val (.long p2), .second, .val (.long p3), .second, .val (.long p4), .second, .val (.long p5), .second, .val (.int z1), .val (.int z2), .val (.int z3), .val (.long bf), .second, .val (.ref b2), .unset, .unset, .unset, .unset, .unset, .unset, .unset] [])) rfl (hb hby at_56) (by decide) (by decide)
  obtain ⟨b4, gg4⟩ : ∃ z, z = h2.size := ⟨_, rfl⟩
  rw [← gg4] at A4 D4 st4
  have g_b4 : n0 ≤ b4 := Nat.le_trans Z2 (Nat.le_of_eq gg4.symm)
  have ne_b2_b4 : b2 ≠ b4 := Nat.ne_of_lt (Nat.lt_of_lt_of_le E_b2.lt (Nat.le_of_eq gg4.symm))
  have Z4 : n0 ≤ h4.size := Nat.le_trans Z2 E4.1
  have E_b4 := A4
  refine Run.st st4 ?_
  show Run p e below s _ _ _ (T4.setTop (mkF m 59 #[.val (.int p1), .val (.long p2), .second, .val (.long p3), .second, .val (.long p4), .second, .val (.long p5), .second, .val (.int z1), .val (.int z2), .val (.int z3), .val (.long bf), .second, .val (.ref b2), .unset, .unset, .unset, .unset, .unset, .unset, .unset] [(.ref b4)]))
  refine Run.x_dup (q := 60) X4 hx (hb hby at_59) rfl rfl ?_
  refine Run.callC X4 hx hH e4 (y := (⟨"com/example/framewheel/framewheel/core/PhaseQueueHasDelayedPinLaw", "<init>", "()V"⟩ : MethodName)) hown rfl (wm3 hw) (wm4 hw) (wm2 hw) (wm5 hw) (by decide) (a := b4) (argsL := []) (rest := [(.ref b4)]) (c_lwi l Z a0 hw b4 h4 n0 Z4 ) pd_10 rfl (by rw [hml]; rfl) (W := 1) rfl (by decide) (by decide) (by decide) (by decide) (hb hby at_60) rfl ?_
  intro T5 v5 L5 X5 q5
  obtain ⟨rfl, M5, e5⟩ := q5
  have N5 := Fr.app N3 M5
  show Run p e below s _ _ _ (T5.setTop (mkF m 63 #[.val (.int p1), .val (.long p2), .second, .val (.long p3), .second, .val (.long p4), .second, .val (.long p5), .second, .val (.int z1), .val (.int z2), .val (.int z3), .val (.long bf), .second, .val (.ref b2), .unset, .unset, .unset, .unset, .unset, .unset, .unset] [(.ref b4)]))
  refine Run.x_astore (q := 65) X5 hx #[.val (.int p1), .val (.long p2), .second, .val (.long p3), .second, .val (.long p4), .second, .val (.long p5), .second, .val (.int z1), .val (.int z2), .val (.int z3), .val (.long bf), .second, .val (.ref b2), .val (.ref b4), .unset, .unset, .unset, .unset, .unset, .unset] (hb hby at_63) rfl rfl rfl ?_
  obtain ⟨T6, h6, X6, e6, E6, A6, D6, -, st6⟩ := newO X5 hx hZ hown (wm0 hw) (wm1 hw) (wm2 hw) e5 (g := (mkF m 65 #[.val (.int p1), .val (.long p2), .second, .val (.long p3), .second, .val (.long p4), .second, .val (.long p5), .second, .val (.int z1), .val (.int z2), .val (.int z3), .val (.long bf), .second, .val (.ref b2), .val (.ref b4), .unset, .unset, .unset, .unset, .unset, .unset] [])) rfl (hb hby at_65) (by decide) (by decide)
  obtain ⟨b6, gg6⟩ : ∃ z, z = h4.size := ⟨_, rfl⟩
  rw [← gg6] at A6 D6 st6
  have g_b6 : n0 ≤ b6 := Nat.le_trans Z4 (Nat.le_of_eq gg6.symm)
  replace E_b2 := E_b2.ext E4
  have ne_b2_b6 : b2 ≠ b6 := Nat.ne_of_lt (Nat.lt_of_lt_of_le E_b2.lt (Nat.le_of_eq gg6.symm))
  have ne_b4_b6 : b4 ≠ b6 := Nat.ne_of_lt (Nat.lt_of_lt_of_le E_b4.lt (Nat.le_of_eq gg6.symm))
  have Z6 : n0 ≤ h6.size := Nat.le_trans Z4 E6.1
  have E_b6 := A6
  refine Run.st st6 ?_
  show Run p e below s _ _ _ (T6.setTop (mkF m 68 #[.val (.int p1), .val (.long p2), .second, .val (.long p3), .second, .val (.long p4), .second, .val (.long p5), .second, .val (.int z1), .val (.int z2), .val (.int z3), .val (.long bf), .second, .val (.ref b2), .val (.ref b4), .unset, .unset, .unset, .unset, .unset, .unset] [(.ref b6)]))
  refine Run.x_dup (q := 69) X6 hx (hb hby at_68) rfl rfl ?_
  refine Run.callC X6 hx hH e6 (y := (⟨"com/example/framewheel/framewheel/core/PhaseQueueHasDelayedPinLaw", "<init>", "()V"⟩ : MethodName)) hown rfl (wm3 hw) (wm4 hw) (wm2 hw) (wm5 hw) (by decide) (a := b6) (argsL := []) (rest := [(.ref b6)]) (c_lwi l Z a0 hw b6 h6 n0 Z6 ) pd_10 rfl (by rw [hml]; rfl) (W := 1) rfl (by decide) (by decide) (by decide) (by decide) (hb hby at_69) rfl ?_
  intro T7 v7 L7 X7 q7
  obtain ⟨rfl, M7, e7⟩ := q7
  have N7 := Fr.app N5 M7
  show Run p e below s _ _ _ (T7.setTop (mkF m 72 #[.val (.int p1), .val (.long p2), .second, .val (.long p3), .second, .val (.long p4), .second, .val (.long p5), .second, .val (.int z1), .val (.int z2), .val (.int z3), .val (.long bf), .second, .val (.ref b2), .val (.ref b4), .unset, .unset, .unset, .unset, .unset, .unset] [(.ref b6)]))
  refine Run.x_astore (q := 74) X7 hx #[.val (.int p1), .val (.long p2), .second, .val (.long p3), .second, .val (.long p4), .second, .val (.long p5), .second, .val (.int z1), .val (.int z2), .val (.int z3), .val (.long bf), .second, .val (.ref b2), .val (.ref b4), .val (.ref b6), .unset, .unset, .unset, .unset, .unset] (hb hby at_72) rfl rfl rfl ?_
  obtain ⟨T8, h8, X8, e8, E8, A8, D8, -, st8⟩ := newO X7 hx hZ hown (wm0 hw) (wm1 hw) (wm2 hw) e7 (g := (mkF m 74 #[.val (.int p1), .val (.long p2), .second, .val (.long p3), .second, .val (.long p4), .second, .val (.long p5), .second, .val (.int z1), .val (.int z2), .val (.int z3), .val (.long bf), .second, .val (.ref b2), .val (.ref b4), .val (.ref b6), .unset, .unset, .unset, .unset, .unset] [])) rfl (hb hby at_74) (by decide) (by decide)
  obtain ⟨b8, gg8⟩ : ∃ z, z = h6.size := ⟨_, rfl⟩
  rw [← gg8] at A8 D8 st8
  have g_b8 : n0 ≤ b8 := Nat.le_trans Z6 (Nat.le_of_eq gg8.symm)
  replace E_b2 := E_b2.ext E6
  have ne_b2_b8 : b2 ≠ b8 := Nat.ne_of_lt (Nat.lt_of_lt_of_le E_b2.lt (Nat.le_of_eq gg8.symm))
  replace E_b4 := E_b4.ext E6
  have ne_b4_b8 : b4 ≠ b8 := Nat.ne_of_lt (Nat.lt_of_lt_of_le E_b4.lt (Nat.le_of_eq gg8.symm))
  have ne_b6_b8 : b6 ≠ b8 := Nat.ne_of_lt (Nat.lt_of_lt_of_le E_b6.lt (Nat.le_of_eq gg8.symm))
  have Z8 : n0 ≤ h8.size := Nat.le_trans Z6 E8.1
  have E_b8 := A8
  refine Run.st st8 ?_
  show Run p e below s _ _ _ (T8.setTop (mkF m 77 #[.val (.int p1), .val (.long p2), .second, .val (.long p3), .second, .val (.long p4), .second, .val (.long p5), .second, .val (.int z1), .val (.int z2), .val (.int z3), .val (.long bf), .second, .val (.ref b2), .val (.ref b4), .val (.ref b6), .unset, .unset, .unset, .unset, .unset] [(.ref b8)]))
  refine Run.x_dup (q := 78) X8 hx (hb hby at_77) rfl rfl ?_
  refine Run.callC X8 hx hH e8 (y := (⟨"com/example/framewheel/framewheel/core/PhaseQueueHasDelayedPinLaw", "<init>", "()V"⟩ : MethodName)) hown rfl (wm3 hw) (wm4 hw) (wm2 hw) (wm5 hw) (by decide) (a := b8) (argsL := []) (rest := [(.ref b8)]) (c_lwi l Z a0 hw b8 h8 n0 Z8 ) pd_10 rfl (by rw [hml]; rfl) (W := 1) rfl (by decide) (by decide) (by decide) (by decide) (hb hby at_78) rfl ?_
  intro T9 v9 L9 X9 q9
  obtain ⟨rfl, M9, e9⟩ := q9
  have N9 := Fr.app N7 M9
  show Run p e below s _ _ _ (T9.setTop (mkF m 81 #[.val (.int p1), .val (.long p2), .second, .val (.long p3), .second, .val (.long p4), .second, .val (.long p5), .second, .val (.int z1), .val (.int z2), .val (.int z3), .val (.long bf), .second, .val (.ref b2), .val (.ref b4), .val (.ref b6), .unset, .unset, .unset, .unset, .unset] [(.ref b8)]))
  refine Run.x_astore (q := 83) X9 hx #[.val (.int p1), .val (.long p2), .second, .val (.long p3), .second, .val (.long p4), .second, .val (.long p5), .second, .val (.int z1), .val (.int z2), .val (.int z3), .val (.long bf), .second, .val (.ref b2), .val (.ref b4), .val (.ref b6), .val (.ref b8), .unset, .unset, .unset, .unset] (hb hby at_81) rfl rfl rfl ?_
  obtain ⟨T10, h10, X10, e10, E10, A10, D10, -, st10⟩ := newO X9 hx hZ hown (wm9 hw) (wm10 hw) (wm11 hw) e9 (g := (mkF m 83 #[.val (.int p1), .val (.long p2), .second, .val (.long p3), .second, .val (.long p4), .second, .val (.long p5), .second, .val (.int z1), .val (.int z2), .val (.int z3), .val (.long bf), .second, .val (.ref b2), .val (.ref b4), .val (.ref b6), .val (.ref b8), .unset, .unset, .unset, .unset] [])) rfl (hb hby at_83) (by decide) (by decide)
  obtain ⟨b10, gg10⟩ : ∃ z, z = h8.size := ⟨_, rfl⟩
  rw [← gg10] at A10 D10 st10
  have g_b10 : n0 ≤ b10 := Nat.le_trans Z8 (Nat.le_of_eq gg10.symm)
  replace E_b2 := E_b2.ext E8
  have ne_b2_b10 : b2 ≠ b10 := Nat.ne_of_lt (Nat.lt_of_lt_of_le E_b2.lt (Nat.le_of_eq gg10.symm))
  replace E_b4 := E_b4.ext E8
  have ne_b4_b10 : b4 ≠ b10 := Nat.ne_of_lt (Nat.lt_of_lt_of_le E_b4.lt (Nat.le_of_eq gg10.symm))
  replace E_b6 := E_b6.ext E8
  have ne_b6_b10 : b6 ≠ b10 := Nat.ne_of_lt (Nat.lt_of_lt_of_le E_b6.lt (Nat.le_of_eq gg10.symm))
  have ne_b8_b10 : b8 ≠ b10 := Nat.ne_of_lt (Nat.lt_of_lt_of_le E_b8.lt (Nat.le_of_eq gg10.symm))
  have Z10 : n0 ≤ h10.size := Nat.le_trans Z8 E10.1
  have E_b10 := A10
  have F_b10_works : Fld Z h10 b10 "com/example/framewheel/framewheel/core/PhaseQueue" "works" "[Lcom/example/framewheel/framewheel/core/FrameCallback;" .null := D10 (Or.inl (wm19 hw)) (ty := (.array (.object "com/example/framewheel/framewheel/core/FrameCallback"))) (by decide)
  have F_b10_dueTimes : Fld Z h10 b10 "com/example/framewheel/framewheel/core/PhaseQueue" "dueTimes" "[J" .null := D10 (Or.inl (wm22 hw)) (ty := (.array .long)) (by decide)
  have F_b10_sequences : Fld Z h10 b10 "com/example/framewheel/framewheel/core/PhaseQueue" "sequences" "[J" .null := D10 (Or.inl (wm24 hw)) (ty := (.array .long)) (by decide)
  have F_b10_delayed : Fld Z h10 b10 "com/example/framewheel/framewheel/core/PhaseQueue" "delayed" "Lcom/example/framewheel/framewheel/core/TimeOrderedQueue;" .null := D10 (Or.inr (wm82 hw)) (ty := (.object "com/example/framewheel/framewheel/core/TimeOrderedQueue")) (by decide)
  have F_b10_firstDelayed : Fld Z h10 b10 "com/example/framewheel/framewheel/core/PhaseQueue" "firstDelayed" "Lcom/example/framewheel/framewheel/core/PhaseQueue$Delayed;" .null := D10 (Or.inl (wm89 hw)) (ty := (.object "com/example/framewheel/framewheel/core/PhaseQueue$Delayed")) (by decide)
  have F_b10_size : Fld Z h10 b10 "com/example/framewheel/framewheel/core/PhaseQueue" "size" "I" (.int 0) := D10 (Or.inl (wm96 hw)) (ty := .int) (by decide)
  have F_b10_head : Fld Z h10 b10 "com/example/framewheel/framewheel/core/PhaseQueue" "head" "I" (.int 0) := D10 (Or.inl (wm102 hw)) (ty := .int) (by decide)
  refine Run.st st10 ?_
  show Run p e below s _ _ _ (T10.setTop (mkF m 86 #[.val (.int p1), .val (.long p2), .second, .val (.long p3), .second, .val (.long p4), .second, .val (.long p5), .second, .val (.int z1), .val (.int z2), .val (.int z3), .val (.long bf), .second, .val (.ref b2), .val (.ref b4), .val (.ref b6), .val (.ref b8), .unset, .unset, .unset, .unset] [(.ref b10)]))
  refine Run.x_dup (q := 87) X10 hx (hb hby at_86) rfl rfl ?_
  replace O_lam := ((((O_lam.ext E2).ext E4).ext E6).ext E8).ext E10
  refine Run.callC X10 hx hH e10 (y := (⟨"com/example/framewheel/framewheel/core/PhaseQueue", "<init>", "()V"⟩ : MethodName)) hown rfl (wm12 hw) (wm13 hw) (wm11 hw) (wm14 hw) (by decide) (a := b10) (argsL := []) (rest := [(.ref b10)]) (c_pqi l Z a0 hw b10 h10 n0 Z10 (own_PD b2 b4 b6 z1 z2 z3 1) (own_PD b2 b4 b6 z1 z2 z3 0) lam cK E_b10 F_b10_works F_b10_dueTimes F_b10_sequences F_b10_head F_b10_size F_b10_delayed F_b10_firstDelayed O_lam g_b10) pd_10 rfl (by rw [hml]; rfl) (W := 1) rfl (by decide) (by decide) (by decide) (by decide) (hb hby at_87) rfl ?_
  intro T11 v11 L11 X11 q11
  obtain ⟨rfl, M11, ⟨wk11, K11⟩, hQ11⟩ := q11
  have N11 := Fr.app N9 M11
  show Run p e below s _ _ _ (T11.setTop (mkF m 90 #[.val (.int p1), .val (.long p2), .second, .val (.long p3), .second, .val (.long p4), .second, .val (.long p5), .second, .val (.int z1), .val (.int z2), .val (.int z3), .val (.long bf), .second, .val (.ref b2), .val (.ref b4), .val (.ref b6), .val (.ref b8), .unset, .unset, .unset, .unset] [(.ref b10)]))
  have Z11 : n0 ≤ T11.heap.size := Nat.le_trans Z10 K11.1
  refine Run.x_astore (q := 92) X11 hx #[.val (.int p1), .val (.long p2), .second, .val (.long p3), .second, .val (.long p4), .second, .val (.long p5), .second, .val (.int z1), .val (.int z2), .val (.int z3), .val (.long bf), .second, .val (.ref b2), .val (.ref b4), .val (.ref b6), .val (.ref b8), .val (.ref b10), .unset, .unset, .unset] (hb hby at_90) rfl rfl rfl ?_
  refine Run.x_aload (q := 94) X11 hx (hb hby at_92) rfl rfl rfl ?_
  replace E_b10 := E_b10.keep K11
  refine Run.callVI (q := 97) X11 hx hH rfl (y := (⟨"com/example/framewheel/framewheel/core/PhaseQueue", "hasDelayed", "()Z"⟩ : MethodName)) (z := (⟨"com/example/framewheel/framewheel/core/PhaseQueue", "hasDelayed", "()Z"⟩ : MethodName)) hown (wm83 hw) (wm84 hw) (notFace_of_selects (args := #[]) (mvT hZ (wm86 hw))) (wm86 hw) (wm85 hw) (wm11 hw) (wm87 hw) (by decide) (a := b10) E_b10 (argsL := []) (rest := []) (c_has l Z a0 hw b10 T11.heap n0 Z11 (own_PD b2 b4 b6 z1 z2 z3 1) (own_PD b2 b4 b6 z1 z2 z3 0) lam cK 0 0 hQ11) pd_17 rfl (by rw [hml]; rfl) (W := 0) rfl (by decide) (by decide) (by decide) (by decide) (hb hby at_94) rfl rfl fun T12 L12 X12 M12 e12 => ?_
  have N12 := Fr.app N11 M12
  refine Run.x_ifNo (q := 100) X12 hx (hb hby at_97) ((if0 _ _).trans (teq (rfl : own_b 0 = 0)).2) rfl ?_
  refine Run.x_iconst (q := 101) X12 hx (hb hby at_100) (z := (1 : Int32)) rfl rfl ?_
  refine Run.x_goto (q := 105) X12 hx (hb hby at_101) (by decide) (by decide) ?_
  refine Run.x_istore (q := 107) X12 hx #[.val (.int p1), .val (.long p2), .second, .val (.long p3), .second, .val (.long p4), .second, .val (.long p5), .second, .val (.int z1), .val (.int z2), .val (.int z3), .val (.long bf), .second, .val (.ref b2), .val (.ref b4), .val (.ref b6), .val (.ref b8), .val (.ref b10), .val (.int 1), .unset, .unset] (hb hby at_105) rfl rfl ?_
  have J346 : ∀ (T13 : State) (h13 : Heap) (lo13 : List Loc) (k : Nat) (lf : Int32) (sl : Slot), Stand p l e room_1 s m #[(.int p1), (.long p2), (.long p3), (.long p4), (.long p5)] below meth c T13 lo13 16 105 → T13.heap = h13 → Fr n0 lo13 → n0 ≤ h13.size → Exa Z h13 b2 "com/example/framewheel/framewheel/core/PhaseQueueHasDelayedPinLaw" → Exa Z h13 b4 "com/example/framewheel/framewheel/core/PhaseQueueHasDelayedPinLaw" → Exa Z h13 b6 "com/example/framewheel/framewheel/core/PhaseQueueHasDelayedPinLaw" → Exa Z h13 b10 "com/example/framewheel/framewheel/core/PhaseQueue" → (own_QS Z h13 n0 (own_PD b2 b4 b6 z1 z2 z3 1) (own_PD b2 b4 b6 z1 z2 z3 0) lam cK b10 k 3) → (lf.toInt = k) → (k ≤ 3) → (sl = .val .null ∨ ∃ x, sl = .val (.ref x)) → Run p e below s (Tru n0) room_1.cells room_1.slots (T13.setTop (mkF m 346 #[.val (.int p1), .val (.long p2), .second, .val (.long p3), .second, .val (.long p4), .second, .val (.long p5), .second, .val (.int z1), .val (.int z2), .val (.int z3), .val (.long bf), .second, .val (.ref b2), .val (.ref b4), .val (.ref b6), .val (.ref b8), .val (.ref b10), .val (.int 1), .val (.int lf), sl] [])) := by
   intro T13 h13 lo13 k lf sl X13 e13 N13 Z13 E_b2 E_b4 E_b6 E_b10 hQ hlf hk3 hsl
   refine Run.x_iload (q := 348) X13 hx (hb hby at_346) rfl rfl ?_
   refine Run.x_aload (q := 350) X13 hx (hb hby at_348) rfl rfl rfl ?_
   refine Run.callVI (q := 353) X13 hx hH e13 (y := (⟨"com/example/framewheel/framewheel/core/PhaseQueue", "hasDelayed", "()Z"⟩ : MethodName)) (z := (⟨"com/example/framewheel/framewheel/core/PhaseQueue", "hasDelayed", "()Z"⟩ : MethodName)) hown (wm83 hw) (wm84 hw) (notFace_of_selects (args := #[]) (mvT hZ (wm86 hw))) (wm86 hw) (wm85 hw) (wm11 hw) (wm87 hw) (by decide) (a := b10) E_b10 (argsL := []) (rest := [(.int 1)]) (c_has l Z a0 hw b10 h13 n0 Z13 (own_PD b2 b4 b6 z1 z2 z3 1) (own_PD b2 b4 b6 z1 z2 z3 0) lam cK k 3 hQ) pd_17 rfl (by rw [hml]; rfl) (W := 1) rfl (by decide) (by decide) (by decide) (by decide) (hb hby at_350) rfl rfl fun T14 L14 X14 M14 e14 => ?_
   have N14 := Fr.app N13 M14
   refine Run.x_iload (q := 355) X14 hx (hb hby at_353) rfl rfl ?_
   by_cases hc355 : (0 : Int32) < lf
   ·skip
    refine Run.x_ifNo (q := 358) X14 hx (hb hby at_355) ((if0 _ _).trans (tlt hc355).2.2.2) rfl ?_
    refine Run.x_iconst (q := 359) X14 hx (hb hby at_358) (z := (1 : Int32)) rfl rfl ?_
    refine Run.x_goto (q := 363) X14 hx (hb hby at_359) (by decide) (by decide) ?_
    refine Run.x_icmpNo (q := 366) X14 hx (hb hby at_363) (teq (own_b1 hlf hc355)).2 rfl ?_
    refine Run.x_iconst (q := 367) X14 hx (hb hby at_366) (z := (1 : Int32)) rfl rfl ?_
    refine Run.x_goto (q := 371) X14 hx (hb hby at_367) (by decide) (by decide) ?_
    refine Run.x_iand (q := 372) X14 hx (hb hby at_371) (z := (1 : Int32)) (by decide) rfl ?_
    refine Run.x_istore (q := 374) X14 hx #[.val (.int p1), .val (.long p2), .second, .val (.long p3), .second, .val (.long p4), .second, .val (.long p5), .second, .val (.int z1), .val (.int z2), .val (.int z3), .val (.long bf), .second, .val (.ref b2), .val (.ref b4), .val (.ref b6), .val (.ref b8), .val (.ref b10), .val (.int 1), .val (.int lf), sl] (hb hby at_372) rfl rfl ?_
    refine Run.x_iload (q := 376) X14 hx (hb hby at_374) rfl rfl ?_
    refine Run.retN X14 hx hlk e14 (t := .boolean) hret (by simp) (z' := (1 : Int32)) (by decide) (hb hby at_376) (by decide) (by decide) ?_
    exact ⟨rfl, N14⟩
   ·skip
    refine Run.x_ifYes (q := 362) X14 hx (hb hby at_355) ((if0 _ _).trans (flt hc355).2.2.2) (by decide) (by decide) ?_
    refine Run.x_iconst (q := 363) X14 hx (hb hby at_362) (z := (0 : Int32)) rfl rfl ?_
    refine Run.x_icmpNo (q := 366) X14 hx (hb hby at_363) (teq (own_b0 hlf hc355)).2 rfl ?_
    refine Run.x_iconst (q := 367) X14 hx (hb hby at_366) (z := (1 : Int32)) rfl rfl ?_
    refine Run.x_goto (q := 371) X14 hx (hb hby at_367) (by decide) (by decide) ?_
    refine Run.x_iand (q := 372) X14 hx (hb hby at_371) (z := (1 : Int32)) (by decide) rfl ?_
    refine Run.x_istore (q := 374) X14 hx #[.val (.int p1), .val (.long p2), .second, .val (.long p3), .second, .val (.long p4), .second, .val (.long p5), .second, .val (.int z1), .val (.int z2), .val (.int z3), .val (.long bf), .second, .val (.ref b2), .val (.ref b4), .val (.ref b6), .val (.ref b8), .val (.ref b10), .val (.int 1), .val (.int lf), sl] (hb hby at_372) rfl rfl ?_
    refine Run.x_iload (q := 376) X14 hx (hb hby at_374) rfl rfl ?_
    refine Run.retN X14 hx hlk e14 (t := .boolean) hret (by simp) (z' := (1 : Int32)) (by decide) (hb hby at_376) (by decide) (by decide) ?_
    exact ⟨rfl, N14⟩
  have J313 : ∀ (T15 : State) (h15 : Heap) (lo15 : List Loc) (k : Nat) (lf : Int32) (sl : Slot), Stand p l e room_1 s m #[(.int p1), (.long p2), (.long p3), (.long p4), (.long p5)] below meth c T15 lo15 16 105 → T15.heap = h15 → Fr n0 lo15 → n0 ≤ h15.size → Exa Z h15 b2 "com/example/framewheel/framewheel/core/PhaseQueueHasDelayedPinLaw" → Exa Z h15 b4 "com/example/framewheel/framewheel/core/PhaseQueueHasDelayedPinLaw" → Exa Z h15 b6 "com/example/framewheel/framewheel/core/PhaseQueueHasDelayedPinLaw" → Exa Z h15 b10 "com/example/framewheel/framewheel/core/PhaseQueue" → (own_QS Z h15 n0 (own_PD b2 b4 b6 z1 z2 z3 1) (own_PD b2 b4 b6 z1 z2 z3 0) lam cK b10 k 3) → (lf.toInt = k) → (k ≤ 3) → (sl = .val .null ∨ ∃ x, sl = .val (.ref x)) → Run p e below s (Tru n0) room_1.cells room_1.slots (T15.setTop (mkF m 313 #[.val (.int p1), .val (.long p2), .second, .val (.long p3), .second, .val (.long p4), .second, .val (.long p5), .second, .val (.int z1), .val (.int z2), .val (.int z3), .val (.long bf), .second, .val (.ref b2), .val (.ref b4), .val (.ref b6), .val (.ref b8), .val (.ref b10), .val (.int 1), .val (.int lf), sl] [])) := by
   intro T15 h15 lo15 k lf sl X15 e15 N15 Z15 E_b2 E_b4 E_b6 E_b10 hQ hlf hk3 hsl
   refine Run.x_aload (q := 315) X15 hx (hb hby at_313) rfl rfl rfl ?_
   refine Run.x_lload (q := 317) X15 hx (hb hby at_315) rfl rfl ?_
   refine Run.x_lload (q := 319) X15 hx (hb hby at_317) rfl rfl ?_
   refine Run.callV X15 hx hH e15 (y := (⟨"com/example/framewheel/framewheel/core/PhaseQueue", "takeFirstDue", "(JJ)Lcom/example/framewheel/framewheel/core/FrameCallback;"⟩ : MethodName)) (z := (⟨"com/example/framewheel/framewheel/core/PhaseQueue", "takeFirstDue", "(JJ)Lcom/example/framewheel/framewheel/core/FrameCallback;"⟩ : MethodName)) hown (wm105 hw) (wm106 hw) (notFace_of_selects (args := #[]) (mvT hZ (wm108 hw))) (wm108 hw) (wm107 hw) (wm11 hw) (wm109 hw) (by decide) (a := b10) E_b10 (argsL := [(.long p5), (.long bf)]) (rest := []) (c_take l Z a0 hw b10 p5 bf h15 n0 Z15 (own_PD b2 b4 b6 z1 z2 z3 1) (own_PD b2 b4 b6 z1 z2 z3 0) lam cK k 3 hQ (by decide)) pd_18 rfl (by rw [hml]; rfl) (W := 0) rfl (by decide) (by decide) (by decide) (by decide) (hb hby at_319) rfl ?_
   intro T16 v16 L16 X16 q16
   obtain ⟨wv16, rfl, M16, ⟨wk16, K16⟩, ht16⟩ := q16
   have N16 := Fr.app N15 M16
   show Run p e below s _ _ _ (T16.setTop (mkF m 322 #[.val (.int p1), .val (.long p2), .second, .val (.long p3), .second, .val (.long p4), .second, .val (.long p5), .second, .val (.int z1), .val (.int z2), .val (.int z3), .val (.long bf), .second, .val (.ref b2), .val (.ref b4), .val (.ref b6), .val (.ref b8), .val (.ref b10), .val (.int 1), .val (.int lf), sl] [wv16]))
   have Z16 : n0 ≤ T16.heap.size := Nat.le_trans Z15 K16.1
   rcases ht16 with ⟨rfl, hQ⟩ | ⟨ta, rfl, hPt, hQ⟩ | ⟨ta, rfl, hPt, k', hk', hQ⟩
   ·skip
    show Run p e below s _ _ _ (T16.setTop (mkF m 322 #[.val (.int p1), .val (.long p2), .second, .val (.long p3), .second, .val (.long p4), .second, .val (.long p5), .second, .val (.int z1), .val (.int z2), .val (.int z3), .val (.long bf), .second, .val (.ref b2), .val (.ref b4), .val (.ref b6), .val (.ref b8), .val (.ref b10), .val (.int 1), .val (.int lf), sl] [.null]))
    refine Run.x_astore (q := 324) X16 hx #[.val (.int p1), .val (.long p2), .second, .val (.long p3), .second, .val (.long p4), .second, .val (.long p5), .second, .val (.int z1), .val (.int z2), .val (.int z3), .val (.long bf), .second, .val (.ref b2), .val (.ref b4), .val (.ref b6), .val (.ref b8), .val (.ref b10), .val (.int 1), .val (.int lf), .val .null] (hb hby at_322) rfl (by rcases hsl with rfl | ⟨x, rfl⟩ <;> rfl) rfl ?_
    refine Run.x_iload (q := 326) X16 hx (hb hby at_324) rfl rfl ?_
    refine Run.x_aload (q := 328) X16 hx (hb hby at_326) rfl rfl rfl ?_
    refine Run.x_aload (q := 330) X16 hx (hb hby at_328) rfl rfl rfl ?_
    refine Run.x_aload (q := 332) X16 hx (hb hby at_330) rfl rfl rfl ?_
    refine Run.x_aload (q := 334) X16 hx (hb hby at_332) rfl rfl rfl ?_
    refine Run.x_iload (q := 336) X16 hx (hb hby at_334) rfl rfl ?_
    refine Run.x_iload (q := 338) X16 hx (hb hby at_336) rfl rfl ?_
    refine Run.x_iload (q := 340) X16 hx (hb hby at_338) rfl rfl ?_
    refine Run.callSI (q := 343) X16 hx hH rfl (y := (⟨"com/example/framewheel/framewheel/core/PhaseQueueHasDelayedPinLaw", "takenDelayed", "(Lcom/example/framewheel/framewheel/core/FrameCallback;Ljava/lang/Object;Ljava/lang/Object;Ljava/lang/Object;ZZZ)I"⟩ : MethodName)) hown (wm110 hw) (wm111 hw) (wm2 hw) (wm112 hw) (by decide) (argsL := [.null, (.ref b2), (.ref b4), (.ref b6), (.int z1), (.int z2), (.int z3)]) (rest := [(.int lf)]) (c_tdn l Z a0 hw b2 b4 b6 z1 z2 z3 T16.heap n0 Z16 ) pd_19 rfl (by rw [hml]; rfl) (W := 1) rfl (by decide) (by decide) (by decide) (by decide) (hb hby at_340) rfl rfl fun T17 L17 X17 M17 e17 => ?_
    have N17 := Fr.app N16 M17
    refine Run.x_isub (q := 344) X17 hx (hb hby at_343) rfl rfl ?_
    refine Run.x_istore (q := 346) X17 hx #[.val (.int p1), .val (.long p2), .second, .val (.long p3), .second, .val (.long p4), .second, .val (.long p5), .second, .val (.int z1), .val (.int z2), .val (.int z3), .val (.long bf), .second, .val (.ref b2), .val (.ref b4), .val (.ref b6), .val (.ref b8), .val (.ref b10), .val (.int 1), .val (.int (lf - (0 : Int32))), .val .null] (hb hby at_344) rfl rfl ?_
    replace E_b2 := E_b2.keep K16
    replace E_b4 := E_b4.keep K16
    replace E_b6 := E_b6.keep K16
    replace E_b10 := E_b10.keep K16
    exact J346 T17 T16.heap _ k (lf - (0 : Int32)) (.val .null) (X17.more (by decide) (by decide)) e17 N17 Z16 E_b2 E_b4 E_b6 E_b10 hQ (own_sub0 hlf) (by omega) (Or.inl rfl)
   ·skip
    show Run p e below s _ _ _ (T16.setTop (mkF m 322 #[.val (.int p1), .val (.long p2), .second, .val (.long p3), .second, .val (.long p4), .second, .val (.long p5), .second, .val (.int z1), .val (.int z2), .val (.int z3), .val (.long bf), .second, .val (.ref b2), .val (.ref b4), .val (.ref b6), .val (.ref b8), .val (.ref b10), .val (.int 1), .val (.int lf), sl] [(.ref ta)]))
    refine Run.x_astore (q := 324) X16 hx #[.val (.int p1), .val (.long p2), .second, .val (.long p3), .second, .val (.long p4), .second, .val (.long p5), .second, .val (.int z1), .val (.int z2), .val (.int z3), .val (.long bf), .second, .val (.ref b2), .val (.ref b4), .val (.ref b6), .val (.ref b8), .val (.ref b10), .val (.int 1), .val (.int lf), .val (.ref ta)] (hb hby at_322) rfl (by rcases hsl with rfl | ⟨x, rfl⟩ <;> rfl) rfl ?_
    refine Run.x_iload (q := 326) X16 hx (hb hby at_324) rfl rfl ?_
    refine Run.x_aload (q := 328) X16 hx (hb hby at_326) rfl rfl rfl ?_
    refine Run.x_aload (q := 330) X16 hx (hb hby at_328) rfl rfl rfl ?_
    refine Run.x_aload (q := 332) X16 hx (hb hby at_330) rfl rfl rfl ?_
    refine Run.x_aload (q := 334) X16 hx (hb hby at_332) rfl rfl rfl ?_
    refine Run.x_iload (q := 336) X16 hx (hb hby at_334) rfl rfl ?_
    refine Run.x_iload (q := 338) X16 hx (hb hby at_336) rfl rfl ?_
    refine Run.x_iload (q := 340) X16 hx (hb hby at_338) rfl rfl ?_
    refine Run.callSI (q := 343) X16 hx hH rfl (y := (⟨"com/example/framewheel/framewheel/core/PhaseQueueHasDelayedPinLaw", "takenDelayed", "(Lcom/example/framewheel/framewheel/core/FrameCallback;Ljava/lang/Object;Ljava/lang/Object;Ljava/lang/Object;ZZZ)I"⟩ : MethodName)) hown (wm110 hw) (wm111 hw) (wm2 hw) (wm112 hw) (by decide) (argsL := [(.ref ta), (.ref b2), (.ref b4), (.ref b6), (.int z1), (.int z2), (.int z3)]) (rest := [(.int lf)]) (c_tdr l Z a0 hw ta b2 b4 b6 z1 z2 z3 T16.heap n0 Z16 (0 : Int32) ne_b2_b4 ne_b2_b6 ne_b4_b6 hPt (Or.inl rfl)) pd_19 rfl (by rw [hml]; rfl) (W := 1) rfl (by decide) (by decide) (by decide) (by decide) (hb hby at_340) rfl rfl fun T18 L18 X18 M18 e18 => ?_
    have N18 := Fr.app N16 M18
    refine Run.x_isub (q := 344) X18 hx (hb hby at_343) rfl rfl ?_
    refine Run.x_istore (q := 346) X18 hx #[.val (.int p1), .val (.long p2), .second, .val (.long p3), .second, .val (.long p4), .second, .val (.long p5), .second, .val (.int z1), .val (.int z2), .val (.int z3), .val (.long bf), .second, .val (.ref b2), .val (.ref b4), .val (.ref b6), .val (.ref b8), .val (.ref b10), .val (.int 1), .val (.int (lf - (0 : Int32))), .val (.ref ta)] (hb hby at_344) rfl rfl ?_
    replace E_b2 := E_b2.keep K16
    replace E_b4 := E_b4.keep K16
    replace E_b6 := E_b6.keep K16
    replace E_b10 := E_b10.keep K16
    exact J346 T18 T16.heap _ k (lf - (0 : Int32)) (.val (.ref ta)) (X18.more (by decide) (by decide)) e18 N18 Z16 E_b2 E_b4 E_b6 E_b10 hQ (own_sub0 hlf) (by omega) (Or.inr ⟨_, rfl⟩)
   ·skip
    show Run p e below s _ _ _ (T16.setTop (mkF m 322 #[.val (.int p1), .val (.long p2), .second, .val (.long p3), .second, .val (.long p4), .second, .val (.long p5), .second, .val (.int z1), .val (.int z2), .val (.int z3), .val (.long bf), .second, .val (.ref b2), .val (.ref b4), .val (.ref b6), .val (.ref b8), .val (.ref b10), .val (.int 1), .val (.int lf), sl] [(.ref ta)]))
    refine Run.x_astore (q := 324) X16 hx #[.val (.int p1), .val (.long p2), .second, .val (.long p3), .second, .val (.long p4), .second, .val (.long p5), .second, .val (.int z1), .val (.int z2), .val (.int z3), .val (.long bf), .second, .val (.ref b2), .val (.ref b4), .val (.ref b6), .val (.ref b8), .val (.ref b10), .val (.int 1), .val (.int lf), .val (.ref ta)] (hb hby at_322) rfl (by rcases hsl with rfl | ⟨x, rfl⟩ <;> rfl) rfl ?_
    refine Run.x_iload (q := 326) X16 hx (hb hby at_324) rfl rfl ?_
    refine Run.x_aload (q := 328) X16 hx (hb hby at_326) rfl rfl rfl ?_
    refine Run.x_aload (q := 330) X16 hx (hb hby at_328) rfl rfl rfl ?_
    refine Run.x_aload (q := 332) X16 hx (hb hby at_330) rfl rfl rfl ?_
    refine Run.x_aload (q := 334) X16 hx (hb hby at_332) rfl rfl rfl ?_
    refine Run.x_iload (q := 336) X16 hx (hb hby at_334) rfl rfl ?_
    refine Run.x_iload (q := 338) X16 hx (hb hby at_336) rfl rfl ?_
    refine Run.x_iload (q := 340) X16 hx (hb hby at_338) rfl rfl ?_
    refine Run.callSI (q := 343) X16 hx hH rfl (y := (⟨"com/example/framewheel/framewheel/core/PhaseQueueHasDelayedPinLaw", "takenDelayed", "(Lcom/example/framewheel/framewheel/core/FrameCallback;Ljava/lang/Object;Ljava/lang/Object;Ljava/lang/Object;ZZZ)I"⟩ : MethodName)) hown (wm110 hw) (wm111 hw) (wm2 hw) (wm112 hw) (by decide) (argsL := [(.ref ta), (.ref b2), (.ref b4), (.ref b6), (.int z1), (.int z2), (.int z3)]) (rest := [(.int lf)]) (c_tdr l Z a0 hw ta b2 b4 b6 z1 z2 z3 T16.heap n0 Z16 (1 : Int32) ne_b2_b4 ne_b2_b6 ne_b4_b6 hPt (Or.inr rfl)) pd_19 rfl (by rw [hml]; rfl) (W := 1) rfl (by decide) (by decide) (by decide) (by decide) (hb hby at_340) rfl rfl fun T19 L19 X19 M19 e19 => ?_
    have N19 := Fr.app N16 M19
    refine Run.x_isub (q := 344) X19 hx (hb hby at_343) rfl rfl ?_
    refine Run.x_istore (q := 346) X19 hx #[.val (.int p1), .val (.long p2), .second, .val (.long p3), .second, .val (.long p4), .second, .val (.long p5), .second, .val (.int z1), .val (.int z2), .val (.int z3), .val (.long bf), .second, .val (.ref b2), .val (.ref b4), .val (.ref b6), .val (.ref b8), .val (.ref b10), .val (.int 1), .val (.int (lf - (1 : Int32))), .val (.ref ta)] (hb hby at_344) rfl rfl ?_
    replace E_b2 := E_b2.keep K16
    replace E_b4 := E_b4.keep K16
    replace E_b6 := E_b6.keep K16
    replace E_b10 := E_b10.keep K16
    exact J346 T19 T16.heap _ k' (lf - (1 : Int32)) (.val (.ref ta)) (X19.more (by decide) (by decide)) e19 N19 Z16 E_b2 E_b4 E_b6 E_b10 hQ (own_sub1 hlf hk' hk3) (by omega) (Or.inr ⟨_, rfl⟩)
  have J285 : ∀ (T20 : State) (h20 : Heap) (lo20 : List Loc) (k : Nat) (lf : Int32) (sl : Slot), Stand p l e room_1 s m #[(.int p1), (.long p2), (.long p3), (.long p4), (.long p5)] below meth c T20 lo20 16 105 → T20.heap = h20 → Fr n0 lo20 → n0 ≤ h20.size → Exa Z h20 b2 "com/example/framewheel/framewheel/core/PhaseQueueHasDelayedPinLaw" → Exa Z h20 b4 "com/example/framewheel/framewheel/core/PhaseQueueHasDelayedPinLaw" → Exa Z h20 b6 "com/example/framewheel/framewheel/core/PhaseQueueHasDelayedPinLaw" → Exa Z h20 b10 "com/example/framewheel/framewheel/core/PhaseQueue" → (own_QS Z h20 n0 (own_PD b2 b4 b6 z1 z2 z3 1) (own_PD b2 b4 b6 z1 z2 z3 0) lam cK b10 k 3) → (lf.toInt = k) → (k ≤ 3) → (sl = .val .null ∨ ∃ x, sl = .val (.ref x)) → Run p e below s (Tru n0) room_1.cells room_1.slots (T20.setTop (mkF m 285 #[.val (.int p1), .val (.long p2), .second, .val (.long p3), .second, .val (.long p4), .second, .val (.long p5), .second, .val (.int z1), .val (.int z2), .val (.int z3), .val (.long bf), .second, .val (.ref b2), .val (.ref b4), .val (.ref b6), .val (.ref b8), .val (.ref b10), .val (.int 1), .val (.int lf), sl] [])) := by
   intro T20 h20 lo20 k lf sl X20 e20 N20 Z20 E_b2 E_b4 E_b6 E_b10 hQ hlf hk3 hsl
   refine Run.x_iload (q := 287) X20 hx (hb hby at_285) rfl rfl ?_
   refine Run.x_aload (q := 289) X20 hx (hb hby at_287) rfl rfl rfl ?_
   refine Run.callVI (q := 292) X20 hx hH e20 (y := (⟨"com/example/framewheel/framewheel/core/PhaseQueue", "hasDelayed", "()Z"⟩ : MethodName)) (z := (⟨"com/example/framewheel/framewheel/core/PhaseQueue", "hasDelayed", "()Z"⟩ : MethodName)) hown (wm83 hw) (wm84 hw) (notFace_of_selects (args := #[]) (mvT hZ (wm86 hw))) (wm86 hw) (wm85 hw) (wm11 hw) (wm87 hw) (by decide) (a := b10) E_b10 (argsL := []) (rest := [(.int 1)]) (c_has l Z a0 hw b10 h20 n0 Z20 (own_PD b2 b4 b6 z1 z2 z3 1) (own_PD b2 b4 b6 z1 z2 z3 0) lam cK k 3 hQ) pd_17 rfl (by rw [hml]; rfl) (W := 1) rfl (by decide) (by decide) (by decide) (by decide) (hb hby at_289) rfl rfl fun T21 L21 X21 M21 e21 => ?_
   have N21 := Fr.app N20 M21
   refine Run.x_iload (q := 294) X21 hx (hb hby at_292) rfl rfl ?_
   by_cases hc294 : (0 : Int32) < lf
   ·skip
    refine Run.x_ifNo (q := 297) X21 hx (hb hby at_294) ((if0 _ _).trans (tlt hc294).2.2.2) rfl ?_
    refine Run.x_iconst (q := 298) X21 hx (hb hby at_297) (z := (1 : Int32)) rfl rfl ?_
    refine Run.x_goto (q := 302) X21 hx (hb hby at_298) (by decide) (by decide) ?_
    refine Run.x_icmpNo (q := 305) X21 hx (hb hby at_302) (teq (own_b1 hlf hc294)).2 rfl ?_
    refine Run.x_iconst (q := 306) X21 hx (hb hby at_305) (z := (1 : Int32)) rfl rfl ?_
    refine Run.x_goto (q := 310) X21 hx (hb hby at_306) (by decide) (by decide) ?_
    refine Run.x_iand (q := 311) X21 hx (hb hby at_310) (z := (1 : Int32)) (by decide) rfl ?_
    refine Run.x_istore (q := 313) X21 hx #[.val (.int p1), .val (.long p2), .second, .val (.long p3), .second, .val (.long p4), .second, .val (.long p5), .second, .val (.int z1), .val (.int z2), .val (.int z3), .val (.long bf), .second, .val (.ref b2), .val (.ref b4), .val (.ref b6), .val (.ref b8), .val (.ref b10), .val (.int 1), .val (.int lf), sl] (hb hby at_311) rfl rfl ?_
    exact J313 T21 h20 _ k lf sl (X21.more (by decide) (by decide)) e21 N21 Z20 E_b2 E_b4 E_b6 E_b10 hQ hlf hk3 hsl
   ·skip
    refine Run.x_ifYes (q := 301) X21 hx (hb hby at_294) ((if0 _ _).trans (flt hc294).2.2.2) (by decide) (by decide) ?_
    refine Run.x_iconst (q := 302) X21 hx (hb hby at_301) (z := (0 : Int32)) rfl rfl ?_
    refine Run.x_icmpNo (q := 305) X21 hx (hb hby at_302) (teq (own_b0 hlf hc294)).2 rfl ?_
    refine Run.x_iconst (q := 306) X21 hx (hb hby at_305) (z := (1 : Int32)) rfl rfl ?_
    refine Run.x_goto (q := 310) X21 hx (hb hby at_306) (by decide) (by decide) ?_
    refine Run.x_iand (q := 311) X21 hx (hb hby at_310) (z := (1 : Int32)) (by decide) rfl ?_
    refine Run.x_istore (q := 313) X21 hx #[.val (.int p1), .val (.long p2), .second, .val (.long p3), .second, .val (.long p4), .second, .val (.long p5), .second, .val (.int z1), .val (.int z2), .val (.int z3), .val (.long bf), .second, .val (.ref b2), .val (.ref b4), .val (.ref b6), .val (.ref b8), .val (.ref b10), .val (.int 1), .val (.int lf), sl] (hb hby at_311) rfl rfl ?_
    exact J313 T21 h20 _ k lf sl (X21.more (by decide) (by decide)) e21 N21 Z20 E_b2 E_b4 E_b6 E_b10 hQ hlf hk3 hsl
  have J252 : ∀ (T22 : State) (h22 : Heap) (lo22 : List Loc) (k : Nat) (lf : Int32), Stand p l e room_1 s m #[(.int p1), (.long p2), (.long p3), (.long p4), (.long p5)] below meth c T22 lo22 16 105 → T22.heap = h22 → Fr n0 lo22 → n0 ≤ h22.size → Exa Z h22 b2 "com/example/framewheel/framewheel/core/PhaseQueueHasDelayedPinLaw" → Exa Z h22 b4 "com/example/framewheel/framewheel/core/PhaseQueueHasDelayedPinLaw" → Exa Z h22 b6 "com/example/framewheel/framewheel/core/PhaseQueueHasDelayedPinLaw" → Exa Z h22 b10 "com/example/framewheel/framewheel/core/PhaseQueue" → (own_QS Z h22 n0 (own_PD b2 b4 b6 z1 z2 z3 1) (own_PD b2 b4 b6 z1 z2 z3 0) lam cK b10 k 3) → (lf.toInt = k) → (k ≤ 3) → Run p e below s (Tru n0) room_1.cells room_1.slots (T22.setTop (mkF m 252 #[.val (.int p1), .val (.long p2), .second, .val (.long p3), .second, .val (.long p4), .second, .val (.long p5), .second, .val (.int z1), .val (.int z2), .val (.int z3), .val (.long bf), .second, .val (.ref b2), .val (.ref b4), .val (.ref b6), .val (.ref b8), .val (.ref b10), .val (.int 1), .val (.int lf), .unset] [])) := by
   intro T22 h22 lo22 k lf X22 e22 N22 Z22 E_b2 E_b4 E_b6 E_b10 hQ hlf hk3
   refine Run.x_aload (q := 254) X22 hx (hb hby at_252) rfl rfl rfl ?_
   refine Run.x_lload (q := 256) X22 hx (hb hby at_254) rfl rfl ?_
   refine Run.x_lload (q := 258) X22 hx (hb hby at_256) rfl rfl ?_
   refine Run.callV X22 hx hH e22 (y := (⟨"com/example/framewheel/framewheel/core/PhaseQueue", "takeFirstDue", "(JJ)Lcom/example/framewheel/framewheel/core/FrameCallback;"⟩ : MethodName)) (z := (⟨"com/example/framewheel/framewheel/core/PhaseQueue", "takeFirstDue", "(JJ)Lcom/example/framewheel/framewheel/core/FrameCallback;"⟩ : MethodName)) hown (wm105 hw) (wm106 hw) (notFace_of_selects (args := #[]) (mvT hZ (wm108 hw))) (wm108 hw) (wm107 hw) (wm11 hw) (wm109 hw) (by decide) (a := b10) E_b10 (argsL := [(.long p5), (.long bf)]) (rest := []) (c_take l Z a0 hw b10 p5 bf h22 n0 Z22 (own_PD b2 b4 b6 z1 z2 z3 1) (own_PD b2 b4 b6 z1 z2 z3 0) lam cK k 3 hQ (by decide)) pd_18 rfl (by rw [hml]; rfl) (W := 0) rfl (by decide) (by decide) (by decide) (by decide) (hb hby at_258) rfl ?_
   intro T23 v23 L23 X23 q23
   obtain ⟨wv23, rfl, M23, ⟨wk23, K23⟩, ht23⟩ := q23
   have N23 := Fr.app N22 M23
   show Run p e below s _ _ _ (T23.setTop (mkF m 261 #[.val (.int p1), .val (.long p2), .second, .val (.long p3), .second, .val (.long p4), .second, .val (.long p5), .second, .val (.int z1), .val (.int z2), .val (.int z3), .val (.long bf), .second, .val (.ref b2), .val (.ref b4), .val (.ref b6), .val (.ref b8), .val (.ref b10), .val (.int 1), .val (.int lf), .unset] [wv23]))
   have Z23 : n0 ≤ T23.heap.size := Nat.le_trans Z22 K23.1
   rcases ht23 with ⟨rfl, hQ⟩ | ⟨ta, rfl, hPt, hQ⟩ | ⟨ta, rfl, hPt, k', hk', hQ⟩
   ·skip
    show Run p e below s _ _ _ (T23.setTop (mkF m 261 #[.val (.int p1), .val (.long p2), .second, .val (.long p3), .second, .val (.long p4), .second, .val (.long p5), .second, .val (.int z1), .val (.int z2), .val (.int z3), .val (.long bf), .second, .val (.ref b2), .val (.ref b4), .val (.ref b6), .val (.ref b8), .val (.ref b10), .val (.int 1), .val (.int lf), .unset] [.null]))
    refine Run.x_astore (q := 263) X23 hx #[.val (.int p1), .val (.long p2), .second, .val (.long p3), .second, .val (.long p4), .second, .val (.long p5), .second, .val (.int z1), .val (.int z2), .val (.int z3), .val (.long bf), .second, .val (.ref b2), .val (.ref b4), .val (.ref b6), .val (.ref b8), .val (.ref b10), .val (.int 1), .val (.int lf), .val .null] (hb hby at_261) rfl rfl rfl ?_
    refine Run.x_iload (q := 265) X23 hx (hb hby at_263) rfl rfl ?_
    refine Run.x_aload (q := 267) X23 hx (hb hby at_265) rfl rfl rfl ?_
    refine Run.x_aload (q := 269) X23 hx (hb hby at_267) rfl rfl rfl ?_
    refine Run.x_aload (q := 271) X23 hx (hb hby at_269) rfl rfl rfl ?_
    refine Run.x_aload (q := 273) X23 hx (hb hby at_271) rfl rfl rfl ?_
    refine Run.x_iload (q := 275) X23 hx (hb hby at_273) rfl rfl ?_
    refine Run.x_iload (q := 277) X23 hx (hb hby at_275) rfl rfl ?_
    refine Run.x_iload (q := 279) X23 hx (hb hby at_277) rfl rfl ?_
    refine Run.callSI (q := 282) X23 hx hH rfl (y := (⟨"com/example/framewheel/framewheel/core/PhaseQueueHasDelayedPinLaw", "takenDelayed", "(Lcom/example/framewheel/framewheel/core/FrameCallback;Ljava/lang/Object;Ljava/lang/Object;Ljava/lang/Object;ZZZ)I"⟩ : MethodName)) hown (wm110 hw) (wm111 hw) (wm2 hw) (wm112 hw) (by decide) (argsL := [.null, (.ref b2), (.ref b4), (.ref b6), (.int z1), (.int z2), (.int z3)]) (rest := [(.int lf)]) (c_tdn l Z a0 hw b2 b4 b6 z1 z2 z3 T23.heap n0 Z23 ) pd_19 rfl (by rw [hml]; rfl) (W := 1) rfl (by decide) (by decide) (by decide) (by decide) (hb hby at_279) rfl rfl fun T24 L24 X24 M24 e24 => ?_
    have N24 := Fr.app N23 M24
    refine Run.x_isub (q := 283) X24 hx (hb hby at_282) rfl rfl ?_
    refine Run.x_istore (q := 285) X24 hx #[.val (.int p1), .val (.long p2), .second, .val (.long p3), .second, .val (.long p4), .second, .val (.long p5), .second, .val (.int z1), .val (.int z2), .val (.int z3), .val (.long bf), .second, .val (.ref b2), .val (.ref b4), .val (.ref b6), .val (.ref b8), .val (.ref b10), .val (.int 1), .val (.int (lf - (0 : Int32))), .val .null] (hb hby at_283) rfl rfl ?_
    replace E_b2 := E_b2.keep K23
    replace E_b4 := E_b4.keep K23
    replace E_b6 := E_b6.keep K23
    replace E_b10 := E_b10.keep K23
    exact J285 T24 T23.heap _ k (lf - (0 : Int32)) (.val .null) (X24.more (by decide) (by decide)) e24 N24 Z23 E_b2 E_b4 E_b6 E_b10 hQ (own_sub0 hlf) (by omega) (Or.inl rfl)
   ·skip
    show Run p e below s _ _ _ (T23.setTop (mkF m 261 #[.val (.int p1), .val (.long p2), .second, .val (.long p3), .second, .val (.long p4), .second, .val (.long p5), .second, .val (.int z1), .val (.int z2), .val (.int z3), .val (.long bf), .second, .val (.ref b2), .val (.ref b4), .val (.ref b6), .val (.ref b8), .val (.ref b10), .val (.int 1), .val (.int lf), .unset] [(.ref ta)]))
    refine Run.x_astore (q := 263) X23 hx #[.val (.int p1), .val (.long p2), .second, .val (.long p3), .second, .val (.long p4), .second, .val (.long p5), .second, .val (.int z1), .val (.int z2), .val (.int z3), .val (.long bf), .second, .val (.ref b2), .val (.ref b4), .val (.ref b6), .val (.ref b8), .val (.ref b10), .val (.int 1), .val (.int lf), .val (.ref ta)] (hb hby at_261) rfl rfl rfl ?_
    refine Run.x_iload (q := 265) X23 hx (hb hby at_263) rfl rfl ?_
    refine Run.x_aload (q := 267) X23 hx (hb hby at_265) rfl rfl rfl ?_
    refine Run.x_aload (q := 269) X23 hx (hb hby at_267) rfl rfl rfl ?_
    refine Run.x_aload (q := 271) X23 hx (hb hby at_269) rfl rfl rfl ?_
    refine Run.x_aload (q := 273) X23 hx (hb hby at_271) rfl rfl rfl ?_
    refine Run.x_iload (q := 275) X23 hx (hb hby at_273) rfl rfl ?_
    refine Run.x_iload (q := 277) X23 hx (hb hby at_275) rfl rfl ?_
    refine Run.x_iload (q := 279) X23 hx (hb hby at_277) rfl rfl ?_
    refine Run.callSI (q := 282) X23 hx hH rfl (y := (⟨"com/example/framewheel/framewheel/core/PhaseQueueHasDelayedPinLaw", "takenDelayed", "(Lcom/example/framewheel/framewheel/core/FrameCallback;Ljava/lang/Object;Ljava/lang/Object;Ljava/lang/Object;ZZZ)I"⟩ : MethodName)) hown (wm110 hw) (wm111 hw) (wm2 hw) (wm112 hw) (by decide) (argsL := [(.ref ta), (.ref b2), (.ref b4), (.ref b6), (.int z1), (.int z2), (.int z3)]) (rest := [(.int lf)]) (c_tdr l Z a0 hw ta b2 b4 b6 z1 z2 z3 T23.heap n0 Z23 (0 : Int32) ne_b2_b4 ne_b2_b6 ne_b4_b6 hPt (Or.inl rfl)) pd_19 rfl (by rw [hml]; rfl) (W := 1) rfl (by decide) (by decide) (by decide) (by decide) (hb hby at_279) rfl rfl fun T25 L25 X25 M25 e25 => ?_
    have N25 := Fr.app N23 M25
    refine Run.x_isub (q := 283) X25 hx (hb hby at_282) rfl rfl ?_
    refine Run.x_istore (q := 285) X25 hx #[.val (.int p1), .val (.long p2), .second, .val (.long p3), .second, .val (.long p4), .second, .val (.long p5), .second, .val (.int z1), .val (.int z2), .val (.int z3), .val (.long bf), .second, .val (.ref b2), .val (.ref b4), .val (.ref b6), .val (.ref b8), .val (.ref b10), .val (.int 1), .val (.int (lf - (0 : Int32))), .val (.ref ta)] (hb hby at_283) rfl rfl ?_
    replace E_b2 := E_b2.keep K23
    replace E_b4 := E_b4.keep K23
    replace E_b6 := E_b6.keep K23
    replace E_b10 := E_b10.keep K23
    exact J285 T25 T23.heap _ k (lf - (0 : Int32)) (.val (.ref ta)) (X25.more (by decide) (by decide)) e25 N25 Z23 E_b2 E_b4 E_b6 E_b10 hQ (own_sub0 hlf) (by omega) (Or.inr ⟨_, rfl⟩)
   ·skip
    show Run p e below s _ _ _ (T23.setTop (mkF m 261 #[.val (.int p1), .val (.long p2), .second, .val (.long p3), .second, .val (.long p4), .second, .val (.long p5), .second, .val (.int z1), .val (.int z2), .val (.int z3), .val (.long bf), .second, .val (.ref b2), .val (.ref b4), .val (.ref b6), .val (.ref b8), .val (.ref b10), .val (.int 1), .val (.int lf), .unset] [(.ref ta)]))
    refine Run.x_astore (q := 263) X23 hx #[.val (.int p1), .val (.long p2), .second, .val (.long p3), .second, .val (.long p4), .second, .val (.long p5), .second, .val (.int z1), .val (.int z2), .val (.int z3), .val (.long bf), .second, .val (.ref b2), .val (.ref b4), .val (.ref b6), .val (.ref b8), .val (.ref b10), .val (.int 1), .val (.int lf), .val (.ref ta)] (hb hby at_261) rfl rfl rfl ?_
    refine Run.x_iload (q := 265) X23 hx (hb hby at_263) rfl rfl ?_
    refine Run.x_aload (q := 267) X23 hx (hb hby at_265) rfl rfl rfl ?_
    refine Run.x_aload (q := 269) X23 hx (hb hby at_267) rfl rfl rfl ?_
    refine Run.x_aload (q := 271) X23 hx (hb hby at_269) rfl rfl rfl ?_
    refine Run.x_aload (q := 273) X23 hx (hb hby at_271) rfl rfl rfl ?_
    refine Run.x_iload (q := 275) X23 hx (hb hby at_273) rfl rfl ?_
    refine Run.x_iload (q := 277) X23 hx (hb hby at_275) rfl rfl ?_
    refine Run.x_iload (q := 279) X23 hx (hb hby at_277) rfl rfl ?_
    refine Run.callSI (q := 282) X23 hx hH rfl (y := (⟨"com/example/framewheel/framewheel/core/PhaseQueueHasDelayedPinLaw", "takenDelayed", "(Lcom/example/framewheel/framewheel/core/FrameCallback;Ljava/lang/Object;Ljava/lang/Object;Ljava/lang/Object;ZZZ)I"⟩ : MethodName)) hown (wm110 hw) (wm111 hw) (wm2 hw) (wm112 hw) (by decide) (argsL := [(.ref ta), (.ref b2), (.ref b4), (.ref b6), (.int z1), (.int z2), (.int z3)]) (rest := [(.int lf)]) (c_tdr l Z a0 hw ta b2 b4 b6 z1 z2 z3 T23.heap n0 Z23 (1 : Int32) ne_b2_b4 ne_b2_b6 ne_b4_b6 hPt (Or.inr rfl)) pd_19 rfl (by rw [hml]; rfl) (W := 1) rfl (by decide) (by decide) (by decide) (by decide) (hb hby at_279) rfl rfl fun T26 L26 X26 M26 e26 => ?_
    have N26 := Fr.app N23 M26
    refine Run.x_isub (q := 283) X26 hx (hb hby at_282) rfl rfl ?_
    refine Run.x_istore (q := 285) X26 hx #[.val (.int p1), .val (.long p2), .second, .val (.long p3), .second, .val (.long p4), .second, .val (.long p5), .second, .val (.int z1), .val (.int z2), .val (.int z3), .val (.long bf), .second, .val (.ref b2), .val (.ref b4), .val (.ref b6), .val (.ref b8), .val (.ref b10), .val (.int 1), .val (.int (lf - (1 : Int32))), .val (.ref ta)] (hb hby at_283) rfl rfl ?_
    replace E_b2 := E_b2.keep K23
    replace E_b4 := E_b4.keep K23
    replace E_b6 := E_b6.keep K23
    replace E_b10 := E_b10.keep K23
    exact J285 T26 T23.heap _ k' (lf - (1 : Int32)) (.val (.ref ta)) (X26.more (by decide) (by decide)) e26 N26 Z23 E_b2 E_b4 E_b6 E_b10 hQ (own_sub1 hlf hk' hk3) (by omega) (Or.inr ⟨_, rfl⟩)
  have J222 : ∀ (T27 : State) (h27 : Heap) (lo27 : List Loc) (k : Nat) (lf : Int32), Stand p l e room_1 s m #[(.int p1), (.long p2), (.long p3), (.long p4), (.long p5)] below meth c T27 lo27 16 105 → T27.heap = h27 → Fr n0 lo27 → n0 ≤ h27.size → Exa Z h27 b2 "com/example/framewheel/framewheel/core/PhaseQueueHasDelayedPinLaw" → Exa Z h27 b4 "com/example/framewheel/framewheel/core/PhaseQueueHasDelayedPinLaw" → Exa Z h27 b6 "com/example/framewheel/framewheel/core/PhaseQueueHasDelayedPinLaw" → Exa Z h27 b10 "com/example/framewheel/framewheel/core/PhaseQueue" → (own_QS Z h27 n0 (own_PD b2 b4 b6 z1 z2 z3 1) (own_PD b2 b4 b6 z1 z2 z3 0) lam cK b10 k 3) → (lf.toInt = k) → (k ≤ 3) → Run p e below s (Tru n0) room_1.cells room_1.slots (T27.setTop (mkF m 222 #[.val (.int p1), .val (.long p2), .second, .val (.long p3), .second, .val (.long p4), .second, .val (.long p5), .second, .val (.int z1), .val (.int z2), .val (.int z3), .val (.long bf), .second, .val (.ref b2), .val (.ref b4), .val (.ref b6), .val (.ref b8), .val (.ref b10), .val (.int 1), .unset, .unset] [(.int lf)])) := by
   intro T27 h27 lo27 k lf X27 e27 N27 Z27 E_b2 E_b4 E_b6 E_b10 hQ hlf hk3
   refine Run.x_istore (q := 224) X27 hx #[.val (.int p1), .val (.long p2), .second, .val (.long p3), .second, .val (.long p4), .second, .val (.long p5), .second, .val (.int z1), .val (.int z2), .val (.int z3), .val (.long bf), .second, .val (.ref b2), .val (.ref b4), .val (.ref b6), .val (.ref b8), .val (.ref b10), .val (.int 1), .val (.int lf), .unset] (hb hby at_222) rfl rfl ?_
   refine Run.x_iload (q := 226) X27 hx (hb hby at_224) rfl rfl ?_
   refine Run.x_aload (q := 228) X27 hx (hb hby at_226) rfl rfl rfl ?_
   refine Run.callVI (q := 231) X27 hx hH e27 (y := (⟨"com/example/framewheel/framewheel/core/PhaseQueue", "hasDelayed", "()Z"⟩ : MethodName)) (z := (⟨"com/example/framewheel/framewheel/core/PhaseQueue", "hasDelayed", "()Z"⟩ : MethodName)) hown (wm83 hw) (wm84 hw) (notFace_of_selects (args := #[]) (mvT hZ (wm86 hw))) (wm86 hw) (wm85 hw) (wm11 hw) (wm87 hw) (by decide) (a := b10) E_b10 (argsL := []) (rest := [(.int 1)]) (c_has l Z a0 hw b10 h27 n0 Z27 (own_PD b2 b4 b6 z1 z2 z3 1) (own_PD b2 b4 b6 z1 z2 z3 0) lam cK k 3 hQ) pd_17 rfl (by rw [hml]; rfl) (W := 1) rfl (by decide) (by decide) (by decide) (by decide) (hb hby at_228) rfl rfl fun T28 L28 X28 M28 e28 => ?_
   have N28 := Fr.app N27 M28
   refine Run.x_iload (q := 233) X28 hx (hb hby at_231) rfl rfl ?_
   by_cases hc233 : (0 : Int32) < lf
   ·skip
    refine Run.x_ifNo (q := 236) X28 hx (hb hby at_233) ((if0 _ _).trans (tlt hc233).2.2.2) rfl ?_
    refine Run.x_iconst (q := 237) X28 hx (hb hby at_236) (z := (1 : Int32)) rfl rfl ?_
    refine Run.x_goto (q := 241) X28 hx (hb hby at_237) (by decide) (by decide) ?_
    refine Run.x_icmpNo (q := 244) X28 hx (hb hby at_241) (teq (own_b1 hlf hc233)).2 rfl ?_
    refine Run.x_iconst (q := 245) X28 hx (hb hby at_244) (z := (1 : Int32)) rfl rfl ?_
    refine Run.x_goto (q := 249) X28 hx (hb hby at_245) (by decide) (by decide) ?_
    refine Run.x_iand (q := 250) X28 hx (hb hby at_249) (z := (1 : Int32)) (by decide) rfl ?_
    refine Run.x_istore (q := 252) X28 hx #[.val (.int p1), .val (.long p2), .second, .val (.long p3), .second, .val (.long p4), .second, .val (.long p5), .second, .val (.int z1), .val (.int z2), .val (.int z3), .val (.long bf), .second, .val (.ref b2), .val (.ref b4), .val (.ref b6), .val (.ref b8), .val (.ref b10), .val (.int 1), .val (.int lf), .unset] (hb hby at_250) rfl rfl ?_
    exact J252 T28 h27 _ k lf (X28.more (by decide) (by decide)) e28 N28 Z27 E_b2 E_b4 E_b6 E_b10 hQ hlf hk3
   ·skip
    refine Run.x_ifYes (q := 240) X28 hx (hb hby at_233) ((if0 _ _).trans (flt hc233).2.2.2) (by decide) (by decide) ?_
    refine Run.x_iconst (q := 241) X28 hx (hb hby at_240) (z := (0 : Int32)) rfl rfl ?_
    refine Run.x_icmpNo (q := 244) X28 hx (hb hby at_241) (teq (own_b0 hlf hc233)).2 rfl ?_
    refine Run.x_iconst (q := 245) X28 hx (hb hby at_244) (z := (1 : Int32)) rfl rfl ?_
    refine Run.x_goto (q := 249) X28 hx (hb hby at_245) (by decide) (by decide) ?_
    refine Run.x_iand (q := 250) X28 hx (hb hby at_249) (z := (1 : Int32)) (by decide) rfl ?_
    refine Run.x_istore (q := 252) X28 hx #[.val (.int p1), .val (.long p2), .second, .val (.long p3), .second, .val (.long p4), .second, .val (.long p5), .second, .val (.int z1), .val (.int z2), .val (.int z3), .val (.long bf), .second, .val (.ref b2), .val (.ref b4), .val (.ref b6), .val (.ref b8), .val (.ref b10), .val (.int 1), .val (.int lf), .unset] (hb hby at_250) rfl rfl ?_
    exact J252 T28 h27 _ k lf (X28.more (by decide) (by decide)) e28 N28 Z27 E_b2 E_b4 E_b6 E_b10 hQ hlf hk3
  have J190 : ∀ (T29 : State) (h29 : Heap) (lo29 : List Loc) (k : Nat), Stand p l e room_1 s m #[(.int p1), (.long p2), (.long p3), (.long p4), (.long p5)] below meth c T29 lo29 16 105 → T29.heap = h29 → Fr n0 lo29 → n0 ≤ h29.size → Exa Z h29 b2 "com/example/framewheel/framewheel/core/PhaseQueueHasDelayedPinLaw" → Exa Z h29 b4 "com/example/framewheel/framewheel/core/PhaseQueueHasDelayedPinLaw" → Exa Z h29 b6 "com/example/framewheel/framewheel/core/PhaseQueueHasDelayedPinLaw" → Exa Z h29 b10 "com/example/framewheel/framewheel/core/PhaseQueue" → (own_QS Z h29 n0 (own_PD b2 b4 b6 z1 z2 z3 1) (own_PD b2 b4 b6 z1 z2 z3 0) lam cK b10 k 3) → (z1.toInt + z2.toInt + z3.toInt = k) → Run p e below s (Tru n0) room_1.cells room_1.slots (T29.setTop (mkF m 190 #[.val (.int p1), .val (.long p2), .second, .val (.long p3), .second, .val (.long p4), .second, .val (.long p5), .second, .val (.int z1), .val (.int z2), .val (.int z3), .val (.long bf), .second, .val (.ref b2), .val (.ref b4), .val (.ref b6), .val (.ref b8), .val (.ref b10), .val (.int 1), .unset, .unset] [])) := by
   intro T29 h29 lo29 k X29 e29 N29 Z29 E_b2 E_b4 E_b6 E_b10 hQ hkz
   refine Run.x_iload (q := 192) X29 hx (hb hby at_190) rfl rfl ?_
   by_cases hc192 : z1 = (0 : Int32)
   ·skip
    refine Run.x_ifYes (q := 199) X29 hx (hb hby at_192) ((if0 _ _).trans (teq hc192).1) (by decide) (by decide) ?_
    refine Run.x_iconst (q := 200) X29 hx (hb hby at_199) (z := (0 : Int32)) rfl rfl ?_
    refine Run.x_iload (q := 202) X29 hx (hb hby at_200) rfl rfl ?_
    by_cases hc202 : z2 = (0 : Int32)
    ·skip
     refine Run.x_ifYes (q := 209) X29 hx (hb hby at_202) ((if0 _ _).trans (teq hc202).1) (by decide) (by decide) ?_
     refine Run.x_iconst (q := 210) X29 hx (hb hby at_209) (z := (0 : Int32)) rfl rfl ?_
     refine Run.x_iadd (q := 211) X29 hx (hb hby at_210) (z := (0 : Int32)) (by decide) rfl ?_
     refine Run.x_iload (q := 213) X29 hx (hb hby at_211) rfl rfl ?_
     by_cases hc213 : z3 = (0 : Int32)
     ·skip
      refine Run.x_ifYes (q := 220) X29 hx (hb hby at_213) ((if0 _ _).trans (teq hc213).1) (by decide) (by decide) ?_
      refine Run.x_iconst (q := 221) X29 hx (hb hby at_220) (z := (0 : Int32)) rfl rfl ?_
      refine Run.x_iadd (q := 222) X29 hx (hb hby at_221) (z := (0 : Int32)) (by decide) rfl ?_
      exact J222 T29 h29 _ k (0 : Int32) (X29.more (by decide) (by decide)) e29 N29 Z29 E_b2 E_b4 E_b6 E_b10 hQ (by have := own_z0 hc192; have := own_z0 hc202; have := own_z0 hc213; have : (0 : Int32).toInt = 0 := rfl; omega) (by have := own_z0 hc192; have := own_z0 hc202; have := own_z0 hc213; omega)
     ·skip
      refine Run.x_ifNo (q := 216) X29 hx (hb hby at_213) ((if0 _ _).trans (feq hc213).1) rfl ?_
      refine Run.x_iconst (q := 217) X29 hx (hb hby at_216) (z := (1 : Int32)) rfl rfl ?_
      refine Run.x_goto (q := 221) X29 hx (hb hby at_217) (by decide) (by decide) ?_
      refine Run.x_iadd (q := 222) X29 hx (hb hby at_221) (z := (1 : Int32)) (by decide) rfl ?_
      exact J222 T29 h29 _ k (1 : Int32) (X29.more (by decide) (by decide)) e29 N29 Z29 E_b2 E_b4 E_b6 E_b10 hQ (by have := own_z0 hc192; have := own_z0 hc202; have := own_z1 hz3 hc213; have : (1 : Int32).toInt = 1 := rfl; omega) (by have := own_z0 hc192; have := own_z0 hc202; have := own_z1 hz3 hc213; omega)
    ·skip
     refine Run.x_ifNo (q := 205) X29 hx (hb hby at_202) ((if0 _ _).trans (feq hc202).1) rfl ?_
     refine Run.x_iconst (q := 206) X29 hx (hb hby at_205) (z := (1 : Int32)) rfl rfl ?_
     refine Run.x_goto (q := 210) X29 hx (hb hby at_206) (by decide) (by decide) ?_
     refine Run.x_iadd (q := 211) X29 hx (hb hby at_210) (z := (1 : Int32)) (by decide) rfl ?_
     refine Run.x_iload (q := 213) X29 hx (hb hby at_211) rfl rfl ?_
     by_cases hc213 : z3 = (0 : Int32)
     ·skip
      refine Run.x_ifYes (q := 220) X29 hx (hb hby at_213) ((if0 _ _).trans (teq hc213).1) (by decide) (by decide) ?_
      refine Run.x_iconst (q := 221) X29 hx (hb hby at_220) (z := (0 : Int32)) rfl rfl ?_
      refine Run.x_iadd (q := 222) X29 hx (hb hby at_221) (z := (1 : Int32)) (by decide) rfl ?_
      exact J222 T29 h29 _ k (1 : Int32) (X29.more (by decide) (by decide)) e29 N29 Z29 E_b2 E_b4 E_b6 E_b10 hQ (by have := own_z0 hc192; have := own_z1 hz2 hc202; have := own_z0 hc213; have : (1 : Int32).toInt = 1 := rfl; omega) (by have := own_z0 hc192; have := own_z1 hz2 hc202; have := own_z0 hc213; omega)
     ·skip
      refine Run.x_ifNo (q := 216) X29 hx (hb hby at_213) ((if0 _ _).trans (feq hc213).1) rfl ?_
      refine Run.x_iconst (q := 217) X29 hx (hb hby at_216) (z := (1 : Int32)) rfl rfl ?_
      refine Run.x_goto (q := 221) X29 hx (hb hby at_217) (by decide) (by decide) ?_
      refine Run.x_iadd (q := 222) X29 hx (hb hby at_221) (z := (2 : Int32)) (by decide) rfl ?_
      exact J222 T29 h29 _ k (2 : Int32) (X29.more (by decide) (by decide)) e29 N29 Z29 E_b2 E_b4 E_b6 E_b10 hQ (by have := own_z0 hc192; have := own_z1 hz2 hc202; have := own_z1 hz3 hc213; have : (2 : Int32).toInt = 2 := rfl; omega) (by have := own_z0 hc192; have := own_z1 hz2 hc202; have := own_z1 hz3 hc213; omega)
   ·skip
    refine Run.x_ifNo (q := 195) X29 hx (hb hby at_192) ((if0 _ _).trans (feq hc192).1) rfl ?_
    refine Run.x_iconst (q := 196) X29 hx (hb hby at_195) (z := (1 : Int32)) rfl rfl ?_
    refine Run.x_goto (q := 200) X29 hx (hb hby at_196) (by decide) (by decide) ?_
    refine Run.x_iload (q := 202) X29 hx (hb hby at_200) rfl rfl ?_
    by_cases hc202 : z2 = (0 : Int32)
    ·skip
     refine Run.x_ifYes (q := 209) X29 hx (hb hby at_202) ((if0 _ _).trans (teq hc202).1) (by decide) (by decide) ?_
     refine Run.x_iconst (q := 210) X29 hx (hb hby at_209) (z := (0 : Int32)) rfl rfl ?_
     refine Run.x_iadd (q := 211) X29 hx (hb hby at_210) (z := (1 : Int32)) (by decide) rfl ?_
     refine Run.x_iload (q := 213) X29 hx (hb hby at_211) rfl rfl ?_
     by_cases hc213 : z3 = (0 : Int32)
     ·skip
      refine Run.x_ifYes (q := 220) X29 hx (hb hby at_213) ((if0 _ _).trans (teq hc213).1) (by decide) (by decide) ?_
      refine Run.x_iconst (q := 221) X29 hx (hb hby at_220) (z := (0 : Int32)) rfl rfl ?_
      refine Run.x_iadd (q := 222) X29 hx (hb hby at_221) (z := (1 : Int32)) (by decide) rfl ?_
      exact J222 T29 h29 _ k (1 : Int32) (X29.more (by decide) (by decide)) e29 N29 Z29 E_b2 E_b4 E_b6 E_b10 hQ (by have := own_z1 hz1 hc192; have := own_z0 hc202; have := own_z0 hc213; have : (1 : Int32).toInt = 1 := rfl; omega) (by have := own_z1 hz1 hc192; have := own_z0 hc202; have := own_z0 hc213; omega)
     ·skip
      refine Run.x_ifNo (q := 216) X29 hx (hb hby at_213) ((if0 _ _).trans (feq hc213).1) rfl ?_
      refine Run.x_iconst (q := 217) X29 hx (hb hby at_216) (z := (1 : Int32)) rfl rfl ?_
      refine Run.x_goto (q := 221) X29 hx (hb hby at_217) (by decide) (by decide) ?_
      refine Run.x_iadd (q := 222) X29 hx (hb hby at_221) (z := (2 : Int32)) (by decide) rfl ?_
      exact J222 T29 h29 _ k (2 : Int32) (X29.more (by decide) (by decide)) e29 N29 Z29 E_b2 E_b4 E_b6 E_b10 hQ (by have := own_z1 hz1 hc192; have := own_z0 hc202; have := own_z1 hz3 hc213; have : (2 : Int32).toInt = 2 := rfl; omega) (by have := own_z1 hz1 hc192; have := own_z0 hc202; have := own_z1 hz3 hc213; omega)
    ·skip
     refine Run.x_ifNo (q := 205) X29 hx (hb hby at_202) ((if0 _ _).trans (feq hc202).1) rfl ?_
     refine Run.x_iconst (q := 206) X29 hx (hb hby at_205) (z := (1 : Int32)) rfl rfl ?_
     refine Run.x_goto (q := 210) X29 hx (hb hby at_206) (by decide) (by decide) ?_
     refine Run.x_iadd (q := 211) X29 hx (hb hby at_210) (z := (2 : Int32)) (by decide) rfl ?_
     refine Run.x_iload (q := 213) X29 hx (hb hby at_211) rfl rfl ?_
     by_cases hc213 : z3 = (0 : Int32)
     ·skip
      refine Run.x_ifYes (q := 220) X29 hx (hb hby at_213) ((if0 _ _).trans (teq hc213).1) (by decide) (by decide) ?_
      refine Run.x_iconst (q := 221) X29 hx (hb hby at_220) (z := (0 : Int32)) rfl rfl ?_
      refine Run.x_iadd (q := 222) X29 hx (hb hby at_221) (z := (2 : Int32)) (by decide) rfl ?_
      exact J222 T29 h29 _ k (2 : Int32) (X29.more (by decide) (by decide)) e29 N29 Z29 E_b2 E_b4 E_b6 E_b10 hQ (by have := own_z1 hz1 hc192; have := own_z1 hz2 hc202; have := own_z0 hc213; have : (2 : Int32).toInt = 2 := rfl; omega) (by have := own_z1 hz1 hc192; have := own_z1 hz2 hc202; have := own_z0 hc213; omega)
     ·skip
      refine Run.x_ifNo (q := 216) X29 hx (hb hby at_213) ((if0 _ _).trans (feq hc213).1) rfl ?_
      refine Run.x_iconst (q := 217) X29 hx (hb hby at_216) (z := (1 : Int32)) rfl rfl ?_
      refine Run.x_goto (q := 221) X29 hx (hb hby at_217) (by decide) (by decide) ?_
      refine Run.x_iadd (q := 222) X29 hx (hb hby at_221) (z := (3 : Int32)) (by decide) rfl ?_
      exact J222 T29 h29 _ k (3 : Int32) (X29.more (by decide) (by decide)) e29 N29 Z29 E_b2 E_b4 E_b6 E_b10 hQ (by have := own_z1 hz1 hc192; have := own_z1 hz2 hc202; have := own_z1 hz3 hc213; have : (3 : Int32).toInt = 3 := rfl; omega) (by have := own_z1 hz1 hc192; have := own_z1 hz2 hc202; have := own_z1 hz3 hc213; omega)
  have J167 : ∀ (T30 : State) (h30 : Heap) (lo30 : List Loc) (k : Nat), Stand p l e room_1 s m #[(.int p1), (.long p2), (.long p3), (.long p4), (.long p5)] below meth c T30 lo30 15 101 → T30.heap = h30 → Fr n0 lo30 → n0 ≤ h30.size → Exa Z h30 b2 "com/example/framewheel/framewheel/core/PhaseQueueHasDelayedPinLaw" → Exa Z h30 b4 "com/example/framewheel/framewheel/core/PhaseQueueHasDelayedPinLaw" → Exa Z h30 b6 "com/example/framewheel/framewheel/core/PhaseQueueHasDelayedPinLaw" → Exa Z h30 b10 "com/example/framewheel/framewheel/core/PhaseQueue" → (own_QS Z h30 n0 (own_PD b2 b4 b6 z1 z2 z3 1) (own_PD b2 b4 b6 z1 z2 z3 0) lam cK b10 k 2) → (z1.toInt + z2.toInt = k) → Run p e below s (Tru n0) room_1.cells room_1.slots (T30.setTop (mkF m 167 #[.val (.int p1), .val (.long p2), .second, .val (.long p3), .second, .val (.long p4), .second, .val (.long p5), .second, .val (.int z1), .val (.int z2), .val (.int z3), .val (.long bf), .second, .val (.ref b2), .val (.ref b4), .val (.ref b6), .val (.ref b8), .val (.ref b10), .val (.int 1), .unset, .unset] [])) := by
   intro T30 h30 lo30 k X30 e30 N30 Z30 E_b2 E_b4 E_b6 E_b10 hQ hkz
   refine Run.x_aload (q := 169) X30 hx (hb hby at_167) rfl rfl rfl ?_
   refine Run.x_aload (q := 171) X30 hx (hb hby at_169) rfl rfl rfl ?_
   refine Run.x_lload (q := 173) X30 hx (hb hby at_171) rfl rfl ?_
   refine Run.st (B := T30.setTop (mkF m 176 #[.val (.int p1), .val (.long p2), .second, .val (.long p3), .second, .val (.long p4), .second, .val (.long p5), .second, .val (.int z1), .val (.int z2), .val (.int z3), .val (.long bf), .second, .val (.ref b2), .val (.ref b4), .val (.ref b6), .val (.ref b8), .val (.ref b10), .val (.int 1), .unset, .unset] [(.long (2 : Int64)), (.long p4), (.ref b6), (.ref b10)])) (fun t kt => X30.ldc2Long hx hown (mvT hZ (wm104 hw)) (g := (mkF m 173 #[.val (.int p1), .val (.long p2), .second, .val (.long p3), .second, .val (.long p4), .second, .val (.long p5), .second, .val (.int z1), .val (.int z2), .val (.int z3), .val (.long bf), .second, .val (.ref b2), .val (.ref b4), .val (.ref b6), .val (.ref b8), .val (.ref b10), .val (.int 1), .unset, .unset] [(.long p4), (.ref b6), (.ref b10)])) rfl (hb hby at_173) _ kt) ?_
   refine Run.x_iload (q := 178) X30 hx (hb hby at_176) rfl rfl ?_
   by_cases hc178 : z3 = (0 : Int32)
   ·skip
    refine Run.x_ifYes (q := 186) X30 hx (hb hby at_178) ((if0 _ _).trans (teq hc178).1) (by decide) (by decide) ?_
    refine Run.x_null (q := 187) X30 hx (hb hby at_186)  rfl ?_
    refine Run.callV X30 hx hH e30 (y := (⟨"com/example/framewheel/framewheel/core/PhaseQueue", "add", "(Lcom/example/framewheel/framewheel/core/FrameCallback;JJLjava/lang/Runnable;)V"⟩ : MethodName)) (z := (⟨"com/example/framewheel/framewheel/core/PhaseQueue", "add", "(Lcom/example/framewheel/framewheel/core/FrameCallback;JJLjava/lang/Runnable;)V"⟩ : MethodName)) hown (wm90 hw) (wm91 hw) (notFace_of_selects (args := #[]) (mvT hZ (wm93 hw))) (wm93 hw) (wm92 hw) (wm11 hw) (wm94 hw) (by decide) (a := b10) E_b10 (argsL := [(.ref b6), (.long p4), (.long (2 : Int64)), .null]) (rest := []) (c_adn l Z a0 hw b10 b6 p4 (2 : Int64) h30 n0 Z30 (own_PD b2 b4 b6 z1 z2 z3 1) (own_PD b2 b4 b6 z1 z2 z3 0) lam cK k 2 E_b6 hQ (by decide) (Or.inr (Or.inr ⟨rfl, hc178⟩))) pd_14 rfl (by rw [hml]; rfl) (W := 0) rfl (by decide) (by decide) (by decide) (by decide) (hb hby at_187) rfl ?_
    intro T31 v31 L31 X31 q31
    obtain ⟨rfl, M31, ⟨wk31, K31⟩, hQ31⟩ := q31
    have N31 := Fr.app N30 M31
    show Run p e below s _ _ _ (T31.setTop (mkF m 190 #[.val (.int p1), .val (.long p2), .second, .val (.long p3), .second, .val (.long p4), .second, .val (.long p5), .second, .val (.int z1), .val (.int z2), .val (.int z3), .val (.long bf), .second, .val (.ref b2), .val (.ref b4), .val (.ref b6), .val (.ref b8), .val (.ref b10), .val (.int 1), .unset, .unset] []))
    have Z31 : n0 ≤ T31.heap.size := Nat.le_trans Z30 K31.1
    replace E_b2 := E_b2.keep K31
    replace E_b4 := E_b4.keep K31
    replace E_b6 := E_b6.keep K31
    replace E_b10 := E_b10.keep K31
    exact J190 T31 _ _ k (X31.more (by decide) (by decide)) rfl N31 Z31 E_b2 E_b4 E_b6 E_b10 hQ31 (by have := own_z0 hc178; omega)
   ·skip
    refine Run.x_ifNo (q := 181) X30 hx (hb hby at_178) ((if0 _ _).trans (feq hc178).1) rfl ?_
    refine Run.x_aload (q := 183) X30 hx (hb hby at_181) rfl rfl rfl ?_
    refine Run.x_goto (q := 187) X30 hx (hb hby at_183) (by decide) (by decide) ?_
    refine Run.callV X30 hx hH e30 (y := (⟨"com/example/framewheel/framewheel/core/PhaseQueue", "add", "(Lcom/example/framewheel/framewheel/core/FrameCallback;JJLjava/lang/Runnable;)V"⟩ : MethodName)) (z := (⟨"com/example/framewheel/framewheel/core/PhaseQueue", "add", "(Lcom/example/framewheel/framewheel/core/FrameCallback;JJLjava/lang/Runnable;)V"⟩ : MethodName)) hown (wm90 hw) (wm91 hw) (notFace_of_selects (args := #[]) (mvT hZ (wm93 hw))) (wm93 hw) (wm92 hw) (wm11 hw) (wm94 hw) (by decide) (a := b10) E_b10 (argsL := [(.ref b6), (.long p4), (.long (2 : Int64)), (.ref b8)]) (rest := []) (c_adw l Z a0 hw b10 b6 p4 (2 : Int64) b8 h30 n0 Z30 (own_PD b2 b4 b6 z1 z2 z3 1) (own_PD b2 b4 b6 z1 z2 z3 0) lam cK k 2 E_b6 hQ (by decide) (Or.inr (Or.inr ⟨rfl, hz3.resolve_left hc178⟩))) pd_14 rfl (by rw [hml]; rfl) (W := 0) rfl (by decide) (by decide) (by decide) (by decide) (hb hby at_187) rfl ?_
    intro T32 v32 L32 X32 q32
    obtain ⟨rfl, M32, ⟨wk32, K32⟩, hQ32⟩ := q32
    have N32 := Fr.app N30 M32
    show Run p e below s _ _ _ (T32.setTop (mkF m 190 #[.val (.int p1), .val (.long p2), .second, .val (.long p3), .second, .val (.long p4), .second, .val (.long p5), .second, .val (.int z1), .val (.int z2), .val (.int z3), .val (.long bf), .second, .val (.ref b2), .val (.ref b4), .val (.ref b6), .val (.ref b8), .val (.ref b10), .val (.int 1), .unset, .unset] []))
    have Z32 : n0 ≤ T32.heap.size := Nat.le_trans Z30 K32.1
    replace E_b2 := E_b2.keep K32
    replace E_b4 := E_b4.keep K32
    replace E_b6 := E_b6.keep K32
    replace E_b10 := E_b10.keep K32
    exact J190 T32 _ _ (k + 1) (X32.more (by decide) (by decide)) rfl N32 Z32 E_b2 E_b4 E_b6 E_b10 hQ32 (by have := own_z1 hz3 hc178; omega)
  have J127 : ∀ (T33 : State) (h33 : Heap) (lo33 : List Loc) (k : Nat), Stand p l e room_1 s m #[(.int p1), (.long p2), (.long p3), (.long p4), (.long p5)] below meth c T33 lo33 14 97 → T33.heap = h33 → Fr n0 lo33 → n0 ≤ h33.size → Exa Z h33 b2 "com/example/framewheel/framewheel/core/PhaseQueueHasDelayedPinLaw" → Exa Z h33 b4 "com/example/framewheel/framewheel/core/PhaseQueueHasDelayedPinLaw" → Exa Z h33 b6 "com/example/framewheel/framewheel/core/PhaseQueueHasDelayedPinLaw" → Exa Z h33 b10 "com/example/framewheel/framewheel/core/PhaseQueue" → (own_QS Z h33 n0 (own_PD b2 b4 b6 z1 z2 z3 1) (own_PD b2 b4 b6 z1 z2 z3 0) lam cK b10 k 1) → (z1.toInt = k) → Run p e below s (Tru n0) room_1.cells room_1.slots (T33.setTop (mkF m 127 #[.val (.int p1), .val (.long p2), .second, .val (.long p3), .second, .val (.long p4), .second, .val (.long p5), .second, .val (.int z1), .val (.int z2), .val (.int z3), .val (.long bf), .second, .val (.ref b2), .val (.ref b4), .val (.ref b6), .val (.ref b8), .val (.ref b10), .val (.int 1), .unset, .unset] [])) := by
   intro T33 h33 lo33 k X33 e33 N33 Z33 E_b2 E_b4 E_b6 E_b10 hQ hkz
   refine Run.x_iload (q := 129) X33 hx (hb hby at_127) rfl rfl ?_
   refine Run.x_aload (q := 131) X33 hx (hb hby at_129) rfl rfl rfl ?_
   refine Run.callVI (q := 134) X33 hx hH e33 (y := (⟨"com/example/framewheel/framewheel/core/PhaseQueue", "hasDelayed", "()Z"⟩ : MethodName)) (z := (⟨"com/example/framewheel/framewheel/core/PhaseQueue", "hasDelayed", "()Z"⟩ : MethodName)) hown (wm83 hw) (wm84 hw) (notFace_of_selects (args := #[]) (mvT hZ (wm86 hw))) (wm86 hw) (wm85 hw) (wm11 hw) (wm87 hw) (by decide) (a := b10) E_b10 (argsL := []) (rest := [(.int 1)]) (c_has l Z a0 hw b10 h33 n0 Z33 (own_PD b2 b4 b6 z1 z2 z3 1) (own_PD b2 b4 b6 z1 z2 z3 0) lam cK k 1 hQ) pd_17 rfl (by rw [hml]; rfl) (W := 1) rfl (by decide) (by decide) (by decide) (by decide) (hb hby at_131) rfl rfl fun T34 L34 X34 M34 e34 => ?_
   have N34 := Fr.app N33 M34
   refine Run.x_iload (q := 136) X34 hx (hb hby at_134) rfl rfl ?_
   refine Run.x_icmpNo (q := 139) X34 hx (hb hby at_136) (teq (own_bz hz1 hkz)).2 rfl ?_
   refine Run.x_iconst (q := 140) X34 hx (hb hby at_139) (z := (1 : Int32)) rfl rfl ?_
   refine Run.x_goto (q := 144) X34 hx (hb hby at_140) (by decide) (by decide) ?_
   refine Run.x_iand (q := 145) X34 hx (hb hby at_144) (z := (1 : Int32)) (by decide) rfl ?_
   refine Run.x_istore (q := 147) X34 hx #[.val (.int p1), .val (.long p2), .second, .val (.long p3), .second, .val (.long p4), .second, .val (.long p5), .second, .val (.int z1), .val (.int z2), .val (.int z3), .val (.long bf), .second, .val (.ref b2), .val (.ref b4), .val (.ref b6), .val (.ref b8), .val (.ref b10), .val (.int 1), .unset, .unset] (hb hby at_145) rfl rfl ?_
   refine Run.x_aload (q := 149) X34 hx (hb hby at_147) rfl rfl rfl ?_
   refine Run.x_aload (q := 151) X34 hx (hb hby at_149) rfl rfl rfl ?_
   refine Run.x_lloadN (q := 152) X34 hx (hb hby at_151) rfl rfl ?_
   refine Run.x_lconst (q := 153) X34 hx (hb hby at_152) (z := (1 : Int64)) rfl rfl ?_
   refine Run.x_iload (q := 155) X34 hx (hb hby at_153) rfl rfl ?_
   by_cases hc155 : z2 = (0 : Int32)
   ·skip
    refine Run.x_ifYes (q := 163) X34 hx (hb hby at_155) ((if0 _ _).trans (teq hc155).1) (by decide) (by decide) ?_
    refine Run.x_null (q := 164) X34 hx (hb hby at_163)  rfl ?_
    refine Run.callV X34 hx hH e34 (y := (⟨"com/example/framewheel/framewheel/core/PhaseQueue", "add", "(Lcom/example/framewheel/framewheel/core/FrameCallback;JJLjava/lang/Runnable;)V"⟩ : MethodName)) (z := (⟨"com/example/framewheel/framewheel/core/PhaseQueue", "add", "(Lcom/example/framewheel/framewheel/core/FrameCallback;JJLjava/lang/Runnable;)V"⟩ : MethodName)) hown (wm90 hw) (wm91 hw) (notFace_of_selects (args := #[]) (mvT hZ (wm93 hw))) (wm93 hw) (wm92 hw) (wm11 hw) (wm94 hw) (by decide) (a := b10) E_b10 (argsL := [(.ref b4), (.long p3), (.long (1 : Int64)), .null]) (rest := []) (c_adn l Z a0 hw b10 b4 p3 (1 : Int64) h33 n0 Z33 (own_PD b2 b4 b6 z1 z2 z3 1) (own_PD b2 b4 b6 z1 z2 z3 0) lam cK k 1 E_b4 hQ (by decide) (Or.inr (Or.inl ⟨rfl, hc155⟩))) pd_14 rfl (by rw [hml]; rfl) (W := 0) rfl (by decide) (by decide) (by decide) (by decide) (hb hby at_164) rfl ?_
    intro T35 v35 L35 X35 q35
    obtain ⟨rfl, M35, ⟨wk35, K35⟩, hQ35⟩ := q35
    have N35 := Fr.app N34 M35
    show Run p e below s _ _ _ (T35.setTop (mkF m 167 #[.val (.int p1), .val (.long p2), .second, .val (.long p3), .second, .val (.long p4), .second, .val (.long p5), .second, .val (.int z1), .val (.int z2), .val (.int z3), .val (.long bf), .second, .val (.ref b2), .val (.ref b4), .val (.ref b6), .val (.ref b8), .val (.ref b10), .val (.int 1), .unset, .unset] []))
    have Z35 : n0 ≤ T35.heap.size := Nat.le_trans Z33 K35.1
    replace E_b2 := E_b2.keep K35
    replace E_b4 := E_b4.keep K35
    replace E_b6 := E_b6.keep K35
    replace E_b10 := E_b10.keep K35
    exact J167 T35 _ _ k (X35.more (by decide) (by decide)) rfl N35 Z35 E_b2 E_b4 E_b6 E_b10 hQ35 (by have := own_z0 hc155; omega)
   ·skip
    refine Run.x_ifNo (q := 158) X34 hx (hb hby at_155) ((if0 _ _).trans (feq hc155).1) rfl ?_
    refine Run.x_aload (q := 160) X34 hx (hb hby at_158) rfl rfl rfl ?_
    refine Run.x_goto (q := 164) X34 hx (hb hby at_160) (by decide) (by decide) ?_
    refine Run.callV X34 hx hH e34 (y := (⟨"com/example/framewheel/framewheel/core/PhaseQueue", "add", "(Lcom/example/framewheel/framewheel/core/FrameCallback;JJLjava/lang/Runnable;)V"⟩ : MethodName)) (z := (⟨"com/example/framewheel/framewheel/core/PhaseQueue", "add", "(Lcom/example/framewheel/framewheel/core/FrameCallback;JJLjava/lang/Runnable;)V"⟩ : MethodName)) hown (wm90 hw) (wm91 hw) (notFace_of_selects (args := #[]) (mvT hZ (wm93 hw))) (wm93 hw) (wm92 hw) (wm11 hw) (wm94 hw) (by decide) (a := b10) E_b10 (argsL := [(.ref b4), (.long p3), (.long (1 : Int64)), (.ref b8)]) (rest := []) (c_adw l Z a0 hw b10 b4 p3 (1 : Int64) b8 h33 n0 Z33 (own_PD b2 b4 b6 z1 z2 z3 1) (own_PD b2 b4 b6 z1 z2 z3 0) lam cK k 1 E_b4 hQ (by decide) (Or.inr (Or.inl ⟨rfl, hz2.resolve_left hc155⟩))) pd_14 rfl (by rw [hml]; rfl) (W := 0) rfl (by decide) (by decide) (by decide) (by decide) (hb hby at_164) rfl ?_
    intro T36 v36 L36 X36 q36
    obtain ⟨rfl, M36, ⟨wk36, K36⟩, hQ36⟩ := q36
    have N36 := Fr.app N34 M36
    show Run p e below s _ _ _ (T36.setTop (mkF m 167 #[.val (.int p1), .val (.long p2), .second, .val (.long p3), .second, .val (.long p4), .second, .val (.long p5), .second, .val (.int z1), .val (.int z2), .val (.int z3), .val (.long bf), .second, .val (.ref b2), .val (.ref b4), .val (.ref b6), .val (.ref b8), .val (.ref b10), .val (.int 1), .unset, .unset] []))
    have Z36 : n0 ≤ T36.heap.size := Nat.le_trans Z33 K36.1
    replace E_b2 := E_b2.keep K36
    replace E_b4 := E_b4.keep K36
    replace E_b6 := E_b6.keep K36
    replace E_b10 := E_b10.keep K36
    exact J167 T36 _ _ (k + 1) (X36.more (by decide) (by decide)) rfl N36 Z36 E_b2 E_b4 E_b6 E_b10 hQ36 (by have := own_z1 hz2 hc155; omega)
  refine Run.x_aload (q := 109) X12 hx (hb hby at_107) rfl rfl rfl ?_
  refine Run.x_aload (q := 111) X12 hx (hb hby at_109) rfl rfl rfl ?_
  refine Run.x_lloadN (q := 112) X12 hx (hb hby at_111) rfl rfl ?_
  refine Run.x_lconst (q := 113) X12 hx (hb hby at_112) (z := (0 : Int64)) rfl rfl ?_
  refine Run.x_iload (q := 115) X12 hx (hb hby at_113) rfl rfl ?_
  by_cases hc115 : z1 = (0 : Int32)
  ·skip
   refine Run.x_ifYes (q := 123) X12 hx (hb hby at_115) ((if0 _ _).trans (teq hc115).1) (by decide) (by decide) ?_
   refine Run.x_null (q := 124) X12 hx (hb hby at_123)  rfl ?_
   replace E_b2 := (E_b2.ext E10).keep K11
   refine Run.callV X12 hx hH e12 (y := (⟨"com/example/framewheel/framewheel/core/PhaseQueue", "add", "(Lcom/example/framewheel/framewheel/core/FrameCallback;JJLjava/lang/Runnable;)V"⟩ : MethodName)) (z := (⟨"com/example/framewheel/framewheel/core/PhaseQueue", "add", "(Lcom/example/framewheel/framewheel/core/FrameCallback;JJLjava/lang/Runnable;)V"⟩ : MethodName)) hown (wm90 hw) (wm91 hw) (notFace_of_selects (args := #[]) (mvT hZ (wm93 hw))) (wm93 hw) (wm92 hw) (wm11 hw) (wm94 hw) (by decide) (a := b10) E_b10 (argsL := [(.ref b2), (.long p2), (.long (0 : Int64)), .null]) (rest := []) (c_adn l Z a0 hw b10 b2 p2 (0 : Int64) T11.heap n0 Z11 (own_PD b2 b4 b6 z1 z2 z3 1) (own_PD b2 b4 b6 z1 z2 z3 0) lam cK 0 0 E_b2 hQ11 (by decide) (Or.inl ⟨rfl, hc115⟩)) pd_14 rfl (by rw [hml]; rfl) (W := 0) rfl (by decide) (by decide) (by decide) (by decide) (hb hby at_124) rfl ?_
   intro T37 v37 L37 X37 q37
   obtain ⟨rfl, M37, ⟨wk37, K37⟩, hQ37⟩ := q37
   have N37 := Fr.app N12 M37
   show Run p e below s _ _ _ (T37.setTop (mkF m 127 #[.val (.int p1), .val (.long p2), .second, .val (.long p3), .second, .val (.long p4), .second, .val (.long p5), .second, .val (.int z1), .val (.int z2), .val (.int z3), .val (.long bf), .second, .val (.ref b2), .val (.ref b4), .val (.ref b6), .val (.ref b8), .val (.ref b10), .val (.int 1), .unset, .unset] []))
   have Z37 : n0 ≤ T37.heap.size := Nat.le_trans Z11 K37.1
   replace E_b2 := E_b2.keep K37
   replace E_b4 := ((E_b4.ext E10).keep K11).keep K37
   replace E_b6 := ((E_b6.ext E10).keep K11).keep K37
   replace E_b10 := E_b10.keep K37
   exact J127 T37 _ _ 0 (X37.more (by decide) (by decide)) rfl N37 Z37 E_b2 E_b4 E_b6 E_b10 hQ37 (by have := own_z0 hc115; omega)
  ·skip
   refine Run.x_ifNo (q := 118) X12 hx (hb hby at_115) ((if0 _ _).trans (feq hc115).1) rfl ?_
   refine Run.x_aload (q := 120) X12 hx (hb hby at_118) rfl rfl rfl ?_
   refine Run.x_goto (q := 124) X12 hx (hb hby at_120) (by decide) (by decide) ?_
   replace E_b2 := (E_b2.ext E10).keep K11
   refine Run.callV X12 hx hH e12 (y := (⟨"com/example/framewheel/framewheel/core/PhaseQueue", "add", "(Lcom/example/framewheel/framewheel/core/FrameCallback;JJLjava/lang/Runnable;)V"⟩ : MethodName)) (z := (⟨"com/example/framewheel/framewheel/core/PhaseQueue", "add", "(Lcom/example/framewheel/framewheel/core/FrameCallback;JJLjava/lang/Runnable;)V"⟩ : MethodName)) hown (wm90 hw) (wm91 hw) (notFace_of_selects (args := #[]) (mvT hZ (wm93 hw))) (wm93 hw) (wm92 hw) (wm11 hw) (wm94 hw) (by decide) (a := b10) E_b10 (argsL := [(.ref b2), (.long p2), (.long (0 : Int64)), (.ref b8)]) (rest := []) (c_adw l Z a0 hw b10 b2 p2 (0 : Int64) b8 T11.heap n0 Z11 (own_PD b2 b4 b6 z1 z2 z3 1) (own_PD b2 b4 b6 z1 z2 z3 0) lam cK 0 0 E_b2 hQ11 (by decide) (Or.inl ⟨rfl, hz1.resolve_left hc115⟩)) pd_14 rfl (by rw [hml]; rfl) (W := 0) rfl (by decide) (by decide) (by decide) (by decide) (hb hby at_124) rfl ?_
   intro T38 v38 L38 X38 q38
   obtain ⟨rfl, M38, ⟨wk38, K38⟩, hQ38⟩ := q38
   have N38 := Fr.app N12 M38
   show Run p e below s _ _ _ (T38.setTop (mkF m 127 #[.val (.int p1), .val (.long p2), .second, .val (.long p3), .second, .val (.long p4), .second, .val (.long p5), .second, .val (.int z1), .val (.int z2), .val (.int z3), .val (.long bf), .second, .val (.ref b2), .val (.ref b4), .val (.ref b6), .val (.ref b8), .val (.ref b10), .val (.int 1), .unset, .unset] []))
   have Z38 : n0 ≤ T38.heap.size := Nat.le_trans Z11 K38.1
   replace E_b2 := E_b2.keep K38
   replace E_b4 := ((E_b4.ext E10).keep K11).keep K38
   replace E_b6 := ((E_b6.ext E10).keep K11).keep K38
   replace E_b10 := E_b10.keep K38
   exact J127 T38 _ _ (0 + 1) (X38.more (by decide) (by decide)) rfl N38 Z38 E_b2 E_b4 E_b6 E_b10 hQ38 (by have := own_z1 hz1 hc115; omega)
 refine Run.x_iloadN (q := 1) X0 hx (hb hby at_0) rfl rfl ?_
 refine Run.x_iconst (q := 2) X0 hx (hb hby at_1) (z := (1 : Int32)) rfl rfl ?_
 refine Run.x_iand (q := 3) X0 hx (hb hby at_2) rfl rfl ?_
 by_cases hc3 : (p1 &&& (1 : Int32)) = (0 : Int32)
 ·skip
  refine Run.x_ifYes (q := 10) X0 hx (hb hby at_3) ((if0 _ _).trans (teq hc3).1) (by decide) (by decide) ?_
  refine Run.x_iconst (q := 11) X0 hx (hb hby at_10) (z := (0 : Int32)) rfl rfl ?_
  refine Run.x_istore (q := 13) X0 hx #[.val (.int p1), .val (.long p2), .second, .val (.long p3), .second, .val (.long p4), .second, .val (.long p5), .second, .val (.int 0), .unset, .unset, .unset, .unset, .unset, .unset, .unset, .unset, .unset, .unset, .unset, .unset] (hb hby at_11) rfl rfl ?_
  refine Run.x_iloadN (q := 14) X0 hx (hb hby at_13) rfl rfl ?_
  refine Run.x_iconst (q := 15) X0 hx (hb hby at_14) (z := (2 : Int32)) rfl rfl ?_
  refine Run.x_iand (q := 16) X0 hx (hb hby at_15) rfl rfl ?_
  by_cases hc16 : (p1 &&& (2 : Int32)) = (0 : Int32)
  ·skip
   refine Run.x_ifYes (q := 23) X0 hx (hb hby at_16) ((if0 _ _).trans (teq hc16).1) (by decide) (by decide) ?_
   refine Run.x_iconst (q := 24) X0 hx (hb hby at_23) (z := (0 : Int32)) rfl rfl ?_
   refine Run.x_istore (q := 26) X0 hx #[.val (.int p1), .val (.long p2), .second, .val (.long p3), .second, .val (.long p4), .second, .val (.long p5), .second, .val (.int 0), .val (.int 0), .unset, .unset, .unset, .unset, .unset, .unset, .unset, .unset, .unset, .unset, .unset] (hb hby at_24) rfl rfl ?_
   refine Run.x_iloadN (q := 27) X0 hx (hb hby at_26) rfl rfl ?_
   refine Run.x_iconst (q := 28) X0 hx (hb hby at_27) (z := (4 : Int32)) rfl rfl ?_
   refine Run.x_iand (q := 29) X0 hx (hb hby at_28) rfl rfl ?_
   by_cases hc29 : (p1 &&& (4 : Int32)) = (0 : Int32)
   ·skip
    refine Run.x_ifYes (q := 36) X0 hx (hb hby at_29) ((if0 _ _).trans (teq hc29).1) (by decide) (by decide) ?_
    refine Run.x_iconst (q := 37) X0 hx (hb hby at_36) (z := (0 : Int32)) rfl rfl ?_
    refine Run.x_istore (q := 39) X0 hx #[.val (.int p1), .val (.long p2), .second, .val (.long p3), .second, .val (.long p4), .second, .val (.long p5), .second, .val (.int 0), .val (.int 0), .val (.int 0), .unset, .unset, .unset, .unset, .unset, .unset, .unset, .unset, .unset, .unset] (hb hby at_37) rfl rfl ?_
    exact J39 T0 h0 _ (0 : Int32) (0 : Int32) (0 : Int32) X0 e0 N0 Z0 O_lam (Or.inl rfl) (Or.inl rfl) (Or.inl rfl)
   ·skip
    refine Run.x_ifNo (q := 32) X0 hx (hb hby at_29) ((if0 _ _).trans (feq hc29).1) rfl ?_
    refine Run.x_iconst (q := 33) X0 hx (hb hby at_32) (z := (1 : Int32)) rfl rfl ?_
    refine Run.x_goto (q := 37) X0 hx (hb hby at_33) (by decide) (by decide) ?_
    refine Run.x_istore (q := 39) X0 hx #[.val (.int p1), .val (.long p2), .second, .val (.long p3), .second, .val (.long p4), .second, .val (.long p5), .second, .val (.int 0), .val (.int 0), .val (.int 1), .unset, .unset, .unset, .unset, .unset, .unset, .unset, .unset, .unset, .unset] (hb hby at_37) rfl rfl ?_
    exact J39 T0 h0 _ (0 : Int32) (0 : Int32) (1 : Int32) X0 e0 N0 Z0 O_lam (Or.inl rfl) (Or.inl rfl) (Or.inr rfl)
  ·skip
   refine Run.x_ifNo (q := 19) X0 hx (hb hby at_16) ((if0 _ _).trans (feq hc16).1) rfl ?_
   refine Run.x_iconst (q := 20) X0 hx (hb hby at_19) (z := (1 : Int32)) rfl rfl ?_
   refine Run.x_goto (q := 24) X0 hx (hb hby at_20) (by decide) (by decide) ?_
   refine Run.x_istore (q := 26) X0 hx #[.val (.int p1), .val (.long p2), .second, .val (.long p3), .second, .val (.long p4), .second, .val (.long p5), .second, .val (.int 0), .val (.int 1), .unset, .unset, .unset, .unset, .unset, .unset, .unset, .unset, .unset, .unset, .unset] (hb hby at_24) rfl rfl ?_
   refine Run.x_iloadN (q := 27) X0 hx (hb hby at_26) rfl rfl ?_
   refine Run.x_iconst (q := 28) X0 hx (hb hby at_27) (z := (4 : Int32)) rfl rfl ?_
   refine Run.x_iand (q := 29) X0 hx (hb hby at_28) rfl rfl ?_
   by_cases hc29 : (p1 &&& (4 : Int32)) = (0 : Int32)
   ·skip
    refine Run.x_ifYes (q := 36) X0 hx (hb hby at_29) ((if0 _ _).trans (teq hc29).1) (by decide) (by decide) ?_
    refine Run.x_iconst (q := 37) X0 hx (hb hby at_36) (z := (0 : Int32)) rfl rfl ?_
    refine Run.x_istore (q := 39) X0 hx #[.val (.int p1), .val (.long p2), .second, .val (.long p3), .second, .val (.long p4), .second, .val (.long p5), .second, .val (.int 0), .val (.int 1), .val (.int 0), .unset, .unset, .unset, .unset, .unset, .unset, .unset, .unset, .unset, .unset] (hb hby at_37) rfl rfl ?_
    exact J39 T0 h0 _ (0 : Int32) (1 : Int32) (0 : Int32) X0 e0 N0 Z0 O_lam (Or.inl rfl) (Or.inr rfl) (Or.inl rfl)
   ·skip
    refine Run.x_ifNo (q := 32) X0 hx (hb hby at_29) ((if0 _ _).trans (feq hc29).1) rfl ?_
    refine Run.x_iconst (q := 33) X0 hx (hb hby at_32) (z := (1 : Int32)) rfl rfl ?_
    refine Run.x_goto (q := 37) X0 hx (hb hby at_33) (by decide) (by decide) ?_
    refine Run.x_istore (q := 39) X0 hx #[.val (.int p1), .val (.long p2), .second, .val (.long p3), .second, .val (.long p4), .second, .val (.long p5), .second, .val (.int 0), .val (.int 1), .val (.int 1), .unset, .unset, .unset, .unset, .unset, .unset, .unset, .unset, .unset, .unset] (hb hby at_37) rfl rfl ?_
    exact J39 T0 h0 _ (0 : Int32) (1 : Int32) (1 : Int32) X0 e0 N0 Z0 O_lam (Or.inl rfl) (Or.inr rfl) (Or.inr rfl)
 ·skip
  refine Run.x_ifNo (q := 6) X0 hx (hb hby at_3) ((if0 _ _).trans (feq hc3).1) rfl ?_
  refine Run.x_iconst (q := 7) X0 hx (hb hby at_6) (z := (1 : Int32)) rfl rfl ?_
  refine Run.x_goto (q := 11) X0 hx (hb hby at_7) (by decide) (by decide) ?_
  refine Run.x_istore (q := 13) X0 hx #[.val (.int p1), .val (.long p2), .second, .val (.long p3), .second, .val (.long p4), .second, .val (.long p5), .second, .val (.int 1), .unset, .unset, .unset, .unset, .unset, .unset, .unset, .unset, .unset, .unset, .unset, .unset] (hb hby at_11) rfl rfl ?_
  refine Run.x_iloadN (q := 14) X0 hx (hb hby at_13) rfl rfl ?_
  refine Run.x_iconst (q := 15) X0 hx (hb hby at_14) (z := (2 : Int32)) rfl rfl ?_
  refine Run.x_iand (q := 16) X0 hx (hb hby at_15) rfl rfl ?_
  by_cases hc16 : (p1 &&& (2 : Int32)) = (0 : Int32)
  ·skip
   refine Run.x_ifYes (q := 23) X0 hx (hb hby at_16) ((if0 _ _).trans (teq hc16).1) (by decide) (by decide) ?_
   refine Run.x_iconst (q := 24) X0 hx (hb hby at_23) (z := (0 : Int32)) rfl rfl ?_
   refine Run.x_istore (q := 26) X0 hx #[.val (.int p1), .val (.long p2), .second, .val (.long p3), .second, .val (.long p4), .second, .val (.long p5), .second, .val (.int 1), .val (.int 0), .unset, .unset, .unset, .unset, .unset, .unset, .unset, .unset, .unset, .unset, .unset] (hb hby at_24) rfl rfl ?_
   refine Run.x_iloadN (q := 27) X0 hx (hb hby at_26) rfl rfl ?_
   refine Run.x_iconst (q := 28) X0 hx (hb hby at_27) (z := (4 : Int32)) rfl rfl ?_
   refine Run.x_iand (q := 29) X0 hx (hb hby at_28) rfl rfl ?_
   by_cases hc29 : (p1 &&& (4 : Int32)) = (0 : Int32)
   ·skip
    refine Run.x_ifYes (q := 36) X0 hx (hb hby at_29) ((if0 _ _).trans (teq hc29).1) (by decide) (by decide) ?_
    refine Run.x_iconst (q := 37) X0 hx (hb hby at_36) (z := (0 : Int32)) rfl rfl ?_
    refine Run.x_istore (q := 39) X0 hx #[.val (.int p1), .val (.long p2), .second, .val (.long p3), .second, .val (.long p4), .second, .val (.long p5), .second, .val (.int 1), .val (.int 0), .val (.int 0), .unset, .unset, .unset, .unset, .unset, .unset, .unset, .unset, .unset, .unset] (hb hby at_37) rfl rfl ?_
    exact J39 T0 h0 _ (1 : Int32) (0 : Int32) (0 : Int32) X0 e0 N0 Z0 O_lam (Or.inr rfl) (Or.inl rfl) (Or.inl rfl)
   ·skip
    refine Run.x_ifNo (q := 32) X0 hx (hb hby at_29) ((if0 _ _).trans (feq hc29).1) rfl ?_
    refine Run.x_iconst (q := 33) X0 hx (hb hby at_32) (z := (1 : Int32)) rfl rfl ?_
    refine Run.x_goto (q := 37) X0 hx (hb hby at_33) (by decide) (by decide) ?_
    refine Run.x_istore (q := 39) X0 hx #[.val (.int p1), .val (.long p2), .second, .val (.long p3), .second, .val (.long p4), .second, .val (.long p5), .second, .val (.int 1), .val (.int 0), .val (.int 1), .unset, .unset, .unset, .unset, .unset, .unset, .unset, .unset, .unset, .unset] (hb hby at_37) rfl rfl ?_
    exact J39 T0 h0 _ (1 : Int32) (0 : Int32) (1 : Int32) X0 e0 N0 Z0 O_lam (Or.inr rfl) (Or.inl rfl) (Or.inr rfl)
  ·skip
   refine Run.x_ifNo (q := 19) X0 hx (hb hby at_16) ((if0 _ _).trans (feq hc16).1) rfl ?_
   refine Run.x_iconst (q := 20) X0 hx (hb hby at_19) (z := (1 : Int32)) rfl rfl ?_
   refine Run.x_goto (q := 24) X0 hx (hb hby at_20) (by decide) (by decide) ?_
   refine Run.x_istore (q := 26) X0 hx #[.val (.int p1), .val (.long p2), .second, .val (.long p3), .second, .val (.long p4), .second, .val (.long p5), .second, .val (.int 1), .val (.int 1), .unset, .unset, .unset, .unset, .unset, .unset, .unset, .unset, .unset, .unset, .unset] (hb hby at_24) rfl rfl ?_
   refine Run.x_iloadN (q := 27) X0 hx (hb hby at_26) rfl rfl ?_
   refine Run.x_iconst (q := 28) X0 hx (hb hby at_27) (z := (4 : Int32)) rfl rfl ?_
   refine Run.x_iand (q := 29) X0 hx (hb hby at_28) rfl rfl ?_
   by_cases hc29 : (p1 &&& (4 : Int32)) = (0 : Int32)
   ·skip
    refine Run.x_ifYes (q := 36) X0 hx (hb hby at_29) ((if0 _ _).trans (teq hc29).1) (by decide) (by decide) ?_
    refine Run.x_iconst (q := 37) X0 hx (hb hby at_36) (z := (0 : Int32)) rfl rfl ?_
    refine Run.x_istore (q := 39) X0 hx #[.val (.int p1), .val (.long p2), .second, .val (.long p3), .second, .val (.long p4), .second, .val (.long p5), .second, .val (.int 1), .val (.int 1), .val (.int 0), .unset, .unset, .unset, .unset, .unset, .unset, .unset, .unset, .unset, .unset] (hb hby at_37) rfl rfl ?_
    exact J39 T0 h0 _ (1 : Int32) (1 : Int32) (0 : Int32) X0 e0 N0 Z0 O_lam (Or.inr rfl) (Or.inr rfl) (Or.inl rfl)
   ·skip
    refine Run.x_ifNo (q := 32) X0 hx (hb hby at_29) ((if0 _ _).trans (feq hc29).1) rfl ?_
    refine Run.x_iconst (q := 33) X0 hx (hb hby at_32) (z := (1 : Int32)) rfl rfl ?_
    refine Run.x_goto (q := 37) X0 hx (hb hby at_33) (by decide) (by decide) ?_
    refine Run.x_istore (q := 39) X0 hx #[.val (.int p1), .val (.long p2), .second, .val (.long p3), .second, .val (.long p4), .second, .val (.long p5), .second, .val (.int 1), .val (.int 1), .val (.int 1), .unset, .unset, .unset, .unset, .unset, .unset, .unset, .unset, .unset, .unset] (hb hby at_37) rfl rfl ?_
    exact J39 T0 h0 _ (1 : Int32) (1 : Int32) (1 : Int32) X0 e0 N0 Z0 O_lam (Or.inr rfl) (Or.inr rfl) (Or.inr rfl)
theorem wm28 {a0 : Array Value} {Z : State} (hw : ∀ d ∈ tables_1, d.before a0 Z = true) : (Jvm.Cond.lambdaSite ({ cls := "com/example/framewheel/framewheel/core/PhaseQueue", name := "<init>", desc := "()V" } : Jvm.MethodName) (34 : Nat) (24 : Nat) (Jvm.Lambda.Shape.mk "java/util/Comparator" "compare" (Jvm.ClassFile.MethodDescriptor.mk ([(Jvm.ClassFile.FieldType.object "java/lang/Object"), (Jvm.ClassFile.FieldType.object "java/lang/Object")] : List Jvm.ClassFile.FieldType) (Option.some Jvm.ClassFile.FieldType.int)) ([] : List Jvm.ClassFile.FieldType) (6 : Nat) "com/example/framewheel/framewheel/core/PhaseQueue" "compareByDueTime" (Jvm.ClassFile.MethodDescriptor.mk ([(Jvm.ClassFile.FieldType.object "com/example/framewheel/framewheel/core/PhaseQueue$Delayed"), (Jvm.ClassFile.FieldType.object "com/example/framewheel/framewheel/core/PhaseQueue$Delayed")] : List Jvm.ClassFile.FieldType) (Option.some Jvm.ClassFile.FieldType.int)) false (Jvm.ClassFile.MethodDescriptor.mk ([(Jvm.ClassFile.FieldType.object "com/example/framewheel/framewheel/core/PhaseQueue$Delayed"), (Jvm.ClassFile.FieldType.object "com/example/framewheel/framewheel/core/PhaseQueue$Delayed")] : List Jvm.ClassFile.FieldType) (Option.some Jvm.ClassFile.FieldType.int)))).before a0 Z = true := hw _ (List.mem_of_getElem? (i := 28) rfl)
set_option maxRecDepth 65536 in
set_option maxHeartbeats 40000000 in
theorem comes_1 {Post : Tables → Env → Array Value → State → Outcome → State → Prop} (hpost : ∀ tb e args s v u, (limb_1_1.after args s (.returned v) u = true ∧ limb_1_2.after args s (.returned v) u = true ∧ True) → FrameEnd s (.returned v) u (Jvm.fieldLocs frame_1_writes args s ++ Jvm.arrayLocs frame_1_arrays args s ++ Jvm.staticLocs frame_1_statics s) 40 320 → Post tb e args s (.returned v) u) :
    ArmFor flags0 classFile x code maxLocals ret World_1 tables_1 room_1 Calls_1 rest_1 Pre_1 Post := by
  intro l hfl _ _ p e ha hc hk s m args below hf hA hF happ hP
  obtain ⟨hcalls, hrest, hpre⟩ := hP
  obtain ⟨-, -, -, hnamed, -, -, -, hat⟩ := (Spec.applies_iff hf).mp happ
  obtain ⟨hg, hn⟩ := and_e (Cond.before_iff.mp (show (Jvm.Cond.and given_1 narrow_1).before args s = true from hpre))
  obtain ⟨g1, g2⟩ := and_e hg
  obtain ⟨g3, g4⟩ := and_e g2
  obtain ⟨g5, g6⟩ := and_e g4
  obtain ⟨g7, g8⟩ := and_e g6
  obtain ⟨g9, g10⟩ := and_e g8
  obtain ⟨w0, w1, w2, w3, w4, rfl⟩ : ∃ w0 w1 w2 w3 w4 : Value, args = #[w0, w1, w2, w3, w4] := by
    have hs : args.size = 5 := by simpa [Cond.value, given_1] using g1
    obtain ⟨L⟩ := args
    match L, hs with
    | [w0, w1, w2, w3, w4], _ => exact ⟨w0, w1, w2, w3, w4, rfl⟩
  have hw := fun d (hd : d ∈ tables_1) => atoms_spec (ws := Jvm.Cond.code x code maxLocals ret :: tables_1) hat d (List.mem_cons_of_mem _ hd)
  have hfit : Fit s := fun {y c} hc i hi => by
    obtain ⟨ha, rfl⟩ := Array.getElem?_eq_some_iff.mp hc
    have q := List.all_eq_true.mp ((Array.all_eq_true_iff_forall_mem.mp hF) _ (Array.getElem_mem ha)) i (List.mem_range.mpr hi)
    simpa [Array.getElem?_eq_getElem hi] using q
  obtain ⟨i0, ei0⟩ := is_v g3
  obtain rfl : w0 = (.int i0) := Option.some.inj ei0
  obtain ⟨i1, ei1⟩ := isL_v g5
  obtain rfl : w1 = (.long i1) := Option.some.inj ei1
  obtain ⟨i2, ei2⟩ := isL_v g7
  obtain rfl : w2 = (.long i2) := Option.some.inj ei2
  obtain ⟨i3, ei3⟩ := isL_v g9
  obtain rfl : w3 = (.long i3) := Option.some.inj ei3
  obtain ⟨i4, ei4⟩ := isL_v g10
  obtain rfl : w4 = (.long i4) := Option.some.inj ei4
  obtain ⟨lam, cK, hFn⟩ := own_FnZ (wm28 hw)
  obtain ⟨n, o, h1, h2, h3, _, L, rfl, ⟨rfl, N⟩, hq⟩ := c_law l s _ hw i0 i1 i2 i3 i4 s.heap s.heap.size (Nat.le_refl _) lam cK hFn tables_1 p e ha hc hk s m _ below hf ((Spec.applies_iff_loose hf).mp happ).1 ⟨rfl, State.WarmedH.refl s, rfl⟩ trivial
  refine ⟨n, _, h1, h2, h3, hpost _ _ _ _ _ _ ⟨Cond.after_iff.mpr rfl, Cond.after_iff.mpr (eq_i res_at (Term.int_eval (1)) rfl), trivial⟩ ⟨hq.1, hq.2.1, (hq.2.2.sift fun y hy => Or.inr (N y hy)).mono (by decide) (by decide)⟩⟩
theorem main_1_1 : Claimed_1_1 := comes_1 fun _ _ _ _ _ _ h hF => ⟨h.1, Jvm.RoadKit.wide hF⟩
theorem main_1_2 : Claimed_1_2 := comes_1 fun _ _ _ _ _ _ h hF => ⟨h.2.1, Jvm.RoadKit.wide hF⟩
end Jvm.Pilot.@@N@@
namespace Jvm.Pilot.@@N@@
open Jvm Jvm.ClassFile Sem Op Lib Jvm.Free Jvm.Stand Jvm.Pilot.@@N@@.Jvm.D
/-! MADE BY PROGRAM (witnessworld.py) out of the Statement's table words and the real class files: 34 classes; the members and pool entries that the words name. The judged class is class 3, her method 1. -/
namespace start1
open Jvm.ClassFile
def u (s : String) : CpInfo := .utf8 (stringToUtf16 s)
/-- a pool by its gaps: so many unusable entries, then the entry; so many at the end -/
def gap : Nat → List CpInfo → List CpInfo
  | 0, r => r
  | n + 1, r => .unusable :: gap n r
def poolList (es : List (Nat × CpInfo)) (last : Nat) : List CpInfo := es.foldr (fun e r => gap e.1 (e.2 :: r)) (gap last [])
def pool (es : List (Nat × CpInfo)) (last : Nat) : Array CpInfo := ⟨poolList es last⟩
def fileOf (pool : Array CpInfo) (this : Nat) (attrs : Array Attribute := #[]) (ms : Array MethodInfo := #[]) (fl : Nat := 33) (sup : Nat := 0) (ifs : Array Nat := #[]) (fds : Array FieldInfo := #[]) : ClassFile where
  minorVersion := 0
  majorVersion := 65
  constantPool := pool
  accessFlags := fl
  thisClass := this
  superClass := sup
  interfaces := ifs
  fields := fds
  methods := ms
  attributes := attrs
def plain (name : String) (sup : Option ClassId) : Class where
  name := name
  kind := .ordinary
  loader := none
  accessFlags := 33
  super := sup
  interfaces := #[]
  cf := none
  fields := #[]
  methods := #[]
  instanceTypes := #[]
  staticTypes := #[]
  resolved := #[]
  callSites := []
  init := .initialized
  statics := none
  mirror := none

def pool0 : Array CpInfo := pool [(5, u "<init>"), (0, u "()V"), (1, .class_ 10), (1, u "java/lang/Object")] 113

def k0c0 : Code := { maxStack := 0, maxLocals := 1, code := object_method_1_code, exceptionTable := #[], attributes := #[] }
def k0m0 : Method := { name := "<init>", desc := "()V", sig := { parameters := [], returnType := none }, accessFlags := 1, code := some k0c0 }
/-- java/lang/Object -/
def k0 : Class := { plain "java/lang/Object" none with
  accessFlags := 33
  interfaces := #[]
  cf := some (fileOf pool0 8 #[] #[{ accessFlags := 1, nameIndex := 5, descriptorIndex := 6, attributes := #[] }] 33 0 #[] #[])
  fields := #[]
  methods := #[k0m0]
  instanceTypes := #[]
  staticTypes := #[]
  resolved := Array.replicate 124 none
  statics := none }

def pool1 : Array CpInfo := pool [(1, .class_ 2), (0, u "java/lang/Runnable"), (0, .class_ 4), (0, u "java/lang/Object")] 6

/-- java/lang/Runnable -/
def k1 : Class := { plain "java/lang/Runnable" (some 0) with
  accessFlags := 1537
  interfaces := #[]
  cf := some (fileOf pool1 1 #[] #[] 1537 3 #[] #[])
  fields := #[]
  methods := #[]
  instanceTypes := #[]
  staticTypes := #[]
  resolved := Array.replicate 11 none
  statics := none }

def pool2 : Array CpInfo := pool [(1, .class_ 2), (0, u "com/example/framewheel/framewheel/core/FrameCallback"), (0, .class_ 4), (0, u "java/lang/Object")] 6

/-- com/example/framewheel/framewheel/core/FrameCallback -/
def k2 : Class := { plain "com/example/framewheel/framewheel/core/FrameCallback" (some 0) with
  accessFlags := 1537
  interfaces := #[]
  cf := some (fileOf pool2 1 #[] #[] 1537 3 #[] #[])
  fields := #[]
  methods := #[]
  instanceTypes := #[]
  staticTypes := #[]
  resolved := Array.replicate 11 none
  statics := none }

def pool3 : Array CpInfo := pool [(1, .methodref 2 3), (0, .class_ 4), (0, .nameAndType 5 6), (0, u "java/lang/Object"), (0, u "<init>"), (0, u "()V"), (0, .class_ 8), (0, u "com/example/framewheel/framewheel/core/PhaseQueueHasDelayedPinLaw"), (0, .methodref 7 3), (0, .class_ 11), (0, u "com/example/framewheel/framewheel/core/PhaseQueue"), (0, .methodref 10 3), (0, .methodref 10 14), (0, .nameAndType 15 16), (0, u "hasDelayed"), (0, u "()Z"), (0, .methodref 10 18), (0, .nameAndType 19 20), (0, u "add"), (0, u "(Lcom/example/framewheel/framewheel/core/FrameCallback;JJLjava/lang/Runnable;)V"), (0, .long 2), (1, .methodref 10 24), (0, .nameAndType 25 26), (0, u "takeFirstDue"), (0, u "(JJ)Lcom/example/framewheel/framewheel/core/FrameCallback;"), (0, .methodref 7 28), (0, .nameAndType 29 30), (0, u "takenDelayed"), (0, u "(Lcom/example/framewheel/framewheel/core/FrameCallback;Ljava/lang/Object;Ljava/lang/Object;Ljava/lang/Object;ZZZ)I"), (0, .class_ 32), (0, u "java/lang/Runnable"), (0, .class_ 34), (0, u "com/example/framewheel/framewheel/core/FrameCallback"), (5, u "law"), (0, u "(IJJJJ)Z")] 3

def k3c0 : Code := { maxStack := 1, maxLocals := 1, code := method_1_code, exceptionTable := #[], attributes := #[] }
def k3m0 : Method := { name := "<init>", desc := "()V", sig := { parameters := [], returnType := none }, accessFlags := 1, code := some k3c0 }
def k3c1 : Code := { maxStack := 8, maxLocals := 22, code := code, exceptionTable := #[], attributes := #[] }
def k3m1 : Method := { name := "law", desc := "(IJJJJ)Z", sig := { parameters := [.int, .long, .long, .long, .long], returnType := some .boolean }, accessFlags := 9, code := some k3c1 }
def k3c2 : Code := { maxStack := 2, maxLocals := 7, code := method_5_code, exceptionTable := #[], attributes := #[] }
def k3m2 : Method := { name := "takenDelayed", desc := "(Lcom/example/framewheel/framewheel/core/FrameCallback;Ljava/lang/Object;Ljava/lang/Object;Ljava/lang/Object;ZZZ)I", sig := { parameters := [(.object "com/example/framewheel/framewheel/core/FrameCallback"), (.object "java/lang/Object"), (.object "java/lang/Object"), (.object "java/lang/Object"), .boolean, .boolean, .boolean], returnType := some .int }, accessFlags := 10, code := some k3c2 }
/-- com/example/framewheel/framewheel/core/PhaseQueueHasDelayedPinLaw -/
def k3 : Class := { plain "com/example/framewheel/framewheel/core/PhaseQueueHasDelayedPinLaw" (some 0) with
  accessFlags := 49
  interfaces := #[1, 2]
  cf := some (fileOf pool3 7 #[] #[{ accessFlags := 1, nameIndex := 5, descriptorIndex := 6, attributes := #[] }, { accessFlags := 9, nameIndex := 40, descriptorIndex := 41, attributes := #[] }, { accessFlags := 10, nameIndex := 29, descriptorIndex := 30, attributes := #[] }] 49 2 #[31, 33] #[])
  fields := #[]
  methods := #[k3m0, k3m1, k3m2]
  instanceTypes := #[]
  staticTypes := #[]
  resolved := Array.replicate 45 none
  statics := none }

def pool4 : Array CpInfo := pool [(1, .methodref 2 3), (0, .class_ 4), (0, .nameAndType 5 6), (0, u "java/lang/Object"), (0, u "<init>"), (0, u "()V"), (0, .class_ 8), (0, u "com/example/framewheel/framewheel/core/PhaseQueue"), (0, .class_ 10), (0, u "com/example/framewheel/framewheel/core/FrameCallback"), (0, .fieldref 7 12), (0, .nameAndType 13 14), (0, u "works"), (0, u "[Lcom/example/framewheel/framewheel/core/FrameCallback;"), (0, .fieldref 7 16), (0, .nameAndType 17 18), (0, u "dueTimes"), (0, u "[J"), (0, .fieldref 7 20), (0, .nameAndType 21 18), (0, u "sequences"), (0, .class_ 23), (0, u "com/example/framewheel/framewheel/core/TimeOrderedQueue"), (0, .invokeDynamic 0 25), (0, .nameAndType 26 27), (0, u "compare"), (0, u "()Ljava/util/Comparator;"), (0, .methodref 22 29), (0, .nameAndType 5 30), (0, u "(Ljava/util/Comparator;)V"), (0, .fieldref 7 32), (0, .nameAndType 33 34), (0, u "delayed"), (0, u "Lcom/example/framewheel/framewheel/core/TimeOrderedQueue;"), (0, .methodref 36 37), (0, .class_ 38), (0, .nameAndType 39 40), (0, u "com/example/framewheel/framewheel/core/PhaseQueue$Delayed"), (0, u "dueNanos"), (0, u "()J"), (0, .methodref 42 43), (0, .class_ 44), (0, .nameAndType 26 45), (0, u "java/lang/Long"), (0, u "(JJ)I"), (0, .methodref 36 47), (0, .nameAndType 48 40), (0, u "sequence"), (0, .methodref 36 50), (0, .nameAndType 5 51), (0, u "(Lcom/example/framewheel/framewheel/core/FrameCallback;JJLjava/lang/Runnable;)V"), (0, .methodref 22 53), (0, .nameAndType 54 55), (0, u "add"), (0, u "(Ljava/lang/Object;)V"), (0, .methodref 22 57), (0, .nameAndType 58 59), (0, u "peek"), (0, u "()Ljava/lang/Object;"), (0, .fieldref 7 61), (0, .nameAndType 62 63), (0, u "firstDelayed"), (0, u "Lcom/example/framewheel/framewheel/core/PhaseQueue$Delayed;"), (0, .fieldref 7 65), (0, .nameAndType 66 67), (0, u "size"), (0, u "I"), (3, .methodref 7 72), (0, .nameAndType 73 74), (0, u "slot"), (0, u "(I)I"), (0, .fieldref 7 76), (0, .nameAndType 77 67), (0, u "head"), (0, .methodref 7 79), (0, .nameAndType 80 81), (0, u "ringFirstOrdersBefore"), (0, u "(Lcom/example/framewheel/framewheel/core/PhaseQueue$Delayed;)Z"), (0, .methodref 36 83), (0, .nameAndType 84 85), (0, u "work"), (0, u "()Lcom/example/framewheel/framewheel/core/FrameCallback;"), (0, .methodref 22 87), (0, .nameAndType 88 59), (0, u "poll"), (25, u "()Z"), (22, u "INITIAL_CAPACITY"), (6, u "compareByDueTime"), (0, u "(Lcom/example/framewheel/framewheel/core/PhaseQueue$Delayed;Lcom/example/framewheel/framewheel/core/PhaseQueue$Delayed;)I"), (1, u "hasDelayed"), (2, u "takeFirstDue"), (0, u "(JJ)Lcom/example/framewheel/framewheel/core/FrameCallback;"), (7, .methodType 160), (0, u "(Ljava/lang/Object;Ljava/lang/Object;)I"), (0, .methodHandle 6 162), (0, .methodref 7 163), (0, .nameAndType 144 145), (0, .methodType 145), (0, .methodHandle 6 166), (0, .methodref 167 168), (0, .class_ 169), (0, .nameAndType 170 171), (0, u "java/lang/invoke/LambdaMetafactory"), (0, u "metafactory"), (0, u "(Ljava/lang/invoke/MethodHandles$Lookup;Ljava/lang/String;Ljava/lang/invoke/MethodType;Ljava/lang/invoke/MethodType;Ljava/lang/invoke/MethodHandle;Ljava/lang/invoke/MethodType;)Ljava/lang/invoke/CallSite;")] 7

def k4c0 : Code := { maxStack := 4, maxLocals := 1, code := prog_9_method_1_code, exceptionTable := #[], attributes := #[] }
def k4m0 : Method := { name := "<init>", desc := "()V", sig := { parameters := [], returnType := none }, accessFlags := 0, code := some k4c0 }
def k4c1 : Code := { maxStack := 4, maxLocals := 2, code := prog_9_method_2_code, exceptionTable := #[], attributes := #[] }
def k4m1 : Method := { name := "compareByDueTime", desc := "(Lcom/example/framewheel/framewheel/core/PhaseQueue$Delayed;Lcom/example/framewheel/framewheel/core/PhaseQueue$Delayed;)I", sig := { parameters := [(.object "com/example/framewheel/framewheel/core/PhaseQueue$Delayed"), (.object "com/example/framewheel/framewheel/core/PhaseQueue$Delayed")], returnType := some .int }, accessFlags := 10, code := some k4c1 }
def k4c2 : Code := { maxStack := 9, maxLocals := 8, code := prog_9_method_3_code, exceptionTable := #[], attributes := #[] }
def k4m2 : Method := { name := "add", desc := "(Lcom/example/framewheel/framewheel/core/FrameCallback;JJLjava/lang/Runnable;)V", sig := { parameters := [(.object "com/example/framewheel/framewheel/core/FrameCallback"), .long, .long, (.object "java/lang/Runnable")], returnType := none }, accessFlags := 0, code := some k4c2 }
def k4c3 : Code := { maxStack := 1, maxLocals := 1, code := prog_9_method_4_code, exceptionTable := #[], attributes := #[] }
def k4m3 : Method := { name := "hasDelayed", desc := "()Z", sig := { parameters := [], returnType := some .boolean }, accessFlags := 0, code := some k4c3 }
def k4c4 : Code := { maxStack := 4, maxLocals := 6, code := prog_9_method_6_code, exceptionTable := #[], attributes := #[] }
def k4m4 : Method := { name := "takeFirstDue", desc := "(JJ)Lcom/example/framewheel/framewheel/core/FrameCallback;", sig := { parameters := [.long, .long], returnType := some (.object "com/example/framewheel/framewheel/core/FrameCallback") }, accessFlags := 0, code := some k4c4 }
def k4c5 : Code := { maxStack := 4, maxLocals := 4, code := prog_9_method_8_code, exceptionTable := #[], attributes := #[] }
def k4m5 : Method := { name := "ringFirstOrdersBefore", desc := "(Lcom/example/framewheel/framewheel/core/PhaseQueue$Delayed;)Z", sig := { parameters := [(.object "com/example/framewheel/framewheel/core/PhaseQueue$Delayed")], returnType := some .boolean }, accessFlags := 2, code := some k4c5 }
def k4c6 : Code := { maxStack := 3, maxLocals := 2, code := prog_9_method_9_code, exceptionTable := #[], attributes := #[] }
def k4m6 : Method := { name := "slot", desc := "(I)I", sig := { parameters := [.int], returnType := some .int }, accessFlags := 2, code := some k4c6 }
/-- com/example/framewheel/framewheel/core/PhaseQueue -/
def k4 : Class := { plain "com/example/framewheel/framewheel/core/PhaseQueue" (some 0) with
  accessFlags := 32
  interfaces := #[]
  cf := some (fileOf pool4 7 #[.nestMembers #[36], .bootstrapMethods #[⟨165, #[159, 161, 164]⟩]] #[{ accessFlags := 0, nameIndex := 5, descriptorIndex := 6, attributes := #[] }, { accessFlags := 10, nameIndex := 144, descriptorIndex := 145, attributes := #[] }, { accessFlags := 0, nameIndex := 54, descriptorIndex := 51, attributes := #[] }, { accessFlags := 0, nameIndex := 147, descriptorIndex := 114, attributes := #[] }, { accessFlags := 0, nameIndex := 150, descriptorIndex := 151, attributes := #[] }, { accessFlags := 2, nameIndex := 80, descriptorIndex := 81, attributes := #[] }, { accessFlags := 2, nameIndex := 73, descriptorIndex := 74, attributes := #[] }] 32 2 #[] #[{ accessFlags := 26, nameIndex := 137, descriptorIndex := 67, attributes := #[] }, { accessFlags := 2, nameIndex := 13, descriptorIndex := 14, attributes := #[] }, { accessFlags := 2, nameIndex := 17, descriptorIndex := 18, attributes := #[] }, { accessFlags := 2, nameIndex := 21, descriptorIndex := 18, attributes := #[] }, { accessFlags := 2, nameIndex := 77, descriptorIndex := 67, attributes := #[] }, { accessFlags := 2, nameIndex := 66, descriptorIndex := 67, attributes := #[] }, { accessFlags := 18, nameIndex := 33, descriptorIndex := 34, attributes := #[] }, { accessFlags := 2, nameIndex := 62, descriptorIndex := 63, attributes := #[] }])
  fields := #[{ name := "INITIAL_CAPACITY", type := .int, accessFlags := 26, slot := 0, constantValue := 0 }, { name := "works", type := (.array (.object "com/example/framewheel/framewheel/core/FrameCallback")), accessFlags := 2, slot := 0, constantValue := 0 }, { name := "dueTimes", type := (.array .long), accessFlags := 2, slot := 1, constantValue := 0 }, { name := "sequences", type := (.array .long), accessFlags := 2, slot := 2, constantValue := 0 }, { name := "head", type := .int, accessFlags := 2, slot := 3, constantValue := 0 }, { name := "size", type := .int, accessFlags := 2, slot := 4, constantValue := 0 }, { name := "delayed", type := (.object "com/example/framewheel/framewheel/core/TimeOrderedQueue"), accessFlags := 18, slot := 5, constantValue := 0 }, { name := "firstDelayed", type := (.object "com/example/framewheel/framewheel/core/PhaseQueue$Delayed"), accessFlags := 2, slot := 6, constantValue := 0 }]
  methods := #[k4m0, k4m1, k4m2, k4m3, k4m4, k4m5, k4m6]
  instanceTypes := #[(.array (.object "com/example/framewheel/framewheel/core/FrameCallback")), (.array .long), (.array .long), .int, .int, (.object "com/example/framewheel/framewheel/core/TimeOrderedQueue"), (.object "com/example/framewheel/framewheel/core/PhaseQueue$Delayed")]
  staticTypes := #[.int]
  resolved := ((Array.replicate 179 none).set! 36 (some (.cls 19))).set! 49 (some (.method ⟨19, 0⟩))
  callSites := [(0, 34, .constant 0)]
  statics := none }

def pool5 : Array CpInfo := pool [(8, .class_ 10), (1, u "java/lang/Iterable"), (24, .class_ 36), (0, u "java/lang/Object")] 25

/-- java/lang/Iterable -/
def k5 : Class := { plain "java/lang/Iterable" (some 0) with
  accessFlags := 1537
  interfaces := #[]
  cf := some (fileOf pool5 8 #[] #[] 1537 35 #[] #[])
  fields := #[]
  methods := #[]
  instanceTypes := #[]
  staticTypes := #[]
  resolved := Array.replicate 62 none
  statics := none }

def pool6 : Array CpInfo := pool [(1, .methodref 2 3), (0, .class_ 4), (0, .nameAndType 5 6), (0, u "java/lang/Object"), (0, u "<init>"), (0, u "()V"), (0, .class_ 8), (0, u "java/util/ArrayDeque"), (0, .methodref 7 3), (0, .fieldref 11 12), (0, .class_ 13), (0, .nameAndType 14 15), (0, u "com/example/framewheel/framewheel/core/TimeOrderedQueue"), (0, u "run"), (0, u "Ljava/util/ArrayDeque;"), (0, .fieldref 11 17), (0, .nameAndType 18 19), (0, u "order"), (0, u "Ljava/util/Comparator;"), (0, .class_ 21), (0, u "java/util/PriorityQueue"), (0, .methodref 20 23), (0, .nameAndType 5 24), (0, u "(Ljava/util/Comparator;)V"), (0, .fieldref 11 26), (0, .nameAndType 27 28), (0, u "heap"), (0, u "Ljava/util/PriorityQueue;"), (0, .methodref 11 30), (0, .nameAndType 31 32), (0, u "ordersBeforeLastOfRun"), (0, u "(Ljava/lang/Object;)Z"), (0, .methodref 7 34), (0, .nameAndType 35 36), (0, u "pollLast"), (0, u "()Ljava/lang/Object;"), (0, .methodref 20 38), (0, .nameAndType 39 32), (0, u "add"), (0, .methodref 7 41), (0, .nameAndType 42 43), (0, u "addLast"), (0, u "(Ljava/lang/Object;)V"), (0, .methodref 7 45), (0, .nameAndType 46 36), (0, u "peekLast"), (0, .interfaceMethodref 48 49), (0, .class_ 50), (0, .nameAndType 51 52), (0, u "java/util/Comparator"), (0, u "compare"), (0, u "(Ljava/lang/Object;Ljava/lang/Object;)I"), (0, .methodref 7 54), (0, .nameAndType 55 36), (0, u "peekFirst"), (0, .methodref 20 57), (0, .nameAndType 58 36), (0, u "peek"), (0, .methodref 11 57), (0, .methodref 7 61), (0, .nameAndType 62 36), (0, u "pollFirst"), (0, .methodref 20 64), (0, .nameAndType 65 36), (0, u "poll"), (4, .class_ 71), (0, u "com/example/framewheel/framewheel/core/TimeOrderedQueue$1"), (3, .class_ 76), (0, u "java/lang/Iterable")] 19

def k6c0 : Code := { maxStack := 4, maxLocals := 2, code := prog_15_method_1_code, exceptionTable := #[], attributes := #[] }
def k6m0 : Method := { name := "<init>", desc := "(Ljava/util/Comparator;)V", sig := { parameters := [(.object "java/util/Comparator")], returnType := none }, accessFlags := 0, code := some k6c0 }
def k6c1 : Code := { maxStack := 2, maxLocals := 3, code := prog_15_method_2_code, exceptionTable := #[], attributes := #[] }
def k6m1 : Method := { name := "add", desc := "(Ljava/lang/Object;)V", sig := { parameters := [(.object "java/lang/Object")], returnType := none }, accessFlags := 0, code := some k6c1 }
def k6c2 : Code := { maxStack := 3, maxLocals := 3, code := prog_15_method_3_code, exceptionTable := #[], attributes := #[] }
def k6m2 : Method := { name := "ordersBeforeLastOfRun", desc := "(Ljava/lang/Object;)Z", sig := { parameters := [(.object "java/lang/Object")], returnType := some .boolean }, accessFlags := 2, code := some k6c2 }
def k6c3 : Code := { maxStack := 3, maxLocals := 4, code := prog_15_method_4_code, exceptionTable := #[], attributes := #[] }
def k6m3 : Method := { name := "peek", desc := "()Ljava/lang/Object;", sig := { parameters := [], returnType := some (.object "java/lang/Object") }, accessFlags := 0, code := some k6c3 }
def k6c4 : Code := { maxStack := 2, maxLocals := 2, code := prog_15_method_5_code, exceptionTable := #[], attributes := #[] }
def k6m4 : Method := { name := "poll", desc := "()Ljava/lang/Object;", sig := { parameters := [], returnType := some (.object "java/lang/Object") }, accessFlags := 0, code := some k6c4 }
/-- com/example/framewheel/framewheel/core/TimeOrderedQueue -/
def k6 : Class := { plain "com/example/framewheel/framewheel/core/TimeOrderedQueue" (some 0) with
  accessFlags := 32
  interfaces := #[5]
  cf := some (fileOf pool6 11 #[.nestMembers #[70]] #[{ accessFlags := 0, nameIndex := 5, descriptorIndex := 24, attributes := #[] }, { accessFlags := 0, nameIndex := 39, descriptorIndex := 43, attributes := #[] }, { accessFlags := 2, nameIndex := 31, descriptorIndex := 32, attributes := #[] }, { accessFlags := 0, nameIndex := 58, descriptorIndex := 36, attributes := #[] }, { accessFlags := 0, nameIndex := 65, descriptorIndex := 36, attributes := #[] }] 32 2 #[75] #[{ accessFlags := 18, nameIndex := 18, descriptorIndex := 19, attributes := #[] }, { accessFlags := 18, nameIndex := 14, descriptorIndex := 15, attributes := #[] }, { accessFlags := 18, nameIndex := 27, descriptorIndex := 28, attributes := #[] }])
  fields := #[{ name := "order", type := (.object "java/util/Comparator"), accessFlags := 18, slot := 0, constantValue := 0 }, { name := "run", type := (.object "java/util/ArrayDeque"), accessFlags := 18, slot := 1, constantValue := 0 }, { name := "heap", type := (.object "java/util/PriorityQueue"), accessFlags := 18, slot := 2, constantValue := 0 }]
  methods := #[k6m0, k6m1, k6m2, k6m3, k6m4]
  instanceTypes := #[(.object "java/util/Comparator"), (.object "java/util/ArrayDeque"), (.object "java/util/PriorityQueue")]
  staticTypes := #[]
  resolved := Array.replicate 96 none
  statics := none }

def pool7 : Array CpInfo := pool [(15, u "compare"), (3, .class_ 20), (0, u "java/util/Comparator"), (84, .class_ 106), (0, u "java/lang/Object"), (8, u "(Ljava/lang/Object;Ljava/lang/Object;)I")] 172

def k7m0 : Method := { name := "compare", desc := "(Ljava/lang/Object;Ljava/lang/Object;)I", sig := { parameters := [(.object "java/lang/Object"), (.object "java/lang/Object")], returnType := some .int }, accessFlags := 1025, code := none }
/-- java/util/Comparator -/
def k7 : Class := { plain "java/util/Comparator" (some 0) with
  accessFlags := 1537
  interfaces := #[]
  cf := some (fileOf pool7 19 #[] #[{ accessFlags := 1025, nameIndex := 15, descriptorIndex := 115, attributes := #[] }] 1537 105 #[] #[])
  fields := #[]
  methods := #[k7m0]
  instanceTypes := #[]
  staticTypes := #[]
  resolved := Array.replicate 288 none
  statics := none }

def pool8 : Array CpInfo := pool [(10, .class_ 12), (1, u "java/util/Collection"), (47, .class_ 61), (0, u "java/lang/Object"), (0, .class_ 63), (0, u "java/lang/Iterable")] 51

/-- java/util/Collection -/
def k8 : Class := { plain "java/util/Collection" (some 0) with
  accessFlags := 1537
  interfaces := #[5]
  cf := some (fileOf pool8 10 #[] #[] 1537 60 #[62] #[])
  fields := #[]
  methods := #[]
  instanceTypes := #[]
  staticTypes := #[]
  resolved := Array.replicate 115 none
  statics := none }

def pool9 : Array CpInfo := pool [(1, .methodref 2 3), (0, .class_ 4), (0, .nameAndType 5 6), (0, u "java/lang/Object"), (0, u "<init>"), (0, u "()V"), (1, .class_ 10), (1, u "java/util/AbstractCollection"), (66, .class_ 78), (0, u "java/util/Collection")] 81

def k9c0 : Code := { maxStack := 1, maxLocals := 1, code := jdk_22_method_1_code, exceptionTable := #[], attributes := #[] }
def k9m0 : Method := { name := "<init>", desc := "()V", sig := { parameters := [], returnType := none }, accessFlags := 4, code := some k9c0 }
/-- java/util/AbstractCollection -/
def k9 : Class := { plain "java/util/AbstractCollection" (some 0) with
  accessFlags := 1057
  interfaces := #[8]
  cf := some (fileOf pool9 8 #[] #[{ accessFlags := 4, nameIndex := 5, descriptorIndex := 6, attributes := #[] }] 1057 2 #[77] #[])
  fields := #[]
  methods := #[k9m0]
  instanceTypes := #[]
  staticTypes := #[]
  resolved := Array.replicate 160 none
  statics := none }

def pool10 : Array CpInfo := pool [(1, .class_ 2), (0, u "java/util/Queue"), (0, .class_ 4), (0, u "java/lang/Object"), (0, .class_ 6), (0, u "java/util/Collection")] 14

/-- java/util/Queue -/
def k10 : Class := { plain "java/util/Queue" (some 0) with
  accessFlags := 1537
  interfaces := #[8]
  cf := some (fileOf pool10 1 #[] #[] 1537 3 #[5] #[])
  fields := #[]
  methods := #[]
  instanceTypes := #[]
  staticTypes := #[]
  resolved := Array.replicate 21 none
  statics := none }

def pool11 : Array CpInfo := pool [(8, .class_ 10), (1, u "java/util/SequencedCollection"), (15, .class_ 27), (0, u "java/lang/Object"), (0, .class_ 29), (0, u "java/util/Collection")] 27

/-- java/util/SequencedCollection -/
def k11 : Class := { plain "java/util/SequencedCollection" (some 0) with
  accessFlags := 1537
  interfaces := #[8]
  cf := some (fileOf pool11 8 #[] #[] 1537 26 #[28] #[])
  fields := #[]
  methods := #[]
  instanceTypes := #[]
  staticTypes := #[]
  resolved := Array.replicate 57 none
  statics := none }

def pool12 : Array CpInfo := pool [(8, .class_ 10), (1, u "java/util/Deque"), (2, .class_ 14), (0, u "java/lang/Object"), (0, .class_ 16), (0, u "java/util/Queue"), (0, .class_ 18), (0, u "java/util/SequencedCollection")] 51

/-- java/util/Deque -/
def k12 : Class := { plain "java/util/Deque" (some 0) with
  accessFlags := 1537
  interfaces := #[10, 11]
  cf := some (fileOf pool12 8 #[] #[] 1537 13 #[15, 17] #[])
  fields := #[]
  methods := #[]
  instanceTypes := #[]
  staticTypes := #[]
  resolved := Array.replicate 70 none
  statics := none }

def pool13 : Array CpInfo := pool [(1, .class_ 2), (0, u "java/lang/Cloneable"), (0, .class_ 4), (0, u "java/lang/Object")] 2

/-- java/lang/Cloneable -/
def k13 : Class := { plain "java/lang/Cloneable" (some 0) with
  accessFlags := 1537
  interfaces := #[]
  cf := some (fileOf pool13 1 #[] #[] 1537 3 #[] #[])
  fields := #[]
  methods := #[]
  instanceTypes := #[]
  staticTypes := #[]
  resolved := Array.replicate 7 none
  statics := none }

def pool14 : Array CpInfo := pool [(1, .class_ 2), (0, u "java/io/Serializable"), (0, .class_ 4), (0, u "java/lang/Object")] 2

/-- java/io/Serializable -/
def k14 : Class := { plain "java/io/Serializable" (some 0) with
  accessFlags := 1537
  interfaces := #[]
  cf := some (fileOf pool14 1 #[] #[] 1537 3 #[] #[])
  fields := #[]
  methods := #[]
  instanceTypes := #[]
  staticTypes := #[]
  resolved := Array.replicate 7 none
  statics := none }

def pool15 : Array CpInfo := pool [(3, .fieldref 4 5), (0, .class_ 6), (0, .nameAndType 7 8), (0, u "java/util/ArrayDeque"), (0, u "elements"), (0, u "[Ljava/lang/Object;"), (4, u "(II)I"), (6, .fieldref 4 21), (0, .nameAndType 22 23), (0, u "tail"), (0, u "I"), (0, .fieldref 4 25), (0, .nameAndType 26 23), (0, u "head"), (12, u "<init>"), (2, .methodref 43 44), (0, .class_ 45), (0, .nameAndType 39 46), (0, u "java/util/AbstractCollection"), (0, u "()V"), (0, .class_ 48), (0, u "java/lang/Object"), (19, .methodref 4 69), (0, .nameAndType 70 13), (0, u "dec"), (3, .methodref 4 75), (0, .nameAndType 76 13), (0, u "inc"), (12, u "(Ljava/lang/Object;)V"), (2, u "addLast"), (2, u "pollFirst"), (0, u "()Ljava/lang/Object;"), (5, u "pollLast"), (0, .methodref 4 104), (0, .nameAndType 105 106), (0, u "elementAt"), (0, u "([Ljava/lang/Object;I)Ljava/lang/Object;"), (19, u "peekFirst"), (4, .class_ 132), (0, u "java/util/ArrayDeque$DeqIterator"), (3, .class_ 137), (0, u "java/util/ArrayDeque$DescendingIterator"), (1, .class_ 140), (0, u "java/util/ArrayDeque$DeqSpliterator"), (137, .class_ 279), (0, u "java/util/Deque"), (0, .class_ 281), (0, u "java/lang/Cloneable"), (0, .class_ 283), (0, u "java/io/Serializable"), (0, u "MAX_ARRAY_SIZE"), (1, u "serialVersionUID"), (0, u "J"), (44, u "peekLast")] 105

def k15c0 : Code := { maxStack := 2, maxLocals := 1, code := jdk_21_method_3_code, exceptionTable := #[], attributes := #[] }
def k15m0 : Method := { name := "<init>", desc := "()V", sig := { parameters := [], returnType := none }, accessFlags := 1, code := some k15c0 }
def k15c1 : Code := { maxStack := 2, maxLocals := 2, code := jdk_21_method_6_code, exceptionTable := #[], attributes := #[] }
def k15m1 : Method := { name := "inc", desc := "(II)I", sig := { parameters := [.int, .int], returnType := some .int }, accessFlags := 24, code := some k15c1 }
def k15c2 : Code := { maxStack := 2, maxLocals := 2, code := jdk_21_method_7_code, exceptionTable := #[], attributes := #[] }
def k15m2 : Method := { name := "dec", desc := "(II)I", sig := { parameters := [.int, .int], returnType := some .int }, accessFlags := 24, code := some k15c2 }
def k15c3 : Code := { maxStack := 2, maxLocals := 2, code := jdk_21_method_10_code, exceptionTable := #[], attributes := #[] }
def k15m3 : Method := { name := "elementAt", desc := "([Ljava/lang/Object;I)Ljava/lang/Object;", sig := { parameters := [(.array (.object "java/lang/Object")), .int], returnType := some (.object "java/lang/Object") }, accessFlags := 24, code := some k15c3 }
def k15c4 : Code := { maxStack := 4, maxLocals := 3, code := jdk_21_method_13_code, exceptionTable := #[], attributes := #[] }
def k15m4 : Method := { name := "addLast", desc := "(Ljava/lang/Object;)V", sig := { parameters := [(.object "java/lang/Object")], returnType := none }, accessFlags := 1, code := some k15c4 }
def k15c5 : Code := { maxStack := 3, maxLocals := 4, code := jdk_21_method_20_code, exceptionTable := #[], attributes := #[] }
def k15m5 : Method := { name := "pollFirst", desc := "()Ljava/lang/Object;", sig := { parameters := [], returnType := some (.object "java/lang/Object") }, accessFlags := 1, code := some k15c5 }
def k15c6 : Code := { maxStack := 4, maxLocals := 4, code := jdk_21_method_21_code, exceptionTable := #[], attributes := #[] }
def k15m6 : Method := { name := "pollLast", desc := "()Ljava/lang/Object;", sig := { parameters := [], returnType := some (.object "java/lang/Object") }, accessFlags := 1, code := some k15c6 }
def k15c7 : Code := { maxStack := 2, maxLocals := 1, code := jdk_21_method_24_code, exceptionTable := #[], attributes := #[] }
def k15m7 : Method := { name := "peekFirst", desc := "()Ljava/lang/Object;", sig := { parameters := [], returnType := some (.object "java/lang/Object") }, accessFlags := 1, code := some k15c7 }
def k15c8 : Code := { maxStack := 3, maxLocals := 2, code := jdk_21_method_25_code, exceptionTable := #[], attributes := #[] }
def k15m8 : Method := { name := "peekLast", desc := "()Ljava/lang/Object;", sig := { parameters := [], returnType := some (.object "java/lang/Object") }, accessFlags := 1, code := some k15c8 }
/-- java/util/ArrayDeque -/
def k15 : Class := { plain "java/util/ArrayDeque" (some 9) with
  accessFlags := 33
  interfaces := #[12, 13, 14]
  cf := some (fileOf pool15 4 #[.nestMembers #[139, 136, 131]] #[{ accessFlags := 1, nameIndex := 39, descriptorIndex := 46, attributes := #[] }, { accessFlags := 24, nameIndex := 76, descriptorIndex := 13, attributes := #[] }, { accessFlags := 24, nameIndex := 70, descriptorIndex := 13, attributes := #[] }, { accessFlags := 24, nameIndex := 105, descriptorIndex := 106, attributes := #[] }, { accessFlags := 1, nameIndex := 92, descriptorIndex := 89, attributes := #[] }, { accessFlags := 1, nameIndex := 95, descriptorIndex := 96, attributes := #[] }, { accessFlags := 1, nameIndex := 102, descriptorIndex := 96, attributes := #[] }, { accessFlags := 1, nameIndex := 126, descriptorIndex := 96, attributes := #[] }, { accessFlags := 1, nameIndex := 332, descriptorIndex := 96, attributes := #[] }] 33 43 #[278, 280, 282] #[{ accessFlags := 128, nameIndex := 7, descriptorIndex := 8, attributes := #[] }, { accessFlags := 128, nameIndex := 26, descriptorIndex := 23, attributes := #[] }, { accessFlags := 128, nameIndex := 22, descriptorIndex := 23, attributes := #[] }, { accessFlags := 26, nameIndex := 284, descriptorIndex := 23, attributes := #[] }, { accessFlags := 26, nameIndex := 286, descriptorIndex := 287, attributes := #[] }])
  fields := #[{ name := "elements", type := (.array (.object "java/lang/Object")), accessFlags := 128, slot := 0, constantValue := 0 }, { name := "head", type := .int, accessFlags := 128, slot := 1, constantValue := 0 }, { name := "tail", type := .int, accessFlags := 128, slot := 2, constantValue := 0 }, { name := "MAX_ARRAY_SIZE", type := .int, accessFlags := 26, slot := 0, constantValue := 0 }, { name := "serialVersionUID", type := .long, accessFlags := 26, slot := 1, constantValue := 0 }]
  methods := #[k15m0, k15m1, k15m2, k15m3, k15m4, k15m5, k15m6, k15m7, k15m8]
  instanceTypes := #[(.array (.object "java/lang/Object")), .int, .int]
  staticTypes := #[.int, .long]
  resolved := Array.replicate 438 none
  statics := none }

def pool16 : Array CpInfo := pool [(1, .methodref 2 3), (0, .class_ 4), (0, .nameAndType 5 6), (0, u "java/util/AbstractCollection"), (0, u "<init>"), (0, u "()V"), (1, .class_ 10), (1, u "java/util/AbstractQueue"), (43, .class_ 55), (0, u "java/util/Queue")] 31

def k16c0 : Code := { maxStack := 1, maxLocals := 1, code := jdk_2435_method_1_code, exceptionTable := #[], attributes := #[] }
def k16m0 : Method := { name := "<init>", desc := "()V", sig := { parameters := [], returnType := none }, accessFlags := 4, code := some k16c0 }
/-- java/util/AbstractQueue -/
def k16 : Class := { plain "java/util/AbstractQueue" (some 9) with
  accessFlags := 1057
  interfaces := #[10]
  cf := some (fileOf pool16 8 #[] #[{ accessFlags := 4, nameIndex := 5, descriptorIndex := 6, attributes := #[] }] 1057 2 #[54] #[])
  fields := #[]
  methods := #[k16m0]
  instanceTypes := #[]
  staticTypes := #[]
  resolved := Array.replicate 87 none
  statics := none }

def pool17 : Array CpInfo := pool [(1, .class_ 2), (0, u "java/util/PriorityQueue"), (0, .methodref 1 4), (0, .nameAndType 5 6), (0, u "<init>"), (0, u "(ILjava/util/Comparator;)V"), (0, .methodref 8 9), (0, .class_ 10), (0, .nameAndType 5 11), (0, u "java/util/AbstractQueue"), (0, u "()V"), (3, .class_ 16), (0, u "java/lang/Object"), (0, .fieldref 1 18), (0, .nameAndType 19 20), (0, u "queue"), (0, u "[Ljava/lang/Object;"), (0, .fieldref 1 22), (0, .nameAndType 23 24), (0, u "comparator"), (0, u "Ljava/util/Comparator;"), (31, u "size"), (1, .fieldref 1 59), (0, .nameAndType 56 60), (0, u "I"), (28, .methodref 1 90), (0, .nameAndType 91 92), (0, u "offer"), (0, u "(Ljava/lang/Object;)Z"), (0, .fieldref 1 94), (0, .nameAndType 95 60), (0, u "modCount"), (4, .methodref 1 101), (0, .nameAndType 102 103), (0, u "siftUp"), (0, u "(ILjava/lang/Object;)V"), (17, .class_ 122), (0, u "java/util/PriorityQueue$Itr"), (6, .methodref 1 130), (0, .nameAndType 131 132), (0, u "siftDownUsingComparator"), (0, u "(ILjava/lang/Object;[Ljava/lang/Object;ILjava/util/Comparator;)V"), (3, .methodref 1 137), (0, .nameAndType 138 139), (0, u "siftUpUsingComparator"), (0, u "(ILjava/lang/Object;[Ljava/lang/Object;Ljava/util/Comparator;)V"), (9, .interfaceMethodref 150 151), (0, .class_ 152), (0, .nameAndType 153 154), (0, u "java/util/Comparator"), (0, u "compare"), (0, u "(Ljava/lang/Object;Ljava/lang/Object;)I"), (41, u "()Ljava/lang/Object;"), (0, .class_ 198), (0, u "java/util/PriorityQueue$PriorityQueueSpliterator"), (45, .class_ 245), (0, u "java/io/Serializable"), (0, u "serialVersionUID"), (0, u "J"), (3, u "DEFAULT_INITIAL_CAPACITY"), (11, u "(Ljava/util/Comparator;)V"), (22, u "add"), (3, u "peek"), (12, u "poll")] 88

def k17m0 : Method := { name := "<init>", desc := "()V", sig := { parameters := [], returnType := none }, accessFlags := 1, code := none }
def k17c1 : Code := { maxStack := 3, maxLocals := 2, code := jdk_2655_method_3_code, exceptionTable := #[], attributes := #[] }
def k17m1 : Method := { name := "<init>", desc := "(Ljava/util/Comparator;)V", sig := { parameters := [(.object "java/util/Comparator")], returnType := none }, accessFlags := 1, code := some k17c1 }
def k17c2 : Code := { maxStack := 2, maxLocals := 3, code := jdk_2655_method_4_code, exceptionTable := #[], attributes := #[] }
def k17m2 : Method := { name := "<init>", desc := "(ILjava/util/Comparator;)V", sig := { parameters := [.int, (.object "java/util/Comparator")], returnType := none }, accessFlags := 1, code := some k17c2 }
def k17c3 : Code := { maxStack := 2, maxLocals := 2, code := jdk_2655_method_13_code, exceptionTable := #[], attributes := #[] }
def k17m3 : Method := { name := "add", desc := "(Ljava/lang/Object;)Z", sig := { parameters := [(.object "java/lang/Object")], returnType := some .boolean }, accessFlags := 1, code := some k17c3 }
def k17c4 : Code := { maxStack := 3, maxLocals := 3, code := jdk_2655_method_14_code, exceptionTable := #[], attributes := #[] }
def k17m4 : Method := { name := "offer", desc := "(Ljava/lang/Object;)Z", sig := { parameters := [(.object "java/lang/Object")], returnType := some .boolean }, accessFlags := 1, code := some k17c4 }
def k17c5 : Code := { maxStack := 2, maxLocals := 1, code := jdk_2655_method_15_code, exceptionTable := #[], attributes := #[] }
def k17m5 : Method := { name := "peek", desc := "()Ljava/lang/Object;", sig := { parameters := [], returnType := some (.object "java/lang/Object") }, accessFlags := 1, code := some k17c5 }
def k17c6 : Code := { maxStack := 5, maxLocals := 6, code := jdk_2655_method_25_code, exceptionTable := #[], attributes := #[] }
def k17m6 : Method := { name := "poll", desc := "()Ljava/lang/Object;", sig := { parameters := [], returnType := some (.object "java/lang/Object") }, accessFlags := 1, code := some k17c6 }
def k17c7 : Code := { maxStack := 4, maxLocals := 3, code := jdk_2655_method_27_code, exceptionTable := #[], attributes := #[] }
def k17m7 : Method := { name := "siftUp", desc := "(ILjava/lang/Object;)V", sig := { parameters := [.int, (.object "java/lang/Object")], returnType := none }, accessFlags := 2, code := some k17c7 }
def k17c8 : Code := { maxStack := 3, maxLocals := 6, code := jdk_2655_method_29_code, exceptionTable := #[], attributes := #[] }
def k17m8 : Method := { name := "siftUpUsingComparator", desc := "(ILjava/lang/Object;[Ljava/lang/Object;Ljava/util/Comparator;)V", sig := { parameters := [.int, (.object "java/lang/Object"), (.array (.object "java/lang/Object")), (.object "java/util/Comparator")], returnType := none }, accessFlags := 10, code := some k17c8 }
def k17c9 : Code := { maxStack := 4, maxLocals := 9, code := jdk_2655_method_32_code, exceptionTable := #[], attributes := #[] }
def k17m9 : Method := { name := "siftDownUsingComparator", desc := "(ILjava/lang/Object;[Ljava/lang/Object;ILjava/util/Comparator;)V", sig := { parameters := [.int, (.object "java/lang/Object"), (.array (.object "java/lang/Object")), .int, (.object "java/util/Comparator")], returnType := none }, accessFlags := 10, code := some k17c9 }
/-- java/util/PriorityQueue -/
def k17 : Class := { plain "java/util/PriorityQueue" (some 16) with
  accessFlags := 33
  interfaces := #[14]
  cf := some (fileOf pool17 1 #[.nestMembers #[197, 121]] #[{ accessFlags := 1, nameIndex := 5, descriptorIndex := 11, attributes := #[] }, { accessFlags := 1, nameIndex := 5, descriptorIndex := 263, attributes := #[] }, { accessFlags := 1, nameIndex := 5, descriptorIndex := 6, attributes := #[] }, { accessFlags := 1, nameIndex := 286, descriptorIndex := 92, attributes := #[] }, { accessFlags := 1, nameIndex := 91, descriptorIndex := 92, attributes := #[] }, { accessFlags := 1, nameIndex := 290, descriptorIndex := 196, attributes := #[] }, { accessFlags := 1, nameIndex := 303, descriptorIndex := 196, attributes := #[] }, { accessFlags := 2, nameIndex := 102, descriptorIndex := 103, attributes := #[] }, { accessFlags := 10, nameIndex := 138, descriptorIndex := 139, attributes := #[] }, { accessFlags := 10, nameIndex := 131, descriptorIndex := 132, attributes := #[] }] 33 8 #[244] #[{ accessFlags := 26, nameIndex := 246, descriptorIndex := 247, attributes := #[] }, { accessFlags := 26, nameIndex := 251, descriptorIndex := 60, attributes := #[] }, { accessFlags := 128, nameIndex := 19, descriptorIndex := 20, attributes := #[] }, { accessFlags := 0, nameIndex := 56, descriptorIndex := 60, attributes := #[] }, { accessFlags := 18, nameIndex := 23, descriptorIndex := 24, attributes := #[] }, { accessFlags := 128, nameIndex := 95, descriptorIndex := 60, attributes := #[] }])
  fields := #[{ name := "serialVersionUID", type := .long, accessFlags := 26, slot := 0, constantValue := 0 }, { name := "DEFAULT_INITIAL_CAPACITY", type := .int, accessFlags := 26, slot := 1, constantValue := 0 }, { name := "queue", type := (.array (.object "java/lang/Object")), accessFlags := 128, slot := 0, constantValue := 0 }, { name := "size", type := .int, accessFlags := 0, slot := 1, constantValue := 0 }, { name := "comparator", type := (.object "java/util/Comparator"), accessFlags := 18, slot := 2, constantValue := 0 }, { name := "modCount", type := .int, accessFlags := 128, slot := 3, constantValue := 0 }]
  methods := #[k17m0, k17m1, k17m2, k17m3, k17m4, k17m5, k17m6, k17m7, k17m8, k17m9]
  instanceTypes := #[(.array (.object "java/lang/Object")), .int, (.object "java/util/Comparator"), .int]
  staticTypes := #[.long, .int]
  resolved := Array.replicate 392 none
  statics := none }

def pool18 : Array CpInfo := pool [(1, .methodref 2 3), (0, .class_ 4), (0, .nameAndType 5 6), (0, u "java/lang/Object"), (0, u "<init>"), (0, u "()V"), (0, .class_ 8), (0, u "java/lang/Record")] 13

def k18c0 : Code := { maxStack := 1, maxLocals := 1, code := jdk_30_method_1_code, exceptionTable := #[], attributes := #[] }
def k18m0 : Method := { name := "<init>", desc := "()V", sig := { parameters := [], returnType := none }, accessFlags := 4, code := some k18c0 }
/-- java/lang/Record -/
def k18 : Class := { plain "java/lang/Record" (some 0) with
  accessFlags := 1057
  interfaces := #[]
  cf := some (fileOf pool18 7 #[] #[{ accessFlags := 4, nameIndex := 5, descriptorIndex := 6, attributes := #[] }] 1057 2 #[] #[])
  fields := #[]
  methods := #[k18m0]
  instanceTypes := #[]
  staticTypes := #[]
  resolved := Array.replicate 22 none
  statics := none }

def pool19 : Array CpInfo := pool [(1, .methodref 2 3), (0, .class_ 4), (0, .nameAndType 5 6), (0, u "java/lang/Record"), (0, u "<init>"), (0, u "()V"), (0, .fieldref 8 9), (0, .class_ 10), (0, .nameAndType 11 12), (0, u "com/example/framewheel/framewheel/core/PhaseQueue$Delayed"), (0, u "work"), (0, u "Lcom/example/framewheel/framewheel/core/FrameCallback;"), (0, .fieldref 8 14), (0, .nameAndType 15 16), (0, u "dueNanos"), (0, u "J"), (0, .fieldref 8 18), (0, .nameAndType 19 16), (0, u "sequence"), (0, .fieldref 8 21), (0, .nameAndType 22 23), (0, u "wake"), (0, u "Ljava/lang/Runnable;"), (12, u "(Lcom/example/framewheel/framewheel/core/FrameCallback;JJLjava/lang/Runnable;)V"), (6, u "()Lcom/example/framewheel/framewheel/core/FrameCallback;"), (0, u "()J"), (4, .class_ 50), (0, u "com/example/framewheel/framewheel/core/PhaseQueue")] 22

def k19c0 : Code := { maxStack := 3, maxLocals := 7, code := prog_10_method_1_code, exceptionTable := #[], attributes := #[] }
def k19m0 : Method := { name := "<init>", desc := "(Lcom/example/framewheel/framewheel/core/FrameCallback;JJLjava/lang/Runnable;)V", sig := { parameters := [(.object "com/example/framewheel/framewheel/core/FrameCallback"), .long, .long, (.object "java/lang/Runnable")], returnType := none }, accessFlags := 2, code := some k19c0 }
def k19c1 : Code := { maxStack := 1, maxLocals := 1, code := prog_10_method_5_code, exceptionTable := #[], attributes := #[] }
def k19m1 : Method := { name := "work", desc := "()Lcom/example/framewheel/framewheel/core/FrameCallback;", sig := { parameters := [], returnType := some (.object "com/example/framewheel/framewheel/core/FrameCallback") }, accessFlags := 1, code := some k19c1 }
def k19c2 : Code := { maxStack := 2, maxLocals := 1, code := prog_10_method_6_code, exceptionTable := #[], attributes := #[] }
def k19m2 : Method := { name := "dueNanos", desc := "()J", sig := { parameters := [], returnType := some .long }, accessFlags := 1, code := some k19c2 }
def k19c3 : Code := { maxStack := 2, maxLocals := 1, code := prog_10_method_7_code, exceptionTable := #[], attributes := #[] }
def k19m3 : Method := { name := "sequence", desc := "()J", sig := { parameters := [], returnType := some .long }, accessFlags := 1, code := some k19c3 }
/-- com/example/framewheel/framewheel/core/PhaseQueue$Delayed -/
def k19 : Class := { plain "com/example/framewheel/framewheel/core/PhaseQueue$Delayed" (some 18) with
  accessFlags := 48
  interfaces := #[]
  cf := some (fileOf pool19 8 #[.nestHost 49] #[{ accessFlags := 2, nameIndex := 5, descriptorIndex := 36, attributes := #[] }, { accessFlags := 1, nameIndex := 11, descriptorIndex := 43, attributes := #[] }, { accessFlags := 1, nameIndex := 15, descriptorIndex := 44, attributes := #[] }, { accessFlags := 1, nameIndex := 19, descriptorIndex := 44, attributes := #[] }] 48 2 #[] #[{ accessFlags := 18, nameIndex := 11, descriptorIndex := 12, attributes := #[] }, { accessFlags := 18, nameIndex := 15, descriptorIndex := 16, attributes := #[] }, { accessFlags := 18, nameIndex := 19, descriptorIndex := 16, attributes := #[] }, { accessFlags := 18, nameIndex := 22, descriptorIndex := 23, attributes := #[] }])
  fields := #[{ name := "work", type := (.object "com/example/framewheel/framewheel/core/FrameCallback"), accessFlags := 18, slot := 0, constantValue := 0 }, { name := "dueNanos", type := .long, accessFlags := 18, slot := 1, constantValue := 0 }, { name := "sequence", type := .long, accessFlags := 18, slot := 2, constantValue := 0 }, { name := "wake", type := (.object "java/lang/Runnable"), accessFlags := 18, slot := 3, constantValue := 0 }]
  methods := #[k19m0, k19m1, k19m2, k19m3]
  instanceTypes := #[(.object "com/example/framewheel/framewheel/core/FrameCallback"), .long, .long, (.object "java/lang/Runnable")]
  staticTypes := #[]
  resolved := Array.replicate 73 none
  statics := none }

def pool20 : Array CpInfo := pool [(2, .class_ 4), (1, u "java/lang/Object"), (0, u "<init>"), (0, u "()V"), (1, .class_ 10), (1, u "java/lang/Number"), (2, .class_ 14), (0, u "java/io/Serializable"), (0, u "serialVersionUID"), (0, u "J")] 20

def k20m0 : Method := { name := "<init>", desc := "()V", sig := { parameters := [], returnType := none }, accessFlags := 1, code := none }
/-- java/lang/Number -/
def k20 : Class := { plain "java/lang/Number" (some 0) with
  accessFlags := 1057
  interfaces := #[14]
  cf := some (fileOf pool20 8 #[] #[{ accessFlags := 1, nameIndex := 5, descriptorIndex := 6, attributes := #[] }] 1057 2 #[13] #[{ accessFlags := 26, nameIndex := 15, descriptorIndex := 16, attributes := #[] }])
  fields := #[{ name := "serialVersionUID", type := .long, accessFlags := 26, slot := 0, constantValue := 0 }]
  methods := #[k20m0]
  instanceTypes := #[]
  staticTypes := #[.long]
  resolved := Array.replicate 37 none
  statics := none }

def pool21 : Array CpInfo := pool [(1, .class_ 2), (0, u "java/lang/Comparable"), (0, .class_ 4), (0, u "java/lang/Object")] 7

/-- java/lang/Comparable -/
def k21 : Class := { plain "java/lang/Comparable" (some 0) with
  accessFlags := 1537
  interfaces := #[]
  cf := some (fileOf pool21 1 #[] #[] 1537 3 #[] #[])
  fields := #[]
  methods := #[]
  instanceTypes := #[]
  staticTypes := #[]
  resolved := Array.replicate 12 none
  statics := none }

def pool22 : Array CpInfo := pool [(1, .class_ 2), (0, u "java/lang/constant/Constable"), (0, .class_ 4), (0, u "java/lang/Object")] 6

/-- java/lang/constant/Constable -/
def k22 : Class := { plain "java/lang/constant/Constable" (some 0) with
  accessFlags := 1537
  interfaces := #[]
  cf := some (fileOf pool22 1 #[] #[] 1537 3 #[] #[])
  fields := #[]
  methods := #[]
  instanceTypes := #[]
  staticTypes := #[]
  resolved := Array.replicate 11 none
  statics := none }

def pool23 : Array CpInfo := pool [(1, .class_ 2), (0, u "java/lang/constant/ConstantDesc"), (0, .class_ 4), (0, u "java/lang/Object")] 32

/-- java/lang/constant/ConstantDesc -/
def k23 : Class := { plain "java/lang/constant/ConstantDesc" (some 0) with
  accessFlags := 1537
  interfaces := #[]
  cf := some (fileOf pool23 1 #[] #[] 1537 3 #[] #[])
  fields := #[]
  methods := #[]
  instanceTypes := #[]
  staticTypes := #[]
  resolved := Array.replicate 37 none
  statics := none }

def pool24 : Array CpInfo := pool [(1, .class_ 2), (0, u "java/lang/Long"), (232, .class_ 237), (1, u "java/lang/Long$LongCache"), (33, .class_ 272), (0, u "java/lang/Number"), (2, u "value"), (0, u "J"), (27, u "compare"), (0, u "(JJ)I"), (55, u "TYPE"), (0, u "Ljava/lang/Class;"), (0, .class_ 364), (0, u "java/lang/Comparable"), (0, .class_ 366), (0, u "java/lang/constant/Constable"), (0, .class_ 368), (0, u "java/lang/constant/ConstantDesc"), (0, u "MIN_VALUE"), (1, u "MAX_VALUE"), (4, u "SIZE"), (0, u "I"), (1, u "BYTES"), (1, u "serialVersionUID")] 142

def k24c0 : Code := { maxStack := 4, maxLocals := 4, code := jdk_35_method_42_code, exceptionTable := #[], attributes := #[] }
def k24m0 : Method := { name := "compare", desc := "(JJ)I", sig := { parameters := [.long, .long], returnType := some .int }, accessFlags := 9, code := some k24c0 }
/-- java/lang/Long -/
def k24 : Class := { plain "java/lang/Long" (some 20) with
  accessFlags := 49
  interfaces := #[21, 22, 23]
  cf := some (fileOf pool24 1 #[.nestMembers #[235]] #[{ accessFlags := 9, nameIndex := 304, descriptorIndex := 305, attributes := #[] }] 49 271 #[363, 365, 367] #[{ accessFlags := 25, nameIndex := 369, descriptorIndex := 276, attributes := #[] }, { accessFlags := 25, nameIndex := 371, descriptorIndex := 276, attributes := #[] }, { accessFlags := 25, nameIndex := 361, descriptorIndex := 362, attributes := #[] }, { accessFlags := 18, nameIndex := 275, descriptorIndex := 276, attributes := #[] }, { accessFlags := 25, nameIndex := 376, descriptorIndex := 377, attributes := #[] }, { accessFlags := 25, nameIndex := 379, descriptorIndex := 377, attributes := #[] }, { accessFlags := 26, nameIndex := 381, descriptorIndex := 276, attributes := #[] }])
  fields := #[{ name := "MIN_VALUE", type := .long, accessFlags := 25, slot := 0, constantValue := 0 }, { name := "MAX_VALUE", type := .long, accessFlags := 25, slot := 1, constantValue := 0 }, { name := "TYPE", type := (.object "java/lang/Class"), accessFlags := 25, slot := 2, constantValue := 0 }, { name := "value", type := .long, accessFlags := 18, slot := 0, constantValue := 0 }, { name := "SIZE", type := .int, accessFlags := 25, slot := 3, constantValue := 0 }, { name := "BYTES", type := .int, accessFlags := 25, slot := 4, constantValue := 0 }, { name := "serialVersionUID", type := .long, accessFlags := 26, slot := 5, constantValue := 0 }]
  methods := #[k24m0]
  instanceTypes := #[.long]
  staticTypes := #[.long, .long, (.object "java/lang/Class"), .int, .int, .long]
  resolved := Array.replicate 524 none
  statics := none }

/-- the primitive byte -/
def k25 : Class := { plain "byte" none with kind := .primitive 'B', accessFlags := 0x411 }
/-- [B -/
def k26 : Class := { plain "[B" (some 0) with kind := .array 25 .byte, interfaces := #[13, 14], accessFlags := 1041 }

/-- the primitive int -/
def k27 : Class := { plain "int" none with kind := .primitive 'I', accessFlags := 0x411 }
/-- [I -/
def k28 : Class := { plain "[I" (some 0) with kind := .array 27 .int, interfaces := #[13, 14], accessFlags := 1041 }

/-- the primitive long -/
def k29 : Class := { plain "long" none with kind := .primitive 'J', accessFlags := 0x411 }
/-- [J -/
def k30 : Class := { plain "[J" (some 0) with kind := .array 29 .long, interfaces := #[13, 14], accessFlags := 1041 }

/-- [Lcom/example/framewheel/framewheel/core/FrameCallback; -/
def k31 : Class := { plain "[Lcom/example/framewheel/framewheel/core/FrameCallback;" (some 0) with kind := .array 2 (.object "com/example/framewheel/framewheel/core/FrameCallback"), interfaces := #[13, 14], accessFlags := 1041 }

/-- [Ljava/lang/Object; -/
def k32 : Class := { plain "[Ljava/lang/Object;" (some 0) with kind := .array 0 (.object "java/lang/Object"), interfaces := #[13, 14], accessFlags := 1041 }

def classes0 : Array Class := #[k0, k1, k2, k3, k4, k5, k6, k7, k8, k9, k10, k11, k12, k13, k14, k15, k16, k17, k18, k19, k20, k21, k22, k23, k24, k25, k26, k27, k28, k29, k30, k31, k32]
/-- the class that the rule has made for the site at 34 of com/example/framewheel/framewheel/core/PhaseQueue.<init> -/
def k33 : Class := Jvm.LamKit.madeRec { classes := classes0 } "com/example/framewheel/framewheel/core/PhaseQueue" (Jvm.Lambda.Shape.mk "java/util/Comparator" "compare" (Jvm.ClassFile.MethodDescriptor.mk ([(Jvm.ClassFile.FieldType.object "java/lang/Object"), (Jvm.ClassFile.FieldType.object "java/lang/Object")] : List Jvm.ClassFile.FieldType) (Option.some Jvm.ClassFile.FieldType.int)) ([] : List Jvm.ClassFile.FieldType) (6 : Nat) "com/example/framewheel/framewheel/core/PhaseQueue" "compareByDueTime" (Jvm.ClassFile.MethodDescriptor.mk ([(Jvm.ClassFile.FieldType.object "com/example/framewheel/framewheel/core/PhaseQueue$Delayed"), (Jvm.ClassFile.FieldType.object "com/example/framewheel/framewheel/core/PhaseQueue$Delayed")] : List Jvm.ClassFile.FieldType) (Option.some Jvm.ClassFile.FieldType.int)) false (Jvm.ClassFile.MethodDescriptor.mk ([(Jvm.ClassFile.FieldType.object "com/example/framewheel/framewheel/core/PhaseQueue$Delayed"), (Jvm.ClassFile.FieldType.object "com/example/framewheel/framewheel/core/PhaseQueue$Delayed")] : List Jvm.ClassFile.FieldType) (Option.some Jvm.ClassFile.FieldType.int))) 33

def heap : Heap := #[{ cls := 33, slots := #[], vm := .none }]
def classes : Array Class := #[k0, k1, k2, k3, k4, k5, k6, k7, k8, k9, k10, k11, k12, k13, k14, k15, k16, k17, k18, k19, k20, k21, k22, k23, k24, k25, k26, k27, k28, k29, k30, k31, k32, k33]
def interned : List (Array UInt16 × Addr) := []
def slotsUsed : Nat := 0
def theMethod : MethodId := ⟨3, 1⟩
def args0 : Array Value := #[.int 11, .long 5, .long 3, .long 4, .long 9]
def aboutOver (below : List Frame) : State where
  vm := { classes := classes, interned := interned.toArray }
  heap := heap
  slotsUsed := slotsUsed
  threads := #[{ frames := .invoking theMethod args0 :: below }]
def below0 : List Frame := [.native { method := ⟨0, 0⟩, args := #[] }]
def about1 : State := aboutOver below0
def p0 : Program := .bare "" "" ""
def e0 : Env := launch0.env 0 0 0
theorem w_frames : about1.frames = Frame.invoking theMethod args0 :: below0 := rfl
set_option maxRecDepth 65536 in
theorem w_args : argsFit about1.vm theMethod args0 = true := by decide +kernel
set_option maxRecDepth 65536 in
theorem w_heap : heapFits about1 = true := by decide +kernel
set_option maxRecDepth 65536 in
theorem w_runnable : about1.curStatus? = some .runnable := by decide +kernel
set_option maxRecDepth 65536 in
theorem w_alone : about1.alone = true := by decide +kernel
set_option maxRecDepth 65536 in
theorem w_named : about1.methodNamed? x = some theMethod := by decide +kernel
set_option maxRecDepth 65536 in
theorem w_hears : about1.hears theMethod below0 = true := by decide +kernel
set_option maxRecDepth 65536 in
theorem w_ripe : about1.ripe theMethod args0 below0 = true := by decide +kernel
theorem w_running : about1.status = .running := rfl
set_option maxRecDepth 65536 in
theorem w_room : about1.hasRoom e0.platform room_1 = true :=
  launch0.hasRoom_least _ room_1 (by decide +kernel) (by decide +kernel) (by decide +kernel) (by decide +kernel) (by decide +kernel) (by decide +kernel)
theorem allAtoms_all (ts : List Jvm.Cond) (a : Array Jvm.Value) (st : Jvm.State) : (allAtoms ts).before a st = ts.all (fun c => c.before a st) := by
  induction ts with
  | nil => rfl
  | cons c t ih =>
    show (Jvm.Cond.and c (allAtoms t)).before a st = _
    rw [Jvm.Cond.before_and, ih, List.all_cons]
def words1 : List Jvm.Cond := Jvm.Cond.code x code maxLocals ret :: tables_1
/-- a 'code' word, met by the world's own term for the bytes: nothing is compared byte by byte -/
theorem code_word {y : MethodName} {bytes : ByteArray} {mx : Nat} {rt : Option FieldType} {a : Array Value} {s : State} {m : MethodId} {meth : Method} {c : Code} (h1 : s.methodNamed? y = some m) (h2 : s.vm.method? m = some meth) (h3 : meth.code = some c) (h4 : c.code = bytes)
    (h5 : (c.maxLocals == mx && c.exceptionTable.isEmpty && decide (c.maxStack ≤ mostOperands) && decide (meth.sig.returnType = rt) && !meth.locks && decide (parseMethodDescriptor y.desc = some meth.sig)) = true) : (Jvm.Cond.code y bytes mx rt).before a s = true := by
  simp only [Bool.and_eq_true, beq_iff_eq, Bool.not_eq_true', decide_eq_true_eq] at h5
  obtain ⟨⟨⟨⟨⟨g1, g2⟩, g3⟩, g4⟩, g5⟩, g6⟩ := h5
  simp [Cond.before, Cond.holds, Cond.value, h1, h2, h3, h4, g1, g2, g3, g4, g5, g6]
def isCode : Jvm.Cond → Bool
  | .code _ _ _ _ => true
  | _ => false
theorem all_split {L : List Jvm.Cond} {P : Jvm.Cond → Bool} (h1 : L.all (fun c => isCode c || P c) = true) (h2 : ∀ c ∈ L.filter isCode, P c = true) : L.all P = true := by
  refine List.all_eq_true.mpr fun c hc => ?_
  have h := List.all_eq_true.mp h1 c hc
  rcases Bool.eq_false_or_eq_true (isCode c) with hi | hi
  · exact h2 c (List.mem_filter.mpr ⟨hc, hi⟩)
  · simpa [hi] using h
set_option maxRecDepth 65536 in
theorem w_c0 : (Jvm.Cond.code x code maxLocals ret).before args0 about1 = true := code_word (m := ⟨3, 1⟩) (meth := k3m1) (c := k3c1) (by decide +kernel) rfl rfl rfl (by decide +kernel)
set_option maxRecDepth 65536 in
theorem w_c1 : (Jvm.Cond.code ({ cls := "com/example/framewheel/framewheel/core/PhaseQueueHasDelayedPinLaw", name := "<init>", desc := "()V" } : Jvm.MethodName) method_1_code (1 : Nat) (Option.none : Option Jvm.ClassFile.FieldType)).before args0 about1 = true := code_word (m := ⟨3, 0⟩) (meth := k3m0) (c := k3c0) (by decide +kernel) rfl rfl rfl (by decide +kernel)
set_option maxRecDepth 65536 in
theorem w_c2 : (Jvm.Cond.code ({ cls := "java/lang/Object", name := "<init>", desc := "()V" } : Jvm.MethodName) object_method_1_code (1 : Nat) (Option.none : Option Jvm.ClassFile.FieldType)).before args0 about1 = true := code_word (m := ⟨0, 0⟩) (meth := k0m0) (c := k0c0) (by decide +kernel) rfl rfl rfl (by decide +kernel)
set_option maxRecDepth 65536 in
theorem w_c3 : (Jvm.Cond.code ({ cls := "com/example/framewheel/framewheel/core/PhaseQueue", name := "<init>", desc := "()V" } : Jvm.MethodName) prog_9_method_1_code (1 : Nat) (Option.none : Option Jvm.ClassFile.FieldType)).before args0 about1 = true := code_word (m := ⟨4, 0⟩) (meth := k4m0) (c := k4c0) (by decide +kernel) rfl rfl rfl (by decide +kernel)
set_option maxRecDepth 65536 in
theorem w_c4 : (Jvm.Cond.code ({ cls := "com/example/framewheel/framewheel/core/TimeOrderedQueue", name := "<init>", desc := "(Ljava/util/Comparator;)V" } : Jvm.MethodName) prog_15_method_1_code (2 : Nat) (Option.none : Option Jvm.ClassFile.FieldType)).before args0 about1 = true := code_word (m := ⟨6, 0⟩) (meth := k6m0) (c := k6c0) (by decide +kernel) rfl rfl rfl (by decide +kernel)
set_option maxRecDepth 65536 in
theorem w_c5 : (Jvm.Cond.code ({ cls := "java/util/ArrayDeque", name := "<init>", desc := "()V" } : Jvm.MethodName) jdk_21_method_3_code (1 : Nat) (Option.none : Option Jvm.ClassFile.FieldType)).before args0 about1 = true := code_word (m := ⟨15, 0⟩) (meth := k15m0) (c := k15c0) (by decide +kernel) rfl rfl rfl (by decide +kernel)
set_option maxRecDepth 65536 in
theorem w_c6 : (Jvm.Cond.code ({ cls := "java/util/AbstractCollection", name := "<init>", desc := "()V" } : Jvm.MethodName) jdk_22_method_1_code (1 : Nat) (Option.none : Option Jvm.ClassFile.FieldType)).before args0 about1 = true := code_word (m := ⟨9, 0⟩) (meth := k9m0) (c := k9c0) (by decide +kernel) rfl rfl rfl (by decide +kernel)
set_option maxRecDepth 65536 in
theorem w_c7 : (Jvm.Cond.code ({ cls := "java/util/PriorityQueue", name := "<init>", desc := "(Ljava/util/Comparator;)V" } : Jvm.MethodName) jdk_2655_method_3_code (2 : Nat) (Option.none : Option Jvm.ClassFile.FieldType)).before args0 about1 = true := code_word (m := ⟨17, 1⟩) (meth := k17m1) (c := k17c1) (by decide +kernel) rfl rfl rfl (by decide +kernel)
set_option maxRecDepth 65536 in
theorem w_c8 : (Jvm.Cond.code ({ cls := "java/util/PriorityQueue", name := "<init>", desc := "(ILjava/util/Comparator;)V" } : Jvm.MethodName) jdk_2655_method_4_code (3 : Nat) (Option.none : Option Jvm.ClassFile.FieldType)).before args0 about1 = true := code_word (m := ⟨17, 2⟩) (meth := k17m2) (c := k17c2) (by decide +kernel) rfl rfl rfl (by decide +kernel)
set_option maxRecDepth 65536 in
theorem w_c9 : (Jvm.Cond.code ({ cls := "java/util/AbstractQueue", name := "<init>", desc := "()V" } : Jvm.MethodName) jdk_2435_method_1_code (1 : Nat) (Option.none : Option Jvm.ClassFile.FieldType)).before args0 about1 = true := code_word (m := ⟨16, 0⟩) (meth := k16m0) (c := k16c0) (by decide +kernel) rfl rfl rfl (by decide +kernel)
set_option maxRecDepth 65536 in
theorem w_c10 : (Jvm.Cond.code ({ cls := "com/example/framewheel/framewheel/core/PhaseQueue", name := "hasDelayed", desc := "()Z" } : Jvm.MethodName) prog_9_method_4_code (1 : Nat) (Option.some Jvm.ClassFile.FieldType.boolean)).before args0 about1 = true := code_word (m := ⟨4, 3⟩) (meth := k4m3) (c := k4c3) (by decide +kernel) rfl rfl rfl (by decide +kernel)
set_option maxRecDepth 65536 in
theorem w_c11 : (Jvm.Cond.code ({ cls := "com/example/framewheel/framewheel/core/PhaseQueue", name := "add", desc := "(Lcom/example/framewheel/framewheel/core/FrameCallback;JJLjava/lang/Runnable;)V" } : Jvm.MethodName) prog_9_method_3_code (8 : Nat) (Option.none : Option Jvm.ClassFile.FieldType)).before args0 about1 = true := code_word (m := ⟨4, 2⟩) (meth := k4m2) (c := k4c2) (by decide +kernel) rfl rfl rfl (by decide +kernel)
set_option maxRecDepth 65536 in
theorem w_c12 : (Jvm.Cond.code ({ cls := "com/example/framewheel/framewheel/core/PhaseQueue", name := "slot", desc := "(I)I" } : Jvm.MethodName) prog_9_method_9_code (2 : Nat) (Option.some Jvm.ClassFile.FieldType.int)).before args0 about1 = true := code_word (m := ⟨4, 6⟩) (meth := k4m6) (c := k4c6) (by decide +kernel) rfl rfl rfl (by decide +kernel)
set_option maxRecDepth 65536 in
theorem w_c13 : (Jvm.Cond.code ({ cls := "com/example/framewheel/framewheel/core/PhaseQueue", name := "takeFirstDue", desc := "(JJ)Lcom/example/framewheel/framewheel/core/FrameCallback;" } : Jvm.MethodName) prog_9_method_6_code (6 : Nat) (Option.some (Jvm.ClassFile.FieldType.object "com/example/framewheel/framewheel/core/FrameCallback"))).before args0 about1 = true := code_word (m := ⟨4, 4⟩) (meth := k4m4) (c := k4c4) (by decide +kernel) rfl rfl rfl (by decide +kernel)
set_option maxRecDepth 65536 in
theorem w_c14 : (Jvm.Cond.code ({ cls := "com/example/framewheel/framewheel/core/PhaseQueueHasDelayedPinLaw", name := "takenDelayed", desc := "(Lcom/example/framewheel/framewheel/core/FrameCallback;Ljava/lang/Object;Ljava/lang/Object;Ljava/lang/Object;ZZZ)I" } : Jvm.MethodName) method_5_code (7 : Nat) (Option.some Jvm.ClassFile.FieldType.int)).before args0 about1 = true := code_word (m := ⟨3, 2⟩) (meth := k3m2) (c := k3c2) (by decide +kernel) rfl rfl rfl (by decide +kernel)
set_option maxRecDepth 65536 in
theorem w_c15 : (Jvm.Cond.code ({ cls := "com/example/framewheel/framewheel/core/PhaseQueue$Delayed", name := "<init>", desc := "(Lcom/example/framewheel/framewheel/core/FrameCallback;JJLjava/lang/Runnable;)V" } : Jvm.MethodName) prog_10_method_1_code (7 : Nat) (Option.none : Option Jvm.ClassFile.FieldType)).before args0 about1 = true := code_word (m := ⟨19, 0⟩) (meth := k19m0) (c := k19c0) (by decide +kernel) rfl rfl rfl (by decide +kernel)
set_option maxRecDepth 65536 in
theorem w_c16 : (Jvm.Cond.code ({ cls := "java/lang/Record", name := "<init>", desc := "()V" } : Jvm.MethodName) jdk_30_method_1_code (1 : Nat) (Option.none : Option Jvm.ClassFile.FieldType)).before args0 about1 = true := code_word (m := ⟨18, 0⟩) (meth := k18m0) (c := k18c0) (by decide +kernel) rfl rfl rfl (by decide +kernel)
set_option maxRecDepth 65536 in
theorem w_c17 : (Jvm.Cond.code ({ cls := "com/example/framewheel/framewheel/core/TimeOrderedQueue", name := "add", desc := "(Ljava/lang/Object;)V" } : Jvm.MethodName) prog_15_method_2_code (3 : Nat) (Option.none : Option Jvm.ClassFile.FieldType)).before args0 about1 = true := code_word (m := ⟨6, 1⟩) (meth := k6m1) (c := k6c1) (by decide +kernel) rfl rfl rfl (by decide +kernel)
set_option maxRecDepth 65536 in
theorem w_c18 : (Jvm.Cond.code ({ cls := "com/example/framewheel/framewheel/core/TimeOrderedQueue", name := "ordersBeforeLastOfRun", desc := "(Ljava/lang/Object;)Z" } : Jvm.MethodName) prog_15_method_3_code (3 : Nat) (Option.some Jvm.ClassFile.FieldType.boolean)).before args0 about1 = true := code_word (m := ⟨6, 2⟩) (meth := k6m2) (c := k6c2) (by decide +kernel) rfl rfl rfl (by decide +kernel)
set_option maxRecDepth 65536 in
theorem w_c19 : (Jvm.Cond.code ({ cls := "java/util/ArrayDeque", name := "peekLast", desc := "()Ljava/lang/Object;" } : Jvm.MethodName) jdk_21_method_25_code (2 : Nat) (Option.some (Jvm.ClassFile.FieldType.object "java/lang/Object"))).before args0 about1 = true := code_word (m := ⟨15, 8⟩) (meth := k15m8) (c := k15c8) (by decide +kernel) rfl rfl rfl (by decide +kernel)
set_option maxRecDepth 65536 in
theorem w_c20 : (Jvm.Cond.code ({ cls := "java/util/ArrayDeque", name := "dec", desc := "(II)I" } : Jvm.MethodName) jdk_21_method_7_code (2 : Nat) (Option.some Jvm.ClassFile.FieldType.int)).before args0 about1 = true := code_word (m := ⟨15, 2⟩) (meth := k15m2) (c := k15c2) (by decide +kernel) rfl rfl rfl (by decide +kernel)
set_option maxRecDepth 65536 in
theorem w_c21 : (Jvm.Cond.code ({ cls := "java/util/ArrayDeque", name := "elementAt", desc := "([Ljava/lang/Object;I)Ljava/lang/Object;" } : Jvm.MethodName) jdk_21_method_10_code (2 : Nat) (Option.some (Jvm.ClassFile.FieldType.object "java/lang/Object"))).before args0 about1 = true := code_word (m := ⟨15, 3⟩) (meth := k15m3) (c := k15c3) (by decide +kernel) rfl rfl rfl (by decide +kernel)
set_option maxRecDepth 65536 in
theorem w_c22 : (Jvm.Cond.code ({ cls := "java/util/ArrayDeque", name := "addLast", desc := "(Ljava/lang/Object;)V" } : Jvm.MethodName) jdk_21_method_13_code (3 : Nat) (Option.none : Option Jvm.ClassFile.FieldType)).before args0 about1 = true := code_word (m := ⟨15, 4⟩) (meth := k15m4) (c := k15c4) (by decide +kernel) rfl rfl rfl (by decide +kernel)
set_option maxRecDepth 65536 in
theorem w_c23 : (Jvm.Cond.code ({ cls := "java/util/ArrayDeque", name := "inc", desc := "(II)I" } : Jvm.MethodName) jdk_21_method_6_code (2 : Nat) (Option.some Jvm.ClassFile.FieldType.int)).before args0 about1 = true := code_word (m := ⟨15, 1⟩) (meth := k15m1) (c := k15c1) (by decide +kernel) rfl rfl rfl (by decide +kernel)
set_option maxRecDepth 65536 in
theorem w_c24 : (Jvm.Cond.code ({ cls := "com/example/framewheel/framewheel/core/TimeOrderedQueue", name := "peek", desc := "()Ljava/lang/Object;" } : Jvm.MethodName) prog_15_method_4_code (4 : Nat) (Option.some (Jvm.ClassFile.FieldType.object "java/lang/Object"))).before args0 about1 = true := code_word (m := ⟨6, 3⟩) (meth := k6m3) (c := k6c3) (by decide +kernel) rfl rfl rfl (by decide +kernel)
set_option maxRecDepth 65536 in
theorem w_c25 : (Jvm.Cond.code ({ cls := "java/util/ArrayDeque", name := "peekFirst", desc := "()Ljava/lang/Object;" } : Jvm.MethodName) jdk_21_method_24_code (1 : Nat) (Option.some (Jvm.ClassFile.FieldType.object "java/lang/Object"))).before args0 about1 = true := code_word (m := ⟨15, 7⟩) (meth := k15m7) (c := k15c7) (by decide +kernel) rfl rfl rfl (by decide +kernel)
set_option maxRecDepth 65536 in
theorem w_c26 : (Jvm.Cond.code ({ cls := "java/util/PriorityQueue", name := "peek", desc := "()Ljava/lang/Object;" } : Jvm.MethodName) jdk_2655_method_15_code (1 : Nat) (Option.some (Jvm.ClassFile.FieldType.object "java/lang/Object"))).before args0 about1 = true := code_word (m := ⟨17, 5⟩) (meth := k17m5) (c := k17c5) (by decide +kernel) rfl rfl rfl (by decide +kernel)
set_option maxRecDepth 65536 in
theorem w_c27 : (Jvm.Cond.code ({ cls := "com/example/framewheel/framewheel/core/PhaseQueue", name := "compareByDueTime", desc := "(Lcom/example/framewheel/framewheel/core/PhaseQueue$Delayed;Lcom/example/framewheel/framewheel/core/PhaseQueue$Delayed;)I" } : Jvm.MethodName) prog_9_method_2_code (2 : Nat) (Option.some Jvm.ClassFile.FieldType.int)).before args0 about1 = true := code_word (m := ⟨4, 1⟩) (meth := k4m1) (c := k4c1) (by decide +kernel) rfl rfl rfl (by decide +kernel)
set_option maxRecDepth 65536 in
theorem w_c28 : (Jvm.Cond.code ({ cls := "com/example/framewheel/framewheel/core/PhaseQueue$Delayed", name := "dueNanos", desc := "()J" } : Jvm.MethodName) prog_10_method_6_code (1 : Nat) (Option.some Jvm.ClassFile.FieldType.long)).before args0 about1 = true := code_word (m := ⟨19, 2⟩) (meth := k19m2) (c := k19c2) (by decide +kernel) rfl rfl rfl (by decide +kernel)
set_option maxRecDepth 65536 in
theorem w_c29 : (Jvm.Cond.code ({ cls := "java/lang/Long", name := "compare", desc := "(JJ)I" } : Jvm.MethodName) jdk_35_method_42_code (4 : Nat) (Option.some Jvm.ClassFile.FieldType.int)).before args0 about1 = true := code_word (m := ⟨24, 0⟩) (meth := k24m0) (c := k24c0) (by decide +kernel) rfl rfl rfl (by decide +kernel)
set_option maxRecDepth 65536 in
theorem w_c30 : (Jvm.Cond.code ({ cls := "com/example/framewheel/framewheel/core/PhaseQueue", name := "ringFirstOrdersBefore", desc := "(Lcom/example/framewheel/framewheel/core/PhaseQueue$Delayed;)Z" } : Jvm.MethodName) prog_9_method_8_code (4 : Nat) (Option.some Jvm.ClassFile.FieldType.boolean)).before args0 about1 = true := code_word (m := ⟨4, 5⟩) (meth := k4m5) (c := k4c5) (by decide +kernel) rfl rfl rfl (by decide +kernel)
set_option maxRecDepth 65536 in
theorem w_c31 : (Jvm.Cond.code ({ cls := "com/example/framewheel/framewheel/core/PhaseQueue$Delayed", name := "sequence", desc := "()J" } : Jvm.MethodName) prog_10_method_7_code (1 : Nat) (Option.some Jvm.ClassFile.FieldType.long)).before args0 about1 = true := code_word (m := ⟨19, 3⟩) (meth := k19m3) (c := k19c3) (by decide +kernel) rfl rfl rfl (by decide +kernel)
set_option maxRecDepth 65536 in
theorem w_c32 : (Jvm.Cond.code ({ cls := "com/example/framewheel/framewheel/core/PhaseQueue$Delayed", name := "work", desc := "()Lcom/example/framewheel/framewheel/core/FrameCallback;" } : Jvm.MethodName) prog_10_method_5_code (1 : Nat) (Option.some (Jvm.ClassFile.FieldType.object "com/example/framewheel/framewheel/core/FrameCallback"))).before args0 about1 = true := code_word (m := ⟨19, 1⟩) (meth := k19m1) (c := k19c1) (by decide +kernel) rfl rfl rfl (by decide +kernel)
set_option maxRecDepth 65536 in
theorem w_c33 : (Jvm.Cond.code ({ cls := "com/example/framewheel/framewheel/core/TimeOrderedQueue", name := "poll", desc := "()Ljava/lang/Object;" } : Jvm.MethodName) prog_15_method_5_code (2 : Nat) (Option.some (Jvm.ClassFile.FieldType.object "java/lang/Object"))).before args0 about1 = true := code_word (m := ⟨6, 4⟩) (meth := k6m4) (c := k6c4) (by decide +kernel) rfl rfl rfl (by decide +kernel)
set_option maxRecDepth 65536 in
theorem w_c34 : (Jvm.Cond.code ({ cls := "java/util/ArrayDeque", name := "pollFirst", desc := "()Ljava/lang/Object;" } : Jvm.MethodName) jdk_21_method_20_code (4 : Nat) (Option.some (Jvm.ClassFile.FieldType.object "java/lang/Object"))).before args0 about1 = true := code_word (m := ⟨15, 5⟩) (meth := k15m5) (c := k15c5) (by decide +kernel) rfl rfl rfl (by decide +kernel)
set_option maxRecDepth 65536 in
theorem w_c35 : (Jvm.Cond.code ({ cls := "java/util/ArrayDeque", name := "pollLast", desc := "()Ljava/lang/Object;" } : Jvm.MethodName) jdk_21_method_21_code (4 : Nat) (Option.some (Jvm.ClassFile.FieldType.object "java/lang/Object"))).before args0 about1 = true := code_word (m := ⟨15, 6⟩) (meth := k15m6) (c := k15c6) (by decide +kernel) rfl rfl rfl (by decide +kernel)
set_option maxRecDepth 65536 in
theorem w_c36 : (Jvm.Cond.code ({ cls := "java/util/PriorityQueue", name := "add", desc := "(Ljava/lang/Object;)Z" } : Jvm.MethodName) jdk_2655_method_13_code (2 : Nat) (Option.some Jvm.ClassFile.FieldType.boolean)).before args0 about1 = true := code_word (m := ⟨17, 3⟩) (meth := k17m3) (c := k17c3) (by decide +kernel) rfl rfl rfl (by decide +kernel)
set_option maxRecDepth 65536 in
theorem w_c37 : (Jvm.Cond.code ({ cls := "java/util/PriorityQueue", name := "offer", desc := "(Ljava/lang/Object;)Z" } : Jvm.MethodName) jdk_2655_method_14_code (3 : Nat) (Option.some Jvm.ClassFile.FieldType.boolean)).before args0 about1 = true := code_word (m := ⟨17, 4⟩) (meth := k17m4) (c := k17c4) (by decide +kernel) rfl rfl rfl (by decide +kernel)
set_option maxRecDepth 65536 in
theorem w_c38 : (Jvm.Cond.code ({ cls := "java/util/PriorityQueue", name := "siftUp", desc := "(ILjava/lang/Object;)V" } : Jvm.MethodName) jdk_2655_method_27_code (3 : Nat) (Option.none : Option Jvm.ClassFile.FieldType)).before args0 about1 = true := code_word (m := ⟨17, 7⟩) (meth := k17m7) (c := k17c7) (by decide +kernel) rfl rfl rfl (by decide +kernel)
set_option maxRecDepth 65536 in
theorem w_c39 : (Jvm.Cond.code ({ cls := "java/util/PriorityQueue", name := "siftUpUsingComparator", desc := "(ILjava/lang/Object;[Ljava/lang/Object;Ljava/util/Comparator;)V" } : Jvm.MethodName) jdk_2655_method_29_code (6 : Nat) (Option.none : Option Jvm.ClassFile.FieldType)).before args0 about1 = true := code_word (m := ⟨17, 8⟩) (meth := k17m8) (c := k17c8) (by decide +kernel) rfl rfl rfl (by decide +kernel)
set_option maxRecDepth 65536 in
theorem w_c40 : (Jvm.Cond.code ({ cls := "java/util/PriorityQueue", name := "poll", desc := "()Ljava/lang/Object;" } : Jvm.MethodName) jdk_2655_method_25_code (6 : Nat) (Option.some (Jvm.ClassFile.FieldType.object "java/lang/Object"))).before args0 about1 = true := code_word (m := ⟨17, 6⟩) (meth := k17m6) (c := k17c6) (by decide +kernel) rfl rfl rfl (by decide +kernel)
set_option maxRecDepth 65536 in
theorem w_c41 : (Jvm.Cond.code ({ cls := "java/util/PriorityQueue", name := "siftDownUsingComparator", desc := "(ILjava/lang/Object;[Ljava/lang/Object;ILjava/util/Comparator;)V" } : Jvm.MethodName) jdk_2655_method_32_code (9 : Nat) (Option.none : Option Jvm.ClassFile.FieldType)).before args0 about1 = true := code_word (m := ⟨17, 9⟩) (meth := k17m9) (c := k17c9) (by decide +kernel) rfl rfl rfl (by decide +kernel)
def codes1 : List Jvm.Cond := [Jvm.Cond.code x code maxLocals ret, Jvm.Cond.code ({ cls := "com/example/framewheel/framewheel/core/PhaseQueueHasDelayedPinLaw", name := "<init>", desc := "()V" } : Jvm.MethodName) method_1_code (1 : Nat) (Option.none : Option Jvm.ClassFile.FieldType), Jvm.Cond.code ({ cls := "java/lang/Object", name := "<init>", desc := "()V" } : Jvm.MethodName) object_method_1_code (1 : Nat) (Option.none : Option Jvm.ClassFile.FieldType), Jvm.Cond.code ({ cls := "com/example/framewheel/framewheel/core/PhaseQueue", name := "<init>", desc := "()V" } : Jvm.MethodName) prog_9_method_1_code (1 : Nat) (Option.none : Option Jvm.ClassFile.FieldType), Jvm.Cond.code ({ cls := "com/example/framewheel/framewheel/core/TimeOrderedQueue", name := "<init>", desc := "(Ljava/util/Comparator;)V" } : Jvm.MethodName) prog_15_method_1_code (2 : Nat) (Option.none : Option Jvm.ClassFile.FieldType), Jvm.Cond.code ({ cls := "java/util/ArrayDeque", name := "<init>", desc := "()V" } : Jvm.MethodName) jdk_21_method_3_code (1 : Nat) (Option.none : Option Jvm.ClassFile.FieldType), Jvm.Cond.code ({ cls := "java/util/AbstractCollection", name := "<init>", desc := "()V" } : Jvm.MethodName) jdk_22_method_1_code (1 : Nat) (Option.none : Option Jvm.ClassFile.FieldType), Jvm.Cond.code ({ cls := "java/util/PriorityQueue", name := "<init>", desc := "(Ljava/util/Comparator;)V" } : Jvm.MethodName) jdk_2655_method_3_code (2 : Nat) (Option.none : Option Jvm.ClassFile.FieldType), Jvm.Cond.code ({ cls := "java/util/PriorityQueue", name := "<init>", desc := "(ILjava/util/Comparator;)V" } : Jvm.MethodName) jdk_2655_method_4_code (3 : Nat) (Option.none : Option Jvm.ClassFile.FieldType), Jvm.Cond.code ({ cls := "java/util/AbstractQueue", name := "<init>", desc := "()V" } : Jvm.MethodName) jdk_2435_method_1_code (1 : Nat) (Option.none : Option Jvm.ClassFile.FieldType), Jvm.Cond.code ({ cls := "com/example/framewheel/framewheel/core/PhaseQueue", name := "hasDelayed", desc := "()Z" } : Jvm.MethodName) prog_9_method_4_code (1 : Nat) (Option.some Jvm.ClassFile.FieldType.boolean), Jvm.Cond.code ({ cls := "com/example/framewheel/framewheel/core/PhaseQueue", name := "add", desc := "(Lcom/example/framewheel/framewheel/core/FrameCallback;JJLjava/lang/Runnable;)V" } : Jvm.MethodName) prog_9_method_3_code (8 : Nat) (Option.none : Option Jvm.ClassFile.FieldType), Jvm.Cond.code ({ cls := "com/example/framewheel/framewheel/core/PhaseQueue", name := "slot", desc := "(I)I" } : Jvm.MethodName) prog_9_method_9_code (2 : Nat) (Option.some Jvm.ClassFile.FieldType.int), Jvm.Cond.code ({ cls := "com/example/framewheel/framewheel/core/PhaseQueue", name := "takeFirstDue", desc := "(JJ)Lcom/example/framewheel/framewheel/core/FrameCallback;" } : Jvm.MethodName) prog_9_method_6_code (6 : Nat) (Option.some (Jvm.ClassFile.FieldType.object "com/example/framewheel/framewheel/core/FrameCallback")), Jvm.Cond.code ({ cls := "com/example/framewheel/framewheel/core/PhaseQueueHasDelayedPinLaw", name := "takenDelayed", desc := "(Lcom/example/framewheel/framewheel/core/FrameCallback;Ljava/lang/Object;Ljava/lang/Object;Ljava/lang/Object;ZZZ)I" } : Jvm.MethodName) method_5_code (7 : Nat) (Option.some Jvm.ClassFile.FieldType.int), Jvm.Cond.code ({ cls := "com/example/framewheel/framewheel/core/PhaseQueue$Delayed", name := "<init>", desc := "(Lcom/example/framewheel/framewheel/core/FrameCallback;JJLjava/lang/Runnable;)V" } : Jvm.MethodName) prog_10_method_1_code (7 : Nat) (Option.none : Option Jvm.ClassFile.FieldType), Jvm.Cond.code ({ cls := "java/lang/Record", name := "<init>", desc := "()V" } : Jvm.MethodName) jdk_30_method_1_code (1 : Nat) (Option.none : Option Jvm.ClassFile.FieldType), Jvm.Cond.code ({ cls := "com/example/framewheel/framewheel/core/TimeOrderedQueue", name := "add", desc := "(Ljava/lang/Object;)V" } : Jvm.MethodName) prog_15_method_2_code (3 : Nat) (Option.none : Option Jvm.ClassFile.FieldType), Jvm.Cond.code ({ cls := "com/example/framewheel/framewheel/core/TimeOrderedQueue", name := "ordersBeforeLastOfRun", desc := "(Ljava/lang/Object;)Z" } : Jvm.MethodName) prog_15_method_3_code (3 : Nat) (Option.some Jvm.ClassFile.FieldType.boolean), Jvm.Cond.code ({ cls := "java/util/ArrayDeque", name := "peekLast", desc := "()Ljava/lang/Object;" } : Jvm.MethodName) jdk_21_method_25_code (2 : Nat) (Option.some (Jvm.ClassFile.FieldType.object "java/lang/Object")), Jvm.Cond.code ({ cls := "java/util/ArrayDeque", name := "dec", desc := "(II)I" } : Jvm.MethodName) jdk_21_method_7_code (2 : Nat) (Option.some Jvm.ClassFile.FieldType.int), Jvm.Cond.code ({ cls := "java/util/ArrayDeque", name := "elementAt", desc := "([Ljava/lang/Object;I)Ljava/lang/Object;" } : Jvm.MethodName) jdk_21_method_10_code (2 : Nat) (Option.some (Jvm.ClassFile.FieldType.object "java/lang/Object")), Jvm.Cond.code ({ cls := "java/util/ArrayDeque", name := "addLast", desc := "(Ljava/lang/Object;)V" } : Jvm.MethodName) jdk_21_method_13_code (3 : Nat) (Option.none : Option Jvm.ClassFile.FieldType), Jvm.Cond.code ({ cls := "java/util/ArrayDeque", name := "inc", desc := "(II)I" } : Jvm.MethodName) jdk_21_method_6_code (2 : Nat) (Option.some Jvm.ClassFile.FieldType.int), Jvm.Cond.code ({ cls := "com/example/framewheel/framewheel/core/TimeOrderedQueue", name := "peek", desc := "()Ljava/lang/Object;" } : Jvm.MethodName) prog_15_method_4_code (4 : Nat) (Option.some (Jvm.ClassFile.FieldType.object "java/lang/Object")), Jvm.Cond.code ({ cls := "java/util/ArrayDeque", name := "peekFirst", desc := "()Ljava/lang/Object;" } : Jvm.MethodName) jdk_21_method_24_code (1 : Nat) (Option.some (Jvm.ClassFile.FieldType.object "java/lang/Object")), Jvm.Cond.code ({ cls := "java/util/PriorityQueue", name := "peek", desc := "()Ljava/lang/Object;" } : Jvm.MethodName) jdk_2655_method_15_code (1 : Nat) (Option.some (Jvm.ClassFile.FieldType.object "java/lang/Object")), Jvm.Cond.code ({ cls := "com/example/framewheel/framewheel/core/PhaseQueue", name := "compareByDueTime", desc := "(Lcom/example/framewheel/framewheel/core/PhaseQueue$Delayed;Lcom/example/framewheel/framewheel/core/PhaseQueue$Delayed;)I" } : Jvm.MethodName) prog_9_method_2_code (2 : Nat) (Option.some Jvm.ClassFile.FieldType.int), Jvm.Cond.code ({ cls := "com/example/framewheel/framewheel/core/PhaseQueue$Delayed", name := "dueNanos", desc := "()J" } : Jvm.MethodName) prog_10_method_6_code (1 : Nat) (Option.some Jvm.ClassFile.FieldType.long), Jvm.Cond.code ({ cls := "java/lang/Long", name := "compare", desc := "(JJ)I" } : Jvm.MethodName) jdk_35_method_42_code (4 : Nat) (Option.some Jvm.ClassFile.FieldType.int), Jvm.Cond.code ({ cls := "com/example/framewheel/framewheel/core/PhaseQueue", name := "ringFirstOrdersBefore", desc := "(Lcom/example/framewheel/framewheel/core/PhaseQueue$Delayed;)Z" } : Jvm.MethodName) prog_9_method_8_code (4 : Nat) (Option.some Jvm.ClassFile.FieldType.boolean), Jvm.Cond.code ({ cls := "com/example/framewheel/framewheel/core/PhaseQueue$Delayed", name := "sequence", desc := "()J" } : Jvm.MethodName) prog_10_method_7_code (1 : Nat) (Option.some Jvm.ClassFile.FieldType.long), Jvm.Cond.code ({ cls := "com/example/framewheel/framewheel/core/PhaseQueue$Delayed", name := "work", desc := "()Lcom/example/framewheel/framewheel/core/FrameCallback;" } : Jvm.MethodName) prog_10_method_5_code (1 : Nat) (Option.some (Jvm.ClassFile.FieldType.object "com/example/framewheel/framewheel/core/FrameCallback")), Jvm.Cond.code ({ cls := "com/example/framewheel/framewheel/core/TimeOrderedQueue", name := "poll", desc := "()Ljava/lang/Object;" } : Jvm.MethodName) prog_15_method_5_code (2 : Nat) (Option.some (Jvm.ClassFile.FieldType.object "java/lang/Object")), Jvm.Cond.code ({ cls := "java/util/ArrayDeque", name := "pollFirst", desc := "()Ljava/lang/Object;" } : Jvm.MethodName) jdk_21_method_20_code (4 : Nat) (Option.some (Jvm.ClassFile.FieldType.object "java/lang/Object")), Jvm.Cond.code ({ cls := "java/util/ArrayDeque", name := "pollLast", desc := "()Ljava/lang/Object;" } : Jvm.MethodName) jdk_21_method_21_code (4 : Nat) (Option.some (Jvm.ClassFile.FieldType.object "java/lang/Object")), Jvm.Cond.code ({ cls := "java/util/PriorityQueue", name := "add", desc := "(Ljava/lang/Object;)Z" } : Jvm.MethodName) jdk_2655_method_13_code (2 : Nat) (Option.some Jvm.ClassFile.FieldType.boolean), Jvm.Cond.code ({ cls := "java/util/PriorityQueue", name := "offer", desc := "(Ljava/lang/Object;)Z" } : Jvm.MethodName) jdk_2655_method_14_code (3 : Nat) (Option.some Jvm.ClassFile.FieldType.boolean), Jvm.Cond.code ({ cls := "java/util/PriorityQueue", name := "siftUp", desc := "(ILjava/lang/Object;)V" } : Jvm.MethodName) jdk_2655_method_27_code (3 : Nat) (Option.none : Option Jvm.ClassFile.FieldType), Jvm.Cond.code ({ cls := "java/util/PriorityQueue", name := "siftUpUsingComparator", desc := "(ILjava/lang/Object;[Ljava/lang/Object;Ljava/util/Comparator;)V" } : Jvm.MethodName) jdk_2655_method_29_code (6 : Nat) (Option.none : Option Jvm.ClassFile.FieldType), Jvm.Cond.code ({ cls := "java/util/PriorityQueue", name := "poll", desc := "()Ljava/lang/Object;" } : Jvm.MethodName) jdk_2655_method_25_code (6 : Nat) (Option.some (Jvm.ClassFile.FieldType.object "java/lang/Object")), Jvm.Cond.code ({ cls := "java/util/PriorityQueue", name := "siftDownUsingComparator", desc := "(ILjava/lang/Object;[Ljava/lang/Object;ILjava/util/Comparator;)V" } : Jvm.MethodName) jdk_2655_method_32_code (9 : Nat) (Option.none : Option Jvm.ClassFile.FieldType)]
set_option maxRecDepth 65536 in
theorem codes_eq : words1.filter isCode = codes1 := rfl
theorem w_codes : ∀ c ∈ words1.filter isCode, c.before args0 about1 = true := by
  rw [codes_eq]
  intro c hc
  simp only [codes1, List.mem_cons, List.not_mem_nil, or_false] at hc
  rcases hc with rfl | rfl | rfl | rfl | rfl | rfl | rfl | rfl | rfl | rfl | rfl | rfl | rfl | rfl | rfl | rfl | rfl | rfl | rfl | rfl | rfl | rfl | rfl | rfl | rfl | rfl | rfl | rfl | rfl | rfl | rfl | rfl | rfl | rfl | rfl | rfl | rfl | rfl | rfl | rfl | rfl | rfl
  · exact w_c0
  · exact w_c1
  · exact w_c2
  · exact w_c3
  · exact w_c4
  · exact w_c5
  · exact w_c6
  · exact w_c7
  · exact w_c8
  · exact w_c9
  · exact w_c10
  · exact w_c11
  · exact w_c12
  · exact w_c13
  · exact w_c14
  · exact w_c15
  · exact w_c16
  · exact w_c17
  · exact w_c18
  · exact w_c19
  · exact w_c20
  · exact w_c21
  · exact w_c22
  · exact w_c23
  · exact w_c24
  · exact w_c25
  · exact w_c26
  · exact w_c27
  · exact w_c28
  · exact w_c29
  · exact w_c30
  · exact w_c31
  · exact w_c32
  · exact w_c33
  · exact w_c34
  · exact w_c35
  · exact w_c36
  · exact w_c37
  · exact w_c38
  · exact w_c39
  · exact w_c40
  · exact w_c41
set_option maxRecDepth 65536 in
theorem w_t1 : (words1.take 24).all (fun c => isCode c || c.before args0 about1) = true := by decide +kernel
set_option maxRecDepth 65536 in
theorem w_t2 : ((words1.drop 24).take 24).all (fun c => isCode c || c.before args0 about1) = true := by decide +kernel
set_option maxRecDepth 65536 in
theorem w_t3 : (((words1.drop 24).drop 24).take 24).all (fun c => isCode c || c.before args0 about1) = true := by decide +kernel
set_option maxRecDepth 65536 in
theorem w_t4 : ((((words1.drop 24).drop 24).drop 24).take 24).all (fun c => isCode c || c.before args0 about1) = true := by decide +kernel
set_option maxRecDepth 65536 in
theorem w_t5 : (((((words1.drop 24).drop 24).drop 24).drop 24).take 24).all (fun c => isCode c || c.before args0 about1) = true := by decide +kernel
set_option maxRecDepth 65536 in
theorem w_t6 : ((((((words1.drop 24).drop 24).drop 24).drop 24).drop 24).take 24).all (fun c => isCode c || c.before args0 about1) = true := by decide +kernel
set_option maxRecDepth 65536 in
theorem w_t7 : (((((((words1.drop 24).drop 24).drop 24).drop 24).drop 24).drop 24).take 24).all (fun c => isCode c || c.before args0 about1) = true := by decide +kernel
set_option maxRecDepth 65536 in
theorem w_t8 : ((((((((words1.drop 24).drop 24).drop 24).drop 24).drop 24).drop 24).drop 24).take 24).all (fun c => isCode c || c.before args0 about1) = true := by decide +kernel
set_option maxRecDepth 65536 in
theorem w_t9 : (((((((((words1.drop 24).drop 24).drop 24).drop 24).drop 24).drop 24).drop 24).drop 24).take 24).all (fun c => isCode c || c.before args0 about1) = true := by decide +kernel
set_option maxRecDepth 65536 in
theorem w_t10 : ((((((((((words1.drop 24).drop 24).drop 24).drop 24).drop 24).drop 24).drop 24).drop 24).drop 24).take 24).all (fun c => isCode c || c.before args0 about1) = true := by decide +kernel
set_option maxRecDepth 65536 in
theorem w_t11 : ((((((((((words1.drop 24).drop 24).drop 24).drop 24).drop 24).drop 24).drop 24).drop 24).drop 24).drop 24).all (fun c => isCode c || c.before args0 about1) = true := by decide +kernel
theorem w_tables : (allAtoms (Jvm.Cond.code x code maxLocals ret :: tables_1)).before args0 about1 = true := by
  rw [allAtoms_all]
  show words1.all (fun c => c.before args0 about1) = true
  refine all_split ?_ w_codes
  rw [← List.take_append_drop 24 words1, List.all_append, w_t1, ← List.take_append_drop 24 (words1.drop 24), List.all_append, w_t2, ← List.take_append_drop 24 ((words1.drop 24).drop 24), List.all_append, w_t3, ← List.take_append_drop 24 (((words1.drop 24).drop 24).drop 24), List.all_append, w_t4, ← List.take_append_drop 24 ((((words1.drop 24).drop 24).drop 24).drop 24), List.all_append, w_t5, ← List.take_append_drop 24 (((((words1.drop 24).drop 24).drop 24).drop 24).drop 24), List.all_append, w_t6, ← List.take_append_drop 24 ((((((words1.drop 24).drop 24).drop 24).drop 24).drop 24).drop 24), List.all_append, w_t7, ← List.take_append_drop 24 (((((((words1.drop 24).drop 24).drop 24).drop 24).drop 24).drop 24).drop 24), List.all_append, w_t8, ← List.take_append_drop 24 ((((((((words1.drop 24).drop 24).drop 24).drop 24).drop 24).drop 24).drop 24).drop 24), List.all_append, w_t9, ← List.take_append_drop 24 (((((((((words1.drop 24).drop 24).drop 24).drop 24).drop 24).drop 24).drop 24).drop 24).drop 24), List.all_append, w_t10, w_t11]
  rfl
set_option maxRecDepth 65536 in
theorem w_case : (Jvm.Cond.and given_1 narrow_1).before args0 about1 = true := by decide +kernel
theorem w_applies : (headSpec (Jvm.Cond.code x code maxLocals ret :: tables_1) room_1).applies x e0.platform about1 = true :=
  (Spec.applies_iff w_frames).mpr ⟨w_running, w_runnable, w_alone, w_named, w_hears, w_ripe, w_room, w_tables⟩
theorem atStart : AtStart classFile x code maxLocals ret World_1 tables_1 room_1 Calls_1 rest_1 Pre_1 launch0 p0 e0 about1 theMethod args0 below0 :=
  ⟨lists_1, trivial, launch0.admits_env _ _ _, launch0.least_env, fairChoices_fair.cas, fairChoices_fair.clock, w_frames, w_args, w_heap, w_applies, trivial, trivial, w_case⟩
end start1
theorem witness_1 : WitnessClaimed_1 := ⟨start1.p0, start1.e0, start1.about1, start1.theMethod, start1.args0, start1.below0, start1.atStart⟩
end Jvm.Pilot.@@N@@
