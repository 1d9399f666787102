import JvmDerived
import JvmDerived.Pilot.@@N@@Statement
import JvmDerived.Pilot.@@N@@Code
set_option linter.unusedVariables false
set_option linter.unusedSimpArgs false
namespace Jvm.OwnRun
open Sem ClassFile Op Lib Jvm.Stand Jvm.Free Jvm.LawKit Jvm.RoadKit
/-- the run that stands at A comes to the end of this invocation, and Q holds there -/
def Run (p : Program) (e : Env) (below : List Frame) (s : State) (Q : Option Value → Heap → List Loc → Prop) (k n : Nat) (A : State) : Prop :=
  ∃ s₂ o, Steps p.tables e below A s₂ ∧ s₂.status = .running ∧ Ended s₂ below o ∧ ∃ v L, o = .returned v ∧ Q v s₂.heap L ∧ FrameEnd s o s₂ L k n
/-- the contract of a body at one heap and one row of arguments -/
def Ctr (l : Launch) (Z : State) (y : MethodName) (bytes : ByteArray) (ml : Nat) (ret : Option FieldType) (rm : Room) (as' : Array Value) (h0 : Heap) (Q : Option Value → Heap → List Loc → Prop) : Prop :=
  ∀ ws : List Jvm.Cond, MetFree l y (head1 (Jvm.Cond.code y bytes ml ret :: ws) rm) (fun a U => a = as' ∧ Z.Warmed39 U.vm ∧ U.heap = h0) (fun _ _ _ _ _ => True) (fun _ U o U' => ∃ v L, o = .returned v ∧ Q v U'.heap L ∧ FrameEnd U o U' L rm.cells rm.slots)
section Laws
variable {p : Program} {l : Launch} {e : Env} {R : Room} {s : State} {m : MethodId} {args : Array Value} {below : List Frame} {meth : Method} {c : Code} {T : State} {locs : List Loc} {cells slots : Nat} {Z : State} {a0 : Array Value} {h h' : Heap}
variable {Q Q' : Option Value → Heap → List Loc → Prop} {k n : Nat}
theorem Run.st {A B : State} (f : ∀ t, Steps p.tables e below B t → Steps p.tables e below A t) (r : Run p e below s Q k n B) : Run p e below s Q k n A := by
  obtain ⟨s₂, o, h1, r⟩ := r
  exact ⟨s₂, o, f _ h1, r⟩
theorem Ctr.of {y : MethodName} {bytes : ByteArray} {ml : Nat} {ret : Option FieldType} {rm : Room} {as' : Array Value} {h0 : Heap} {Ls : Array Slot} (hpl : plainFor y = true) (hef : ∀ m, entryFrame m as' ml = mkF m 0 Ls [])
    (body : ∀ (p : Program) (e : Env) (s : State) (m : MethodId) (below : List Frame) (meth : Method) (c : Code) (T : State), p.tables.exec = Jvm.exec → c.code = bytes → c.maxLocals = ml → s.vm.findClass y.cls = some m.cls → meth.name = y.name → meth.sig.returnType = ret → meth.locks = false → Z.Warmed39 s.vm → T.heap = h0 →
      Stand p l e rm s m as' below meth c T [] 0 0 → Run p e below s Q rm.cells rm.slots (T.setTop (mkF m 0 Ls []))) : Ctr l Z y bytes ml ret rm as' h0 Q := by
  intro ws
  refine MetFree.of_bodySF hpl hisR ?_
  intro p e s m args below meth c s₁ Bd hml0 hP hK
  obtain ⟨rfl, hZ, hh⟩ := hP
  have q := body p e s m below meth c s₁ Bd.exec Bd.bytes hml0 (findClass_of_methodNamed Bd.named) (name_of_methodNamed Bd.named Bd.method).1 Bd.returns Bd.notSynchronized hZ (by rw [← hh, Bd.state]; rfl) (Stand.of_body Bd)
  rw [hef]
  exact q
theorem Run.end_ (X : Stand p l e R s m args below meth c T locs cells slots) (hlk : meth.locks = false) (eT : T.heap = h) {v : Option Value} (hv : meth.sig.returnType = none → v = none) (hc : cells ≤ k) (hn : slots ≤ n) (hQ : Q v h locs) {A : State}
    (f : ∀ fs, (∀ (f : JFrame) (acts : List Action), f.method = m → f.locked = none → f.entered = [] → (doReturn e (T.setTop f) acts v).1 = T.setFrames fs) → Steps p.tables e below A (T.setFrames fs)) : Run p e below s Q k n A := by
  obtain ⟨fs, hr, hrun, hended, hW, hsame⟩ := X.leave (v := v) hv
  exact ⟨_, _, f fs hr, hrun, hended, _, _, rfl, by rw [show (T.setFrames fs).heap = h from eT]; exact hQ, ⟨_, rfl⟩, hW, hsame.mono hc hn⟩
theorem Run.retN (X : Stand p l e R s m args below meth c T locs cells slots) (hx : p.tables.exec = Jvm.exec) (hlk : meth.locks = false) (eT : T.heap = h) {t : FieldType} (hret : meth.sig.returnType = some t) (ht : t = .boolean ∨ t = .byte ∨ t = .char ∨ t = .short) {pc : Nat} {Ls : Array Slot} {z : Int32} {rest : List Value}
    {z' : Int32} (hz : nar t z = z') (hd : decode c.code pc = .ok (.ireturn, 1)) (hc : cells ≤ k) (hn : slots ≤ n) (hQ : Q (some (.int z')) h locs) : Run p e below s Q k n (T.setTop (mkF m pc Ls (.int z :: rest))) :=
  Run.end_ X hlk eT (v := some (.int (nar t z))) (fun q => by rw [hret] at q; cases q) hc hn (hz ▸ hQ) fun fs hr => RoadKit.retN X hx hret ht hd hr
theorem Run.retI (X : Stand p l e R s m args below meth c T locs cells slots) (hx : p.tables.exec = Jvm.exec) (hlk : meth.locks = false) (eT : T.heap = h) (hret : meth.sig.returnType = some .int) {pc : Nat} {Ls : Array Slot} {z : Int32} {rest : List Value}
    (hd : decode c.code pc = .ok (.ireturn, 1)) (hc : cells ≤ k) (hn : slots ≤ n) (hQ : Q (some (.int z)) h locs) : Run p e below s Q k n (T.setTop (mkF m pc Ls (.int z :: rest))) :=
  Run.end_ X hlk eT (v := some (.int z)) (fun q => by rw [hret] at q; cases q) hc hn hQ fun fs hr => RoadKit.retOut X hx hret rfl (Or.inl ⟨rfl, Or.inl rfl, z, rfl⟩) hd hr
theorem Run.retA (X : Stand p l e R s m args below meth c T locs cells slots) (hx : p.tables.exec = Jvm.exec) (hlk : meth.locks = false) (eT : T.heap = h) {t : FieldType} (hret : meth.sig.returnType = some t) (ht : t.isReference = true) {w : Value} (hw : w.isRef = true) (hnr : narrow t w = w) {pc : Nat} {Ls : Array Slot} {rest : List Value}
    (hd : decode c.code pc = .ok (.areturn, 1)) (hc : cells ≤ k) (hn : slots ≤ n) (hQ : Q (some w) h locs) : Run p e below s Q k n (T.setTop (mkF m pc Ls (w :: rest))) :=
  Run.end_ X hlk eT (v := some w) (fun q => by rw [hret] at q; cases q) hc hn hQ fun fs hr => RoadKit.retOut X hx hret hnr (Or.inr (Or.inr (Or.inr (Or.inr ⟨rfl, ht, hw⟩)))) hd hr
theorem Run.retV (X : Stand p l e R s m args below meth c T locs cells slots) (hx : p.tables.exec = Jvm.exec) (hlk : meth.locks = false) (eT : T.heap = h) (hret : meth.sig.returnType = none) {pc : Nat} {Ls : Array Slot}
    (hd : decode c.code pc = .ok (.return_, 1)) (hc : cells ≤ k) (hn : slots ≤ n) (hQ : Q none h locs) : Run p e below s Q k n (T.setTop (mkF m pc Ls [])) :=
  Run.end_ X hlk eT (v := none) (fun _ => rfl) hc hn hQ fun fs hr => X.returnOut hx hret hd hr
/-- a call's premises that are alike for every kind of call -/
theorem Ctr.back {y : MethodName} {bytes : ByteArray} {ml : Nat} {ret : Option FieldType} {rm : Room} {as' : Array Value} {len W : Nat} (K : Ctr l Z y bytes ml ret rm as' h Q') (hZ : Z.Warmed39 s.vm) (wc : (Jvm.Cond.code y bytes ml ret).before a0 Z = true) (wz : (Jvm.Cond.initialized y.cls).before a0 Z = true) (hf : rm.frames + 1 ≤ R.frames) (hl : W + (ml + 11) + rm.locals ≤ R.locals) :
    Back l R p e below s args y len W (fun A a => a = as' ∧ A.U.heap = h ∧ A.cells + rm.cells ≤ R.cells ∧ A.slots + rm.slots ≤ R.slots) (fun A _ v B => ∃ L, Q' v B.U.heap L ∧ B.locs = A.locs ++ L ∧ B.cells = A.cells + rm.cells ∧ B.slots = A.slots + rm.slots) := backOf (K []) hZ wc wz hf hl
theorem Run.callS (X : Stand p l e R s m args below meth c T locs cells slots) (hx : p.tables.exec = Jvm.exec) (hZ : Z.Warmed39 s.vm) (eT : T.heap = h) {own : String} {index : Nat} {y : MethodName} {bytes : ByteArray} {ml : Nat} {ret : Option FieldType} {rm : Room}
    (hown : s.vm.findClass own = some m.cls) (w1 : (Jvm.Cond.methodLink own index y).before a0 Z = true) (w2 : (Jvm.Cond.static y).before a0 Z = true) (w3 : (Jvm.Cond.initialized y.cls).before a0 Z = true) (w4 : (Jvm.Cond.code y bytes ml ret).before a0 Z = true)
    (hy : y.cls ≠ "java/lang/invoke/MethodHandle" ∧ y.cls ≠ "java/lang/invoke/VarHandle") {argsL rest : List Value} (K : Ctr l Z y bytes ml ret rm argsL.toArray h Q') {ps : List FieldType} {r : Option FieldType} (hpd : parseMethodDescriptor y.desc = some ⟨ps, r⟩) (hlen : argsL.length = ps.length)
    {pc : Nat} {Ls : Array Slot} (hsz : Ls.size = c.maxLocals) {W : Nat} (hW : (rest.map fun v => v.category).sum = W) (hf : rm.frames + 1 ≤ R.frames) (hl : W + (ml + 11) + rm.locals ≤ R.locals) (hc : cells + rm.cells ≤ R.cells) (hs : slots + rm.slots ≤ R.slots)
    (hd : decode c.code pc = .ok (.invokestatic index, 3)) {st : List Value} (hst : st = argsL.reverse ++ rest)
    (kk : ∀ (T' : State) (v : Option Value) (L : List Loc), Stand p l e R s m args below meth c T' (locs ++ L) (cells + rm.cells) (slots + rm.slots) → Q' v T'.heap L → Run p e below s Q k n (T'.setTop (mkF m (pc + 3) Ls (v.toList ++ rest)))) :
    Run p e below s Q k n (T.setTop (mkF m pc Ls st)) := by
  obtain ⟨v, _, ⟨T', L', k', n'⟩, -, X', ⟨L, hQ, l1, y1, z1⟩, st1⟩ := Jvm.LawKit.callS X hx (y := y) hown (mvT hZ w1) (mvT hZ w2) (mvT hZ w3) (mvT hZ w4) hy (K.back hZ w4 w3 hf hl) (g := mkF m pc Ls st) rfl hsz (argsL := argsL) (rest := rest) (lenOf hpd hlen) hst (by show 2 * 0 + _ ≤ _; rw [hW]; omega) hd (fun _ _ => ⟨rfl, eT, hc, hs⟩)
  dsimp only [Pt.U, Pt.locs, Pt.cells, Pt.slots] at X' l1 y1 z1 st1 hQ
  subst l1 y1 z1
  exact Run.st st1 (kk T' v L X' hQ)
theorem Run.callC (X : Stand p l e R s m args below meth c T locs cells slots) (hx : p.tables.exec = Jvm.exec) (hZ : Z.Warmed39 s.vm) (eT : T.heap = h) {own : String} {index : Nat} {y : MethodName} {bytes : ByteArray} {ml : Nat} {rm : Room}
    (hown : s.vm.findClass own = some m.cls) (hy1 : y.name = "<init>") (w1 : (Jvm.Cond.methodLink own index y).before a0 Z = true) (w2 : (Jvm.Cond.instanceMethod y).before a0 Z = true) (w3 : (Jvm.Cond.initialized y.cls).before a0 Z = true) (w4 : (Jvm.Cond.code y bytes ml none).before a0 Z = true)
    (hy : y.cls ≠ "java/lang/invoke/MethodHandle" ∧ y.cls ≠ "java/lang/invoke/VarHandle") {a : Addr} {argsL rest : List Value} (K : Ctr l Z y bytes ml none rm (.ref a :: argsL).toArray h Q') {ps : List FieldType} {r : Option FieldType} (hpd : parseMethodDescriptor y.desc = some ⟨ps, r⟩) (hlen : argsL.length = ps.length)
    {pc : Nat} {Ls : Array Slot} (hsz : Ls.size = c.maxLocals) {W : Nat} (hW : (rest.map fun v => v.category).sum = W) (hf : rm.frames + 1 ≤ R.frames) (hl : W + (ml + 11) + rm.locals ≤ R.locals) (hc : cells + rm.cells ≤ R.cells) (hs : slots + rm.slots ≤ R.slots)
    (hd : decode c.code pc = .ok (.invokespecial index, 3)) {st : List Value} (hst : st = argsL.reverse ++ .ref a :: rest)
    (kk : ∀ (T' : State) (v : Option Value) (L : List Loc), Stand p l e R s m args below meth c T' (locs ++ L) (cells + rm.cells) (slots + rm.slots) → Q' v T'.heap L → Run p e below s Q k n (T'.setTop (mkF m (pc + 3) Ls (v.toList ++ rest)))) :
    Run p e below s Q k n (T.setTop (mkF m pc Ls st)) := by
  obtain ⟨v, _, ⟨T', L', k', n'⟩, -, X', ⟨L, hQ, l1, y1, z1⟩, st1⟩ := X.specialBack hx (y := y) hy1 hown (mvT hZ w1) (mvT hZ w2) (mvT hZ w4) hy (K.back hZ w4 w3 hf hl) (g := mkF m pc Ls st) rfl hsz (Steps.refl _) (a := a) (argsL := argsL) (rest := rest) (lenOf hpd hlen) hst (by show 2 * 0 + _ ≤ _; rw [hW]; omega) hd (fun _ _ => ⟨rfl, eT, hc, hs⟩)
  dsimp only [Pt.U, Pt.locs, Pt.cells, Pt.slots] at X' l1 y1 z1 st1 hQ
  subst l1 y1 z1
  exact Run.st (fun t q => st1.trans q) (kk T' v L X' hQ)
/-- 'invokevirtual', the body that the receiver's class selects -/
theorem Run.callV (X : Stand p l e R s m args below meth c T locs cells slots) (hx : p.tables.exec = Jvm.exec) (hZ : Z.Warmed39 s.vm) (eT : T.heap = h) {own C : String} {index : Nat} {y z : MethodName} {bytes : ByteArray} {ml : Nat} {ret : Option FieldType} {rm : Room}
    (hown : s.vm.findClass own = some m.cls) (w1 : (Jvm.Cond.methodLink own index y).before a0 Z = true) (w2 : (Jvm.Cond.declares y).before a0 Z = true) (hnf : NotFace s y) (w5 : (Jvm.Cond.selects C y z).before a0 Z = true) (w6 : (Jvm.Cond.instanceMethod z).before a0 Z = true) (w3 : (Jvm.Cond.initialized z.cls).before a0 Z = true) (w4 : (Jvm.Cond.code z bytes ml ret).before a0 Z = true)
    (hy : y.cls ≠ "java/lang/invoke/MethodHandle" ∧ y.cls ≠ "java/lang/invoke/VarHandle") {a : Addr} (E : Exa Z h a C) {argsL rest : List Value} (K : Ctr l Z z bytes ml ret rm (.ref a :: argsL).toArray h Q') {ps : List FieldType} {r : Option FieldType} (hpd : parseMethodDescriptor y.desc = some ⟨ps, r⟩) (hlen : argsL.length = ps.length)
    {pc : Nat} {Ls : Array Slot} (hsz : Ls.size = c.maxLocals) {W : Nat} (hW : (rest.map fun v => v.category).sum = W) (hf : rm.frames + 1 ≤ R.frames) (hl : W + (ml + 11) + rm.locals ≤ R.locals) (hc : cells + rm.cells ≤ R.cells) (hs : slots + rm.slots ≤ R.slots)
    (hd : decode c.code pc = .ok (.invokevirtual index, 3)) {st : List Value} (hst : st = argsL.reverse ++ .ref a :: rest)
    (kk : ∀ (T' : State) (v : Option Value) (L : List Loc), Stand p l e R s m args below meth c T' (locs ++ L) (cells + rm.cells) (slots + rm.slots) → Q' v T'.heap L → Run p e below s Q k n (T'.setTop (mkF m (pc + 3) Ls (v.toList ++ rest)))) :
    Run p e below s Q k n (T.setTop (mkF m pc Ls st)) := by
  obtain ⟨cq, kq, qa, qb, qc⟩ := isOf hZ eT E
  obtain ⟨v, _, ⟨T', L', k', n'⟩, -, X', ⟨L, hQ, l1, y1, z1⟩, st1⟩ := X.virtualBack hx (y := y) (z := z) hown (mvT hZ w1) (mvT hZ w2) hnf (mvT hZ w5) (mvT hZ w6) hy (K.back hZ w4 w3 hf hl) qa qc (g := mkF m pc Ls st) rfl hsz (Steps.refl _) (argsL := argsL) (rest := rest) (lenOf hpd hlen) hst (by show 2 * 0 + _ ≤ _; rw [hW]; omega) hd (fun _ _ => ⟨rfl, eT, hc, hs⟩)
  dsimp only [Pt.U, Pt.locs, Pt.cells, Pt.slots] at X' l1 y1 z1 st1 hQ
  subst l1 y1 z1
  exact Run.st (fun t q => st1.trans q) (kk T' v L X' hQ)
theorem Run.init (X : Stand p l e R s m args below meth c T locs cells slots) (hx : p.tables.exec = Jvm.exec) (hZ : Z.Warmed39 s.vm) (eT : T.heap = h) {own : String} {idx : Nat} (hown : s.vm.findClass own = some m.cls) (w1 : (Jvm.Cond.methodLink own idx Lib.objectInit).before a0 Z = true) (w2 : (Jvm.Cond.instanceMethod Lib.objectInit).before a0 Z = true)
    (w3 : (Jvm.Cond.code Lib.objectInit ⟨#[0xb1]⟩ 1 none).before a0 Z = true) {pc : Nat} {Ls : Array Slot} (hsz : Ls.size = c.maxLocals) {a : Addr} {rest : List Value} (hd : decode c.code pc = .ok (.invokespecial idx, 3)) (hf : 1 ≤ R.frames) {W : Nat} (hW : (rest.map fun v => v.category).sum = W) (hl : W + 12 ≤ R.locals)
    (kk : ∀ (T' : State), Stand p l e R s m args below meth c T' locs cells slots → T'.heap = h → Run p e below s Q k n (T'.setTop (mkF m (pc + 3) Ls rest))) :
    Run p e below s Q k n (T.setTop (mkF m pc Ls (.ref a :: rest))) := by
  obtain ⟨T', X', e', st'⟩ := initO X hx hZ hown w1 w2 w3 eT (g := mkF m pc Ls (.ref a :: rest)) rfl hsz rfl hd hf (W := W) (by show 2 * 0 + _ ≤ _; rw [hW]; omega) hl
  exact Run.st st' (kk T' X' e')
theorem Run.x_iloadN (X : Stand p l e R s m args below meth c T locs cells slots) (hx : p.tables.exec = Jvm.exec) {pc q : Nat} {Ls : Array Slot} {S : List Value} {j : Fin 4} {v : Int32} (hd : decode c.code pc = .ok (.iload_n j, 1)) (hl : Ls[j.val]? = some (.val (.int v))) (hq : pc + 1 = q) (r : Run p e below s Q k n (T.setTop (mkF m q Ls (.int v :: S)))) : Run p e below s Q k n (T.setTop (mkF m pc Ls (S))) := by
  subst hq; exact Run.st (fun t kt => XS.iloadN X.here hx rfl hd hl kt) r
theorem Run.x_iload (X : Stand p l e R s m args below meth c T locs cells slots) (hx : p.tables.exec = Jvm.exec) {pc q : Nat} {Ls : Array Slot} {S : List Value} {j : Nat} {v : Int32} (hd : decode c.code pc = .ok (.iload j, 2)) (hl : Ls[j]? = some (.val (.int v))) (hq : pc + 2 = q) (r : Run p e below s Q k n (T.setTop (mkF m q Ls (.int v :: S)))) : Run p e below s Q k n (T.setTop (mkF m pc Ls (S))) := by
  subst hq; exact Run.st (fun t kt => XS.iload X.here hx rfl hd hl kt) r
theorem Run.x_lloadN (X : Stand p l e R s m args below meth c T locs cells slots) (hx : p.tables.exec = Jvm.exec) {pc q : Nat} {Ls : Array Slot} {S : List Value} {j : Fin 4} {v : Int64} (hd : decode c.code pc = .ok (.lload_n j, 1)) (hl : Ls[j.val]? = some (.val (.long v))) (hq : pc + 1 = q) (r : Run p e below s Q k n (T.setTop (mkF m q Ls (.long v :: S)))) : Run p e below s Q k n (T.setTop (mkF m pc Ls (S))) := by
  subst hq; exact Run.st (fun t kt => XS.lloadN X.here hx rfl hd hl kt) r
theorem Run.x_lload (X : Stand p l e R s m args below meth c T locs cells slots) (hx : p.tables.exec = Jvm.exec) {pc q : Nat} {Ls : Array Slot} {S : List Value} {j : Nat} {v : Int64} (hd : decode c.code pc = .ok (.lload j, 2)) (hl : Ls[j]? = some (.val (.long v))) (hq : pc + 2 = q) (r : Run p e below s Q k n (T.setTop (mkF m q Ls (.long v :: S)))) : Run p e below s Q k n (T.setTop (mkF m pc Ls (S))) := by
  subst hq; exact Run.st (fun t kt => XS.lload X.here hx rfl hd hl kt) r
theorem Run.x_aloadN (X : Stand p l e R s m args below meth c T locs cells slots) (hx : p.tables.exec = Jvm.exec) {pc q : Nat} {Ls : Array Slot} {S : List Value} {j : Fin 4} {v : Value} (hd : decode c.code pc = .ok (.aload_n j, 1)) (hl : Ls[j.val]? = some (.val v)) (hv : v.isRef = true) (hq : pc + 1 = q) (r : Run p e below s Q k n (T.setTop (mkF m q Ls (v :: S)))) : Run p e below s Q k n (T.setTop (mkF m pc Ls (S))) := by
  subst hq; exact Run.st (fun t kt => XS.aloadN X.here hx rfl hd hl hv kt) r
theorem Run.x_aload (X : Stand p l e R s m args below meth c T locs cells slots) (hx : p.tables.exec = Jvm.exec) {pc q : Nat} {Ls : Array Slot} {S : List Value} {j : Nat} {v : Value} (hd : decode c.code pc = .ok (.aload j, 2)) (hl : Ls[j]? = some (.val v)) (hv : v.isRef = true) (hq : pc + 2 = q) (r : Run p e below s Q k n (T.setTop (mkF m q Ls (v :: S)))) : Run p e below s Q k n (T.setTop (mkF m pc Ls (S))) := by
  subst hq; exact Run.st (fun t kt => XS.aload X.here hx rfl hd hl hv kt) r
theorem Run.x_istoreN (X : Stand p l e R s m args below meth c T locs cells slots) (hx : p.tables.exec = Jvm.exec) {pc q : Nat} {Ls : Array Slot} {S : List Value} {j : Fin 4} {v : Int32} (L' : Array Slot) (hd : decode c.code pc = .ok (.istore_n j, 1)) (hl : storeLocals Ls j.val (.int v) = some L') (hq : pc + 1 = q) (r : Run p e below s Q k n (T.setTop (mkF m q L' (S)))) : Run p e below s Q k n (T.setTop (mkF m pc Ls (.int v :: S))) := by
  subst hq; exact Run.st (fun t kt => XS.istoreN X.here hx rfl hd rfl hl kt) r
theorem Run.x_istore (X : Stand p l e R s m args below meth c T locs cells slots) (hx : p.tables.exec = Jvm.exec) {pc q : Nat} {Ls : Array Slot} {S : List Value} {j : Nat} {v : Int32} (L' : Array Slot) (hd : decode c.code pc = .ok (.istore j, 2)) (hl : storeLocals Ls j (.int v) = some L') (hq : pc + 2 = q) (r : Run p e below s Q k n (T.setTop (mkF m q L' (S)))) : Run p e below s Q k n (T.setTop (mkF m pc Ls (.int v :: S))) := by
  subst hq; exact Run.st (fun t kt => XS.istore X.here hx rfl hd rfl hl kt) r
theorem Run.x_lstore (X : Stand p l e R s m args below meth c T locs cells slots) (hx : p.tables.exec = Jvm.exec) {pc q : Nat} {Ls : Array Slot} {S : List Value} {j : Nat} {v : Int64} (L' : Array Slot) (hd : decode c.code pc = .ok (.lstore j, 2)) (hl : storeLocals Ls j (.long v) = some L') (hq : pc + 2 = q) (r : Run p e below s Q k n (T.setTop (mkF m q L' (S)))) : Run p e below s Q k n (T.setTop (mkF m pc Ls (.long v :: S))) := by
  subst hq; exact Run.st (fun t kt => XS.lstore X.here hx rfl hd rfl hl kt) r
theorem Run.x_astore (X : Stand p l e R s m args below meth c T locs cells slots) (hx : p.tables.exec = Jvm.exec) {pc q : Nat} {Ls : Array Slot} {S : List Value} {j : Nat} {v : Value} (L' : Array Slot) (hd : decode c.code pc = .ok (.astore j, 2)) (hv : v.isRef = true) (hl : storeLocals Ls j v = some L') (hq : pc + 2 = q) (r : Run p e below s Q k n (T.setTop (mkF m q L' (S)))) : Run p e below s Q k n (T.setTop (mkF m pc Ls (v :: S))) := by
  subst hq; exact Run.st (fun t kt => XS.astore X.here hx rfl hd rfl hv hl kt) r
theorem Run.x_iconst (X : Stand p l e R s m args below meth c T locs cells slots) (hx : p.tables.exec = Jvm.exec) {pc q : Nat} {Ls : Array Slot} {S : List Value} {i : Int} {z : Int32} (hd : decode c.code pc = .ok (.iconst i, 1)) (hz : Int32.ofInt i = z) (hq : pc + 1 = q) (r : Run p e below s Q k n (T.setTop (mkF m q Ls (.int z :: S)))) : Run p e below s Q k n (T.setTop (mkF m pc Ls (S))) := by
  subst hq; subst hz; exact Run.st (fun t kt => XS.iconst X.here hx rfl hd kt) r
theorem Run.x_bipush (X : Stand p l e R s m args below meth c T locs cells slots) (hx : p.tables.exec = Jvm.exec) {pc q : Nat} {Ls : Array Slot} {S : List Value} {i : Int} {z : Int32} (hd : decode c.code pc = .ok (.bipush i, 2)) (hz : (Int8.ofInt i).toInt32 = z) (hq : pc + 2 = q) (r : Run p e below s Q k n (T.setTop (mkF m q Ls (.int z :: S)))) : Run p e below s Q k n (T.setTop (mkF m pc Ls (S))) := by
  subst hq; subst hz; exact Run.st (fun t kt => XS.bipush X.here hx rfl hd kt) r
theorem Run.x_iadd (X : Stand p l e R s m args below meth c T locs cells slots) (hx : p.tables.exec = Jvm.exec) {pc q : Nat} {Ls : Array Slot} {S : List Value} {x y z : Int32} (hd : decode c.code pc = .ok (.iadd, 1)) (hz : x + y = z) (hq : pc + 1 = q) (r : Run p e below s Q k n (T.setTop (mkF m q Ls (.int z :: S)))) : Run p e below s Q k n (T.setTop (mkF m pc Ls (.int y :: .int x :: S))) := by
  subst hq; subst hz; exact Run.st (fun t kt => XS.iadd X.here hx rfl hd rfl kt) r
theorem Run.x_isub (X : Stand p l e R s m args below meth c T locs cells slots) (hx : p.tables.exec = Jvm.exec) {pc q : Nat} {Ls : Array Slot} {S : List Value} {x y z : Int32} (hd : decode c.code pc = .ok (.isub, 1)) (hz : x - y = z) (hq : pc + 1 = q) (r : Run p e below s Q k n (T.setTop (mkF m q Ls (.int z :: S)))) : Run p e below s Q k n (T.setTop (mkF m pc Ls (.int y :: .int x :: S))) := by
  subst hq; subst hz; exact Run.st (fun t kt => XS.isub X.here hx rfl hd rfl kt) r
theorem Run.x_iand (X : Stand p l e R s m args below meth c T locs cells slots) (hx : p.tables.exec = Jvm.exec) {pc q : Nat} {Ls : Array Slot} {S : List Value} {x y z : Int32} (hd : decode c.code pc = .ok (.iand, 1)) (hz : x &&& y = z) (hq : pc + 1 = q) (r : Run p e below s Q k n (T.setTop (mkF m q Ls (.int z :: S)))) : Run p e below s Q k n (T.setTop (mkF m pc Ls (.int y :: .int x :: S))) := by
  subst hq; subst hz; exact Run.st (fun t kt => XS.iand X.here hx rfl hd rfl kt) r
theorem Run.x_land (X : Stand p l e R s m args below meth c T locs cells slots) (hx : p.tables.exec = Jvm.exec) {pc q : Nat} {Ls : Array Slot} {S : List Value} {x y z : Int64} (hd : decode c.code pc = .ok (.land, 1)) (hz : x &&& y = z) (hq : pc + 1 = q) (r : Run p e below s Q k n (T.setTop (mkF m q Ls (.long z :: S)))) : Run p e below s Q k n (T.setTop (mkF m pc Ls (.long y :: .long x :: S))) := by
  subst hq; subst hz; exact Run.st (fun t kt => XS.land X.here hx rfl hd rfl kt) r
theorem Run.x_lushr (X : Stand p l e R s m args below meth c T locs cells slots) (hx : p.tables.exec = Jvm.exec) {pc q : Nat} {Ls : Array Slot} {S : List Value} {x z : Int64} {y : Int32} (hd : decode c.code pc = .ok (.lushr, 1)) (hz : (x.toUInt64 >>> (y &&& 0x3f).toInt64.toUInt64).toInt64 = z) (hq : pc + 1 = q) (r : Run p e below s Q k n (T.setTop (mkF m q Ls (.long z :: S)))) : Run p e below s Q k n (T.setTop (mkF m pc Ls (.int y :: .long x :: S))) := by
  subst hq; subst hz; exact Run.st (fun t kt => XS.lushr X.here hx rfl hd rfl kt) r
theorem Run.x_l2i (X : Stand p l e R s m args below meth c T locs cells slots) (hx : p.tables.exec = Jvm.exec) {pc q : Nat} {Ls : Array Slot} {S : List Value} {x : Int64} {z : Int32} (hd : decode c.code pc = .ok (.l2i, 1)) (hz : x.toInt32 = z) (hq : pc + 1 = q) (r : Run p e below s Q k n (T.setTop (mkF m q Ls (.int z :: S)))) : Run p e below s Q k n (T.setTop (mkF m pc Ls (.long x :: S))) := by
  subst hq; subst hz; exact Run.st (fun t kt => XS.l2i X.here hx rfl hd rfl kt) r
theorem Run.x_i2c (X : Stand p l e R s m args below meth c T locs cells slots) (hx : p.tables.exec = Jvm.exec) {pc q : Nat} {Ls : Array Slot} {S : List Value} {x : Int32} {z : Int32} (hd : decode c.code pc = .ok (.i2c, 1)) (hz : x.toUInt32.toUInt16.toUInt32.toInt32 = z) (hq : pc + 1 = q) (r : Run p e below s Q k n (T.setTop (mkF m q Ls (.int z :: S)))) : Run p e below s Q k n (T.setTop (mkF m pc Ls (.int x :: S))) := by
  subst hq; subst hz; exact Run.st (fun t kt => XS.i2c X.here hx rfl hd rfl kt) r
theorem Run.x_irem (X : Stand p l e R s m args below meth c T locs cells slots) (hx : p.tables.exec = Jvm.exec) {pc q : Nat} {Ls : Array Slot} {S : List Value} {x y z : Int32} (hd : decode c.code pc = .ok (.irem, 1)) (hy : y ≠ 0) (hz : x % y = z) (hq : pc + 1 = q) (r : Run p e below s Q k n (T.setTop (mkF m q Ls (.int z :: S)))) : Run p e below s Q k n (T.setTop (mkF m pc Ls (.int y :: .int x :: S))) := by
  subst hq; subst hz; exact Run.st (fun t kt => iremM (g := mkF m pc Ls (.int y :: .int x :: S)) X hx rfl hd rfl hy kt) r
theorem Run.x_iinc (X : Stand p l e R s m args below meth c T locs cells slots) (hx : p.tables.exec = Jvm.exec) {pc q : Nat} {Ls : Array Slot} {S : List Value} {j : Nat} {i : Int} {x z : Int32} (L' : Array Slot) (hd : decode c.code pc = .ok (.iinc j i, 3)) (hl : Ls[j]? = some (.val (.int x))) (hz : x + Int32.ofInt i = z) (hl' : storeLocals Ls j (.int z) = some L') (hq : pc + 3 = q) (r : Run p e below s Q k n (T.setTop (mkF m q L' (S)))) : Run p e below s Q k n (T.setTop (mkF m pc Ls (S))) := by
  subst hq; subst hz; exact Run.st (fun t kt => XS.iinc X.here hx rfl hd hl hl' kt) r
theorem Run.x_dup (X : Stand p l e R s m args below meth c T locs cells slots) (hx : p.tables.exec = Jvm.exec) {pc q : Nat} {Ls : Array Slot} {S : List Value} {v : Value} (hd : decode c.code pc = .ok (.dup, 1)) (hc : v.category = 1) (hq : pc + 1 = q) (r : Run p e below s Q k n (T.setTop (mkF m q Ls (v :: v :: S)))) : Run p e below s Q k n (T.setTop (mkF m pc Ls (v :: S))) := by
  subst hq; exact Run.st (fun t kt => XS.dup X.here hx rfl hd rfl hc kt) r
theorem Run.x_goto (X : Stand p l e R s m args below meth c T locs cells slots) (hx : p.tables.exec = Jvm.exec) {pc q : Nat} {Ls : Array Slot} {S : List Value}  {o : Int} (hd : decode c.code pc = .ok (.goto o, 3)) (ho : 0 ≤ (pc : Int) + o) (hq : ((pc : Int) + o).toNat = q) (r : Run p e below s Q k n (T.setTop (mkF m q Ls (S)))) : Run p e below s Q k n (T.setTop (mkF m pc Ls (S))) :=
  Run.st (fun t kt => XS.goto X.here hx rfl (pc0 := pc) (pc' := q) rfl hd ho hq kt) r
theorem Run.x_ifYes (X : Stand p l e R s m args below meth c T locs cells slots) (hx : p.tables.exec = Jvm.exec) {pc q : Nat} {Ls : Array Slot} {S : List Value} {cd : ClassFile.Cond} {x : Int32} {o : Int} (hd : decode c.code pc = .ok (.ifCond cd o, 3)) (hc : ifCond.holds cd x = true) (ho : 0 ≤ (pc : Int) + o) (hq : ((pc : Int) + o).toNat = q) (r : Run p e below s Q k n (T.setTop (mkF m q Ls (S)))) : Run p e below s Q k n (T.setTop (mkF m pc Ls (.int x :: S))) :=
  Run.st (fun t kt => XS.ifYes X.here hx rfl (pc0 := pc) (pc' := q) rfl hd rfl hc ho hq kt) r
theorem Run.x_icmpYes (X : Stand p l e R s m args below meth c T locs cells slots) (hx : p.tables.exec = Jvm.exec) {pc q : Nat} {Ls : Array Slot} {S : List Value} {cd : ClassFile.Cond} {x y : Int32} {o : Int} (hd : decode c.code pc = .ok (.if_icmp cd o, 3)) (hc : if_icmp.holds cd x y = true) (ho : 0 ≤ (pc : Int) + o) (hq : ((pc : Int) + o).toNat = q) (r : Run p e below s Q k n (T.setTop (mkF m q Ls (S)))) : Run p e below s Q k n (T.setTop (mkF m pc Ls (.int y :: .int x :: S))) :=
  Run.st (fun t kt => XS.icmpYes X.here hx rfl (pc0 := pc) (pc' := q) rfl hd rfl hc ho hq kt) r
theorem Run.x_ifNo (X : Stand p l e R s m args below meth c T locs cells slots) (hx : p.tables.exec = Jvm.exec) {pc q : Nat} {Ls : Array Slot} {S : List Value} {cd : ClassFile.Cond} {x : Int32} {o : Int} (hd : decode c.code pc = .ok (.ifCond cd o, 3)) (hc : ifCond.holds cd x = false) (hq : pc + 3 = q) (r : Run p e below s Q k n (T.setTop (mkF m q Ls (S)))) : Run p e below s Q k n (T.setTop (mkF m pc Ls (.int x :: S))) := by
  subst hq; exact Run.st (fun t kt => XS.ifNo X.here hx rfl hd rfl hc kt) r
theorem Run.x_icmpNo (X : Stand p l e R s m args below meth c T locs cells slots) (hx : p.tables.exec = Jvm.exec) {pc q : Nat} {Ls : Array Slot} {S : List Value} {cd : ClassFile.Cond} {x y : Int32} {o : Int} (hd : decode c.code pc = .ok (.if_icmp cd o, 3)) (hc : if_icmp.holds cd x y = false) (hq : pc + 3 = q) (r : Run p e below s Q k n (T.setTop (mkF m q Ls (S)))) : Run p e below s Q k n (T.setTop (mkF m pc Ls (.int y :: .int x :: S))) := by
  subst hq; exact Run.st (fun t kt => XS.icmpNo X.here hx rfl hd rfl hc kt) r
/-- an array and all that it holds -/
def Ars (Z : State) (h : Heap) (a : Addr) (ty : FieldType) (vs : List Value) : Prop := ∃ c : Cell, Arr Z h a c ty ∧ c.slots.toList = vs
variable {a b : Addr} {ty : FieldType} {vs : List Value} {v : Value} {sl : Nat} {ws : List Addr}
theorem Ars.lt (A : Ars Z h a ty vs) : a < h.size := by obtain ⟨c, A, -⟩ := A; exact A.lt
theorem Ars.ext (A : Ars Z h a ty vs) (E : Ext h h') : Ars Z h' a ty vs := by obtain ⟨c, A, r⟩ := A; exact ⟨c, A.ext E, r⟩
theorem Ars.other (A : Ars Z h b ty vs) (W : Wr h h' a sl v) (q : b ≠ a) : Ars Z h' b ty vs := by obtain ⟨c, A, r⟩ := A; exact ⟨c, A.other W q, r⟩
theorem Ars.keep (A : Ars Z h a ty vs) (K : Keep h h' ws) (q : a ∉ ws) : Ars Z h' a ty vs := by obtain ⟨c, A, r⟩ := A; exact ⟨c, ⟨K.2.1 a c A.1 q, A.2⟩, r⟩
theorem Ars.same (A : Ars Z h a ty vs) (W : Wr h h' a sl v) : Ars Z h' a ty (vs.set sl v) := by
  obtain ⟨c, A, r⟩ := A
  exact ⟨_, A.same W, by subst r; simp [Cell.setSlot]⟩
theorem Ars.new {k : ClassId} {z : Int32} (A : Arr Z h a (newA k ty z) ty) : Ars Z h a ty (List.replicate z.toNatClampNeg (defaultValue ty)) := ⟨_, A, by simp [newA]⟩
theorem in_of {c : Cell} {j : Int32} {i : Nat} (e : c.slots.toList = vs) (hj : j.toInt = i) (hi : i < vs.length) : ¬ (j < 0 ∨ c.slots.size ≤ j.toNatClampNeg) ∧ j.toNatClampNeg = i := by
  have e2 : j.toNatClampNeg = i := by show j.toInt.toNat = i; rw [hj]; rfl
  have e3 : c.slots.size = vs.length := by rw [← e]; simp
  refine ⟨?_, e2⟩
  rw [e2, e3, Int32.lt_iff_toInt_lt, hj]
  have : (0 : Int32).toInt = 0 := rfl
  omega
theorem at_of {c : Cell} {j : Int32} {i : Nat} (e : c.slots.toList = vs) (hj : j.toInt = i) (hi : vs[i]? = some v) : ¬ (j < 0 ∨ c.slots.size ≤ j.toNatClampNeg) ∧ c.slots[j.toNatClampNeg]? = some v := by
  obtain ⟨q, e2⟩ := in_of e hj (List.getElem?_eq_some_iff.mp hi).1
  refine ⟨q, ?_⟩
  rw [e2, ← hi, ← e]; simp
theorem Run.newP (X : Stand p l e R s m args below meth c T locs cells slots) (hx : p.tables.exec = Jvm.exec) (hZ : Z.Warmed39 s.vm) (eT : T.heap = h) {aty : ArrayType} (w : (Jvm.Cond.arrayClass (newarray.typeOf aty)).before a0 Z = true) {pc : Nat} {Ls : Array Slot} {z : Int32} {rest : List Value} (hd : decode c.code pc = .ok (.newarray aty, 2))
    {len : Nat} (hz : ¬ z < 0) (hlen : z.toNatClampNeg = len) {cap : Nat} (hcap : len ≤ cap) (hb : cap * 8 ≤ 536870912) (hc : cells + 1 ≤ R.cells) (hl : slots + cap ≤ R.slots)
    (kk : ∀ (T' : State) (h' : Heap) (b : Addr), b = h.size → Stand p l e R s m args below meth c T' locs (cells + 1) (slots + cap) → T'.heap = h' → Ext h h' → Ars Z h' b (newarray.typeOf aty) (List.replicate len (defaultValue (newarray.typeOf aty))) → Run p e below s Q k n (T'.setTop (mkF m (pc + 2) Ls (.ref b :: rest)))) :
    Run p e below s Q k n (T.setTop (mkF m pc Ls (.int z :: rest))) := by
  obtain ⟨T', h', k', X', e', E', A', st'⟩ := RoadKit.newP X hx hZ w eT (g := mkF m pc Ls (.int z :: rest)) rfl hd rfl hz (cap := cap) (by rw [hlen]; exact hcap) hb hc hl
  have A2 := Ars.new A'
  rw [hlen] at A2
  exact Run.st st' (kk T' h' _ rfl X' e' E' A2)
theorem Run.ldI (X : Stand p l e R s m args below meth c T locs cells slots) (hx : p.tables.exec = Jvm.exec) (hZ : Z.Warmed39 s.vm) (eT : T.heap = h) (A : Ars Z h a .int vs) {j : Int32} {i : Nat} (hj : j.toInt = i) (hi : vs[i]? = some v) {pc : Nat} {Ls : Array Slot} {rest : List Value} (hd : decode c.code pc = .ok (.iaload, 1))
    (r : Run p e below s Q k n (T.setTop (mkF m (pc + 1) Ls (v :: rest)))) : Run p e below s Q k n (T.setTop (mkF m pc Ls (.int j :: .ref a :: rest))) := by
  obtain ⟨cl, A, q⟩ := A
  obtain ⟨q1, q2⟩ := at_of q hj hi
  exact Run.st (fun t kt => X.iaload hx (j := j) (v := v) (by rw [eT]; exact A.1) (State.isArrayOf_alike hZ.alike A.2.1) A.2.2 q1 q2 (g := mkF m pc Ls (.int j :: .ref a :: rest)) rfl rfl hd _ kt) r
theorem Run.ldC (X : Stand p l e R s m args below meth c T locs cells slots) (hx : p.tables.exec = Jvm.exec) (hZ : Z.Warmed39 s.vm) (eT : T.heap = h) (A : Ars Z h a .char vs) {j : Int32} {i : Nat} (hj : j.toInt = i) (hi : vs[i]? = some v) {pc : Nat} {Ls : Array Slot} {rest : List Value} (hd : decode c.code pc = .ok (.caload, 1))
    (r : Run p e below s Q k n (T.setTop (mkF m (pc + 1) Ls (v :: rest)))) : Run p e below s Q k n (T.setTop (mkF m pc Ls (.int j :: .ref a :: rest))) := by
  obtain ⟨cl, A, q⟩ := A
  obtain ⟨q1, q2⟩ := at_of q hj hi
  exact Run.st (fun t kt => X.caload hx (j := j) (v := v) (by rw [eT]; exact A.1) (State.isArrayOf_alike hZ.alike A.2.1) A.2.2 q1 q2 (g := mkF m pc Ls (.int j :: .ref a :: rest)) rfl rfl hd _ kt) r
theorem Run.alen (X : Stand p l e R s m args below meth c T locs cells slots) (hx : p.tables.exec = Jvm.exec) (hZ : Z.Warmed39 s.vm) (eT : T.heap = h) (A : Ars Z h a ty vs) {z : Int32} (hz : vs.length.toInt32 = z) {pc : Nat} {Ls : Array Slot} {rest : List Value} (hd : decode c.code pc = .ok (.arraylength, 1))
    (r : Run p e below s Q k n (T.setTop (mkF m (pc + 1) Ls (.int z :: rest)))) : Run p e below s Q k n (T.setTop (mkF m pc Ls (.ref a :: rest))) := by
  obtain ⟨cl, A, q⟩ := A
  have e1 : cl.slots.size.toInt32 = z := by rw [← hz, ← q]; simp
  rw [← e1] at r
  exact Run.st (fun t kt => X.arraylength hx (by rw [eT]; exact A.1) (State.isArrayOf_alike hZ.alike A.2.1) (g := mkF m pc Ls (.ref a :: rest)) rfl rfl hd _ kt) r
theorem Run.stI (X : Stand p l e R s m args below meth c T locs cells slots) (hx : p.tables.exec = Jvm.exec) (hZ : Z.Warmed39 s.vm) (eT : T.heap = h) (A : Ars Z h a .int vs) {j z : Int32} {i : Nat} (hj : j.toInt = i) (hi : i < vs.length) {pc : Nat} {Ls : Array Slot} {rest : List Value} (hd : decode c.code pc = .ok (.iastore, 1))
    (kk : ∀ (T' : State) (h' : Heap), Stand p l e R s m args below meth c T' (locs ++ [⟨a, i⟩]) cells slots → T'.heap = h' → Wr h h' a i (.int z) → Ars Z h' a .int (vs.set i (.int z)) → Run p e below s Q k n (T'.setTop (mkF m (pc + 1) Ls rest))) : Run p e below s Q k n (T.setTop (mkF m pc Ls (.int z :: .int j :: .ref a :: rest))) := by
  obtain ⟨cl, A1, q⟩ := id A
  obtain ⟨q1, q2⟩ := in_of q hj hi
  obtain ⟨T', h', X', e', W', st'⟩ := RoadKit.stI X hx hZ eT A1 (j := j) (x := z) q1 (g := mkF m pc Ls (.int z :: .int j :: .ref a :: rest)) rfl rfl hd
  rw [q2] at X' W'
  exact Run.st st' (kk T' h' X' e' W' (A.same W'))
theorem Run.stC (X : Stand p l e R s m args below meth c T locs cells slots) (hx : p.tables.exec = Jvm.exec) (hZ : Z.Warmed39 s.vm) (eT : T.heap = h) (A : Ars Z h a .char vs) {j z : Int32} {i : Nat} (hj : j.toInt = i) (hi : i < vs.length) {z' : Int32} (hz : nar .char z = z') {pc : Nat} {Ls : Array Slot} {rest : List Value} (hd : decode c.code pc = .ok (.castore, 1))
    (kk : ∀ (T' : State) (h' : Heap), Stand p l e R s m args below meth c T' (locs ++ [⟨a, i⟩]) cells slots → T'.heap = h' → Wr h h' a i (.int z') → Ars Z h' a .char (vs.set i (.int z')) → Run p e below s Q k n (T'.setTop (mkF m (pc + 1) Ls rest))) : Run p e below s Q k n (T.setTop (mkF m pc Ls (.int z :: .int j :: .ref a :: rest))) := by
  obtain ⟨cl, A1, q⟩ := id A
  obtain ⟨q1, q2⟩ := in_of q hj hi
  obtain ⟨T', h', X', e', W', st'⟩ := RoadKit.stC X hx hZ eT A1 (j := j) (x := z) q1 (g := mkF m pc Ls (.int z :: .int j :: .ref a :: rest)) rfl rfl hd
  rw [q2] at X' W'
  rw [hz] at W'
  exact Run.st st' (kk T' h' X' e' W' (A.same W'))
end Laws
/-- what lies at a is no class's statics -/
def NSt (h : Heap) (a : Addr) : Prop := ∀ c : Cell, h[a]? = some c → c.vm.isStatics = false
theorem Exa_ns {Z : State} {h : Heap} {a : Addr} {C : String} (E : Exa Z h a C) : NSt h a := by
  obtain ⟨c, _, h1, -, -, h4, -⟩ := E
  intro c' q
  cases h1.symm.trans q
  exact h4
theorem Ars.ns {Z : State} {h : Heap} {a : Addr} {ty : FieldType} {vs : List Value} (A : Ars Z h a ty vs) : NSt h a := by
  obtain ⟨c, A, -⟩ := A
  intro c' q
  cases A.1.symm.trans q
  exact A.plain
theorem Sta_keep {Z : State} {h h' : Heap} {C n d : String} {v : Value} {ws : List Addr} (F : Sta Z h C n d v) (K : Keep h h' ws) (q : ∀ x ∈ ws, NSt h x) : Sta Z h' C n d v := by
  obtain ⟨cf, i, k, f, st, cell, h1, h2, h3, h4, h5, h6, h7⟩ := F
  refine ⟨cf, i, k, f, st, cell, h1, h2, h3, h4, K.2.1 _ _ h5 (fun hm => ?_), h6, h7⟩
  have := q st hm cell h5
  rw [h6] at this
  cases this
theorem nar_b01 {z : Int32} (hz : z = 0 ∨ z = 1) : nar .boolean z = z := by rcases hz with rfl | rfl <;> decide
theorem nar_b (x : Int32) : nar .byte x.toInt8.toInt32 = x.toInt8.toInt32 := by
  show x.toInt8.toInt32.toInt8.toInt32 = x.toInt8.toInt32
  simp
theorem nar_c (x : Int32) : nar .char x.toUInt32.toUInt16.toUInt32.toInt32 = x.toUInt32.toUInt16.toUInt32.toInt32 := by
  show x.toUInt32.toUInt16.toUInt32.toInt32.toUInt32.toUInt16.toUInt32.toInt32 = _
  have q : ∀ y : UInt16, y.toUInt32.toInt32.toUInt32.toUInt16 = y := fun y => by simp
  rw [q]
theorem ints_at (xs : List Int32) {i : Nat} (h : i < xs.length) : ∃ x, (xs.map Value.int)[i]? = some (.int x) := ⟨xs[i], by simp [h]⟩
/-- 1 or 0 -/
def own_b (c : Prop) [Decidable c] : Int32 := if c then 1 else 0
theorem own_b1 {c : Prop} [Decidable c] (h : c) : own_b c = 1 := if_pos h
theorem own_b0 {c : Prop} [Decidable c] (h : ¬ c) : own_b c = 0 := if_neg h
theorem own_b01 (c : Prop) [Decidable c] : own_b c = 0 ∨ own_b c = 1 := by unfold own_b; split <;> simp
theorem sub_w (a b : Int32) : (a.toInt64 - b.toInt64).toInt = a.toInt - b.toInt := by
  have h1 := c_lsub a.toInt64 b.toInt64
  have h2 := rng64 (a.toInt64 - b.toInt64)
  have h3 := rng32 a
  have h4 := rng32 b
  rw [c_i2l, c_i2l] at h1
  omega
theorem lt32 (a b : Int32) : a < b ↔ a.toInt < b.toInt := Int32.lt_iff_toInt_lt
theorem lt64 (a b : Int64) : a < b ↔ a.toInt < b.toInt := Int64.lt_iff_toInt_lt
theorem eq32 (a b : Int32) : a = b ↔ a.toInt = b.toInt := Int32.toInt_inj.symm
theorem eq64 (a b : Int64) : a = b ↔ a.toInt = b.toInt := Int64.toInt_inj.symm
/-- an int comes back, nothing is touched -/
def PureI (h0 : Heap) (n0 : Nat) (z : Int32) (v : Option Value) (h : Heap) (L : List Loc) : Prop := v = some (.int z) ∧ Fr n0 L ∧ h = h0
def PureJ (h0 : Heap) (n0 : Nat) (z : Int64) (v : Option Value) (h : Heap) (L : List Loc) : Prop := v = some (.long z) ∧ Fr n0 L ∧ h = h0
def PureR (h0 : Heap) (n0 : Nat) (z : Value) (v : Option Value) (h : Heap) (L : List Loc) : Prop := v = some z ∧ Fr n0 L ∧ h = h0
theorem PureI.mk {h0 : Heap} {n0 : Nat} {z z' : Int32} {L : List Loc} (e : z' = z) (N : Fr n0 L) : PureI h0 n0 z (some (.int z')) h0 L := ⟨by rw [e], N, rfl⟩
theorem PureJ.mk {h0 : Heap} {n0 : Nat} {z z' : Int64} {L : List Loc} (e : z' = z) (N : Fr n0 L) : PureJ h0 n0 z (some (.long z')) h0 L := ⟨by rw [e], N, rfl⟩
/-- the law's own end -/
def Tru (n0 : Nat) (v : Option Value) (h : Heap) (L : List Loc) : Prop := v = some (.int 1) ∧ Fr n0 L
end Jvm.OwnRun
namespace Jvm.OwnRun
open Sem ClassFile Op Lib Jvm.Stand Jvm.Free Jvm.LawKit Jvm.RoadKit
section Laws2
variable {p : Program} {l : Launch} {e : Env} {R : Room} {s : State} {m : MethodId} {args : Array Value} {below : List Frame} {meth : Method} {c : Code} {T : State} {locs : List Loc} {cells slots : Nat} {Z : State} {a0 : Array Value} {h h' : Heap}
variable {Q Q' : Option Value → Heap → List Loc → Prop} {k n : Nat}
variable {a b : Addr} {ty : FieldType} {vs : List Value} {v : Value} {sl : Nat} {ws : List Addr}
theorem Run.y_ldI (X : Stand p l e R s m args below meth c T locs cells slots) (hx : p.tables.exec = Jvm.exec) (hZ : Z.Warmed39 s.vm) (eT : T.heap = h) (A : Ars Z h a .int vs) {j : Int32} {i : Nat} (hj : j.toInt = i) (hi : vs[i]? = some v) {pc q : Nat} {Ls : Array Slot} {rest : List Value} (hd : decode c.code pc = .ok (.iaload, 1))
    (hq : pc + 1 = q) (r : Run p e below s Q k n (T.setTop (mkF m q Ls (v :: rest)))) : Run p e below s Q k n (T.setTop (mkF m pc Ls (.int j :: .ref a :: rest))) := by
  subst hq; exact Run.ldI X hx hZ eT A hj hi hd r
theorem Run.y_ldC (X : Stand p l e R s m args below meth c T locs cells slots) (hx : p.tables.exec = Jvm.exec) (hZ : Z.Warmed39 s.vm) (eT : T.heap = h) (A : Ars Z h a .char vs) {j : Int32} {i : Nat} (hj : j.toInt = i) (hi : vs[i]? = some v) {pc q : Nat} {Ls : Array Slot} {rest : List Value} (hd : decode c.code pc = .ok (.caload, 1))
    (hq : pc + 1 = q) (r : Run p e below s Q k n (T.setTop (mkF m q Ls (v :: rest)))) : Run p e below s Q k n (T.setTop (mkF m pc Ls (.int j :: .ref a :: rest))) := by
  subst hq; exact Run.ldC X hx hZ eT A hj hi hd r
theorem Run.y_alen (X : Stand p l e R s m args below meth c T locs cells slots) (hx : p.tables.exec = Jvm.exec) (hZ : Z.Warmed39 s.vm) (eT : T.heap = h) (A : Ars Z h a ty vs) {z : Int32} (hz : vs.length.toInt32 = z) {pc q : Nat} {Ls : Array Slot} {rest : List Value} (hd : decode c.code pc = .ok (.arraylength, 1))
    (hq : pc + 1 = q) (r : Run p e below s Q k n (T.setTop (mkF m q Ls (.int z :: rest)))) : Run p e below s Q k n (T.setTop (mkF m pc Ls (.ref a :: rest))) := by
  subst hq; exact Run.alen X hx hZ eT A hz hd r
theorem Run.y_stI (X : Stand p l e R s m args below meth c T locs cells slots) (hx : p.tables.exec = Jvm.exec) (hZ : Z.Warmed39 s.vm) (eT : T.heap = h) (A : Ars Z h a .int vs) {j z : Int32} {i : Nat} (hj : j.toInt = i) (hi : i < vs.length) {pc q : Nat} {Ls : Array Slot} {rest : List Value} (hd : decode c.code pc = .ok (.iastore, 1))
    (hq : pc + 1 = q) (kk : ∀ (T' : State) (h' : Heap), Stand p l e R s m args below meth c T' (locs ++ [⟨a, i⟩]) cells slots → T'.heap = h' → Wr h h' a i (.int z) → Ars Z h' a .int (vs.set i (.int z)) → Run p e below s Q k n (T'.setTop (mkF m q Ls rest))) : Run p e below s Q k n (T.setTop (mkF m pc Ls (.int z :: .int j :: .ref a :: rest))) := by
  subst hq; exact Run.stI X hx hZ eT A hj hi hd kk
theorem Run.y_stC (X : Stand p l e R s m args below meth c T locs cells slots) (hx : p.tables.exec = Jvm.exec) (hZ : Z.Warmed39 s.vm) (eT : T.heap = h) (A : Ars Z h a .char vs) {j z : Int32} {i : Nat} (hj : j.toInt = i) (hi : i < vs.length) {z' : Int32} (hz : nar .char z = z') {pc q : Nat} {Ls : Array Slot} {rest : List Value} (hd : decode c.code pc = .ok (.castore, 1))
    (hq : pc + 1 = q) (kk : ∀ (T' : State) (h' : Heap), Stand p l e R s m args below meth c T' (locs ++ [⟨a, i⟩]) cells slots → T'.heap = h' → Wr h h' a i (.int z') → Ars Z h' a .char (vs.set i (.int z')) → Run p e below s Q k n (T'.setTop (mkF m q Ls rest))) : Run p e below s Q k n (T.setTop (mkF m pc Ls (.int z :: .int j :: .ref a :: rest))) := by
  subst hq; exact Run.stC X hx hZ eT A hj hi hz hd kk
theorem Run.y_getF (X : Stand p l e R s m args below meth c T locs cells slots) (hx : p.tables.exec = Jvm.exec) (hZ : Z.Warmed39 s.vm) (eT : T.heap = h) {own R0 O nf d host : String} {index : Nat} (hown : s.vm.findClass own = some m.cls) (w : (Jvm.Cond.fieldLink own index R0 nf d).before a0 Z = true ∨ (Jvm.Cond.fieldLinkNest own index R0 nf d host).before a0 Z = true) (via : Via Z R0 O nf d)
    (F : Fld Z h a O nf d v) {pc q : Nat} {Ls : Array Slot} {S : List Value} (hd : decode c.code pc = .ok (.getfield index, 3)) (hq : pc + 3 = q)
    (kk : ∀ (T' : State), Stand p l e R s m args below meth c T' locs cells slots → T'.heap = h → Run p e below s Q k n (T'.setTop (mkF m q Ls (v :: S)))) : Run p e below s Q k n (T.setTop (mkF m pc Ls (.ref a :: S))) := by
  subst hq
  obtain ⟨T', X', e', st'⟩ := getF X hx hZ hown w via eT F (g := mkF m pc Ls (.ref a :: S)) rfl rfl hd
  exact Run.st st' (kk T' X' e')
/-- the field's link and its class are the plain ones -/
theorem Run.z_getF (X : Stand p l e R s m args below meth c T locs cells slots) (hx : p.tables.exec = Jvm.exec) (hZ : Z.Warmed39 s.vm) (eT : T.heap = h) {own O nf d : String} {index : Nat} (hown : s.vm.findClass own = some m.cls) (w : (Jvm.Cond.fieldLink own index O nf d).before a0 Z = true)
    (F : Fld Z h a O nf d v) {pc q : Nat} {Ls : Array Slot} {S : List Value} (hd : decode c.code pc = .ok (.getfield index, 3)) (hq : pc + 3 = q)
    (kk : ∀ (T' : State), Stand p l e R s m args below meth c T' locs cells slots → T'.heap = h → Run p e below s Q k n (T'.setTop (mkF m q Ls (v :: S)))) : Run p e below s Q k n (T.setTop (mkF m pc Ls (.ref a :: S))) :=
  Run.y_getF X hx hZ eT hown (host := "") (Or.inl w) Via.refl F hd hq kk
theorem Run.callSI {n0 : Nat} {z0 : Int32} (X : Stand p l e R s m args below meth c T locs cells slots) (hx : p.tables.exec = Jvm.exec) (hZ : Z.Warmed39 s.vm) (eT : T.heap = h) {own : String} {index : Nat} {y : MethodName} {bytes : ByteArray} {ml : Nat} {ret : Option FieldType} {rm : Room}
    (hown : s.vm.findClass own = some m.cls) (w1 : (Jvm.Cond.methodLink own index y).before a0 Z = true) (w2 : (Jvm.Cond.static y).before a0 Z = true) (w3 : (Jvm.Cond.initialized y.cls).before a0 Z = true) (w4 : (Jvm.Cond.code y bytes ml ret).before a0 Z = true)
    (hy : y.cls ≠ "java/lang/invoke/MethodHandle" ∧ y.cls ≠ "java/lang/invoke/VarHandle") {argsL rest : List Value} (K : Ctr l Z y bytes ml ret rm argsL.toArray h (PureI h n0 z0)) {ps : List FieldType} {r : Option FieldType} (hpd : parseMethodDescriptor y.desc = some ⟨ps, r⟩) (hlen : argsL.length = ps.length)
    {pc q : Nat} {Ls : Array Slot} (hsz : Ls.size = c.maxLocals) {W : Nat} (hW : (rest.map fun v => v.category).sum = W) (hf : rm.frames + 1 ≤ R.frames) (hl : W + (ml + 11) + rm.locals ≤ R.locals) (hc : cells + rm.cells ≤ R.cells) (hs : slots + rm.slots ≤ R.slots)
    (hd : decode c.code pc = .ok (.invokestatic index, 3)) {st : List Value} (hst : st = argsL.reverse ++ rest)
    (hq : pc + 3 = q) (kk : ∀ (T' : State) (L : List Loc), Stand p l e R s m args below meth c T' (locs ++ L) (cells + rm.cells) (slots + rm.slots) → Fr n0 L → T'.heap = h → Run p e below s Q k n (T'.setTop (mkF m q Ls (.int z0 :: rest)))) :
    Run p e below s Q k n (T.setTop (mkF m pc Ls st)) := by
  subst hq
  exact Run.callS X hx hZ eT hown w1 w2 w3 w4 hy K hpd hlen hsz hW hf hl hc hs hd hst fun T' v L X' q => by obtain ⟨rfl, M, e⟩ := q; exact kk T' L X' M e
theorem Run.callVI {n0 : Nat} {z0 : Int32} (X : Stand p l e R s m args below meth c T locs cells slots) (hx : p.tables.exec = Jvm.exec) (hZ : Z.Warmed39 s.vm) (eT : T.heap = h) {own C : String} {index : Nat} {y z : MethodName} {bytes : ByteArray} {ml : Nat} {ret : Option FieldType} {rm : Room}
    (hown : s.vm.findClass own = some m.cls) (w1 : (Jvm.Cond.methodLink own index y).before a0 Z = true) (w2 : (Jvm.Cond.declares y).before a0 Z = true) (hnf : NotFace s y) (w5 : (Jvm.Cond.selects C y z).before a0 Z = true) (w6 : (Jvm.Cond.instanceMethod z).before a0 Z = true) (w3 : (Jvm.Cond.initialized z.cls).before a0 Z = true) (w4 : (Jvm.Cond.code z bytes ml ret).before a0 Z = true)
    (hy : y.cls ≠ "java/lang/invoke/MethodHandle" ∧ y.cls ≠ "java/lang/invoke/VarHandle") {a : Addr} (E : Exa Z h a C) {argsL rest : List Value} (K : Ctr l Z z bytes ml ret rm (.ref a :: argsL).toArray h (PureI h n0 z0)) {ps : List FieldType} {r : Option FieldType} (hpd : parseMethodDescriptor y.desc = some ⟨ps, r⟩) (hlen : argsL.length = ps.length)
    {pc q : Nat} {Ls : Array Slot} (hsz : Ls.size = c.maxLocals) {W : Nat} (hW : (rest.map fun v => v.category).sum = W) (hf : rm.frames + 1 ≤ R.frames) (hl : W + (ml + 11) + rm.locals ≤ R.locals) (hc : cells + rm.cells ≤ R.cells) (hs : slots + rm.slots ≤ R.slots)
    (hd : decode c.code pc = .ok (.invokevirtual index, 3)) {st : List Value} (hst : st = argsL.reverse ++ .ref a :: rest)
    (hq : pc + 3 = q) (kk : ∀ (T' : State) (L : List Loc), Stand p l e R s m args below meth c T' (locs ++ L) (cells + rm.cells) (slots + rm.slots) → Fr n0 L → T'.heap = h → Run p e below s Q k n (T'.setTop (mkF m q Ls (.int z0 :: rest)))) :
    Run p e below s Q k n (T.setTop (mkF m pc Ls st)) := by
  subst hq
  exact Run.callV X hx hZ eT hown w1 w2 hnf w5 w6 w3 w4 hy E K hpd hlen hsz hW hf hl hc hs hd hst fun T' v L X' q => by obtain ⟨rfl, M, e⟩ := q; exact kk T' L X' M e
end Laws2
end Jvm.OwnRun
namespace Jvm.Pilot.@@N@@
open Jvm Jvm.ClassFile Sem Op Lib Jvm.Free Jvm.Stand Jvm.LawKit Jvm.RoadKit Jvm.OwnRun Bundle Jvm.Pilot.@@N@@.Jvm.D
theorem own_ofn {i : Int32} {n : Nat} (h : i.toInt = n) (h' : n ≤ 100000) : (i + 1).toInt = (n + 1 : Nat) := by
 have q := c_iadd i 1
 have r := rng32 (i + 1)
 have : (1 : Int32).toInt = 1 := rfl
 omega
theorem own_u16 (y : UInt16) : y.toUInt32.toInt32.toInt = (y.toNat : Int) := by
 have := y.toNat_lt
 show y.toUInt32.toBitVec.toInt = _
 rw [BitVec.toInt_eq_toNat_of_lt (by show 2 * y.toUInt32.toNat < _; rw [UInt16.toNat_toUInt32]; omega)]
 show ((y.toUInt32.toNat : Nat) : Int) = _
 rw [UInt16.toNat_toUInt32]
theorem own_rg {x k : Int32} (h : x.toUInt32.toUInt16.toUInt32.toInt32 = k) : 0 ≤ k.toInt ∧ k.toInt < 65536 := by
 subst h
 have q := x.toUInt32.toUInt16.toNat_lt
 have e := own_u16 x.toUInt32.toUInt16
 omega
theorem own_nr {c : Int32} (h : 0 ≤ c.toInt ∧ c.toInt < 65536) : nar .char c = c := by
 have : c = (UInt16.ofNat c.toInt.toNat).toUInt32.toInt32 := by
  apply Int32.toInt_inj.mp
  rw [own_u16, UInt16.toNat_ofNat']
  omega
 rw [this]
 show (UInt16.ofNat c.toInt.toNat).toUInt32.toInt32.toUInt32.toUInt16.toUInt32.toInt32 = _
 simp
theorem own_ic {c : Int32} (h : 0 ≤ c.toInt ∧ c.toInt < 65536) : c.toUInt32.toUInt16.toUInt32.toInt32 = c := own_nr h
theorem own_nm1 {c : Int32} (h : 0 ≤ c.toInt) : ¬ c = (-1 : Int32) := fun q => by
 subst q
 have : (-1 : Int32).toInt = -1 := by decide
 omega
theorem own_nm2 {c : Int32} (h : 0 ≤ c.toInt) : ¬ (-1 : Int32) = c := fun q => own_nm1 h q.symm
def own_look (u : Int32) (un tg : List Int32) : Nat → Nat → Int32
 | 0, _ => 0
 | d + 1, t => if un.getD t 0 = u then tg.getD t 0 else own_look u un tg d (t + 1)
def own_next (f k : Int32) (un tg : List Int32) (a d : Nat) (u : Int32) : Int32 := if u = f then k + 1 else own_look u un tg d a
theorem own_look_p {u : Int32} {un tg : List Int32} {d t : Nat} (h : un.getD t 0 = u) : own_look u un tg (d + 1) t = tg.getD t 0 := by rw [own_look, if_pos h]
theorem own_look_n {u : Int32} {un tg : List Int32} {d t : Nat} (h : ¬ un.getD t 0 = u) : own_look u un tg (d + 1) t = own_look u un tg d (t + 1) := by rw [own_look, if_neg h]
theorem own_next_p {f k u : Int32} {un tg : List Int32} {a d : Nat} (h : u = f) : own_next f k un tg a d u = k + 1 := if_pos h
theorem own_next_n {f k u : Int32} {un tg : List Int32} {a d : Nat} (h : ¬ u = f) : own_next f k un tg a d u = own_look u un tg d a := if_neg h
theorem own_mapD {un : List Int32} {t : Nat} (h : t < un.length) : (un.map Value.int)[t]? = some (.int (un.getD t 0)) := by simp [h]
theorem own_bne {c : Prop} [Decidable c] (h : ¬ own_b c = 0) : c := by
 by_cases q : c
 ·exact q
 ·exact absurd (own_b0 q) h
theorem own_beq {c : Prop} [Decidable c] (h : own_b c = 0) : ¬ c := fun q => by
 rw [own_b1 q] at h
 exact absurd h (by decide)
def own_rw (k : Nat) (f : Int32) (rw un tg : List Int32) (X : Int32 → Int32) : Prop := ∃ (a d : Nat) (za ze : Int32), (rw.map Value.int)[k]? = some (.int za) ∧ (rw.map Value.int)[k + 1]? = some (.int ze) ∧ za.toInt = a ∧ ze.toInt = (a + d : Nat) ∧ a + d ≤ un.length ∧ a + d ≤ tg.length ∧ a + d ≤ 1000 ∧ ∀ u : Int32, 0 ≤ u.toInt → own_next f (Int32.ofNat k) un tg a d u = X u
theorem d1_0 : decode prog_24_method_3_code 0 = .ok (.iload_n 2, 1) := by decide +kernel
theorem d1_1 : decode prog_24_method_3_code 1 = .ok (.aload_n 0, 1) := by decide +kernel
theorem d1_2 : decode prog_24_method_3_code 2 = .ok (.getfield 13, 3) := by decide +kernel
theorem d1_5 : decode prog_24_method_3_code 5 = .ok (.iload_n 1, 1) := by decide +kernel
theorem d1_6 : decode prog_24_method_3_code 6 = .ok (.iaload, 1) := by decide +kernel
theorem d1_7 : decode prog_24_method_3_code 7 = .ok (.if_icmp .ne 7, 3) := by decide +kernel
theorem d1_10 : decode prog_24_method_3_code 10 = .ok (.iload_n 1, 1) := by decide +kernel
theorem d1_11 : decode prog_24_method_3_code 11 = .ok (.iconst 1, 1) := by decide +kernel
theorem d1_12 : decode prog_24_method_3_code 12 = .ok (.iadd, 1) := by decide +kernel
theorem d1_13 : decode prog_24_method_3_code 13 = .ok (.ireturn, 1) := by decide +kernel
theorem d1_14 : decode prog_24_method_3_code 14 = .ok (.aload_n 0, 1) := by decide +kernel
theorem d1_15 : decode prog_24_method_3_code 15 = .ok (.getfield 17, 3) := by decide +kernel
theorem d1_18 : decode prog_24_method_3_code 18 = .ok (.iload_n 1, 1) := by decide +kernel
theorem d1_19 : decode prog_24_method_3_code 19 = .ok (.iaload, 1) := by decide +kernel
theorem d1_20 : decode prog_24_method_3_code 20 = .ok (.istore_n 3, 1) := by decide +kernel
theorem d1_21 : decode prog_24_method_3_code 21 = .ok (.iload_n 3, 1) := by decide +kernel
theorem d1_22 : decode prog_24_method_3_code 22 = .ok (.aload_n 0, 1) := by decide +kernel
theorem d1_23 : decode prog_24_method_3_code 23 = .ok (.getfield 17, 3) := by decide +kernel
theorem d1_26 : decode prog_24_method_3_code 26 = .ok (.iload_n 1, 1) := by decide +kernel
theorem d1_27 : decode prog_24_method_3_code 27 = .ok (.iconst 1, 1) := by decide +kernel
theorem d1_28 : decode prog_24_method_3_code 28 = .ok (.iadd, 1) := by decide +kernel
theorem d1_29 : decode prog_24_method_3_code 29 = .ok (.iaload, 1) := by decide +kernel
theorem d1_30 : decode prog_24_method_3_code 30 = .ok (.if_icmp .ge 26, 3) := by decide +kernel
theorem d1_33 : decode prog_24_method_3_code 33 = .ok (.aload_n 0, 1) := by decide +kernel
theorem d1_34 : decode prog_24_method_3_code 34 = .ok (.getfield 20, 3) := by decide +kernel
theorem d1_37 : decode prog_24_method_3_code 37 = .ok (.iload_n 3, 1) := by decide +kernel
theorem d1_38 : decode prog_24_method_3_code 38 = .ok (.caload, 1) := by decide +kernel
theorem d1_39 : decode prog_24_method_3_code 39 = .ok (.iload_n 2, 1) := by decide +kernel
theorem d1_40 : decode prog_24_method_3_code 40 = .ok (.if_icmp .ne 10, 3) := by decide +kernel
theorem d1_43 : decode prog_24_method_3_code 43 = .ok (.aload_n 0, 1) := by decide +kernel
theorem d1_44 : decode prog_24_method_3_code 44 = .ok (.getfield 24, 3) := by decide +kernel
theorem d1_47 : decode prog_24_method_3_code 47 = .ok (.iload_n 3, 1) := by decide +kernel
theorem d1_48 : decode prog_24_method_3_code 48 = .ok (.iaload, 1) := by decide +kernel
theorem d1_49 : decode prog_24_method_3_code 49 = .ok (.ireturn, 1) := by decide +kernel
theorem d1_50 : decode prog_24_method_3_code 50 = .ok (.iinc 3 1, 3) := by decide +kernel
theorem d1_53 : decode prog_24_method_3_code 53 = .ok (.goto (-32), 3) := by decide +kernel
theorem d1_56 : decode prog_24_method_3_code 56 = .ok (.iconst 0, 1) := by decide +kernel
theorem d1_57 : decode prog_24_method_3_code 57 = .ok (.ireturn, 1) := by decide +kernel
theorem pn_0 : plainName "needlewise/kmp/SparseAutomaton" = true := by first | (simp [plainName, overriddenIn]; done) | decide +kernel
theorem ef_c_next (m : MethodId) (this : Addr) (k : Int32) (u : Int32) : entryFrame m #[(.ref this), (.int k), (.int u)] 4 = mkF m 0 #[.val (.ref this), .val (.int k), .val (.int u), .unset] [] := by first | (simp [entryFrame, mkF, argsToLocals, Value.category]; done) | rfl
theorem wm23 {a0 : Array Value} {Z : State} (hw : ∀ d ∈ tables_1, d.before a0 Z = true) : (Jvm.Cond.fieldLink "needlewise/kmp/SparseAutomaton" (13 : Nat) "needlewise/kmp/SparseAutomaton" "forward" "[I").before a0 Z = true := hw _ (List.mem_of_getElem? (i := 23) rfl)
theorem wm25 {a0 : Array Value} {Z : State} (hw : ∀ d ∈ tables_1, d.before a0 Z = true) : (Jvm.Cond.fieldLink "needlewise/kmp/SparseAutomaton" (17 : Nat) "needlewise/kmp/SparseAutomaton" "rows" "[I").before a0 Z = true := hw _ (List.mem_of_getElem? (i := 25) rfl)
theorem wm27 {a0 : Array Value} {Z : State} (hw : ∀ d ∈ tables_1, d.before a0 Z = true) : (Jvm.Cond.fieldLink "needlewise/kmp/SparseAutomaton" (20 : Nat) "needlewise/kmp/SparseAutomaton" "units" "[C").before a0 Z = true := hw _ (List.mem_of_getElem? (i := 27) rfl)
theorem wm29 {a0 : Array Value} {Z : State} (hw : ∀ d ∈ tables_1, d.before a0 Z = true) : (Jvm.Cond.fieldLink "needlewise/kmp/SparseAutomaton" (24 : Nat) "needlewise/kmp/SparseAutomaton" "targets" "[I").before a0 Z = true := hw _ (List.mem_of_getElem? (i := 29) rfl)
set_option maxRecDepth 65536 in
set_option maxHeartbeats 40000000 in
theorem c_next (l : Launch) (Z : State) (a0 : Array Value) (hw : ∀ d ∈ tables_1, d.before a0 Z = true) (this : Addr) (k : Int32) (u : Int32) (h0 : Heap) (n0 : Nat) (Z0 : n0 ≤ h0.size) (fo : Addr) (ro : Addr) (uo : Addr) (to : Addr) (fw : List Value) (rw : List Value) (un : List Int32) (tg : List Int32) (kn : Nat) (a : Nat) (d : Nat) (f : Int32) (za : Int32) (ze : Int32) (z : Int32) (E_this : Exa Z h0 this "needlewise/kmp/SparseAutomaton") (F_this_forward : Fld Z h0 this "needlewise/kmp/SparseAutomaton" "forward" "[I" (.ref fo)) (F_this_rows : Fld Z h0 this "needlewise/kmp/SparseAutomaton" "rows" "[I" (.ref ro)) (F_this_units : Fld Z h0 this "needlewise/kmp/SparseAutomaton" "units" "[C" (.ref uo)) (F_this_targets : Fld Z h0 this "needlewise/kmp/SparseAutomaton" "targets" "[I" (.ref to)) (A_fo : Ars Z h0 fo .int fw) (A_ro : Ars Z h0 ro .int rw) (A_uo : Ars Z h0 uo .char (un.map Value.int)) (A_to : Ars Z h0 to .int (tg.map Value.int)) (hk : k.toInt = kn) (hk1 : (k + (1 : Int32)).toInt = (kn + 1 : Nat)) (hf : fw[kn]? = some (.int f)) (ha : rw[kn]? = some (.int za)) (he : rw[kn + 1]? = some (.int ze)) (hza : za.toInt = a) (hze : ze.toInt = (a + d : Nat)) (hu1 : a + d ≤ un.length) (ht1 : a + d ≤ tg.length) (hbd : a + d ≤ 1000) (hz : own_next f k un tg a d u = z) :
  Ctr l Z (⟨"needlewise/kmp/SparseAutomaton", "next", "(IC)I"⟩ : MethodName) prog_24_method_3_code 4 (some .int) ({ frames := 0, cells := 0, slots := 0, locals := 0 } : Room) #[(.ref this), (.int k), (.int u)] h0 (PureI h0 n0 z) := by
 refine Ctr.of (plainFor_of_name pn_0) (fun m => ef_c_next m this k u) ?_
 intro p e s m below meth c T0 hx hby hml hown hnm hret hlk hZ e0 X0
 have N0 := Fr.nil n0
 replace hown : s.vm.findClass "needlewise/kmp/SparseAutomaton" = some m.cls := hown
 replace hml : c.maxLocals = 4 := hml
 refine Run.x_iloadN (q := 1) X0 hx (hb hby d1_0) rfl rfl ?_
 refine Run.x_aloadN (q := 2) X0 hx (hb hby d1_1) rfl rfl rfl ?_
 refine Run.z_getF (q := 5) X0 hx hZ e0 hown (wm23 hw) F_this_forward (hb hby d1_2) rfl fun T1 X1 e1 => ?_
 refine Run.x_iloadN (q := 6) X1 hx (hb hby d1_5) rfl rfl ?_
 refine Run.y_ldI (q := 7) X1 hx hZ e1 A_fo (i := kn) (v := (.int f)) hk hf (hb hby d1_6) rfl ?_
 by_cases hc7 : u = f
 ·skip
  refine Run.x_icmpNo (q := 10) X1 hx (hb hby d1_7) (teq hc7).2 rfl ?_
  refine Run.x_iloadN (q := 11) X1 hx (hb hby d1_10) rfl rfl ?_
  refine Run.x_iconst (q := 12) X1 hx (hb hby d1_11) (z := (1 : Int32)) rfl rfl ?_
  refine Run.x_iadd (q := 13) X1 hx (hb hby d1_12) rfl rfl ?_
  refine Run.retI X1 hx hlk e1 hret (hb hby d1_13) (by decide) (by decide) ?_
  exact PureI.mk (by exact (own_next_p hc7).symm.trans hz) N0
 ·skip
  refine Run.x_icmpYes (q := 14) X1 hx (hb hby d1_7) (feq hc7).2 (by decide) (by decide) ?_
  refine Run.x_aloadN (q := 15) X1 hx (hb hby d1_14) rfl rfl rfl ?_
  refine Run.z_getF (q := 18) X1 hx hZ e1 hown (wm25 hw) F_this_rows (hb hby d1_15) rfl fun T2 X2 e2 => ?_
  refine Run.x_iloadN (q := 19) X2 hx (hb hby d1_18) rfl rfl ?_
  refine Run.y_ldI (q := 20) X2 hx hZ e2 A_ro (i := kn) (v := (.int za)) hk ha (hb hby d1_19) rfl ?_
  refine Run.x_istoreN (q := 21) X2 hx #[.val (.ref this), .val (.int k), .val (.int u), .val (.int za)] (hb hby d1_20) rfl rfl ?_
  have loop : ∀ (d t : Nat) (T : State) (lo : List Loc) (tv : Int32), tv.toInt = t → ze.toInt = (t + d : Nat) → t + d ≤ un.length → t + d ≤ tg.length → t + d ≤ 1000 → own_look u un tg d t = z → Stand p l e ({ frames := 0, cells := 0, slots := 0, locals := 0 } : Room) s m #[(.ref this), (.int k), (.int u)] below meth c T lo 0 0 → T.heap = h0 → Fr n0 lo → Run p e below s (PureI h0 n0 z) ({ frames := 0, cells := 0, slots := 0, locals := 0 } : Room).cells ({ frames := 0, cells := 0, slots := 0, locals := 0 } : Room).slots (T.setTop (mkF m 21 #[.val (.ref this), .val (.int k), .val (.int u), .val (.int tv)] [])) := by
   intro d
   induction d with
   | zero =>
    intro t T lo tv htv hze hu1 ht1 hbd hlz X eT N
    refine Run.x_iloadN (q := 22) X hx (hb hby d1_21) rfl rfl ?_
    refine Run.x_aloadN (q := 23) X hx (hb hby d1_22) rfl rfl rfl ?_
    refine Run.z_getF (q := 26) X hx hZ eT hown (wm25 hw) F_this_rows (hb hby d1_23) rfl fun T3 X3 e3 => ?_
    refine Run.x_iloadN (q := 27) X3 hx (hb hby d1_26) rfl rfl ?_
    refine Run.x_iconst (q := 28) X3 hx (hb hby d1_27) (z := (1 : Int32)) rfl rfl ?_
    refine Run.x_iadd (q := 29) X3 hx (hb hby d1_28) rfl rfl ?_
    refine Run.y_ldI (q := 30) X3 hx hZ e3 A_ro (i := (kn + 1)) (v := (.int ze)) hk1 he (hb hby d1_29) rfl ?_
    refine Run.x_icmpYes (q := 56) X3 hx (hb hby d1_30) (flt (by rw [lt32]; omega)).2.1 (by decide) (by decide) ?_
    refine Run.x_iconst (q := 57) X3 hx (hb hby d1_56) (z := (0 : Int32)) rfl rfl ?_
    refine Run.retI X3 hx hlk e3 hret (hb hby d1_57) (by decide) (by decide) ?_
    exact PureI.mk (by exact hlz) N
   | succ d ih =>
    intro t T lo tv htv hze hu1 ht1 hbd hlz X eT N
    refine Run.x_iloadN (q := 22) X hx (hb hby d1_21) rfl rfl ?_
    refine Run.x_aloadN (q := 23) X hx (hb hby d1_22) rfl rfl rfl ?_
    refine Run.z_getF (q := 26) X hx hZ eT hown (wm25 hw) F_this_rows (hb hby d1_23) rfl fun T4 X4 e4 => ?_
    refine Run.x_iloadN (q := 27) X4 hx (hb hby d1_26) rfl rfl ?_
    refine Run.x_iconst (q := 28) X4 hx (hb hby d1_27) (z := (1 : Int32)) rfl rfl ?_
    refine Run.x_iadd (q := 29) X4 hx (hb hby d1_28) rfl rfl ?_
    refine Run.y_ldI (q := 30) X4 hx hZ e4 A_ro (i := (kn + 1)) (v := (.int ze)) hk1 he (hb hby d1_29) rfl ?_
    refine Run.x_icmpNo (q := 33) X4 hx (hb hby d1_30) (tlt (by rw [lt32]; omega)).2.1 rfl ?_
    refine Run.x_aloadN (q := 34) X4 hx (hb hby d1_33) rfl rfl rfl ?_
    refine Run.z_getF (q := 37) X4 hx hZ e4 hown (wm27 hw) F_this_units (hb hby d1_34) rfl fun T5 X5 e5 => ?_
    refine Run.x_iloadN (q := 38) X5 hx (hb hby d1_37) rfl rfl ?_
    refine Run.y_ldC (q := 39) X5 hx hZ e5 A_uo (i := t) (v := (.int (un.getD t 0))) htv (own_mapD (by omega)) (hb hby d1_38) rfl ?_
    refine Run.x_iloadN (q := 40) X5 hx (hb hby d1_39) rfl rfl ?_
    by_cases hc40 : (un.getD t 0) = u
    ·skip
     refine Run.x_icmpNo (q := 43) X5 hx (hb hby d1_40) (teq hc40).2 rfl ?_
     refine Run.x_aloadN (q := 44) X5 hx (hb hby d1_43) rfl rfl rfl ?_
     refine Run.z_getF (q := 47) X5 hx hZ e5 hown (wm29 hw) F_this_targets (hb hby d1_44) rfl fun T6 X6 e6 => ?_
     refine Run.x_iloadN (q := 48) X6 hx (hb hby d1_47) rfl rfl ?_
     refine Run.y_ldI (q := 49) X6 hx hZ e6 A_to (i := t) (v := (.int (tg.getD t 0))) htv (own_mapD (by omega)) (hb hby d1_48) rfl ?_
     refine Run.retI X6 hx hlk e6 hret (hb hby d1_49) (by decide) (by decide) ?_
     exact PureI.mk (by exact (own_look_p hc40).symm.trans hlz) N
    ·skip
     refine Run.x_icmpYes (q := 50) X5 hx (hb hby d1_40) (feq hc40).2 (by decide) (by decide) ?_
     refine Run.x_iinc (q := 53) X5 hx #[.val (.ref this), .val (.int k), .val (.int u), .val (.int (tv + (1 : Int32)))] (hb hby d1_50) rfl (z := (tv + (1 : Int32))) rfl rfl rfl ?_
     refine Run.x_goto (q := 21) X5 hx (hb hby d1_53) (by decide) (by decide) ?_
     exact ih (t + 1) _ _ _ (own_ofn htv (by omega)) (by omega) (by omega) (by omega) (by omega) ((own_look_n hc40).symm.trans hlz) X5 e5 N
  exact loop d a _ _ _ hza hze hu1 ht1 hbd ((own_next_n hc7).symm.trans hz) X2 e2 N0
theorem d2_0 : decode prog_24_method_1_code 0 = .ok (.aload_n 0, 1) := by decide +kernel
theorem d2_1 : decode prog_24_method_1_code 1 = .ok (.invokespecial 1, 3) := by decide +kernel
theorem d2_4 : decode prog_24_method_1_code 4 = .ok (.aload_n 0, 1) := by decide +kernel
theorem d2_5 : decode prog_24_method_1_code 5 = .ok (.aload_n 1, 1) := by decide +kernel
theorem d2_6 : decode prog_24_method_1_code 6 = .ok (.arraylength, 1) := by decide +kernel
theorem d2_7 : decode prog_24_method_1_code 7 = .ok (.putfield 7, 3) := by decide +kernel
theorem d2_10 : decode prog_24_method_1_code 10 = .ok (.aload_n 0, 1) := by decide +kernel
theorem d2_11 : decode prog_24_method_1_code 11 = .ok (.aload_n 0, 1) := by decide +kernel
theorem d2_12 : decode prog_24_method_1_code 12 = .ok (.getfield 7, 3) := by decide +kernel
theorem d2_15 : decode prog_24_method_1_code 15 = .ok (.iconst 1, 1) := by decide +kernel
theorem d2_16 : decode prog_24_method_1_code 16 = .ok (.iadd, 1) := by decide +kernel
theorem d2_17 : decode prog_24_method_1_code 17 = .ok (.newarray .int, 2) := by decide +kernel
theorem d2_19 : decode prog_24_method_1_code 19 = .ok (.putfield 13, 3) := by decide +kernel
theorem d2_22 : decode prog_24_method_1_code 22 = .ok (.iconst 0, 1) := by decide +kernel
theorem d2_23 : decode prog_24_method_1_code 23 = .ok (.istore_n 2, 1) := by decide +kernel
theorem d2_24 : decode prog_24_method_1_code 24 = .ok (.iload_n 2, 1) := by decide +kernel
theorem d2_25 : decode prog_24_method_1_code 25 = .ok (.aload_n 0, 1) := by decide +kernel
theorem d2_26 : decode prog_24_method_1_code 26 = .ok (.getfield 7, 3) := by decide +kernel
theorem d2_29 : decode prog_24_method_1_code 29 = .ok (.if_icmp .ge 18, 3) := by decide +kernel
theorem d2_32 : decode prog_24_method_1_code 32 = .ok (.aload_n 0, 1) := by decide +kernel
theorem d2_33 : decode prog_24_method_1_code 33 = .ok (.getfield 13, 3) := by decide +kernel
theorem d2_36 : decode prog_24_method_1_code 36 = .ok (.iload_n 2, 1) := by decide +kernel
theorem d2_37 : decode prog_24_method_1_code 37 = .ok (.aload_n 1, 1) := by decide +kernel
theorem d2_38 : decode prog_24_method_1_code 38 = .ok (.iload_n 2, 1) := by decide +kernel
theorem d2_39 : decode prog_24_method_1_code 39 = .ok (.caload, 1) := by decide +kernel
theorem d2_40 : decode prog_24_method_1_code 40 = .ok (.iastore, 1) := by decide +kernel
theorem d2_41 : decode prog_24_method_1_code 41 = .ok (.iinc 2 1, 3) := by decide +kernel
theorem d2_44 : decode prog_24_method_1_code 44 = .ok (.goto (-20), 3) := by decide +kernel
theorem d2_47 : decode prog_24_method_1_code 47 = .ok (.aload_n 0, 1) := by decide +kernel
theorem d2_48 : decode prog_24_method_1_code 48 = .ok (.getfield 13, 3) := by decide +kernel
theorem d2_51 : decode prog_24_method_1_code 51 = .ok (.aload_n 0, 1) := by decide +kernel
theorem d2_52 : decode prog_24_method_1_code 52 = .ok (.getfield 7, 3) := by decide +kernel
theorem d2_55 : decode prog_24_method_1_code 55 = .ok (.iconst (-1), 1) := by decide +kernel
theorem d2_56 : decode prog_24_method_1_code 56 = .ok (.iastore, 1) := by decide +kernel
theorem d2_57 : decode prog_24_method_1_code 57 = .ok (.aload_n 0, 1) := by decide +kernel
theorem d2_58 : decode prog_24_method_1_code 58 = .ok (.aload_n 0, 1) := by decide +kernel
theorem d2_59 : decode prog_24_method_1_code 59 = .ok (.getfield 7, 3) := by decide +kernel
theorem d2_62 : decode prog_24_method_1_code 62 = .ok (.iconst 2, 1) := by decide +kernel
theorem d2_63 : decode prog_24_method_1_code 63 = .ok (.iadd, 1) := by decide +kernel
theorem d2_64 : decode prog_24_method_1_code 64 = .ok (.newarray .int, 2) := by decide +kernel
theorem d2_66 : decode prog_24_method_1_code 66 = .ok (.putfield 17, 3) := by decide +kernel
theorem d2_69 : decode prog_24_method_1_code 69 = .ok (.aload_n 0, 1) := by decide +kernel
theorem d2_70 : decode prog_24_method_1_code 70 = .ok (.aload_n 0, 1) := by decide +kernel
theorem d2_71 : decode prog_24_method_1_code 71 = .ok (.getfield 7, 3) := by decide +kernel
theorem d2_74 : decode prog_24_method_1_code 74 = .ok (.newarray .char, 2) := by decide +kernel
theorem d2_76 : decode prog_24_method_1_code 76 = .ok (.putfield 20, 3) := by decide +kernel
theorem d2_79 : decode prog_24_method_1_code 79 = .ok (.aload_n 0, 1) := by decide +kernel
theorem d2_80 : decode prog_24_method_1_code 80 = .ok (.aload_n 0, 1) := by decide +kernel
theorem d2_81 : decode prog_24_method_1_code 81 = .ok (.getfield 7, 3) := by decide +kernel
theorem d2_84 : decode prog_24_method_1_code 84 = .ok (.newarray .int, 2) := by decide +kernel
theorem d2_86 : decode prog_24_method_1_code 86 = .ok (.putfield 24, 3) := by decide +kernel
theorem d2_89 : decode prog_24_method_1_code 89 = .ok (.iconst 0, 1) := by decide +kernel
theorem d2_90 : decode prog_24_method_1_code 90 = .ok (.istore_n 2, 1) := by decide +kernel
theorem d2_91 : decode prog_24_method_1_code 91 = .ok (.iconst 0, 1) := by decide +kernel
theorem d2_92 : decode prog_24_method_1_code 92 = .ok (.istore_n 3, 1) := by decide +kernel
theorem d2_93 : decode prog_24_method_1_code 93 = .ok (.iconst 1, 1) := by decide +kernel
theorem d2_94 : decode prog_24_method_1_code 94 = .ok (.istore 4, 2) := by decide +kernel
theorem d2_96 : decode prog_24_method_1_code 96 = .ok (.iload 4, 2) := by decide +kernel
theorem d2_98 : decode prog_24_method_1_code 98 = .ok (.aload_n 0, 1) := by decide +kernel
theorem d2_99 : decode prog_24_method_1_code 99 = .ok (.getfield 7, 3) := by decide +kernel
theorem d2_102 : decode prog_24_method_1_code 102 = .ok (.if_icmp .gt 152, 3) := by decide +kernel
theorem d2_105 : decode prog_24_method_1_code 105 = .ok (.aload_n 0, 1) := by decide +kernel
theorem d2_106 : decode prog_24_method_1_code 106 = .ok (.getfield 17, 3) := by decide +kernel
theorem d2_109 : decode prog_24_method_1_code 109 = .ok (.iload_n 3, 1) := by decide +kernel
theorem d2_110 : decode prog_24_method_1_code 110 = .ok (.iaload, 1) := by decide +kernel
theorem d2_111 : decode prog_24_method_1_code 111 = .ok (.istore 5, 2) := by decide +kernel
theorem d2_113 : decode prog_24_method_1_code 113 = .ok (.iload 5, 2) := by decide +kernel
theorem d2_115 : decode prog_24_method_1_code 115 = .ok (.aload_n 0, 1) := by decide +kernel
theorem d2_116 : decode prog_24_method_1_code 116 = .ok (.getfield 17, 3) := by decide +kernel
theorem d2_119 : decode prog_24_method_1_code 119 = .ok (.iload_n 3, 1) := by decide +kernel
theorem d2_120 : decode prog_24_method_1_code 120 = .ok (.iconst 1, 1) := by decide +kernel
theorem d2_121 : decode prog_24_method_1_code 121 = .ok (.iadd, 1) := by decide +kernel
theorem d2_122 : decode prog_24_method_1_code 122 = .ok (.iaload, 1) := by decide +kernel
theorem d2_123 : decode prog_24_method_1_code 123 = .ok (.if_icmp .ge 55, 3) := by decide +kernel
theorem d2_126 : decode prog_24_method_1_code 126 = .ok (.aload_n 0, 1) := by decide +kernel
theorem d2_127 : decode prog_24_method_1_code 127 = .ok (.getfield 20, 3) := by decide +kernel
theorem d2_130 : decode prog_24_method_1_code 130 = .ok (.iload 5, 2) := by decide +kernel
theorem d2_132 : decode prog_24_method_1_code 132 = .ok (.caload, 1) := by decide +kernel
theorem d2_133 : decode prog_24_method_1_code 133 = .ok (.aload_n 0, 1) := by decide +kernel
theorem d2_134 : decode prog_24_method_1_code 134 = .ok (.getfield 13, 3) := by decide +kernel
theorem d2_137 : decode prog_24_method_1_code 137 = .ok (.iload 4, 2) := by decide +kernel
theorem d2_139 : decode prog_24_method_1_code 139 = .ok (.iaload, 1) := by decide +kernel
theorem d2_140 : decode prog_24_method_1_code 140 = .ok (.if_icmp .eq 32, 3) := by decide +kernel
theorem d2_143 : decode prog_24_method_1_code 143 = .ok (.aload_n 0, 1) := by decide +kernel
theorem d2_144 : decode prog_24_method_1_code 144 = .ok (.getfield 20, 3) := by decide +kernel
theorem d2_147 : decode prog_24_method_1_code 147 = .ok (.iload_n 2, 1) := by decide +kernel
theorem d2_148 : decode prog_24_method_1_code 148 = .ok (.aload_n 0, 1) := by decide +kernel
theorem d2_149 : decode prog_24_method_1_code 149 = .ok (.getfield 20, 3) := by decide +kernel
theorem d2_152 : decode prog_24_method_1_code 152 = .ok (.iload 5, 2) := by decide +kernel
theorem d2_154 : decode prog_24_method_1_code 154 = .ok (.caload, 1) := by decide +kernel
theorem d2_155 : decode prog_24_method_1_code 155 = .ok (.castore, 1) := by decide +kernel
theorem d2_156 : decode prog_24_method_1_code 156 = .ok (.aload_n 0, 1) := by decide +kernel
theorem d2_157 : decode prog_24_method_1_code 157 = .ok (.getfield 24, 3) := by decide +kernel
theorem d2_160 : decode prog_24_method_1_code 160 = .ok (.iload_n 2, 1) := by decide +kernel
theorem d2_161 : decode prog_24_method_1_code 161 = .ok (.iinc 2 1, 3) := by decide +kernel
theorem d2_164 : decode prog_24_method_1_code 164 = .ok (.aload_n 0, 1) := by decide +kernel
theorem d2_165 : decode prog_24_method_1_code 165 = .ok (.getfield 24, 3) := by decide +kernel
theorem d2_168 : decode prog_24_method_1_code 168 = .ok (.iload 5, 2) := by decide +kernel
theorem d2_170 : decode prog_24_method_1_code 170 = .ok (.iaload, 1) := by decide +kernel
theorem d2_171 : decode prog_24_method_1_code 171 = .ok (.iastore, 1) := by decide +kernel
theorem d2_172 : decode prog_24_method_1_code 172 = .ok (.iinc 5 1, 3) := by decide +kernel
theorem d2_175 : decode prog_24_method_1_code 175 = .ok (.goto (-62), 3) := by decide +kernel
theorem d2_178 : decode prog_24_method_1_code 178 = .ok (.aload_n 0, 1) := by decide +kernel
theorem d2_179 : decode prog_24_method_1_code 179 = .ok (.getfield 13, 3) := by decide +kernel
theorem d2_182 : decode prog_24_method_1_code 182 = .ok (.iload_n 3, 1) := by decide +kernel
theorem d2_183 : decode prog_24_method_1_code 183 = .ok (.iaload, 1) := by decide +kernel
theorem d2_184 : decode prog_24_method_1_code 184 = .ok (.aload_n 0, 1) := by decide +kernel
theorem d2_185 : decode prog_24_method_1_code 185 = .ok (.getfield 13, 3) := by decide +kernel
theorem d2_188 : decode prog_24_method_1_code 188 = .ok (.iload 4, 2) := by decide +kernel
theorem d2_190 : decode prog_24_method_1_code 190 = .ok (.iaload, 1) := by decide +kernel
theorem d2_191 : decode prog_24_method_1_code 191 = .ok (.if_icmp .eq 28, 3) := by decide +kernel
theorem d2_194 : decode prog_24_method_1_code 194 = .ok (.aload_n 0, 1) := by decide +kernel
theorem d2_195 : decode prog_24_method_1_code 195 = .ok (.getfield 20, 3) := by decide +kernel
theorem d2_198 : decode prog_24_method_1_code 198 = .ok (.iload_n 2, 1) := by decide +kernel
theorem d2_199 : decode prog_24_method_1_code 199 = .ok (.aload_n 0, 1) := by decide +kernel
theorem d2_200 : decode prog_24_method_1_code 200 = .ok (.getfield 13, 3) := by decide +kernel
theorem d2_203 : decode prog_24_method_1_code 203 = .ok (.iload_n 3, 1) := by decide +kernel
theorem d2_204 : decode prog_24_method_1_code 204 = .ok (.iaload, 1) := by decide +kernel
theorem d2_205 : decode prog_24_method_1_code 205 = .ok (.i2c, 1) := by decide +kernel
theorem d2_206 : decode prog_24_method_1_code 206 = .ok (.castore, 1) := by decide +kernel
theorem d2_207 : decode prog_24_method_1_code 207 = .ok (.aload_n 0, 1) := by decide +kernel
theorem d2_208 : decode prog_24_method_1_code 208 = .ok (.getfield 24, 3) := by decide +kernel
theorem d2_211 : decode prog_24_method_1_code 211 = .ok (.iload_n 2, 1) := by decide +kernel
theorem d2_212 : decode prog_24_method_1_code 212 = .ok (.iinc 2 1, 3) := by decide +kernel
theorem d2_215 : decode prog_24_method_1_code 215 = .ok (.iload_n 3, 1) := by decide +kernel
theorem d2_216 : decode prog_24_method_1_code 216 = .ok (.iconst 1, 1) := by decide +kernel
theorem d2_217 : decode prog_24_method_1_code 217 = .ok (.iadd, 1) := by decide +kernel
theorem d2_218 : decode prog_24_method_1_code 218 = .ok (.iastore, 1) := by decide +kernel
theorem d2_219 : decode prog_24_method_1_code 219 = .ok (.aload_n 0, 1) := by decide +kernel
theorem d2_220 : decode prog_24_method_1_code 220 = .ok (.getfield 17, 3) := by decide +kernel
theorem d2_223 : decode prog_24_method_1_code 223 = .ok (.iload 4, 2) := by decide +kernel
theorem d2_225 : decode prog_24_method_1_code 225 = .ok (.iconst 1, 1) := by decide +kernel
theorem d2_226 : decode prog_24_method_1_code 226 = .ok (.iadd, 1) := by decide +kernel
theorem d2_227 : decode prog_24_method_1_code 227 = .ok (.iload_n 2, 1) := by decide +kernel
theorem d2_228 : decode prog_24_method_1_code 228 = .ok (.iastore, 1) := by decide +kernel
theorem d2_229 : decode prog_24_method_1_code 229 = .ok (.iload 4, 2) := by decide +kernel
theorem d2_231 : decode prog_24_method_1_code 231 = .ok (.aload_n 0, 1) := by decide +kernel
theorem d2_232 : decode prog_24_method_1_code 232 = .ok (.getfield 7, 3) := by decide +kernel
theorem d2_235 : decode prog_24_method_1_code 235 = .ok (.if_icmp .ge 13, 3) := by decide +kernel
theorem d2_238 : decode prog_24_method_1_code 238 = .ok (.aload_n 0, 1) := by decide +kernel
theorem d2_239 : decode prog_24_method_1_code 239 = .ok (.iload_n 3, 1) := by decide +kernel
theorem d2_240 : decode prog_24_method_1_code 240 = .ok (.aload_n 1, 1) := by decide +kernel
theorem d2_241 : decode prog_24_method_1_code 241 = .ok (.iload 4, 2) := by decide +kernel
theorem d2_243 : decode prog_24_method_1_code 243 = .ok (.caload, 1) := by decide +kernel
theorem d2_244 : decode prog_24_method_1_code 244 = .ok (.invokevirtual 27, 3) := by decide +kernel
theorem d2_247 : decode prog_24_method_1_code 247 = .ok (.istore_n 3, 1) := by decide +kernel
theorem d2_248 : decode prog_24_method_1_code 248 = .ok (.iinc 4 1, 3) := by decide +kernel
theorem d2_251 : decode prog_24_method_1_code 251 = .ok (.goto (-155), 3) := by decide +kernel
theorem d2_254 : decode prog_24_method_1_code 254 = .ok (.return_, 1) := by decide +kernel
theorem ef_c_init0 (m : MethodId) (this : Addr) (pat : Addr) : entryFrame m #[(.ref this), (.ref pat)] 6 = mkF m 0 #[.val (.ref this), .val (.ref pat), .unset, .unset, .unset, .unset] [] := by first | (simp [entryFrame, mkF, argsToLocals, Value.category]; done) | rfl
theorem wm17 {a0 : Array Value} {Z : State} (hw : ∀ d ∈ tables_1, d.before a0 Z = true) : (Jvm.Cond.methodLink "needlewise/kmp/SparseAutomaton" (1 : Nat) ({ cls := "java/lang/Object", name := "<init>", desc := "()V" } : Jvm.MethodName)).before a0 Z = true := hw _ (List.mem_of_getElem? (i := 17) rfl)
theorem wm19 {a0 : Array Value} {Z : State} (hw : ∀ d ∈ tables_1, d.before a0 Z = true) : (Jvm.Cond.code ({ cls := "java/lang/Object", name := "<init>", desc := "()V" } : Jvm.MethodName) object_method_1_code (1 : Nat) (Option.none : Option Jvm.ClassFile.FieldType)).before a0 Z = true := hw _ (List.mem_of_getElem? (i := 19) rfl)
theorem wm18 {a0 : Array Value} {Z : State} (hw : ∀ d ∈ tables_1, d.before a0 Z = true) : (Jvm.Cond.instanceMethod ({ cls := "java/lang/Object", name := "<init>", desc := "()V" } : Jvm.MethodName)).before a0 Z = true := hw _ (List.mem_of_getElem? (i := 18) rfl)
theorem wm20 {a0 : Array Value} {Z : State} (hw : ∀ d ∈ tables_1, d.before a0 Z = true) : (Jvm.Cond.fieldLink "needlewise/kmp/SparseAutomaton" (7 : Nat) "needlewise/kmp/SparseAutomaton" "length" "I").before a0 Z = true := hw _ (List.mem_of_getElem? (i := 20) rfl)
theorem wm21 {a0 : Array Value} {Z : State} (hw : ∀ d ∈ tables_1, d.before a0 Z = true) : (Jvm.Cond.laysFinal "needlewise/kmp/SparseAutomaton" "needlewise/kmp/SparseAutomaton" "length" "I").before a0 Z = true := hw _ (List.mem_of_getElem? (i := 21) rfl)
theorem wm8 {a0 : Array Value} {Z : State} (hw : ∀ d ∈ tables_1, d.before a0 Z = true) : (Jvm.Cond.instantiable "needlewise/kmp/SparseAutomaton" (5 : Nat)).before a0 Z = true := hw _ (List.mem_of_getElem? (i := 8) rfl)
theorem wm22 {a0 : Array Value} {Z : State} (hw : ∀ d ∈ tables_1, d.before a0 Z = true) : (Jvm.Cond.arrayClass Jvm.ClassFile.FieldType.int).before a0 Z = true := hw _ (List.mem_of_getElem? (i := 22) rfl)
theorem wm24 {a0 : Array Value} {Z : State} (hw : ∀ d ∈ tables_1, d.before a0 Z = true) : (Jvm.Cond.laysFinal "needlewise/kmp/SparseAutomaton" "needlewise/kmp/SparseAutomaton" "forward" "[I").before a0 Z = true := hw _ (List.mem_of_getElem? (i := 24) rfl)
theorem wm26 {a0 : Array Value} {Z : State} (hw : ∀ d ∈ tables_1, d.before a0 Z = true) : (Jvm.Cond.laysFinal "needlewise/kmp/SparseAutomaton" "needlewise/kmp/SparseAutomaton" "rows" "[I").before a0 Z = true := hw _ (List.mem_of_getElem? (i := 26) rfl)
theorem wm2 {a0 : Array Value} {Z : State} (hw : ∀ d ∈ tables_1, d.before a0 Z = true) : (Jvm.Cond.arrayClass Jvm.ClassFile.FieldType.char).before a0 Z = true := hw _ (List.mem_of_getElem? (i := 2) rfl)
theorem wm28 {a0 : Array Value} {Z : State} (hw : ∀ d ∈ tables_1, d.before a0 Z = true) : (Jvm.Cond.laysFinal "needlewise/kmp/SparseAutomaton" "needlewise/kmp/SparseAutomaton" "units" "[C").before a0 Z = true := hw _ (List.mem_of_getElem? (i := 28) rfl)
theorem wm30 {a0 : Array Value} {Z : State} (hw : ∀ d ∈ tables_1, d.before a0 Z = true) : (Jvm.Cond.laysFinal "needlewise/kmp/SparseAutomaton" "needlewise/kmp/SparseAutomaton" "targets" "[I").before a0 Z = true := hw _ (List.mem_of_getElem? (i := 30) rfl)
set_option maxRecDepth 65536 in
set_option maxHeartbeats 40000000 in
theorem c_init0 (l : Launch) (Z : State) (a0 : Array Value) (hw : ∀ d ∈ tables_1, d.before a0 Z = true) (this : Addr) (pat : Addr) (h0 : Heap) (n0 : Nat) (Z0 : n0 ≤ h0.size) (E_this : Exa Z h0 this "needlewise/kmp/SparseAutomaton") (F_this_length : Fld Z h0 this "needlewise/kmp/SparseAutomaton" "length" "I" (.int 0)) (F_this_forward : Fld Z h0 this "needlewise/kmp/SparseAutomaton" "forward" "[I" .null) (F_this_rows : Fld Z h0 this "needlewise/kmp/SparseAutomaton" "rows" "[I" .null) (F_this_units : Fld Z h0 this "needlewise/kmp/SparseAutomaton" "units" "[C" .null) (F_this_targets : Fld Z h0 this "needlewise/kmp/SparseAutomaton" "targets" "[I" .null) (A_pat : Ars Z h0 pat .char []) (g_this : n0 ≤ this) (ne_this_pat : this ≠ pat) :
  Ctr l Z (⟨"needlewise/kmp/SparseAutomaton", "<init>", "([C)V"⟩ : MethodName) prog_24_method_1_code 6 none ({ frames := 1, cells := 4, slots := 3, locals := 12 } : Room) #[(.ref this), (.ref pat)] h0 (fun v h L => ∃ (fo ro uo to : Addr) (rw un tg : List Int32), v = none ∧ Fr n0 L ∧ Exa Z h this "needlewise/kmp/SparseAutomaton" ∧ Fld Z h this "needlewise/kmp/SparseAutomaton" "forward" "[I" (.ref fo) ∧ Fld Z h this "needlewise/kmp/SparseAutomaton" "rows" "[I" (.ref ro) ∧ Fld Z h this "needlewise/kmp/SparseAutomaton" "units" "[C" (.ref uo) ∧ Fld Z h this "needlewise/kmp/SparseAutomaton" "targets" "[I" (.ref to) ∧ Ars Z h fo .int [(.int (-1))] ∧ Ars Z h ro .int (rw.map Value.int) ∧ Ars Z h uo .char (un.map Value.int) ∧ Ars Z h to .int (tg.map Value.int) ∧ own_rw 0 (-1 : Int32) rw un tg (fun u => (0 : Int32))) := by
 refine Ctr.of (plainFor_of_name pn_0) (fun m => ef_c_init0 m this pat) ?_
 intro p e s m below meth c T0 hx hby hml hown hnm hret hlk hZ e0 X0
 have N0 := Fr.nil n0
 replace hown : s.vm.findClass "needlewise/kmp/SparseAutomaton" = some m.cls := hown
 replace hml : c.maxLocals = 6 := hml
 refine Run.x_aloadN (q := 1) X0 hx (hb hby d2_0) rfl rfl rfl ?_
 refine Run.init X0 hx hZ e0 hown (wm17 hw) (wm18 hw) (wm19 hw) (by rw [hml]; rfl) (hb hby d2_1) (by decide) (W := 0) rfl (by decide) ?_
 intro T1 X1 e1
 show Run p e below s _ _ _ (T1.setTop (mkF m 4 #[.val (.ref this), .val (.ref pat), .unset, .unset, .unset, .unset] []))
 refine Run.x_aloadN (q := 5) X1 hx (hb hby d2_4) rfl rfl rfl ?_
 refine Run.x_aloadN (q := 6) X1 hx (hb hby d2_5) rfl rfl rfl ?_
 refine Run.y_alen (q := 7) X1 hx hZ e1 A_pat (z := (0 : Int32)) (by decide) (hb hby d2_6) rfl ?_
 obtain ⟨T2, h2, X2, e2, W2, st2⟩ := putF X1 hx hZ hown (host := "") (Or.inl (wm20 hw)) Via.refl e1 F_this_length E_this (Or.inr ⟨(wm21 hw), rfl, hnm⟩) (wm8 hw) (ty := .int) (by decide) rfl rfl (g := (mkF m 7 #[.val (.ref this), .val (.ref pat), .unset, .unset, .unset, .unset] [(.int 0), (.ref this)])) rfl rfl (hb hby d2_7)
 replace F_this_length := F_this_length.same W2
 have Z2 : n0 ≤ h2.size := Nat.le_trans Z0 (Nat.le_of_eq W2.size.symm)
 have N2 := Fr.snoc X2 N0 g_this
 refine Run.st st2 ?_
 show Run p e below s _ _ _ (T2.setTop (mkF m 10 #[.val (.ref this), .val (.ref pat), .unset, .unset, .unset, .unset] []))
 refine Run.x_aloadN (q := 11) X2 hx (hb hby d2_10) rfl rfl rfl ?_
 refine Run.x_aloadN (q := 12) X2 hx (hb hby d2_11) rfl rfl rfl ?_
 refine Run.z_getF (q := 15) X2 hx hZ e2 hown (wm20 hw) F_this_length (hb hby d2_12) rfl fun T3 X3 e3 => ?_
 refine Run.x_iconst (q := 16) X3 hx (hb hby d2_15) (z := (1 : Int32)) rfl rfl ?_
 refine Run.x_iadd (q := 17) X3 hx (hb hby d2_16) (z := (1 : Int32)) (by decide) rfl ?_
 refine Run.newP (aty := .int) X3 hx hZ e3 (wm22 hw) (hb hby d2_17) (len := 1) (by decide) (by decide) (cap := 1) (by decide) (by decide) (by decide) (by decide) ?_
 intro T4 h4 b4 gg4 X4 e4 E4 A_b4
 have g_b4 : n0 ≤ b4 := Nat.le_trans Z2 (Nat.le_of_eq gg4.symm)
 replace E_this := E_this.wr W2
 have ne_this_b4 : this ≠ b4 := Nat.ne_of_lt (Nat.lt_of_lt_of_le E_this.lt (Nat.le_of_eq gg4.symm))
 replace A_pat := A_pat.other W2 (Ne.symm ne_this_pat)
 have ne_pat_b4 : pat ≠ b4 := Nat.ne_of_lt (Nat.lt_of_lt_of_le A_pat.lt (Nat.le_of_eq gg4.symm))
 have Z4 : n0 ≤ h4.size := Nat.le_trans Z2 E4.1
 replace A_b4 : Ars Z h4 b4 .int [(.int 0)] := A_b4
 show Run p e below s _ _ _ (T4.setTop (mkF m 19 #[.val (.ref this), .val (.ref pat), .unset, .unset, .unset, .unset] [(.ref b4), (.ref this)]))
 replace F_this_forward := (F_this_forward.other W2 (Or.inr (slot_ne (Or.inr (wm24 hw)) (Or.inr (wm21 hw)) (by decide) (t := (.array .int)) (t' := .int) (by decide) (by decide)))).ext E4
 replace E_this := E_this.ext E4
 obtain ⟨T5, h5, X5, e5, W5, st5⟩ := putF X4 hx hZ hown (host := "") (Or.inl (wm23 hw)) Via.refl e4 F_this_forward E_this (Or.inr ⟨(wm24 hw), rfl, hnm⟩) (wm8 hw) (ty := (.array .int)) (by decide) rfl rfl (g := (mkF m 19 #[.val (.ref this), .val (.ref pat), .unset, .unset, .unset, .unset] [(.ref b4), (.ref this)])) rfl rfl (hb hby d2_19)
 replace F_this_forward := F_this_forward.same W5
 have Z5 : n0 ≤ h5.size := Nat.le_trans Z4 (Nat.le_of_eq W5.size.symm)
 have N5 := Fr.snoc X5 N2 g_this
 refine Run.st st5 ?_
 show Run p e below s _ _ _ (T5.setTop (mkF m 22 #[.val (.ref this), .val (.ref pat), .unset, .unset, .unset, .unset] []))
 refine Run.x_iconst (q := 23) X5 hx (hb hby d2_22) (z := (0 : Int32)) rfl rfl ?_
 refine Run.x_istoreN (q := 24) X5 hx #[.val (.ref this), .val (.ref pat), .val (.int 0), .unset, .unset, .unset] (hb hby d2_23) rfl rfl ?_
 refine Run.x_iloadN (q := 25) X5 hx (hb hby d2_24) rfl rfl ?_
 refine Run.x_aloadN (q := 26) X5 hx (hb hby d2_25) rfl rfl rfl ?_
 replace F_this_length := (F_this_length.ext E4).other W5 (Or.inr (slot_ne (Or.inr (wm21 hw)) (Or.inr (wm24 hw)) (by decide) (t := .int) (t' := (.array .int)) (by decide) (by decide)))
 refine Run.z_getF (q := 29) X5 hx hZ e5 hown (wm20 hw) F_this_length (hb hby d2_26) rfl fun T6 X6 e6 => ?_
 refine Run.x_icmpYes (q := 47) X6 hx (hb hby d2_29) (flt (by decide : ¬ ((0 : Int32) < (0 : Int32)))).2.1 (by decide) (by decide) ?_
 refine Run.x_aloadN (q := 48) X6 hx (hb hby d2_47) rfl rfl rfl ?_
 refine Run.z_getF (q := 51) X6 hx hZ e6 hown (wm23 hw) F_this_forward (hb hby d2_48) rfl fun T7 X7 e7 => ?_
 refine Run.x_aloadN (q := 52) X7 hx (hb hby d2_51) rfl rfl rfl ?_
 refine Run.z_getF (q := 55) X7 hx hZ e7 hown (wm20 hw) F_this_length (hb hby d2_52) rfl fun T8 X8 e8 => ?_
 refine Run.x_iconst (q := 56) X8 hx (hb hby d2_55) (z := (-1 : Int32)) rfl rfl ?_
 replace A_b4 := A_b4.other W5 (Ne.symm ne_this_b4)
 refine Run.y_stI (q := 57) X8 hx hZ e8 A_b4 (i := 0) (by decide) (Nat.le_of_ble_eq_true rfl) (hb hby d2_56) rfl fun T9 h9 X9 e9 W9 A9 => ?_
 replace A_b4 : Ars Z h9 b4 .int [(.int (-1))] := A9
 have N9 := Fr.snoc X9 N5 g_b4
 have Z9 : n0 ≤ h9.size := Nat.le_trans Z5 (Nat.le_of_eq W9.size.symm)
 refine Run.x_aloadN (q := 58) X9 hx (hb hby d2_57) rfl rfl rfl ?_
 refine Run.x_aloadN (q := 59) X9 hx (hb hby d2_58) rfl rfl rfl ?_
 replace F_this_length := F_this_length.other W9 (Or.inl ne_this_b4)
 refine Run.z_getF (q := 62) X9 hx hZ e9 hown (wm20 hw) F_this_length (hb hby d2_59) rfl fun T10 X10 e10 => ?_
 refine Run.x_iconst (q := 63) X10 hx (hb hby d2_62) (z := (2 : Int32)) rfl rfl ?_
 refine Run.x_iadd (q := 64) X10 hx (hb hby d2_63) (z := (2 : Int32)) (by decide) rfl ?_
 refine Run.newP (aty := .int) X10 hx hZ e10 (wm22 hw) (hb hby d2_64) (len := 2) (by decide) (by decide) (cap := 2) (by decide) (by decide) (by decide) (by decide) ?_
 intro T11 h11 b11 gg11 X11 e11 E11 A_b11
 have g_b11 : n0 ≤ b11 := Nat.le_trans Z9 (Nat.le_of_eq gg11.symm)
 replace E_this := (E_this.wr W5).wr W9
 have ne_this_b11 : this ≠ b11 := Nat.ne_of_lt (Nat.lt_of_lt_of_le E_this.lt (Nat.le_of_eq gg11.symm))
 replace A_pat := ((A_pat.ext E4).other W5 (Ne.symm ne_this_pat)).other W9 ne_pat_b4
 have ne_pat_b11 : pat ≠ b11 := Nat.ne_of_lt (Nat.lt_of_lt_of_le A_pat.lt (Nat.le_of_eq gg11.symm))
 have ne_b4_b11 : b4 ≠ b11 := Nat.ne_of_lt (Nat.lt_of_lt_of_le A_b4.lt (Nat.le_of_eq gg11.symm))
 have Z11 : n0 ≤ h11.size := Nat.le_trans Z9 E11.1
 replace A_b11 : Ars Z h11 b11 .int [(.int 0), (.int 0)] := A_b11
 show Run p e below s _ _ _ (T11.setTop (mkF m 66 #[.val (.ref this), .val (.ref pat), .val (.int 0), .unset, .unset, .unset] [(.ref b11), (.ref this)]))
 replace F_this_rows := ((((F_this_rows.other W2 (Or.inr (slot_ne (Or.inr (wm26 hw)) (Or.inr (wm21 hw)) (by decide) (t := (.array .int)) (t' := .int) (by decide) (by decide)))).ext E4).other W5 (Or.inr (slot_ne (Or.inr (wm26 hw)) (Or.inr (wm24 hw)) (by decide) (t := (.array .int)) (t' := (.array .int)) (by decide) (by decide)))).other W9 (Or.inl ne_this_b4)).ext E11
 replace E_this := E_this.ext E11
 obtain ⟨T12, h12, X12, e12, W12, st12⟩ := putF X11 hx hZ hown (host := "") (Or.inl (wm25 hw)) Via.refl e11 F_this_rows E_this (Or.inr ⟨(wm26 hw), rfl, hnm⟩) (wm8 hw) (ty := (.array .int)) (by decide) rfl rfl (g := (mkF m 66 #[.val (.ref this), .val (.ref pat), .val (.int 0), .unset, .unset, .unset] [(.ref b11), (.ref this)])) rfl rfl (hb hby d2_66)
 replace F_this_rows := F_this_rows.same W12
 have Z12 : n0 ≤ h12.size := Nat.le_trans Z11 (Nat.le_of_eq W12.size.symm)
 have N12 := Fr.snoc X12 N9 g_this
 refine Run.st st12 ?_
 show Run p e below s _ _ _ (T12.setTop (mkF m 69 #[.val (.ref this), .val (.ref pat), .val (.int 0), .unset, .unset, .unset] []))
 refine Run.x_aloadN (q := 70) X12 hx (hb hby d2_69) rfl rfl rfl ?_
 refine Run.x_aloadN (q := 71) X12 hx (hb hby d2_70) rfl rfl rfl ?_
 replace F_this_length := (F_this_length.ext E11).other W12 (Or.inr (slot_ne (Or.inr (wm21 hw)) (Or.inr (wm26 hw)) (by decide) (t := .int) (t' := (.array .int)) (by decide) (by decide)))
 refine Run.z_getF (q := 74) X12 hx hZ e12 hown (wm20 hw) F_this_length (hb hby d2_71) rfl fun T13 X13 e13 => ?_
 refine Run.newP (aty := .char) X13 hx hZ e13 (wm2 hw) (hb hby d2_74) (len := 0) (by decide) (by decide) (cap := 0) (by decide) (by decide) (by decide) (by decide) ?_
 intro T14 h14 b14 gg14 X14 e14 E14 A_b14
 have g_b14 : n0 ≤ b14 := Nat.le_trans Z12 (Nat.le_of_eq gg14.symm)
 replace E_this := E_this.wr W12
 have ne_this_b14 : this ≠ b14 := Nat.ne_of_lt (Nat.lt_of_lt_of_le E_this.lt (Nat.le_of_eq gg14.symm))
 replace A_pat := (A_pat.ext E11).other W12 (Ne.symm ne_this_pat)
 have ne_pat_b14 : pat ≠ b14 := Nat.ne_of_lt (Nat.lt_of_lt_of_le A_pat.lt (Nat.le_of_eq gg14.symm))
 replace A_b4 := (A_b4.ext E11).other W12 (Ne.symm ne_this_b4)
 have ne_b4_b14 : b4 ≠ b14 := Nat.ne_of_lt (Nat.lt_of_lt_of_le A_b4.lt (Nat.le_of_eq gg14.symm))
 replace A_b11 := A_b11.other W12 (Ne.symm ne_this_b11)
 have ne_b11_b14 : b11 ≠ b14 := Nat.ne_of_lt (Nat.lt_of_lt_of_le A_b11.lt (Nat.le_of_eq gg14.symm))
 have Z14 : n0 ≤ h14.size := Nat.le_trans Z12 E14.1
 replace A_b14 : Ars Z h14 b14 .char [] := A_b14
 show Run p e below s _ _ _ (T14.setTop (mkF m 76 #[.val (.ref this), .val (.ref pat), .val (.int 0), .unset, .unset, .unset] [(.ref b14), (.ref this)]))
 replace F_this_units := ((((((F_this_units.other W2 (Or.inr (slot_ne (Or.inr (wm28 hw)) (Or.inr (wm21 hw)) (by decide) (t := (.array .char)) (t' := .int) (by decide) (by decide)))).ext E4).other W5 (Or.inr (slot_ne (Or.inr (wm28 hw)) (Or.inr (wm24 hw)) (by decide) (t := (.array .char)) (t' := (.array .int)) (by decide) (by decide)))).other W9 (Or.inl ne_this_b4)).ext E11).other W12 (Or.inr (slot_ne (Or.inr (wm28 hw)) (Or.inr (wm26 hw)) (by decide) (t := (.array .char)) (t' := (.array .int)) (by decide) (by decide)))).ext E14
 replace E_this := E_this.ext E14
 obtain ⟨T15, h15, X15, e15, W15, st15⟩ := putF X14 hx hZ hown (host := "") (Or.inl (wm27 hw)) Via.refl e14 F_this_units E_this (Or.inr ⟨(wm28 hw), rfl, hnm⟩) (wm8 hw) (ty := (.array .char)) (by decide) rfl rfl (g := (mkF m 76 #[.val (.ref this), .val (.ref pat), .val (.int 0), .unset, .unset, .unset] [(.ref b14), (.ref this)])) rfl rfl (hb hby d2_76)
 replace F_this_units := F_this_units.same W15
 have Z15 : n0 ≤ h15.size := Nat.le_trans Z14 (Nat.le_of_eq W15.size.symm)
 have N15 := Fr.snoc X15 N12 g_this
 refine Run.st st15 ?_
 show Run p e below s _ _ _ (T15.setTop (mkF m 79 #[.val (.ref this), .val (.ref pat), .val (.int 0), .unset, .unset, .unset] []))
 refine Run.x_aloadN (q := 80) X15 hx (hb hby d2_79) rfl rfl rfl ?_
 refine Run.x_aloadN (q := 81) X15 hx (hb hby d2_80) rfl rfl rfl ?_
 replace F_this_length := (F_this_length.ext E14).other W15 (Or.inr (slot_ne (Or.inr (wm21 hw)) (Or.inr (wm28 hw)) (by decide) (t := .int) (t' := (.array .char)) (by decide) (by decide)))
 refine Run.z_getF (q := 84) X15 hx hZ e15 hown (wm20 hw) F_this_length (hb hby d2_81) rfl fun T16 X16 e16 => ?_
 refine Run.newP (aty := .int) X16 hx hZ e16 (wm22 hw) (hb hby d2_84) (len := 0) (by decide) (by decide) (cap := 0) (by decide) (by decide) (by decide) (by decide) ?_
 intro T17 h17 b17 gg17 X17 e17 E17 A_b17
 have g_b17 : n0 ≤ b17 := Nat.le_trans Z15 (Nat.le_of_eq gg17.symm)
 replace E_this := E_this.wr W15
 have ne_this_b17 : this ≠ b17 := Nat.ne_of_lt (Nat.lt_of_lt_of_le E_this.lt (Nat.le_of_eq gg17.symm))
 replace A_pat := (A_pat.ext E14).other W15 (Ne.symm ne_this_pat)
 have ne_pat_b17 : pat ≠ b17 := Nat.ne_of_lt (Nat.lt_of_lt_of_le A_pat.lt (Nat.le_of_eq gg17.symm))
 replace A_b4 := (A_b4.ext E14).other W15 (Ne.symm ne_this_b4)
 have ne_b4_b17 : b4 ≠ b17 := Nat.ne_of_lt (Nat.lt_of_lt_of_le A_b4.lt (Nat.le_of_eq gg17.symm))
 replace A_b11 := (A_b11.ext E14).other W15 (Ne.symm ne_this_b11)
 have ne_b11_b17 : b11 ≠ b17 := Nat.ne_of_lt (Nat.lt_of_lt_of_le A_b11.lt (Nat.le_of_eq gg17.symm))
 replace A_b14 := A_b14.other W15 (Ne.symm ne_this_b14)
 have ne_b14_b17 : b14 ≠ b17 := Nat.ne_of_lt (Nat.lt_of_lt_of_le A_b14.lt (Nat.le_of_eq gg17.symm))
 have Z17 : n0 ≤ h17.size := Nat.le_trans Z15 E17.1
 replace A_b17 : Ars Z h17 b17 .int [] := A_b17
 show Run p e below s _ _ _ (T17.setTop (mkF m 86 #[.val (.ref this), .val (.ref pat), .val (.int 0), .unset, .unset, .unset] [(.ref b17), (.ref this)]))
 replace F_this_targets := ((((((((F_this_targets.other W2 (Or.inr (slot_ne (Or.inr (wm30 hw)) (Or.inr (wm21 hw)) (by decide) (t := (.array .int)) (t' := .int) (by decide) (by decide)))).ext E4).other W5 (Or.inr (slot_ne (Or.inr (wm30 hw)) (Or.inr (wm24 hw)) (by decide) (t := (.array .int)) (t' := (.array .int)) (by decide) (by decide)))).other W9 (Or.inl ne_this_b4)).ext E11).other W12 (Or.inr (slot_ne (Or.inr (wm30 hw)) (Or.inr (wm26 hw)) (by decide) (t := (.array .int)) (t' := (.array .int)) (by decide) (by decide)))).ext E14).other W15 (Or.inr (slot_ne (Or.inr (wm30 hw)) (Or.inr (wm28 hw)) (by decide) (t := (.array .int)) (t' := (.array .char)) (by decide) (by decide)))).ext E17
 replace E_this := E_this.ext E17
 obtain ⟨T18, h18, X18, e18, W18, st18⟩ := putF X17 hx hZ hown (host := "") (Or.inl (wm29 hw)) Via.refl e17 F_this_targets E_this (Or.inr ⟨(wm30 hw), rfl, hnm⟩) (wm8 hw) (ty := (.array .int)) (by decide) rfl rfl (g := (mkF m 86 #[.val (.ref this), .val (.ref pat), .val (.int 0), .unset, .unset, .unset] [(.ref b17), (.ref this)])) rfl rfl (hb hby d2_86)
 replace F_this_targets := F_this_targets.same W18
 have Z18 : n0 ≤ h18.size := Nat.le_trans Z17 (Nat.le_of_eq W18.size.symm)
 have N18 := Fr.snoc X18 N15 g_this
 refine Run.st st18 ?_
 show Run p e below s _ _ _ (T18.setTop (mkF m 89 #[.val (.ref this), .val (.ref pat), .val (.int 0), .unset, .unset, .unset] []))
 refine Run.x_iconst (q := 90) X18 hx (hb hby d2_89) (z := (0 : Int32)) rfl rfl ?_
 refine Run.x_istoreN (q := 91) X18 hx #[.val (.ref this), .val (.ref pat), .val (.int 0), .unset, .unset, .unset] (hb hby d2_90) rfl rfl ?_
 refine Run.x_iconst (q := 92) X18 hx (hb hby d2_91) (z := (0 : Int32)) rfl rfl ?_
 refine Run.x_istoreN (q := 93) X18 hx #[.val (.ref this), .val (.ref pat), .val (.int 0), .val (.int 0), .unset, .unset] (hb hby d2_92) rfl rfl ?_
 refine Run.x_iconst (q := 94) X18 hx (hb hby d2_93) (z := (1 : Int32)) rfl rfl ?_
 refine Run.x_istore (q := 96) X18 hx #[.val (.ref this), .val (.ref pat), .val (.int 0), .val (.int 0), .val (.int 1), .unset] (hb hby d2_94) rfl rfl ?_
 refine Run.x_iload (q := 98) X18 hx (hb hby d2_96) rfl rfl ?_
 refine Run.x_aloadN (q := 99) X18 hx (hb hby d2_98) rfl rfl rfl ?_
 replace F_this_length := (F_this_length.ext E17).other W18 (Or.inr (slot_ne (Or.inr (wm21 hw)) (Or.inr (wm30 hw)) (by decide) (t := .int) (t' := (.array .int)) (by decide) (by decide)))
 refine Run.z_getF (q := 102) X18 hx hZ e18 hown (wm20 hw) F_this_length (hb hby d2_99) rfl fun T19 X19 e19 => ?_
 refine Run.x_icmpYes (q := 254) X19 hx (hb hby d2_102) (tlt (by decide : (0 : Int32) < (1 : Int32))).2.2.1 (by decide) (by decide) ?_
 replace E_this := E_this.wr W18
 replace F_this_forward := ((((((F_this_forward.other W9 (Or.inl ne_this_b4)).ext E11).other W12 (Or.inr (slot_ne (Or.inr (wm24 hw)) (Or.inr (wm26 hw)) (by decide) (t := (.array .int)) (t' := (.array .int)) (by decide) (by decide)))).ext E14).other W15 (Or.inr (slot_ne (Or.inr (wm24 hw)) (Or.inr (wm28 hw)) (by decide) (t := (.array .int)) (t' := (.array .char)) (by decide) (by decide)))).ext E17).other W18 (Or.inr (slot_ne (Or.inr (wm24 hw)) (Or.inr (wm30 hw)) (by decide) (t := (.array .int)) (t' := (.array .int)) (by decide) (by decide)))
 replace F_this_rows := (((F_this_rows.ext E14).other W15 (Or.inr (slot_ne (Or.inr (wm26 hw)) (Or.inr (wm28 hw)) (by decide) (t := (.array .int)) (t' := (.array .char)) (by decide) (by decide)))).ext E17).other W18 (Or.inr (slot_ne (Or.inr (wm26 hw)) (Or.inr (wm30 hw)) (by decide) (t := (.array .int)) (t' := (.array .int)) (by decide) (by decide)))
 replace F_this_units := (F_this_units.ext E17).other W18 (Or.inr (slot_ne (Or.inr (wm28 hw)) (Or.inr (wm30 hw)) (by decide) (t := (.array .char)) (t' := (.array .int)) (by decide) (by decide)))
 replace A_pat := (A_pat.ext E17).other W18 (Ne.symm ne_this_pat)
 replace A_b4 := (A_b4.ext E17).other W18 (Ne.symm ne_this_b4)
 replace A_b11 := (A_b11.ext E17).other W18 (Ne.symm ne_this_b11)
 replace A_b14 := (A_b14.ext E17).other W18 (Ne.symm ne_this_b14)
 replace A_b17 := A_b17.other W18 (Ne.symm ne_this_b17)
 refine Run.retV X19 hx hlk e19 hret (hb hby d2_254) (by decide) (by decide) ?_
 have R0 : own_rw 0 (-1 : Int32) [(0 : Int32), (0 : Int32)] [] [] (fun u => (0 : Int32)) := by
  refine ⟨0, 0, (0 : Int32), (0 : Int32), rfl, rfl, by decide, by decide, Nat.le_of_ble_eq_true rfl, Nat.le_of_ble_eq_true rfl, by decide, fun u hu => ?_⟩
  exact Eq.trans (b := (0 : Int32)) (Eq.trans (own_next_n (own_nm1 hu)) (rfl)) (Eq.symm (rfl))
 exact ⟨b4, b11, b14, b17, [(0 : Int32), (0 : Int32)], [], [], rfl, N18, E_this, F_this_forward, F_this_rows, F_this_units, F_this_targets, A_b4, A_b11, A_b14, A_b17, R0⟩
theorem ef_c_init1 (m : MethodId) (this : Addr) (pat : Addr) : entryFrame m #[(.ref this), (.ref pat)] 6 = mkF m 0 #[.val (.ref this), .val (.ref pat), .unset, .unset, .unset, .unset] [] := by first | (simp [entryFrame, mkF, argsToLocals, Value.category]; done) | rfl
set_option maxRecDepth 65536 in
set_option maxHeartbeats 40000000 in
theorem c_init1 (l : Launch) (Z : State) (a0 : Array Value) (hw : ∀ d ∈ tables_1, d.before a0 Z = true) (this : Addr) (pat : Addr) (h0 : Heap) (n0 : Nat) (Z0 : n0 ≤ h0.size) (c0 : Int32) (E_this : Exa Z h0 this "needlewise/kmp/SparseAutomaton") (F_this_length : Fld Z h0 this "needlewise/kmp/SparseAutomaton" "length" "I" (.int 0)) (F_this_forward : Fld Z h0 this "needlewise/kmp/SparseAutomaton" "forward" "[I" .null) (F_this_rows : Fld Z h0 this "needlewise/kmp/SparseAutomaton" "rows" "[I" .null) (F_this_units : Fld Z h0 this "needlewise/kmp/SparseAutomaton" "units" "[C" .null) (F_this_targets : Fld Z h0 this "needlewise/kmp/SparseAutomaton" "targets" "[I" .null) (A_pat : Ars Z h0 pat .char [(.int c0)]) (g_this : n0 ≤ this) (ne_this_pat : this ≠ pat) (hr0 : 0 ≤ c0.toInt ∧ c0.toInt < 65536) :
  Ctr l Z (⟨"needlewise/kmp/SparseAutomaton", "<init>", "([C)V"⟩ : MethodName) prog_24_method_1_code 6 none ({ frames := 1, cells := 4, slots := 7, locals := 12 } : Room) #[(.ref this), (.ref pat)] h0 (fun v h L => ∃ (fo ro uo to : Addr) (rw un tg : List Int32), v = none ∧ Fr n0 L ∧ Exa Z h this "needlewise/kmp/SparseAutomaton" ∧ Fld Z h this "needlewise/kmp/SparseAutomaton" "forward" "[I" (.ref fo) ∧ Fld Z h this "needlewise/kmp/SparseAutomaton" "rows" "[I" (.ref ro) ∧ Fld Z h this "needlewise/kmp/SparseAutomaton" "units" "[C" (.ref uo) ∧ Fld Z h this "needlewise/kmp/SparseAutomaton" "targets" "[I" (.ref to) ∧ Ars Z h fo .int [(.int c0), (.int (-1))] ∧ Ars Z h ro .int (rw.map Value.int) ∧ Ars Z h uo .char (un.map Value.int) ∧ Ars Z h to .int (tg.map Value.int) ∧ own_rw 0 c0 rw un tg (fun u => (if c0 = u then (1 : Int32) else (0 : Int32))) ∧ own_rw 1 (-1 : Int32) rw un tg (fun u => (if c0 = u then (1 : Int32) else (0 : Int32)))) := by
 refine Ctr.of (plainFor_of_name pn_0) (fun m => ef_c_init1 m this pat) ?_
 intro p e s m below meth c T0 hx hby hml hown hnm hret hlk hZ e0 X0
 have N0 := Fr.nil n0
 replace hown : s.vm.findClass "needlewise/kmp/SparseAutomaton" = some m.cls := hown
 replace hml : c.maxLocals = 6 := hml
 refine Run.x_aloadN (q := 1) X0 hx (hb hby d2_0) rfl rfl rfl ?_
 refine Run.init X0 hx hZ e0 hown (wm17 hw) (wm18 hw) (wm19 hw) (by rw [hml]; rfl) (hb hby d2_1) (by decide) (W := 0) rfl (by decide) ?_
 intro T1 X1 e1
 show Run p e below s _ _ _ (T1.setTop (mkF m 4 #[.val (.ref this), .val (.ref pat), .unset, .unset, .unset, .unset] []))
 refine Run.x_aloadN (q := 5) X1 hx (hb hby d2_4) rfl rfl rfl ?_
 refine Run.x_aloadN (q := 6) X1 hx (hb hby d2_5) rfl rfl rfl ?_
 refine Run.y_alen (q := 7) X1 hx hZ e1 A_pat (z := (1 : Int32)) rfl (hb hby d2_6) rfl ?_
 obtain ⟨T2, h2, X2, e2, W2, st2⟩ := putF X1 hx hZ hown (host := "") (Or.inl (wm20 hw)) Via.refl e1 F_this_length E_this (Or.inr ⟨(wm21 hw), rfl, hnm⟩) (wm8 hw) (ty := .int) (by decide) rfl rfl (g := (mkF m 7 #[.val (.ref this), .val (.ref pat), .unset, .unset, .unset, .unset] [(.int 1), (.ref this)])) rfl rfl (hb hby d2_7)
 replace F_this_length := F_this_length.same W2
 have Z2 : n0 ≤ h2.size := Nat.le_trans Z0 (Nat.le_of_eq W2.size.symm)
 have N2 := Fr.snoc X2 N0 g_this
 refine Run.st st2 ?_
 show Run p e below s _ _ _ (T2.setTop (mkF m 10 #[.val (.ref this), .val (.ref pat), .unset, .unset, .unset, .unset] []))
 refine Run.x_aloadN (q := 11) X2 hx (hb hby d2_10) rfl rfl rfl ?_
 refine Run.x_aloadN (q := 12) X2 hx (hb hby d2_11) rfl rfl rfl ?_
 refine Run.z_getF (q := 15) X2 hx hZ e2 hown (wm20 hw) F_this_length (hb hby d2_12) rfl fun T3 X3 e3 => ?_
 refine Run.x_iconst (q := 16) X3 hx (hb hby d2_15) (z := (1 : Int32)) rfl rfl ?_
 refine Run.x_iadd (q := 17) X3 hx (hb hby d2_16) (z := (2 : Int32)) (by decide) rfl ?_
 refine Run.newP (aty := .int) X3 hx hZ e3 (wm22 hw) (hb hby d2_17) (len := 2) (by decide) (by decide) (cap := 2) (by decide) (by decide) (by decide) (by decide) ?_
 intro T4 h4 b4 gg4 X4 e4 E4 A_b4
 have g_b4 : n0 ≤ b4 := Nat.le_trans Z2 (Nat.le_of_eq gg4.symm)
 replace E_this := E_this.wr W2
 have ne_this_b4 : this ≠ b4 := Nat.ne_of_lt (Nat.lt_of_lt_of_le E_this.lt (Nat.le_of_eq gg4.symm))
 replace A_pat := A_pat.other W2 (Ne.symm ne_this_pat)
 have ne_pat_b4 : pat ≠ b4 := Nat.ne_of_lt (Nat.lt_of_lt_of_le A_pat.lt (Nat.le_of_eq gg4.symm))
 have Z4 : n0 ≤ h4.size := Nat.le_trans Z2 E4.1
 replace A_b4 : Ars Z h4 b4 .int [(.int 0), (.int 0)] := A_b4
 show Run p e below s _ _ _ (T4.setTop (mkF m 19 #[.val (.ref this), .val (.ref pat), .unset, .unset, .unset, .unset] [(.ref b4), (.ref this)]))
 replace F_this_forward := (F_this_forward.other W2 (Or.inr (slot_ne (Or.inr (wm24 hw)) (Or.inr (wm21 hw)) (by decide) (t := (.array .int)) (t' := .int) (by decide) (by decide)))).ext E4
 replace E_this := E_this.ext E4
 obtain ⟨T5, h5, X5, e5, W5, st5⟩ := putF X4 hx hZ hown (host := "") (Or.inl (wm23 hw)) Via.refl e4 F_this_forward E_this (Or.inr ⟨(wm24 hw), rfl, hnm⟩) (wm8 hw) (ty := (.array .int)) (by decide) rfl rfl (g := (mkF m 19 #[.val (.ref this), .val (.ref pat), .unset, .unset, .unset, .unset] [(.ref b4), (.ref this)])) rfl rfl (hb hby d2_19)
 replace F_this_forward := F_this_forward.same W5
 have Z5 : n0 ≤ h5.size := Nat.le_trans Z4 (Nat.le_of_eq W5.size.symm)
 have N5 := Fr.snoc X5 N2 g_this
 refine Run.st st5 ?_
 show Run p e below s _ _ _ (T5.setTop (mkF m 22 #[.val (.ref this), .val (.ref pat), .unset, .unset, .unset, .unset] []))
 refine Run.x_iconst (q := 23) X5 hx (hb hby d2_22) (z := (0 : Int32)) rfl rfl ?_
 refine Run.x_istoreN (q := 24) X5 hx #[.val (.ref this), .val (.ref pat), .val (.int 0), .unset, .unset, .unset] (hb hby d2_23) rfl rfl ?_
 refine Run.x_iloadN (q := 25) X5 hx (hb hby d2_24) rfl rfl ?_
 refine Run.x_aloadN (q := 26) X5 hx (hb hby d2_25) rfl rfl rfl ?_
 replace F_this_length := (F_this_length.ext E4).other W5 (Or.inr (slot_ne (Or.inr (wm21 hw)) (Or.inr (wm24 hw)) (by decide) (t := .int) (t' := (.array .int)) (by decide) (by decide)))
 refine Run.z_getF (q := 29) X5 hx hZ e5 hown (wm20 hw) F_this_length (hb hby d2_26) rfl fun T6 X6 e6 => ?_
 refine Run.x_icmpNo (q := 32) X6 hx (hb hby d2_29) (tlt (by decide : (0 : Int32) < (1 : Int32))).2.1 rfl ?_
 refine Run.x_aloadN (q := 33) X6 hx (hb hby d2_32) rfl rfl rfl ?_
 refine Run.z_getF (q := 36) X6 hx hZ e6 hown (wm23 hw) F_this_forward (hb hby d2_33) rfl fun T7 X7 e7 => ?_
 refine Run.x_iloadN (q := 37) X7 hx (hb hby d2_36) rfl rfl ?_
 refine Run.x_aloadN (q := 38) X7 hx (hb hby d2_37) rfl rfl rfl ?_
 refine Run.x_iloadN (q := 39) X7 hx (hb hby d2_38) rfl rfl ?_
 replace A_pat := (A_pat.ext E4).other W5 (Ne.symm ne_this_pat)
 refine Run.y_ldC (q := 40) X7 hx hZ e7 A_pat (i := 0) (v := (.int c0)) (by decide) rfl (hb hby d2_39) rfl ?_
 replace A_b4 := A_b4.other W5 (Ne.symm ne_this_b4)
 refine Run.y_stI (q := 41) X7 hx hZ e7 A_b4 (i := 0) (by decide) (Nat.le_of_ble_eq_true rfl) (hb hby d2_40) rfl fun T8 h8 X8 e8 W8 A8 => ?_
 replace A_b4 : Ars Z h8 b4 .int [(.int c0), (.int 0)] := A8
 have N8 := Fr.snoc X8 N5 g_b4
 have Z8 : n0 ≤ h8.size := Nat.le_trans Z5 (Nat.le_of_eq W8.size.symm)
 refine Run.x_iinc (q := 44) X8 hx #[.val (.ref this), .val (.ref pat), .val (.int 1), .unset, .unset, .unset] (hb hby d2_41) rfl (z := (1 : Int32)) (by decide) rfl rfl ?_
 refine Run.x_goto (q := 24) X8 hx (hb hby d2_44) (by decide) (by decide) ?_
 refine Run.x_iloadN (q := 25) X8 hx (hb hby d2_24) rfl rfl ?_
 refine Run.x_aloadN (q := 26) X8 hx (hb hby d2_25) rfl rfl rfl ?_
 replace F_this_length := F_this_length.other W8 (Or.inl ne_this_b4)
 refine Run.z_getF (q := 29) X8 hx hZ e8 hown (wm20 hw) F_this_length (hb hby d2_26) rfl fun T9 X9 e9 => ?_
 refine Run.x_icmpYes (q := 47) X9 hx (hb hby d2_29) (flt (by decide : ¬ ((1 : Int32) < (1 : Int32)))).2.1 (by decide) (by decide) ?_
 refine Run.x_aloadN (q := 48) X9 hx (hb hby d2_47) rfl rfl rfl ?_
 replace F_this_forward := F_this_forward.other W8 (Or.inl ne_this_b4)
 refine Run.z_getF (q := 51) X9 hx hZ e9 hown (wm23 hw) F_this_forward (hb hby d2_48) rfl fun T10 X10 e10 => ?_
 refine Run.x_aloadN (q := 52) X10 hx (hb hby d2_51) rfl rfl rfl ?_
 refine Run.z_getF (q := 55) X10 hx hZ e10 hown (wm20 hw) F_this_length (hb hby d2_52) rfl fun T11 X11 e11 => ?_
 refine Run.x_iconst (q := 56) X11 hx (hb hby d2_55) (z := (-1 : Int32)) rfl rfl ?_
 refine Run.y_stI (q := 57) X11 hx hZ e11 A_b4 (i := 1) (by decide) (Nat.le_of_ble_eq_true rfl) (hb hby d2_56) rfl fun T12 h12 X12 e12 W12 A12 => ?_
 replace A_b4 : Ars Z h12 b4 .int [(.int c0), (.int (-1))] := A12
 have N12 := Fr.snoc X12 N8 g_b4
 have Z12 : n0 ≤ h12.size := Nat.le_trans Z8 (Nat.le_of_eq W12.size.symm)
 refine Run.x_aloadN (q := 58) X12 hx (hb hby d2_57) rfl rfl rfl ?_
 refine Run.x_aloadN (q := 59) X12 hx (hb hby d2_58) rfl rfl rfl ?_
 replace F_this_length := F_this_length.other W12 (Or.inl ne_this_b4)
 refine Run.z_getF (q := 62) X12 hx hZ e12 hown (wm20 hw) F_this_length (hb hby d2_59) rfl fun T13 X13 e13 => ?_
 refine Run.x_iconst (q := 63) X13 hx (hb hby d2_62) (z := (2 : Int32)) rfl rfl ?_
 refine Run.x_iadd (q := 64) X13 hx (hb hby d2_63) (z := (3 : Int32)) (by decide) rfl ?_
 refine Run.newP (aty := .int) X13 hx hZ e13 (wm22 hw) (hb hby d2_64) (len := 3) (by decide) (by decide) (cap := 3) (by decide) (by decide) (by decide) (by decide) ?_
 intro T14 h14 b14 gg14 X14 e14 E14 A_b14
 have g_b14 : n0 ≤ b14 := Nat.le_trans Z12 (Nat.le_of_eq gg14.symm)
 replace E_this := ((E_this.wr W5).wr W8).wr W12
 have ne_this_b14 : this ≠ b14 := Nat.ne_of_lt (Nat.lt_of_lt_of_le E_this.lt (Nat.le_of_eq gg14.symm))
 replace A_pat := (A_pat.other W8 ne_pat_b4).other W12 ne_pat_b4
 have ne_pat_b14 : pat ≠ b14 := Nat.ne_of_lt (Nat.lt_of_lt_of_le A_pat.lt (Nat.le_of_eq gg14.symm))
 have ne_b4_b14 : b4 ≠ b14 := Nat.ne_of_lt (Nat.lt_of_lt_of_le A_b4.lt (Nat.le_of_eq gg14.symm))
 have Z14 : n0 ≤ h14.size := Nat.le_trans Z12 E14.1
 replace A_b14 : Ars Z h14 b14 .int [(.int 0), (.int 0), (.int 0)] := A_b14
 show Run p e below s _ _ _ (T14.setTop (mkF m 66 #[.val (.ref this), .val (.ref pat), .val (.int 1), .unset, .unset, .unset] [(.ref b14), (.ref this)]))
 replace F_this_rows := (((((F_this_rows.other W2 (Or.inr (slot_ne (Or.inr (wm26 hw)) (Or.inr (wm21 hw)) (by decide) (t := (.array .int)) (t' := .int) (by decide) (by decide)))).ext E4).other W5 (Or.inr (slot_ne (Or.inr (wm26 hw)) (Or.inr (wm24 hw)) (by decide) (t := (.array .int)) (t' := (.array .int)) (by decide) (by decide)))).other W8 (Or.inl ne_this_b4)).other W12 (Or.inl ne_this_b4)).ext E14
 replace E_this := E_this.ext E14
 obtain ⟨T15, h15, X15, e15, W15, st15⟩ := putF X14 hx hZ hown (host := "") (Or.inl (wm25 hw)) Via.refl e14 F_this_rows E_this (Or.inr ⟨(wm26 hw), rfl, hnm⟩) (wm8 hw) (ty := (.array .int)) (by decide) rfl rfl (g := (mkF m 66 #[.val (.ref this), .val (.ref pat), .val (.int 1), .unset, .unset, .unset] [(.ref b14), (.ref this)])) rfl rfl (hb hby d2_66)
 replace F_this_rows := F_this_rows.same W15
 have Z15 : n0 ≤ h15.size := Nat.le_trans Z14 (Nat.le_of_eq W15.size.symm)
 have N15 := Fr.snoc X15 N12 g_this
 refine Run.st st15 ?_
 show Run p e below s _ _ _ (T15.setTop (mkF m 69 #[.val (.ref this), .val (.ref pat), .val (.int 1), .unset, .unset, .unset] []))
 refine Run.x_aloadN (q := 70) X15 hx (hb hby d2_69) rfl rfl rfl ?_
 refine Run.x_aloadN (q := 71) X15 hx (hb hby d2_70) rfl rfl rfl ?_
 replace F_this_length := (F_this_length.ext E14).other W15 (Or.inr (slot_ne (Or.inr (wm21 hw)) (Or.inr (wm26 hw)) (by decide) (t := .int) (t' := (.array .int)) (by decide) (by decide)))
 refine Run.z_getF (q := 74) X15 hx hZ e15 hown (wm20 hw) F_this_length (hb hby d2_71) rfl fun T16 X16 e16 => ?_
 refine Run.newP (aty := .char) X16 hx hZ e16 (wm2 hw) (hb hby d2_74) (len := 1) (by decide) (by decide) (cap := 1) (by decide) (by decide) (by decide) (by decide) ?_
 intro T17 h17 b17 gg17 X17 e17 E17 A_b17
 have g_b17 : n0 ≤ b17 := Nat.le_trans Z15 (Nat.le_of_eq gg17.symm)
 replace E_this := E_this.wr W15
 have ne_this_b17 : this ≠ b17 := Nat.ne_of_lt (Nat.lt_of_lt_of_le E_this.lt (Nat.le_of_eq gg17.symm))
 replace A_pat := (A_pat.ext E14).other W15 (Ne.symm ne_this_pat)
 have ne_pat_b17 : pat ≠ b17 := Nat.ne_of_lt (Nat.lt_of_lt_of_le A_pat.lt (Nat.le_of_eq gg17.symm))
 replace A_b4 := (A_b4.ext E14).other W15 (Ne.symm ne_this_b4)
 have ne_b4_b17 : b4 ≠ b17 := Nat.ne_of_lt (Nat.lt_of_lt_of_le A_b4.lt (Nat.le_of_eq gg17.symm))
 replace A_b14 := A_b14.other W15 (Ne.symm ne_this_b14)
 have ne_b14_b17 : b14 ≠ b17 := Nat.ne_of_lt (Nat.lt_of_lt_of_le A_b14.lt (Nat.le_of_eq gg17.symm))
 have Z17 : n0 ≤ h17.size := Nat.le_trans Z15 E17.1
 replace A_b17 : Ars Z h17 b17 .char [(.int 0)] := A_b17
 show Run p e below s _ _ _ (T17.setTop (mkF m 76 #[.val (.ref this), .val (.ref pat), .val (.int 1), .unset, .unset, .unset] [(.ref b17), (.ref this)]))
 replace F_this_units := (((((((F_this_units.other W2 (Or.inr (slot_ne (Or.inr (wm28 hw)) (Or.inr (wm21 hw)) (by decide) (t := (.array .char)) (t' := .int) (by decide) (by decide)))).ext E4).other W5 (Or.inr (slot_ne (Or.inr (wm28 hw)) (Or.inr (wm24 hw)) (by decide) (t := (.array .char)) (t' := (.array .int)) (by decide) (by decide)))).other W8 (Or.inl ne_this_b4)).other W12 (Or.inl ne_this_b4)).ext E14).other W15 (Or.inr (slot_ne (Or.inr (wm28 hw)) (Or.inr (wm26 hw)) (by decide) (t := (.array .char)) (t' := (.array .int)) (by decide) (by decide)))).ext E17
 replace E_this := E_this.ext E17
 obtain ⟨T18, h18, X18, e18, W18, st18⟩ := putF X17 hx hZ hown (host := "") (Or.inl (wm27 hw)) Via.refl e17 F_this_units E_this (Or.inr ⟨(wm28 hw), rfl, hnm⟩) (wm8 hw) (ty := (.array .char)) (by decide) rfl rfl (g := (mkF m 76 #[.val (.ref this), .val (.ref pat), .val (.int 1), .unset, .unset, .unset] [(.ref b17), (.ref this)])) rfl rfl (hb hby d2_76)
 replace F_this_units := F_this_units.same W18
 have Z18 : n0 ≤ h18.size := Nat.le_trans Z17 (Nat.le_of_eq W18.size.symm)
 have N18 := Fr.snoc X18 N15 g_this
 refine Run.st st18 ?_
 show Run p e below s _ _ _ (T18.setTop (mkF m 79 #[.val (.ref this), .val (.ref pat), .val (.int 1), .unset, .unset, .unset] []))
 refine Run.x_aloadN (q := 80) X18 hx (hb hby d2_79) rfl rfl rfl ?_
 refine Run.x_aloadN (q := 81) X18 hx (hb hby d2_80) rfl rfl rfl ?_
 replace F_this_length := (F_this_length.ext E17).other W18 (Or.inr (slot_ne (Or.inr (wm21 hw)) (Or.inr (wm28 hw)) (by decide) (t := .int) (t' := (.array .char)) (by decide) (by decide)))
 refine Run.z_getF (q := 84) X18 hx hZ e18 hown (wm20 hw) F_this_length (hb hby d2_81) rfl fun T19 X19 e19 => ?_
 refine Run.newP (aty := .int) X19 hx hZ e19 (wm22 hw) (hb hby d2_84) (len := 1) (by decide) (by decide) (cap := 1) (by decide) (by decide) (by decide) (by decide) ?_
 intro T20 h20 b20 gg20 X20 e20 E20 A_b20
 have g_b20 : n0 ≤ b20 := Nat.le_trans Z18 (Nat.le_of_eq gg20.symm)
 replace E_this := E_this.wr W18
 have ne_this_b20 : this ≠ b20 := Nat.ne_of_lt (Nat.lt_of_lt_of_le E_this.lt (Nat.le_of_eq gg20.symm))
 replace A_pat := (A_pat.ext E17).other W18 (Ne.symm ne_this_pat)
 have ne_pat_b20 : pat ≠ b20 := Nat.ne_of_lt (Nat.lt_of_lt_of_le A_pat.lt (Nat.le_of_eq gg20.symm))
 replace A_b4 := (A_b4.ext E17).other W18 (Ne.symm ne_this_b4)
 have ne_b4_b20 : b4 ≠ b20 := Nat.ne_of_lt (Nat.lt_of_lt_of_le A_b4.lt (Nat.le_of_eq gg20.symm))
 replace A_b14 := (A_b14.ext E17).other W18 (Ne.symm ne_this_b14)
 have ne_b14_b20 : b14 ≠ b20 := Nat.ne_of_lt (Nat.lt_of_lt_of_le A_b14.lt (Nat.le_of_eq gg20.symm))
 replace A_b17 := A_b17.other W18 (Ne.symm ne_this_b17)
 have ne_b17_b20 : b17 ≠ b20 := Nat.ne_of_lt (Nat.lt_of_lt_of_le A_b17.lt (Nat.le_of_eq gg20.symm))
 have Z20 : n0 ≤ h20.size := Nat.le_trans Z18 E20.1
 replace A_b20 : Ars Z h20 b20 .int [(.int 0)] := A_b20
 show Run p e below s _ _ _ (T20.setTop (mkF m 86 #[.val (.ref this), .val (.ref pat), .val (.int 1), .unset, .unset, .unset] [(.ref b20), (.ref this)]))
 replace F_this_targets := (((((((((F_this_targets.other W2 (Or.inr (slot_ne (Or.inr (wm30 hw)) (Or.inr (wm21 hw)) (by decide) (t := (.array .int)) (t' := .int) (by decide) (by decide)))).ext E4).other W5 (Or.inr (slot_ne (Or.inr (wm30 hw)) (Or.inr (wm24 hw)) (by decide) (t := (.array .int)) (t' := (.array .int)) (by decide) (by decide)))).other W8 (Or.inl ne_this_b4)).other W12 (Or.inl ne_this_b4)).ext E14).other W15 (Or.inr (slot_ne (Or.inr (wm30 hw)) (Or.inr (wm26 hw)) (by decide) (t := (.array .int)) (t' := (.array .int)) (by decide) (by decide)))).ext E17).other W18 (Or.inr (slot_ne (Or.inr (wm30 hw)) (Or.inr (wm28 hw)) (by decide) (t := (.array .int)) (t' := (.array .char)) (by decide) (by decide)))).ext E20
 replace E_this := E_this.ext E20
 obtain ⟨T21, h21, X21, e21, W21, st21⟩ := putF X20 hx hZ hown (host := "") (Or.inl (wm29 hw)) Via.refl e20 F_this_targets E_this (Or.inr ⟨(wm30 hw), rfl, hnm⟩) (wm8 hw) (ty := (.array .int)) (by decide) rfl rfl (g := (mkF m 86 #[.val (.ref this), .val (.ref pat), .val (.int 1), .unset, .unset, .unset] [(.ref b20), (.ref this)])) rfl rfl (hb hby d2_86)
 replace F_this_targets := F_this_targets.same W21
 have Z21 : n0 ≤ h21.size := Nat.le_trans Z20 (Nat.le_of_eq W21.size.symm)
 have N21 := Fr.snoc X21 N18 g_this
 refine Run.st st21 ?_
 show Run p e below s _ _ _ (T21.setTop (mkF m 89 #[.val (.ref this), .val (.ref pat), .val (.int 1), .unset, .unset, .unset] []))
 refine Run.x_iconst (q := 90) X21 hx (hb hby d2_89) (z := (0 : Int32)) rfl rfl ?_
 refine Run.x_istoreN (q := 91) X21 hx #[.val (.ref this), .val (.ref pat), .val (.int 0), .unset, .unset, .unset] (hb hby d2_90) rfl rfl ?_
 refine Run.x_iconst (q := 92) X21 hx (hb hby d2_91) (z := (0 : Int32)) rfl rfl ?_
 refine Run.x_istoreN (q := 93) X21 hx #[.val (.ref this), .val (.ref pat), .val (.int 0), .val (.int 0), .unset, .unset] (hb hby d2_92) rfl rfl ?_
 refine Run.x_iconst (q := 94) X21 hx (hb hby d2_93) (z := (1 : Int32)) rfl rfl ?_
 refine Run.x_istore (q := 96) X21 hx #[.val (.ref this), .val (.ref pat), .val (.int 0), .val (.int 0), .val (.int 1), .unset] (hb hby d2_94) rfl rfl ?_
 refine Run.x_iload (q := 98) X21 hx (hb hby d2_96) rfl rfl ?_
 refine Run.x_aloadN (q := 99) X21 hx (hb hby d2_98) rfl rfl rfl ?_
 replace F_this_length := (F_this_length.ext E20).other W21 (Or.inr (slot_ne (Or.inr (wm21 hw)) (Or.inr (wm30 hw)) (by decide) (t := .int) (t' := (.array .int)) (by decide) (by decide)))
 refine Run.z_getF (q := 102) X21 hx hZ e21 hown (wm20 hw) F_this_length (hb hby d2_99) rfl fun T22 X22 e22 => ?_
 refine Run.x_icmpNo (q := 105) X22 hx (hb hby d2_102) (flt (by decide : ¬ ((1 : Int32) < (1 : Int32)))).2.2.1 rfl ?_
 refine Run.x_aloadN (q := 106) X22 hx (hb hby d2_105) rfl rfl rfl ?_
 replace F_this_rows := (((F_this_rows.ext E17).other W18 (Or.inr (slot_ne (Or.inr (wm26 hw)) (Or.inr (wm28 hw)) (by decide) (t := (.array .int)) (t' := (.array .char)) (by decide) (by decide)))).ext E20).other W21 (Or.inr (slot_ne (Or.inr (wm26 hw)) (Or.inr (wm30 hw)) (by decide) (t := (.array .int)) (t' := (.array .int)) (by decide) (by decide)))
 refine Run.z_getF (q := 109) X22 hx hZ e22 hown (wm25 hw) F_this_rows (hb hby d2_106) rfl fun T23 X23 e23 => ?_
 refine Run.x_iloadN (q := 110) X23 hx (hb hby d2_109) rfl rfl ?_
 replace A_b14 := (A_b14.ext E20).other W21 (Ne.symm ne_this_b14)
 refine Run.y_ldI (q := 111) X23 hx hZ e23 A_b14 (i := 0) (v := (.int 0)) (by decide) rfl (hb hby d2_110) rfl ?_
 refine Run.x_istore (q := 113) X23 hx #[.val (.ref this), .val (.ref pat), .val (.int 0), .val (.int 0), .val (.int 1), .val (.int 0)] (hb hby d2_111) rfl rfl ?_
 refine Run.x_iload (q := 115) X23 hx (hb hby d2_113) rfl rfl ?_
 refine Run.x_aloadN (q := 116) X23 hx (hb hby d2_115) rfl rfl rfl ?_
 refine Run.z_getF (q := 119) X23 hx hZ e23 hown (wm25 hw) F_this_rows (hb hby d2_116) rfl fun T24 X24 e24 => ?_
 refine Run.x_iloadN (q := 120) X24 hx (hb hby d2_119) rfl rfl ?_
 refine Run.x_iconst (q := 121) X24 hx (hb hby d2_120) (z := (1 : Int32)) rfl rfl ?_
 refine Run.x_iadd (q := 122) X24 hx (hb hby d2_121) (z := (1 : Int32)) (by decide) rfl ?_
 refine Run.y_ldI (q := 123) X24 hx hZ e24 A_b14 (i := 1) (v := (.int 0)) (by decide) rfl (hb hby d2_122) rfl ?_
 refine Run.x_icmpYes (q := 178) X24 hx (hb hby d2_123) (flt (by decide : ¬ ((0 : Int32) < (0 : Int32)))).2.1 (by decide) (by decide) ?_
 refine Run.x_aloadN (q := 179) X24 hx (hb hby d2_178) rfl rfl rfl ?_
 replace F_this_forward := ((((((F_this_forward.other W12 (Or.inl ne_this_b4)).ext E14).other W15 (Or.inr (slot_ne (Or.inr (wm24 hw)) (Or.inr (wm26 hw)) (by decide) (t := (.array .int)) (t' := (.array .int)) (by decide) (by decide)))).ext E17).other W18 (Or.inr (slot_ne (Or.inr (wm24 hw)) (Or.inr (wm28 hw)) (by decide) (t := (.array .int)) (t' := (.array .char)) (by decide) (by decide)))).ext E20).other W21 (Or.inr (slot_ne (Or.inr (wm24 hw)) (Or.inr (wm30 hw)) (by decide) (t := (.array .int)) (t' := (.array .int)) (by decide) (by decide)))
 refine Run.z_getF (q := 182) X24 hx hZ e24 hown (wm23 hw) F_this_forward (hb hby d2_179) rfl fun T25 X25 e25 => ?_
 refine Run.x_iloadN (q := 183) X25 hx (hb hby d2_182) rfl rfl ?_
 replace A_b4 := (A_b4.ext E20).other W21 (Ne.symm ne_this_b4)
 refine Run.y_ldI (q := 184) X25 hx hZ e25 A_b4 (i := 0) (v := (.int c0)) (by decide) rfl (hb hby d2_183) rfl ?_
 refine Run.x_aloadN (q := 185) X25 hx (hb hby d2_184) rfl rfl rfl ?_
 refine Run.z_getF (q := 188) X25 hx hZ e25 hown (wm23 hw) F_this_forward (hb hby d2_185) rfl fun T26 X26 e26 => ?_
 refine Run.x_iload (q := 190) X26 hx (hb hby d2_188) rfl rfl ?_
 refine Run.y_ldI (q := 191) X26 hx hZ e26 A_b4 (i := 1) (v := (.int (-1))) (by decide) rfl (hb hby d2_190) rfl ?_
 refine Run.x_icmpNo (q := 194) X26 hx (hb hby d2_191) (feq (own_nm1 hr0.1)).1 rfl ?_
 refine Run.x_aloadN (q := 195) X26 hx (hb hby d2_194) rfl rfl rfl ?_
 replace F_this_units := (F_this_units.ext E20).other W21 (Or.inr (slot_ne (Or.inr (wm28 hw)) (Or.inr (wm30 hw)) (by decide) (t := (.array .char)) (t' := (.array .int)) (by decide) (by decide)))
 refine Run.z_getF (q := 198) X26 hx hZ e26 hown (wm27 hw) F_this_units (hb hby d2_195) rfl fun T27 X27 e27 => ?_
 refine Run.x_iloadN (q := 199) X27 hx (hb hby d2_198) rfl rfl ?_
 refine Run.x_aloadN (q := 200) X27 hx (hb hby d2_199) rfl rfl rfl ?_
 refine Run.z_getF (q := 203) X27 hx hZ e27 hown (wm23 hw) F_this_forward (hb hby d2_200) rfl fun T28 X28 e28 => ?_
 refine Run.x_iloadN (q := 204) X28 hx (hb hby d2_203) rfl rfl ?_
 refine Run.y_ldI (q := 205) X28 hx hZ e28 A_b4 (i := 0) (v := (.int c0)) (by decide) rfl (hb hby d2_204) rfl ?_
 refine Run.x_i2c (q := 206) X28 hx (hb hby d2_205) (z := c0) (own_ic hr0) rfl ?_
 replace A_b17 := (A_b17.ext E20).other W21 (Ne.symm ne_this_b17)
 refine Run.y_stC (q := 207) X28 hx hZ e28 A_b17 (i := 0) (by decide) (Nat.le_of_ble_eq_true rfl) (z' := c0) (own_nr hr0) (hb hby d2_206) rfl fun T29 h29 X29 e29 W29 A29 => ?_
 replace A_b17 : Ars Z h29 b17 .char [(.int c0)] := A29
 have N29 := Fr.snoc X29 N21 g_b17
 have Z29 : n0 ≤ h29.size := Nat.le_trans Z21 (Nat.le_of_eq W29.size.symm)
 refine Run.x_aloadN (q := 208) X29 hx (hb hby d2_207) rfl rfl rfl ?_
 replace F_this_targets := F_this_targets.other W29 (Or.inl ne_this_b17)
 refine Run.z_getF (q := 211) X29 hx hZ e29 hown (wm29 hw) F_this_targets (hb hby d2_208) rfl fun T30 X30 e30 => ?_
 refine Run.x_iloadN (q := 212) X30 hx (hb hby d2_211) rfl rfl ?_
 refine Run.x_iinc (q := 215) X30 hx #[.val (.ref this), .val (.ref pat), .val (.int 1), .val (.int 0), .val (.int 1), .val (.int 0)] (hb hby d2_212) rfl (z := (1 : Int32)) (by decide) rfl rfl ?_
 refine Run.x_iloadN (q := 216) X30 hx (hb hby d2_215) rfl rfl ?_
 refine Run.x_iconst (q := 217) X30 hx (hb hby d2_216) (z := (1 : Int32)) rfl rfl ?_
 refine Run.x_iadd (q := 218) X30 hx (hb hby d2_217) (z := (1 : Int32)) (by decide) rfl ?_
 replace A_b20 := (A_b20.other W21 (Ne.symm ne_this_b20)).other W29 (Ne.symm ne_b17_b20)
 refine Run.y_stI (q := 219) X30 hx hZ e30 A_b20 (i := 0) (by decide) (Nat.le_of_ble_eq_true rfl) (hb hby d2_218) rfl fun T31 h31 X31 e31 W31 A31 => ?_
 replace A_b20 : Ars Z h31 b20 .int [(.int 1)] := A31
 have N31 := Fr.snoc X31 N29 g_b20
 have Z31 : n0 ≤ h31.size := Nat.le_trans Z29 (Nat.le_of_eq W31.size.symm)
 refine Run.x_aloadN (q := 220) X31 hx (hb hby d2_219) rfl rfl rfl ?_
 replace F_this_rows := (F_this_rows.other W29 (Or.inl ne_this_b17)).other W31 (Or.inl ne_this_b20)
 refine Run.z_getF (q := 223) X31 hx hZ e31 hown (wm25 hw) F_this_rows (hb hby d2_220) rfl fun T32 X32 e32 => ?_
 refine Run.x_iload (q := 225) X32 hx (hb hby d2_223) rfl rfl ?_
 refine Run.x_iconst (q := 226) X32 hx (hb hby d2_225) (z := (1 : Int32)) rfl rfl ?_
 refine Run.x_iadd (q := 227) X32 hx (hb hby d2_226) (z := (2 : Int32)) (by decide) rfl ?_
 refine Run.x_iloadN (q := 228) X32 hx (hb hby d2_227) rfl rfl ?_
 replace A_b14 := (A_b14.other W29 ne_b14_b17).other W31 ne_b14_b20
 refine Run.y_stI (q := 229) X32 hx hZ e32 A_b14 (i := 2) (by decide) (Nat.le_of_ble_eq_true rfl) (hb hby d2_228) rfl fun T33 h33 X33 e33 W33 A33 => ?_
 replace A_b14 : Ars Z h33 b14 .int [(.int 0), (.int 0), (.int 1)] := A33
 have N33 := Fr.snoc X33 N31 g_b14
 have Z33 : n0 ≤ h33.size := Nat.le_trans Z31 (Nat.le_of_eq W33.size.symm)
 refine Run.x_iload (q := 231) X33 hx (hb hby d2_229) rfl rfl ?_
 refine Run.x_aloadN (q := 232) X33 hx (hb hby d2_231) rfl rfl rfl ?_
 replace F_this_length := ((F_this_length.other W29 (Or.inl ne_this_b17)).other W31 (Or.inl ne_this_b20)).other W33 (Or.inl ne_this_b14)
 refine Run.z_getF (q := 235) X33 hx hZ e33 hown (wm20 hw) F_this_length (hb hby d2_232) rfl fun T34 X34 e34 => ?_
 refine Run.x_icmpYes (q := 248) X34 hx (hb hby d2_235) (flt (by decide : ¬ ((1 : Int32) < (1 : Int32)))).2.1 (by decide) (by decide) ?_
 refine Run.x_iinc (q := 251) X34 hx #[.val (.ref this), .val (.ref pat), .val (.int 1), .val (.int 0), .val (.int 2), .val (.int 0)] (hb hby d2_248) rfl (z := (2 : Int32)) (by decide) rfl rfl ?_
 refine Run.x_goto (q := 96) X34 hx (hb hby d2_251) (by decide) (by decide) ?_
 refine Run.x_iload (q := 98) X34 hx (hb hby d2_96) rfl rfl ?_
 refine Run.x_aloadN (q := 99) X34 hx (hb hby d2_98) rfl rfl rfl ?_
 refine Run.z_getF (q := 102) X34 hx hZ e34 hown (wm20 hw) F_this_length (hb hby d2_99) rfl fun T35 X35 e35 => ?_
 refine Run.x_icmpYes (q := 254) X35 hx (hb hby d2_102) (tlt (by decide : (1 : Int32) < (2 : Int32))).2.2.1 (by decide) (by decide) ?_
 replace E_this := (((E_this.wr W21).wr W29).wr W31).wr W33
 replace F_this_forward := ((F_this_forward.other W29 (Or.inl ne_this_b17)).other W31 (Or.inl ne_this_b20)).other W33 (Or.inl ne_this_b14)
 replace F_this_rows := F_this_rows.other W33 (Or.inl ne_this_b14)
 replace F_this_units := ((F_this_units.other W29 (Or.inl ne_this_b17)).other W31 (Or.inl ne_this_b20)).other W33 (Or.inl ne_this_b14)
 replace F_this_targets := (F_this_targets.other W31 (Or.inl ne_this_b20)).other W33 (Or.inl ne_this_b14)
 replace A_pat := ((((A_pat.ext E20).other W21 (Ne.symm ne_this_pat)).other W29 ne_pat_b17).other W31 ne_pat_b20).other W33 ne_pat_b14
 replace A_b4 := ((A_b4.other W29 ne_b4_b17).other W31 ne_b4_b20).other W33 ne_b4_b14
 replace A_b17 := (A_b17.other W31 ne_b17_b20).other W33 (Ne.symm ne_b14_b17)
 replace A_b20 := A_b20.other W33 (Ne.symm ne_b14_b20)
 refine Run.retV X35 hx hlk e35 hret (hb hby d2_254) (by decide) (by decide) ?_
 have R0 : own_rw 0 c0 [(0 : Int32), (0 : Int32), (1 : Int32)] [c0] [(1 : Int32)] (fun u => (if c0 = u then (1 : Int32) else (0 : Int32))) := by
  refine ⟨0, 0, (0 : Int32), (0 : Int32), rfl, rfl, by decide, by decide, Nat.le_of_ble_eq_true rfl, Nat.le_of_ble_eq_true rfl, by decide, fun u hu => ?_⟩
  by_cases q_c0 : c0 = u
  ·subst q_c0
   exact Eq.trans (b := (1 : Int32)) (Eq.trans (own_next_p rfl) (by decide)) (Eq.symm (if_pos rfl))
  ·skip
   exact Eq.trans (b := (0 : Int32)) (Eq.trans (own_next_n (fun h => q_c0 h.symm)) (rfl)) (Eq.symm (Eq.trans (if_neg (fun h => q_c0 h)) (rfl)))
 have R1 : own_rw 1 (-1 : Int32) [(0 : Int32), (0 : Int32), (1 : Int32)] [c0] [(1 : Int32)] (fun u => (if c0 = u then (1 : Int32) else (0 : Int32))) := by
  refine ⟨0, 1, (0 : Int32), (1 : Int32), rfl, rfl, by decide, by decide, Nat.le_of_ble_eq_true rfl, Nat.le_of_ble_eq_true rfl, by decide, fun u hu => ?_⟩
  by_cases q_c0 : c0 = u
  ·subst q_c0
   exact Eq.trans (b := (1 : Int32)) (Eq.trans (own_next_n (own_nm1 hr0.1)) (own_look_p rfl)) (Eq.symm (if_pos rfl))
  ·skip
   exact Eq.trans (b := (0 : Int32)) (Eq.trans (own_next_n (own_nm1 hu)) (Eq.trans (own_look_n q_c0) (rfl))) (Eq.symm (Eq.trans (if_neg (fun h => q_c0 h)) (rfl)))
 exact ⟨b4, b14, b17, b20, [(0 : Int32), (0 : Int32), (1 : Int32)], [c0], [(1 : Int32)], rfl, N33, E_this, F_this_forward, F_this_rows, F_this_units, F_this_targets, A_b4, A_b14, A_b17, A_b20, R0, R1⟩
theorem ef_c_init2 (m : MethodId) (this : Addr) (pat : Addr) : entryFrame m #[(.ref this), (.ref pat)] 6 = mkF m 0 #[.val (.ref this), .val (.ref pat), .unset, .unset, .unset, .unset] [] := by first | (simp [entryFrame, mkF, argsToLocals, Value.category]; done) | rfl
theorem wm39 {a0 : Array Value} {Z : State} (hw : ∀ d ∈ tables_1, d.before a0 Z = true) : (Jvm.Cond.methodLink "needlewise/kmp/SparseAutomaton" (27 : Nat) ({ cls := "needlewise/kmp/SparseAutomaton", name := "next", desc := "(IC)I" } : Jvm.MethodName)).before a0 Z = true := hw _ (List.mem_of_getElem? (i := 39) rfl)
theorem wm35 {a0 : Array Value} {Z : State} (hw : ∀ d ∈ tables_1, d.before a0 Z = true) : (Jvm.Cond.code ({ cls := "needlewise/kmp/SparseAutomaton", name := "next", desc := "(IC)I" } : Jvm.MethodName) prog_24_method_3_code (4 : Nat) (Option.some Jvm.ClassFile.FieldType.int)).before a0 Z = true := hw _ (List.mem_of_getElem? (i := 35) rfl)
theorem pd_0 : parseMethodDescriptor "(IC)I" = some ⟨[.int, .char], some .int⟩ := by decide +kernel
theorem wm34 {a0 : Array Value} {Z : State} (hw : ∀ d ∈ tables_1, d.before a0 Z = true) : (Jvm.Cond.selects "needlewise/kmp/SparseAutomaton" ({ cls := "needlewise/kmp/SparseAutomaton", name := "next", desc := "(IC)I" } : Jvm.MethodName) ({ cls := "needlewise/kmp/SparseAutomaton", name := "next", desc := "(IC)I" } : Jvm.MethodName)).before a0 Z = true := hw _ (List.mem_of_getElem? (i := 34) rfl)
theorem wm32 {a0 : Array Value} {Z : State} (hw : ∀ d ∈ tables_1, d.before a0 Z = true) : (Jvm.Cond.declares ({ cls := "needlewise/kmp/SparseAutomaton", name := "next", desc := "(IC)I" } : Jvm.MethodName)).before a0 Z = true := hw _ (List.mem_of_getElem? (i := 32) rfl)
theorem wm33 {a0 : Array Value} {Z : State} (hw : ∀ d ∈ tables_1, d.before a0 Z = true) : (Jvm.Cond.instanceMethod ({ cls := "needlewise/kmp/SparseAutomaton", name := "next", desc := "(IC)I" } : Jvm.MethodName)).before a0 Z = true := hw _ (List.mem_of_getElem? (i := 33) rfl)
theorem wm9 {a0 : Array Value} {Z : State} (hw : ∀ d ∈ tables_1, d.before a0 Z = true) : (Jvm.Cond.initialized "needlewise/kmp/SparseAutomaton").before a0 Z = true := hw _ (List.mem_of_getElem? (i := 9) rfl)
set_option maxRecDepth 65536 in
set_option maxHeartbeats 40000000 in
theorem c_init2 (l : Launch) (Z : State) (a0 : Array Value) (hw : ∀ d ∈ tables_1, d.before a0 Z = true) (this : Addr) (pat : Addr) (h0 : Heap) (n0 : Nat) (Z0 : n0 ≤ h0.size) (c0 : Int32) (c1 : Int32) (E_this : Exa Z h0 this "needlewise/kmp/SparseAutomaton") (F_this_length : Fld Z h0 this "needlewise/kmp/SparseAutomaton" "length" "I" (.int 0)) (F_this_forward : Fld Z h0 this "needlewise/kmp/SparseAutomaton" "forward" "[I" .null) (F_this_rows : Fld Z h0 this "needlewise/kmp/SparseAutomaton" "rows" "[I" .null) (F_this_units : Fld Z h0 this "needlewise/kmp/SparseAutomaton" "units" "[C" .null) (F_this_targets : Fld Z h0 this "needlewise/kmp/SparseAutomaton" "targets" "[I" .null) (A_pat : Ars Z h0 pat .char [(.int c0), (.int c1)]) (g_this : n0 ≤ this) (ne_this_pat : this ≠ pat) (hr0 : 0 ≤ c0.toInt ∧ c0.toInt < 65536) (hr1 : 0 ≤ c1.toInt ∧ c1.toInt < 65536) :
  Ctr l Z (⟨"needlewise/kmp/SparseAutomaton", "<init>", "([C)V"⟩ : MethodName) prog_24_method_1_code 6 none ({ frames := 1, cells := 4, slots := 11, locals := 15 } : Room) #[(.ref this), (.ref pat)] h0 (fun v h L => ∃ (fo ro uo to : Addr) (rw un tg : List Int32), v = none ∧ Fr n0 L ∧ Exa Z h this "needlewise/kmp/SparseAutomaton" ∧ Fld Z h this "needlewise/kmp/SparseAutomaton" "forward" "[I" (.ref fo) ∧ Fld Z h this "needlewise/kmp/SparseAutomaton" "rows" "[I" (.ref ro) ∧ Fld Z h this "needlewise/kmp/SparseAutomaton" "units" "[C" (.ref uo) ∧ Fld Z h this "needlewise/kmp/SparseAutomaton" "targets" "[I" (.ref to) ∧ Ars Z h fo .int [(.int c0), (.int c1), (.int (-1))] ∧ Ars Z h ro .int (rw.map Value.int) ∧ Ars Z h uo .char (un.map Value.int) ∧ Ars Z h to .int (tg.map Value.int) ∧ own_rw 0 c0 rw un tg (fun u => (if c0 = u then (1 : Int32) else (0 : Int32))) ∧ own_rw 1 c1 rw un tg (fun u => (if c0 = c0 ∧ c1 = u then (2 : Int32) else (if c0 = u then (1 : Int32) else (0 : Int32)))) ∧ own_rw 2 (-1 : Int32) rw un tg (fun u => (if c0 = c1 ∧ c1 = u then (2 : Int32) else (if c0 = u then (1 : Int32) else (0 : Int32))))) := by
 refine Ctr.of (plainFor_of_name pn_0) (fun m => ef_c_init2 m this pat) ?_
 intro p e s m below meth c T0 hx hby hml hown hnm hret hlk hZ e0 X0
 have N0 := Fr.nil n0
 replace hown : s.vm.findClass "needlewise/kmp/SparseAutomaton" = some m.cls := hown
 replace hml : c.maxLocals = 6 := hml
 refine Run.x_aloadN (q := 1) X0 hx (hb hby d2_0) rfl rfl rfl ?_
 refine Run.init X0 hx hZ e0 hown (wm17 hw) (wm18 hw) (wm19 hw) (by rw [hml]; rfl) (hb hby d2_1) (by decide) (W := 0) rfl (by decide) ?_
 intro T1 X1 e1
 show Run p e below s _ _ _ (T1.setTop (mkF m 4 #[.val (.ref this), .val (.ref pat), .unset, .unset, .unset, .unset] []))
 refine Run.x_aloadN (q := 5) X1 hx (hb hby d2_4) rfl rfl rfl ?_
 refine Run.x_aloadN (q := 6) X1 hx (hb hby d2_5) rfl rfl rfl ?_
 refine Run.y_alen (q := 7) X1 hx hZ e1 A_pat (z := (2 : Int32)) rfl (hb hby d2_6) rfl ?_
 obtain ⟨T2, h2, X2, e2, W2, st2⟩ := putF X1 hx hZ hown (host := "") (Or.inl (wm20 hw)) Via.refl e1 F_this_length E_this (Or.inr ⟨(wm21 hw), rfl, hnm⟩) (wm8 hw) (ty := .int) (by decide) rfl rfl (g := (mkF m 7 #[.val (.ref this), .val (.ref pat), .unset, .unset, .unset, .unset] [(.int 2), (.ref this)])) rfl rfl (hb hby d2_7)
 replace F_this_length := F_this_length.same W2
 have Z2 : n0 ≤ h2.size := Nat.le_trans Z0 (Nat.le_of_eq W2.size.symm)
 have N2 := Fr.snoc X2 N0 g_this
 refine Run.st st2 ?_
 show Run p e below s _ _ _ (T2.setTop (mkF m 10 #[.val (.ref this), .val (.ref pat), .unset, .unset, .unset, .unset] []))
 refine Run.x_aloadN (q := 11) X2 hx (hb hby d2_10) rfl rfl rfl ?_
 refine Run.x_aloadN (q := 12) X2 hx (hb hby d2_11) rfl rfl rfl ?_
 refine Run.z_getF (q := 15) X2 hx hZ e2 hown (wm20 hw) F_this_length (hb hby d2_12) rfl fun T3 X3 e3 => ?_
 refine Run.x_iconst (q := 16) X3 hx (hb hby d2_15) (z := (1 : Int32)) rfl rfl ?_
 refine Run.x_iadd (q := 17) X3 hx (hb hby d2_16) (z := (3 : Int32)) (by decide) rfl ?_
 refine Run.newP (aty := .int) X3 hx hZ e3 (wm22 hw) (hb hby d2_17) (len := 3) (by decide) (by decide) (cap := 3) (by decide) (by decide) (by decide) (by decide) ?_
 intro T4 h4 b4 gg4 X4 e4 E4 A_b4
 have g_b4 : n0 ≤ b4 := Nat.le_trans Z2 (Nat.le_of_eq gg4.symm)
 replace E_this := E_this.wr W2
 have ne_this_b4 : this ≠ b4 := Nat.ne_of_lt (Nat.lt_of_lt_of_le E_this.lt (Nat.le_of_eq gg4.symm))
 replace A_pat := A_pat.other W2 (Ne.symm ne_this_pat)
 have ne_pat_b4 : pat ≠ b4 := Nat.ne_of_lt (Nat.lt_of_lt_of_le A_pat.lt (Nat.le_of_eq gg4.symm))
 have Z4 : n0 ≤ h4.size := Nat.le_trans Z2 E4.1
 replace A_b4 : Ars Z h4 b4 .int [(.int 0), (.int 0), (.int 0)] := A_b4
 show Run p e below s _ _ _ (T4.setTop (mkF m 19 #[.val (.ref this), .val (.ref pat), .unset, .unset, .unset, .unset] [(.ref b4), (.ref this)]))
 replace F_this_forward := (F_this_forward.other W2 (Or.inr (slot_ne (Or.inr (wm24 hw)) (Or.inr (wm21 hw)) (by decide) (t := (.array .int)) (t' := .int) (by decide) (by decide)))).ext E4
 replace E_this := E_this.ext E4
 obtain ⟨T5, h5, X5, e5, W5, st5⟩ := putF X4 hx hZ hown (host := "") (Or.inl (wm23 hw)) Via.refl e4 F_this_forward E_this (Or.inr ⟨(wm24 hw), rfl, hnm⟩) (wm8 hw) (ty := (.array .int)) (by decide) rfl rfl (g := (mkF m 19 #[.val (.ref this), .val (.ref pat), .unset, .unset, .unset, .unset] [(.ref b4), (.ref this)])) rfl rfl (hb hby d2_19)
 replace F_this_forward := F_this_forward.same W5
 have Z5 : n0 ≤ h5.size := Nat.le_trans Z4 (Nat.le_of_eq W5.size.symm)
 have N5 := Fr.snoc X5 N2 g_this
 refine Run.st st5 ?_
 show Run p e below s _ _ _ (T5.setTop (mkF m 22 #[.val (.ref this), .val (.ref pat), .unset, .unset, .unset, .unset] []))
 refine Run.x_iconst (q := 23) X5 hx (hb hby d2_22) (z := (0 : Int32)) rfl rfl ?_
 refine Run.x_istoreN (q := 24) X5 hx #[.val (.ref this), .val (.ref pat), .val (.int 0), .unset, .unset, .unset] (hb hby d2_23) rfl rfl ?_
 refine Run.x_iloadN (q := 25) X5 hx (hb hby d2_24) rfl rfl ?_
 refine Run.x_aloadN (q := 26) X5 hx (hb hby d2_25) rfl rfl rfl ?_
 replace F_this_length := (F_this_length.ext E4).other W5 (Or.inr (slot_ne (Or.inr (wm21 hw)) (Or.inr (wm24 hw)) (by decide) (t := .int) (t' := (.array .int)) (by decide) (by decide)))
 refine Run.z_getF (q := 29) X5 hx hZ e5 hown (wm20 hw) F_this_length (hb hby d2_26) rfl fun T6 X6 e6 => ?_
 refine Run.x_icmpNo (q := 32) X6 hx (hb hby d2_29) (tlt (by decide : (0 : Int32) < (2 : Int32))).2.1 rfl ?_
 refine Run.x_aloadN (q := 33) X6 hx (hb hby d2_32) rfl rfl rfl ?_
 refine Run.z_getF (q := 36) X6 hx hZ e6 hown (wm23 hw) F_this_forward (hb hby d2_33) rfl fun T7 X7 e7 => ?_
 refine Run.x_iloadN (q := 37) X7 hx (hb hby d2_36) rfl rfl ?_
 refine Run.x_aloadN (q := 38) X7 hx (hb hby d2_37) rfl rfl rfl ?_
 refine Run.x_iloadN (q := 39) X7 hx (hb hby d2_38) rfl rfl ?_
 replace A_pat := (A_pat.ext E4).other W5 (Ne.symm ne_this_pat)
 refine Run.y_ldC (q := 40) X7 hx hZ e7 A_pat (i := 0) (v := (.int c0)) (by decide) rfl (hb hby d2_39) rfl ?_
 replace A_b4 := A_b4.other W5 (Ne.symm ne_this_b4)
 refine Run.y_stI (q := 41) X7 hx hZ e7 A_b4 (i := 0) (by decide) (Nat.le_of_ble_eq_true rfl) (hb hby d2_40) rfl fun T8 h8 X8 e8 W8 A8 => ?_
 replace A_b4 : Ars Z h8 b4 .int [(.int c0), (.int 0), (.int 0)] := A8
 have N8 := Fr.snoc X8 N5 g_b4
 have Z8 : n0 ≤ h8.size := Nat.le_trans Z5 (Nat.le_of_eq W8.size.symm)
 refine Run.x_iinc (q := 44) X8 hx #[.val (.ref this), .val (.ref pat), .val (.int 1), .unset, .unset, .unset] (hb hby d2_41) rfl (z := (1 : Int32)) (by decide) rfl rfl ?_
 refine Run.x_goto (q := 24) X8 hx (hb hby d2_44) (by decide) (by decide) ?_
 refine Run.x_iloadN (q := 25) X8 hx (hb hby d2_24) rfl rfl ?_
 refine Run.x_aloadN (q := 26) X8 hx (hb hby d2_25) rfl rfl rfl ?_
 replace F_this_length := F_this_length.other W8 (Or.inl ne_this_b4)
 refine Run.z_getF (q := 29) X8 hx hZ e8 hown (wm20 hw) F_this_length (hb hby d2_26) rfl fun T9 X9 e9 => ?_
 refine Run.x_icmpNo (q := 32) X9 hx (hb hby d2_29) (tlt (by decide : (1 : Int32) < (2 : Int32))).2.1 rfl ?_
 refine Run.x_aloadN (q := 33) X9 hx (hb hby d2_32) rfl rfl rfl ?_
 replace F_this_forward := F_this_forward.other W8 (Or.inl ne_this_b4)
 refine Run.z_getF (q := 36) X9 hx hZ e9 hown (wm23 hw) F_this_forward (hb hby d2_33) rfl fun T10 X10 e10 => ?_
 refine Run.x_iloadN (q := 37) X10 hx (hb hby d2_36) rfl rfl ?_
 refine Run.x_aloadN (q := 38) X10 hx (hb hby d2_37) rfl rfl rfl ?_
 refine Run.x_iloadN (q := 39) X10 hx (hb hby d2_38) rfl rfl ?_
 replace A_pat := A_pat.other W8 ne_pat_b4
 refine Run.y_ldC (q := 40) X10 hx hZ e10 A_pat (i := 1) (v := (.int c1)) (by decide) rfl (hb hby d2_39) rfl ?_
 refine Run.y_stI (q := 41) X10 hx hZ e10 A_b4 (i := 1) (by decide) (Nat.le_of_ble_eq_true rfl) (hb hby d2_40) rfl fun T11 h11 X11 e11 W11 A11 => ?_
 replace A_b4 : Ars Z h11 b4 .int [(.int c0), (.int c1), (.int 0)] := A11
 have N11 := Fr.snoc X11 N8 g_b4
 have Z11 : n0 ≤ h11.size := Nat.le_trans Z8 (Nat.le_of_eq W11.size.symm)
 refine Run.x_iinc (q := 44) X11 hx #[.val (.ref this), .val (.ref pat), .val (.int 2), .unset, .unset, .unset] (hb hby d2_41) rfl (z := (2 : Int32)) (by decide) rfl rfl ?_
 refine Run.x_goto (q := 24) X11 hx (hb hby d2_44) (by decide) (by decide) ?_
 refine Run.x_iloadN (q := 25) X11 hx (hb hby d2_24) rfl rfl ?_
 refine Run.x_aloadN (q := 26) X11 hx (hb hby d2_25) rfl rfl rfl ?_
 replace F_this_length := F_this_length.other W11 (Or.inl ne_this_b4)
 refine Run.z_getF (q := 29) X11 hx hZ e11 hown (wm20 hw) F_this_length (hb hby d2_26) rfl fun T12 X12 e12 => ?_
 refine Run.x_icmpYes (q := 47) X12 hx (hb hby d2_29) (flt (by decide : ¬ ((2 : Int32) < (2 : Int32)))).2.1 (by decide) (by decide) ?_
 refine Run.x_aloadN (q := 48) X12 hx (hb hby d2_47) rfl rfl rfl ?_
 replace F_this_forward := F_this_forward.other W11 (Or.inl ne_this_b4)
 refine Run.z_getF (q := 51) X12 hx hZ e12 hown (wm23 hw) F_this_forward (hb hby d2_48) rfl fun T13 X13 e13 => ?_
 refine Run.x_aloadN (q := 52) X13 hx (hb hby d2_51) rfl rfl rfl ?_
 refine Run.z_getF (q := 55) X13 hx hZ e13 hown (wm20 hw) F_this_length (hb hby d2_52) rfl fun T14 X14 e14 => ?_
 refine Run.x_iconst (q := 56) X14 hx (hb hby d2_55) (z := (-1 : Int32)) rfl rfl ?_
 refine Run.y_stI (q := 57) X14 hx hZ e14 A_b4 (i := 2) (by decide) (Nat.le_of_ble_eq_true rfl) (hb hby d2_56) rfl fun T15 h15 X15 e15 W15 A15 => ?_
 replace A_b4 : Ars Z h15 b4 .int [(.int c0), (.int c1), (.int (-1))] := A15
 have N15 := Fr.snoc X15 N11 g_b4
 have Z15 : n0 ≤ h15.size := Nat.le_trans Z11 (Nat.le_of_eq W15.size.symm)
 refine Run.x_aloadN (q := 58) X15 hx (hb hby d2_57) rfl rfl rfl ?_
 refine Run.x_aloadN (q := 59) X15 hx (hb hby d2_58) rfl rfl rfl ?_
 replace F_this_length := F_this_length.other W15 (Or.inl ne_this_b4)
 refine Run.z_getF (q := 62) X15 hx hZ e15 hown (wm20 hw) F_this_length (hb hby d2_59) rfl fun T16 X16 e16 => ?_
 refine Run.x_iconst (q := 63) X16 hx (hb hby d2_62) (z := (2 : Int32)) rfl rfl ?_
 refine Run.x_iadd (q := 64) X16 hx (hb hby d2_63) (z := (4 : Int32)) (by decide) rfl ?_
 refine Run.newP (aty := .int) X16 hx hZ e16 (wm22 hw) (hb hby d2_64) (len := 4) (by decide) (by decide) (cap := 4) (by decide) (by decide) (by decide) (by decide) ?_
 intro T17 h17 b17 gg17 X17 e17 E17 A_b17
 have g_b17 : n0 ≤ b17 := Nat.le_trans Z15 (Nat.le_of_eq gg17.symm)
 replace E_this := (((E_this.wr W5).wr W8).wr W11).wr W15
 have ne_this_b17 : this ≠ b17 := Nat.ne_of_lt (Nat.lt_of_lt_of_le E_this.lt (Nat.le_of_eq gg17.symm))
 replace A_pat := (A_pat.other W11 ne_pat_b4).other W15 ne_pat_b4
 have ne_pat_b17 : pat ≠ b17 := Nat.ne_of_lt (Nat.lt_of_lt_of_le A_pat.lt (Nat.le_of_eq gg17.symm))
 have ne_b4_b17 : b4 ≠ b17 := Nat.ne_of_lt (Nat.lt_of_lt_of_le A_b4.lt (Nat.le_of_eq gg17.symm))
 have Z17 : n0 ≤ h17.size := Nat.le_trans Z15 E17.1
 replace A_b17 : Ars Z h17 b17 .int [(.int 0), (.int 0), (.int 0), (.int 0)] := A_b17
 show Run p e below s _ _ _ (T17.setTop (mkF m 66 #[.val (.ref this), .val (.ref pat), .val (.int 2), .unset, .unset, .unset] [(.ref b17), (.ref this)]))
 replace F_this_rows := ((((((F_this_rows.other W2 (Or.inr (slot_ne (Or.inr (wm26 hw)) (Or.inr (wm21 hw)) (by decide) (t := (.array .int)) (t' := .int) (by decide) (by decide)))).ext E4).other W5 (Or.inr (slot_ne (Or.inr (wm26 hw)) (Or.inr (wm24 hw)) (by decide) (t := (.array .int)) (t' := (.array .int)) (by decide) (by decide)))).other W8 (Or.inl ne_this_b4)).other W11 (Or.inl ne_this_b4)).other W15 (Or.inl ne_this_b4)).ext E17
 replace E_this := E_this.ext E17
 obtain ⟨T18, h18, X18, e18, W18, st18⟩ := putF X17 hx hZ hown (host := "") (Or.inl (wm25 hw)) Via.refl e17 F_this_rows E_this (Or.inr ⟨(wm26 hw), rfl, hnm⟩) (wm8 hw) (ty := (.array .int)) (by decide) rfl rfl (g := (mkF m 66 #[.val (.ref this), .val (.ref pat), .val (.int 2), .unset, .unset, .unset] [(.ref b17), (.ref this)])) rfl rfl (hb hby d2_66)
 replace F_this_rows := F_this_rows.same W18
 have Z18 : n0 ≤ h18.size := Nat.le_trans Z17 (Nat.le_of_eq W18.size.symm)
 have N18 := Fr.snoc X18 N15 g_this
 refine Run.st st18 ?_
 show Run p e below s _ _ _ (T18.setTop (mkF m 69 #[.val (.ref this), .val (.ref pat), .val (.int 2), .unset, .unset, .unset] []))
 refine Run.x_aloadN (q := 70) X18 hx (hb hby d2_69) rfl rfl rfl ?_
 refine Run.x_aloadN (q := 71) X18 hx (hb hby d2_70) rfl rfl rfl ?_
 replace F_this_length := (F_this_length.ext E17).other W18 (Or.inr (slot_ne (Or.inr (wm21 hw)) (Or.inr (wm26 hw)) (by decide) (t := .int) (t' := (.array .int)) (by decide) (by decide)))
 refine Run.z_getF (q := 74) X18 hx hZ e18 hown (wm20 hw) F_this_length (hb hby d2_71) rfl fun T19 X19 e19 => ?_
 refine Run.newP (aty := .char) X19 hx hZ e19 (wm2 hw) (hb hby d2_74) (len := 2) (by decide) (by decide) (cap := 2) (by decide) (by decide) (by decide) (by decide) ?_
 intro T20 h20 b20 gg20 X20 e20 E20 A_b20
 have g_b20 : n0 ≤ b20 := Nat.le_trans Z18 (Nat.le_of_eq gg20.symm)
 replace E_this := E_this.wr W18
 have ne_this_b20 : this ≠ b20 := Nat.ne_of_lt (Nat.lt_of_lt_of_le E_this.lt (Nat.le_of_eq gg20.symm))
 replace A_pat := (A_pat.ext E17).other W18 (Ne.symm ne_this_pat)
 have ne_pat_b20 : pat ≠ b20 := Nat.ne_of_lt (Nat.lt_of_lt_of_le A_pat.lt (Nat.le_of_eq gg20.symm))
 replace A_b4 := (A_b4.ext E17).other W18 (Ne.symm ne_this_b4)
 have ne_b4_b20 : b4 ≠ b20 := Nat.ne_of_lt (Nat.lt_of_lt_of_le A_b4.lt (Nat.le_of_eq gg20.symm))
 replace A_b17 := A_b17.other W18 (Ne.symm ne_this_b17)
 have ne_b17_b20 : b17 ≠ b20 := Nat.ne_of_lt (Nat.lt_of_lt_of_le A_b17.lt (Nat.le_of_eq gg20.symm))
 have Z20 : n0 ≤ h20.size := Nat.le_trans Z18 E20.1
 replace A_b20 : Ars Z h20 b20 .char [(.int 0), (.int 0)] := A_b20
 show Run p e below s _ _ _ (T20.setTop (mkF m 76 #[.val (.ref this), .val (.ref pat), .val (.int 2), .unset, .unset, .unset] [(.ref b20), (.ref this)]))
 replace F_this_units := ((((((((F_this_units.other W2 (Or.inr (slot_ne (Or.inr (wm28 hw)) (Or.inr (wm21 hw)) (by decide) (t := (.array .char)) (t' := .int) (by decide) (by decide)))).ext E4).other W5 (Or.inr (slot_ne (Or.inr (wm28 hw)) (Or.inr (wm24 hw)) (by decide) (t := (.array .char)) (t' := (.array .int)) (by decide) (by decide)))).other W8 (Or.inl ne_this_b4)).other W11 (Or.inl ne_this_b4)).other W15 (Or.inl ne_this_b4)).ext E17).other W18 (Or.inr (slot_ne (Or.inr (wm28 hw)) (Or.inr (wm26 hw)) (by decide) (t := (.array .char)) (t' := (.array .int)) (by decide) (by decide)))).ext E20
 replace E_this := E_this.ext E20
 obtain ⟨T21, h21, X21, e21, W21, st21⟩ := putF X20 hx hZ hown (host := "") (Or.inl (wm27 hw)) Via.refl e20 F_this_units E_this (Or.inr ⟨(wm28 hw), rfl, hnm⟩) (wm8 hw) (ty := (.array .char)) (by decide) rfl rfl (g := (mkF m 76 #[.val (.ref this), .val (.ref pat), .val (.int 2), .unset, .unset, .unset] [(.ref b20), (.ref this)])) rfl rfl (hb hby d2_76)
 replace F_this_units := F_this_units.same W21
 have Z21 : n0 ≤ h21.size := Nat.le_trans Z20 (Nat.le_of_eq W21.size.symm)
 have N21 := Fr.snoc X21 N18 g_this
 refine Run.st st21 ?_
 show Run p e below s _ _ _ (T21.setTop (mkF m 79 #[.val (.ref this), .val (.ref pat), .val (.int 2), .unset, .unset, .unset] []))
 refine Run.x_aloadN (q := 80) X21 hx (hb hby d2_79) rfl rfl rfl ?_
 refine Run.x_aloadN (q := 81) X21 hx (hb hby d2_80) rfl rfl rfl ?_
 replace F_this_length := (F_this_length.ext E20).other W21 (Or.inr (slot_ne (Or.inr (wm21 hw)) (Or.inr (wm28 hw)) (by decide) (t := .int) (t' := (.array .char)) (by decide) (by decide)))
 refine Run.z_getF (q := 84) X21 hx hZ e21 hown (wm20 hw) F_this_length (hb hby d2_81) rfl fun T22 X22 e22 => ?_
 refine Run.newP (aty := .int) X22 hx hZ e22 (wm22 hw) (hb hby d2_84) (len := 2) (by decide) (by decide) (cap := 2) (by decide) (by decide) (by decide) (by decide) ?_
 intro T23 h23 b23 gg23 X23 e23 E23 A_b23
 have g_b23 : n0 ≤ b23 := Nat.le_trans Z21 (Nat.le_of_eq gg23.symm)
 replace E_this := E_this.wr W21
 have ne_this_b23 : this ≠ b23 := Nat.ne_of_lt (Nat.lt_of_lt_of_le E_this.lt (Nat.le_of_eq gg23.symm))
 replace A_pat := (A_pat.ext E20).other W21 (Ne.symm ne_this_pat)
 have ne_pat_b23 : pat ≠ b23 := Nat.ne_of_lt (Nat.lt_of_lt_of_le A_pat.lt (Nat.le_of_eq gg23.symm))
 replace A_b4 := (A_b4.ext E20).other W21 (Ne.symm ne_this_b4)
 have ne_b4_b23 : b4 ≠ b23 := Nat.ne_of_lt (Nat.lt_of_lt_of_le A_b4.lt (Nat.le_of_eq gg23.symm))
 replace A_b17 := (A_b17.ext E20).other W21 (Ne.symm ne_this_b17)
 have ne_b17_b23 : b17 ≠ b23 := Nat.ne_of_lt (Nat.lt_of_lt_of_le A_b17.lt (Nat.le_of_eq gg23.symm))
 replace A_b20 := A_b20.other W21 (Ne.symm ne_this_b20)
 have ne_b20_b23 : b20 ≠ b23 := Nat.ne_of_lt (Nat.lt_of_lt_of_le A_b20.lt (Nat.le_of_eq gg23.symm))
 have Z23 : n0 ≤ h23.size := Nat.le_trans Z21 E23.1
 replace A_b23 : Ars Z h23 b23 .int [(.int 0), (.int 0)] := A_b23
 show Run p e below s _ _ _ (T23.setTop (mkF m 86 #[.val (.ref this), .val (.ref pat), .val (.int 2), .unset, .unset, .unset] [(.ref b23), (.ref this)]))
 replace F_this_targets := ((((((((((F_this_targets.other W2 (Or.inr (slot_ne (Or.inr (wm30 hw)) (Or.inr (wm21 hw)) (by decide) (t := (.array .int)) (t' := .int) (by decide) (by decide)))).ext E4).other W5 (Or.inr (slot_ne (Or.inr (wm30 hw)) (Or.inr (wm24 hw)) (by decide) (t := (.array .int)) (t' := (.array .int)) (by decide) (by decide)))).other W8 (Or.inl ne_this_b4)).other W11 (Or.inl ne_this_b4)).other W15 (Or.inl ne_this_b4)).ext E17).other W18 (Or.inr (slot_ne (Or.inr (wm30 hw)) (Or.inr (wm26 hw)) (by decide) (t := (.array .int)) (t' := (.array .int)) (by decide) (by decide)))).ext E20).other W21 (Or.inr (slot_ne (Or.inr (wm30 hw)) (Or.inr (wm28 hw)) (by decide) (t := (.array .int)) (t' := (.array .char)) (by decide) (by decide)))).ext E23
 replace E_this := E_this.ext E23
 obtain ⟨T24, h24, X24, e24, W24, st24⟩ := putF X23 hx hZ hown (host := "") (Or.inl (wm29 hw)) Via.refl e23 F_this_targets E_this (Or.inr ⟨(wm30 hw), rfl, hnm⟩) (wm8 hw) (ty := (.array .int)) (by decide) rfl rfl (g := (mkF m 86 #[.val (.ref this), .val (.ref pat), .val (.int 2), .unset, .unset, .unset] [(.ref b23), (.ref this)])) rfl rfl (hb hby d2_86)
 replace F_this_targets := F_this_targets.same W24
 have Z24 : n0 ≤ h24.size := Nat.le_trans Z23 (Nat.le_of_eq W24.size.symm)
 have N24 := Fr.snoc X24 N21 g_this
 refine Run.st st24 ?_
 show Run p e below s _ _ _ (T24.setTop (mkF m 89 #[.val (.ref this), .val (.ref pat), .val (.int 2), .unset, .unset, .unset] []))
 refine Run.x_iconst (q := 90) X24 hx (hb hby d2_89) (z := (0 : Int32)) rfl rfl ?_
 refine Run.x_istoreN (q := 91) X24 hx #[.val (.ref this), .val (.ref pat), .val (.int 0), .unset, .unset, .unset] (hb hby d2_90) rfl rfl ?_
 refine Run.x_iconst (q := 92) X24 hx (hb hby d2_91) (z := (0 : Int32)) rfl rfl ?_
 refine Run.x_istoreN (q := 93) X24 hx #[.val (.ref this), .val (.ref pat), .val (.int 0), .val (.int 0), .unset, .unset] (hb hby d2_92) rfl rfl ?_
 refine Run.x_iconst (q := 94) X24 hx (hb hby d2_93) (z := (1 : Int32)) rfl rfl ?_
 refine Run.x_istore (q := 96) X24 hx #[.val (.ref this), .val (.ref pat), .val (.int 0), .val (.int 0), .val (.int 1), .unset] (hb hby d2_94) rfl rfl ?_
 refine Run.x_iload (q := 98) X24 hx (hb hby d2_96) rfl rfl ?_
 refine Run.x_aloadN (q := 99) X24 hx (hb hby d2_98) rfl rfl rfl ?_
 replace F_this_length := (F_this_length.ext E23).other W24 (Or.inr (slot_ne (Or.inr (wm21 hw)) (Or.inr (wm30 hw)) (by decide) (t := .int) (t' := (.array .int)) (by decide) (by decide)))
 refine Run.z_getF (q := 102) X24 hx hZ e24 hown (wm20 hw) F_this_length (hb hby d2_99) rfl fun T25 X25 e25 => ?_
 refine Run.x_icmpNo (q := 105) X25 hx (hb hby d2_102) (flt (by decide : ¬ ((2 : Int32) < (1 : Int32)))).2.2.1 rfl ?_
 refine Run.x_aloadN (q := 106) X25 hx (hb hby d2_105) rfl rfl rfl ?_
 replace F_this_rows := (((F_this_rows.ext E20).other W21 (Or.inr (slot_ne (Or.inr (wm26 hw)) (Or.inr (wm28 hw)) (by decide) (t := (.array .int)) (t' := (.array .char)) (by decide) (by decide)))).ext E23).other W24 (Or.inr (slot_ne (Or.inr (wm26 hw)) (Or.inr (wm30 hw)) (by decide) (t := (.array .int)) (t' := (.array .int)) (by decide) (by decide)))
 refine Run.z_getF (q := 109) X25 hx hZ e25 hown (wm25 hw) F_this_rows (hb hby d2_106) rfl fun T26 X26 e26 => ?_
 refine Run.x_iloadN (q := 110) X26 hx (hb hby d2_109) rfl rfl ?_
 replace A_b17 := (A_b17.ext E23).other W24 (Ne.symm ne_this_b17)
 refine Run.y_ldI (q := 111) X26 hx hZ e26 A_b17 (i := 0) (v := (.int 0)) (by decide) rfl (hb hby d2_110) rfl ?_
 refine Run.x_istore (q := 113) X26 hx #[.val (.ref this), .val (.ref pat), .val (.int 0), .val (.int 0), .val (.int 1), .val (.int 0)] (hb hby d2_111) rfl rfl ?_
 refine Run.x_iload (q := 115) X26 hx (hb hby d2_113) rfl rfl ?_
 refine Run.x_aloadN (q := 116) X26 hx (hb hby d2_115) rfl rfl rfl ?_
 refine Run.z_getF (q := 119) X26 hx hZ e26 hown (wm25 hw) F_this_rows (hb hby d2_116) rfl fun T27 X27 e27 => ?_
 refine Run.x_iloadN (q := 120) X27 hx (hb hby d2_119) rfl rfl ?_
 refine Run.x_iconst (q := 121) X27 hx (hb hby d2_120) (z := (1 : Int32)) rfl rfl ?_
 refine Run.x_iadd (q := 122) X27 hx (hb hby d2_121) (z := (1 : Int32)) (by decide) rfl ?_
 refine Run.y_ldI (q := 123) X27 hx hZ e27 A_b17 (i := 1) (v := (.int 0)) (by decide) rfl (hb hby d2_122) rfl ?_
 refine Run.x_icmpYes (q := 178) X27 hx (hb hby d2_123) (flt (by decide : ¬ ((0 : Int32) < (0 : Int32)))).2.1 (by decide) (by decide) ?_
 refine Run.x_aloadN (q := 179) X27 hx (hb hby d2_178) rfl rfl rfl ?_
 replace F_this_forward := ((((((F_this_forward.other W15 (Or.inl ne_this_b4)).ext E17).other W18 (Or.inr (slot_ne (Or.inr (wm24 hw)) (Or.inr (wm26 hw)) (by decide) (t := (.array .int)) (t' := (.array .int)) (by decide) (by decide)))).ext E20).other W21 (Or.inr (slot_ne (Or.inr (wm24 hw)) (Or.inr (wm28 hw)) (by decide) (t := (.array .int)) (t' := (.array .char)) (by decide) (by decide)))).ext E23).other W24 (Or.inr (slot_ne (Or.inr (wm24 hw)) (Or.inr (wm30 hw)) (by decide) (t := (.array .int)) (t' := (.array .int)) (by decide) (by decide)))
 refine Run.z_getF (q := 182) X27 hx hZ e27 hown (wm23 hw) F_this_forward (hb hby d2_179) rfl fun T28 X28 e28 => ?_
 refine Run.x_iloadN (q := 183) X28 hx (hb hby d2_182) rfl rfl ?_
 replace A_b4 := (A_b4.ext E23).other W24 (Ne.symm ne_this_b4)
 refine Run.y_ldI (q := 184) X28 hx hZ e28 A_b4 (i := 0) (v := (.int c0)) (by decide) rfl (hb hby d2_183) rfl ?_
 refine Run.x_aloadN (q := 185) X28 hx (hb hby d2_184) rfl rfl rfl ?_
 refine Run.z_getF (q := 188) X28 hx hZ e28 hown (wm23 hw) F_this_forward (hb hby d2_185) rfl fun T29 X29 e29 => ?_
 refine Run.x_iload (q := 190) X29 hx (hb hby d2_188) rfl rfl ?_
 refine Run.y_ldI (q := 191) X29 hx hZ e29 A_b4 (i := 1) (v := (.int c1)) (by decide) rfl (hb hby d2_190) rfl ?_
 by_cases hq_c0_c1 : c0 = c1
 ·subst hq_c0_c1
  refine Run.x_icmpYes (q := 219) X29 hx (hb hby d2_191) (teq rfl).1 (by decide) (by decide) ?_
  refine Run.x_aloadN (q := 220) X29 hx (hb hby d2_219) rfl rfl rfl ?_
  refine Run.z_getF (q := 223) X29 hx hZ e29 hown (wm25 hw) F_this_rows (hb hby d2_220) rfl fun T30 X30 e30 => ?_
  refine Run.x_iload (q := 225) X30 hx (hb hby d2_223) rfl rfl ?_
  refine Run.x_iconst (q := 226) X30 hx (hb hby d2_225) (z := (1 : Int32)) rfl rfl ?_
  refine Run.x_iadd (q := 227) X30 hx (hb hby d2_226) (z := (2 : Int32)) (by decide) rfl ?_
  refine Run.x_iloadN (q := 228) X30 hx (hb hby d2_227) rfl rfl ?_
  refine Run.y_stI (q := 229) X30 hx hZ e30 A_b17 (i := 2) (by decide) (Nat.le_of_ble_eq_true rfl) (hb hby d2_228) rfl fun T31 h31 X31 e31 W31 A31 => ?_
  replace A_b17 : Ars Z h31 b17 .int [(.int 0), (.int 0), (.int 0), (.int 0)] := A31
  have N31 := Fr.snoc X31 N24 g_b17
  have Z31 : n0 ≤ h31.size := Nat.le_trans Z24 (Nat.le_of_eq W31.size.symm)
  refine Run.x_iload (q := 231) X31 hx (hb hby d2_229) rfl rfl ?_
  refine Run.x_aloadN (q := 232) X31 hx (hb hby d2_231) rfl rfl rfl ?_
  replace F_this_length := F_this_length.other W31 (Or.inl ne_this_b17)
  refine Run.z_getF (q := 235) X31 hx hZ e31 hown (wm20 hw) F_this_length (hb hby d2_232) rfl fun T32 X32 e32 => ?_
  refine Run.x_icmpNo (q := 238) X32 hx (hb hby d2_235) (tlt (by decide : (1 : Int32) < (2 : Int32))).2.1 rfl ?_
  refine Run.x_aloadN (q := 239) X32 hx (hb hby d2_238) rfl rfl rfl ?_
  refine Run.x_iloadN (q := 240) X32 hx (hb hby d2_239) rfl rfl ?_
  refine Run.x_aloadN (q := 241) X32 hx (hb hby d2_240) rfl rfl rfl ?_
  refine Run.x_iload (q := 243) X32 hx (hb hby d2_241) rfl rfl ?_
  replace A_pat := ((A_pat.ext E23).other W24 (Ne.symm ne_this_pat)).other W31 ne_pat_b17
  refine Run.y_ldC (q := 244) X32 hx hZ e32 A_pat (i := 1) (v := (.int c0)) (by decide) rfl (hb hby d2_243) rfl ?_
  replace E_this := (E_this.wr W24).wr W31
  replace F_this_forward := F_this_forward.other W31 (Or.inl ne_this_b17)
  replace F_this_rows := F_this_rows.other W31 (Or.inl ne_this_b17)
  replace F_this_units := ((F_this_units.ext E23).other W24 (Or.inr (slot_ne (Or.inr (wm28 hw)) (Or.inr (wm30 hw)) (by decide) (t := (.array .char)) (t' := (.array .int)) (by decide) (by decide)))).other W31 (Or.inl ne_this_b17)
  replace F_this_targets := F_this_targets.other W31 (Or.inl ne_this_b17)
  replace A_b4 := A_b4.other W31 ne_b4_b17
  replace A_b20 := ((A_b20.ext E23).other W24 (Ne.symm ne_this_b20)).other W31 (Ne.symm ne_b17_b20)
  replace A_b23 := (A_b23.other W24 (Ne.symm ne_this_b23)).other W31 (Ne.symm ne_b17_b23)
  refine Run.callVI (q := 247) X32 hx hZ e32 (y := (⟨"needlewise/kmp/SparseAutomaton", "next", "(IC)I"⟩ : MethodName)) (z := (⟨"needlewise/kmp/SparseAutomaton", "next", "(IC)I"⟩ : MethodName)) hown (wm39 hw) (wm32 hw) (notFace_of_selects (args := #[]) (mvT hZ (wm34 hw))) (wm34 hw) (wm33 hw) (wm9 hw) (wm35 hw) (by decide) (a := this) E_this (argsL := [(.int 0), (.int c0)]) (rest := []) (c_next l Z a0 hw this (0 : Int32) c0 h31 n0 Z31 b4 b17 b20 b23 [(.int c0), (.int c0), (.int (-1))] [(.int 0), (.int 0), (.int 0), (.int 0)] [(0 : Int32), (0 : Int32)] [(0 : Int32), (0 : Int32)] 0 0 0 c0 (0 : Int32) (0 : Int32) (1 : Int32) E_this F_this_forward F_this_rows F_this_units F_this_targets A_b4 A_b17 A_b20 A_b23 (by decide) (by decide) rfl rfl rfl (by decide) (by decide) (Nat.le_of_ble_eq_true rfl) (Nat.le_of_ble_eq_true rfl) (by decide) (Eq.trans (own_next_p rfl) (by decide))) pd_0 rfl (by rw [hml]; rfl) (W := 0) rfl (by decide) (by decide) (by decide) (by decide) (hb hby d2_244) rfl rfl fun T33 L33 X33 M33 e33 => ?_
  have N33 := Fr.app N31 M33
  refine Run.x_istoreN (q := 248) X33 hx #[.val (.ref this), .val (.ref pat), .val (.int 0), .val (.int 1), .val (.int 1), .val (.int 0)] (hb hby d2_247) rfl rfl ?_
  refine Run.x_iinc (q := 251) X33 hx #[.val (.ref this), .val (.ref pat), .val (.int 0), .val (.int 1), .val (.int 2), .val (.int 0)] (hb hby d2_248) rfl (z := (2 : Int32)) (by decide) rfl rfl ?_
  refine Run.x_goto (q := 96) X33 hx (hb hby d2_251) (by decide) (by decide) ?_
  refine Run.x_iload (q := 98) X33 hx (hb hby d2_96) rfl rfl ?_
  refine Run.x_aloadN (q := 99) X33 hx (hb hby d2_98) rfl rfl rfl ?_
  refine Run.z_getF (q := 102) X33 hx hZ e33 hown (wm20 hw) F_this_length (hb hby d2_99) rfl fun T34 X34 e34 => ?_
  refine Run.x_icmpNo (q := 105) X34 hx (hb hby d2_102) (flt (by decide : ¬ ((2 : Int32) < (2 : Int32)))).2.2.1 rfl ?_
  refine Run.x_aloadN (q := 106) X34 hx (hb hby d2_105) rfl rfl rfl ?_
  refine Run.z_getF (q := 109) X34 hx hZ e34 hown (wm25 hw) F_this_rows (hb hby d2_106) rfl fun T35 X35 e35 => ?_
  refine Run.x_iloadN (q := 110) X35 hx (hb hby d2_109) rfl rfl ?_
  refine Run.y_ldI (q := 111) X35 hx hZ e35 A_b17 (i := 1) (v := (.int 0)) (by decide) rfl (hb hby d2_110) rfl ?_
  refine Run.x_istore (q := 113) X35 hx #[.val (.ref this), .val (.ref pat), .val (.int 0), .val (.int 1), .val (.int 2), .val (.int 0)] (hb hby d2_111) rfl rfl ?_
  refine Run.x_iload (q := 115) X35 hx (hb hby d2_113) rfl rfl ?_
  refine Run.x_aloadN (q := 116) X35 hx (hb hby d2_115) rfl rfl rfl ?_
  refine Run.z_getF (q := 119) X35 hx hZ e35 hown (wm25 hw) F_this_rows (hb hby d2_116) rfl fun T36 X36 e36 => ?_
  refine Run.x_iloadN (q := 120) X36 hx (hb hby d2_119) rfl rfl ?_
  refine Run.x_iconst (q := 121) X36 hx (hb hby d2_120) (z := (1 : Int32)) rfl rfl ?_
  refine Run.x_iadd (q := 122) X36 hx (hb hby d2_121) (z := (2 : Int32)) (by decide) rfl ?_
  refine Run.y_ldI (q := 123) X36 hx hZ e36 A_b17 (i := 2) (v := (.int 0)) (by decide) rfl (hb hby d2_122) rfl ?_
  refine Run.x_icmpYes (q := 178) X36 hx (hb hby d2_123) (flt (by decide : ¬ ((0 : Int32) < (0 : Int32)))).2.1 (by decide) (by decide) ?_
  refine Run.x_aloadN (q := 179) X36 hx (hb hby d2_178) rfl rfl rfl ?_
  refine Run.z_getF (q := 182) X36 hx hZ e36 hown (wm23 hw) F_this_forward (hb hby d2_179) rfl fun T37 X37 e37 => ?_
  refine Run.x_iloadN (q := 183) X37 hx (hb hby d2_182) rfl rfl ?_
  refine Run.y_ldI (q := 184) X37 hx hZ e37 A_b4 (i := 1) (v := (.int c0)) (by decide) rfl (hb hby d2_183) rfl ?_
  refine Run.x_aloadN (q := 185) X37 hx (hb hby d2_184) rfl rfl rfl ?_
  refine Run.z_getF (q := 188) X37 hx hZ e37 hown (wm23 hw) F_this_forward (hb hby d2_185) rfl fun T38 X38 e38 => ?_
  refine Run.x_iload (q := 190) X38 hx (hb hby d2_188) rfl rfl ?_
  refine Run.y_ldI (q := 191) X38 hx hZ e38 A_b4 (i := 2) (v := (.int (-1))) (by decide) rfl (hb hby d2_190) rfl ?_
  refine Run.x_icmpNo (q := 194) X38 hx (hb hby d2_191) (feq (own_nm1 hr0.1)).1 rfl ?_
  refine Run.x_aloadN (q := 195) X38 hx (hb hby d2_194) rfl rfl rfl ?_
  refine Run.z_getF (q := 198) X38 hx hZ e38 hown (wm27 hw) F_this_units (hb hby d2_195) rfl fun T39 X39 e39 => ?_
  refine Run.x_iloadN (q := 199) X39 hx (hb hby d2_198) rfl rfl ?_
  refine Run.x_aloadN (q := 200) X39 hx (hb hby d2_199) rfl rfl rfl ?_
  refine Run.z_getF (q := 203) X39 hx hZ e39 hown (wm23 hw) F_this_forward (hb hby d2_200) rfl fun T40 X40 e40 => ?_
  refine Run.x_iloadN (q := 204) X40 hx (hb hby d2_203) rfl rfl ?_
  refine Run.y_ldI (q := 205) X40 hx hZ e40 A_b4 (i := 1) (v := (.int c0)) (by decide) rfl (hb hby d2_204) rfl ?_
  refine Run.x_i2c (q := 206) X40 hx (hb hby d2_205) (z := c0) (own_ic hr0) rfl ?_
  refine Run.y_stC (q := 207) X40 hx hZ e40 A_b20 (i := 0) (by decide) (Nat.le_of_ble_eq_true rfl) (z' := c0) (own_nr hr0) (hb hby d2_206) rfl fun T41 h41 X41 e41 W41 A41 => ?_
  replace A_b20 : Ars Z h41 b20 .char [(.int c0), (.int 0)] := A41
  have N41 := Fr.snoc X41 N33 g_b20
  have Z41 : n0 ≤ h41.size := Nat.le_trans Z31 (Nat.le_of_eq W41.size.symm)
  refine Run.x_aloadN (q := 208) X41 hx (hb hby d2_207) rfl rfl rfl ?_
  replace F_this_targets := F_this_targets.other W41 (Or.inl ne_this_b20)
  refine Run.z_getF (q := 211) X41 hx hZ e41 hown (wm29 hw) F_this_targets (hb hby d2_208) rfl fun T42 X42 e42 => ?_
  refine Run.x_iloadN (q := 212) X42 hx (hb hby d2_211) rfl rfl ?_
  refine Run.x_iinc (q := 215) X42 hx #[.val (.ref this), .val (.ref pat), .val (.int 1), .val (.int 1), .val (.int 2), .val (.int 0)] (hb hby d2_212) rfl (z := (1 : Int32)) (by decide) rfl rfl ?_
  refine Run.x_iloadN (q := 216) X42 hx (hb hby d2_215) rfl rfl ?_
  refine Run.x_iconst (q := 217) X42 hx (hb hby d2_216) (z := (1 : Int32)) rfl rfl ?_
  refine Run.x_iadd (q := 218) X42 hx (hb hby d2_217) (z := (2 : Int32)) (by decide) rfl ?_
  replace A_b23 := A_b23.other W41 (Ne.symm ne_b20_b23)
  refine Run.y_stI (q := 219) X42 hx hZ e42 A_b23 (i := 0) (by decide) (Nat.le_of_ble_eq_true rfl) (hb hby d2_218) rfl fun T43 h43 X43 e43 W43 A43 => ?_
  replace A_b23 : Ars Z h43 b23 .int [(.int 2), (.int 0)] := A43
  have N43 := Fr.snoc X43 N41 g_b23
  have Z43 : n0 ≤ h43.size := Nat.le_trans Z41 (Nat.le_of_eq W43.size.symm)
  refine Run.x_aloadN (q := 220) X43 hx (hb hby d2_219) rfl rfl rfl ?_
  replace F_this_rows := (F_this_rows.other W41 (Or.inl ne_this_b20)).other W43 (Or.inl ne_this_b23)
  refine Run.z_getF (q := 223) X43 hx hZ e43 hown (wm25 hw) F_this_rows (hb hby d2_220) rfl fun T44 X44 e44 => ?_
  refine Run.x_iload (q := 225) X44 hx (hb hby d2_223) rfl rfl ?_
  refine Run.x_iconst (q := 226) X44 hx (hb hby d2_225) (z := (1 : Int32)) rfl rfl ?_
  refine Run.x_iadd (q := 227) X44 hx (hb hby d2_226) (z := (3 : Int32)) (by decide) rfl ?_
  refine Run.x_iloadN (q := 228) X44 hx (hb hby d2_227) rfl rfl ?_
  replace A_b17 := (A_b17.other W41 ne_b17_b20).other W43 ne_b17_b23
  refine Run.y_stI (q := 229) X44 hx hZ e44 A_b17 (i := 3) (by decide) (Nat.le_of_ble_eq_true rfl) (hb hby d2_228) rfl fun T45 h45 X45 e45 W45 A45 => ?_
  replace A_b17 : Ars Z h45 b17 .int [(.int 0), (.int 0), (.int 0), (.int 1)] := A45
  have N45 := Fr.snoc X45 N43 g_b17
  have Z45 : n0 ≤ h45.size := Nat.le_trans Z43 (Nat.le_of_eq W45.size.symm)
  refine Run.x_iload (q := 231) X45 hx (hb hby d2_229) rfl rfl ?_
  refine Run.x_aloadN (q := 232) X45 hx (hb hby d2_231) rfl rfl rfl ?_
  replace F_this_length := ((F_this_length.other W41 (Or.inl ne_this_b20)).other W43 (Or.inl ne_this_b23)).other W45 (Or.inl ne_this_b17)
  refine Run.z_getF (q := 235) X45 hx hZ e45 hown (wm20 hw) F_this_length (hb hby d2_232) rfl fun T46 X46 e46 => ?_
  refine Run.x_icmpYes (q := 248) X46 hx (hb hby d2_235) (flt (by decide : ¬ ((2 : Int32) < (2 : Int32)))).2.1 (by decide) (by decide) ?_
  refine Run.x_iinc (q := 251) X46 hx #[.val (.ref this), .val (.ref pat), .val (.int 1), .val (.int 1), .val (.int 3), .val (.int 0)] (hb hby d2_248) rfl (z := (3 : Int32)) (by decide) rfl rfl ?_
  refine Run.x_goto (q := 96) X46 hx (hb hby d2_251) (by decide) (by decide) ?_
  refine Run.x_iload (q := 98) X46 hx (hb hby d2_96) rfl rfl ?_
  refine Run.x_aloadN (q := 99) X46 hx (hb hby d2_98) rfl rfl rfl ?_
  refine Run.z_getF (q := 102) X46 hx hZ e46 hown (wm20 hw) F_this_length (hb hby d2_99) rfl fun T47 X47 e47 => ?_
  refine Run.x_icmpYes (q := 254) X47 hx (hb hby d2_102) (tlt (by decide : (2 : Int32) < (3 : Int32))).2.2.1 (by decide) (by decide) ?_
  replace E_this := ((E_this.wr W41).wr W43).wr W45
  replace F_this_forward := ((F_this_forward.other W41 (Or.inl ne_this_b20)).other W43 (Or.inl ne_this_b23)).other W45 (Or.inl ne_this_b17)
  replace F_this_rows := F_this_rows.other W45 (Or.inl ne_this_b17)
  replace F_this_units := ((F_this_units.other W41 (Or.inl ne_this_b20)).other W43 (Or.inl ne_this_b23)).other W45 (Or.inl ne_this_b17)
  replace F_this_targets := (F_this_targets.other W43 (Or.inl ne_this_b23)).other W45 (Or.inl ne_this_b17)
  replace A_pat := ((A_pat.other W41 ne_pat_b20).other W43 ne_pat_b23).other W45 ne_pat_b17
  replace A_b4 := ((A_b4.other W41 ne_b4_b20).other W43 ne_b4_b23).other W45 ne_b4_b17
  replace A_b20 := (A_b20.other W43 ne_b20_b23).other W45 (Ne.symm ne_b17_b20)
  replace A_b23 := A_b23.other W45 (Ne.symm ne_b17_b23)
  refine Run.retV X47 hx hlk e47 hret (hb hby d2_254) (by decide) (by decide) ?_
  have R0 : own_rw 0 c0 [(0 : Int32), (0 : Int32), (0 : Int32), (1 : Int32)] [c0, (0 : Int32)] [(2 : Int32), (0 : Int32)] (fun u => (if c0 = u then (1 : Int32) else (0 : Int32))) := by
   refine ⟨0, 0, (0 : Int32), (0 : Int32), rfl, rfl, by decide, by decide, Nat.le_of_ble_eq_true rfl, Nat.le_of_ble_eq_true rfl, by decide, fun u hu => ?_⟩
   by_cases q_c0 : c0 = u
   ·subst q_c0
    exact Eq.trans (b := (1 : Int32)) (Eq.trans (own_next_p rfl) (by decide)) (Eq.symm (if_pos rfl))
   ·skip
    exact Eq.trans (b := (0 : Int32)) (Eq.trans (own_next_n (fun h => q_c0 h.symm)) (rfl)) (Eq.symm (Eq.trans (if_neg (fun h => q_c0 h)) (rfl)))
  have R1 : own_rw 1 c0 [(0 : Int32), (0 : Int32), (0 : Int32), (1 : Int32)] [c0, (0 : Int32)] [(2 : Int32), (0 : Int32)] (fun u => (if c0 = c0 ∧ c0 = u then (2 : Int32) else (if c0 = u then (1 : Int32) else (0 : Int32)))) := by
   refine ⟨0, 0, (0 : Int32), (0 : Int32), rfl, rfl, by decide, by decide, Nat.le_of_ble_eq_true rfl, Nat.le_of_ble_eq_true rfl, by decide, fun u hu => ?_⟩
   by_cases q_c0 : c0 = u
   ·subst q_c0
    exact Eq.trans (b := (2 : Int32)) (Eq.trans (own_next_p rfl) (by decide)) (Eq.symm (if_pos ⟨rfl, rfl⟩))
   ·skip
    exact Eq.trans (b := (0 : Int32)) (Eq.trans (own_next_n (fun h => q_c0 h.symm)) (rfl)) (Eq.symm (Eq.trans (if_neg (fun h => q_c0 h.2)) (Eq.trans (if_neg (fun h => q_c0 h)) (rfl))))
  have R2 : own_rw 2 (-1 : Int32) [(0 : Int32), (0 : Int32), (0 : Int32), (1 : Int32)] [c0, (0 : Int32)] [(2 : Int32), (0 : Int32)] (fun u => (if c0 = c0 ∧ c0 = u then (2 : Int32) else (if c0 = u then (1 : Int32) else (0 : Int32)))) := by
   refine ⟨0, 1, (0 : Int32), (1 : Int32), rfl, rfl, by decide, by decide, Nat.le_of_ble_eq_true rfl, Nat.le_of_ble_eq_true rfl, by decide, fun u hu => ?_⟩
   by_cases q_c0 : c0 = u
   ·subst q_c0
    exact Eq.trans (b := (2 : Int32)) (Eq.trans (own_next_n (own_nm1 hr0.1)) (own_look_p rfl)) (Eq.symm (if_pos ⟨rfl, rfl⟩))
   ·skip
    exact Eq.trans (b := (0 : Int32)) (Eq.trans (own_next_n (own_nm1 hu)) (Eq.trans (own_look_n q_c0) (rfl))) (Eq.symm (Eq.trans (if_neg (fun h => q_c0 h.2)) (Eq.trans (if_neg (fun h => q_c0 h)) (rfl))))
  exact ⟨b4, b17, b20, b23, [(0 : Int32), (0 : Int32), (0 : Int32), (1 : Int32)], [c0, (0 : Int32)], [(2 : Int32), (0 : Int32)], rfl, N45, E_this, F_this_forward, F_this_rows, F_this_units, F_this_targets, A_b4, A_b17, A_b20, A_b23, R0, R1, R2⟩
 ·skip
  refine Run.x_icmpNo (q := 194) X29 hx (hb hby d2_191) (feq hq_c0_c1).1 rfl ?_
  refine Run.x_aloadN (q := 195) X29 hx (hb hby d2_194) rfl rfl rfl ?_
  replace F_this_units := (F_this_units.ext E23).other W24 (Or.inr (slot_ne (Or.inr (wm28 hw)) (Or.inr (wm30 hw)) (by decide) (t := (.array .char)) (t' := (.array .int)) (by decide) (by decide)))
  refine Run.z_getF (q := 198) X29 hx hZ e29 hown (wm27 hw) F_this_units (hb hby d2_195) rfl fun T48 X48 e48 => ?_
  refine Run.x_iloadN (q := 199) X48 hx (hb hby d2_198) rfl rfl ?_
  refine Run.x_aloadN (q := 200) X48 hx (hb hby d2_199) rfl rfl rfl ?_
  refine Run.z_getF (q := 203) X48 hx hZ e48 hown (wm23 hw) F_this_forward (hb hby d2_200) rfl fun T49 X49 e49 => ?_
  refine Run.x_iloadN (q := 204) X49 hx (hb hby d2_203) rfl rfl ?_
  refine Run.y_ldI (q := 205) X49 hx hZ e49 A_b4 (i := 0) (v := (.int c0)) (by decide) rfl (hb hby d2_204) rfl ?_
  refine Run.x_i2c (q := 206) X49 hx (hb hby d2_205) (z := c0) (own_ic hr0) rfl ?_
  replace A_b20 := (A_b20.ext E23).other W24 (Ne.symm ne_this_b20)
  refine Run.y_stC (q := 207) X49 hx hZ e49 A_b20 (i := 0) (by decide) (Nat.le_of_ble_eq_true rfl) (z' := c0) (own_nr hr0) (hb hby d2_206) rfl fun T50 h50 X50 e50 W50 A50 => ?_
  replace A_b20 : Ars Z h50 b20 .char [(.int c0), (.int 0)] := A50
  have N50 := Fr.snoc X50 N24 g_b20
  have Z50 : n0 ≤ h50.size := Nat.le_trans Z24 (Nat.le_of_eq W50.size.symm)
  refine Run.x_aloadN (q := 208) X50 hx (hb hby d2_207) rfl rfl rfl ?_
  replace F_this_targets := F_this_targets.other W50 (Or.inl ne_this_b20)
  refine Run.z_getF (q := 211) X50 hx hZ e50 hown (wm29 hw) F_this_targets (hb hby d2_208) rfl fun T51 X51 e51 => ?_
  refine Run.x_iloadN (q := 212) X51 hx (hb hby d2_211) rfl rfl ?_
  refine Run.x_iinc (q := 215) X51 hx #[.val (.ref this), .val (.ref pat), .val (.int 1), .val (.int 0), .val (.int 1), .val (.int 0)] (hb hby d2_212) rfl (z := (1 : Int32)) (by decide) rfl rfl ?_
  refine Run.x_iloadN (q := 216) X51 hx (hb hby d2_215) rfl rfl ?_
  refine Run.x_iconst (q := 217) X51 hx (hb hby d2_216) (z := (1 : Int32)) rfl rfl ?_
  refine Run.x_iadd (q := 218) X51 hx (hb hby d2_217) (z := (1 : Int32)) (by decide) rfl ?_
  replace A_b23 := (A_b23.other W24 (Ne.symm ne_this_b23)).other W50 (Ne.symm ne_b20_b23)
  refine Run.y_stI (q := 219) X51 hx hZ e51 A_b23 (i := 0) (by decide) (Nat.le_of_ble_eq_true rfl) (hb hby d2_218) rfl fun T52 h52 X52 e52 W52 A52 => ?_
  replace A_b23 : Ars Z h52 b23 .int [(.int 1), (.int 0)] := A52
  have N52 := Fr.snoc X52 N50 g_b23
  have Z52 : n0 ≤ h52.size := Nat.le_trans Z50 (Nat.le_of_eq W52.size.symm)
  refine Run.x_aloadN (q := 220) X52 hx (hb hby d2_219) rfl rfl rfl ?_
  replace F_this_rows := (F_this_rows.other W50 (Or.inl ne_this_b20)).other W52 (Or.inl ne_this_b23)
  refine Run.z_getF (q := 223) X52 hx hZ e52 hown (wm25 hw) F_this_rows (hb hby d2_220) rfl fun T53 X53 e53 => ?_
  refine Run.x_iload (q := 225) X53 hx (hb hby d2_223) rfl rfl ?_
  refine Run.x_iconst (q := 226) X53 hx (hb hby d2_225) (z := (1 : Int32)) rfl rfl ?_
  refine Run.x_iadd (q := 227) X53 hx (hb hby d2_226) (z := (2 : Int32)) (by decide) rfl ?_
  refine Run.x_iloadN (q := 228) X53 hx (hb hby d2_227) rfl rfl ?_
  replace A_b17 := (A_b17.other W50 ne_b17_b20).other W52 ne_b17_b23
  refine Run.y_stI (q := 229) X53 hx hZ e53 A_b17 (i := 2) (by decide) (Nat.le_of_ble_eq_true rfl) (hb hby d2_228) rfl fun T54 h54 X54 e54 W54 A54 => ?_
  replace A_b17 : Ars Z h54 b17 .int [(.int 0), (.int 0), (.int 1), (.int 0)] := A54
  have N54 := Fr.snoc X54 N52 g_b17
  have Z54 : n0 ≤ h54.size := Nat.le_trans Z52 (Nat.le_of_eq W54.size.symm)
  refine Run.x_iload (q := 231) X54 hx (hb hby d2_229) rfl rfl ?_
  refine Run.x_aloadN (q := 232) X54 hx (hb hby d2_231) rfl rfl rfl ?_
  replace F_this_length := ((F_this_length.other W50 (Or.inl ne_this_b20)).other W52 (Or.inl ne_this_b23)).other W54 (Or.inl ne_this_b17)
  refine Run.z_getF (q := 235) X54 hx hZ e54 hown (wm20 hw) F_this_length (hb hby d2_232) rfl fun T55 X55 e55 => ?_
  refine Run.x_icmpNo (q := 238) X55 hx (hb hby d2_235) (tlt (by decide : (1 : Int32) < (2 : Int32))).2.1 rfl ?_
  refine Run.x_aloadN (q := 239) X55 hx (hb hby d2_238) rfl rfl rfl ?_
  refine Run.x_iloadN (q := 240) X55 hx (hb hby d2_239) rfl rfl ?_
  refine Run.x_aloadN (q := 241) X55 hx (hb hby d2_240) rfl rfl rfl ?_
  refine Run.x_iload (q := 243) X55 hx (hb hby d2_241) rfl rfl ?_
  replace A_pat := ((((A_pat.ext E23).other W24 (Ne.symm ne_this_pat)).other W50 ne_pat_b20).other W52 ne_pat_b23).other W54 ne_pat_b17
  refine Run.y_ldC (q := 244) X55 hx hZ e55 A_pat (i := 1) (v := (.int c1)) (by decide) rfl (hb hby d2_243) rfl ?_
  replace E_this := (((E_this.wr W24).wr W50).wr W52).wr W54
  replace F_this_forward := ((F_this_forward.other W50 (Or.inl ne_this_b20)).other W52 (Or.inl ne_this_b23)).other W54 (Or.inl ne_this_b17)
  replace F_this_rows := F_this_rows.other W54 (Or.inl ne_this_b17)
  replace F_this_units := ((F_this_units.other W50 (Or.inl ne_this_b20)).other W52 (Or.inl ne_this_b23)).other W54 (Or.inl ne_this_b17)
  replace F_this_targets := (F_this_targets.other W52 (Or.inl ne_this_b23)).other W54 (Or.inl ne_this_b17)
  replace A_b4 := ((A_b4.other W50 ne_b4_b20).other W52 ne_b4_b23).other W54 ne_b4_b17
  replace A_b20 := (A_b20.other W52 ne_b20_b23).other W54 (Ne.symm ne_b17_b20)
  replace A_b23 := A_b23.other W54 (Ne.symm ne_b17_b23)
  refine Run.callVI (q := 247) X55 hx hZ e55 (y := (⟨"needlewise/kmp/SparseAutomaton", "next", "(IC)I"⟩ : MethodName)) (z := (⟨"needlewise/kmp/SparseAutomaton", "next", "(IC)I"⟩ : MethodName)) hown (wm39 hw) (wm32 hw) (notFace_of_selects (args := #[]) (mvT hZ (wm34 hw))) (wm34 hw) (wm33 hw) (wm9 hw) (wm35 hw) (by decide) (a := this) E_this (argsL := [(.int 0), (.int c1)]) (rest := []) (c_next l Z a0 hw this (0 : Int32) c1 h54 n0 Z54 b4 b17 b20 b23 [(.int c0), (.int c1), (.int (-1))] [(.int 0), (.int 0), (.int 1), (.int 0)] [c0, (0 : Int32)] [(1 : Int32), (0 : Int32)] 0 0 0 c0 (0 : Int32) (0 : Int32) (0 : Int32) E_this F_this_forward F_this_rows F_this_units F_this_targets A_b4 A_b17 A_b20 A_b23 (by decide) (by decide) rfl rfl rfl (by decide) (by decide) (Nat.le_of_ble_eq_true rfl) (Nat.le_of_ble_eq_true rfl) (by decide) (Eq.trans (own_next_n (fun h => hq_c0_c1 h.symm)) (rfl))) pd_0 rfl (by rw [hml]; rfl) (W := 0) rfl (by decide) (by decide) (by decide) (by decide) (hb hby d2_244) rfl rfl fun T56 L56 X56 M56 e56 => ?_
  have N56 := Fr.app N54 M56
  refine Run.x_istoreN (q := 248) X56 hx #[.val (.ref this), .val (.ref pat), .val (.int 1), .val (.int 0), .val (.int 1), .val (.int 0)] (hb hby d2_247) rfl rfl ?_
  refine Run.x_iinc (q := 251) X56 hx #[.val (.ref this), .val (.ref pat), .val (.int 1), .val (.int 0), .val (.int 2), .val (.int 0)] (hb hby d2_248) rfl (z := (2 : Int32)) (by decide) rfl rfl ?_
  refine Run.x_goto (q := 96) X56 hx (hb hby d2_251) (by decide) (by decide) ?_
  refine Run.x_iload (q := 98) X56 hx (hb hby d2_96) rfl rfl ?_
  refine Run.x_aloadN (q := 99) X56 hx (hb hby d2_98) rfl rfl rfl ?_
  refine Run.z_getF (q := 102) X56 hx hZ e56 hown (wm20 hw) F_this_length (hb hby d2_99) rfl fun T57 X57 e57 => ?_
  refine Run.x_icmpNo (q := 105) X57 hx (hb hby d2_102) (flt (by decide : ¬ ((2 : Int32) < (2 : Int32)))).2.2.1 rfl ?_
  refine Run.x_aloadN (q := 106) X57 hx (hb hby d2_105) rfl rfl rfl ?_
  refine Run.z_getF (q := 109) X57 hx hZ e57 hown (wm25 hw) F_this_rows (hb hby d2_106) rfl fun T58 X58 e58 => ?_
  refine Run.x_iloadN (q := 110) X58 hx (hb hby d2_109) rfl rfl ?_
  refine Run.y_ldI (q := 111) X58 hx hZ e58 A_b17 (i := 0) (v := (.int 0)) (by decide) rfl (hb hby d2_110) rfl ?_
  refine Run.x_istore (q := 113) X58 hx #[.val (.ref this), .val (.ref pat), .val (.int 1), .val (.int 0), .val (.int 2), .val (.int 0)] (hb hby d2_111) rfl rfl ?_
  refine Run.x_iload (q := 115) X58 hx (hb hby d2_113) rfl rfl ?_
  refine Run.x_aloadN (q := 116) X58 hx (hb hby d2_115) rfl rfl rfl ?_
  refine Run.z_getF (q := 119) X58 hx hZ e58 hown (wm25 hw) F_this_rows (hb hby d2_116) rfl fun T59 X59 e59 => ?_
  refine Run.x_iloadN (q := 120) X59 hx (hb hby d2_119) rfl rfl ?_
  refine Run.x_iconst (q := 121) X59 hx (hb hby d2_120) (z := (1 : Int32)) rfl rfl ?_
  refine Run.x_iadd (q := 122) X59 hx (hb hby d2_121) (z := (1 : Int32)) (by decide) rfl ?_
  refine Run.y_ldI (q := 123) X59 hx hZ e59 A_b17 (i := 1) (v := (.int 0)) (by decide) rfl (hb hby d2_122) rfl ?_
  refine Run.x_icmpYes (q := 178) X59 hx (hb hby d2_123) (flt (by decide : ¬ ((0 : Int32) < (0 : Int32)))).2.1 (by decide) (by decide) ?_
  refine Run.x_aloadN (q := 179) X59 hx (hb hby d2_178) rfl rfl rfl ?_
  refine Run.z_getF (q := 182) X59 hx hZ e59 hown (wm23 hw) F_this_forward (hb hby d2_179) rfl fun T60 X60 e60 => ?_
  refine Run.x_iloadN (q := 183) X60 hx (hb hby d2_182) rfl rfl ?_
  refine Run.y_ldI (q := 184) X60 hx hZ e60 A_b4 (i := 0) (v := (.int c0)) (by decide) rfl (hb hby d2_183) rfl ?_
  refine Run.x_aloadN (q := 185) X60 hx (hb hby d2_184) rfl rfl rfl ?_
  refine Run.z_getF (q := 188) X60 hx hZ e60 hown (wm23 hw) F_this_forward (hb hby d2_185) rfl fun T61 X61 e61 => ?_
  refine Run.x_iload (q := 190) X61 hx (hb hby d2_188) rfl rfl ?_
  refine Run.y_ldI (q := 191) X61 hx hZ e61 A_b4 (i := 2) (v := (.int (-1))) (by decide) rfl (hb hby d2_190) rfl ?_
  refine Run.x_icmpNo (q := 194) X61 hx (hb hby d2_191) (feq (own_nm1 hr0.1)).1 rfl ?_
  refine Run.x_aloadN (q := 195) X61 hx (hb hby d2_194) rfl rfl rfl ?_
  refine Run.z_getF (q := 198) X61 hx hZ e61 hown (wm27 hw) F_this_units (hb hby d2_195) rfl fun T62 X62 e62 => ?_
  refine Run.x_iloadN (q := 199) X62 hx (hb hby d2_198) rfl rfl ?_
  refine Run.x_aloadN (q := 200) X62 hx (hb hby d2_199) rfl rfl rfl ?_
  refine Run.z_getF (q := 203) X62 hx hZ e62 hown (wm23 hw) F_this_forward (hb hby d2_200) rfl fun T63 X63 e63 => ?_
  refine Run.x_iloadN (q := 204) X63 hx (hb hby d2_203) rfl rfl ?_
  refine Run.y_ldI (q := 205) X63 hx hZ e63 A_b4 (i := 0) (v := (.int c0)) (by decide) rfl (hb hby d2_204) rfl ?_
  refine Run.x_i2c (q := 206) X63 hx (hb hby d2_205) (z := c0) (own_ic hr0) rfl ?_
  refine Run.y_stC (q := 207) X63 hx hZ e63 A_b20 (i := 1) (by decide) (Nat.le_of_ble_eq_true rfl) (z' := c0) (own_nr hr0) (hb hby d2_206) rfl fun T64 h64 X64 e64 W64 A64 => ?_
  replace A_b20 : Ars Z h64 b20 .char [(.int c0), (.int c0)] := A64
  have N64 := Fr.snoc X64 N56 g_b20
  have Z64 : n0 ≤ h64.size := Nat.le_trans Z54 (Nat.le_of_eq W64.size.symm)
  refine Run.x_aloadN (q := 208) X64 hx (hb hby d2_207) rfl rfl rfl ?_
  replace F_this_targets := F_this_targets.other W64 (Or.inl ne_this_b20)
  refine Run.z_getF (q := 211) X64 hx hZ e64 hown (wm29 hw) F_this_targets (hb hby d2_208) rfl fun T65 X65 e65 => ?_
  refine Run.x_iloadN (q := 212) X65 hx (hb hby d2_211) rfl rfl ?_
  refine Run.x_iinc (q := 215) X65 hx #[.val (.ref this), .val (.ref pat), .val (.int 2), .val (.int 0), .val (.int 2), .val (.int 0)] (hb hby d2_212) rfl (z := (2 : Int32)) (by decide) rfl rfl ?_
  refine Run.x_iloadN (q := 216) X65 hx (hb hby d2_215) rfl rfl ?_
  refine Run.x_iconst (q := 217) X65 hx (hb hby d2_216) (z := (1 : Int32)) rfl rfl ?_
  refine Run.x_iadd (q := 218) X65 hx (hb hby d2_217) (z := (1 : Int32)) (by decide) rfl ?_
  replace A_b23 := A_b23.other W64 (Ne.symm ne_b20_b23)
  refine Run.y_stI (q := 219) X65 hx hZ e65 A_b23 (i := 1) (by decide) (Nat.le_of_ble_eq_true rfl) (hb hby d2_218) rfl fun T66 h66 X66 e66 W66 A66 => ?_
  replace A_b23 : Ars Z h66 b23 .int [(.int 1), (.int 1)] := A66
  have N66 := Fr.snoc X66 N64 g_b23
  have Z66 : n0 ≤ h66.size := Nat.le_trans Z64 (Nat.le_of_eq W66.size.symm)
  refine Run.x_aloadN (q := 220) X66 hx (hb hby d2_219) rfl rfl rfl ?_
  replace F_this_rows := (F_this_rows.other W64 (Or.inl ne_this_b20)).other W66 (Or.inl ne_this_b23)
  refine Run.z_getF (q := 223) X66 hx hZ e66 hown (wm25 hw) F_this_rows (hb hby d2_220) rfl fun T67 X67 e67 => ?_
  refine Run.x_iload (q := 225) X67 hx (hb hby d2_223) rfl rfl ?_
  refine Run.x_iconst (q := 226) X67 hx (hb hby d2_225) (z := (1 : Int32)) rfl rfl ?_
  refine Run.x_iadd (q := 227) X67 hx (hb hby d2_226) (z := (3 : Int32)) (by decide) rfl ?_
  refine Run.x_iloadN (q := 228) X67 hx (hb hby d2_227) rfl rfl ?_
  replace A_b17 := (A_b17.other W64 ne_b17_b20).other W66 ne_b17_b23
  refine Run.y_stI (q := 229) X67 hx hZ e67 A_b17 (i := 3) (by decide) (Nat.le_of_ble_eq_true rfl) (hb hby d2_228) rfl fun T68 h68 X68 e68 W68 A68 => ?_
  replace A_b17 : Ars Z h68 b17 .int [(.int 0), (.int 0), (.int 1), (.int 2)] := A68
  have N68 := Fr.snoc X68 N66 g_b17
  have Z68 : n0 ≤ h68.size := Nat.le_trans Z66 (Nat.le_of_eq W68.size.symm)
  refine Run.x_iload (q := 231) X68 hx (hb hby d2_229) rfl rfl ?_
  refine Run.x_aloadN (q := 232) X68 hx (hb hby d2_231) rfl rfl rfl ?_
  replace F_this_length := ((F_this_length.other W64 (Or.inl ne_this_b20)).other W66 (Or.inl ne_this_b23)).other W68 (Or.inl ne_this_b17)
  refine Run.z_getF (q := 235) X68 hx hZ e68 hown (wm20 hw) F_this_length (hb hby d2_232) rfl fun T69 X69 e69 => ?_
  refine Run.x_icmpYes (q := 248) X69 hx (hb hby d2_235) (flt (by decide : ¬ ((2 : Int32) < (2 : Int32)))).2.1 (by decide) (by decide) ?_
  refine Run.x_iinc (q := 251) X69 hx #[.val (.ref this), .val (.ref pat), .val (.int 2), .val (.int 0), .val (.int 3), .val (.int 0)] (hb hby d2_248) rfl (z := (3 : Int32)) (by decide) rfl rfl ?_
  refine Run.x_goto (q := 96) X69 hx (hb hby d2_251) (by decide) (by decide) ?_
  refine Run.x_iload (q := 98) X69 hx (hb hby d2_96) rfl rfl ?_
  refine Run.x_aloadN (q := 99) X69 hx (hb hby d2_98) rfl rfl rfl ?_
  refine Run.z_getF (q := 102) X69 hx hZ e69 hown (wm20 hw) F_this_length (hb hby d2_99) rfl fun T70 X70 e70 => ?_
  refine Run.x_icmpYes (q := 254) X70 hx (hb hby d2_102) (tlt (by decide : (2 : Int32) < (3 : Int32))).2.2.1 (by decide) (by decide) ?_
  replace E_this := ((E_this.wr W64).wr W66).wr W68
  replace F_this_forward := ((F_this_forward.other W64 (Or.inl ne_this_b20)).other W66 (Or.inl ne_this_b23)).other W68 (Or.inl ne_this_b17)
  replace F_this_rows := F_this_rows.other W68 (Or.inl ne_this_b17)
  replace F_this_units := ((F_this_units.other W64 (Or.inl ne_this_b20)).other W66 (Or.inl ne_this_b23)).other W68 (Or.inl ne_this_b17)
  replace F_this_targets := (F_this_targets.other W66 (Or.inl ne_this_b23)).other W68 (Or.inl ne_this_b17)
  replace A_pat := ((A_pat.other W64 ne_pat_b20).other W66 ne_pat_b23).other W68 ne_pat_b17
  replace A_b4 := ((A_b4.other W64 ne_b4_b20).other W66 ne_b4_b23).other W68 ne_b4_b17
  replace A_b20 := (A_b20.other W66 ne_b20_b23).other W68 (Ne.symm ne_b17_b20)
  replace A_b23 := A_b23.other W68 (Ne.symm ne_b17_b23)
  refine Run.retV X70 hx hlk e70 hret (hb hby d2_254) (by decide) (by decide) ?_
  have R0 : own_rw 0 c0 [(0 : Int32), (0 : Int32), (1 : Int32), (2 : Int32)] [c0, c0] [(1 : Int32), (1 : Int32)] (fun u => (if c0 = u then (1 : Int32) else (0 : Int32))) := by
   refine ⟨0, 0, (0 : Int32), (0 : Int32), rfl, rfl, by decide, by decide, Nat.le_of_ble_eq_true rfl, Nat.le_of_ble_eq_true rfl, by decide, fun u hu => ?_⟩
   by_cases q_c0 : c0 = u
   ·subst q_c0
    exact Eq.trans (b := (1 : Int32)) (Eq.trans (own_next_p rfl) (by decide)) (Eq.symm (if_pos rfl))
   ·skip
    by_cases q_c1 : c1 = u
    ·subst q_c1
     exact Eq.trans (b := (0 : Int32)) (Eq.trans (own_next_n (fun h => hq_c0_c1 h.symm)) (rfl)) (Eq.symm (Eq.trans (if_neg (fun h => hq_c0_c1 h)) (rfl)))
    ·skip
     exact Eq.trans (b := (0 : Int32)) (Eq.trans (own_next_n (fun h => q_c0 h.symm)) (rfl)) (Eq.symm (Eq.trans (if_neg (fun h => q_c0 h)) (rfl)))
  have R1 : own_rw 1 c1 [(0 : Int32), (0 : Int32), (1 : Int32), (2 : Int32)] [c0, c0] [(1 : Int32), (1 : Int32)] (fun u => (if c0 = c0 ∧ c1 = u then (2 : Int32) else (if c0 = u then (1 : Int32) else (0 : Int32)))) := by
   refine ⟨0, 1, (0 : Int32), (1 : Int32), rfl, rfl, by decide, by decide, Nat.le_of_ble_eq_true rfl, Nat.le_of_ble_eq_true rfl, by decide, fun u hu => ?_⟩
   by_cases q_c0 : c0 = u
   ·subst q_c0
    exact Eq.trans (b := (1 : Int32)) (Eq.trans (own_next_n hq_c0_c1) (own_look_p rfl)) (Eq.symm (Eq.trans (if_neg (fun h => (fun h => hq_c0_c1 h.symm) h.2)) (if_pos rfl)))
   ·skip
    by_cases q_c1 : c1 = u
    ·subst q_c1
     exact Eq.trans (b := (2 : Int32)) (Eq.trans (own_next_p rfl) (by decide)) (Eq.symm (if_pos ⟨rfl, rfl⟩))
    ·skip
     exact Eq.trans (b := (0 : Int32)) (Eq.trans (own_next_n (fun h => q_c1 h.symm)) (Eq.trans (own_look_n q_c0) (rfl))) (Eq.symm (Eq.trans (if_neg (fun h => q_c1 h.2)) (Eq.trans (if_neg (fun h => q_c0 h)) (rfl))))
  have R2 : own_rw 2 (-1 : Int32) [(0 : Int32), (0 : Int32), (1 : Int32), (2 : Int32)] [c0, c0] [(1 : Int32), (1 : Int32)] (fun u => (if c0 = c1 ∧ c1 = u then (2 : Int32) else (if c0 = u then (1 : Int32) else (0 : Int32)))) := by
   refine ⟨1, 1, (1 : Int32), (2 : Int32), rfl, rfl, by decide, by decide, Nat.le_of_ble_eq_true rfl, Nat.le_of_ble_eq_true rfl, by decide, fun u hu => ?_⟩
   by_cases q_c0 : c0 = u
   ·subst q_c0
    exact Eq.trans (b := (1 : Int32)) (Eq.trans (own_next_n (own_nm1 hr0.1)) (own_look_p rfl)) (Eq.symm (Eq.trans (if_neg (fun h => hq_c0_c1 h.1)) (if_pos rfl)))
   ·skip
    by_cases q_c1 : c1 = u
    ·subst q_c1
     exact Eq.trans (b := (0 : Int32)) (Eq.trans (own_next_n (own_nm1 hr1.1)) (Eq.trans (own_look_n hq_c0_c1) (rfl))) (Eq.symm (Eq.trans (if_neg (fun h => hq_c0_c1 h.1)) (Eq.trans (if_neg (fun h => hq_c0_c1 h)) (rfl))))
    ·skip
     exact Eq.trans (b := (0 : Int32)) (Eq.trans (own_next_n (own_nm1 hu)) (Eq.trans (own_look_n q_c0) (rfl))) (Eq.symm (Eq.trans (if_neg (fun h => hq_c0_c1 h.1)) (Eq.trans (if_neg (fun h => q_c0 h)) (rfl))))
  exact ⟨b4, b17, b20, b23, [(0 : Int32), (0 : Int32), (1 : Int32), (2 : Int32)], [c0, c0], [(1 : Int32), (1 : Int32)], rfl, N68, E_this, F_this_forward, F_this_rows, F_this_units, F_this_targets, A_b4, A_b17, A_b20, A_b23, R0, R1, R2⟩
theorem ef_c_init3 (m : MethodId) (this : Addr) (pat : Addr) : entryFrame m #[(.ref this), (.ref pat)] 6 = mkF m 0 #[.val (.ref this), .val (.ref pat), .unset, .unset, .unset, .unset] [] := by first | (simp [entryFrame, mkF, argsToLocals, Value.category]; done) | rfl
set_option maxRecDepth 65536 in
set_option maxHeartbeats 40000000 in
theorem c_init3 (l : Launch) (Z : State) (a0 : Array Value) (hw : ∀ d ∈ tables_1, d.before a0 Z = true) (this : Addr) (pat : Addr) (h0 : Heap) (n0 : Nat) (Z0 : n0 ≤ h0.size) (c0 : Int32) (c1 : Int32) (c2 : Int32) (E_this : Exa Z h0 this "needlewise/kmp/SparseAutomaton") (F_this_length : Fld Z h0 this "needlewise/kmp/SparseAutomaton" "length" "I" (.int 0)) (F_this_forward : Fld Z h0 this "needlewise/kmp/SparseAutomaton" "forward" "[I" .null) (F_this_rows : Fld Z h0 this "needlewise/kmp/SparseAutomaton" "rows" "[I" .null) (F_this_units : Fld Z h0 this "needlewise/kmp/SparseAutomaton" "units" "[C" .null) (F_this_targets : Fld Z h0 this "needlewise/kmp/SparseAutomaton" "targets" "[I" .null) (A_pat : Ars Z h0 pat .char [(.int c0), (.int c1), (.int c2)]) (g_this : n0 ≤ this) (ne_this_pat : this ≠ pat) (hr0 : 0 ≤ c0.toInt ∧ c0.toInt < 65536) (hr1 : 0 ≤ c1.toInt ∧ c1.toInt < 65536) (hr2 : 0 ≤ c2.toInt ∧ c2.toInt < 65536) :
  Ctr l Z (⟨"needlewise/kmp/SparseAutomaton", "<init>", "([C)V"⟩ : MethodName) prog_24_method_1_code 6 none ({ frames := 1, cells := 4, slots := 15, locals := 15 } : Room) #[(.ref this), (.ref pat)] h0 (fun v h L => ∃ (fo ro uo to : Addr) (rw un tg : List Int32), v = none ∧ Fr n0 L ∧ Exa Z h this "needlewise/kmp/SparseAutomaton" ∧ Fld Z h this "needlewise/kmp/SparseAutomaton" "forward" "[I" (.ref fo) ∧ Fld Z h this "needlewise/kmp/SparseAutomaton" "rows" "[I" (.ref ro) ∧ Fld Z h this "needlewise/kmp/SparseAutomaton" "units" "[C" (.ref uo) ∧ Fld Z h this "needlewise/kmp/SparseAutomaton" "targets" "[I" (.ref to) ∧ Ars Z h fo .int [(.int c0), (.int c1), (.int c2), (.int (-1))] ∧ Ars Z h ro .int (rw.map Value.int) ∧ Ars Z h uo .char (un.map Value.int) ∧ Ars Z h to .int (tg.map Value.int) ∧ own_rw 0 c0 rw un tg (fun u => (if c0 = u then (1 : Int32) else (0 : Int32))) ∧ own_rw 1 c1 rw un tg (fun u => (if c0 = c0 ∧ c1 = u then (2 : Int32) else (if c0 = u then (1 : Int32) else (0 : Int32)))) ∧ own_rw 2 c2 rw un tg (fun u => (if c0 = c0 ∧ c1 = c1 ∧ c2 = u then (3 : Int32) else (if c0 = c1 ∧ c1 = u then (2 : Int32) else (if c0 = u then (1 : Int32) else (0 : Int32))))) ∧ own_rw 3 (-1 : Int32) rw un tg (fun u => (if c0 = c1 ∧ c1 = c2 ∧ c2 = u then (3 : Int32) else (if c0 = c2 ∧ c1 = u then (2 : Int32) else (if c0 = u then (1 : Int32) else (0 : Int32)))))) := by
 refine Ctr.of (plainFor_of_name pn_0) (fun m => ef_c_init3 m this pat) ?_
 intro p e s m below meth c T0 hx hby hml hown hnm hret hlk hZ e0 X0
 have N0 := Fr.nil n0
 replace hown : s.vm.findClass "needlewise/kmp/SparseAutomaton" = some m.cls := hown
 replace hml : c.maxLocals = 6 := hml
 refine Run.x_aloadN (q := 1) X0 hx (hb hby d2_0) rfl rfl rfl ?_
 refine Run.init X0 hx hZ e0 hown (wm17 hw) (wm18 hw) (wm19 hw) (by rw [hml]; rfl) (hb hby d2_1) (by decide) (W := 0) rfl (by decide) ?_
 intro T1 X1 e1
 show Run p e below s _ _ _ (T1.setTop (mkF m 4 #[.val (.ref this), .val (.ref pat), .unset, .unset, .unset, .unset] []))
 refine Run.x_aloadN (q := 5) X1 hx (hb hby d2_4) rfl rfl rfl ?_
 refine Run.x_aloadN (q := 6) X1 hx (hb hby d2_5) rfl rfl rfl ?_
 refine Run.y_alen (q := 7) X1 hx hZ e1 A_pat (z := (3 : Int32)) rfl (hb hby d2_6) rfl ?_
 obtain ⟨T2, h2, X2, e2, W2, st2⟩ := putF X1 hx hZ hown (host := "") (Or.inl (wm20 hw)) Via.refl e1 F_this_length E_this (Or.inr ⟨(wm21 hw), rfl, hnm⟩) (wm8 hw) (ty := .int) (by decide) rfl rfl (g := (mkF m 7 #[.val (.ref this), .val (.ref pat), .unset, .unset, .unset, .unset] [(.int 3), (.ref this)])) rfl rfl (hb hby d2_7)
 replace F_this_length := F_this_length.same W2
 have Z2 : n0 ≤ h2.size := Nat.le_trans Z0 (Nat.le_of_eq W2.size.symm)
 have N2 := Fr.snoc X2 N0 g_this
 refine Run.st st2 ?_
 show Run p e below s _ _ _ (T2.setTop (mkF m 10 #[.val (.ref this), .val (.ref pat), .unset, .unset, .unset, .unset] []))
 refine Run.x_aloadN (q := 11) X2 hx (hb hby d2_10) rfl rfl rfl ?_
 refine Run.x_aloadN (q := 12) X2 hx (hb hby d2_11) rfl rfl rfl ?_
 refine Run.z_getF (q := 15) X2 hx hZ e2 hown (wm20 hw) F_this_length (hb hby d2_12) rfl fun T3 X3 e3 => ?_
 refine Run.x_iconst (q := 16) X3 hx (hb hby d2_15) (z := (1 : Int32)) rfl rfl ?_
 refine Run.x_iadd (q := 17) X3 hx (hb hby d2_16) (z := (4 : Int32)) (by decide) rfl ?_
 refine Run.newP (aty := .int) X3 hx hZ e3 (wm22 hw) (hb hby d2_17) (len := 4) (by decide) (by decide) (cap := 4) (by decide) (by decide) (by decide) (by decide) ?_
 intro T4 h4 b4 gg4 X4 e4 E4 A_b4
 have g_b4 : n0 ≤ b4 := Nat.le_trans Z2 (Nat.le_of_eq gg4.symm)
 replace E_this := E_this.wr W2
 have ne_this_b4 : this ≠ b4 := Nat.ne_of_lt (Nat.lt_of_lt_of_le E_this.lt (Nat.le_of_eq gg4.symm))
 replace A_pat := A_pat.other W2 (Ne.symm ne_this_pat)
 have ne_pat_b4 : pat ≠ b4 := Nat.ne_of_lt (Nat.lt_of_lt_of_le A_pat.lt (Nat.le_of_eq gg4.symm))
 have Z4 : n0 ≤ h4.size := Nat.le_trans Z2 E4.1
 replace A_b4 : Ars Z h4 b4 .int [(.int 0), (.int 0), (.int 0), (.int 0)] := A_b4
 show Run p e below s _ _ _ (T4.setTop (mkF m 19 #[.val (.ref this), .val (.ref pat), .unset, .unset, .unset, .unset] [(.ref b4), (.ref this)]))
 replace F_this_forward := (F_this_forward.other W2 (Or.inr (slot_ne (Or.inr (wm24 hw)) (Or.inr (wm21 hw)) (by decide) (t := (.array .int)) (t' := .int) (by decide) (by decide)))).ext E4
 replace E_this := E_this.ext E4
 obtain ⟨T5, h5, X5, e5, W5, st5⟩ := putF X4 hx hZ hown (host := "") (Or.inl (wm23 hw)) Via.refl e4 F_this_forward E_this (Or.inr ⟨(wm24 hw), rfl, hnm⟩) (wm8 hw) (ty := (.array .int)) (by decide) rfl rfl (g := (mkF m 19 #[.val (.ref this), .val (.ref pat), .unset, .unset, .unset, .unset] [(.ref b4), (.ref this)])) rfl rfl (hb hby d2_19)
 replace F_this_forward := F_this_forward.same W5
 have Z5 : n0 ≤ h5.size := Nat.le_trans Z4 (Nat.le_of_eq W5.size.symm)
 have N5 := Fr.snoc X5 N2 g_this
 refine Run.st st5 ?_
 show Run p e below s _ _ _ (T5.setTop (mkF m 22 #[.val (.ref this), .val (.ref pat), .unset, .unset, .unset, .unset] []))
 refine Run.x_iconst (q := 23) X5 hx (hb hby d2_22) (z := (0 : Int32)) rfl rfl ?_
 refine Run.x_istoreN (q := 24) X5 hx #[.val (.ref this), .val (.ref pat), .val (.int 0), .unset, .unset, .unset] (hb hby d2_23) rfl rfl ?_
 refine Run.x_iloadN (q := 25) X5 hx (hb hby d2_24) rfl rfl ?_
 refine Run.x_aloadN (q := 26) X5 hx (hb hby d2_25) rfl rfl rfl ?_
 replace F_this_length := (F_this_length.ext E4).other W5 (Or.inr (slot_ne (Or.inr (wm21 hw)) (Or.inr (wm24 hw)) (by decide) (t := .int) (t' := (.array .int)) (by decide) (by decide)))
 refine Run.z_getF (q := 29) X5 hx hZ e5 hown (wm20 hw) F_this_length (hb hby d2_26) rfl fun T6 X6 e6 => ?_
 refine Run.x_icmpNo (q := 32) X6 hx (hb hby d2_29) (tlt (by decide : (0 : Int32) < (3 : Int32))).2.1 rfl ?_
 refine Run.x_aloadN (q := 33) X6 hx (hb hby d2_32) rfl rfl rfl ?_
 refine Run.z_getF (q := 36) X6 hx hZ e6 hown (wm23 hw) F_this_forward (hb hby d2_33) rfl fun T7 X7 e7 => ?_
 refine Run.x_iloadN (q := 37) X7 hx (hb hby d2_36) rfl rfl ?_
 refine Run.x_aloadN (q := 38) X7 hx (hb hby d2_37) rfl rfl rfl ?_
 refine Run.x_iloadN (q := 39) X7 hx (hb hby d2_38) rfl rfl ?_
 replace A_pat := (A_pat.ext E4).other W5 (Ne.symm ne_this_pat)
 refine Run.y_ldC (q := 40) X7 hx hZ e7 A_pat (i := 0) (v := (.int c0)) (by decide) rfl (hb hby d2_39) rfl ?_
 replace A_b4 := A_b4.other W5 (Ne.symm ne_this_b4)
 refine Run.y_stI (q := 41) X7 hx hZ e7 A_b4 (i := 0) (by decide) (Nat.le_of_ble_eq_true rfl) (hb hby d2_40) rfl fun T8 h8 X8 e8 W8 A8 => ?_
 replace A_b4 : Ars Z h8 b4 .int [(.int c0), (.int 0), (.int 0), (.int 0)] := A8
 have N8 := Fr.snoc X8 N5 g_b4
 have Z8 : n0 ≤ h8.size := Nat.le_trans Z5 (Nat.le_of_eq W8.size.symm)
 refine Run.x_iinc (q := 44) X8 hx #[.val (.ref this), .val (.ref pat), .val (.int 1), .unset, .unset, .unset] (hb hby d2_41) rfl (z := (1 : Int32)) (by decide) rfl rfl ?_
 refine Run.x_goto (q := 24) X8 hx (hb hby d2_44) (by decide) (by decide) ?_
 refine Run.x_iloadN (q := 25) X8 hx (hb hby d2_24) rfl rfl ?_
 refine Run.x_aloadN (q := 26) X8 hx (hb hby d2_25) rfl rfl rfl ?_
 replace F_this_length := F_this_length.other W8 (Or.inl ne_this_b4)
 refine Run.z_getF (q := 29) X8 hx hZ e8 hown (wm20 hw) F_this_length (hb hby d2_26) rfl fun T9 X9 e9 => ?_
 refine Run.x_icmpNo (q := 32) X9 hx (hb hby d2_29) (tlt (by decide : (1 : Int32) < (3 : Int32))).2.1 rfl ?_
 refine Run.x_aloadN (q := 33) X9 hx (hb hby d2_32) rfl rfl rfl ?_
 replace F_this_forward := F_this_forward.other W8 (Or.inl ne_this_b4)
 refine Run.z_getF (q := 36) X9 hx hZ e9 hown (wm23 hw) F_this_forward (hb hby d2_33) rfl fun T10 X10 e10 => ?_
 refine Run.x_iloadN (q := 37) X10 hx (hb hby d2_36) rfl rfl ?_
 refine Run.x_aloadN (q := 38) X10 hx (hb hby d2_37) rfl rfl rfl ?_
 refine Run.x_iloadN (q := 39) X10 hx (hb hby d2_38) rfl rfl ?_
 replace A_pat := A_pat.other W8 ne_pat_b4
 refine Run.y_ldC (q := 40) X10 hx hZ e10 A_pat (i := 1) (v := (.int c1)) (by decide) rfl (hb hby d2_39) rfl ?_
 refine Run.y_stI (q := 41) X10 hx hZ e10 A_b4 (i := 1) (by decide) (Nat.le_of_ble_eq_true rfl) (hb hby d2_40) rfl fun T11 h11 X11 e11 W11 A11 => ?_
 replace A_b4 : Ars Z h11 b4 .int [(.int c0), (.int c1), (.int 0), (.int 0)] := A11
 have N11 := Fr.snoc X11 N8 g_b4
 have Z11 : n0 ≤ h11.size := Nat.le_trans Z8 (Nat.le_of_eq W11.size.symm)
 refine Run.x_iinc (q := 44) X11 hx #[.val (.ref this), .val (.ref pat), .val (.int 2), .unset, .unset, .unset] (hb hby d2_41) rfl (z := (2 : Int32)) (by decide) rfl rfl ?_
 refine Run.x_goto (q := 24) X11 hx (hb hby d2_44) (by decide) (by decide) ?_
 refine Run.x_iloadN (q := 25) X11 hx (hb hby d2_24) rfl rfl ?_
 refine Run.x_aloadN (q := 26) X11 hx (hb hby d2_25) rfl rfl rfl ?_
 replace F_this_length := F_this_length.other W11 (Or.inl ne_this_b4)
 refine Run.z_getF (q := 29) X11 hx hZ e11 hown (wm20 hw) F_this_length (hb hby d2_26) rfl fun T12 X12 e12 => ?_
 refine Run.x_icmpNo (q := 32) X12 hx (hb hby d2_29) (tlt (by decide : (2 : Int32) < (3 : Int32))).2.1 rfl ?_
 refine Run.x_aloadN (q := 33) X12 hx (hb hby d2_32) rfl rfl rfl ?_
 replace F_this_forward := F_this_forward.other W11 (Or.inl ne_this_b4)
 refine Run.z_getF (q := 36) X12 hx hZ e12 hown (wm23 hw) F_this_forward (hb hby d2_33) rfl fun T13 X13 e13 => ?_
 refine Run.x_iloadN (q := 37) X13 hx (hb hby d2_36) rfl rfl ?_
 refine Run.x_aloadN (q := 38) X13 hx (hb hby d2_37) rfl rfl rfl ?_
 refine Run.x_iloadN (q := 39) X13 hx (hb hby d2_38) rfl rfl ?_
 replace A_pat := A_pat.other W11 ne_pat_b4
 refine Run.y_ldC (q := 40) X13 hx hZ e13 A_pat (i := 2) (v := (.int c2)) (by decide) rfl (hb hby d2_39) rfl ?_
 refine Run.y_stI (q := 41) X13 hx hZ e13 A_b4 (i := 2) (by decide) (Nat.le_of_ble_eq_true rfl) (hb hby d2_40) rfl fun T14 h14 X14 e14 W14 A14 => ?_
 replace A_b4 : Ars Z h14 b4 .int [(.int c0), (.int c1), (.int c2), (.int 0)] := A14
 have N14 := Fr.snoc X14 N11 g_b4
 have Z14 : n0 ≤ h14.size := Nat.le_trans Z11 (Nat.le_of_eq W14.size.symm)
 refine Run.x_iinc (q := 44) X14 hx #[.val (.ref this), .val (.ref pat), .val (.int 3), .unset, .unset, .unset] (hb hby d2_41) rfl (z := (3 : Int32)) (by decide) rfl rfl ?_
 refine Run.x_goto (q := 24) X14 hx (hb hby d2_44) (by decide) (by decide) ?_
 refine Run.x_iloadN (q := 25) X14 hx (hb hby d2_24) rfl rfl ?_
 refine Run.x_aloadN (q := 26) X14 hx (hb hby d2_25) rfl rfl rfl ?_
 replace F_this_length := F_this_length.other W14 (Or.inl ne_this_b4)
 refine Run.z_getF (q := 29) X14 hx hZ e14 hown (wm20 hw) F_this_length (hb hby d2_26) rfl fun T15 X15 e15 => ?_
 refine Run.x_icmpYes (q := 47) X15 hx (hb hby d2_29) (flt (by decide : ¬ ((3 : Int32) < (3 : Int32)))).2.1 (by decide) (by decide) ?_
 refine Run.x_aloadN (q := 48) X15 hx (hb hby d2_47) rfl rfl rfl ?_
 replace F_this_forward := F_this_forward.other W14 (Or.inl ne_this_b4)
 refine Run.z_getF (q := 51) X15 hx hZ e15 hown (wm23 hw) F_this_forward (hb hby d2_48) rfl fun T16 X16 e16 => ?_
 refine Run.x_aloadN (q := 52) X16 hx (hb hby d2_51) rfl rfl rfl ?_
 refine Run.z_getF (q := 55) X16 hx hZ e16 hown (wm20 hw) F_this_length (hb hby d2_52) rfl fun T17 X17 e17 => ?_
 refine Run.x_iconst (q := 56) X17 hx (hb hby d2_55) (z := (-1 : Int32)) rfl rfl ?_
 refine Run.y_stI (q := 57) X17 hx hZ e17 A_b4 (i := 3) (by decide) (Nat.le_of_ble_eq_true rfl) (hb hby d2_56) rfl fun T18 h18 X18 e18 W18 A18 => ?_
 replace A_b4 : Ars Z h18 b4 .int [(.int c0), (.int c1), (.int c2), (.int (-1))] := A18
 have N18 := Fr.snoc X18 N14 g_b4
 have Z18 : n0 ≤ h18.size := Nat.le_trans Z14 (Nat.le_of_eq W18.size.symm)
 refine Run.x_aloadN (q := 58) X18 hx (hb hby d2_57) rfl rfl rfl ?_
 refine Run.x_aloadN (q := 59) X18 hx (hb hby d2_58) rfl rfl rfl ?_
 replace F_this_length := F_this_length.other W18 (Or.inl ne_this_b4)
 refine Run.z_getF (q := 62) X18 hx hZ e18 hown (wm20 hw) F_this_length (hb hby d2_59) rfl fun T19 X19 e19 => ?_
 refine Run.x_iconst (q := 63) X19 hx (hb hby d2_62) (z := (2 : Int32)) rfl rfl ?_
 refine Run.x_iadd (q := 64) X19 hx (hb hby d2_63) (z := (5 : Int32)) (by decide) rfl ?_
 refine Run.newP (aty := .int) X19 hx hZ e19 (wm22 hw) (hb hby d2_64) (len := 5) (by decide) (by decide) (cap := 5) (by decide) (by decide) (by decide) (by decide) ?_
 intro T20 h20 b20 gg20 X20 e20 E20 A_b20
 have g_b20 : n0 ≤ b20 := Nat.le_trans Z18 (Nat.le_of_eq gg20.symm)
 replace E_this := ((((E_this.wr W5).wr W8).wr W11).wr W14).wr W18
 have ne_this_b20 : this ≠ b20 := Nat.ne_of_lt (Nat.lt_of_lt_of_le E_this.lt (Nat.le_of_eq gg20.symm))
 replace A_pat := (A_pat.other W14 ne_pat_b4).other W18 ne_pat_b4
 have ne_pat_b20 : pat ≠ b20 := Nat.ne_of_lt (Nat.lt_of_lt_of_le A_pat.lt (Nat.le_of_eq gg20.symm))
 have ne_b4_b20 : b4 ≠ b20 := Nat.ne_of_lt (Nat.lt_of_lt_of_le A_b4.lt (Nat.le_of_eq gg20.symm))
 have Z20 : n0 ≤ h20.size := Nat.le_trans Z18 E20.1
 replace A_b20 : Ars Z h20 b20 .int [(.int 0), (.int 0), (.int 0), (.int 0), (.int 0)] := A_b20
 show Run p e below s _ _ _ (T20.setTop (mkF m 66 #[.val (.ref this), .val (.ref pat), .val (.int 3), .unset, .unset, .unset] [(.ref b20), (.ref this)]))
 replace F_this_rows := (((((((F_this_rows.other W2 (Or.inr (slot_ne (Or.inr (wm26 hw)) (Or.inr (wm21 hw)) (by decide) (t := (.array .int)) (t' := .int) (by decide) (by decide)))).ext E4).other W5 (Or.inr (slot_ne (Or.inr (wm26 hw)) (Or.inr (wm24 hw)) (by decide) (t := (.array .int)) (t' := (.array .int)) (by decide) (by decide)))).other W8 (Or.inl ne_this_b4)).other W11 (Or.inl ne_this_b4)).other W14 (Or.inl ne_this_b4)).other W18 (Or.inl ne_this_b4)).ext E20
 replace E_this := E_this.ext E20
 obtain ⟨T21, h21, X21, e21, W21, st21⟩ := putF X20 hx hZ hown (host := "") (Or.inl (wm25 hw)) Via.refl e20 F_this_rows E_this (Or.inr ⟨(wm26 hw), rfl, hnm⟩) (wm8 hw) (ty := (.array .int)) (by decide) rfl rfl (g := (mkF m 66 #[.val (.ref this), .val (.ref pat), .val (.int 3), .unset, .unset, .unset] [(.ref b20), (.ref this)])) rfl rfl (hb hby d2_66)
 replace F_this_rows := F_this_rows.same W21
 have Z21 : n0 ≤ h21.size := Nat.le_trans Z20 (Nat.le_of_eq W21.size.symm)
 have N21 := Fr.snoc X21 N18 g_this
 refine Run.st st21 ?_
 show Run p e below s _ _ _ (T21.setTop (mkF m 69 #[.val (.ref this), .val (.ref pat), .val (.int 3), .unset, .unset, .unset] []))
 refine Run.x_aloadN (q := 70) X21 hx (hb hby d2_69) rfl rfl rfl ?_
 refine Run.x_aloadN (q := 71) X21 hx (hb hby d2_70) rfl rfl rfl ?_
 replace F_this_length := (F_this_length.ext E20).other W21 (Or.inr (slot_ne (Or.inr (wm21 hw)) (Or.inr (wm26 hw)) (by decide) (t := .int) (t' := (.array .int)) (by decide) (by decide)))
 refine Run.z_getF (q := 74) X21 hx hZ e21 hown (wm20 hw) F_this_length (hb hby d2_71) rfl fun T22 X22 e22 => ?_
 refine Run.newP (aty := .char) X22 hx hZ e22 (wm2 hw) (hb hby d2_74) (len := 3) (by decide) (by decide) (cap := 3) (by decide) (by decide) (by decide) (by decide) ?_
 intro T23 h23 b23 gg23 X23 e23 E23 A_b23
 have g_b23 : n0 ≤ b23 := Nat.le_trans Z21 (Nat.le_of_eq gg23.symm)
 replace E_this := E_this.wr W21
 have ne_this_b23 : this ≠ b23 := Nat.ne_of_lt (Nat.lt_of_lt_of_le E_this.lt (Nat.le_of_eq gg23.symm))
 replace A_pat := (A_pat.ext E20).other W21 (Ne.symm ne_this_pat)
 have ne_pat_b23 : pat ≠ b23 := Nat.ne_of_lt (Nat.lt_of_lt_of_le A_pat.lt (Nat.le_of_eq gg23.symm))
 replace A_b4 := (A_b4.ext E20).other W21 (Ne.symm ne_this_b4)
 have ne_b4_b23 : b4 ≠ b23 := Nat.ne_of_lt (Nat.lt_of_lt_of_le A_b4.lt (Nat.le_of_eq gg23.symm))
 replace A_b20 := A_b20.other W21 (Ne.symm ne_this_b20)
 have ne_b20_b23 : b20 ≠ b23 := Nat.ne_of_lt (Nat.lt_of_lt_of_le A_b20.lt (Nat.le_of_eq gg23.symm))
 have Z23 : n0 ≤ h23.size := Nat.le_trans Z21 E23.1
 replace A_b23 : Ars Z h23 b23 .char [(.int 0), (.int 0), (.int 0)] := A_b23
 show Run p e below s _ _ _ (T23.setTop (mkF m 76 #[.val (.ref this), .val (.ref pat), .val (.int 3), .unset, .unset, .unset] [(.ref b23), (.ref this)]))
 replace F_this_units := (((((((((F_this_units.other W2 (Or.inr (slot_ne (Or.inr (wm28 hw)) (Or.inr (wm21 hw)) (by decide) (t := (.array .char)) (t' := .int) (by decide) (by decide)))).ext E4).other W5 (Or.inr (slot_ne (Or.inr (wm28 hw)) (Or.inr (wm24 hw)) (by decide) (t := (.array .char)) (t' := (.array .int)) (by decide) (by decide)))).other W8 (Or.inl ne_this_b4)).other W11 (Or.inl ne_this_b4)).other W14 (Or.inl ne_this_b4)).other W18 (Or.inl ne_this_b4)).ext E20).other W21 (Or.inr (slot_ne (Or.inr (wm28 hw)) (Or.inr (wm26 hw)) (by decide) (t := (.array .char)) (t' := (.array .int)) (by decide) (by decide)))).ext E23
 replace E_this := E_this.ext E23
 obtain ⟨T24, h24, X24, e24, W24, st24⟩ := putF X23 hx hZ hown (host := "") (Or.inl (wm27 hw)) Via.refl e23 F_this_units E_this (Or.inr ⟨(wm28 hw), rfl, hnm⟩) (wm8 hw) (ty := (.array .char)) (by decide) rfl rfl (g := (mkF m 76 #[.val (.ref this), .val (.ref pat), .val (.int 3), .unset, .unset, .unset] [(.ref b23), (.ref this)])) rfl rfl (hb hby d2_76)
 replace F_this_units := F_this_units.same W24
 have Z24 : n0 ≤ h24.size := Nat.le_trans Z23 (Nat.le_of_eq W24.size.symm)
 have N24 := Fr.snoc X24 N21 g_this
 refine Run.st st24 ?_
 show Run p e below s _ _ _ (T24.setTop (mkF m 79 #[.val (.ref this), .val (.ref pat), .val (.int 3), .unset, .unset, .unset] []))
 refine Run.x_aloadN (q := 80) X24 hx (hb hby d2_79) rfl rfl rfl ?_
 refine Run.x_aloadN (q := 81) X24 hx (hb hby d2_80) rfl rfl rfl ?_
 replace F_this_length := (F_this_length.ext E23).other W24 (Or.inr (slot_ne (Or.inr (wm21 hw)) (Or.inr (wm28 hw)) (by decide) (t := .int) (t' := (.array .char)) (by decide) (by decide)))
 refine Run.z_getF (q := 84) X24 hx hZ e24 hown (wm20 hw) F_this_length (hb hby d2_81) rfl fun T25 X25 e25 => ?_
 refine Run.newP (aty := .int) X25 hx hZ e25 (wm22 hw) (hb hby d2_84) (len := 3) (by decide) (by decide) (cap := 3) (by decide) (by decide) (by decide) (by decide) ?_
 intro T26 h26 b26 gg26 X26 e26 E26 A_b26
 have g_b26 : n0 ≤ b26 := Nat.le_trans Z24 (Nat.le_of_eq gg26.symm)
 replace E_this := E_this.wr W24
 have ne_this_b26 : this ≠ b26 := Nat.ne_of_lt (Nat.lt_of_lt_of_le E_this.lt (Nat.le_of_eq gg26.symm))
 replace A_pat := (A_pat.ext E23).other W24 (Ne.symm ne_this_pat)
 have ne_pat_b26 : pat ≠ b26 := Nat.ne_of_lt (Nat.lt_of_lt_of_le A_pat.lt (Nat.le_of_eq gg26.symm))
 replace A_b4 := (A_b4.ext E23).other W24 (Ne.symm ne_this_b4)
 have ne_b4_b26 : b4 ≠ b26 := Nat.ne_of_lt (Nat.lt_of_lt_of_le A_b4.lt (Nat.le_of_eq gg26.symm))
 replace A_b20 := (A_b20.ext E23).other W24 (Ne.symm ne_this_b20)
 have ne_b20_b26 : b20 ≠ b26 := Nat.ne_of_lt (Nat.lt_of_lt_of_le A_b20.lt (Nat.le_of_eq gg26.symm))
 replace A_b23 := A_b23.other W24 (Ne.symm ne_this_b23)
 have ne_b23_b26 : b23 ≠ b26 := Nat.ne_of_lt (Nat.lt_of_lt_of_le A_b23.lt (Nat.le_of_eq gg26.symm))
 have Z26 : n0 ≤ h26.size := Nat.le_trans Z24 E26.1
 replace A_b26 : Ars Z h26 b26 .int [(.int 0), (.int 0), (.int 0)] := A_b26
 show Run p e below s _ _ _ (T26.setTop (mkF m 86 #[.val (.ref this), .val (.ref pat), .val (.int 3), .unset, .unset, .unset] [(.ref b26), (.ref this)]))
 replace F_this_targets := (((((((((((F_this_targets.other W2 (Or.inr (slot_ne (Or.inr (wm30 hw)) (Or.inr (wm21 hw)) (by decide) (t := (.array .int)) (t' := .int) (by decide) (by decide)))).ext E4).other W5 (Or.inr (slot_ne (Or.inr (wm30 hw)) (Or.inr (wm24 hw)) (by decide) (t := (.array .int)) (t' := (.array .int)) (by decide) (by decide)))).other W8 (Or.inl ne_this_b4)).other W11 (Or.inl ne_this_b4)).other W14 (Or.inl ne_this_b4)).other W18 (Or.inl ne_this_b4)).ext E20).other W21 (Or.inr (slot_ne (Or.inr (wm30 hw)) (Or.inr (wm26 hw)) (by decide) (t := (.array .int)) (t' := (.array .int)) (by decide) (by decide)))).ext E23).other W24 (Or.inr (slot_ne (Or.inr (wm30 hw)) (Or.inr (wm28 hw)) (by decide) (t := (.array .int)) (t' := (.array .char)) (by decide) (by decide)))).ext E26
 replace E_this := E_this.ext E26
 obtain ⟨T27, h27, X27, e27, W27, st27⟩ := putF X26 hx hZ hown (host := "") (Or.inl (wm29 hw)) Via.refl e26 F_this_targets E_this (Or.inr ⟨(wm30 hw), rfl, hnm⟩) (wm8 hw) (ty := (.array .int)) (by decide) rfl rfl (g := (mkF m 86 #[.val (.ref this), .val (.ref pat), .val (.int 3), .unset, .unset, .unset] [(.ref b26), (.ref this)])) rfl rfl (hb hby d2_86)
 replace F_this_targets := F_this_targets.same W27
 have Z27 : n0 ≤ h27.size := Nat.le_trans Z26 (Nat.le_of_eq W27.size.symm)
 have N27 := Fr.snoc X27 N24 g_this
 refine Run.st st27 ?_
 show Run p e below s _ _ _ (T27.setTop (mkF m 89 #[.val (.ref this), .val (.ref pat), .val (.int 3), .unset, .unset, .unset] []))
 refine Run.x_iconst (q := 90) X27 hx (hb hby d2_89) (z := (0 : Int32)) rfl rfl ?_
 refine Run.x_istoreN (q := 91) X27 hx #[.val (.ref this), .val (.ref pat), .val (.int 0), .unset, .unset, .unset] (hb hby d2_90) rfl rfl ?_
 refine Run.x_iconst (q := 92) X27 hx (hb hby d2_91) (z := (0 : Int32)) rfl rfl ?_
 refine Run.x_istoreN (q := 93) X27 hx #[.val (.ref this), .val (.ref pat), .val (.int 0), .val (.int 0), .unset, .unset] (hb hby d2_92) rfl rfl ?_
 refine Run.x_iconst (q := 94) X27 hx (hb hby d2_93) (z := (1 : Int32)) rfl rfl ?_
 refine Run.x_istore (q := 96) X27 hx #[.val (.ref this), .val (.ref pat), .val (.int 0), .val (.int 0), .val (.int 1), .unset] (hb hby d2_94) rfl rfl ?_
 refine Run.x_iload (q := 98) X27 hx (hb hby d2_96) rfl rfl ?_
 refine Run.x_aloadN (q := 99) X27 hx (hb hby d2_98) rfl rfl rfl ?_
 replace F_this_length := (F_this_length.ext E26).other W27 (Or.inr (slot_ne (Or.inr (wm21 hw)) (Or.inr (wm30 hw)) (by decide) (t := .int) (t' := (.array .int)) (by decide) (by decide)))
 refine Run.z_getF (q := 102) X27 hx hZ e27 hown (wm20 hw) F_this_length (hb hby d2_99) rfl fun T28 X28 e28 => ?_
 refine Run.x_icmpNo (q := 105) X28 hx (hb hby d2_102) (flt (by decide : ¬ ((3 : Int32) < (1 : Int32)))).2.2.1 rfl ?_
 refine Run.x_aloadN (q := 106) X28 hx (hb hby d2_105) rfl rfl rfl ?_
 replace F_this_rows := (((F_this_rows.ext E23).other W24 (Or.inr (slot_ne (Or.inr (wm26 hw)) (Or.inr (wm28 hw)) (by decide) (t := (.array .int)) (t' := (.array .char)) (by decide) (by decide)))).ext E26).other W27 (Or.inr (slot_ne (Or.inr (wm26 hw)) (Or.inr (wm30 hw)) (by decide) (t := (.array .int)) (t' := (.array .int)) (by decide) (by decide)))
 refine Run.z_getF (q := 109) X28 hx hZ e28 hown (wm25 hw) F_this_rows (hb hby d2_106) rfl fun T29 X29 e29 => ?_
 refine Run.x_iloadN (q := 110) X29 hx (hb hby d2_109) rfl rfl ?_
 replace A_b20 := (A_b20.ext E26).other W27 (Ne.symm ne_this_b20)
 refine Run.y_ldI (q := 111) X29 hx hZ e29 A_b20 (i := 0) (v := (.int 0)) (by decide) rfl (hb hby d2_110) rfl ?_
 refine Run.x_istore (q := 113) X29 hx #[.val (.ref this), .val (.ref pat), .val (.int 0), .val (.int 0), .val (.int 1), .val (.int 0)] (hb hby d2_111) rfl rfl ?_
 refine Run.x_iload (q := 115) X29 hx (hb hby d2_113) rfl rfl ?_
 refine Run.x_aloadN (q := 116) X29 hx (hb hby d2_115) rfl rfl rfl ?_
 refine Run.z_getF (q := 119) X29 hx hZ e29 hown (wm25 hw) F_this_rows (hb hby d2_116) rfl fun T30 X30 e30 => ?_
 refine Run.x_iloadN (q := 120) X30 hx (hb hby d2_119) rfl rfl ?_
 refine Run.x_iconst (q := 121) X30 hx (hb hby d2_120) (z := (1 : Int32)) rfl rfl ?_
 refine Run.x_iadd (q := 122) X30 hx (hb hby d2_121) (z := (1 : Int32)) (by decide) rfl ?_
 refine Run.y_ldI (q := 123) X30 hx hZ e30 A_b20 (i := 1) (v := (.int 0)) (by decide) rfl (hb hby d2_122) rfl ?_
 refine Run.x_icmpYes (q := 178) X30 hx (hb hby d2_123) (flt (by decide : ¬ ((0 : Int32) < (0 : Int32)))).2.1 (by decide) (by decide) ?_
 refine Run.x_aloadN (q := 179) X30 hx (hb hby d2_178) rfl rfl rfl ?_
 replace F_this_forward := ((((((F_this_forward.other W18 (Or.inl ne_this_b4)).ext E20).other W21 (Or.inr (slot_ne (Or.inr (wm24 hw)) (Or.inr (wm26 hw)) (by decide) (t := (.array .int)) (t' := (.array .int)) (by decide) (by decide)))).ext E23).other W24 (Or.inr (slot_ne (Or.inr (wm24 hw)) (Or.inr (wm28 hw)) (by decide) (t := (.array .int)) (t' := (.array .char)) (by decide) (by decide)))).ext E26).other W27 (Or.inr (slot_ne (Or.inr (wm24 hw)) (Or.inr (wm30 hw)) (by decide) (t := (.array .int)) (t' := (.array .int)) (by decide) (by decide)))
 refine Run.z_getF (q := 182) X30 hx hZ e30 hown (wm23 hw) F_this_forward (hb hby d2_179) rfl fun T31 X31 e31 => ?_
 refine Run.x_iloadN (q := 183) X31 hx (hb hby d2_182) rfl rfl ?_
 replace A_b4 := (A_b4.ext E26).other W27 (Ne.symm ne_this_b4)
 refine Run.y_ldI (q := 184) X31 hx hZ e31 A_b4 (i := 0) (v := (.int c0)) (by decide) rfl (hb hby d2_183) rfl ?_
 refine Run.x_aloadN (q := 185) X31 hx (hb hby d2_184) rfl rfl rfl ?_
 refine Run.z_getF (q := 188) X31 hx hZ e31 hown (wm23 hw) F_this_forward (hb hby d2_185) rfl fun T32 X32 e32 => ?_
 refine Run.x_iload (q := 190) X32 hx (hb hby d2_188) rfl rfl ?_
 refine Run.y_ldI (q := 191) X32 hx hZ e32 A_b4 (i := 1) (v := (.int c1)) (by decide) rfl (hb hby d2_190) rfl ?_
 by_cases hq_c0_c1 : c0 = c1
 ·subst hq_c0_c1
  refine Run.x_icmpYes (q := 219) X32 hx (hb hby d2_191) (teq rfl).1 (by decide) (by decide) ?_
  refine Run.x_aloadN (q := 220) X32 hx (hb hby d2_219) rfl rfl rfl ?_
  refine Run.z_getF (q := 223) X32 hx hZ e32 hown (wm25 hw) F_this_rows (hb hby d2_220) rfl fun T33 X33 e33 => ?_
  refine Run.x_iload (q := 225) X33 hx (hb hby d2_223) rfl rfl ?_
  refine Run.x_iconst (q := 226) X33 hx (hb hby d2_225) (z := (1 : Int32)) rfl rfl ?_
  refine Run.x_iadd (q := 227) X33 hx (hb hby d2_226) (z := (2 : Int32)) (by decide) rfl ?_
  refine Run.x_iloadN (q := 228) X33 hx (hb hby d2_227) rfl rfl ?_
  refine Run.y_stI (q := 229) X33 hx hZ e33 A_b20 (i := 2) (by decide) (Nat.le_of_ble_eq_true rfl) (hb hby d2_228) rfl fun T34 h34 X34 e34 W34 A34 => ?_
  replace A_b20 : Ars Z h34 b20 .int [(.int 0), (.int 0), (.int 0), (.int 0), (.int 0)] := A34
  have N34 := Fr.snoc X34 N27 g_b20
  have Z34 : n0 ≤ h34.size := Nat.le_trans Z27 (Nat.le_of_eq W34.size.symm)
  refine Run.x_iload (q := 231) X34 hx (hb hby d2_229) rfl rfl ?_
  refine Run.x_aloadN (q := 232) X34 hx (hb hby d2_231) rfl rfl rfl ?_
  replace F_this_length := F_this_length.other W34 (Or.inl ne_this_b20)
  refine Run.z_getF (q := 235) X34 hx hZ e34 hown (wm20 hw) F_this_length (hb hby d2_232) rfl fun T35 X35 e35 => ?_
  refine Run.x_icmpNo (q := 238) X35 hx (hb hby d2_235) (tlt (by decide : (1 : Int32) < (3 : Int32))).2.1 rfl ?_
  refine Run.x_aloadN (q := 239) X35 hx (hb hby d2_238) rfl rfl rfl ?_
  refine Run.x_iloadN (q := 240) X35 hx (hb hby d2_239) rfl rfl ?_
  refine Run.x_aloadN (q := 241) X35 hx (hb hby d2_240) rfl rfl rfl ?_
  refine Run.x_iload (q := 243) X35 hx (hb hby d2_241) rfl rfl ?_
  replace A_pat := ((A_pat.ext E26).other W27 (Ne.symm ne_this_pat)).other W34 ne_pat_b20
  refine Run.y_ldC (q := 244) X35 hx hZ e35 A_pat (i := 1) (v := (.int c0)) (by decide) rfl (hb hby d2_243) rfl ?_
  replace E_this := (E_this.wr W27).wr W34
  replace F_this_forward := F_this_forward.other W34 (Or.inl ne_this_b20)
  replace F_this_rows := F_this_rows.other W34 (Or.inl ne_this_b20)
  replace F_this_units := ((F_this_units.ext E26).other W27 (Or.inr (slot_ne (Or.inr (wm28 hw)) (Or.inr (wm30 hw)) (by decide) (t := (.array .char)) (t' := (.array .int)) (by decide) (by decide)))).other W34 (Or.inl ne_this_b20)
  replace F_this_targets := F_this_targets.other W34 (Or.inl ne_this_b20)
  replace A_b4 := A_b4.other W34 ne_b4_b20
  replace A_b23 := ((A_b23.ext E26).other W27 (Ne.symm ne_this_b23)).other W34 (Ne.symm ne_b20_b23)
  replace A_b26 := (A_b26.other W27 (Ne.symm ne_this_b26)).other W34 (Ne.symm ne_b20_b26)
  refine Run.callVI (q := 247) X35 hx hZ e35 (y := (⟨"needlewise/kmp/SparseAutomaton", "next", "(IC)I"⟩ : MethodName)) (z := (⟨"needlewise/kmp/SparseAutomaton", "next", "(IC)I"⟩ : MethodName)) hown (wm39 hw) (wm32 hw) (notFace_of_selects (args := #[]) (mvT hZ (wm34 hw))) (wm34 hw) (wm33 hw) (wm9 hw) (wm35 hw) (by decide) (a := this) E_this (argsL := [(.int 0), (.int c0)]) (rest := []) (c_next l Z a0 hw this (0 : Int32) c0 h34 n0 Z34 b4 b20 b23 b26 [(.int c0), (.int c0), (.int c2), (.int (-1))] [(.int 0), (.int 0), (.int 0), (.int 0), (.int 0)] [(0 : Int32), (0 : Int32), (0 : Int32)] [(0 : Int32), (0 : Int32), (0 : Int32)] 0 0 0 c0 (0 : Int32) (0 : Int32) (1 : Int32) E_this F_this_forward F_this_rows F_this_units F_this_targets A_b4 A_b20 A_b23 A_b26 (by decide) (by decide) rfl rfl rfl (by decide) (by decide) (Nat.le_of_ble_eq_true rfl) (Nat.le_of_ble_eq_true rfl) (by decide) (Eq.trans (own_next_p rfl) (by decide))) pd_0 rfl (by rw [hml]; rfl) (W := 0) rfl (by decide) (by decide) (by decide) (by decide) (hb hby d2_244) rfl rfl fun T36 L36 X36 M36 e36 => ?_
  have N36 := Fr.app N34 M36
  refine Run.x_istoreN (q := 248) X36 hx #[.val (.ref this), .val (.ref pat), .val (.int 0), .val (.int 1), .val (.int 1), .val (.int 0)] (hb hby d2_247) rfl rfl ?_
  refine Run.x_iinc (q := 251) X36 hx #[.val (.ref this), .val (.ref pat), .val (.int 0), .val (.int 1), .val (.int 2), .val (.int 0)] (hb hby d2_248) rfl (z := (2 : Int32)) (by decide) rfl rfl ?_
  refine Run.x_goto (q := 96) X36 hx (hb hby d2_251) (by decide) (by decide) ?_
  refine Run.x_iload (q := 98) X36 hx (hb hby d2_96) rfl rfl ?_
  refine Run.x_aloadN (q := 99) X36 hx (hb hby d2_98) rfl rfl rfl ?_
  refine Run.z_getF (q := 102) X36 hx hZ e36 hown (wm20 hw) F_this_length (hb hby d2_99) rfl fun T37 X37 e37 => ?_
  refine Run.x_icmpNo (q := 105) X37 hx (hb hby d2_102) (flt (by decide : ¬ ((3 : Int32) < (2 : Int32)))).2.2.1 rfl ?_
  refine Run.x_aloadN (q := 106) X37 hx (hb hby d2_105) rfl rfl rfl ?_
  refine Run.z_getF (q := 109) X37 hx hZ e37 hown (wm25 hw) F_this_rows (hb hby d2_106) rfl fun T38 X38 e38 => ?_
  refine Run.x_iloadN (q := 110) X38 hx (hb hby d2_109) rfl rfl ?_
  refine Run.y_ldI (q := 111) X38 hx hZ e38 A_b20 (i := 1) (v := (.int 0)) (by decide) rfl (hb hby d2_110) rfl ?_
  refine Run.x_istore (q := 113) X38 hx #[.val (.ref this), .val (.ref pat), .val (.int 0), .val (.int 1), .val (.int 2), .val (.int 0)] (hb hby d2_111) rfl rfl ?_
  refine Run.x_iload (q := 115) X38 hx (hb hby d2_113) rfl rfl ?_
  refine Run.x_aloadN (q := 116) X38 hx (hb hby d2_115) rfl rfl rfl ?_
  refine Run.z_getF (q := 119) X38 hx hZ e38 hown (wm25 hw) F_this_rows (hb hby d2_116) rfl fun T39 X39 e39 => ?_
  refine Run.x_iloadN (q := 120) X39 hx (hb hby d2_119) rfl rfl ?_
  refine Run.x_iconst (q := 121) X39 hx (hb hby d2_120) (z := (1 : Int32)) rfl rfl ?_
  refine Run.x_iadd (q := 122) X39 hx (hb hby d2_121) (z := (2 : Int32)) (by decide) rfl ?_
  refine Run.y_ldI (q := 123) X39 hx hZ e39 A_b20 (i := 2) (v := (.int 0)) (by decide) rfl (hb hby d2_122) rfl ?_
  refine Run.x_icmpYes (q := 178) X39 hx (hb hby d2_123) (flt (by decide : ¬ ((0 : Int32) < (0 : Int32)))).2.1 (by decide) (by decide) ?_
  refine Run.x_aloadN (q := 179) X39 hx (hb hby d2_178) rfl rfl rfl ?_
  refine Run.z_getF (q := 182) X39 hx hZ e39 hown (wm23 hw) F_this_forward (hb hby d2_179) rfl fun T40 X40 e40 => ?_
  refine Run.x_iloadN (q := 183) X40 hx (hb hby d2_182) rfl rfl ?_
  refine Run.y_ldI (q := 184) X40 hx hZ e40 A_b4 (i := 1) (v := (.int c0)) (by decide) rfl (hb hby d2_183) rfl ?_
  refine Run.x_aloadN (q := 185) X40 hx (hb hby d2_184) rfl rfl rfl ?_
  refine Run.z_getF (q := 188) X40 hx hZ e40 hown (wm23 hw) F_this_forward (hb hby d2_185) rfl fun T41 X41 e41 => ?_
  refine Run.x_iload (q := 190) X41 hx (hb hby d2_188) rfl rfl ?_
  refine Run.y_ldI (q := 191) X41 hx hZ e41 A_b4 (i := 2) (v := (.int c2)) (by decide) rfl (hb hby d2_190) rfl ?_
  by_cases hq_c0_c2 : c0 = c2
  ·subst hq_c0_c2
   refine Run.x_icmpYes (q := 219) X41 hx (hb hby d2_191) (teq rfl).1 (by decide) (by decide) ?_
   refine Run.x_aloadN (q := 220) X41 hx (hb hby d2_219) rfl rfl rfl ?_
   refine Run.z_getF (q := 223) X41 hx hZ e41 hown (wm25 hw) F_this_rows (hb hby d2_220) rfl fun T42 X42 e42 => ?_
   refine Run.x_iload (q := 225) X42 hx (hb hby d2_223) rfl rfl ?_
   refine Run.x_iconst (q := 226) X42 hx (hb hby d2_225) (z := (1 : Int32)) rfl rfl ?_
   refine Run.x_iadd (q := 227) X42 hx (hb hby d2_226) (z := (3 : Int32)) (by decide) rfl ?_
   refine Run.x_iloadN (q := 228) X42 hx (hb hby d2_227) rfl rfl ?_
   refine Run.y_stI (q := 229) X42 hx hZ e42 A_b20 (i := 3) (by decide) (Nat.le_of_ble_eq_true rfl) (hb hby d2_228) rfl fun T43 h43 X43 e43 W43 A43 => ?_
   replace A_b20 : Ars Z h43 b20 .int [(.int 0), (.int 0), (.int 0), (.int 0), (.int 0)] := A43
   have N43 := Fr.snoc X43 N36 g_b20
   have Z43 : n0 ≤ h43.size := Nat.le_trans Z34 (Nat.le_of_eq W43.size.symm)
   refine Run.x_iload (q := 231) X43 hx (hb hby d2_229) rfl rfl ?_
   refine Run.x_aloadN (q := 232) X43 hx (hb hby d2_231) rfl rfl rfl ?_
   replace F_this_length := F_this_length.other W43 (Or.inl ne_this_b20)
   refine Run.z_getF (q := 235) X43 hx hZ e43 hown (wm20 hw) F_this_length (hb hby d2_232) rfl fun T44 X44 e44 => ?_
   refine Run.x_icmpNo (q := 238) X44 hx (hb hby d2_235) (tlt (by decide : (2 : Int32) < (3 : Int32))).2.1 rfl ?_
   refine Run.x_aloadN (q := 239) X44 hx (hb hby d2_238) rfl rfl rfl ?_
   refine Run.x_iloadN (q := 240) X44 hx (hb hby d2_239) rfl rfl ?_
   refine Run.x_aloadN (q := 241) X44 hx (hb hby d2_240) rfl rfl rfl ?_
   refine Run.x_iload (q := 243) X44 hx (hb hby d2_241) rfl rfl ?_
   replace A_pat := A_pat.other W43 ne_pat_b20
   refine Run.y_ldC (q := 244) X44 hx hZ e44 A_pat (i := 2) (v := (.int c0)) (by decide) rfl (hb hby d2_243) rfl ?_
   replace E_this := E_this.wr W43
   replace F_this_forward := F_this_forward.other W43 (Or.inl ne_this_b20)
   replace F_this_rows := F_this_rows.other W43 (Or.inl ne_this_b20)
   replace F_this_units := F_this_units.other W43 (Or.inl ne_this_b20)
   replace F_this_targets := F_this_targets.other W43 (Or.inl ne_this_b20)
   replace A_b4 := A_b4.other W43 ne_b4_b20
   replace A_b23 := A_b23.other W43 (Ne.symm ne_b20_b23)
   replace A_b26 := A_b26.other W43 (Ne.symm ne_b20_b26)
   refine Run.callVI (q := 247) X44 hx hZ e44 (y := (⟨"needlewise/kmp/SparseAutomaton", "next", "(IC)I"⟩ : MethodName)) (z := (⟨"needlewise/kmp/SparseAutomaton", "next", "(IC)I"⟩ : MethodName)) hown (wm39 hw) (wm32 hw) (notFace_of_selects (args := #[]) (mvT hZ (wm34 hw))) (wm34 hw) (wm33 hw) (wm9 hw) (wm35 hw) (by decide) (a := this) E_this (argsL := [(.int 1), (.int c0)]) (rest := []) (c_next l Z a0 hw this (1 : Int32) c0 h43 n0 Z43 b4 b20 b23 b26 [(.int c0), (.int c0), (.int c0), (.int (-1))] [(.int 0), (.int 0), (.int 0), (.int 0), (.int 0)] [(0 : Int32), (0 : Int32), (0 : Int32)] [(0 : Int32), (0 : Int32), (0 : Int32)] 1 0 0 c0 (0 : Int32) (0 : Int32) (2 : Int32) E_this F_this_forward F_this_rows F_this_units F_this_targets A_b4 A_b20 A_b23 A_b26 (by decide) (by decide) rfl rfl rfl (by decide) (by decide) (Nat.le_of_ble_eq_true rfl) (Nat.le_of_ble_eq_true rfl) (by decide) (Eq.trans (own_next_p rfl) (by decide))) pd_0 rfl (by rw [hml]; rfl) (W := 0) rfl (by decide) (by decide) (by decide) (by decide) (hb hby d2_244) rfl rfl fun T45 L45 X45 M45 e45 => ?_
   have N45 := Fr.app N43 M45
   refine Run.x_istoreN (q := 248) X45 hx #[.val (.ref this), .val (.ref pat), .val (.int 0), .val (.int 2), .val (.int 2), .val (.int 0)] (hb hby d2_247) rfl rfl ?_
   refine Run.x_iinc (q := 251) X45 hx #[.val (.ref this), .val (.ref pat), .val (.int 0), .val (.int 2), .val (.int 3), .val (.int 0)] (hb hby d2_248) rfl (z := (3 : Int32)) (by decide) rfl rfl ?_
   refine Run.x_goto (q := 96) X45 hx (hb hby d2_251) (by decide) (by decide) ?_
   refine Run.x_iload (q := 98) X45 hx (hb hby d2_96) rfl rfl ?_
   refine Run.x_aloadN (q := 99) X45 hx (hb hby d2_98) rfl rfl rfl ?_
   refine Run.z_getF (q := 102) X45 hx hZ e45 hown (wm20 hw) F_this_length (hb hby d2_99) rfl fun T46 X46 e46 => ?_
   refine Run.x_icmpNo (q := 105) X46 hx (hb hby d2_102) (flt (by decide : ¬ ((3 : Int32) < (3 : Int32)))).2.2.1 rfl ?_
   refine Run.x_aloadN (q := 106) X46 hx (hb hby d2_105) rfl rfl rfl ?_
   refine Run.z_getF (q := 109) X46 hx hZ e46 hown (wm25 hw) F_this_rows (hb hby d2_106) rfl fun T47 X47 e47 => ?_
   refine Run.x_iloadN (q := 110) X47 hx (hb hby d2_109) rfl rfl ?_
   refine Run.y_ldI (q := 111) X47 hx hZ e47 A_b20 (i := 2) (v := (.int 0)) (by decide) rfl (hb hby d2_110) rfl ?_
   refine Run.x_istore (q := 113) X47 hx #[.val (.ref this), .val (.ref pat), .val (.int 0), .val (.int 2), .val (.int 3), .val (.int 0)] (hb hby d2_111) rfl rfl ?_
   refine Run.x_iload (q := 115) X47 hx (hb hby d2_113) rfl rfl ?_
   refine Run.x_aloadN (q := 116) X47 hx (hb hby d2_115) rfl rfl rfl ?_
   refine Run.z_getF (q := 119) X47 hx hZ e47 hown (wm25 hw) F_this_rows (hb hby d2_116) rfl fun T48 X48 e48 => ?_
   refine Run.x_iloadN (q := 120) X48 hx (hb hby d2_119) rfl rfl ?_
   refine Run.x_iconst (q := 121) X48 hx (hb hby d2_120) (z := (1 : Int32)) rfl rfl ?_
   refine Run.x_iadd (q := 122) X48 hx (hb hby d2_121) (z := (3 : Int32)) (by decide) rfl ?_
   refine Run.y_ldI (q := 123) X48 hx hZ e48 A_b20 (i := 3) (v := (.int 0)) (by decide) rfl (hb hby d2_122) rfl ?_
   refine Run.x_icmpYes (q := 178) X48 hx (hb hby d2_123) (flt (by decide : ¬ ((0 : Int32) < (0 : Int32)))).2.1 (by decide) (by decide) ?_
   refine Run.x_aloadN (q := 179) X48 hx (hb hby d2_178) rfl rfl rfl ?_
   refine Run.z_getF (q := 182) X48 hx hZ e48 hown (wm23 hw) F_this_forward (hb hby d2_179) rfl fun T49 X49 e49 => ?_
   refine Run.x_iloadN (q := 183) X49 hx (hb hby d2_182) rfl rfl ?_
   refine Run.y_ldI (q := 184) X49 hx hZ e49 A_b4 (i := 2) (v := (.int c0)) (by decide) rfl (hb hby d2_183) rfl ?_
   refine Run.x_aloadN (q := 185) X49 hx (hb hby d2_184) rfl rfl rfl ?_
   refine Run.z_getF (q := 188) X49 hx hZ e49 hown (wm23 hw) F_this_forward (hb hby d2_185) rfl fun T50 X50 e50 => ?_
   refine Run.x_iload (q := 190) X50 hx (hb hby d2_188) rfl rfl ?_
   refine Run.y_ldI (q := 191) X50 hx hZ e50 A_b4 (i := 3) (v := (.int (-1))) (by decide) rfl (hb hby d2_190) rfl ?_
   refine Run.x_icmpNo (q := 194) X50 hx (hb hby d2_191) (feq (own_nm1 hr0.1)).1 rfl ?_
   refine Run.x_aloadN (q := 195) X50 hx (hb hby d2_194) rfl rfl rfl ?_
   refine Run.z_getF (q := 198) X50 hx hZ e50 hown (wm27 hw) F_this_units (hb hby d2_195) rfl fun T51 X51 e51 => ?_
   refine Run.x_iloadN (q := 199) X51 hx (hb hby d2_198) rfl rfl ?_
   refine Run.x_aloadN (q := 200) X51 hx (hb hby d2_199) rfl rfl rfl ?_
   refine Run.z_getF (q := 203) X51 hx hZ e51 hown (wm23 hw) F_this_forward (hb hby d2_200) rfl fun T52 X52 e52 => ?_
   refine Run.x_iloadN (q := 204) X52 hx (hb hby d2_203) rfl rfl ?_
   refine Run.y_ldI (q := 205) X52 hx hZ e52 A_b4 (i := 2) (v := (.int c0)) (by decide) rfl (hb hby d2_204) rfl ?_
   refine Run.x_i2c (q := 206) X52 hx (hb hby d2_205) (z := c0) (own_ic hr0) rfl ?_
   refine Run.y_stC (q := 207) X52 hx hZ e52 A_b23 (i := 0) (by decide) (Nat.le_of_ble_eq_true rfl) (z' := c0) (own_nr hr0) (hb hby d2_206) rfl fun T53 h53 X53 e53 W53 A53 => ?_
   replace A_b23 : Ars Z h53 b23 .char [(.int c0), (.int 0), (.int 0)] := A53
   have N53 := Fr.snoc X53 N45 g_b23
   have Z53 : n0 ≤ h53.size := Nat.le_trans Z43 (Nat.le_of_eq W53.size.symm)
   refine Run.x_aloadN (q := 208) X53 hx (hb hby d2_207) rfl rfl rfl ?_
   replace F_this_targets := F_this_targets.other W53 (Or.inl ne_this_b23)
   refine Run.z_getF (q := 211) X53 hx hZ e53 hown (wm29 hw) F_this_targets (hb hby d2_208) rfl fun T54 X54 e54 => ?_
   refine Run.x_iloadN (q := 212) X54 hx (hb hby d2_211) rfl rfl ?_
   refine Run.x_iinc (q := 215) X54 hx #[.val (.ref this), .val (.ref pat), .val (.int 1), .val (.int 2), .val (.int 3), .val (.int 0)] (hb hby d2_212) rfl (z := (1 : Int32)) (by decide) rfl rfl ?_
   refine Run.x_iloadN (q := 216) X54 hx (hb hby d2_215) rfl rfl ?_
   refine Run.x_iconst (q := 217) X54 hx (hb hby d2_216) (z := (1 : Int32)) rfl rfl ?_
   refine Run.x_iadd (q := 218) X54 hx (hb hby d2_217) (z := (3 : Int32)) (by decide) rfl ?_
   replace A_b26 := A_b26.other W53 (Ne.symm ne_b23_b26)
   refine Run.y_stI (q := 219) X54 hx hZ e54 A_b26 (i := 0) (by decide) (Nat.le_of_ble_eq_true rfl) (hb hby d2_218) rfl fun T55 h55 X55 e55 W55 A55 => ?_
   replace A_b26 : Ars Z h55 b26 .int [(.int 3), (.int 0), (.int 0)] := A55
   have N55 := Fr.snoc X55 N53 g_b26
   have Z55 : n0 ≤ h55.size := Nat.le_trans Z53 (Nat.le_of_eq W55.size.symm)
   refine Run.x_aloadN (q := 220) X55 hx (hb hby d2_219) rfl rfl rfl ?_
   replace F_this_rows := (F_this_rows.other W53 (Or.inl ne_this_b23)).other W55 (Or.inl ne_this_b26)
   refine Run.z_getF (q := 223) X55 hx hZ e55 hown (wm25 hw) F_this_rows (hb hby d2_220) rfl fun T56 X56 e56 => ?_
   refine Run.x_iload (q := 225) X56 hx (hb hby d2_223) rfl rfl ?_
   refine Run.x_iconst (q := 226) X56 hx (hb hby d2_225) (z := (1 : Int32)) rfl rfl ?_
   refine Run.x_iadd (q := 227) X56 hx (hb hby d2_226) (z := (4 : Int32)) (by decide) rfl ?_
   refine Run.x_iloadN (q := 228) X56 hx (hb hby d2_227) rfl rfl ?_
   replace A_b20 := (A_b20.other W53 ne_b20_b23).other W55 ne_b20_b26
   refine Run.y_stI (q := 229) X56 hx hZ e56 A_b20 (i := 4) (by decide) (Nat.le_of_ble_eq_true rfl) (hb hby d2_228) rfl fun T57 h57 X57 e57 W57 A57 => ?_
   replace A_b20 : Ars Z h57 b20 .int [(.int 0), (.int 0), (.int 0), (.int 0), (.int 1)] := A57
   have N57 := Fr.snoc X57 N55 g_b20
   have Z57 : n0 ≤ h57.size := Nat.le_trans Z55 (Nat.le_of_eq W57.size.symm)
   refine Run.x_iload (q := 231) X57 hx (hb hby d2_229) rfl rfl ?_
   refine Run.x_aloadN (q := 232) X57 hx (hb hby d2_231) rfl rfl rfl ?_
   replace F_this_length := ((F_this_length.other W53 (Or.inl ne_this_b23)).other W55 (Or.inl ne_this_b26)).other W57 (Or.inl ne_this_b20)
   refine Run.z_getF (q := 235) X57 hx hZ e57 hown (wm20 hw) F_this_length (hb hby d2_232) rfl fun T58 X58 e58 => ?_
   refine Run.x_icmpYes (q := 248) X58 hx (hb hby d2_235) (flt (by decide : ¬ ((3 : Int32) < (3 : Int32)))).2.1 (by decide) (by decide) ?_
   refine Run.x_iinc (q := 251) X58 hx #[.val (.ref this), .val (.ref pat), .val (.int 1), .val (.int 2), .val (.int 4), .val (.int 0)] (hb hby d2_248) rfl (z := (4 : Int32)) (by decide) rfl rfl ?_
   refine Run.x_goto (q := 96) X58 hx (hb hby d2_251) (by decide) (by decide) ?_
   refine Run.x_iload (q := 98) X58 hx (hb hby d2_96) rfl rfl ?_
   refine Run.x_aloadN (q := 99) X58 hx (hb hby d2_98) rfl rfl rfl ?_
   refine Run.z_getF (q := 102) X58 hx hZ e58 hown (wm20 hw) F_this_length (hb hby d2_99) rfl fun T59 X59 e59 => ?_
   refine Run.x_icmpYes (q := 254) X59 hx (hb hby d2_102) (tlt (by decide : (3 : Int32) < (4 : Int32))).2.2.1 (by decide) (by decide) ?_
   replace E_this := ((E_this.wr W53).wr W55).wr W57
   replace F_this_forward := ((F_this_forward.other W53 (Or.inl ne_this_b23)).other W55 (Or.inl ne_this_b26)).other W57 (Or.inl ne_this_b20)
   replace F_this_rows := F_this_rows.other W57 (Or.inl ne_this_b20)
   replace F_this_units := ((F_this_units.other W53 (Or.inl ne_this_b23)).other W55 (Or.inl ne_this_b26)).other W57 (Or.inl ne_this_b20)
   replace F_this_targets := (F_this_targets.other W55 (Or.inl ne_this_b26)).other W57 (Or.inl ne_this_b20)
   replace A_pat := ((A_pat.other W53 ne_pat_b23).other W55 ne_pat_b26).other W57 ne_pat_b20
   replace A_b4 := ((A_b4.other W53 ne_b4_b23).other W55 ne_b4_b26).other W57 ne_b4_b20
   replace A_b23 := (A_b23.other W55 ne_b23_b26).other W57 (Ne.symm ne_b20_b23)
   replace A_b26 := A_b26.other W57 (Ne.symm ne_b20_b26)
   refine Run.retV X59 hx hlk e59 hret (hb hby d2_254) (by decide) (by decide) ?_
   have R0 : own_rw 0 c0 [(0 : Int32), (0 : Int32), (0 : Int32), (0 : Int32), (1 : Int32)] [c0, (0 : Int32), (0 : Int32)] [(3 : Int32), (0 : Int32), (0 : Int32)] (fun u => (if c0 = u then (1 : Int32) else (0 : Int32))) := by
    refine ⟨0, 0, (0 : Int32), (0 : Int32), rfl, rfl, by decide, by decide, Nat.le_of_ble_eq_true rfl, Nat.le_of_ble_eq_true rfl, by decide, fun u hu => ?_⟩
    by_cases q_c0 : c0 = u
    ·subst q_c0
     exact Eq.trans (b := (1 : Int32)) (Eq.trans (own_next_p rfl) (by decide)) (Eq.symm (if_pos rfl))
    ·skip
     exact Eq.trans (b := (0 : Int32)) (Eq.trans (own_next_n (fun h => q_c0 h.symm)) (rfl)) (Eq.symm (Eq.trans (if_neg (fun h => q_c0 h)) (rfl)))
   have R1 : own_rw 1 c0 [(0 : Int32), (0 : Int32), (0 : Int32), (0 : Int32), (1 : Int32)] [c0, (0 : Int32), (0 : Int32)] [(3 : Int32), (0 : Int32), (0 : Int32)] (fun u => (if c0 = c0 ∧ c0 = u then (2 : Int32) else (if c0 = u then (1 : Int32) else (0 : Int32)))) := by
    refine ⟨0, 0, (0 : Int32), (0 : Int32), rfl, rfl, by decide, by decide, Nat.le_of_ble_eq_true rfl, Nat.le_of_ble_eq_true rfl, by decide, fun u hu => ?_⟩
    by_cases q_c0 : c0 = u
    ·subst q_c0
     exact Eq.trans (b := (2 : Int32)) (Eq.trans (own_next_p rfl) (by decide)) (Eq.symm (if_pos ⟨rfl, rfl⟩))
    ·skip
     exact Eq.trans (b := (0 : Int32)) (Eq.trans (own_next_n (fun h => q_c0 h.symm)) (rfl)) (Eq.symm (Eq.trans (if_neg (fun h => q_c0 h.2)) (Eq.trans (if_neg (fun h => q_c0 h)) (rfl))))
   have R2 : own_rw 2 c0 [(0 : Int32), (0 : Int32), (0 : Int32), (0 : Int32), (1 : Int32)] [c0, (0 : Int32), (0 : Int32)] [(3 : Int32), (0 : Int32), (0 : Int32)] (fun u => (if c0 = c0 ∧ c0 = c0 ∧ c0 = u then (3 : Int32) else (if c0 = c0 ∧ c0 = u then (2 : Int32) else (if c0 = u then (1 : Int32) else (0 : Int32))))) := by
    refine ⟨0, 0, (0 : Int32), (0 : Int32), rfl, rfl, by decide, by decide, Nat.le_of_ble_eq_true rfl, Nat.le_of_ble_eq_true rfl, by decide, fun u hu => ?_⟩
    by_cases q_c0 : c0 = u
    ·subst q_c0
     exact Eq.trans (b := (3 : Int32)) (Eq.trans (own_next_p rfl) (by decide)) (Eq.symm (if_pos ⟨rfl, rfl, rfl⟩))
    ·skip
     exact Eq.trans (b := (0 : Int32)) (Eq.trans (own_next_n (fun h => q_c0 h.symm)) (rfl)) (Eq.symm (Eq.trans (if_neg (fun h => q_c0 h.2.2)) (Eq.trans (if_neg (fun h => q_c0 h.2)) (Eq.trans (if_neg (fun h => q_c0 h)) (rfl)))))
   have R3 : own_rw 3 (-1 : Int32) [(0 : Int32), (0 : Int32), (0 : Int32), (0 : Int32), (1 : Int32)] [c0, (0 : Int32), (0 : Int32)] [(3 : Int32), (0 : Int32), (0 : Int32)] (fun u => (if c0 = c0 ∧ c0 = c0 ∧ c0 = u then (3 : Int32) else (if c0 = c0 ∧ c0 = u then (2 : Int32) else (if c0 = u then (1 : Int32) else (0 : Int32))))) := by
    refine ⟨0, 1, (0 : Int32), (1 : Int32), rfl, rfl, by decide, by decide, Nat.le_of_ble_eq_true rfl, Nat.le_of_ble_eq_true rfl, by decide, fun u hu => ?_⟩
    by_cases q_c0 : c0 = u
    ·subst q_c0
     exact Eq.trans (b := (3 : Int32)) (Eq.trans (own_next_n (own_nm1 hr0.1)) (own_look_p rfl)) (Eq.symm (if_pos ⟨rfl, rfl, rfl⟩))
    ·skip
     exact Eq.trans (b := (0 : Int32)) (Eq.trans (own_next_n (own_nm1 hu)) (Eq.trans (own_look_n q_c0) (rfl))) (Eq.symm (Eq.trans (if_neg (fun h => q_c0 h.2.2)) (Eq.trans (if_neg (fun h => q_c0 h.2)) (Eq.trans (if_neg (fun h => q_c0 h)) (rfl)))))
   exact ⟨b4, b20, b23, b26, [(0 : Int32), (0 : Int32), (0 : Int32), (0 : Int32), (1 : Int32)], [c0, (0 : Int32), (0 : Int32)], [(3 : Int32), (0 : Int32), (0 : Int32)], rfl, N57, E_this, F_this_forward, F_this_rows, F_this_units, F_this_targets, A_b4, A_b20, A_b23, A_b26, R0, R1, R2, R3⟩
  ·skip
   refine Run.x_icmpNo (q := 194) X41 hx (hb hby d2_191) (feq hq_c0_c2).1 rfl ?_
   refine Run.x_aloadN (q := 195) X41 hx (hb hby d2_194) rfl rfl rfl ?_
   refine Run.z_getF (q := 198) X41 hx hZ e41 hown (wm27 hw) F_this_units (hb hby d2_195) rfl fun T60 X60 e60 => ?_
   refine Run.x_iloadN (q := 199) X60 hx (hb hby d2_198) rfl rfl ?_
   refine Run.x_aloadN (q := 200) X60 hx (hb hby d2_199) rfl rfl rfl ?_
   refine Run.z_getF (q := 203) X60 hx hZ e60 hown (wm23 hw) F_this_forward (hb hby d2_200) rfl fun T61 X61 e61 => ?_
   refine Run.x_iloadN (q := 204) X61 hx (hb hby d2_203) rfl rfl ?_
   refine Run.y_ldI (q := 205) X61 hx hZ e61 A_b4 (i := 1) (v := (.int c0)) (by decide) rfl (hb hby d2_204) rfl ?_
   refine Run.x_i2c (q := 206) X61 hx (hb hby d2_205) (z := c0) (own_ic hr0) rfl ?_
   refine Run.y_stC (q := 207) X61 hx hZ e61 A_b23 (i := 0) (by decide) (Nat.le_of_ble_eq_true rfl) (z' := c0) (own_nr hr0) (hb hby d2_206) rfl fun T62 h62 X62 e62 W62 A62 => ?_
   replace A_b23 : Ars Z h62 b23 .char [(.int c0), (.int 0), (.int 0)] := A62
   have N62 := Fr.snoc X62 N36 g_b23
   have Z62 : n0 ≤ h62.size := Nat.le_trans Z34 (Nat.le_of_eq W62.size.symm)
   refine Run.x_aloadN (q := 208) X62 hx (hb hby d2_207) rfl rfl rfl ?_
   replace F_this_targets := F_this_targets.other W62 (Or.inl ne_this_b23)
   refine Run.z_getF (q := 211) X62 hx hZ e62 hown (wm29 hw) F_this_targets (hb hby d2_208) rfl fun T63 X63 e63 => ?_
   refine Run.x_iloadN (q := 212) X63 hx (hb hby d2_211) rfl rfl ?_
   refine Run.x_iinc (q := 215) X63 hx #[.val (.ref this), .val (.ref pat), .val (.int 1), .val (.int 1), .val (.int 2), .val (.int 0)] (hb hby d2_212) rfl (z := (1 : Int32)) (by decide) rfl rfl ?_
   refine Run.x_iloadN (q := 216) X63 hx (hb hby d2_215) rfl rfl ?_
   refine Run.x_iconst (q := 217) X63 hx (hb hby d2_216) (z := (1 : Int32)) rfl rfl ?_
   refine Run.x_iadd (q := 218) X63 hx (hb hby d2_217) (z := (2 : Int32)) (by decide) rfl ?_
   replace A_b26 := A_b26.other W62 (Ne.symm ne_b23_b26)
   refine Run.y_stI (q := 219) X63 hx hZ e63 A_b26 (i := 0) (by decide) (Nat.le_of_ble_eq_true rfl) (hb hby d2_218) rfl fun T64 h64 X64 e64 W64 A64 => ?_
   replace A_b26 : Ars Z h64 b26 .int [(.int 2), (.int 0), (.int 0)] := A64
   have N64 := Fr.snoc X64 N62 g_b26
   have Z64 : n0 ≤ h64.size := Nat.le_trans Z62 (Nat.le_of_eq W64.size.symm)
   refine Run.x_aloadN (q := 220) X64 hx (hb hby d2_219) rfl rfl rfl ?_
   replace F_this_rows := (F_this_rows.other W62 (Or.inl ne_this_b23)).other W64 (Or.inl ne_this_b26)
   refine Run.z_getF (q := 223) X64 hx hZ e64 hown (wm25 hw) F_this_rows (hb hby d2_220) rfl fun T65 X65 e65 => ?_
   refine Run.x_iload (q := 225) X65 hx (hb hby d2_223) rfl rfl ?_
   refine Run.x_iconst (q := 226) X65 hx (hb hby d2_225) (z := (1 : Int32)) rfl rfl ?_
   refine Run.x_iadd (q := 227) X65 hx (hb hby d2_226) (z := (3 : Int32)) (by decide) rfl ?_
   refine Run.x_iloadN (q := 228) X65 hx (hb hby d2_227) rfl rfl ?_
   replace A_b20 := (A_b20.other W62 ne_b20_b23).other W64 ne_b20_b26
   refine Run.y_stI (q := 229) X65 hx hZ e65 A_b20 (i := 3) (by decide) (Nat.le_of_ble_eq_true rfl) (hb hby d2_228) rfl fun T66 h66 X66 e66 W66 A66 => ?_
   replace A_b20 : Ars Z h66 b20 .int [(.int 0), (.int 0), (.int 0), (.int 1), (.int 0)] := A66
   have N66 := Fr.snoc X66 N64 g_b20
   have Z66 : n0 ≤ h66.size := Nat.le_trans Z64 (Nat.le_of_eq W66.size.symm)
   refine Run.x_iload (q := 231) X66 hx (hb hby d2_229) rfl rfl ?_
   refine Run.x_aloadN (q := 232) X66 hx (hb hby d2_231) rfl rfl rfl ?_
   replace F_this_length := ((F_this_length.other W62 (Or.inl ne_this_b23)).other W64 (Or.inl ne_this_b26)).other W66 (Or.inl ne_this_b20)
   refine Run.z_getF (q := 235) X66 hx hZ e66 hown (wm20 hw) F_this_length (hb hby d2_232) rfl fun T67 X67 e67 => ?_
   refine Run.x_icmpNo (q := 238) X67 hx (hb hby d2_235) (tlt (by decide : (2 : Int32) < (3 : Int32))).2.1 rfl ?_
   refine Run.x_aloadN (q := 239) X67 hx (hb hby d2_238) rfl rfl rfl ?_
   refine Run.x_iloadN (q := 240) X67 hx (hb hby d2_239) rfl rfl ?_
   refine Run.x_aloadN (q := 241) X67 hx (hb hby d2_240) rfl rfl rfl ?_
   refine Run.x_iload (q := 243) X67 hx (hb hby d2_241) rfl rfl ?_
   replace A_pat := ((A_pat.other W62 ne_pat_b23).other W64 ne_pat_b26).other W66 ne_pat_b20
   refine Run.y_ldC (q := 244) X67 hx hZ e67 A_pat (i := 2) (v := (.int c2)) (by decide) rfl (hb hby d2_243) rfl ?_
   replace E_this := ((E_this.wr W62).wr W64).wr W66
   replace F_this_forward := ((F_this_forward.other W62 (Or.inl ne_this_b23)).other W64 (Or.inl ne_this_b26)).other W66 (Or.inl ne_this_b20)
   replace F_this_rows := F_this_rows.other W66 (Or.inl ne_this_b20)
   replace F_this_units := ((F_this_units.other W62 (Or.inl ne_this_b23)).other W64 (Or.inl ne_this_b26)).other W66 (Or.inl ne_this_b20)
   replace F_this_targets := (F_this_targets.other W64 (Or.inl ne_this_b26)).other W66 (Or.inl ne_this_b20)
   replace A_b4 := ((A_b4.other W62 ne_b4_b23).other W64 ne_b4_b26).other W66 ne_b4_b20
   replace A_b23 := (A_b23.other W64 ne_b23_b26).other W66 (Ne.symm ne_b20_b23)
   replace A_b26 := A_b26.other W66 (Ne.symm ne_b20_b26)
   refine Run.callVI (q := 247) X67 hx hZ e67 (y := (⟨"needlewise/kmp/SparseAutomaton", "next", "(IC)I"⟩ : MethodName)) (z := (⟨"needlewise/kmp/SparseAutomaton", "next", "(IC)I"⟩ : MethodName)) hown (wm39 hw) (wm32 hw) (notFace_of_selects (args := #[]) (mvT hZ (wm34 hw))) (wm34 hw) (wm33 hw) (wm9 hw) (wm35 hw) (by decide) (a := this) E_this (argsL := [(.int 1), (.int c2)]) (rest := []) (c_next l Z a0 hw this (1 : Int32) c2 h66 n0 Z66 b4 b20 b23 b26 [(.int c0), (.int c0), (.int c2), (.int (-1))] [(.int 0), (.int 0), (.int 0), (.int 1), (.int 0)] [c0, (0 : Int32), (0 : Int32)] [(2 : Int32), (0 : Int32), (0 : Int32)] 1 0 0 c0 (0 : Int32) (0 : Int32) (0 : Int32) E_this F_this_forward F_this_rows F_this_units F_this_targets A_b4 A_b20 A_b23 A_b26 (by decide) (by decide) rfl rfl rfl (by decide) (by decide) (Nat.le_of_ble_eq_true rfl) (Nat.le_of_ble_eq_true rfl) (by decide) (Eq.trans (own_next_n (fun h => hq_c0_c2 h.symm)) (rfl))) pd_0 rfl (by rw [hml]; rfl) (W := 0) rfl (by decide) (by decide) (by decide) (by decide) (hb hby d2_244) rfl rfl fun T68 L68 X68 M68 e68 => ?_
   have N68 := Fr.app N66 M68
   refine Run.x_istoreN (q := 248) X68 hx #[.val (.ref this), .val (.ref pat), .val (.int 1), .val (.int 0), .val (.int 2), .val (.int 0)] (hb hby d2_247) rfl rfl ?_
   refine Run.x_iinc (q := 251) X68 hx #[.val (.ref this), .val (.ref pat), .val (.int 1), .val (.int 0), .val (.int 3), .val (.int 0)] (hb hby d2_248) rfl (z := (3 : Int32)) (by decide) rfl rfl ?_
   refine Run.x_goto (q := 96) X68 hx (hb hby d2_251) (by decide) (by decide) ?_
   refine Run.x_iload (q := 98) X68 hx (hb hby d2_96) rfl rfl ?_
   refine Run.x_aloadN (q := 99) X68 hx (hb hby d2_98) rfl rfl rfl ?_
   refine Run.z_getF (q := 102) X68 hx hZ e68 hown (wm20 hw) F_this_length (hb hby d2_99) rfl fun T69 X69 e69 => ?_
   refine Run.x_icmpNo (q := 105) X69 hx (hb hby d2_102) (flt (by decide : ¬ ((3 : Int32) < (3 : Int32)))).2.2.1 rfl ?_
   refine Run.x_aloadN (q := 106) X69 hx (hb hby d2_105) rfl rfl rfl ?_
   refine Run.z_getF (q := 109) X69 hx hZ e69 hown (wm25 hw) F_this_rows (hb hby d2_106) rfl fun T70 X70 e70 => ?_
   refine Run.x_iloadN (q := 110) X70 hx (hb hby d2_109) rfl rfl ?_
   refine Run.y_ldI (q := 111) X70 hx hZ e70 A_b20 (i := 0) (v := (.int 0)) (by decide) rfl (hb hby d2_110) rfl ?_
   refine Run.x_istore (q := 113) X70 hx #[.val (.ref this), .val (.ref pat), .val (.int 1), .val (.int 0), .val (.int 3), .val (.int 0)] (hb hby d2_111) rfl rfl ?_
   refine Run.x_iload (q := 115) X70 hx (hb hby d2_113) rfl rfl ?_
   refine Run.x_aloadN (q := 116) X70 hx (hb hby d2_115) rfl rfl rfl ?_
   refine Run.z_getF (q := 119) X70 hx hZ e70 hown (wm25 hw) F_this_rows (hb hby d2_116) rfl fun T71 X71 e71 => ?_
   refine Run.x_iloadN (q := 120) X71 hx (hb hby d2_119) rfl rfl ?_
   refine Run.x_iconst (q := 121) X71 hx (hb hby d2_120) (z := (1 : Int32)) rfl rfl ?_
   refine Run.x_iadd (q := 122) X71 hx (hb hby d2_121) (z := (1 : Int32)) (by decide) rfl ?_
   refine Run.y_ldI (q := 123) X71 hx hZ e71 A_b20 (i := 1) (v := (.int 0)) (by decide) rfl (hb hby d2_122) rfl ?_
   refine Run.x_icmpYes (q := 178) X71 hx (hb hby d2_123) (flt (by decide : ¬ ((0 : Int32) < (0 : Int32)))).2.1 (by decide) (by decide) ?_
   refine Run.x_aloadN (q := 179) X71 hx (hb hby d2_178) rfl rfl rfl ?_
   refine Run.z_getF (q := 182) X71 hx hZ e71 hown (wm23 hw) F_this_forward (hb hby d2_179) rfl fun T72 X72 e72 => ?_
   refine Run.x_iloadN (q := 183) X72 hx (hb hby d2_182) rfl rfl ?_
   refine Run.y_ldI (q := 184) X72 hx hZ e72 A_b4 (i := 0) (v := (.int c0)) (by decide) rfl (hb hby d2_183) rfl ?_
   refine Run.x_aloadN (q := 185) X72 hx (hb hby d2_184) rfl rfl rfl ?_
   refine Run.z_getF (q := 188) X72 hx hZ e72 hown (wm23 hw) F_this_forward (hb hby d2_185) rfl fun T73 X73 e73 => ?_
   refine Run.x_iload (q := 190) X73 hx (hb hby d2_188) rfl rfl ?_
   refine Run.y_ldI (q := 191) X73 hx hZ e73 A_b4 (i := 3) (v := (.int (-1))) (by decide) rfl (hb hby d2_190) rfl ?_
   refine Run.x_icmpNo (q := 194) X73 hx (hb hby d2_191) (feq (own_nm1 hr0.1)).1 rfl ?_
   refine Run.x_aloadN (q := 195) X73 hx (hb hby d2_194) rfl rfl rfl ?_
   refine Run.z_getF (q := 198) X73 hx hZ e73 hown (wm27 hw) F_this_units (hb hby d2_195) rfl fun T74 X74 e74 => ?_
   refine Run.x_iloadN (q := 199) X74 hx (hb hby d2_198) rfl rfl ?_
   refine Run.x_aloadN (q := 200) X74 hx (hb hby d2_199) rfl rfl rfl ?_
   refine Run.z_getF (q := 203) X74 hx hZ e74 hown (wm23 hw) F_this_forward (hb hby d2_200) rfl fun T75 X75 e75 => ?_
   refine Run.x_iloadN (q := 204) X75 hx (hb hby d2_203) rfl rfl ?_
   refine Run.y_ldI (q := 205) X75 hx hZ e75 A_b4 (i := 0) (v := (.int c0)) (by decide) rfl (hb hby d2_204) rfl ?_
   refine Run.x_i2c (q := 206) X75 hx (hb hby d2_205) (z := c0) (own_ic hr0) rfl ?_
   refine Run.y_stC (q := 207) X75 hx hZ e75 A_b23 (i := 1) (by decide) (Nat.le_of_ble_eq_true rfl) (z' := c0) (own_nr hr0) (hb hby d2_206) rfl fun T76 h76 X76 e76 W76 A76 => ?_
   replace A_b23 : Ars Z h76 b23 .char [(.int c0), (.int c0), (.int 0)] := A76
   have N76 := Fr.snoc X76 N68 g_b23
   have Z76 : n0 ≤ h76.size := Nat.le_trans Z66 (Nat.le_of_eq W76.size.symm)
   refine Run.x_aloadN (q := 208) X76 hx (hb hby d2_207) rfl rfl rfl ?_
   replace F_this_targets := F_this_targets.other W76 (Or.inl ne_this_b23)
   refine Run.z_getF (q := 211) X76 hx hZ e76 hown (wm29 hw) F_this_targets (hb hby d2_208) rfl fun T77 X77 e77 => ?_
   refine Run.x_iloadN (q := 212) X77 hx (hb hby d2_211) rfl rfl ?_
   refine Run.x_iinc (q := 215) X77 hx #[.val (.ref this), .val (.ref pat), .val (.int 2), .val (.int 0), .val (.int 3), .val (.int 0)] (hb hby d2_212) rfl (z := (2 : Int32)) (by decide) rfl rfl ?_
   refine Run.x_iloadN (q := 216) X77 hx (hb hby d2_215) rfl rfl ?_
   refine Run.x_iconst (q := 217) X77 hx (hb hby d2_216) (z := (1 : Int32)) rfl rfl ?_
   refine Run.x_iadd (q := 218) X77 hx (hb hby d2_217) (z := (1 : Int32)) (by decide) rfl ?_
   replace A_b26 := A_b26.other W76 (Ne.symm ne_b23_b26)
   refine Run.y_stI (q := 219) X77 hx hZ e77 A_b26 (i := 1) (by decide) (Nat.le_of_ble_eq_true rfl) (hb hby d2_218) rfl fun T78 h78 X78 e78 W78 A78 => ?_
   replace A_b26 : Ars Z h78 b26 .int [(.int 2), (.int 1), (.int 0)] := A78
   have N78 := Fr.snoc X78 N76 g_b26
   have Z78 : n0 ≤ h78.size := Nat.le_trans Z76 (Nat.le_of_eq W78.size.symm)
   refine Run.x_aloadN (q := 220) X78 hx (hb hby d2_219) rfl rfl rfl ?_
   replace F_this_rows := (F_this_rows.other W76 (Or.inl ne_this_b23)).other W78 (Or.inl ne_this_b26)
   refine Run.z_getF (q := 223) X78 hx hZ e78 hown (wm25 hw) F_this_rows (hb hby d2_220) rfl fun T79 X79 e79 => ?_
   refine Run.x_iload (q := 225) X79 hx (hb hby d2_223) rfl rfl ?_
   refine Run.x_iconst (q := 226) X79 hx (hb hby d2_225) (z := (1 : Int32)) rfl rfl ?_
   refine Run.x_iadd (q := 227) X79 hx (hb hby d2_226) (z := (4 : Int32)) (by decide) rfl ?_
   refine Run.x_iloadN (q := 228) X79 hx (hb hby d2_227) rfl rfl ?_
   replace A_b20 := (A_b20.other W76 ne_b20_b23).other W78 ne_b20_b26
   refine Run.y_stI (q := 229) X79 hx hZ e79 A_b20 (i := 4) (by decide) (Nat.le_of_ble_eq_true rfl) (hb hby d2_228) rfl fun T80 h80 X80 e80 W80 A80 => ?_
   replace A_b20 : Ars Z h80 b20 .int [(.int 0), (.int 0), (.int 0), (.int 1), (.int 2)] := A80
   have N80 := Fr.snoc X80 N78 g_b20
   have Z80 : n0 ≤ h80.size := Nat.le_trans Z78 (Nat.le_of_eq W80.size.symm)
   refine Run.x_iload (q := 231) X80 hx (hb hby d2_229) rfl rfl ?_
   refine Run.x_aloadN (q := 232) X80 hx (hb hby d2_231) rfl rfl rfl ?_
   replace F_this_length := ((F_this_length.other W76 (Or.inl ne_this_b23)).other W78 (Or.inl ne_this_b26)).other W80 (Or.inl ne_this_b20)
   refine Run.z_getF (q := 235) X80 hx hZ e80 hown (wm20 hw) F_this_length (hb hby d2_232) rfl fun T81 X81 e81 => ?_
   refine Run.x_icmpYes (q := 248) X81 hx (hb hby d2_235) (flt (by decide : ¬ ((3 : Int32) < (3 : Int32)))).2.1 (by decide) (by decide) ?_
   refine Run.x_iinc (q := 251) X81 hx #[.val (.ref this), .val (.ref pat), .val (.int 2), .val (.int 0), .val (.int 4), .val (.int 0)] (hb hby d2_248) rfl (z := (4 : Int32)) (by decide) rfl rfl ?_
   refine Run.x_goto (q := 96) X81 hx (hb hby d2_251) (by decide) (by decide) ?_
   refine Run.x_iload (q := 98) X81 hx (hb hby d2_96) rfl rfl ?_
   refine Run.x_aloadN (q := 99) X81 hx (hb hby d2_98) rfl rfl rfl ?_
   refine Run.z_getF (q := 102) X81 hx hZ e81 hown (wm20 hw) F_this_length (hb hby d2_99) rfl fun T82 X82 e82 => ?_
   refine Run.x_icmpYes (q := 254) X82 hx (hb hby d2_102) (tlt (by decide : (3 : Int32) < (4 : Int32))).2.2.1 (by decide) (by decide) ?_
   replace E_this := ((E_this.wr W76).wr W78).wr W80
   replace F_this_forward := ((F_this_forward.other W76 (Or.inl ne_this_b23)).other W78 (Or.inl ne_this_b26)).other W80 (Or.inl ne_this_b20)
   replace F_this_rows := F_this_rows.other W80 (Or.inl ne_this_b20)
   replace F_this_units := ((F_this_units.other W76 (Or.inl ne_this_b23)).other W78 (Or.inl ne_this_b26)).other W80 (Or.inl ne_this_b20)
   replace F_this_targets := (F_this_targets.other W78 (Or.inl ne_this_b26)).other W80 (Or.inl ne_this_b20)
   replace A_pat := ((A_pat.other W76 ne_pat_b23).other W78 ne_pat_b26).other W80 ne_pat_b20
   replace A_b4 := ((A_b4.other W76 ne_b4_b23).other W78 ne_b4_b26).other W80 ne_b4_b20
   replace A_b23 := (A_b23.other W78 ne_b23_b26).other W80 (Ne.symm ne_b20_b23)
   replace A_b26 := A_b26.other W80 (Ne.symm ne_b20_b26)
   refine Run.retV X82 hx hlk e82 hret (hb hby d2_254) (by decide) (by decide) ?_
   have R0 : own_rw 0 c0 [(0 : Int32), (0 : Int32), (0 : Int32), (1 : Int32), (2 : Int32)] [c0, c0, (0 : Int32)] [(2 : Int32), (1 : Int32), (0 : Int32)] (fun u => (if c0 = u then (1 : Int32) else (0 : Int32))) := by
    refine ⟨0, 0, (0 : Int32), (0 : Int32), rfl, rfl, by decide, by decide, Nat.le_of_ble_eq_true rfl, Nat.le_of_ble_eq_true rfl, by decide, fun u hu => ?_⟩
    by_cases q_c0 : c0 = u
    ·subst q_c0
     exact Eq.trans (b := (1 : Int32)) (Eq.trans (own_next_p rfl) (by decide)) (Eq.symm (if_pos rfl))
    ·skip
     by_cases q_c2 : c2 = u
     ·subst q_c2
      exact Eq.trans (b := (0 : Int32)) (Eq.trans (own_next_n (fun h => hq_c0_c2 h.symm)) (rfl)) (Eq.symm (Eq.trans (if_neg (fun h => hq_c0_c2 h)) (rfl)))
     ·skip
      exact Eq.trans (b := (0 : Int32)) (Eq.trans (own_next_n (fun h => q_c0 h.symm)) (rfl)) (Eq.symm (Eq.trans (if_neg (fun h => q_c0 h)) (rfl)))
   have R1 : own_rw 1 c0 [(0 : Int32), (0 : Int32), (0 : Int32), (1 : Int32), (2 : Int32)] [c0, c0, (0 : Int32)] [(2 : Int32), (1 : Int32), (0 : Int32)] (fun u => (if c0 = c0 ∧ c0 = u then (2 : Int32) else (if c0 = u then (1 : Int32) else (0 : Int32)))) := by
    refine ⟨0, 0, (0 : Int32), (0 : Int32), rfl, rfl, by decide, by decide, Nat.le_of_ble_eq_true rfl, Nat.le_of_ble_eq_true rfl, by decide, fun u hu => ?_⟩
    by_cases q_c0 : c0 = u
    ·subst q_c0
     exact Eq.trans (b := (2 : Int32)) (Eq.trans (own_next_p rfl) (by decide)) (Eq.symm (if_pos ⟨rfl, rfl⟩))
    ·skip
     by_cases q_c2 : c2 = u
     ·subst q_c2
      exact Eq.trans (b := (0 : Int32)) (Eq.trans (own_next_n (fun h => hq_c0_c2 h.symm)) (rfl)) (Eq.symm (Eq.trans (if_neg (fun h => hq_c0_c2 h.2)) (Eq.trans (if_neg (fun h => hq_c0_c2 h)) (rfl))))
     ·skip
      exact Eq.trans (b := (0 : Int32)) (Eq.trans (own_next_n (fun h => q_c0 h.symm)) (rfl)) (Eq.symm (Eq.trans (if_neg (fun h => q_c0 h.2)) (Eq.trans (if_neg (fun h => q_c0 h)) (rfl))))
   have R2 : own_rw 2 c2 [(0 : Int32), (0 : Int32), (0 : Int32), (1 : Int32), (2 : Int32)] [c0, c0, (0 : Int32)] [(2 : Int32), (1 : Int32), (0 : Int32)] (fun u => (if c0 = c0 ∧ c0 = c0 ∧ c2 = u then (3 : Int32) else (if c0 = c0 ∧ c0 = u then (2 : Int32) else (if c0 = u then (1 : Int32) else (0 : Int32))))) := by
    refine ⟨0, 1, (0 : Int32), (1 : Int32), rfl, rfl, by decide, by decide, Nat.le_of_ble_eq_true rfl, Nat.le_of_ble_eq_true rfl, by decide, fun u hu => ?_⟩
    by_cases q_c0 : c0 = u
    ·subst q_c0
     exact Eq.trans (b := (2 : Int32)) (Eq.trans (own_next_n hq_c0_c2) (own_look_p rfl)) (Eq.symm (Eq.trans (if_neg (fun h => (fun h => hq_c0_c2 h.symm) h.2.2)) (if_pos ⟨rfl, rfl⟩)))
    ·skip
     by_cases q_c2 : c2 = u
     ·subst q_c2
      exact Eq.trans (b := (3 : Int32)) (Eq.trans (own_next_p rfl) (by decide)) (Eq.symm (if_pos ⟨rfl, rfl, rfl⟩))
     ·skip
      exact Eq.trans (b := (0 : Int32)) (Eq.trans (own_next_n (fun h => q_c2 h.symm)) (Eq.trans (own_look_n q_c0) (rfl))) (Eq.symm (Eq.trans (if_neg (fun h => q_c2 h.2.2)) (Eq.trans (if_neg (fun h => q_c0 h.2)) (Eq.trans (if_neg (fun h => q_c0 h)) (rfl)))))
   have R3 : own_rw 3 (-1 : Int32) [(0 : Int32), (0 : Int32), (0 : Int32), (1 : Int32), (2 : Int32)] [c0, c0, (0 : Int32)] [(2 : Int32), (1 : Int32), (0 : Int32)] (fun u => (if c0 = c0 ∧ c0 = c2 ∧ c2 = u then (3 : Int32) else (if c0 = c2 ∧ c0 = u then (2 : Int32) else (if c0 = u then (1 : Int32) else (0 : Int32))))) := by
    refine ⟨1, 1, (1 : Int32), (2 : Int32), rfl, rfl, by decide, by decide, Nat.le_of_ble_eq_true rfl, Nat.le_of_ble_eq_true rfl, by decide, fun u hu => ?_⟩
    by_cases q_c0 : c0 = u
    ·subst q_c0
     exact Eq.trans (b := (1 : Int32)) (Eq.trans (own_next_n (own_nm1 hr0.1)) (own_look_p rfl)) (Eq.symm (Eq.trans (if_neg (fun h => hq_c0_c2 h.2.1)) (Eq.trans (if_neg (fun h => hq_c0_c2 h.1)) (if_pos rfl))))
    ·skip
     by_cases q_c2 : c2 = u
     ·subst q_c2
      exact Eq.trans (b := (0 : Int32)) (Eq.trans (own_next_n (own_nm1 hr2.1)) (Eq.trans (own_look_n hq_c0_c2) (rfl))) (Eq.symm (Eq.trans (if_neg (fun h => hq_c0_c2 h.2.1)) (Eq.trans (if_neg (fun h => hq_c0_c2 h.1)) (Eq.trans (if_neg (fun h => hq_c0_c2 h)) (rfl)))))
     ·skip
      exact Eq.trans (b := (0 : Int32)) (Eq.trans (own_next_n (own_nm1 hu)) (Eq.trans (own_look_n q_c0) (rfl))) (Eq.symm (Eq.trans (if_neg (fun h => hq_c0_c2 h.2.1)) (Eq.trans (if_neg (fun h => hq_c0_c2 h.1)) (Eq.trans (if_neg (fun h => q_c0 h)) (rfl)))))
   exact ⟨b4, b20, b23, b26, [(0 : Int32), (0 : Int32), (0 : Int32), (1 : Int32), (2 : Int32)], [c0, c0, (0 : Int32)], [(2 : Int32), (1 : Int32), (0 : Int32)], rfl, N80, E_this, F_this_forward, F_this_rows, F_this_units, F_this_targets, A_b4, A_b20, A_b23, A_b26, R0, R1, R2, R3⟩
 ·skip
  refine Run.x_icmpNo (q := 194) X32 hx (hb hby d2_191) (feq hq_c0_c1).1 rfl ?_
  refine Run.x_aloadN (q := 195) X32 hx (hb hby d2_194) rfl rfl rfl ?_
  replace F_this_units := (F_this_units.ext E26).other W27 (Or.inr (slot_ne (Or.inr (wm28 hw)) (Or.inr (wm30 hw)) (by decide) (t := (.array .char)) (t' := (.array .int)) (by decide) (by decide)))
  refine Run.z_getF (q := 198) X32 hx hZ e32 hown (wm27 hw) F_this_units (hb hby d2_195) rfl fun T83 X83 e83 => ?_
  refine Run.x_iloadN (q := 199) X83 hx (hb hby d2_198) rfl rfl ?_
  refine Run.x_aloadN (q := 200) X83 hx (hb hby d2_199) rfl rfl rfl ?_
  refine Run.z_getF (q := 203) X83 hx hZ e83 hown (wm23 hw) F_this_forward (hb hby d2_200) rfl fun T84 X84 e84 => ?_
  refine Run.x_iloadN (q := 204) X84 hx (hb hby d2_203) rfl rfl ?_
  refine Run.y_ldI (q := 205) X84 hx hZ e84 A_b4 (i := 0) (v := (.int c0)) (by decide) rfl (hb hby d2_204) rfl ?_
  refine Run.x_i2c (q := 206) X84 hx (hb hby d2_205) (z := c0) (own_ic hr0) rfl ?_
  replace A_b23 := (A_b23.ext E26).other W27 (Ne.symm ne_this_b23)
  refine Run.y_stC (q := 207) X84 hx hZ e84 A_b23 (i := 0) (by decide) (Nat.le_of_ble_eq_true rfl) (z' := c0) (own_nr hr0) (hb hby d2_206) rfl fun T85 h85 X85 e85 W85 A85 => ?_
  replace A_b23 : Ars Z h85 b23 .char [(.int c0), (.int 0), (.int 0)] := A85
  have N85 := Fr.snoc X85 N27 g_b23
  have Z85 : n0 ≤ h85.size := Nat.le_trans Z27 (Nat.le_of_eq W85.size.symm)
  refine Run.x_aloadN (q := 208) X85 hx (hb hby d2_207) rfl rfl rfl ?_
  replace F_this_targets := F_this_targets.other W85 (Or.inl ne_this_b23)
  refine Run.z_getF (q := 211) X85 hx hZ e85 hown (wm29 hw) F_this_targets (hb hby d2_208) rfl fun T86 X86 e86 => ?_
  refine Run.x_iloadN (q := 212) X86 hx (hb hby d2_211) rfl rfl ?_
  refine Run.x_iinc (q := 215) X86 hx #[.val (.ref this), .val (.ref pat), .val (.int 1), .val (.int 0), .val (.int 1), .val (.int 0)] (hb hby d2_212) rfl (z := (1 : Int32)) (by decide) rfl rfl ?_
  refine Run.x_iloadN (q := 216) X86 hx (hb hby d2_215) rfl rfl ?_
  refine Run.x_iconst (q := 217) X86 hx (hb hby d2_216) (z := (1 : Int32)) rfl rfl ?_
  refine Run.x_iadd (q := 218) X86 hx (hb hby d2_217) (z := (1 : Int32)) (by decide) rfl ?_
  replace A_b26 := (A_b26.other W27 (Ne.symm ne_this_b26)).other W85 (Ne.symm ne_b23_b26)
  refine Run.y_stI (q := 219) X86 hx hZ e86 A_b26 (i := 0) (by decide) (Nat.le_of_ble_eq_true rfl) (hb hby d2_218) rfl fun T87 h87 X87 e87 W87 A87 => ?_
  replace A_b26 : Ars Z h87 b26 .int [(.int 1), (.int 0), (.int 0)] := A87
  have N87 := Fr.snoc X87 N85 g_b26
  have Z87 : n0 ≤ h87.size := Nat.le_trans Z85 (Nat.le_of_eq W87.size.symm)
  refine Run.x_aloadN (q := 220) X87 hx (hb hby d2_219) rfl rfl rfl ?_
  replace F_this_rows := (F_this_rows.other W85 (Or.inl ne_this_b23)).other W87 (Or.inl ne_this_b26)
  refine Run.z_getF (q := 223) X87 hx hZ e87 hown (wm25 hw) F_this_rows (hb hby d2_220) rfl fun T88 X88 e88 => ?_
  refine Run.x_iload (q := 225) X88 hx (hb hby d2_223) rfl rfl ?_
  refine Run.x_iconst (q := 226) X88 hx (hb hby d2_225) (z := (1 : Int32)) rfl rfl ?_
  refine Run.x_iadd (q := 227) X88 hx (hb hby d2_226) (z := (2 : Int32)) (by decide) rfl ?_
  refine Run.x_iloadN (q := 228) X88 hx (hb hby d2_227) rfl rfl ?_
  replace A_b20 := (A_b20.other W85 ne_b20_b23).other W87 ne_b20_b26
  refine Run.y_stI (q := 229) X88 hx hZ e88 A_b20 (i := 2) (by decide) (Nat.le_of_ble_eq_true rfl) (hb hby d2_228) rfl fun T89 h89 X89 e89 W89 A89 => ?_
  replace A_b20 : Ars Z h89 b20 .int [(.int 0), (.int 0), (.int 1), (.int 0), (.int 0)] := A89
  have N89 := Fr.snoc X89 N87 g_b20
  have Z89 : n0 ≤ h89.size := Nat.le_trans Z87 (Nat.le_of_eq W89.size.symm)
  refine Run.x_iload (q := 231) X89 hx (hb hby d2_229) rfl rfl ?_
  refine Run.x_aloadN (q := 232) X89 hx (hb hby d2_231) rfl rfl rfl ?_
  replace F_this_length := ((F_this_length.other W85 (Or.inl ne_this_b23)).other W87 (Or.inl ne_this_b26)).other W89 (Or.inl ne_this_b20)
  refine Run.z_getF (q := 235) X89 hx hZ e89 hown (wm20 hw) F_this_length (hb hby d2_232) rfl fun T90 X90 e90 => ?_
  refine Run.x_icmpNo (q := 238) X90 hx (hb hby d2_235) (tlt (by decide : (1 : Int32) < (3 : Int32))).2.1 rfl ?_
  refine Run.x_aloadN (q := 239) X90 hx (hb hby d2_238) rfl rfl rfl ?_
  refine Run.x_iloadN (q := 240) X90 hx (hb hby d2_239) rfl rfl ?_
  refine Run.x_aloadN (q := 241) X90 hx (hb hby d2_240) rfl rfl rfl ?_
  refine Run.x_iload (q := 243) X90 hx (hb hby d2_241) rfl rfl ?_
  replace A_pat := ((((A_pat.ext E26).other W27 (Ne.symm ne_this_pat)).other W85 ne_pat_b23).other W87 ne_pat_b26).other W89 ne_pat_b20
  refine Run.y_ldC (q := 244) X90 hx hZ e90 A_pat (i := 1) (v := (.int c1)) (by decide) rfl (hb hby d2_243) rfl ?_
  replace E_this := (((E_this.wr W27).wr W85).wr W87).wr W89
  replace F_this_forward := ((F_this_forward.other W85 (Or.inl ne_this_b23)).other W87 (Or.inl ne_this_b26)).other W89 (Or.inl ne_this_b20)
  replace F_this_rows := F_this_rows.other W89 (Or.inl ne_this_b20)
  replace F_this_units := ((F_this_units.other W85 (Or.inl ne_this_b23)).other W87 (Or.inl ne_this_b26)).other W89 (Or.inl ne_this_b20)
  replace F_this_targets := (F_this_targets.other W87 (Or.inl ne_this_b26)).other W89 (Or.inl ne_this_b20)
  replace A_b4 := ((A_b4.other W85 ne_b4_b23).other W87 ne_b4_b26).other W89 ne_b4_b20
  replace A_b23 := (A_b23.other W87 ne_b23_b26).other W89 (Ne.symm ne_b20_b23)
  replace A_b26 := A_b26.other W89 (Ne.symm ne_b20_b26)
  refine Run.callVI (q := 247) X90 hx hZ e90 (y := (⟨"needlewise/kmp/SparseAutomaton", "next", "(IC)I"⟩ : MethodName)) (z := (⟨"needlewise/kmp/SparseAutomaton", "next", "(IC)I"⟩ : MethodName)) hown (wm39 hw) (wm32 hw) (notFace_of_selects (args := #[]) (mvT hZ (wm34 hw))) (wm34 hw) (wm33 hw) (wm9 hw) (wm35 hw) (by decide) (a := this) E_this (argsL := [(.int 0), (.int c1)]) (rest := []) (c_next l Z a0 hw this (0 : Int32) c1 h89 n0 Z89 b4 b20 b23 b26 [(.int c0), (.int c1), (.int c2), (.int (-1))] [(.int 0), (.int 0), (.int 1), (.int 0), (.int 0)] [c0, (0 : Int32), (0 : Int32)] [(1 : Int32), (0 : Int32), (0 : Int32)] 0 0 0 c0 (0 : Int32) (0 : Int32) (0 : Int32) E_this F_this_forward F_this_rows F_this_units F_this_targets A_b4 A_b20 A_b23 A_b26 (by decide) (by decide) rfl rfl rfl (by decide) (by decide) (Nat.le_of_ble_eq_true rfl) (Nat.le_of_ble_eq_true rfl) (by decide) (Eq.trans (own_next_n (fun h => hq_c0_c1 h.symm)) (rfl))) pd_0 rfl (by rw [hml]; rfl) (W := 0) rfl (by decide) (by decide) (by decide) (by decide) (hb hby d2_244) rfl rfl fun T91 L91 X91 M91 e91 => ?_
  have N91 := Fr.app N89 M91
  refine Run.x_istoreN (q := 248) X91 hx #[.val (.ref this), .val (.ref pat), .val (.int 1), .val (.int 0), .val (.int 1), .val (.int 0)] (hb hby d2_247) rfl rfl ?_
  refine Run.x_iinc (q := 251) X91 hx #[.val (.ref this), .val (.ref pat), .val (.int 1), .val (.int 0), .val (.int 2), .val (.int 0)] (hb hby d2_248) rfl (z := (2 : Int32)) (by decide) rfl rfl ?_
  refine Run.x_goto (q := 96) X91 hx (hb hby d2_251) (by decide) (by decide) ?_
  refine Run.x_iload (q := 98) X91 hx (hb hby d2_96) rfl rfl ?_
  refine Run.x_aloadN (q := 99) X91 hx (hb hby d2_98) rfl rfl rfl ?_
  refine Run.z_getF (q := 102) X91 hx hZ e91 hown (wm20 hw) F_this_length (hb hby d2_99) rfl fun T92 X92 e92 => ?_
  refine Run.x_icmpNo (q := 105) X92 hx (hb hby d2_102) (flt (by decide : ¬ ((3 : Int32) < (2 : Int32)))).2.2.1 rfl ?_
  refine Run.x_aloadN (q := 106) X92 hx (hb hby d2_105) rfl rfl rfl ?_
  refine Run.z_getF (q := 109) X92 hx hZ e92 hown (wm25 hw) F_this_rows (hb hby d2_106) rfl fun T93 X93 e93 => ?_
  refine Run.x_iloadN (q := 110) X93 hx (hb hby d2_109) rfl rfl ?_
  refine Run.y_ldI (q := 111) X93 hx hZ e93 A_b20 (i := 0) (v := (.int 0)) (by decide) rfl (hb hby d2_110) rfl ?_
  refine Run.x_istore (q := 113) X93 hx #[.val (.ref this), .val (.ref pat), .val (.int 1), .val (.int 0), .val (.int 2), .val (.int 0)] (hb hby d2_111) rfl rfl ?_
  refine Run.x_iload (q := 115) X93 hx (hb hby d2_113) rfl rfl ?_
  refine Run.x_aloadN (q := 116) X93 hx (hb hby d2_115) rfl rfl rfl ?_
  refine Run.z_getF (q := 119) X93 hx hZ e93 hown (wm25 hw) F_this_rows (hb hby d2_116) rfl fun T94 X94 e94 => ?_
  refine Run.x_iloadN (q := 120) X94 hx (hb hby d2_119) rfl rfl ?_
  refine Run.x_iconst (q := 121) X94 hx (hb hby d2_120) (z := (1 : Int32)) rfl rfl ?_
  refine Run.x_iadd (q := 122) X94 hx (hb hby d2_121) (z := (1 : Int32)) (by decide) rfl ?_
  refine Run.y_ldI (q := 123) X94 hx hZ e94 A_b20 (i := 1) (v := (.int 0)) (by decide) rfl (hb hby d2_122) rfl ?_
  refine Run.x_icmpYes (q := 178) X94 hx (hb hby d2_123) (flt (by decide : ¬ ((0 : Int32) < (0 : Int32)))).2.1 (by decide) (by decide) ?_
  refine Run.x_aloadN (q := 179) X94 hx (hb hby d2_178) rfl rfl rfl ?_
  refine Run.z_getF (q := 182) X94 hx hZ e94 hown (wm23 hw) F_this_forward (hb hby d2_179) rfl fun T95 X95 e95 => ?_
  refine Run.x_iloadN (q := 183) X95 hx (hb hby d2_182) rfl rfl ?_
  refine Run.y_ldI (q := 184) X95 hx hZ e95 A_b4 (i := 0) (v := (.int c0)) (by decide) rfl (hb hby d2_183) rfl ?_
  refine Run.x_aloadN (q := 185) X95 hx (hb hby d2_184) rfl rfl rfl ?_
  refine Run.z_getF (q := 188) X95 hx hZ e95 hown (wm23 hw) F_this_forward (hb hby d2_185) rfl fun T96 X96 e96 => ?_
  refine Run.x_iload (q := 190) X96 hx (hb hby d2_188) rfl rfl ?_
  refine Run.y_ldI (q := 191) X96 hx hZ e96 A_b4 (i := 2) (v := (.int c2)) (by decide) rfl (hb hby d2_190) rfl ?_
  by_cases hq_c0_c2 : c0 = c2
  ·subst hq_c0_c2
   refine Run.x_icmpYes (q := 219) X96 hx (hb hby d2_191) (teq rfl).1 (by decide) (by decide) ?_
   refine Run.x_aloadN (q := 220) X96 hx (hb hby d2_219) rfl rfl rfl ?_
   refine Run.z_getF (q := 223) X96 hx hZ e96 hown (wm25 hw) F_this_rows (hb hby d2_220) rfl fun T97 X97 e97 => ?_
   refine Run.x_iload (q := 225) X97 hx (hb hby d2_223) rfl rfl ?_
   refine Run.x_iconst (q := 226) X97 hx (hb hby d2_225) (z := (1 : Int32)) rfl rfl ?_
   refine Run.x_iadd (q := 227) X97 hx (hb hby d2_226) (z := (3 : Int32)) (by decide) rfl ?_
   refine Run.x_iloadN (q := 228) X97 hx (hb hby d2_227) rfl rfl ?_
   refine Run.y_stI (q := 229) X97 hx hZ e97 A_b20 (i := 3) (by decide) (Nat.le_of_ble_eq_true rfl) (hb hby d2_228) rfl fun T98 h98 X98 e98 W98 A98 => ?_
   replace A_b20 : Ars Z h98 b20 .int [(.int 0), (.int 0), (.int 1), (.int 1), (.int 0)] := A98
   have N98 := Fr.snoc X98 N91 g_b20
   have Z98 : n0 ≤ h98.size := Nat.le_trans Z89 (Nat.le_of_eq W98.size.symm)
   refine Run.x_iload (q := 231) X98 hx (hb hby d2_229) rfl rfl ?_
   refine Run.x_aloadN (q := 232) X98 hx (hb hby d2_231) rfl rfl rfl ?_
   replace F_this_length := F_this_length.other W98 (Or.inl ne_this_b20)
   refine Run.z_getF (q := 235) X98 hx hZ e98 hown (wm20 hw) F_this_length (hb hby d2_232) rfl fun T99 X99 e99 => ?_
   refine Run.x_icmpNo (q := 238) X99 hx (hb hby d2_235) (tlt (by decide : (2 : Int32) < (3 : Int32))).2.1 rfl ?_
   refine Run.x_aloadN (q := 239) X99 hx (hb hby d2_238) rfl rfl rfl ?_
   refine Run.x_iloadN (q := 240) X99 hx (hb hby d2_239) rfl rfl ?_
   refine Run.x_aloadN (q := 241) X99 hx (hb hby d2_240) rfl rfl rfl ?_
   refine Run.x_iload (q := 243) X99 hx (hb hby d2_241) rfl rfl ?_
   replace A_pat := A_pat.other W98 ne_pat_b20
   refine Run.y_ldC (q := 244) X99 hx hZ e99 A_pat (i := 2) (v := (.int c0)) (by decide) rfl (hb hby d2_243) rfl ?_
   replace E_this := E_this.wr W98
   replace F_this_forward := F_this_forward.other W98 (Or.inl ne_this_b20)
   replace F_this_rows := F_this_rows.other W98 (Or.inl ne_this_b20)
   replace F_this_units := F_this_units.other W98 (Or.inl ne_this_b20)
   replace F_this_targets := F_this_targets.other W98 (Or.inl ne_this_b20)
   replace A_b4 := A_b4.other W98 ne_b4_b20
   replace A_b23 := A_b23.other W98 (Ne.symm ne_b20_b23)
   replace A_b26 := A_b26.other W98 (Ne.symm ne_b20_b26)
   refine Run.callVI (q := 247) X99 hx hZ e99 (y := (⟨"needlewise/kmp/SparseAutomaton", "next", "(IC)I"⟩ : MethodName)) (z := (⟨"needlewise/kmp/SparseAutomaton", "next", "(IC)I"⟩ : MethodName)) hown (wm39 hw) (wm32 hw) (notFace_of_selects (args := #[]) (mvT hZ (wm34 hw))) (wm34 hw) (wm33 hw) (wm9 hw) (wm35 hw) (by decide) (a := this) E_this (argsL := [(.int 0), (.int c0)]) (rest := []) (c_next l Z a0 hw this (0 : Int32) c0 h98 n0 Z98 b4 b20 b23 b26 [(.int c0), (.int c1), (.int c0), (.int (-1))] [(.int 0), (.int 0), (.int 1), (.int 1), (.int 0)] [c0, (0 : Int32), (0 : Int32)] [(1 : Int32), (0 : Int32), (0 : Int32)] 0 0 0 c0 (0 : Int32) (0 : Int32) (1 : Int32) E_this F_this_forward F_this_rows F_this_units F_this_targets A_b4 A_b20 A_b23 A_b26 (by decide) (by decide) rfl rfl rfl (by decide) (by decide) (Nat.le_of_ble_eq_true rfl) (Nat.le_of_ble_eq_true rfl) (by decide) (Eq.trans (own_next_p rfl) (by decide))) pd_0 rfl (by rw [hml]; rfl) (W := 0) rfl (by decide) (by decide) (by decide) (by decide) (hb hby d2_244) rfl rfl fun T100 L100 X100 M100 e100 => ?_
   have N100 := Fr.app N98 M100
   refine Run.x_istoreN (q := 248) X100 hx #[.val (.ref this), .val (.ref pat), .val (.int 1), .val (.int 1), .val (.int 2), .val (.int 0)] (hb hby d2_247) rfl rfl ?_
   refine Run.x_iinc (q := 251) X100 hx #[.val (.ref this), .val (.ref pat), .val (.int 1), .val (.int 1), .val (.int 3), .val (.int 0)] (hb hby d2_248) rfl (z := (3 : Int32)) (by decide) rfl rfl ?_
   refine Run.x_goto (q := 96) X100 hx (hb hby d2_251) (by decide) (by decide) ?_
   refine Run.x_iload (q := 98) X100 hx (hb hby d2_96) rfl rfl ?_
   refine Run.x_aloadN (q := 99) X100 hx (hb hby d2_98) rfl rfl rfl ?_
   refine Run.z_getF (q := 102) X100 hx hZ e100 hown (wm20 hw) F_this_length (hb hby d2_99) rfl fun T101 X101 e101 => ?_
   refine Run.x_icmpNo (q := 105) X101 hx (hb hby d2_102) (flt (by decide : ¬ ((3 : Int32) < (3 : Int32)))).2.2.1 rfl ?_
   refine Run.x_aloadN (q := 106) X101 hx (hb hby d2_105) rfl rfl rfl ?_
   refine Run.z_getF (q := 109) X101 hx hZ e101 hown (wm25 hw) F_this_rows (hb hby d2_106) rfl fun T102 X102 e102 => ?_
   refine Run.x_iloadN (q := 110) X102 hx (hb hby d2_109) rfl rfl ?_
   refine Run.y_ldI (q := 111) X102 hx hZ e102 A_b20 (i := 1) (v := (.int 0)) (by decide) rfl (hb hby d2_110) rfl ?_
   refine Run.x_istore (q := 113) X102 hx #[.val (.ref this), .val (.ref pat), .val (.int 1), .val (.int 1), .val (.int 3), .val (.int 0)] (hb hby d2_111) rfl rfl ?_
   refine Run.x_iload (q := 115) X102 hx (hb hby d2_113) rfl rfl ?_
   refine Run.x_aloadN (q := 116) X102 hx (hb hby d2_115) rfl rfl rfl ?_
   refine Run.z_getF (q := 119) X102 hx hZ e102 hown (wm25 hw) F_this_rows (hb hby d2_116) rfl fun T103 X103 e103 => ?_
   refine Run.x_iloadN (q := 120) X103 hx (hb hby d2_119) rfl rfl ?_
   refine Run.x_iconst (q := 121) X103 hx (hb hby d2_120) (z := (1 : Int32)) rfl rfl ?_
   refine Run.x_iadd (q := 122) X103 hx (hb hby d2_121) (z := (2 : Int32)) (by decide) rfl ?_
   refine Run.y_ldI (q := 123) X103 hx hZ e103 A_b20 (i := 2) (v := (.int 1)) (by decide) rfl (hb hby d2_122) rfl ?_
   refine Run.x_icmpNo (q := 126) X103 hx (hb hby d2_123) (tlt (by decide : (0 : Int32) < (1 : Int32))).2.1 rfl ?_
   refine Run.x_aloadN (q := 127) X103 hx (hb hby d2_126) rfl rfl rfl ?_
   refine Run.z_getF (q := 130) X103 hx hZ e103 hown (wm27 hw) F_this_units (hb hby d2_127) rfl fun T104 X104 e104 => ?_
   refine Run.x_iload (q := 132) X104 hx (hb hby d2_130) rfl rfl ?_
   refine Run.y_ldC (q := 133) X104 hx hZ e104 A_b23 (i := 0) (v := (.int c0)) (by decide) rfl (hb hby d2_132) rfl ?_
   refine Run.x_aloadN (q := 134) X104 hx (hb hby d2_133) rfl rfl rfl ?_
   refine Run.z_getF (q := 137) X104 hx hZ e104 hown (wm23 hw) F_this_forward (hb hby d2_134) rfl fun T105 X105 e105 => ?_
   refine Run.x_iload (q := 139) X105 hx (hb hby d2_137) rfl rfl ?_
   refine Run.y_ldI (q := 140) X105 hx hZ e105 A_b4 (i := 3) (v := (.int (-1))) (by decide) rfl (hb hby d2_139) rfl ?_
   refine Run.x_icmpNo (q := 143) X105 hx (hb hby d2_140) (feq (own_nm1 hr0.1)).1 rfl ?_
   refine Run.x_aloadN (q := 144) X105 hx (hb hby d2_143) rfl rfl rfl ?_
   refine Run.z_getF (q := 147) X105 hx hZ e105 hown (wm27 hw) F_this_units (hb hby d2_144) rfl fun T106 X106 e106 => ?_
   refine Run.x_iloadN (q := 148) X106 hx (hb hby d2_147) rfl rfl ?_
   refine Run.x_aloadN (q := 149) X106 hx (hb hby d2_148) rfl rfl rfl ?_
   refine Run.z_getF (q := 152) X106 hx hZ e106 hown (wm27 hw) F_this_units (hb hby d2_149) rfl fun T107 X107 e107 => ?_
   refine Run.x_iload (q := 154) X107 hx (hb hby d2_152) rfl rfl ?_
   refine Run.y_ldC (q := 155) X107 hx hZ e107 A_b23 (i := 0) (v := (.int c0)) (by decide) rfl (hb hby d2_154) rfl ?_
   refine Run.y_stC (q := 156) X107 hx hZ e107 A_b23 (i := 1) (by decide) (Nat.le_of_ble_eq_true rfl) (z' := c0) (own_nr hr0) (hb hby d2_155) rfl fun T108 h108 X108 e108 W108 A108 => ?_
   replace A_b23 : Ars Z h108 b23 .char [(.int c0), (.int c0), (.int 0)] := A108
   have N108 := Fr.snoc X108 N100 g_b23
   have Z108 : n0 ≤ h108.size := Nat.le_trans Z98 (Nat.le_of_eq W108.size.symm)
   refine Run.x_aloadN (q := 157) X108 hx (hb hby d2_156) rfl rfl rfl ?_
   replace F_this_targets := F_this_targets.other W108 (Or.inl ne_this_b23)
   refine Run.z_getF (q := 160) X108 hx hZ e108 hown (wm29 hw) F_this_targets (hb hby d2_157) rfl fun T109 X109 e109 => ?_
   refine Run.x_iloadN (q := 161) X109 hx (hb hby d2_160) rfl rfl ?_
   refine Run.x_iinc (q := 164) X109 hx #[.val (.ref this), .val (.ref pat), .val (.int 2), .val (.int 1), .val (.int 3), .val (.int 0)] (hb hby d2_161) rfl (z := (2 : Int32)) (by decide) rfl rfl ?_
   refine Run.x_aloadN (q := 165) X109 hx (hb hby d2_164) rfl rfl rfl ?_
   refine Run.z_getF (q := 168) X109 hx hZ e109 hown (wm29 hw) F_this_targets (hb hby d2_165) rfl fun T110 X110 e110 => ?_
   refine Run.x_iload (q := 170) X110 hx (hb hby d2_168) rfl rfl ?_
   replace A_b26 := A_b26.other W108 (Ne.symm ne_b23_b26)
   refine Run.y_ldI (q := 171) X110 hx hZ e110 A_b26 (i := 0) (v := (.int 1)) (by decide) rfl (hb hby d2_170) rfl ?_
   refine Run.y_stI (q := 172) X110 hx hZ e110 A_b26 (i := 1) (by decide) (Nat.le_of_ble_eq_true rfl) (hb hby d2_171) rfl fun T111 h111 X111 e111 W111 A111 => ?_
   replace A_b26 : Ars Z h111 b26 .int [(.int 1), (.int 1), (.int 0)] := A111
   have N111 := Fr.snoc X111 N108 g_b26
   have Z111 : n0 ≤ h111.size := Nat.le_trans Z108 (Nat.le_of_eq W111.size.symm)
   refine Run.x_iinc (q := 175) X111 hx #[.val (.ref this), .val (.ref pat), .val (.int 2), .val (.int 1), .val (.int 3), .val (.int 1)] (hb hby d2_172) rfl (z := (1 : Int32)) (by decide) rfl rfl ?_
   refine Run.x_goto (q := 113) X111 hx (hb hby d2_175) (by decide) (by decide) ?_
   refine Run.x_iload (q := 115) X111 hx (hb hby d2_113) rfl rfl ?_
   refine Run.x_aloadN (q := 116) X111 hx (hb hby d2_115) rfl rfl rfl ?_
   replace F_this_rows := (F_this_rows.other W108 (Or.inl ne_this_b23)).other W111 (Or.inl ne_this_b26)
   refine Run.z_getF (q := 119) X111 hx hZ e111 hown (wm25 hw) F_this_rows (hb hby d2_116) rfl fun T112 X112 e112 => ?_
   refine Run.x_iloadN (q := 120) X112 hx (hb hby d2_119) rfl rfl ?_
   refine Run.x_iconst (q := 121) X112 hx (hb hby d2_120) (z := (1 : Int32)) rfl rfl ?_
   refine Run.x_iadd (q := 122) X112 hx (hb hby d2_121) (z := (2 : Int32)) (by decide) rfl ?_
   replace A_b20 := (A_b20.other W108 ne_b20_b23).other W111 ne_b20_b26
   refine Run.y_ldI (q := 123) X112 hx hZ e112 A_b20 (i := 2) (v := (.int 1)) (by decide) rfl (hb hby d2_122) rfl ?_
   refine Run.x_icmpYes (q := 178) X112 hx (hb hby d2_123) (flt (by decide : ¬ ((1 : Int32) < (1 : Int32)))).2.1 (by decide) (by decide) ?_
   refine Run.x_aloadN (q := 179) X112 hx (hb hby d2_178) rfl rfl rfl ?_
   replace F_this_forward := (F_this_forward.other W108 (Or.inl ne_this_b23)).other W111 (Or.inl ne_this_b26)
   refine Run.z_getF (q := 182) X112 hx hZ e112 hown (wm23 hw) F_this_forward (hb hby d2_179) rfl fun T113 X113 e113 => ?_
   refine Run.x_iloadN (q := 183) X113 hx (hb hby d2_182) rfl rfl ?_
   replace A_b4 := (A_b4.other W108 ne_b4_b23).other W111 ne_b4_b26
   refine Run.y_ldI (q := 184) X113 hx hZ e113 A_b4 (i := 1) (v := (.int c1)) (by decide) rfl (hb hby d2_183) rfl ?_
   refine Run.x_aloadN (q := 185) X113 hx (hb hby d2_184) rfl rfl rfl ?_
   refine Run.z_getF (q := 188) X113 hx hZ e113 hown (wm23 hw) F_this_forward (hb hby d2_185) rfl fun T114 X114 e114 => ?_
   refine Run.x_iload (q := 190) X114 hx (hb hby d2_188) rfl rfl ?_
   refine Run.y_ldI (q := 191) X114 hx hZ e114 A_b4 (i := 3) (v := (.int (-1))) (by decide) rfl (hb hby d2_190) rfl ?_
   refine Run.x_icmpNo (q := 194) X114 hx (hb hby d2_191) (feq (own_nm1 hr1.1)).1 rfl ?_
   refine Run.x_aloadN (q := 195) X114 hx (hb hby d2_194) rfl rfl rfl ?_
   replace F_this_units := (F_this_units.other W108 (Or.inl ne_this_b23)).other W111 (Or.inl ne_this_b26)
   refine Run.z_getF (q := 198) X114 hx hZ e114 hown (wm27 hw) F_this_units (hb hby d2_195) rfl fun T115 X115 e115 => ?_
   refine Run.x_iloadN (q := 199) X115 hx (hb hby d2_198) rfl rfl ?_
   refine Run.x_aloadN (q := 200) X115 hx (hb hby d2_199) rfl rfl rfl ?_
   refine Run.z_getF (q := 203) X115 hx hZ e115 hown (wm23 hw) F_this_forward (hb hby d2_200) rfl fun T116 X116 e116 => ?_
   refine Run.x_iloadN (q := 204) X116 hx (hb hby d2_203) rfl rfl ?_
   refine Run.y_ldI (q := 205) X116 hx hZ e116 A_b4 (i := 1) (v := (.int c1)) (by decide) rfl (hb hby d2_204) rfl ?_
   refine Run.x_i2c (q := 206) X116 hx (hb hby d2_205) (z := c1) (own_ic hr1) rfl ?_
   replace A_b23 := A_b23.other W111 ne_b23_b26
   refine Run.y_stC (q := 207) X116 hx hZ e116 A_b23 (i := 2) (by decide) (Nat.le_of_ble_eq_true rfl) (z' := c1) (own_nr hr1) (hb hby d2_206) rfl fun T117 h117 X117 e117 W117 A117 => ?_
   replace A_b23 : Ars Z h117 b23 .char [(.int c0), (.int c0), (.int c1)] := A117
   have N117 := Fr.snoc X117 N111 g_b23
   have Z117 : n0 ≤ h117.size := Nat.le_trans Z111 (Nat.le_of_eq W117.size.symm)
   refine Run.x_aloadN (q := 208) X117 hx (hb hby d2_207) rfl rfl rfl ?_
   replace F_this_targets := (F_this_targets.other W111 (Or.inl ne_this_b26)).other W117 (Or.inl ne_this_b23)
   refine Run.z_getF (q := 211) X117 hx hZ e117 hown (wm29 hw) F_this_targets (hb hby d2_208) rfl fun T118 X118 e118 => ?_
   refine Run.x_iloadN (q := 212) X118 hx (hb hby d2_211) rfl rfl ?_
   refine Run.x_iinc (q := 215) X118 hx #[.val (.ref this), .val (.ref pat), .val (.int 3), .val (.int 1), .val (.int 3), .val (.int 1)] (hb hby d2_212) rfl (z := (3 : Int32)) (by decide) rfl rfl ?_
   refine Run.x_iloadN (q := 216) X118 hx (hb hby d2_215) rfl rfl ?_
   refine Run.x_iconst (q := 217) X118 hx (hb hby d2_216) (z := (1 : Int32)) rfl rfl ?_
   refine Run.x_iadd (q := 218) X118 hx (hb hby d2_217) (z := (2 : Int32)) (by decide) rfl ?_
   replace A_b26 := A_b26.other W117 (Ne.symm ne_b23_b26)
   refine Run.y_stI (q := 219) X118 hx hZ e118 A_b26 (i := 2) (by decide) (Nat.le_of_ble_eq_true rfl) (hb hby d2_218) rfl fun T119 h119 X119 e119 W119 A119 => ?_
   replace A_b26 : Ars Z h119 b26 .int [(.int 1), (.int 1), (.int 2)] := A119
   have N119 := Fr.snoc X119 N117 g_b26
   have Z119 : n0 ≤ h119.size := Nat.le_trans Z117 (Nat.le_of_eq W119.size.symm)
   refine Run.x_aloadN (q := 220) X119 hx (hb hby d2_219) rfl rfl rfl ?_
   replace F_this_rows := (F_this_rows.other W117 (Or.inl ne_this_b23)).other W119 (Or.inl ne_this_b26)
   refine Run.z_getF (q := 223) X119 hx hZ e119 hown (wm25 hw) F_this_rows (hb hby d2_220) rfl fun T120 X120 e120 => ?_
   refine Run.x_iload (q := 225) X120 hx (hb hby d2_223) rfl rfl ?_
   refine Run.x_iconst (q := 226) X120 hx (hb hby d2_225) (z := (1 : Int32)) rfl rfl ?_
   refine Run.x_iadd (q := 227) X120 hx (hb hby d2_226) (z := (4 : Int32)) (by decide) rfl ?_
   refine Run.x_iloadN (q := 228) X120 hx (hb hby d2_227) rfl rfl ?_
   replace A_b20 := (A_b20.other W117 ne_b20_b23).other W119 ne_b20_b26
   refine Run.y_stI (q := 229) X120 hx hZ e120 A_b20 (i := 4) (by decide) (Nat.le_of_ble_eq_true rfl) (hb hby d2_228) rfl fun T121 h121 X121 e121 W121 A121 => ?_
   replace A_b20 : Ars Z h121 b20 .int [(.int 0), (.int 0), (.int 1), (.int 1), (.int 3)] := A121
   have N121 := Fr.snoc X121 N119 g_b20
   have Z121 : n0 ≤ h121.size := Nat.le_trans Z119 (Nat.le_of_eq W121.size.symm)
   refine Run.x_iload (q := 231) X121 hx (hb hby d2_229) rfl rfl ?_
   refine Run.x_aloadN (q := 232) X121 hx (hb hby d2_231) rfl rfl rfl ?_
   replace F_this_length := ((((F_this_length.other W108 (Or.inl ne_this_b23)).other W111 (Or.inl ne_this_b26)).other W117 (Or.inl ne_this_b23)).other W119 (Or.inl ne_this_b26)).other W121 (Or.inl ne_this_b20)
   refine Run.z_getF (q := 235) X121 hx hZ e121 hown (wm20 hw) F_this_length (hb hby d2_232) rfl fun T122 X122 e122 => ?_
   refine Run.x_icmpYes (q := 248) X122 hx (hb hby d2_235) (flt (by decide : ¬ ((3 : Int32) < (3 : Int32)))).2.1 (by decide) (by decide) ?_
   refine Run.x_iinc (q := 251) X122 hx #[.val (.ref this), .val (.ref pat), .val (.int 3), .val (.int 1), .val (.int 4), .val (.int 1)] (hb hby d2_248) rfl (z := (4 : Int32)) (by decide) rfl rfl ?_
   refine Run.x_goto (q := 96) X122 hx (hb hby d2_251) (by decide) (by decide) ?_
   refine Run.x_iload (q := 98) X122 hx (hb hby d2_96) rfl rfl ?_
   refine Run.x_aloadN (q := 99) X122 hx (hb hby d2_98) rfl rfl rfl ?_
   refine Run.z_getF (q := 102) X122 hx hZ e122 hown (wm20 hw) F_this_length (hb hby d2_99) rfl fun T123 X123 e123 => ?_
   refine Run.x_icmpYes (q := 254) X123 hx (hb hby d2_102) (tlt (by decide : (3 : Int32) < (4 : Int32))).2.2.1 (by decide) (by decide) ?_
   replace E_this := ((((E_this.wr W108).wr W111).wr W117).wr W119).wr W121
   replace F_this_forward := ((F_this_forward.other W117 (Or.inl ne_this_b23)).other W119 (Or.inl ne_this_b26)).other W121 (Or.inl ne_this_b20)
   replace F_this_rows := F_this_rows.other W121 (Or.inl ne_this_b20)
   replace F_this_units := ((F_this_units.other W117 (Or.inl ne_this_b23)).other W119 (Or.inl ne_this_b26)).other W121 (Or.inl ne_this_b20)
   replace F_this_targets := (F_this_targets.other W119 (Or.inl ne_this_b26)).other W121 (Or.inl ne_this_b20)
   replace A_pat := ((((A_pat.other W108 ne_pat_b23).other W111 ne_pat_b26).other W117 ne_pat_b23).other W119 ne_pat_b26).other W121 ne_pat_b20
   replace A_b4 := ((A_b4.other W117 ne_b4_b23).other W119 ne_b4_b26).other W121 ne_b4_b20
   replace A_b23 := (A_b23.other W119 ne_b23_b26).other W121 (Ne.symm ne_b20_b23)
   replace A_b26 := A_b26.other W121 (Ne.symm ne_b20_b26)
   refine Run.retV X123 hx hlk e123 hret (hb hby d2_254) (by decide) (by decide) ?_
   have R0 : own_rw 0 c0 [(0 : Int32), (0 : Int32), (1 : Int32), (1 : Int32), (3 : Int32)] [c0, c0, c1] [(1 : Int32), (1 : Int32), (2 : Int32)] (fun u => (if c0 = u then (1 : Int32) else (0 : Int32))) := by
    refine ⟨0, 0, (0 : Int32), (0 : Int32), rfl, rfl, by decide, by decide, Nat.le_of_ble_eq_true rfl, Nat.le_of_ble_eq_true rfl, by decide, fun u hu => ?_⟩
    by_cases q_c0 : c0 = u
    ·subst q_c0
     exact Eq.trans (b := (1 : Int32)) (Eq.trans (own_next_p rfl) (by decide)) (Eq.symm (if_pos rfl))
    ·skip
     by_cases q_c1 : c1 = u
     ·subst q_c1
      exact Eq.trans (b := (0 : Int32)) (Eq.trans (own_next_n (fun h => hq_c0_c1 h.symm)) (rfl)) (Eq.symm (Eq.trans (if_neg (fun h => hq_c0_c1 h)) (rfl)))
     ·skip
      exact Eq.trans (b := (0 : Int32)) (Eq.trans (own_next_n (fun h => q_c0 h.symm)) (rfl)) (Eq.symm (Eq.trans (if_neg (fun h => q_c0 h)) (rfl)))
   have R1 : own_rw 1 c1 [(0 : Int32), (0 : Int32), (1 : Int32), (1 : Int32), (3 : Int32)] [c0, c0, c1] [(1 : Int32), (1 : Int32), (2 : Int32)] (fun u => (if c0 = c0 ∧ c1 = u then (2 : Int32) else (if c0 = u then (1 : Int32) else (0 : Int32)))) := by
    refine ⟨0, 1, (0 : Int32), (1 : Int32), rfl, rfl, by decide, by decide, Nat.le_of_ble_eq_true rfl, Nat.le_of_ble_eq_true rfl, by decide, fun u hu => ?_⟩
    by_cases q_c0 : c0 = u
    ·subst q_c0
     exact Eq.trans (b := (1 : Int32)) (Eq.trans (own_next_n hq_c0_c1) (own_look_p rfl)) (Eq.symm (Eq.trans (if_neg (fun h => (fun h => hq_c0_c1 h.symm) h.2)) (if_pos rfl)))
    ·skip
     by_cases q_c1 : c1 = u
     ·subst q_c1
      exact Eq.trans (b := (2 : Int32)) (Eq.trans (own_next_p rfl) (by decide)) (Eq.symm (if_pos ⟨rfl, rfl⟩))
     ·skip
      exact Eq.trans (b := (0 : Int32)) (Eq.trans (own_next_n (fun h => q_c1 h.symm)) (Eq.trans (own_look_n q_c0) (rfl))) (Eq.symm (Eq.trans (if_neg (fun h => q_c1 h.2)) (Eq.trans (if_neg (fun h => q_c0 h)) (rfl))))
   have R2 : own_rw 2 c0 [(0 : Int32), (0 : Int32), (1 : Int32), (1 : Int32), (3 : Int32)] [c0, c0, c1] [(1 : Int32), (1 : Int32), (2 : Int32)] (fun u => (if c0 = c0 ∧ c1 = c1 ∧ c0 = u then (3 : Int32) else (if c0 = c1 ∧ c1 = u then (2 : Int32) else (if c0 = u then (1 : Int32) else (0 : Int32))))) := by
    refine ⟨1, 0, (1 : Int32), (1 : Int32), rfl, rfl, by decide, by decide, Nat.le_of_ble_eq_true rfl, Nat.le_of_ble_eq_true rfl, by decide, fun u hu => ?_⟩
    by_cases q_c0 : c0 = u
    ·subst q_c0
     exact Eq.trans (b := (3 : Int32)) (Eq.trans (own_next_p rfl) (by decide)) (Eq.symm (if_pos ⟨rfl, rfl, rfl⟩))
    ·skip
     by_cases q_c1 : c1 = u
     ·subst q_c1
      exact Eq.trans (b := (0 : Int32)) (Eq.trans (own_next_n (fun h => hq_c0_c1 h.symm)) (rfl)) (Eq.symm (Eq.trans (if_neg (fun h => hq_c0_c1 h.2.2)) (Eq.trans (if_neg (fun h => hq_c0_c1 h.1)) (Eq.trans (if_neg (fun h => hq_c0_c1 h)) (rfl)))))
     ·skip
      exact Eq.trans (b := (0 : Int32)) (Eq.trans (own_next_n (fun h => q_c0 h.symm)) (rfl)) (Eq.symm (Eq.trans (if_neg (fun h => q_c0 h.2.2)) (Eq.trans (if_neg (fun h => hq_c0_c1 h.1)) (Eq.trans (if_neg (fun h => q_c0 h)) (rfl)))))
   have R3 : own_rw 3 (-1 : Int32) [(0 : Int32), (0 : Int32), (1 : Int32), (1 : Int32), (3 : Int32)] [c0, c0, c1] [(1 : Int32), (1 : Int32), (2 : Int32)] (fun u => (if c0 = c1 ∧ c1 = c0 ∧ c0 = u then (3 : Int32) else (if c0 = c0 ∧ c1 = u then (2 : Int32) else (if c0 = u then (1 : Int32) else (0 : Int32))))) := by
    refine ⟨1, 2, (1 : Int32), (3 : Int32), rfl, rfl, by decide, by decide, Nat.le_of_ble_eq_true rfl, Nat.le_of_ble_eq_true rfl, by decide, fun u hu => ?_⟩
    by_cases q_c0 : c0 = u
    ·subst q_c0
     exact Eq.trans (b := (1 : Int32)) (Eq.trans (own_next_n (own_nm1 hr0.1)) (own_look_p rfl)) (Eq.symm (Eq.trans (if_neg (fun h => hq_c0_c1 h.1)) (Eq.trans (if_neg (fun h => (fun h => hq_c0_c1 h.symm) h.2)) (if_pos rfl))))
    ·skip
     by_cases q_c1 : c1 = u
     ·subst q_c1
      exact Eq.trans (b := (2 : Int32)) (Eq.trans (own_next_n (own_nm1 hr1.1)) (Eq.trans (own_look_n hq_c0_c1) (own_look_p rfl))) (Eq.symm (Eq.trans (if_neg (fun h => hq_c0_c1 h.1)) (if_pos ⟨rfl, rfl⟩)))
     ·skip
      exact Eq.trans (b := (0 : Int32)) (Eq.trans (own_next_n (own_nm1 hu)) (Eq.trans (own_look_n q_c0) (Eq.trans (own_look_n q_c1) (rfl)))) (Eq.symm (Eq.trans (if_neg (fun h => hq_c0_c1 h.1)) (Eq.trans (if_neg (fun h => q_c1 h.2)) (Eq.trans (if_neg (fun h => q_c0 h)) (rfl)))))
   exact ⟨b4, b20, b23, b26, [(0 : Int32), (0 : Int32), (1 : Int32), (1 : Int32), (3 : Int32)], [c0, c0, c1], [(1 : Int32), (1 : Int32), (2 : Int32)], rfl, N121, E_this, F_this_forward, F_this_rows, F_this_units, F_this_targets, A_b4, A_b20, A_b23, A_b26, R0, R1, R2, R3⟩
  ·skip
   refine Run.x_icmpNo (q := 194) X96 hx (hb hby d2_191) (feq hq_c0_c2).1 rfl ?_
   refine Run.x_aloadN (q := 195) X96 hx (hb hby d2_194) rfl rfl rfl ?_
   refine Run.z_getF (q := 198) X96 hx hZ e96 hown (wm27 hw) F_this_units (hb hby d2_195) rfl fun T124 X124 e124 => ?_
   refine Run.x_iloadN (q := 199) X124 hx (hb hby d2_198) rfl rfl ?_
   refine Run.x_aloadN (q := 200) X124 hx (hb hby d2_199) rfl rfl rfl ?_
   refine Run.z_getF (q := 203) X124 hx hZ e124 hown (wm23 hw) F_this_forward (hb hby d2_200) rfl fun T125 X125 e125 => ?_
   refine Run.x_iloadN (q := 204) X125 hx (hb hby d2_203) rfl rfl ?_
   refine Run.y_ldI (q := 205) X125 hx hZ e125 A_b4 (i := 0) (v := (.int c0)) (by decide) rfl (hb hby d2_204) rfl ?_
   refine Run.x_i2c (q := 206) X125 hx (hb hby d2_205) (z := c0) (own_ic hr0) rfl ?_
   refine Run.y_stC (q := 207) X125 hx hZ e125 A_b23 (i := 1) (by decide) (Nat.le_of_ble_eq_true rfl) (z' := c0) (own_nr hr0) (hb hby d2_206) rfl fun T126 h126 X126 e126 W126 A126 => ?_
   replace A_b23 : Ars Z h126 b23 .char [(.int c0), (.int c0), (.int 0)] := A126
   have N126 := Fr.snoc X126 N91 g_b23
   have Z126 : n0 ≤ h126.size := Nat.le_trans Z89 (Nat.le_of_eq W126.size.symm)
   refine Run.x_aloadN (q := 208) X126 hx (hb hby d2_207) rfl rfl rfl ?_
   replace F_this_targets := F_this_targets.other W126 (Or.inl ne_this_b23)
   refine Run.z_getF (q := 211) X126 hx hZ e126 hown (wm29 hw) F_this_targets (hb hby d2_208) rfl fun T127 X127 e127 => ?_
   refine Run.x_iloadN (q := 212) X127 hx (hb hby d2_211) rfl rfl ?_
   refine Run.x_iinc (q := 215) X127 hx #[.val (.ref this), .val (.ref pat), .val (.int 2), .val (.int 0), .val (.int 2), .val (.int 0)] (hb hby d2_212) rfl (z := (2 : Int32)) (by decide) rfl rfl ?_
   refine Run.x_iloadN (q := 216) X127 hx (hb hby d2_215) rfl rfl ?_
   refine Run.x_iconst (q := 217) X127 hx (hb hby d2_216) (z := (1 : Int32)) rfl rfl ?_
   refine Run.x_iadd (q := 218) X127 hx (hb hby d2_217) (z := (1 : Int32)) (by decide) rfl ?_
   replace A_b26 := A_b26.other W126 (Ne.symm ne_b23_b26)
   refine Run.y_stI (q := 219) X127 hx hZ e127 A_b26 (i := 1) (by decide) (Nat.le_of_ble_eq_true rfl) (hb hby d2_218) rfl fun T128 h128 X128 e128 W128 A128 => ?_
   replace A_b26 : Ars Z h128 b26 .int [(.int 1), (.int 1), (.int 0)] := A128
   have N128 := Fr.snoc X128 N126 g_b26
   have Z128 : n0 ≤ h128.size := Nat.le_trans Z126 (Nat.le_of_eq W128.size.symm)
   refine Run.x_aloadN (q := 220) X128 hx (hb hby d2_219) rfl rfl rfl ?_
   replace F_this_rows := (F_this_rows.other W126 (Or.inl ne_this_b23)).other W128 (Or.inl ne_this_b26)
   refine Run.z_getF (q := 223) X128 hx hZ e128 hown (wm25 hw) F_this_rows (hb hby d2_220) rfl fun T129 X129 e129 => ?_
   refine Run.x_iload (q := 225) X129 hx (hb hby d2_223) rfl rfl ?_
   refine Run.x_iconst (q := 226) X129 hx (hb hby d2_225) (z := (1 : Int32)) rfl rfl ?_
   refine Run.x_iadd (q := 227) X129 hx (hb hby d2_226) (z := (3 : Int32)) (by decide) rfl ?_
   refine Run.x_iloadN (q := 228) X129 hx (hb hby d2_227) rfl rfl ?_
   replace A_b20 := (A_b20.other W126 ne_b20_b23).other W128 ne_b20_b26
   refine Run.y_stI (q := 229) X129 hx hZ e129 A_b20 (i := 3) (by decide) (Nat.le_of_ble_eq_true rfl) (hb hby d2_228) rfl fun T130 h130 X130 e130 W130 A130 => ?_
   replace A_b20 : Ars Z h130 b20 .int [(.int 0), (.int 0), (.int 1), (.int 2), (.int 0)] := A130
   have N130 := Fr.snoc X130 N128 g_b20
   have Z130 : n0 ≤ h130.size := Nat.le_trans Z128 (Nat.le_of_eq W130.size.symm)
   refine Run.x_iload (q := 231) X130 hx (hb hby d2_229) rfl rfl ?_
   refine Run.x_aloadN (q := 232) X130 hx (hb hby d2_231) rfl rfl rfl ?_
   replace F_this_length := ((F_this_length.other W126 (Or.inl ne_this_b23)).other W128 (Or.inl ne_this_b26)).other W130 (Or.inl ne_this_b20)
   refine Run.z_getF (q := 235) X130 hx hZ e130 hown (wm20 hw) F_this_length (hb hby d2_232) rfl fun T131 X131 e131 => ?_
   refine Run.x_icmpNo (q := 238) X131 hx (hb hby d2_235) (tlt (by decide : (2 : Int32) < (3 : Int32))).2.1 rfl ?_
   refine Run.x_aloadN (q := 239) X131 hx (hb hby d2_238) rfl rfl rfl ?_
   refine Run.x_iloadN (q := 240) X131 hx (hb hby d2_239) rfl rfl ?_
   refine Run.x_aloadN (q := 241) X131 hx (hb hby d2_240) rfl rfl rfl ?_
   refine Run.x_iload (q := 243) X131 hx (hb hby d2_241) rfl rfl ?_
   replace A_pat := ((A_pat.other W126 ne_pat_b23).other W128 ne_pat_b26).other W130 ne_pat_b20
   refine Run.y_ldC (q := 244) X131 hx hZ e131 A_pat (i := 2) (v := (.int c2)) (by decide) rfl (hb hby d2_243) rfl ?_
   replace E_this := ((E_this.wr W126).wr W128).wr W130
   replace F_this_forward := ((F_this_forward.other W126 (Or.inl ne_this_b23)).other W128 (Or.inl ne_this_b26)).other W130 (Or.inl ne_this_b20)
   replace F_this_rows := F_this_rows.other W130 (Or.inl ne_this_b20)
   replace F_this_units := ((F_this_units.other W126 (Or.inl ne_this_b23)).other W128 (Or.inl ne_this_b26)).other W130 (Or.inl ne_this_b20)
   replace F_this_targets := (F_this_targets.other W128 (Or.inl ne_this_b26)).other W130 (Or.inl ne_this_b20)
   replace A_b4 := ((A_b4.other W126 ne_b4_b23).other W128 ne_b4_b26).other W130 ne_b4_b20
   replace A_b23 := (A_b23.other W128 ne_b23_b26).other W130 (Ne.symm ne_b20_b23)
   replace A_b26 := A_b26.other W130 (Ne.symm ne_b20_b26)
   refine Run.callVI (q := 247) X131 hx hZ e131 (y := (⟨"needlewise/kmp/SparseAutomaton", "next", "(IC)I"⟩ : MethodName)) (z := (⟨"needlewise/kmp/SparseAutomaton", "next", "(IC)I"⟩ : MethodName)) hown (wm39 hw) (wm32 hw) (notFace_of_selects (args := #[]) (mvT hZ (wm34 hw))) (wm34 hw) (wm33 hw) (wm9 hw) (wm35 hw) (by decide) (a := this) E_this (argsL := [(.int 0), (.int c2)]) (rest := []) (c_next l Z a0 hw this (0 : Int32) c2 h130 n0 Z130 b4 b20 b23 b26 [(.int c0), (.int c1), (.int c2), (.int (-1))] [(.int 0), (.int 0), (.int 1), (.int 2), (.int 0)] [c0, c0, (0 : Int32)] [(1 : Int32), (1 : Int32), (0 : Int32)] 0 0 0 c0 (0 : Int32) (0 : Int32) (0 : Int32) E_this F_this_forward F_this_rows F_this_units F_this_targets A_b4 A_b20 A_b23 A_b26 (by decide) (by decide) rfl rfl rfl (by decide) (by decide) (Nat.le_of_ble_eq_true rfl) (Nat.le_of_ble_eq_true rfl) (by decide) (Eq.trans (own_next_n (fun h => hq_c0_c2 h.symm)) (rfl))) pd_0 rfl (by rw [hml]; rfl) (W := 0) rfl (by decide) (by decide) (by decide) (by decide) (hb hby d2_244) rfl rfl fun T132 L132 X132 M132 e132 => ?_
   have N132 := Fr.app N130 M132
   refine Run.x_istoreN (q := 248) X132 hx #[.val (.ref this), .val (.ref pat), .val (.int 2), .val (.int 0), .val (.int 2), .val (.int 0)] (hb hby d2_247) rfl rfl ?_
   refine Run.x_iinc (q := 251) X132 hx #[.val (.ref this), .val (.ref pat), .val (.int 2), .val (.int 0), .val (.int 3), .val (.int 0)] (hb hby d2_248) rfl (z := (3 : Int32)) (by decide) rfl rfl ?_
   refine Run.x_goto (q := 96) X132 hx (hb hby d2_251) (by decide) (by decide) ?_
   refine Run.x_iload (q := 98) X132 hx (hb hby d2_96) rfl rfl ?_
   refine Run.x_aloadN (q := 99) X132 hx (hb hby d2_98) rfl rfl rfl ?_
   refine Run.z_getF (q := 102) X132 hx hZ e132 hown (wm20 hw) F_this_length (hb hby d2_99) rfl fun T133 X133 e133 => ?_
   refine Run.x_icmpNo (q := 105) X133 hx (hb hby d2_102) (flt (by decide : ¬ ((3 : Int32) < (3 : Int32)))).2.2.1 rfl ?_
   refine Run.x_aloadN (q := 106) X133 hx (hb hby d2_105) rfl rfl rfl ?_
   refine Run.z_getF (q := 109) X133 hx hZ e133 hown (wm25 hw) F_this_rows (hb hby d2_106) rfl fun T134 X134 e134 => ?_
   refine Run.x_iloadN (q := 110) X134 hx (hb hby d2_109) rfl rfl ?_
   refine Run.y_ldI (q := 111) X134 hx hZ e134 A_b20 (i := 0) (v := (.int 0)) (by decide) rfl (hb hby d2_110) rfl ?_
   refine Run.x_istore (q := 113) X134 hx #[.val (.ref this), .val (.ref pat), .val (.int 2), .val (.int 0), .val (.int 3), .val (.int 0)] (hb hby d2_111) rfl rfl ?_
   refine Run.x_iload (q := 115) X134 hx (hb hby d2_113) rfl rfl ?_
   refine Run.x_aloadN (q := 116) X134 hx (hb hby d2_115) rfl rfl rfl ?_
   refine Run.z_getF (q := 119) X134 hx hZ e134 hown (wm25 hw) F_this_rows (hb hby d2_116) rfl fun T135 X135 e135 => ?_
   refine Run.x_iloadN (q := 120) X135 hx (hb hby d2_119) rfl rfl ?_
   refine Run.x_iconst (q := 121) X135 hx (hb hby d2_120) (z := (1 : Int32)) rfl rfl ?_
   refine Run.x_iadd (q := 122) X135 hx (hb hby d2_121) (z := (1 : Int32)) (by decide) rfl ?_
   refine Run.y_ldI (q := 123) X135 hx hZ e135 A_b20 (i := 1) (v := (.int 0)) (by decide) rfl (hb hby d2_122) rfl ?_
   refine Run.x_icmpYes (q := 178) X135 hx (hb hby d2_123) (flt (by decide : ¬ ((0 : Int32) < (0 : Int32)))).2.1 (by decide) (by decide) ?_
   refine Run.x_aloadN (q := 179) X135 hx (hb hby d2_178) rfl rfl rfl ?_
   refine Run.z_getF (q := 182) X135 hx hZ e135 hown (wm23 hw) F_this_forward (hb hby d2_179) rfl fun T136 X136 e136 => ?_
   refine Run.x_iloadN (q := 183) X136 hx (hb hby d2_182) rfl rfl ?_
   refine Run.y_ldI (q := 184) X136 hx hZ e136 A_b4 (i := 0) (v := (.int c0)) (by decide) rfl (hb hby d2_183) rfl ?_
   refine Run.x_aloadN (q := 185) X136 hx (hb hby d2_184) rfl rfl rfl ?_
   refine Run.z_getF (q := 188) X136 hx hZ e136 hown (wm23 hw) F_this_forward (hb hby d2_185) rfl fun T137 X137 e137 => ?_
   refine Run.x_iload (q := 190) X137 hx (hb hby d2_188) rfl rfl ?_
   refine Run.y_ldI (q := 191) X137 hx hZ e137 A_b4 (i := 3) (v := (.int (-1))) (by decide) rfl (hb hby d2_190) rfl ?_
   refine Run.x_icmpNo (q := 194) X137 hx (hb hby d2_191) (feq (own_nm1 hr0.1)).1 rfl ?_
   refine Run.x_aloadN (q := 195) X137 hx (hb hby d2_194) rfl rfl rfl ?_
   refine Run.z_getF (q := 198) X137 hx hZ e137 hown (wm27 hw) F_this_units (hb hby d2_195) rfl fun T138 X138 e138 => ?_
   refine Run.x_iloadN (q := 199) X138 hx (hb hby d2_198) rfl rfl ?_
   refine Run.x_aloadN (q := 200) X138 hx (hb hby d2_199) rfl rfl rfl ?_
   refine Run.z_getF (q := 203) X138 hx hZ e138 hown (wm23 hw) F_this_forward (hb hby d2_200) rfl fun T139 X139 e139 => ?_
   refine Run.x_iloadN (q := 204) X139 hx (hb hby d2_203) rfl rfl ?_
   refine Run.y_ldI (q := 205) X139 hx hZ e139 A_b4 (i := 0) (v := (.int c0)) (by decide) rfl (hb hby d2_204) rfl ?_
   refine Run.x_i2c (q := 206) X139 hx (hb hby d2_205) (z := c0) (own_ic hr0) rfl ?_
   refine Run.y_stC (q := 207) X139 hx hZ e139 A_b23 (i := 2) (by decide) (Nat.le_of_ble_eq_true rfl) (z' := c0) (own_nr hr0) (hb hby d2_206) rfl fun T140 h140 X140 e140 W140 A140 => ?_
   replace A_b23 : Ars Z h140 b23 .char [(.int c0), (.int c0), (.int c0)] := A140
   have N140 := Fr.snoc X140 N132 g_b23
   have Z140 : n0 ≤ h140.size := Nat.le_trans Z130 (Nat.le_of_eq W140.size.symm)
   refine Run.x_aloadN (q := 208) X140 hx (hb hby d2_207) rfl rfl rfl ?_
   replace F_this_targets := F_this_targets.other W140 (Or.inl ne_this_b23)
   refine Run.z_getF (q := 211) X140 hx hZ e140 hown (wm29 hw) F_this_targets (hb hby d2_208) rfl fun T141 X141 e141 => ?_
   refine Run.x_iloadN (q := 212) X141 hx (hb hby d2_211) rfl rfl ?_
   refine Run.x_iinc (q := 215) X141 hx #[.val (.ref this), .val (.ref pat), .val (.int 3), .val (.int 0), .val (.int 3), .val (.int 0)] (hb hby d2_212) rfl (z := (3 : Int32)) (by decide) rfl rfl ?_
   refine Run.x_iloadN (q := 216) X141 hx (hb hby d2_215) rfl rfl ?_
   refine Run.x_iconst (q := 217) X141 hx (hb hby d2_216) (z := (1 : Int32)) rfl rfl ?_
   refine Run.x_iadd (q := 218) X141 hx (hb hby d2_217) (z := (1 : Int32)) (by decide) rfl ?_
   replace A_b26 := A_b26.other W140 (Ne.symm ne_b23_b26)
   refine Run.y_stI (q := 219) X141 hx hZ e141 A_b26 (i := 2) (by decide) (Nat.le_of_ble_eq_true rfl) (hb hby d2_218) rfl fun T142 h142 X142 e142 W142 A142 => ?_
   replace A_b26 : Ars Z h142 b26 .int [(.int 1), (.int 1), (.int 1)] := A142
   have N142 := Fr.snoc X142 N140 g_b26
   have Z142 : n0 ≤ h142.size := Nat.le_trans Z140 (Nat.le_of_eq W142.size.symm)
   refine Run.x_aloadN (q := 220) X142 hx (hb hby d2_219) rfl rfl rfl ?_
   replace F_this_rows := (F_this_rows.other W140 (Or.inl ne_this_b23)).other W142 (Or.inl ne_this_b26)
   refine Run.z_getF (q := 223) X142 hx hZ e142 hown (wm25 hw) F_this_rows (hb hby d2_220) rfl fun T143 X143 e143 => ?_
   refine Run.x_iload (q := 225) X143 hx (hb hby d2_223) rfl rfl ?_
   refine Run.x_iconst (q := 226) X143 hx (hb hby d2_225) (z := (1 : Int32)) rfl rfl ?_
   refine Run.x_iadd (q := 227) X143 hx (hb hby d2_226) (z := (4 : Int32)) (by decide) rfl ?_
   refine Run.x_iloadN (q := 228) X143 hx (hb hby d2_227) rfl rfl ?_
   replace A_b20 := (A_b20.other W140 ne_b20_b23).other W142 ne_b20_b26
   refine Run.y_stI (q := 229) X143 hx hZ e143 A_b20 (i := 4) (by decide) (Nat.le_of_ble_eq_true rfl) (hb hby d2_228) rfl fun T144 h144 X144 e144 W144 A144 => ?_
   replace A_b20 : Ars Z h144 b20 .int [(.int 0), (.int 0), (.int 1), (.int 2), (.int 3)] := A144
   have N144 := Fr.snoc X144 N142 g_b20
   have Z144 : n0 ≤ h144.size := Nat.le_trans Z142 (Nat.le_of_eq W144.size.symm)
   refine Run.x_iload (q := 231) X144 hx (hb hby d2_229) rfl rfl ?_
   refine Run.x_aloadN (q := 232) X144 hx (hb hby d2_231) rfl rfl rfl ?_
   replace F_this_length := ((F_this_length.other W140 (Or.inl ne_this_b23)).other W142 (Or.inl ne_this_b26)).other W144 (Or.inl ne_this_b20)
   refine Run.z_getF (q := 235) X144 hx hZ e144 hown (wm20 hw) F_this_length (hb hby d2_232) rfl fun T145 X145 e145 => ?_
   refine Run.x_icmpYes (q := 248) X145 hx (hb hby d2_235) (flt (by decide : ¬ ((3 : Int32) < (3 : Int32)))).2.1 (by decide) (by decide) ?_
   refine Run.x_iinc (q := 251) X145 hx #[.val (.ref this), .val (.ref pat), .val (.int 3), .val (.int 0), .val (.int 4), .val (.int 0)] (hb hby d2_248) rfl (z := (4 : Int32)) (by decide) rfl rfl ?_
   refine Run.x_goto (q := 96) X145 hx (hb hby d2_251) (by decide) (by decide) ?_
   refine Run.x_iload (q := 98) X145 hx (hb hby d2_96) rfl rfl ?_
   refine Run.x_aloadN (q := 99) X145 hx (hb hby d2_98) rfl rfl rfl ?_
   refine Run.z_getF (q := 102) X145 hx hZ e145 hown (wm20 hw) F_this_length (hb hby d2_99) rfl fun T146 X146 e146 => ?_
   refine Run.x_icmpYes (q := 254) X146 hx (hb hby d2_102) (tlt (by decide : (3 : Int32) < (4 : Int32))).2.2.1 (by decide) (by decide) ?_
   replace E_this := ((E_this.wr W140).wr W142).wr W144
   replace F_this_forward := ((F_this_forward.other W140 (Or.inl ne_this_b23)).other W142 (Or.inl ne_this_b26)).other W144 (Or.inl ne_this_b20)
   replace F_this_rows := F_this_rows.other W144 (Or.inl ne_this_b20)
   replace F_this_units := ((F_this_units.other W140 (Or.inl ne_this_b23)).other W142 (Or.inl ne_this_b26)).other W144 (Or.inl ne_this_b20)
   replace F_this_targets := (F_this_targets.other W142 (Or.inl ne_this_b26)).other W144 (Or.inl ne_this_b20)
   replace A_pat := ((A_pat.other W140 ne_pat_b23).other W142 ne_pat_b26).other W144 ne_pat_b20
   replace A_b4 := ((A_b4.other W140 ne_b4_b23).other W142 ne_b4_b26).other W144 ne_b4_b20
   replace A_b23 := (A_b23.other W142 ne_b23_b26).other W144 (Ne.symm ne_b20_b23)
   replace A_b26 := A_b26.other W144 (Ne.symm ne_b20_b26)
   refine Run.retV X146 hx hlk e146 hret (hb hby d2_254) (by decide) (by decide) ?_
   by_cases hq_c1_c2 : c1 = c2
   ·subst hq_c1_c2
    have R0 : own_rw 0 c0 [(0 : Int32), (0 : Int32), (1 : Int32), (2 : Int32), (3 : Int32)] [c0, c0, c0] [(1 : Int32), (1 : Int32), (1 : Int32)] (fun u => (if c0 = u then (1 : Int32) else (0 : Int32))) := by
     refine ⟨0, 0, (0 : Int32), (0 : Int32), rfl, rfl, by decide, by decide, Nat.le_of_ble_eq_true rfl, Nat.le_of_ble_eq_true rfl, by decide, fun u hu => ?_⟩
     by_cases q_c0 : c0 = u
     ·subst q_c0
      exact Eq.trans (b := (1 : Int32)) (Eq.trans (own_next_p rfl) (by decide)) (Eq.symm (if_pos rfl))
     ·skip
      by_cases q_c1 : c1 = u
      ·subst q_c1
       exact Eq.trans (b := (0 : Int32)) (Eq.trans (own_next_n (fun h => hq_c0_c1 h.symm)) (rfl)) (Eq.symm (Eq.trans (if_neg (fun h => hq_c0_c1 h)) (rfl)))
      ·skip
       exact Eq.trans (b := (0 : Int32)) (Eq.trans (own_next_n (fun h => q_c0 h.symm)) (rfl)) (Eq.symm (Eq.trans (if_neg (fun h => q_c0 h)) (rfl)))
    have R1 : own_rw 1 c1 [(0 : Int32), (0 : Int32), (1 : Int32), (2 : Int32), (3 : Int32)] [c0, c0, c0] [(1 : Int32), (1 : Int32), (1 : Int32)] (fun u => (if c0 = c0 ∧ c1 = u then (2 : Int32) else (if c0 = u then (1 : Int32) else (0 : Int32)))) := by
     refine ⟨0, 1, (0 : Int32), (1 : Int32), rfl, rfl, by decide, by decide, Nat.le_of_ble_eq_true rfl, Nat.le_of_ble_eq_true rfl, by decide, fun u hu => ?_⟩
     by_cases q_c0 : c0 = u
     ·subst q_c0
      exact Eq.trans (b := (1 : Int32)) (Eq.trans (own_next_n hq_c0_c1) (own_look_p rfl)) (Eq.symm (Eq.trans (if_neg (fun h => (fun h => hq_c0_c1 h.symm) h.2)) (if_pos rfl)))
     ·skip
      by_cases q_c1 : c1 = u
      ·subst q_c1
       exact Eq.trans (b := (2 : Int32)) (Eq.trans (own_next_p rfl) (by decide)) (Eq.symm (if_pos ⟨rfl, rfl⟩))
      ·skip
       exact Eq.trans (b := (0 : Int32)) (Eq.trans (own_next_n (fun h => q_c1 h.symm)) (Eq.trans (own_look_n q_c0) (rfl))) (Eq.symm (Eq.trans (if_neg (fun h => q_c1 h.2)) (Eq.trans (if_neg (fun h => q_c0 h)) (rfl))))
    have R2 : own_rw 2 c1 [(0 : Int32), (0 : Int32), (1 : Int32), (2 : Int32), (3 : Int32)] [c0, c0, c0] [(1 : Int32), (1 : Int32), (1 : Int32)] (fun u => (if c0 = c0 ∧ c1 = c1 ∧ c1 = u then (3 : Int32) else (if c0 = c1 ∧ c1 = u then (2 : Int32) else (if c0 = u then (1 : Int32) else (0 : Int32))))) := by
     refine ⟨1, 1, (1 : Int32), (2 : Int32), rfl, rfl, by decide, by decide, Nat.le_of_ble_eq_true rfl, Nat.le_of_ble_eq_true rfl, by decide, fun u hu => ?_⟩
     by_cases q_c0 : c0 = u
     ·subst q_c0
      exact Eq.trans (b := (1 : Int32)) (Eq.trans (own_next_n hq_c0_c1) (own_look_p rfl)) (Eq.symm (Eq.trans (if_neg (fun h => (fun h => hq_c0_c1 h.symm) h.2.2)) (Eq.trans (if_neg (fun h => hq_c0_c1 h.1)) (if_pos rfl))))
     ·skip
      by_cases q_c1 : c1 = u
      ·subst q_c1
       exact Eq.trans (b := (3 : Int32)) (Eq.trans (own_next_p rfl) (by decide)) (Eq.symm (if_pos ⟨rfl, rfl, rfl⟩))
      ·skip
       exact Eq.trans (b := (0 : Int32)) (Eq.trans (own_next_n (fun h => q_c1 h.symm)) (Eq.trans (own_look_n q_c0) (rfl))) (Eq.symm (Eq.trans (if_neg (fun h => q_c1 h.2.2)) (Eq.trans (if_neg (fun h => hq_c0_c1 h.1)) (Eq.trans (if_neg (fun h => q_c0 h)) (rfl)))))
    have R3 : own_rw 3 (-1 : Int32) [(0 : Int32), (0 : Int32), (1 : Int32), (2 : Int32), (3 : Int32)] [c0, c0, c0] [(1 : Int32), (1 : Int32), (1 : Int32)] (fun u => (if c0 = c1 ∧ c1 = c1 ∧ c1 = u then (3 : Int32) else (if c0 = c1 ∧ c1 = u then (2 : Int32) else (if c0 = u then (1 : Int32) else (0 : Int32))))) := by
     refine ⟨2, 1, (2 : Int32), (3 : Int32), rfl, rfl, by decide, by decide, Nat.le_of_ble_eq_true rfl, Nat.le_of_ble_eq_true rfl, by decide, fun u hu => ?_⟩
     by_cases q_c0 : c0 = u
     ·subst q_c0
      exact Eq.trans (b := (1 : Int32)) (Eq.trans (own_next_n (own_nm1 hr0.1)) (own_look_p rfl)) (Eq.symm (Eq.trans (if_neg (fun h => hq_c0_c1 h.1)) (Eq.trans (if_neg (fun h => hq_c0_c1 h.1)) (if_pos rfl))))
     ·skip
      by_cases q_c1 : c1 = u
      ·subst q_c1
       exact Eq.trans (b := (0 : Int32)) (Eq.trans (own_next_n (own_nm1 hr1.1)) (Eq.trans (own_look_n hq_c0_c1) (rfl))) (Eq.symm (Eq.trans (if_neg (fun h => hq_c0_c1 h.1)) (Eq.trans (if_neg (fun h => hq_c0_c1 h.1)) (Eq.trans (if_neg (fun h => hq_c0_c1 h)) (rfl)))))
      ·skip
       exact Eq.trans (b := (0 : Int32)) (Eq.trans (own_next_n (own_nm1 hu)) (Eq.trans (own_look_n q_c0) (rfl))) (Eq.symm (Eq.trans (if_neg (fun h => hq_c0_c1 h.1)) (Eq.trans (if_neg (fun h => hq_c0_c1 h.1)) (Eq.trans (if_neg (fun h => q_c0 h)) (rfl)))))
    exact ⟨b4, b20, b23, b26, [(0 : Int32), (0 : Int32), (1 : Int32), (2 : Int32), (3 : Int32)], [c0, c0, c0], [(1 : Int32), (1 : Int32), (1 : Int32)], rfl, N144, E_this, F_this_forward, F_this_rows, F_this_units, F_this_targets, A_b4, A_b20, A_b23, A_b26, R0, R1, R2, R3⟩
   ·skip
    have R0 : own_rw 0 c0 [(0 : Int32), (0 : Int32), (1 : Int32), (2 : Int32), (3 : Int32)] [c0, c0, c0] [(1 : Int32), (1 : Int32), (1 : Int32)] (fun u => (if c0 = u then (1 : Int32) else (0 : Int32))) := by
     refine ⟨0, 0, (0 : Int32), (0 : Int32), rfl, rfl, by decide, by decide, Nat.le_of_ble_eq_true rfl, Nat.le_of_ble_eq_true rfl, by decide, fun u hu => ?_⟩
     by_cases q_c0 : c0 = u
     ·subst q_c0
      exact Eq.trans (b := (1 : Int32)) (Eq.trans (own_next_p rfl) (by decide)) (Eq.symm (if_pos rfl))
     ·skip
      by_cases q_c1 : c1 = u
      ·subst q_c1
       exact Eq.trans (b := (0 : Int32)) (Eq.trans (own_next_n (fun h => hq_c0_c1 h.symm)) (rfl)) (Eq.symm (Eq.trans (if_neg (fun h => hq_c0_c1 h)) (rfl)))
      ·skip
       by_cases q_c2 : c2 = u
       ·subst q_c2
        exact Eq.trans (b := (0 : Int32)) (Eq.trans (own_next_n (fun h => hq_c0_c2 h.symm)) (rfl)) (Eq.symm (Eq.trans (if_neg (fun h => hq_c0_c2 h)) (rfl)))
       ·skip
        exact Eq.trans (b := (0 : Int32)) (Eq.trans (own_next_n (fun h => q_c0 h.symm)) (rfl)) (Eq.symm (Eq.trans (if_neg (fun h => q_c0 h)) (rfl)))
    have R1 : own_rw 1 c1 [(0 : Int32), (0 : Int32), (1 : Int32), (2 : Int32), (3 : Int32)] [c0, c0, c0] [(1 : Int32), (1 : Int32), (1 : Int32)] (fun u => (if c0 = c0 ∧ c1 = u then (2 : Int32) else (if c0 = u then (1 : Int32) else (0 : Int32)))) := by
     refine ⟨0, 1, (0 : Int32), (1 : Int32), rfl, rfl, by decide, by decide, Nat.le_of_ble_eq_true rfl, Nat.le_of_ble_eq_true rfl, by decide, fun u hu => ?_⟩
     by_cases q_c0 : c0 = u
     ·subst q_c0
      exact Eq.trans (b := (1 : Int32)) (Eq.trans (own_next_n hq_c0_c1) (own_look_p rfl)) (Eq.symm (Eq.trans (if_neg (fun h => (fun h => hq_c0_c1 h.symm) h.2)) (if_pos rfl)))
     ·skip
      by_cases q_c1 : c1 = u
      ·subst q_c1
       exact Eq.trans (b := (2 : Int32)) (Eq.trans (own_next_p rfl) (by decide)) (Eq.symm (if_pos ⟨rfl, rfl⟩))
      ·skip
       by_cases q_c2 : c2 = u
       ·subst q_c2
        exact Eq.trans (b := (0 : Int32)) (Eq.trans (own_next_n (fun h => hq_c1_c2 h.symm)) (Eq.trans (own_look_n hq_c0_c2) (rfl))) (Eq.symm (Eq.trans (if_neg (fun h => hq_c1_c2 h.2)) (Eq.trans (if_neg (fun h => hq_c0_c2 h)) (rfl))))
       ·skip
        exact Eq.trans (b := (0 : Int32)) (Eq.trans (own_next_n (fun h => q_c1 h.symm)) (Eq.trans (own_look_n q_c0) (rfl))) (Eq.symm (Eq.trans (if_neg (fun h => q_c1 h.2)) (Eq.trans (if_neg (fun h => q_c0 h)) (rfl))))
    have R2 : own_rw 2 c2 [(0 : Int32), (0 : Int32), (1 : Int32), (2 : Int32), (3 : Int32)] [c0, c0, c0] [(1 : Int32), (1 : Int32), (1 : Int32)] (fun u => (if c0 = c0 ∧ c1 = c1 ∧ c2 = u then (3 : Int32) else (if c0 = c1 ∧ c1 = u then (2 : Int32) else (if c0 = u then (1 : Int32) else (0 : Int32))))) := by
     refine ⟨1, 1, (1 : Int32), (2 : Int32), rfl, rfl, by decide, by decide, Nat.le_of_ble_eq_true rfl, Nat.le_of_ble_eq_true rfl, by decide, fun u hu => ?_⟩
     by_cases q_c0 : c0 = u
     ·subst q_c0
      exact Eq.trans (b := (1 : Int32)) (Eq.trans (own_next_n hq_c0_c2) (own_look_p rfl)) (Eq.symm (Eq.trans (if_neg (fun h => (fun h => hq_c0_c2 h.symm) h.2.2)) (Eq.trans (if_neg (fun h => hq_c0_c1 h.1)) (if_pos rfl))))
     ·skip
      by_cases q_c1 : c1 = u
      ·subst q_c1
       exact Eq.trans (b := (0 : Int32)) (Eq.trans (own_next_n hq_c1_c2) (Eq.trans (own_look_n hq_c0_c1) (rfl))) (Eq.symm (Eq.trans (if_neg (fun h => (fun h => hq_c1_c2 h.symm) h.2.2)) (Eq.trans (if_neg (fun h => hq_c0_c1 h.1)) (Eq.trans (if_neg (fun h => hq_c0_c1 h)) (rfl)))))
      ·skip
       by_cases q_c2 : c2 = u
       ·subst q_c2
        exact Eq.trans (b := (3 : Int32)) (Eq.trans (own_next_p rfl) (by decide)) (Eq.symm (if_pos ⟨rfl, rfl, rfl⟩))
       ·skip
        exact Eq.trans (b := (0 : Int32)) (Eq.trans (own_next_n (fun h => q_c2 h.symm)) (Eq.trans (own_look_n q_c0) (rfl))) (Eq.symm (Eq.trans (if_neg (fun h => q_c2 h.2.2)) (Eq.trans (if_neg (fun h => hq_c0_c1 h.1)) (Eq.trans (if_neg (fun h => q_c0 h)) (rfl)))))
    have R3 : own_rw 3 (-1 : Int32) [(0 : Int32), (0 : Int32), (1 : Int32), (2 : Int32), (3 : Int32)] [c0, c0, c0] [(1 : Int32), (1 : Int32), (1 : Int32)] (fun u => (if c0 = c1 ∧ c1 = c2 ∧ c2 = u then (3 : Int32) else (if c0 = c2 ∧ c1 = u then (2 : Int32) else (if c0 = u then (1 : Int32) else (0 : Int32))))) := by
     refine ⟨2, 1, (2 : Int32), (3 : Int32), rfl, rfl, by decide, by decide, Nat.le_of_ble_eq_true rfl, Nat.le_of_ble_eq_true rfl, by decide, fun u hu => ?_⟩
     by_cases q_c0 : c0 = u
     ·subst q_c0
      exact Eq.trans (b := (1 : Int32)) (Eq.trans (own_next_n (own_nm1 hr0.1)) (own_look_p rfl)) (Eq.symm (Eq.trans (if_neg (fun h => hq_c0_c1 h.1)) (Eq.trans (if_neg (fun h => hq_c0_c2 h.1)) (if_pos rfl))))
     ·skip
      by_cases q_c1 : c1 = u
      ·subst q_c1
       exact Eq.trans (b := (0 : Int32)) (Eq.trans (own_next_n (own_nm1 hr1.1)) (Eq.trans (own_look_n hq_c0_c1) (rfl))) (Eq.symm (Eq.trans (if_neg (fun h => hq_c0_c1 h.1)) (Eq.trans (if_neg (fun h => hq_c0_c2 h.1)) (Eq.trans (if_neg (fun h => hq_c0_c1 h)) (rfl)))))
      ·skip
       by_cases q_c2 : c2 = u
       ·subst q_c2
        exact Eq.trans (b := (0 : Int32)) (Eq.trans (own_next_n (own_nm1 hr2.1)) (Eq.trans (own_look_n hq_c0_c2) (rfl))) (Eq.symm (Eq.trans (if_neg (fun h => hq_c0_c1 h.1)) (Eq.trans (if_neg (fun h => hq_c0_c2 h.1)) (Eq.trans (if_neg (fun h => hq_c0_c2 h)) (rfl)))))
       ·skip
        exact Eq.trans (b := (0 : Int32)) (Eq.trans (own_next_n (own_nm1 hu)) (Eq.trans (own_look_n q_c0) (rfl))) (Eq.symm (Eq.trans (if_neg (fun h => hq_c0_c1 h.1)) (Eq.trans (if_neg (fun h => hq_c0_c2 h.1)) (Eq.trans (if_neg (fun h => q_c0 h)) (rfl)))))
    exact ⟨b4, b20, b23, b26, [(0 : Int32), (0 : Int32), (1 : Int32), (2 : Int32), (3 : Int32)], [c0, c0, c0], [(1 : Int32), (1 : Int32), (1 : Int32)], rfl, N144, E_this, F_this_forward, F_this_rows, F_this_units, F_this_targets, A_b4, A_b20, A_b23, A_b26, R0, R1, R2, R3⟩
   -- 
theorem ef_c_init4 (m : MethodId) (this : Addr) (pat : Addr) : entryFrame m #[(.ref this), (.ref pat)] 6 = mkF m 0 #[.val (.ref this), .val (.ref pat), .unset, .unset, .unset, .unset] [] := by first | (simp [entryFrame, mkF, argsToLocals, Value.category]; done) | rfl
set_option maxRecDepth 65536 in
set_option maxHeartbeats 40000000 in
theorem c_init4 (l : Launch) (Z : State) (a0 : Array Value) (hw : ∀ d ∈ tables_1, d.before a0 Z = true) (this : Addr) (pat : Addr) (h0 : Heap) (n0 : Nat) (Z0 : n0 ≤ h0.size) (c0 : Int32) (c1 : Int32) (c2 : Int32) (c3 : Int32) (E_this : Exa Z h0 this "needlewise/kmp/SparseAutomaton") (F_this_length : Fld Z h0 this "needlewise/kmp/SparseAutomaton" "length" "I" (.int 0)) (F_this_forward : Fld Z h0 this "needlewise/kmp/SparseAutomaton" "forward" "[I" .null) (F_this_rows : Fld Z h0 this "needlewise/kmp/SparseAutomaton" "rows" "[I" .null) (F_this_units : Fld Z h0 this "needlewise/kmp/SparseAutomaton" "units" "[C" .null) (F_this_targets : Fld Z h0 this "needlewise/kmp/SparseAutomaton" "targets" "[I" .null) (A_pat : Ars Z h0 pat .char [(.int c0), (.int c1), (.int c2), (.int c3)]) (g_this : n0 ≤ this) (ne_this_pat : this ≠ pat) (hr0 : 0 ≤ c0.toInt ∧ c0.toInt < 65536) (hr1 : 0 ≤ c1.toInt ∧ c1.toInt < 65536) (hr2 : 0 ≤ c2.toInt ∧ c2.toInt < 65536) (hr3 : 0 ≤ c3.toInt ∧ c3.toInt < 65536) :
  Ctr l Z (⟨"needlewise/kmp/SparseAutomaton", "<init>", "([C)V"⟩ : MethodName) prog_24_method_1_code 6 none ({ frames := 1, cells := 4, slots := 19, locals := 15 } : Room) #[(.ref this), (.ref pat)] h0 (fun v h L => ∃ (fo ro uo to : Addr) (rw un tg : List Int32), v = none ∧ Fr n0 L ∧ Exa Z h this "needlewise/kmp/SparseAutomaton" ∧ Fld Z h this "needlewise/kmp/SparseAutomaton" "forward" "[I" (.ref fo) ∧ Fld Z h this "needlewise/kmp/SparseAutomaton" "rows" "[I" (.ref ro) ∧ Fld Z h this "needlewise/kmp/SparseAutomaton" "units" "[C" (.ref uo) ∧ Fld Z h this "needlewise/kmp/SparseAutomaton" "targets" "[I" (.ref to) ∧ Ars Z h fo .int [(.int c0), (.int c1), (.int c2), (.int c3), (.int (-1))] ∧ Ars Z h ro .int (rw.map Value.int) ∧ Ars Z h uo .char (un.map Value.int) ∧ Ars Z h to .int (tg.map Value.int) ∧ own_rw 0 c0 rw un tg (fun u => (if c0 = u then (1 : Int32) else (0 : Int32))) ∧ own_rw 1 c1 rw un tg (fun u => (if c0 = c0 ∧ c1 = u then (2 : Int32) else (if c0 = u then (1 : Int32) else (0 : Int32)))) ∧ own_rw 2 c2 rw un tg (fun u => (if c0 = c0 ∧ c1 = c1 ∧ c2 = u then (3 : Int32) else (if c0 = c1 ∧ c1 = u then (2 : Int32) else (if c0 = u then (1 : Int32) else (0 : Int32))))) ∧ own_rw 3 c3 rw un tg (fun u => (if c0 = c0 ∧ c1 = c1 ∧ c2 = c2 ∧ c3 = u then (4 : Int32) else (if c0 = c1 ∧ c1 = c2 ∧ c2 = u then (3 : Int32) else (if c0 = c2 ∧ c1 = u then (2 : Int32) else (if c0 = u then (1 : Int32) else (0 : Int32)))))) ∧ own_rw 4 (-1 : Int32) rw un tg (fun u => (if c0 = c1 ∧ c1 = c2 ∧ c2 = c3 ∧ c3 = u then (4 : Int32) else (if c0 = c2 ∧ c1 = c3 ∧ c2 = u then (3 : Int32) else (if c0 = c3 ∧ c1 = u then (2 : Int32) else (if c0 = u then (1 : Int32) else (0 : Int32))))))) := by
 refine Ctr.of (plainFor_of_name pn_0) (fun m => ef_c_init4 m this pat) ?_
 intro p e s m below meth c T0 hx hby hml hown hnm hret hlk hZ e0 X0
 have N0 := Fr.nil n0
 replace hown : s.vm.findClass "needlewise/kmp/SparseAutomaton" = some m.cls := hown
 replace hml : c.maxLocals = 6 := hml
 refine Run.x_aloadN (q := 1) X0 hx (hb hby d2_0) rfl rfl rfl ?_
 refine Run.init X0 hx hZ e0 hown (wm17 hw) (wm18 hw) (wm19 hw) (by rw [hml]; rfl) (hb hby d2_1) (by decide) (W := 0) rfl (by decide) ?_
 intro T1 X1 e1
 show Run p e below s _ _ _ (T1.setTop (mkF m 4 #[.val (.ref this), .val (.ref pat), .unset, .unset, .unset, .unset] []))
 refine Run.x_aloadN (q := 5) X1 hx (hb hby d2_4) rfl rfl rfl ?_
 refine Run.x_aloadN (q := 6) X1 hx (hb hby d2_5) rfl rfl rfl ?_
 refine Run.y_alen (q := 7) X1 hx hZ e1 A_pat (z := (4 : Int32)) rfl (hb hby d2_6) rfl ?_
 obtain ⟨T2, h2, X2, e2, W2, st2⟩ := putF X1 hx hZ hown (host := "") (Or.inl (wm20 hw)) Via.refl e1 F_this_length E_this (Or.inr ⟨(wm21 hw), rfl, hnm⟩) (wm8 hw) (ty := .int) (by decide) rfl rfl (g := (mkF m 7 #[.val (.ref this), .val (.ref pat), .unset, .unset, .unset, .unset] [(.int 4), (.ref this)])) rfl rfl (hb hby d2_7)
 replace F_this_length := F_this_length.same W2
 have Z2 : n0 ≤ h2.size := Nat.le_trans Z0 (Nat.le_of_eq W2.size.symm)
 have N2 := Fr.snoc X2 N0 g_this
 refine Run.st st2 ?_
 show Run p e below s _ _ _ (T2.setTop (mkF m 10 #[.val (.ref this), .val (.ref pat), .unset, .unset, .unset, .unset] []))
 refine Run.x_aloadN (q := 11) X2 hx (hb hby d2_10) rfl rfl rfl ?_
 refine Run.x_aloadN (q := 12) X2 hx (hb hby d2_11) rfl rfl rfl ?_
 refine Run.z_getF (q := 15) X2 hx hZ e2 hown (wm20 hw) F_this_length (hb hby d2_12) rfl fun T3 X3 e3 => ?_
 refine Run.x_iconst (q := 16) X3 hx (hb hby d2_15) (z := (1 : Int32)) rfl rfl ?_
 refine Run.x_iadd (q := 17) X3 hx (hb hby d2_16) (z := (5 : Int32)) (by decide) rfl ?_
 refine Run.newP (aty := .int) X3 hx hZ e3 (wm22 hw) (hb hby d2_17) (len := 5) (by decide) (by decide) (cap := 5) (by decide) (by decide) (by decide) (by decide) ?_
 intro T4 h4 b4 gg4 X4 e4 E4 A_b4
 have g_b4 : n0 ≤ b4 := Nat.le_trans Z2 (Nat.le_of_eq gg4.symm)
 replace E_this := E_this.wr W2
 have ne_this_b4 : this ≠ b4 := Nat.ne_of_lt (Nat.lt_of_lt_of_le E_this.lt (Nat.le_of_eq gg4.symm))
 replace A_pat := A_pat.other W2 (Ne.symm ne_this_pat)
 have ne_pat_b4 : pat ≠ b4 := Nat.ne_of_lt (Nat.lt_of_lt_of_le A_pat.lt (Nat.le_of_eq gg4.symm))
 have Z4 : n0 ≤ h4.size := Nat.le_trans Z2 E4.1
 replace A_b4 : Ars Z h4 b4 .int [(.int 0), (.int 0), (.int 0), (.int 0), (.int 0)] := A_b4
 show Run p e below s _ _ _ (T4.setTop (mkF m 19 #[.val (.ref this), .val (.ref pat), .unset, .unset, .unset, .unset] [(.ref b4), (.ref this)]))
 replace F_this_forward := (F_this_forward.other W2 (Or.inr (slot_ne (Or.inr (wm24 hw)) (Or.inr (wm21 hw)) (by decide) (t := (.array .int)) (t' := .int) (by decide) (by decide)))).ext E4
 replace E_this := E_this.ext E4
 obtain ⟨T5, h5, X5, e5, W5, st5⟩ := putF X4 hx hZ hown (host := "") (Or.inl (wm23 hw)) Via.refl e4 F_this_forward E_this (Or.inr ⟨(wm24 hw), rfl, hnm⟩) (wm8 hw) (ty := (.array .int)) (by decide) rfl rfl (g := (mkF m 19 #[.val (.ref this), .val (.ref pat), .unset, .unset, .unset, .unset] [(.ref b4), (.ref this)])) rfl rfl (hb hby d2_19)
 replace F_this_forward := F_this_forward.same W5
 have Z5 : n0 ≤ h5.size := Nat.le_trans Z4 (Nat.le_of_eq W5.size.symm)
 have N5 := Fr.snoc X5 N2 g_this
 refine Run.st st5 ?_
 show Run p e below s _ _ _ (T5.setTop (mkF m 22 #[.val (.ref this), .val (.ref pat), .unset, .unset, .unset, .unset] []))
 refine Run.x_iconst (q := 23) X5 hx (hb hby d2_22) (z := (0 : Int32)) rfl rfl ?_
 refine Run.x_istoreN (q := 24) X5 hx #[.val (.ref this), .val (.ref pat), .val (.int 0), .unset, .unset, .unset] (hb hby d2_23) rfl rfl ?_
 refine Run.x_iloadN (q := 25) X5 hx (hb hby d2_24) rfl rfl ?_
 refine Run.x_aloadN (q := 26) X5 hx (hb hby d2_25) rfl rfl rfl ?_
 replace F_this_length := (F_this_length.ext E4).other W5 (Or.inr (slot_ne (Or.inr (wm21 hw)) (Or.inr (wm24 hw)) (by decide) (t := .int) (t' := (.array .int)) (by decide) (by decide)))
 refine Run.z_getF (q := 29) X5 hx hZ e5 hown (wm20 hw) F_this_length (hb hby d2_26) rfl fun T6 X6 e6 => ?_
 refine Run.x_icmpNo (q := 32) X6 hx (hb hby d2_29) (tlt (by decide : (0 : Int32) < (4 : Int32))).2.1 rfl ?_
 refine Run.x_aloadN (q := 33) X6 hx (hb hby d2_32) rfl rfl rfl ?_
 refine Run.z_getF (q := 36) X6 hx hZ e6 hown (wm23 hw) F_this_forward (hb hby d2_33) rfl fun T7 X7 e7 => ?_
 refine Run.x_iloadN (q := 37) X7 hx (hb hby d2_36) rfl rfl ?_
 refine Run.x_aloadN (q := 38) X7 hx (hb hby d2_37) rfl rfl rfl ?_
 refine Run.x_iloadN (q := 39) X7 hx (hb hby d2_38) rfl rfl ?_
 replace A_pat := (A_pat.ext E4).other W5 (Ne.symm ne_this_pat)
 refine Run.y_ldC (q := 40) X7 hx hZ e7 A_pat (i := 0) (v := (.int c0)) (by decide) rfl (hb hby d2_39) rfl ?_
 replace A_b4 := A_b4.other W5 (Ne.symm ne_this_b4)
 refine Run.y_stI (q := 41) X7 hx hZ e7 A_b4 (i := 0) (by decide) (Nat.le_of_ble_eq_true rfl) (hb hby d2_40) rfl fun T8 h8 X8 e8 W8 A8 => ?_
 replace A_b4 : Ars Z h8 b4 .int [(.int c0), (.int 0), (.int 0), (.int 0), (.int 0)] := A8
 have N8 := Fr.snoc X8 N5 g_b4
 have Z8 : n0 ≤ h8.size := Nat.le_trans Z5 (Nat.le_of_eq W8.size.symm)
 refine Run.x_iinc (q := 44) X8 hx #[.val (.ref this), .val (.ref pat), .val (.int 1), .unset, .unset, .unset] (hb hby d2_41) rfl (z := (1 : Int32)) (by decide) rfl rfl ?_
 refine Run.x_goto (q := 24) X8 hx (hb hby d2_44) (by decide) (by decide) ?_
 refine Run.x_iloadN (q := 25) X8 hx (hb hby d2_24) rfl rfl ?_
 refine Run.x_aloadN (q := 26) X8 hx (hb hby d2_25) rfl rfl rfl ?_
 replace F_this_length := F_this_length.other W8 (Or.inl ne_this_b4)
 refine Run.z_getF (q := 29) X8 hx hZ e8 hown (wm20 hw) F_this_length (hb hby d2_26) rfl fun T9 X9 e9 => ?_
 refine Run.x_icmpNo (q := 32) X9 hx (hb hby d2_29) (tlt (by decide : (1 : Int32) < (4 : Int32))).2.1 rfl ?_
 refine Run.x_aloadN (q := 33) X9 hx (hb hby d2_32) rfl rfl rfl ?_
 replace F_this_forward := F_this_forward.other W8 (Or.inl ne_this_b4)
 refine Run.z_getF (q := 36) X9 hx hZ e9 hown (wm23 hw) F_this_forward (hb hby d2_33) rfl fun T10 X10 e10 => ?_
 refine Run.x_iloadN (q := 37) X10 hx (hb hby d2_36) rfl rfl ?_
 refine Run.x_aloadN (q := 38) X10 hx (hb hby d2_37) rfl rfl rfl ?_
 refine Run.x_iloadN (q := 39) X10 hx (hb hby d2_38) rfl rfl ?_
 replace A_pat := A_pat.other W8 ne_pat_b4
 refine Run.y_ldC (q := 40) X10 hx hZ e10 A_pat (i := 1) (v := (.int c1)) (by decide) rfl (hb hby d2_39) rfl ?_
 refine Run.y_stI (q := 41) X10 hx hZ e10 A_b4 (i := 1) (by decide) (Nat.le_of_ble_eq_true rfl) (hb hby d2_40) rfl fun T11 h11 X11 e11 W11 A11 => ?_
 replace A_b4 : Ars Z h11 b4 .int [(.int c0), (.int c1), (.int 0), (.int 0), (.int 0)] := A11
 have N11 := Fr.snoc X11 N8 g_b4
 have Z11 : n0 ≤ h11.size := Nat.le_trans Z8 (Nat.le_of_eq W11.size.symm)
 refine Run.x_iinc (q := 44) X11 hx #[.val (.ref this), .val (.ref pat), .val (.int 2), .unset, .unset, .unset] (hb hby d2_41) rfl (z := (2 : Int32)) (by decide) rfl rfl ?_
 refine Run.x_goto (q := 24) X11 hx (hb hby d2_44) (by decide) (by decide) ?_
 refine Run.x_iloadN (q := 25) X11 hx (hb hby d2_24) rfl rfl ?_
 refine Run.x_aloadN (q := 26) X11 hx (hb hby d2_25) rfl rfl rfl ?_
 replace F_this_length := F_this_length.other W11 (Or.inl ne_this_b4)
 refine Run.z_getF (q := 29) X11 hx hZ e11 hown (wm20 hw) F_this_length (hb hby d2_26) rfl fun T12 X12 e12 => ?_
 refine Run.x_icmpNo (q := 32) X12 hx (hb hby d2_29) (tlt (by decide : (2 : Int32) < (4 : Int32))).2.1 rfl ?_
 refine Run.x_aloadN (q := 33) X12 hx (hb hby d2_32) rfl rfl rfl ?_
 replace F_this_forward := F_this_forward.other W11 (Or.inl ne_this_b4)
 refine Run.z_getF (q := 36) X12 hx hZ e12 hown (wm23 hw) F_this_forward (hb hby d2_33) rfl fun T13 X13 e13 => ?_
 refine Run.x_iloadN (q := 37) X13 hx (hb hby d2_36) rfl rfl ?_
 refine Run.x_aloadN (q := 38) X13 hx (hb hby d2_37) rfl rfl rfl ?_
 refine Run.x_iloadN (q := 39) X13 hx (hb hby d2_38) rfl rfl ?_
 replace A_pat := A_pat.other W11 ne_pat_b4
 refine Run.y_ldC (q := 40) X13 hx hZ e13 A_pat (i := 2) (v := (.int c2)) (by decide) rfl (hb hby d2_39) rfl ?_
 refine Run.y_stI (q := 41) X13 hx hZ e13 A_b4 (i := 2) (by decide) (Nat.le_of_ble_eq_true rfl) (hb hby d2_40) rfl fun T14 h14 X14 e14 W14 A14 => ?_
 replace A_b4 : Ars Z h14 b4 .int [(.int c0), (.int c1), (.int c2), (.int 0), (.int 0)] := A14
 have N14 := Fr.snoc X14 N11 g_b4
 have Z14 : n0 ≤ h14.size := Nat.le_trans Z11 (Nat.le_of_eq W14.size.symm)
 refine Run.x_iinc (q := 44) X14 hx #[.val (.ref this), .val (.ref pat), .val (.int 3), .unset, .unset, .unset] (hb hby d2_41) rfl (z := (3 : Int32)) (by decide) rfl rfl ?_
 refine Run.x_goto (q := 24) X14 hx (hb hby d2_44) (by decide) (by decide) ?_
 refine Run.x_iloadN (q := 25) X14 hx (hb hby d2_24) rfl rfl ?_
 refine Run.x_aloadN (q := 26) X14 hx (hb hby d2_25) rfl rfl rfl ?_
 replace F_this_length := F_this_length.other W14 (Or.inl ne_this_b4)
 refine Run.z_getF (q := 29) X14 hx hZ e14 hown (wm20 hw) F_this_length (hb hby d2_26) rfl fun T15 X15 e15 => ?_
 refine Run.x_icmpNo (q := 32) X15 hx (hb hby d2_29) (tlt (by decide : (3 : Int32) < (4 : Int32))).2.1 rfl ?_
 refine Run.x_aloadN (q := 33) X15 hx (hb hby d2_32) rfl rfl rfl ?_
 replace F_this_forward := F_this_forward.other W14 (Or.inl ne_this_b4)
 refine Run.z_getF (q := 36) X15 hx hZ e15 hown (wm23 hw) F_this_forward (hb hby d2_33) rfl fun T16 X16 e16 => ?_
 refine Run.x_iloadN (q := 37) X16 hx (hb hby d2_36) rfl rfl ?_
 refine Run.x_aloadN (q := 38) X16 hx (hb hby d2_37) rfl rfl rfl ?_
 refine Run.x_iloadN (q := 39) X16 hx (hb hby d2_38) rfl rfl ?_
 replace A_pat := A_pat.other W14 ne_pat_b4
 refine Run.y_ldC (q := 40) X16 hx hZ e16 A_pat (i := 3) (v := (.int c3)) (by decide) rfl (hb hby d2_39) rfl ?_
 refine Run.y_stI (q := 41) X16 hx hZ e16 A_b4 (i := 3) (by decide) (Nat.le_of_ble_eq_true rfl) (hb hby d2_40) rfl fun T17 h17 X17 e17 W17 A17 => ?_
 replace A_b4 : Ars Z h17 b4 .int [(.int c0), (.int c1), (.int c2), (.int c3), (.int 0)] := A17
 have N17 := Fr.snoc X17 N14 g_b4
 have Z17 : n0 ≤ h17.size := Nat.le_trans Z14 (Nat.le_of_eq W17.size.symm)
 refine Run.x_iinc (q := 44) X17 hx #[.val (.ref this), .val (.ref pat), .val (.int 4), .unset, .unset, .unset] (hb hby d2_41) rfl (z := (4 : Int32)) (by decide) rfl rfl ?_
 refine Run.x_goto (q := 24) X17 hx (hb hby d2_44) (by decide) (by decide) ?_
 refine Run.x_iloadN (q := 25) X17 hx (hb hby d2_24) rfl rfl ?_
 refine Run.x_aloadN (q := 26) X17 hx (hb hby d2_25) rfl rfl rfl ?_
 replace F_this_length := F_this_length.other W17 (Or.inl ne_this_b4)
 refine Run.z_getF (q := 29) X17 hx hZ e17 hown (wm20 hw) F_this_length (hb hby d2_26) rfl fun T18 X18 e18 => ?_
 refine Run.x_icmpYes (q := 47) X18 hx (hb hby d2_29) (flt (by decide : ¬ ((4 : Int32) < (4 : Int32)))).2.1 (by decide) (by decide) ?_
 refine Run.x_aloadN (q := 48) X18 hx (hb hby d2_47) rfl rfl rfl ?_
 replace F_this_forward := F_this_forward.other W17 (Or.inl ne_this_b4)
 refine Run.z_getF (q := 51) X18 hx hZ e18 hown (wm23 hw) F_this_forward (hb hby d2_48) rfl fun T19 X19 e19 => ?_
 refine Run.x_aloadN (q := 52) X19 hx (hb hby d2_51) rfl rfl rfl ?_
 refine Run.z_getF (q := 55) X19 hx hZ e19 hown (wm20 hw) F_this_length (hb hby d2_52) rfl fun T20 X20 e20 => ?_
 refine Run.x_iconst (q := 56) X20 hx (hb hby d2_55) (z := (-1 : Int32)) rfl rfl ?_
 refine Run.y_stI (q := 57) X20 hx hZ e20 A_b4 (i := 4) (by decide) (Nat.le_of_ble_eq_true rfl) (hb hby d2_56) rfl fun T21 h21 X21 e21 W21 A21 => ?_
 replace A_b4 : Ars Z h21 b4 .int [(.int c0), (.int c1), (.int c2), (.int c3), (.int (-1))] := A21
 have N21 := Fr.snoc X21 N17 g_b4
 have Z21 : n0 ≤ h21.size := Nat.le_trans Z17 (Nat.le_of_eq W21.size.symm)
 refine Run.x_aloadN (q := 58) X21 hx (hb hby d2_57) rfl rfl rfl ?_
 refine Run.x_aloadN (q := 59) X21 hx (hb hby d2_58) rfl rfl rfl ?_
 replace F_this_length := F_this_length.other W21 (Or.inl ne_this_b4)
 refine Run.z_getF (q := 62) X21 hx hZ e21 hown (wm20 hw) F_this_length (hb hby d2_59) rfl fun T22 X22 e22 => ?_
 refine Run.x_iconst (q := 63) X22 hx (hb hby d2_62) (z := (2 : Int32)) rfl rfl ?_
 refine Run.x_iadd (q := 64) X22 hx (hb hby d2_63) (z := (6 : Int32)) (by decide) rfl ?_
 refine Run.newP (aty := .int) X22 hx hZ e22 (wm22 hw) (hb hby d2_64) (len := 6) (by decide) (by decide) (cap := 6) (by decide) (by decide) (by decide) (by decide) ?_
 intro T23 h23 b23 gg23 X23 e23 E23 A_b23
 have g_b23 : n0 ≤ b23 := Nat.le_trans Z21 (Nat.le_of_eq gg23.symm)
 replace E_this := (((((E_this.wr W5).wr W8).wr W11).wr W14).wr W17).wr W21
 have ne_this_b23 : this ≠ b23 := Nat.ne_of_lt (Nat.lt_of_lt_of_le E_this.lt (Nat.le_of_eq gg23.symm))
 replace A_pat := (A_pat.other W17 ne_pat_b4).other W21 ne_pat_b4
 have ne_pat_b23 : pat ≠ b23 := Nat.ne_of_lt (Nat.lt_of_lt_of_le A_pat.lt (Nat.le_of_eq gg23.symm))
 have ne_b4_b23 : b4 ≠ b23 := Nat.ne_of_lt (Nat.lt_of_lt_of_le A_b4.lt (Nat.le_of_eq gg23.symm))
 have Z23 : n0 ≤ h23.size := Nat.le_trans Z21 E23.1
 replace A_b23 : Ars Z h23 b23 .int [(.int 0), (.int 0), (.int 0), (.int 0), (.int 0), (.int 0)] := A_b23
 show Run p e below s _ _ _ (T23.setTop (mkF m 66 #[.val (.ref this), .val (.ref pat), .val (.int 4), .unset, .unset, .unset] [(.ref b23), (.ref this)]))
 replace F_this_rows := ((((((((F_this_rows.other W2 (Or.inr (slot_ne (Or.inr (wm26 hw)) (Or.inr (wm21 hw)) (by decide) (t := (.array .int)) (t' := .int) (by decide) (by decide)))).ext E4).other W5 (Or.inr (slot_ne (Or.inr (wm26 hw)) (Or.inr (wm24 hw)) (by decide) (t := (.array .int)) (t' := (.array .int)) (by decide) (by decide)))).other W8 (Or.inl ne_this_b4)).other W11 (Or.inl ne_this_b4)).other W14 (Or.inl ne_this_b4)).other W17 (Or.inl ne_this_b4)).other W21 (Or.inl ne_this_b4)).ext E23
 replace E_this := E_this.ext E23
 obtain ⟨T24, h24, X24, e24, W24, st24⟩ := putF X23 hx hZ hown (host := "") (Or.inl (wm25 hw)) Via.refl e23 F_this_rows E_this (Or.inr ⟨(wm26 hw), rfl, hnm⟩) (wm8 hw) (ty := (.array .int)) (by decide) rfl rfl (g := (mkF m 66 #[.val (.ref this), .val (.ref pat), .val (.int 4), .unset, .unset, .unset] [(.ref b23), (.ref this)])) rfl rfl (hb hby d2_66)
 replace F_this_rows := F_this_rows.same W24
 have Z24 : n0 ≤ h24.size := Nat.le_trans Z23 (Nat.le_of_eq W24.size.symm)
 have N24 := Fr.snoc X24 N21 g_this
 refine Run.st st24 ?_
 show Run p e below s _ _ _ (T24.setTop (mkF m 69 #[.val (.ref this), .val (.ref pat), .val (.int 4), .unset, .unset, .unset] []))
 refine Run.x_aloadN (q := 70) X24 hx (hb hby d2_69) rfl rfl rfl ?_
 refine Run.x_aloadN (q := 71) X24 hx (hb hby d2_70) rfl rfl rfl ?_
 replace F_this_length := (F_this_length.ext E23).other W24 (Or.inr (slot_ne (Or.inr (wm21 hw)) (Or.inr (wm26 hw)) (by decide) (t := .int) (t' := (.array .int)) (by decide) (by decide)))
 refine Run.z_getF (q := 74) X24 hx hZ e24 hown (wm20 hw) F_this_length (hb hby d2_71) rfl fun T25 X25 e25 => ?_
 refine Run.newP (aty := .char) X25 hx hZ e25 (wm2 hw) (hb hby d2_74) (len := 4) (by decide) (by decide) (cap := 4) (by decide) (by decide) (by decide) (by decide) ?_
 intro T26 h26 b26 gg26 X26 e26 E26 A_b26
 have g_b26 : n0 ≤ b26 := Nat.le_trans Z24 (Nat.le_of_eq gg26.symm)
 replace E_this := E_this.wr W24
 have ne_this_b26 : this ≠ b26 := Nat.ne_of_lt (Nat.lt_of_lt_of_le E_this.lt (Nat.le_of_eq gg26.symm))
 replace A_pat := (A_pat.ext E23).other W24 (Ne.symm ne_this_pat)
 have ne_pat_b26 : pat ≠ b26 := Nat.ne_of_lt (Nat.lt_of_lt_of_le A_pat.lt (Nat.le_of_eq gg26.symm))
 replace A_b4 := (A_b4.ext E23).other W24 (Ne.symm ne_this_b4)
 have ne_b4_b26 : b4 ≠ b26 := Nat.ne_of_lt (Nat.lt_of_lt_of_le A_b4.lt (Nat.le_of_eq gg26.symm))
 replace A_b23 := A_b23.other W24 (Ne.symm ne_this_b23)
 have ne_b23_b26 : b23 ≠ b26 := Nat.ne_of_lt (Nat.lt_of_lt_of_le A_b23.lt (Nat.le_of_eq gg26.symm))
 have Z26 : n0 ≤ h26.size := Nat.le_trans Z24 E26.1
 replace A_b26 : Ars Z h26 b26 .char [(.int 0), (.int 0), (.int 0), (.int 0)] := A_b26
 show Run p e below s _ _ _ (T26.setTop (mkF m 76 #[.val (.ref this), .val (.ref pat), .val (.int 4), .unset, .unset, .unset] [(.ref b26), (.ref this)]))
 replace F_this_units := ((((((((((F_this_units.other W2 (Or.inr (slot_ne (Or.inr (wm28 hw)) (Or.inr (wm21 hw)) (by decide) (t := (.array .char)) (t' := .int) (by decide) (by decide)))).ext E4).other W5 (Or.inr (slot_ne (Or.inr (wm28 hw)) (Or.inr (wm24 hw)) (by decide) (t := (.array .char)) (t' := (.array .int)) (by decide) (by decide)))).other W8 (Or.inl ne_this_b4)).other W11 (Or.inl ne_this_b4)).other W14 (Or.inl ne_this_b4)).other W17 (Or.inl ne_this_b4)).other W21 (Or.inl ne_this_b4)).ext E23).other W24 (Or.inr (slot_ne (Or.inr (wm28 hw)) (Or.inr (wm26 hw)) (by decide) (t := (.array .char)) (t' := (.array .int)) (by decide) (by decide)))).ext E26
 replace E_this := E_this.ext E26
 obtain ⟨T27, h27, X27, e27, W27, st27⟩ := putF X26 hx hZ hown (host := "") (Or.inl (wm27 hw)) Via.refl e26 F_this_units E_this (Or.inr ⟨(wm28 hw), rfl, hnm⟩) (wm8 hw) (ty := (.array .char)) (by decide) rfl rfl (g := (mkF m 76 #[.val (.ref this), .val (.ref pat), .val (.int 4), .unset, .unset, .unset] [(.ref b26), (.ref this)])) rfl rfl (hb hby d2_76)
 replace F_this_units := F_this_units.same W27
 have Z27 : n0 ≤ h27.size := Nat.le_trans Z26 (Nat.le_of_eq W27.size.symm)
 have N27 := Fr.snoc X27 N24 g_this
 refine Run.st st27 ?_
 show Run p e below s _ _ _ (T27.setTop (mkF m 79 #[.val (.ref this), .val (.ref pat), .val (.int 4), .unset, .unset, .unset] []))
 refine Run.x_aloadN (q := 80) X27 hx (hb hby d2_79) rfl rfl rfl ?_
 refine Run.x_aloadN (q := 81) X27 hx (hb hby d2_80) rfl rfl rfl ?_
 replace F_this_length := (F_this_length.ext E26).other W27 (Or.inr (slot_ne (Or.inr (wm21 hw)) (Or.inr (wm28 hw)) (by decide) (t := .int) (t' := (.array .char)) (by decide) (by decide)))
 refine Run.z_getF (q := 84) X27 hx hZ e27 hown (wm20 hw) F_this_length (hb hby d2_81) rfl fun T28 X28 e28 => ?_
 refine Run.newP (aty := .int) X28 hx hZ e28 (wm22 hw) (hb hby d2_84) (len := 4) (by decide) (by decide) (cap := 4) (by decide) (by decide) (by decide) (by decide) ?_
 intro T29 h29 b29 gg29 X29 e29 E29 A_b29
 have g_b29 : n0 ≤ b29 := Nat.le_trans Z27 (Nat.le_of_eq gg29.symm)
 replace E_this := E_this.wr W27
 have ne_this_b29 : this ≠ b29 := Nat.ne_of_lt (Nat.lt_of_lt_of_le E_this.lt (Nat.le_of_eq gg29.symm))
 replace A_pat := (A_pat.ext E26).other W27 (Ne.symm ne_this_pat)
 have ne_pat_b29 : pat ≠ b29 := Nat.ne_of_lt (Nat.lt_of_lt_of_le A_pat.lt (Nat.le_of_eq gg29.symm))
 replace A_b4 := (A_b4.ext E26).other W27 (Ne.symm ne_this_b4)
 have ne_b4_b29 : b4 ≠ b29 := Nat.ne_of_lt (Nat.lt_of_lt_of_le A_b4.lt (Nat.le_of_eq gg29.symm))
 replace A_b23 := (A_b23.ext E26).other W27 (Ne.symm ne_this_b23)
 have ne_b23_b29 : b23 ≠ b29 := Nat.ne_of_lt (Nat.lt_of_lt_of_le A_b23.lt (Nat.le_of_eq gg29.symm))
 replace A_b26 := A_b26.other W27 (Ne.symm ne_this_b26)
 have ne_b26_b29 : b26 ≠ b29 := Nat.ne_of_lt (Nat.lt_of_lt_of_le A_b26.lt (Nat.le_of_eq gg29.symm))
 have Z29 : n0 ≤ h29.size := Nat.le_trans Z27 E29.1
 replace A_b29 : Ars Z h29 b29 .int [(.int 0), (.int 0), (.int 0), (.int 0)] := A_b29
 show Run p e below s _ _ _ (T29.setTop (mkF m 86 #[.val (.ref this), .val (.ref pat), .val (.int 4), .unset, .unset, .unset] [(.ref b29), (.ref this)]))
 replace F_this_targets := ((((((((((((F_this_targets.other W2 (Or.inr (slot_ne (Or.inr (wm30 hw)) (Or.inr (wm21 hw)) (by decide) (t := (.array .int)) (t' := .int) (by decide) (by decide)))).ext E4).other W5 (Or.inr (slot_ne (Or.inr (wm30 hw)) (Or.inr (wm24 hw)) (by decide) (t := (.array .int)) (t' := (.array .int)) (by decide) (by decide)))).other W8 (Or.inl ne_this_b4)).other W11 (Or.inl ne_this_b4)).other W14 (Or.inl ne_this_b4)).other W17 (Or.inl ne_this_b4)).other W21 (Or.inl ne_this_b4)).ext E23).other W24 (Or.inr (slot_ne (Or.inr (wm30 hw)) (Or.inr (wm26 hw)) (by decide) (t := (.array .int)) (t' := (.array .int)) (by decide) (by decide)))).ext E26).other W27 (Or.inr (slot_ne (Or.inr (wm30 hw)) (Or.inr (wm28 hw)) (by decide) (t := (.array .int)) (t' := (.array .char)) (by decide) (by decide)))).ext E29
 replace E_this := E_this.ext E29
 obtain ⟨T30, h30, X30, e30, W30, st30⟩ := putF X29 hx hZ hown (host := "") (Or.inl (wm29 hw)) Via.refl e29 F_this_targets E_this (Or.inr ⟨(wm30 hw), rfl, hnm⟩) (wm8 hw) (ty := (.array .int)) (by decide) rfl rfl (g := (mkF m 86 #[.val (.ref this), .val (.ref pat), .val (.int 4), .unset, .unset, .unset] [(.ref b29), (.ref this)])) rfl rfl (hb hby d2_86)
 replace F_this_targets := F_this_targets.same W30
 have Z30 : n0 ≤ h30.size := Nat.le_trans Z29 (Nat.le_of_eq W30.size.symm)
 have N30 := Fr.snoc X30 N27 g_this
 refine Run.st st30 ?_
 show Run p e below s _ _ _ (T30.setTop (mkF m 89 #[.val (.ref this), .val (.ref pat), .val (.int 4), .unset, .unset, .unset] []))
 refine Run.x_iconst (q := 90) X30 hx (hb hby d2_89) (z := (0 : Int32)) rfl rfl ?_
 refine Run.x_istoreN (q := 91) X30 hx #[.val (.ref this), .val (.ref pat), .val (.int 0), .unset, .unset, .unset] (hb hby d2_90) rfl rfl ?_
 refine Run.x_iconst (q := 92) X30 hx (hb hby d2_91) (z := (0 : Int32)) rfl rfl ?_
 refine Run.x_istoreN (q := 93) X30 hx #[.val (.ref this), .val (.ref pat), .val (.int 0), .val (.int 0), .unset, .unset] (hb hby d2_92) rfl rfl ?_
 refine Run.x_iconst (q := 94) X30 hx (hb hby d2_93) (z := (1 : Int32)) rfl rfl ?_
 refine Run.x_istore (q := 96) X30 hx #[.val (.ref this), .val (.ref pat), .val (.int 0), .val (.int 0), .val (.int 1), .unset] (hb hby d2_94) rfl rfl ?_
 refine Run.x_iload (q := 98) X30 hx (hb hby d2_96) rfl rfl ?_
 refine Run.x_aloadN (q := 99) X30 hx (hb hby d2_98) rfl rfl rfl ?_
 replace F_this_length := (F_this_length.ext E29).other W30 (Or.inr (slot_ne (Or.inr (wm21 hw)) (Or.inr (wm30 hw)) (by decide) (t := .int) (t' := (.array .int)) (by decide) (by decide)))
 refine Run.z_getF (q := 102) X30 hx hZ e30 hown (wm20 hw) F_this_length (hb hby d2_99) rfl fun T31 X31 e31 => ?_
 refine Run.x_icmpNo (q := 105) X31 hx (hb hby d2_102) (flt (by decide : ¬ ((4 : Int32) < (1 : Int32)))).2.2.1 rfl ?_
 refine Run.x_aloadN (q := 106) X31 hx (hb hby d2_105) rfl rfl rfl ?_
 replace F_this_rows := (((F_this_rows.ext E26).other W27 (Or.inr (slot_ne (Or.inr (wm26 hw)) (Or.inr (wm28 hw)) (by decide) (t := (.array .int)) (t' := (.array .char)) (by decide) (by decide)))).ext E29).other W30 (Or.inr (slot_ne (Or.inr (wm26 hw)) (Or.inr (wm30 hw)) (by decide) (t := (.array .int)) (t' := (.array .int)) (by decide) (by decide)))
 refine Run.z_getF (q := 109) X31 hx hZ e31 hown (wm25 hw) F_this_rows (hb hby d2_106) rfl fun T32 X32 e32 => ?_
 refine Run.x_iloadN (q := 110) X32 hx (hb hby d2_109) rfl rfl ?_
 replace A_b23 := (A_b23.ext E29).other W30 (Ne.symm ne_this_b23)
 refine Run.y_ldI (q := 111) X32 hx hZ e32 A_b23 (i := 0) (v := (.int 0)) (by decide) rfl (hb hby d2_110) rfl ?_
 refine Run.x_istore (q := 113) X32 hx #[.val (.ref this), .val (.ref pat), .val (.int 0), .val (.int 0), .val (.int 1), .val (.int 0)] (hb hby d2_111) rfl rfl ?_
 refine Run.x_iload (q := 115) X32 hx (hb hby d2_113) rfl rfl ?_
 refine Run.x_aloadN (q := 116) X32 hx (hb hby d2_115) rfl rfl rfl ?_
 refine Run.z_getF (q := 119) X32 hx hZ e32 hown (wm25 hw) F_this_rows (hb hby d2_116) rfl fun T33 X33 e33 => ?_
 refine Run.x_iloadN (q := 120) X33 hx (hb hby d2_119) rfl rfl ?_
 refine Run.x_iconst (q := 121) X33 hx (hb hby d2_120) (z := (1 : Int32)) rfl rfl ?_
 refine Run.x_iadd (q := 122) X33 hx (hb hby d2_121) (z := (1 : Int32)) (by decide) rfl ?_
 refine Run.y_ldI (q := 123) X33 hx hZ e33 A_b23 (i := 1) (v := (.int 0)) (by decide) rfl (hb hby d2_122) rfl ?_
 refine Run.x_icmpYes (q := 178) X33 hx (hb hby d2_123) (flt (by decide : ¬ ((0 : Int32) < (0 : Int32)))).2.1 (by decide) (by decide) ?_
 refine Run.x_aloadN (q := 179) X33 hx (hb hby d2_178) rfl rfl rfl ?_
 replace F_this_forward := ((((((F_this_forward.other W21 (Or.inl ne_this_b4)).ext E23).other W24 (Or.inr (slot_ne (Or.inr (wm24 hw)) (Or.inr (wm26 hw)) (by decide) (t := (.array .int)) (t' := (.array .int)) (by decide) (by decide)))).ext E26).other W27 (Or.inr (slot_ne (Or.inr (wm24 hw)) (Or.inr (wm28 hw)) (by decide) (t := (.array .int)) (t' := (.array .char)) (by decide) (by decide)))).ext E29).other W30 (Or.inr (slot_ne (Or.inr (wm24 hw)) (Or.inr (wm30 hw)) (by decide) (t := (.array .int)) (t' := (.array .int)) (by decide) (by decide)))
 refine Run.z_getF (q := 182) X33 hx hZ e33 hown (wm23 hw) F_this_forward (hb hby d2_179) rfl fun T34 X34 e34 => ?_
 refine Run.x_iloadN (q := 183) X34 hx (hb hby d2_182) rfl rfl ?_
 replace A_b4 := (A_b4.ext E29).other W30 (Ne.symm ne_this_b4)
 refine Run.y_ldI (q := 184) X34 hx hZ e34 A_b4 (i := 0) (v := (.int c0)) (by decide) rfl (hb hby d2_183) rfl ?_
 refine Run.x_aloadN (q := 185) X34 hx (hb hby d2_184) rfl rfl rfl ?_
 refine Run.z_getF (q := 188) X34 hx hZ e34 hown (wm23 hw) F_this_forward (hb hby d2_185) rfl fun T35 X35 e35 => ?_
 refine Run.x_iload (q := 190) X35 hx (hb hby d2_188) rfl rfl ?_
 refine Run.y_ldI (q := 191) X35 hx hZ e35 A_b4 (i := 1) (v := (.int c1)) (by decide) rfl (hb hby d2_190) rfl ?_
 by_cases hq_c0_c1 : c0 = c1
 ·subst hq_c0_c1
  refine Run.x_icmpYes (q := 219) X35 hx (hb hby d2_191) (teq rfl).1 (by decide) (by decide) ?_
  refine Run.x_aloadN (q := 220) X35 hx (hb hby d2_219) rfl rfl rfl ?_
  refine Run.z_getF (q := 223) X35 hx hZ e35 hown (wm25 hw) F_this_rows (hb hby d2_220) rfl fun T36 X36 e36 => ?_
  refine Run.x_iload (q := 225) X36 hx (hb hby d2_223) rfl rfl ?_
  refine Run.x_iconst (q := 226) X36 hx (hb hby d2_225) (z := (1 : Int32)) rfl rfl ?_
  refine Run.x_iadd (q := 227) X36 hx (hb hby d2_226) (z := (2 : Int32)) (by decide) rfl ?_
  refine Run.x_iloadN (q := 228) X36 hx (hb hby d2_227) rfl rfl ?_
  refine Run.y_stI (q := 229) X36 hx hZ e36 A_b23 (i := 2) (by decide) (Nat.le_of_ble_eq_true rfl) (hb hby d2_228) rfl fun T37 h37 X37 e37 W37 A37 => ?_
  replace A_b23 : Ars Z h37 b23 .int [(.int 0), (.int 0), (.int 0), (.int 0), (.int 0), (.int 0)] := A37
  have N37 := Fr.snoc X37 N30 g_b23
  have Z37 : n0 ≤ h37.size := Nat.le_trans Z30 (Nat.le_of_eq W37.size.symm)
  refine Run.x_iload (q := 231) X37 hx (hb hby d2_229) rfl rfl ?_
  refine Run.x_aloadN (q := 232) X37 hx (hb hby d2_231) rfl rfl rfl ?_
  replace F_this_length := F_this_length.other W37 (Or.inl ne_this_b23)
  refine Run.z_getF (q := 235) X37 hx hZ e37 hown (wm20 hw) F_this_length (hb hby d2_232) rfl fun T38 X38 e38 => ?_
  refine Run.x_icmpNo (q := 238) X38 hx (hb hby d2_235) (tlt (by decide : (1 : Int32) < (4 : Int32))).2.1 rfl ?_
  refine Run.x_aloadN (q := 239) X38 hx (hb hby d2_238) rfl rfl rfl ?_
  refine Run.x_iloadN (q := 240) X38 hx (hb hby d2_239) rfl rfl ?_
  refine Run.x_aloadN (q := 241) X38 hx (hb hby d2_240) rfl rfl rfl ?_
  refine Run.x_iload (q := 243) X38 hx (hb hby d2_241) rfl rfl ?_
  replace A_pat := ((A_pat.ext E29).other W30 (Ne.symm ne_this_pat)).other W37 ne_pat_b23
  refine Run.y_ldC (q := 244) X38 hx hZ e38 A_pat (i := 1) (v := (.int c0)) (by decide) rfl (hb hby d2_243) rfl ?_
  replace E_this := (E_this.wr W30).wr W37
  replace F_this_forward := F_this_forward.other W37 (Or.inl ne_this_b23)
  replace F_this_rows := F_this_rows.other W37 (Or.inl ne_this_b23)
  replace F_this_units := ((F_this_units.ext E29).other W30 (Or.inr (slot_ne (Or.inr (wm28 hw)) (Or.inr (wm30 hw)) (by decide) (t := (.array .char)) (t' := (.array .int)) (by decide) (by decide)))).other W37 (Or.inl ne_this_b23)
  replace F_this_targets := F_this_targets.other W37 (Or.inl ne_this_b23)
  replace A_b4 := A_b4.other W37 ne_b4_b23
  replace A_b26 := ((A_b26.ext E29).other W30 (Ne.symm ne_this_b26)).other W37 (Ne.symm ne_b23_b26)
  replace A_b29 := (A_b29.other W30 (Ne.symm ne_this_b29)).other W37 (Ne.symm ne_b23_b29)
  refine Run.callVI (q := 247) X38 hx hZ e38 (y := (⟨"needlewise/kmp/SparseAutomaton", "next", "(IC)I"⟩ : MethodName)) (z := (⟨"needlewise/kmp/SparseAutomaton", "next", "(IC)I"⟩ : MethodName)) hown (wm39 hw) (wm32 hw) (notFace_of_selects (args := #[]) (mvT hZ (wm34 hw))) (wm34 hw) (wm33 hw) (wm9 hw) (wm35 hw) (by decide) (a := this) E_this (argsL := [(.int 0), (.int c0)]) (rest := []) (c_next l Z a0 hw this (0 : Int32) c0 h37 n0 Z37 b4 b23 b26 b29 [(.int c0), (.int c0), (.int c2), (.int c3), (.int (-1))] [(.int 0), (.int 0), (.int 0), (.int 0), (.int 0), (.int 0)] [(0 : Int32), (0 : Int32), (0 : Int32), (0 : Int32)] [(0 : Int32), (0 : Int32), (0 : Int32), (0 : Int32)] 0 0 0 c0 (0 : Int32) (0 : Int32) (1 : Int32) E_this F_this_forward F_this_rows F_this_units F_this_targets A_b4 A_b23 A_b26 A_b29 (by decide) (by decide) rfl rfl rfl (by decide) (by decide) (Nat.le_of_ble_eq_true rfl) (Nat.le_of_ble_eq_true rfl) (by decide) (Eq.trans (own_next_p rfl) (by decide))) pd_0 rfl (by rw [hml]; rfl) (W := 0) rfl (by decide) (by decide) (by decide) (by decide) (hb hby d2_244) rfl rfl fun T39 L39 X39 M39 e39 => ?_
  have N39 := Fr.app N37 M39
  refine Run.x_istoreN (q := 248) X39 hx #[.val (.ref this), .val (.ref pat), .val (.int 0), .val (.int 1), .val (.int 1), .val (.int 0)] (hb hby d2_247) rfl rfl ?_
  refine Run.x_iinc (q := 251) X39 hx #[.val (.ref this), .val (.ref pat), .val (.int 0), .val (.int 1), .val (.int 2), .val (.int 0)] (hb hby d2_248) rfl (z := (2 : Int32)) (by decide) rfl rfl ?_
  refine Run.x_goto (q := 96) X39 hx (hb hby d2_251) (by decide) (by decide) ?_
  refine Run.x_iload (q := 98) X39 hx (hb hby d2_96) rfl rfl ?_
  refine Run.x_aloadN (q := 99) X39 hx (hb hby d2_98) rfl rfl rfl ?_
  refine Run.z_getF (q := 102) X39 hx hZ e39 hown (wm20 hw) F_this_length (hb hby d2_99) rfl fun T40 X40 e40 => ?_
  refine Run.x_icmpNo (q := 105) X40 hx (hb hby d2_102) (flt (by decide : ¬ ((4 : Int32) < (2 : Int32)))).2.2.1 rfl ?_
  refine Run.x_aloadN (q := 106) X40 hx (hb hby d2_105) rfl rfl rfl ?_
  refine Run.z_getF (q := 109) X40 hx hZ e40 hown (wm25 hw) F_this_rows (hb hby d2_106) rfl fun T41 X41 e41 => ?_
  refine Run.x_iloadN (q := 110) X41 hx (hb hby d2_109) rfl rfl ?_
  refine Run.y_ldI (q := 111) X41 hx hZ e41 A_b23 (i := 1) (v := (.int 0)) (by decide) rfl (hb hby d2_110) rfl ?_
  refine Run.x_istore (q := 113) X41 hx #[.val (.ref this), .val (.ref pat), .val (.int 0), .val (.int 1), .val (.int 2), .val (.int 0)] (hb hby d2_111) rfl rfl ?_
  refine Run.x_iload (q := 115) X41 hx (hb hby d2_113) rfl rfl ?_
  refine Run.x_aloadN (q := 116) X41 hx (hb hby d2_115) rfl rfl rfl ?_
  refine Run.z_getF (q := 119) X41 hx hZ e41 hown (wm25 hw) F_this_rows (hb hby d2_116) rfl fun T42 X42 e42 => ?_
  refine Run.x_iloadN (q := 120) X42 hx (hb hby d2_119) rfl rfl ?_
  refine Run.x_iconst (q := 121) X42 hx (hb hby d2_120) (z := (1 : Int32)) rfl rfl ?_
  refine Run.x_iadd (q := 122) X42 hx (hb hby d2_121) (z := (2 : Int32)) (by decide) rfl ?_
  refine Run.y_ldI (q := 123) X42 hx hZ e42 A_b23 (i := 2) (v := (.int 0)) (by decide) rfl (hb hby d2_122) rfl ?_
  refine Run.x_icmpYes (q := 178) X42 hx (hb hby d2_123) (flt (by decide : ¬ ((0 : Int32) < (0 : Int32)))).2.1 (by decide) (by decide) ?_
  refine Run.x_aloadN (q := 179) X42 hx (hb hby d2_178) rfl rfl rfl ?_
  refine Run.z_getF (q := 182) X42 hx hZ e42 hown (wm23 hw) F_this_forward (hb hby d2_179) rfl fun T43 X43 e43 => ?_
  refine Run.x_iloadN (q := 183) X43 hx (hb hby d2_182) rfl rfl ?_
  refine Run.y_ldI (q := 184) X43 hx hZ e43 A_b4 (i := 1) (v := (.int c0)) (by decide) rfl (hb hby d2_183) rfl ?_
  refine Run.x_aloadN (q := 185) X43 hx (hb hby d2_184) rfl rfl rfl ?_
  refine Run.z_getF (q := 188) X43 hx hZ e43 hown (wm23 hw) F_this_forward (hb hby d2_185) rfl fun T44 X44 e44 => ?_
  refine Run.x_iload (q := 190) X44 hx (hb hby d2_188) rfl rfl ?_
  refine Run.y_ldI (q := 191) X44 hx hZ e44 A_b4 (i := 2) (v := (.int c2)) (by decide) rfl (hb hby d2_190) rfl ?_
  by_cases hq_c0_c2 : c0 = c2
  ·subst hq_c0_c2
   refine Run.x_icmpYes (q := 219) X44 hx (hb hby d2_191) (teq rfl).1 (by decide) (by decide) ?_
   refine Run.x_aloadN (q := 220) X44 hx (hb hby d2_219) rfl rfl rfl ?_
   refine Run.z_getF (q := 223) X44 hx hZ e44 hown (wm25 hw) F_this_rows (hb hby d2_220) rfl fun T45 X45 e45 => ?_
   refine Run.x_iload (q := 225) X45 hx (hb hby d2_223) rfl rfl ?_
   refine Run.x_iconst (q := 226) X45 hx (hb hby d2_225) (z := (1 : Int32)) rfl rfl ?_
   refine Run.x_iadd (q := 227) X45 hx (hb hby d2_226) (z := (3 : Int32)) (by decide) rfl ?_
   refine Run.x_iloadN (q := 228) X45 hx (hb hby d2_227) rfl rfl ?_
   refine Run.y_stI (q := 229) X45 hx hZ e45 A_b23 (i := 3) (by decide) (Nat.le_of_ble_eq_true rfl) (hb hby d2_228) rfl fun T46 h46 X46 e46 W46 A46 => ?_
   replace A_b23 : Ars Z h46 b23 .int [(.int 0), (.int 0), (.int 0), (.int 0), (.int 0), (.int 0)] := A46
   have N46 := Fr.snoc X46 N39 g_b23
   have Z46 : n0 ≤ h46.size := Nat.le_trans Z37 (Nat.le_of_eq W46.size.symm)
   refine Run.x_iload (q := 231) X46 hx (hb hby d2_229) rfl rfl ?_
   refine Run.x_aloadN (q := 232) X46 hx (hb hby d2_231) rfl rfl rfl ?_
   replace F_this_length := F_this_length.other W46 (Or.inl ne_this_b23)
   refine Run.z_getF (q := 235) X46 hx hZ e46 hown (wm20 hw) F_this_length (hb hby d2_232) rfl fun T47 X47 e47 => ?_
   refine Run.x_icmpNo (q := 238) X47 hx (hb hby d2_235) (tlt (by decide : (2 : Int32) < (4 : Int32))).2.1 rfl ?_
   refine Run.x_aloadN (q := 239) X47 hx (hb hby d2_238) rfl rfl rfl ?_
   refine Run.x_iloadN (q := 240) X47 hx (hb hby d2_239) rfl rfl ?_
   refine Run.x_aloadN (q := 241) X47 hx (hb hby d2_240) rfl rfl rfl ?_
   refine Run.x_iload (q := 243) X47 hx (hb hby d2_241) rfl rfl ?_
   replace A_pat := A_pat.other W46 ne_pat_b23
   refine Run.y_ldC (q := 244) X47 hx hZ e47 A_pat (i := 2) (v := (.int c0)) (by decide) rfl (hb hby d2_243) rfl ?_
   replace E_this := E_this.wr W46
   replace F_this_forward := F_this_forward.other W46 (Or.inl ne_this_b23)
   replace F_this_rows := F_this_rows.other W46 (Or.inl ne_this_b23)
   replace F_this_units := F_this_units.other W46 (Or.inl ne_this_b23)
   replace F_this_targets := F_this_targets.other W46 (Or.inl ne_this_b23)
   replace A_b4 := A_b4.other W46 ne_b4_b23
   replace A_b26 := A_b26.other W46 (Ne.symm ne_b23_b26)
   replace A_b29 := A_b29.other W46 (Ne.symm ne_b23_b29)
   refine Run.callVI (q := 247) X47 hx hZ e47 (y := (⟨"needlewise/kmp/SparseAutomaton", "next", "(IC)I"⟩ : MethodName)) (z := (⟨"needlewise/kmp/SparseAutomaton", "next", "(IC)I"⟩ : MethodName)) hown (wm39 hw) (wm32 hw) (notFace_of_selects (args := #[]) (mvT hZ (wm34 hw))) (wm34 hw) (wm33 hw) (wm9 hw) (wm35 hw) (by decide) (a := this) E_this (argsL := [(.int 1), (.int c0)]) (rest := []) (c_next l Z a0 hw this (1 : Int32) c0 h46 n0 Z46 b4 b23 b26 b29 [(.int c0), (.int c0), (.int c0), (.int c3), (.int (-1))] [(.int 0), (.int 0), (.int 0), (.int 0), (.int 0), (.int 0)] [(0 : Int32), (0 : Int32), (0 : Int32), (0 : Int32)] [(0 : Int32), (0 : Int32), (0 : Int32), (0 : Int32)] 1 0 0 c0 (0 : Int32) (0 : Int32) (2 : Int32) E_this F_this_forward F_this_rows F_this_units F_this_targets A_b4 A_b23 A_b26 A_b29 (by decide) (by decide) rfl rfl rfl (by decide) (by decide) (Nat.le_of_ble_eq_true rfl) (Nat.le_of_ble_eq_true rfl) (by decide) (Eq.trans (own_next_p rfl) (by decide))) pd_0 rfl (by rw [hml]; rfl) (W := 0) rfl (by decide) (by decide) (by decide) (by decide) (hb hby d2_244) rfl rfl fun T48 L48 X48 M48 e48 => ?_
   have N48 := Fr.app N46 M48
   refine Run.x_istoreN (q := 248) X48 hx #[.val (.ref this), .val (.ref pat), .val (.int 0), .val (.int 2), .val (.int 2), .val (.int 0)] (hb hby d2_247) rfl rfl ?_
   refine Run.x_iinc (q := 251) X48 hx #[.val (.ref this), .val (.ref pat), .val (.int 0), .val (.int 2), .val (.int 3), .val (.int 0)] (hb hby d2_248) rfl (z := (3 : Int32)) (by decide) rfl rfl ?_
   refine Run.x_goto (q := 96) X48 hx (hb hby d2_251) (by decide) (by decide) ?_
   refine Run.x_iload (q := 98) X48 hx (hb hby d2_96) rfl rfl ?_
   refine Run.x_aloadN (q := 99) X48 hx (hb hby d2_98) rfl rfl rfl ?_
   refine Run.z_getF (q := 102) X48 hx hZ e48 hown (wm20 hw) F_this_length (hb hby d2_99) rfl fun T49 X49 e49 => ?_
   refine Run.x_icmpNo (q := 105) X49 hx (hb hby d2_102) (flt (by decide : ¬ ((4 : Int32) < (3 : Int32)))).2.2.1 rfl ?_
   refine Run.x_aloadN (q := 106) X49 hx (hb hby d2_105) rfl rfl rfl ?_
   refine Run.z_getF (q := 109) X49 hx hZ e49 hown (wm25 hw) F_this_rows (hb hby d2_106) rfl fun T50 X50 e50 => ?_
   refine Run.x_iloadN (q := 110) X50 hx (hb hby d2_109) rfl rfl ?_
   refine Run.y_ldI (q := 111) X50 hx hZ e50 A_b23 (i := 2) (v := (.int 0)) (by decide) rfl (hb hby d2_110) rfl ?_
   refine Run.x_istore (q := 113) X50 hx #[.val (.ref this), .val (.ref pat), .val (.int 0), .val (.int 2), .val (.int 3), .val (.int 0)] (hb hby d2_111) rfl rfl ?_
   refine Run.x_iload (q := 115) X50 hx (hb hby d2_113) rfl rfl ?_
   refine Run.x_aloadN (q := 116) X50 hx (hb hby d2_115) rfl rfl rfl ?_
   refine Run.z_getF (q := 119) X50 hx hZ e50 hown (wm25 hw) F_this_rows (hb hby d2_116) rfl fun T51 X51 e51 => ?_
   refine Run.x_iloadN (q := 120) X51 hx (hb hby d2_119) rfl rfl ?_
   refine Run.x_iconst (q := 121) X51 hx (hb hby d2_120) (z := (1 : Int32)) rfl rfl ?_
   refine Run.x_iadd (q := 122) X51 hx (hb hby d2_121) (z := (3 : Int32)) (by decide) rfl ?_
   refine Run.y_ldI (q := 123) X51 hx hZ e51 A_b23 (i := 3) (v := (.int 0)) (by decide) rfl (hb hby d2_122) rfl ?_
   refine Run.x_icmpYes (q := 178) X51 hx (hb hby d2_123) (flt (by decide : ¬ ((0 : Int32) < (0 : Int32)))).2.1 (by decide) (by decide) ?_
   refine Run.x_aloadN (q := 179) X51 hx (hb hby d2_178) rfl rfl rfl ?_
   refine Run.z_getF (q := 182) X51 hx hZ e51 hown (wm23 hw) F_this_forward (hb hby d2_179) rfl fun T52 X52 e52 => ?_
   refine Run.x_iloadN (q := 183) X52 hx (hb hby d2_182) rfl rfl ?_
   refine Run.y_ldI (q := 184) X52 hx hZ e52 A_b4 (i := 2) (v := (.int c0)) (by decide) rfl (hb hby d2_183) rfl ?_
   refine Run.x_aloadN (q := 185) X52 hx (hb hby d2_184) rfl rfl rfl ?_
   refine Run.z_getF (q := 188) X52 hx hZ e52 hown (wm23 hw) F_this_forward (hb hby d2_185) rfl fun T53 X53 e53 => ?_
   refine Run.x_iload (q := 190) X53 hx (hb hby d2_188) rfl rfl ?_
   refine Run.y_ldI (q := 191) X53 hx hZ e53 A_b4 (i := 3) (v := (.int c3)) (by decide) rfl (hb hby d2_190) rfl ?_
   by_cases hq_c0_c3 : c0 = c3
   ·subst hq_c0_c3
    refine Run.x_icmpYes (q := 219) X53 hx (hb hby d2_191) (teq rfl).1 (by decide) (by decide) ?_
    refine Run.x_aloadN (q := 220) X53 hx (hb hby d2_219) rfl rfl rfl ?_
    refine Run.z_getF (q := 223) X53 hx hZ e53 hown (wm25 hw) F_this_rows (hb hby d2_220) rfl fun T54 X54 e54 => ?_
    refine Run.x_iload (q := 225) X54 hx (hb hby d2_223) rfl rfl ?_
    refine Run.x_iconst (q := 226) X54 hx (hb hby d2_225) (z := (1 : Int32)) rfl rfl ?_
    refine Run.x_iadd (q := 227) X54 hx (hb hby d2_226) (z := (4 : Int32)) (by decide) rfl ?_
    refine Run.x_iloadN (q := 228) X54 hx (hb hby d2_227) rfl rfl ?_
    refine Run.y_stI (q := 229) X54 hx hZ e54 A_b23 (i := 4) (by decide) (Nat.le_of_ble_eq_true rfl) (hb hby d2_228) rfl fun T55 h55 X55 e55 W55 A55 => ?_
    replace A_b23 : Ars Z h55 b23 .int [(.int 0), (.int 0), (.int 0), (.int 0), (.int 0), (.int 0)] := A55
    have N55 := Fr.snoc X55 N48 g_b23
    have Z55 : n0 ≤ h55.size := Nat.le_trans Z46 (Nat.le_of_eq W55.size.symm)
    refine Run.x_iload (q := 231) X55 hx (hb hby d2_229) rfl rfl ?_
    refine Run.x_aloadN (q := 232) X55 hx (hb hby d2_231) rfl rfl rfl ?_
    replace F_this_length := F_this_length.other W55 (Or.inl ne_this_b23)
    refine Run.z_getF (q := 235) X55 hx hZ e55 hown (wm20 hw) F_this_length (hb hby d2_232) rfl fun T56 X56 e56 => ?_
    refine Run.x_icmpNo (q := 238) X56 hx (hb hby d2_235) (tlt (by decide : (3 : Int32) < (4 : Int32))).2.1 rfl ?_
    refine Run.x_aloadN (q := 239) X56 hx (hb hby d2_238) rfl rfl rfl ?_
    refine Run.x_iloadN (q := 240) X56 hx (hb hby d2_239) rfl rfl ?_
    refine Run.x_aloadN (q := 241) X56 hx (hb hby d2_240) rfl rfl rfl ?_
    refine Run.x_iload (q := 243) X56 hx (hb hby d2_241) rfl rfl ?_
    replace A_pat := A_pat.other W55 ne_pat_b23
    refine Run.y_ldC (q := 244) X56 hx hZ e56 A_pat (i := 3) (v := (.int c0)) (by decide) rfl (hb hby d2_243) rfl ?_
    replace E_this := E_this.wr W55
    replace F_this_forward := F_this_forward.other W55 (Or.inl ne_this_b23)
    replace F_this_rows := F_this_rows.other W55 (Or.inl ne_this_b23)
    replace F_this_units := F_this_units.other W55 (Or.inl ne_this_b23)
    replace F_this_targets := F_this_targets.other W55 (Or.inl ne_this_b23)
    replace A_b4 := A_b4.other W55 ne_b4_b23
    replace A_b26 := A_b26.other W55 (Ne.symm ne_b23_b26)
    replace A_b29 := A_b29.other W55 (Ne.symm ne_b23_b29)
    refine Run.callVI (q := 247) X56 hx hZ e56 (y := (⟨"needlewise/kmp/SparseAutomaton", "next", "(IC)I"⟩ : MethodName)) (z := (⟨"needlewise/kmp/SparseAutomaton", "next", "(IC)I"⟩ : MethodName)) hown (wm39 hw) (wm32 hw) (notFace_of_selects (args := #[]) (mvT hZ (wm34 hw))) (wm34 hw) (wm33 hw) (wm9 hw) (wm35 hw) (by decide) (a := this) E_this (argsL := [(.int 2), (.int c0)]) (rest := []) (c_next l Z a0 hw this (2 : Int32) c0 h55 n0 Z55 b4 b23 b26 b29 [(.int c0), (.int c0), (.int c0), (.int c0), (.int (-1))] [(.int 0), (.int 0), (.int 0), (.int 0), (.int 0), (.int 0)] [(0 : Int32), (0 : Int32), (0 : Int32), (0 : Int32)] [(0 : Int32), (0 : Int32), (0 : Int32), (0 : Int32)] 2 0 0 c0 (0 : Int32) (0 : Int32) (3 : Int32) E_this F_this_forward F_this_rows F_this_units F_this_targets A_b4 A_b23 A_b26 A_b29 (by decide) (by decide) rfl rfl rfl (by decide) (by decide) (Nat.le_of_ble_eq_true rfl) (Nat.le_of_ble_eq_true rfl) (by decide) (Eq.trans (own_next_p rfl) (by decide))) pd_0 rfl (by rw [hml]; rfl) (W := 0) rfl (by decide) (by decide) (by decide) (by decide) (hb hby d2_244) rfl rfl fun T57 L57 X57 M57 e57 => ?_
    have N57 := Fr.app N55 M57
    refine Run.x_istoreN (q := 248) X57 hx #[.val (.ref this), .val (.ref pat), .val (.int 0), .val (.int 3), .val (.int 3), .val (.int 0)] (hb hby d2_247) rfl rfl ?_
    refine Run.x_iinc (q := 251) X57 hx #[.val (.ref this), .val (.ref pat), .val (.int 0), .val (.int 3), .val (.int 4), .val (.int 0)] (hb hby d2_248) rfl (z := (4 : Int32)) (by decide) rfl rfl ?_
    refine Run.x_goto (q := 96) X57 hx (hb hby d2_251) (by decide) (by decide) ?_
    refine Run.x_iload (q := 98) X57 hx (hb hby d2_96) rfl rfl ?_
    refine Run.x_aloadN (q := 99) X57 hx (hb hby d2_98) rfl rfl rfl ?_
    refine Run.z_getF (q := 102) X57 hx hZ e57 hown (wm20 hw) F_this_length (hb hby d2_99) rfl fun T58 X58 e58 => ?_
    refine Run.x_icmpNo (q := 105) X58 hx (hb hby d2_102) (flt (by decide : ¬ ((4 : Int32) < (4 : Int32)))).2.2.1 rfl ?_
    refine Run.x_aloadN (q := 106) X58 hx (hb hby d2_105) rfl rfl rfl ?_
    refine Run.z_getF (q := 109) X58 hx hZ e58 hown (wm25 hw) F_this_rows (hb hby d2_106) rfl fun T59 X59 e59 => ?_
    refine Run.x_iloadN (q := 110) X59 hx (hb hby d2_109) rfl rfl ?_
    refine Run.y_ldI (q := 111) X59 hx hZ e59 A_b23 (i := 3) (v := (.int 0)) (by decide) rfl (hb hby d2_110) rfl ?_
    refine Run.x_istore (q := 113) X59 hx #[.val (.ref this), .val (.ref pat), .val (.int 0), .val (.int 3), .val (.int 4), .val (.int 0)] (hb hby d2_111) rfl rfl ?_
    refine Run.x_iload (q := 115) X59 hx (hb hby d2_113) rfl rfl ?_
    refine Run.x_aloadN (q := 116) X59 hx (hb hby d2_115) rfl rfl rfl ?_
    refine Run.z_getF (q := 119) X59 hx hZ e59 hown (wm25 hw) F_this_rows (hb hby d2_116) rfl fun T60 X60 e60 => ?_
    refine Run.x_iloadN (q := 120) X60 hx (hb hby d2_119) rfl rfl ?_
    refine Run.x_iconst (q := 121) X60 hx (hb hby d2_120) (z := (1 : Int32)) rfl rfl ?_
    refine Run.x_iadd (q := 122) X60 hx (hb hby d2_121) (z := (4 : Int32)) (by decide) rfl ?_
    refine Run.y_ldI (q := 123) X60 hx hZ e60 A_b23 (i := 4) (v := (.int 0)) (by decide) rfl (hb hby d2_122) rfl ?_
    refine Run.x_icmpYes (q := 178) X60 hx (hb hby d2_123) (flt (by decide : ¬ ((0 : Int32) < (0 : Int32)))).2.1 (by decide) (by decide) ?_
    refine Run.x_aloadN (q := 179) X60 hx (hb hby d2_178) rfl rfl rfl ?_
    refine Run.z_getF (q := 182) X60 hx hZ e60 hown (wm23 hw) F_this_forward (hb hby d2_179) rfl fun T61 X61 e61 => ?_
    refine Run.x_iloadN (q := 183) X61 hx (hb hby d2_182) rfl rfl ?_
    refine Run.y_ldI (q := 184) X61 hx hZ e61 A_b4 (i := 3) (v := (.int c0)) (by decide) rfl (hb hby d2_183) rfl ?_
    refine Run.x_aloadN (q := 185) X61 hx (hb hby d2_184) rfl rfl rfl ?_
    refine Run.z_getF (q := 188) X61 hx hZ e61 hown (wm23 hw) F_this_forward (hb hby d2_185) rfl fun T62 X62 e62 => ?_
    refine Run.x_iload (q := 190) X62 hx (hb hby d2_188) rfl rfl ?_
    refine Run.y_ldI (q := 191) X62 hx hZ e62 A_b4 (i := 4) (v := (.int (-1))) (by decide) rfl (hb hby d2_190) rfl ?_
    refine Run.x_icmpNo (q := 194) X62 hx (hb hby d2_191) (feq (own_nm1 hr0.1)).1 rfl ?_
    refine Run.x_aloadN (q := 195) X62 hx (hb hby d2_194) rfl rfl rfl ?_
    refine Run.z_getF (q := 198) X62 hx hZ e62 hown (wm27 hw) F_this_units (hb hby d2_195) rfl fun T63 X63 e63 => ?_
    refine Run.x_iloadN (q := 199) X63 hx (hb hby d2_198) rfl rfl ?_
    refine Run.x_aloadN (q := 200) X63 hx (hb hby d2_199) rfl rfl rfl ?_
    refine Run.z_getF (q := 203) X63 hx hZ e63 hown (wm23 hw) F_this_forward (hb hby d2_200) rfl fun T64 X64 e64 => ?_
    refine Run.x_iloadN (q := 204) X64 hx (hb hby d2_203) rfl rfl ?_
    refine Run.y_ldI (q := 205) X64 hx hZ e64 A_b4 (i := 3) (v := (.int c0)) (by decide) rfl (hb hby d2_204) rfl ?_
    refine Run.x_i2c (q := 206) X64 hx (hb hby d2_205) (z := c0) (own_ic hr0) rfl ?_
    refine Run.y_stC (q := 207) X64 hx hZ e64 A_b26 (i := 0) (by decide) (Nat.le_of_ble_eq_true rfl) (z' := c0) (own_nr hr0) (hb hby d2_206) rfl fun T65 h65 X65 e65 W65 A65 => ?_
    replace A_b26 : Ars Z h65 b26 .char [(.int c0), (.int 0), (.int 0), (.int 0)] := A65
    have N65 := Fr.snoc X65 N57 g_b26
    have Z65 : n0 ≤ h65.size := Nat.le_trans Z55 (Nat.le_of_eq W65.size.symm)
    refine Run.x_aloadN (q := 208) X65 hx (hb hby d2_207) rfl rfl rfl ?_
    replace F_this_targets := F_this_targets.other W65 (Or.inl ne_this_b26)
    refine Run.z_getF (q := 211) X65 hx hZ e65 hown (wm29 hw) F_this_targets (hb hby d2_208) rfl fun T66 X66 e66 => ?_
    refine Run.x_iloadN (q := 212) X66 hx (hb hby d2_211) rfl rfl ?_
    refine Run.x_iinc (q := 215) X66 hx #[.val (.ref this), .val (.ref pat), .val (.int 1), .val (.int 3), .val (.int 4), .val (.int 0)] (hb hby d2_212) rfl (z := (1 : Int32)) (by decide) rfl rfl ?_
    refine Run.x_iloadN (q := 216) X66 hx (hb hby d2_215) rfl rfl ?_
    refine Run.x_iconst (q := 217) X66 hx (hb hby d2_216) (z := (1 : Int32)) rfl rfl ?_
    refine Run.x_iadd (q := 218) X66 hx (hb hby d2_217) (z := (4 : Int32)) (by decide) rfl ?_
    replace A_b29 := A_b29.other W65 (Ne.symm ne_b26_b29)
    refine Run.y_stI (q := 219) X66 hx hZ e66 A_b29 (i := 0) (by decide) (Nat.le_of_ble_eq_true rfl) (hb hby d2_218) rfl fun T67 h67 X67 e67 W67 A67 => ?_
    replace A_b29 : Ars Z h67 b29 .int [(.int 4), (.int 0), (.int 0), (.int 0)] := A67
    have N67 := Fr.snoc X67 N65 g_b29
    have Z67 : n0 ≤ h67.size := Nat.le_trans Z65 (Nat.le_of_eq W67.size.symm)
    refine Run.x_aloadN (q := 220) X67 hx (hb hby d2_219) rfl rfl rfl ?_
    replace F_this_rows := (F_this_rows.other W65 (Or.inl ne_this_b26)).other W67 (Or.inl ne_this_b29)
    refine Run.z_getF (q := 223) X67 hx hZ e67 hown (wm25 hw) F_this_rows (hb hby d2_220) rfl fun T68 X68 e68 => ?_
    refine Run.x_iload (q := 225) X68 hx (hb hby d2_223) rfl rfl ?_
    refine Run.x_iconst (q := 226) X68 hx (hb hby d2_225) (z := (1 : Int32)) rfl rfl ?_
    refine Run.x_iadd (q := 227) X68 hx (hb hby d2_226) (z := (5 : Int32)) (by decide) rfl ?_
    refine Run.x_iloadN (q := 228) X68 hx (hb hby d2_227) rfl rfl ?_
    replace A_b23 := (A_b23.other W65 ne_b23_b26).other W67 ne_b23_b29
    refine Run.y_stI (q := 229) X68 hx hZ e68 A_b23 (i := 5) (by decide) (Nat.le_of_ble_eq_true rfl) (hb hby d2_228) rfl fun T69 h69 X69 e69 W69 A69 => ?_
    replace A_b23 : Ars Z h69 b23 .int [(.int 0), (.int 0), (.int 0), (.int 0), (.int 0), (.int 1)] := A69
    have N69 := Fr.snoc X69 N67 g_b23
    have Z69 : n0 ≤ h69.size := Nat.le_trans Z67 (Nat.le_of_eq W69.size.symm)
    refine Run.x_iload (q := 231) X69 hx (hb hby d2_229) rfl rfl ?_
    refine Run.x_aloadN (q := 232) X69 hx (hb hby d2_231) rfl rfl rfl ?_
    replace F_this_length := ((F_this_length.other W65 (Or.inl ne_this_b26)).other W67 (Or.inl ne_this_b29)).other W69 (Or.inl ne_this_b23)
    refine Run.z_getF (q := 235) X69 hx hZ e69 hown (wm20 hw) F_this_length (hb hby d2_232) rfl fun T70 X70 e70 => ?_
    refine Run.x_icmpYes (q := 248) X70 hx (hb hby d2_235) (flt (by decide : ¬ ((4 : Int32) < (4 : Int32)))).2.1 (by decide) (by decide) ?_
    refine Run.x_iinc (q := 251) X70 hx #[.val (.ref this), .val (.ref pat), .val (.int 1), .val (.int 3), .val (.int 5), .val (.int 0)] (hb hby d2_248) rfl (z := (5 : Int32)) (by decide) rfl rfl ?_
    refine Run.x_goto (q := 96) X70 hx (hb hby d2_251) (by decide) (by decide) ?_
    refine Run.x_iload (q := 98) X70 hx (hb hby d2_96) rfl rfl ?_
    refine Run.x_aloadN (q := 99) X70 hx (hb hby d2_98) rfl rfl rfl ?_
    refine Run.z_getF (q := 102) X70 hx hZ e70 hown (wm20 hw) F_this_length (hb hby d2_99) rfl fun T71 X71 e71 => ?_
    refine Run.x_icmpYes (q := 254) X71 hx (hb hby d2_102) (tlt (by decide : (4 : Int32) < (5 : Int32))).2.2.1 (by decide) (by decide) ?_
    replace E_this := ((E_this.wr W65).wr W67).wr W69
    replace F_this_forward := ((F_this_forward.other W65 (Or.inl ne_this_b26)).other W67 (Or.inl ne_this_b29)).other W69 (Or.inl ne_this_b23)
    replace F_this_rows := F_this_rows.other W69 (Or.inl ne_this_b23)
    replace F_this_units := ((F_this_units.other W65 (Or.inl ne_this_b26)).other W67 (Or.inl ne_this_b29)).other W69 (Or.inl ne_this_b23)
    replace F_this_targets := (F_this_targets.other W67 (Or.inl ne_this_b29)).other W69 (Or.inl ne_this_b23)
    replace A_pat := ((A_pat.other W65 ne_pat_b26).other W67 ne_pat_b29).other W69 ne_pat_b23
    replace A_b4 := ((A_b4.other W65 ne_b4_b26).other W67 ne_b4_b29).other W69 ne_b4_b23
    replace A_b26 := (A_b26.other W67 ne_b26_b29).other W69 (Ne.symm ne_b23_b26)
    replace A_b29 := A_b29.other W69 (Ne.symm ne_b23_b29)
    refine Run.retV X71 hx hlk e71 hret (hb hby d2_254) (by decide) (by decide) ?_
    have R0 : own_rw 0 c0 [(0 : Int32), (0 : Int32), (0 : Int32), (0 : Int32), (0 : Int32), (1 : Int32)] [c0, (0 : Int32), (0 : Int32), (0 : Int32)] [(4 : Int32), (0 : Int32), (0 : Int32), (0 : Int32)] (fun u => (if c0 = u then (1 : Int32) else (0 : Int32))) := by
     refine ⟨0, 0, (0 : Int32), (0 : Int32), rfl, rfl, by decide, by decide, Nat.le_of_ble_eq_true rfl, Nat.le_of_ble_eq_true rfl, by decide, fun u hu => ?_⟩
     by_cases q_c0 : c0 = u
     ·subst q_c0
      exact Eq.trans (b := (1 : Int32)) (Eq.trans (own_next_p rfl) (by decide)) (Eq.symm (if_pos rfl))
     ·skip
      exact Eq.trans (b := (0 : Int32)) (Eq.trans (own_next_n (fun h => q_c0 h.symm)) (rfl)) (Eq.symm (Eq.trans (if_neg (fun h => q_c0 h)) (rfl)))
    have R1 : own_rw 1 c0 [(0 : Int32), (0 : Int32), (0 : Int32), (0 : Int32), (0 : Int32), (1 : Int32)] [c0, (0 : Int32), (0 : Int32), (0 : Int32)] [(4 : Int32), (0 : Int32), (0 : Int32), (0 : Int32)] (fun u => (if c0 = c0 ∧ c0 = u then (2 : Int32) else (if c0 = u then (1 : Int32) else (0 : Int32)))) := by
     refine ⟨0, 0, (0 : Int32), (0 : Int32), rfl, rfl, by decide, by decide, Nat.le_of_ble_eq_true rfl, Nat.le_of_ble_eq_true rfl, by decide, fun u hu => ?_⟩
     by_cases q_c0 : c0 = u
     ·subst q_c0
      exact Eq.trans (b := (2 : Int32)) (Eq.trans (own_next_p rfl) (by decide)) (Eq.symm (if_pos ⟨rfl, rfl⟩))
     ·skip
      exact Eq.trans (b := (0 : Int32)) (Eq.trans (own_next_n (fun h => q_c0 h.symm)) (rfl)) (Eq.symm (Eq.trans (if_neg (fun h => q_c0 h.2)) (Eq.trans (if_neg (fun h => q_c0 h)) (rfl))))
    have R2 : own_rw 2 c0 [(0 : Int32), (0 : Int32), (0 : Int32), (0 : Int32), (0 : Int32), (1 : Int32)] [c0, (0 : Int32), (0 : Int32), (0 : Int32)] [(4 : Int32), (0 : Int32), (0 : Int32), (0 : Int32)] (fun u => (if c0 = c0 ∧ c0 = c0 ∧ c0 = u then (3 : Int32) else (if c0 = c0 ∧ c0 = u then (2 : Int32) else (if c0 = u then (1 : Int32) else (0 : Int32))))) := by
     refine ⟨0, 0, (0 : Int32), (0 : Int32), rfl, rfl, by decide, by decide, Nat.le_of_ble_eq_true rfl, Nat.le_of_ble_eq_true rfl, by decide, fun u hu => ?_⟩
     by_cases q_c0 : c0 = u
     ·subst q_c0
      exact Eq.trans (b := (3 : Int32)) (Eq.trans (own_next_p rfl) (by decide)) (Eq.symm (if_pos ⟨rfl, rfl, rfl⟩))
     ·skip
      exact Eq.trans (b := (0 : Int32)) (Eq.trans (own_next_n (fun h => q_c0 h.symm)) (rfl)) (Eq.symm (Eq.trans (if_neg (fun h => q_c0 h.2.2)) (Eq.trans (if_neg (fun h => q_c0 h.2)) (Eq.trans (if_neg (fun h => q_c0 h)) (rfl)))))
    have R3 : own_rw 3 c0 [(0 : Int32), (0 : Int32), (0 : Int32), (0 : Int32), (0 : Int32), (1 : Int32)] [c0, (0 : Int32), (0 : Int32), (0 : Int32)] [(4 : Int32), (0 : Int32), (0 : Int32), (0 : Int32)] (fun u => (if c0 = c0 ∧ c0 = c0 ∧ c0 = c0 ∧ c0 = u then (4 : Int32) else (if c0 = c0 ∧ c0 = c0 ∧ c0 = u then (3 : Int32) else (if c0 = c0 ∧ c0 = u then (2 : Int32) else (if c0 = u then (1 : Int32) else (0 : Int32)))))) := by
     refine ⟨0, 0, (0 : Int32), (0 : Int32), rfl, rfl, by decide, by decide, Nat.le_of_ble_eq_true rfl, Nat.le_of_ble_eq_true rfl, by decide, fun u hu => ?_⟩
     by_cases q_c0 : c0 = u
     ·subst q_c0
      exact Eq.trans (b := (4 : Int32)) (Eq.trans (own_next_p rfl) (by decide)) (Eq.symm (if_pos ⟨rfl, rfl, rfl, rfl⟩))
     ·skip
      exact Eq.trans (b := (0 : Int32)) (Eq.trans (own_next_n (fun h => q_c0 h.symm)) (rfl)) (Eq.symm (Eq.trans (if_neg (fun h => q_c0 h.2.2.2)) (Eq.trans (if_neg (fun h => q_c0 h.2.2)) (Eq.trans (if_neg (fun h => q_c0 h.2)) (Eq.trans (if_neg (fun h => q_c0 h)) (rfl))))))
    have R4 : own_rw 4 (-1 : Int32) [(0 : Int32), (0 : Int32), (0 : Int32), (0 : Int32), (0 : Int32), (1 : Int32)] [c0, (0 : Int32), (0 : Int32), (0 : Int32)] [(4 : Int32), (0 : Int32), (0 : Int32), (0 : Int32)] (fun u => (if c0 = c0 ∧ c0 = c0 ∧ c0 = c0 ∧ c0 = u then (4 : Int32) else (if c0 = c0 ∧ c0 = c0 ∧ c0 = u then (3 : Int32) else (if c0 = c0 ∧ c0 = u then (2 : Int32) else (if c0 = u then (1 : Int32) else (0 : Int32)))))) := by
     refine ⟨0, 1, (0 : Int32), (1 : Int32), rfl, rfl, by decide, by decide, Nat.le_of_ble_eq_true rfl, Nat.le_of_ble_eq_true rfl, by decide, fun u hu => ?_⟩
     by_cases q_c0 : c0 = u
     ·subst q_c0
      exact Eq.trans (b := (4 : Int32)) (Eq.trans (own_next_n (own_nm1 hr0.1)) (own_look_p rfl)) (Eq.symm (if_pos ⟨rfl, rfl, rfl, rfl⟩))
     ·skip
      exact Eq.trans (b := (0 : Int32)) (Eq.trans (own_next_n (own_nm1 hu)) (Eq.trans (own_look_n q_c0) (rfl))) (Eq.symm (Eq.trans (if_neg (fun h => q_c0 h.2.2.2)) (Eq.trans (if_neg (fun h => q_c0 h.2.2)) (Eq.trans (if_neg (fun h => q_c0 h.2)) (Eq.trans (if_neg (fun h => q_c0 h)) (rfl))))))
    exact ⟨b4, b23, b26, b29, [(0 : Int32), (0 : Int32), (0 : Int32), (0 : Int32), (0 : Int32), (1 : Int32)], [c0, (0 : Int32), (0 : Int32), (0 : Int32)], [(4 : Int32), (0 : Int32), (0 : Int32), (0 : Int32)], rfl, N69, E_this, F_this_forward, F_this_rows, F_this_units, F_this_targets, A_b4, A_b23, A_b26, A_b29, R0, R1, R2, R3, R4⟩
   ·skip
    refine Run.x_icmpNo (q := 194) X53 hx (hb hby d2_191) (feq hq_c0_c3).1 rfl ?_
    refine Run.x_aloadN (q := 195) X53 hx (hb hby d2_194) rfl rfl rfl ?_
    refine Run.z_getF (q := 198) X53 hx hZ e53 hown (wm27 hw) F_this_units (hb hby d2_195) rfl fun T72 X72 e72 => ?_
    refine Run.x_iloadN (q := 199) X72 hx (hb hby d2_198) rfl rfl ?_
    refine Run.x_aloadN (q := 200) X72 hx (hb hby d2_199) rfl rfl rfl ?_
    refine Run.z_getF (q := 203) X72 hx hZ e72 hown (wm23 hw) F_this_forward (hb hby d2_200) rfl fun T73 X73 e73 => ?_
    refine Run.x_iloadN (q := 204) X73 hx (hb hby d2_203) rfl rfl ?_
    refine Run.y_ldI (q := 205) X73 hx hZ e73 A_b4 (i := 2) (v := (.int c0)) (by decide) rfl (hb hby d2_204) rfl ?_
    refine Run.x_i2c (q := 206) X73 hx (hb hby d2_205) (z := c0) (own_ic hr0) rfl ?_
    refine Run.y_stC (q := 207) X73 hx hZ e73 A_b26 (i := 0) (by decide) (Nat.le_of_ble_eq_true rfl) (z' := c0) (own_nr hr0) (hb hby d2_206) rfl fun T74 h74 X74 e74 W74 A74 => ?_
    replace A_b26 : Ars Z h74 b26 .char [(.int c0), (.int 0), (.int 0), (.int 0)] := A74
    have N74 := Fr.snoc X74 N48 g_b26
    have Z74 : n0 ≤ h74.size := Nat.le_trans Z46 (Nat.le_of_eq W74.size.symm)
    refine Run.x_aloadN (q := 208) X74 hx (hb hby d2_207) rfl rfl rfl ?_
    replace F_this_targets := F_this_targets.other W74 (Or.inl ne_this_b26)
    refine Run.z_getF (q := 211) X74 hx hZ e74 hown (wm29 hw) F_this_targets (hb hby d2_208) rfl fun T75 X75 e75 => ?_
    refine Run.x_iloadN (q := 212) X75 hx (hb hby d2_211) rfl rfl ?_
    refine Run.x_iinc (q := 215) X75 hx #[.val (.ref this), .val (.ref pat), .val (.int 1), .val (.int 2), .val (.int 3), .val (.int 0)] (hb hby d2_212) rfl (z := (1 : Int32)) (by decide) rfl rfl ?_
    refine Run.x_iloadN (q := 216) X75 hx (hb hby d2_215) rfl rfl ?_
    refine Run.x_iconst (q := 217) X75 hx (hb hby d2_216) (z := (1 : Int32)) rfl rfl ?_
    refine Run.x_iadd (q := 218) X75 hx (hb hby d2_217) (z := (3 : Int32)) (by decide) rfl ?_
    replace A_b29 := A_b29.other W74 (Ne.symm ne_b26_b29)
    refine Run.y_stI (q := 219) X75 hx hZ e75 A_b29 (i := 0) (by decide) (Nat.le_of_ble_eq_true rfl) (hb hby d2_218) rfl fun T76 h76 X76 e76 W76 A76 => ?_
    replace A_b29 : Ars Z h76 b29 .int [(.int 3), (.int 0), (.int 0), (.int 0)] := A76
    have N76 := Fr.snoc X76 N74 g_b29
    have Z76 : n0 ≤ h76.size := Nat.le_trans Z74 (Nat.le_of_eq W76.size.symm)
    refine Run.x_aloadN (q := 220) X76 hx (hb hby d2_219) rfl rfl rfl ?_
    replace F_this_rows := (F_this_rows.other W74 (Or.inl ne_this_b26)).other W76 (Or.inl ne_this_b29)
    refine Run.z_getF (q := 223) X76 hx hZ e76 hown (wm25 hw) F_this_rows (hb hby d2_220) rfl fun T77 X77 e77 => ?_
    refine Run.x_iload (q := 225) X77 hx (hb hby d2_223) rfl rfl ?_
    refine Run.x_iconst (q := 226) X77 hx (hb hby d2_225) (z := (1 : Int32)) rfl rfl ?_
    refine Run.x_iadd (q := 227) X77 hx (hb hby d2_226) (z := (4 : Int32)) (by decide) rfl ?_
    refine Run.x_iloadN (q := 228) X77 hx (hb hby d2_227) rfl rfl ?_
    replace A_b23 := (A_b23.other W74 ne_b23_b26).other W76 ne_b23_b29
    refine Run.y_stI (q := 229) X77 hx hZ e77 A_b23 (i := 4) (by decide) (Nat.le_of_ble_eq_true rfl) (hb hby d2_228) rfl fun T78 h78 X78 e78 W78 A78 => ?_
    replace A_b23 : Ars Z h78 b23 .int [(.int 0), (.int 0), (.int 0), (.int 0), (.int 1), (.int 0)] := A78
    have N78 := Fr.snoc X78 N76 g_b23
    have Z78 : n0 ≤ h78.size := Nat.le_trans Z76 (Nat.le_of_eq W78.size.symm)
    refine Run.x_iload (q := 231) X78 hx (hb hby d2_229) rfl rfl ?_
    refine Run.x_aloadN (q := 232) X78 hx (hb hby d2_231) rfl rfl rfl ?_
    replace F_this_length := ((F_this_length.other W74 (Or.inl ne_this_b26)).other W76 (Or.inl ne_this_b29)).other W78 (Or.inl ne_this_b23)
    refine Run.z_getF (q := 235) X78 hx hZ e78 hown (wm20 hw) F_this_length (hb hby d2_232) rfl fun T79 X79 e79 => ?_
    refine Run.x_icmpNo (q := 238) X79 hx (hb hby d2_235) (tlt (by decide : (3 : Int32) < (4 : Int32))).2.1 rfl ?_
    refine Run.x_aloadN (q := 239) X79 hx (hb hby d2_238) rfl rfl rfl ?_
    refine Run.x_iloadN (q := 240) X79 hx (hb hby d2_239) rfl rfl ?_
    refine Run.x_aloadN (q := 241) X79 hx (hb hby d2_240) rfl rfl rfl ?_
    refine Run.x_iload (q := 243) X79 hx (hb hby d2_241) rfl rfl ?_
    replace A_pat := ((A_pat.other W74 ne_pat_b26).other W76 ne_pat_b29).other W78 ne_pat_b23
    refine Run.y_ldC (q := 244) X79 hx hZ e79 A_pat (i := 3) (v := (.int c3)) (by decide) rfl (hb hby d2_243) rfl ?_
    replace E_this := ((E_this.wr W74).wr W76).wr W78
    replace F_this_forward := ((F_this_forward.other W74 (Or.inl ne_this_b26)).other W76 (Or.inl ne_this_b29)).other W78 (Or.inl ne_this_b23)
    replace F_this_rows := F_this_rows.other W78 (Or.inl ne_this_b23)
    replace F_this_units := ((F_this_units.other W74 (Or.inl ne_this_b26)).other W76 (Or.inl ne_this_b29)).other W78 (Or.inl ne_this_b23)
    replace F_this_targets := (F_this_targets.other W76 (Or.inl ne_this_b29)).other W78 (Or.inl ne_this_b23)
    replace A_b4 := ((A_b4.other W74 ne_b4_b26).other W76 ne_b4_b29).other W78 ne_b4_b23
    replace A_b26 := (A_b26.other W76 ne_b26_b29).other W78 (Ne.symm ne_b23_b26)
    replace A_b29 := A_b29.other W78 (Ne.symm ne_b23_b29)
    refine Run.callVI (q := 247) X79 hx hZ e79 (y := (⟨"needlewise/kmp/SparseAutomaton", "next", "(IC)I"⟩ : MethodName)) (z := (⟨"needlewise/kmp/SparseAutomaton", "next", "(IC)I"⟩ : MethodName)) hown (wm39 hw) (wm32 hw) (notFace_of_selects (args := #[]) (mvT hZ (wm34 hw))) (wm34 hw) (wm33 hw) (wm9 hw) (wm35 hw) (by decide) (a := this) E_this (argsL := [(.int 2), (.int c3)]) (rest := []) (c_next l Z a0 hw this (2 : Int32) c3 h78 n0 Z78 b4 b23 b26 b29 [(.int c0), (.int c0), (.int c0), (.int c3), (.int (-1))] [(.int 0), (.int 0), (.int 0), (.int 0), (.int 1), (.int 0)] [c0, (0 : Int32), (0 : Int32), (0 : Int32)] [(3 : Int32), (0 : Int32), (0 : Int32), (0 : Int32)] 2 0 0 c0 (0 : Int32) (0 : Int32) (0 : Int32) E_this F_this_forward F_this_rows F_this_units F_this_targets A_b4 A_b23 A_b26 A_b29 (by decide) (by decide) rfl rfl rfl (by decide) (by decide) (Nat.le_of_ble_eq_true rfl) (Nat.le_of_ble_eq_true rfl) (by decide) (Eq.trans (own_next_n (fun h => hq_c0_c3 h.symm)) (rfl))) pd_0 rfl (by rw [hml]; rfl) (W := 0) rfl (by decide) (by decide) (by decide) (by decide) (hb hby d2_244) rfl rfl fun T80 L80 X80 M80 e80 => ?_
    have N80 := Fr.app N78 M80
    refine Run.x_istoreN (q := 248) X80 hx #[.val (.ref this), .val (.ref pat), .val (.int 1), .val (.int 0), .val (.int 3), .val (.int 0)] (hb hby d2_247) rfl rfl ?_
    refine Run.x_iinc (q := 251) X80 hx #[.val (.ref this), .val (.ref pat), .val (.int 1), .val (.int 0), .val (.int 4), .val (.int 0)] (hb hby d2_248) rfl (z := (4 : Int32)) (by decide) rfl rfl ?_
    refine Run.x_goto (q := 96) X80 hx (hb hby d2_251) (by decide) (by decide) ?_
    refine Run.x_iload (q := 98) X80 hx (hb hby d2_96) rfl rfl ?_
    refine Run.x_aloadN (q := 99) X80 hx (hb hby d2_98) rfl rfl rfl ?_
    refine Run.z_getF (q := 102) X80 hx hZ e80 hown (wm20 hw) F_this_length (hb hby d2_99) rfl fun T81 X81 e81 => ?_
    refine Run.x_icmpNo (q := 105) X81 hx (hb hby d2_102) (flt (by decide : ¬ ((4 : Int32) < (4 : Int32)))).2.2.1 rfl ?_
    refine Run.x_aloadN (q := 106) X81 hx (hb hby d2_105) rfl rfl rfl ?_
    refine Run.z_getF (q := 109) X81 hx hZ e81 hown (wm25 hw) F_this_rows (hb hby d2_106) rfl fun T82 X82 e82 => ?_
    refine Run.x_iloadN (q := 110) X82 hx (hb hby d2_109) rfl rfl ?_
    refine Run.y_ldI (q := 111) X82 hx hZ e82 A_b23 (i := 0) (v := (.int 0)) (by decide) rfl (hb hby d2_110) rfl ?_
    refine Run.x_istore (q := 113) X82 hx #[.val (.ref this), .val (.ref pat), .val (.int 1), .val (.int 0), .val (.int 4), .val (.int 0)] (hb hby d2_111) rfl rfl ?_
    refine Run.x_iload (q := 115) X82 hx (hb hby d2_113) rfl rfl ?_
    refine Run.x_aloadN (q := 116) X82 hx (hb hby d2_115) rfl rfl rfl ?_
    refine Run.z_getF (q := 119) X82 hx hZ e82 hown (wm25 hw) F_this_rows (hb hby d2_116) rfl fun T83 X83 e83 => ?_
    refine Run.x_iloadN (q := 120) X83 hx (hb hby d2_119) rfl rfl ?_
    refine Run.x_iconst (q := 121) X83 hx (hb hby d2_120) (z := (1 : Int32)) rfl rfl ?_
    refine Run.x_iadd (q := 122) X83 hx (hb hby d2_121) (z := (1 : Int32)) (by decide) rfl ?_
    refine Run.y_ldI (q := 123) X83 hx hZ e83 A_b23 (i := 1) (v := (.int 0)) (by decide) rfl (hb hby d2_122) rfl ?_
    refine Run.x_icmpYes (q := 178) X83 hx (hb hby d2_123) (flt (by decide : ¬ ((0 : Int32) < (0 : Int32)))).2.1 (by decide) (by decide) ?_
    refine Run.x_aloadN (q := 179) X83 hx (hb hby d2_178) rfl rfl rfl ?_
    refine Run.z_getF (q := 182) X83 hx hZ e83 hown (wm23 hw) F_this_forward (hb hby d2_179) rfl fun T84 X84 e84 => ?_
    refine Run.x_iloadN (q := 183) X84 hx (hb hby d2_182) rfl rfl ?_
    refine Run.y_ldI (q := 184) X84 hx hZ e84 A_b4 (i := 0) (v := (.int c0)) (by decide) rfl (hb hby d2_183) rfl ?_
    refine Run.x_aloadN (q := 185) X84 hx (hb hby d2_184) rfl rfl rfl ?_
    refine Run.z_getF (q := 188) X84 hx hZ e84 hown (wm23 hw) F_this_forward (hb hby d2_185) rfl fun T85 X85 e85 => ?_
    refine Run.x_iload (q := 190) X85 hx (hb hby d2_188) rfl rfl ?_
    refine Run.y_ldI (q := 191) X85 hx hZ e85 A_b4 (i := 4) (v := (.int (-1))) (by decide) rfl (hb hby d2_190) rfl ?_
    refine Run.x_icmpNo (q := 194) X85 hx (hb hby d2_191) (feq (own_nm1 hr0.1)).1 rfl ?_
    refine Run.x_aloadN (q := 195) X85 hx (hb hby d2_194) rfl rfl rfl ?_
    refine Run.z_getF (q := 198) X85 hx hZ e85 hown (wm27 hw) F_this_units (hb hby d2_195) rfl fun T86 X86 e86 => ?_
    refine Run.x_iloadN (q := 199) X86 hx (hb hby d2_198) rfl rfl ?_
    refine Run.x_aloadN (q := 200) X86 hx (hb hby d2_199) rfl rfl rfl ?_
    refine Run.z_getF (q := 203) X86 hx hZ e86 hown (wm23 hw) F_this_forward (hb hby d2_200) rfl fun T87 X87 e87 => ?_
    refine Run.x_iloadN (q := 204) X87 hx (hb hby d2_203) rfl rfl ?_
    refine Run.y_ldI (q := 205) X87 hx hZ e87 A_b4 (i := 0) (v := (.int c0)) (by decide) rfl (hb hby d2_204) rfl ?_
    refine Run.x_i2c (q := 206) X87 hx (hb hby d2_205) (z := c0) (own_ic hr0) rfl ?_
    refine Run.y_stC (q := 207) X87 hx hZ e87 A_b26 (i := 1) (by decide) (Nat.le_of_ble_eq_true rfl) (z' := c0) (own_nr hr0) (hb hby d2_206) rfl fun T88 h88 X88 e88 W88 A88 => ?_
    replace A_b26 : Ars Z h88 b26 .char [(.int c0), (.int c0), (.int 0), (.int 0)] := A88
    have N88 := Fr.snoc X88 N80 g_b26
    have Z88 : n0 ≤ h88.size := Nat.le_trans Z78 (Nat.le_of_eq W88.size.symm)
    refine Run.x_aloadN (q := 208) X88 hx (hb hby d2_207) rfl rfl rfl ?_
    replace F_this_targets := F_this_targets.other W88 (Or.inl ne_this_b26)
    refine Run.z_getF (q := 211) X88 hx hZ e88 hown (wm29 hw) F_this_targets (hb hby d2_208) rfl fun T89 X89 e89 => ?_
    refine Run.x_iloadN (q := 212) X89 hx (hb hby d2_211) rfl rfl ?_
    refine Run.x_iinc (q := 215) X89 hx #[.val (.ref this), .val (.ref pat), .val (.int 2), .val (.int 0), .val (.int 4), .val (.int 0)] (hb hby d2_212) rfl (z := (2 : Int32)) (by decide) rfl rfl ?_
    refine Run.x_iloadN (q := 216) X89 hx (hb hby d2_215) rfl rfl ?_
    refine Run.x_iconst (q := 217) X89 hx (hb hby d2_216) (z := (1 : Int32)) rfl rfl ?_
    refine Run.x_iadd (q := 218) X89 hx (hb hby d2_217) (z := (1 : Int32)) (by decide) rfl ?_
    replace A_b29 := A_b29.other W88 (Ne.symm ne_b26_b29)
    refine Run.y_stI (q := 219) X89 hx hZ e89 A_b29 (i := 1) (by decide) (Nat.le_of_ble_eq_true rfl) (hb hby d2_218) rfl fun T90 h90 X90 e90 W90 A90 => ?_
    replace A_b29 : Ars Z h90 b29 .int [(.int 3), (.int 1), (.int 0), (.int 0)] := A90
    have N90 := Fr.snoc X90 N88 g_b29
    have Z90 : n0 ≤ h90.size := Nat.le_trans Z88 (Nat.le_of_eq W90.size.symm)
    refine Run.x_aloadN (q := 220) X90 hx (hb hby d2_219) rfl rfl rfl ?_
    replace F_this_rows := (F_this_rows.other W88 (Or.inl ne_this_b26)).other W90 (Or.inl ne_this_b29)
    refine Run.z_getF (q := 223) X90 hx hZ e90 hown (wm25 hw) F_this_rows (hb hby d2_220) rfl fun T91 X91 e91 => ?_
    refine Run.x_iload (q := 225) X91 hx (hb hby d2_223) rfl rfl ?_
    refine Run.x_iconst (q := 226) X91 hx (hb hby d2_225) (z := (1 : Int32)) rfl rfl ?_
    refine Run.x_iadd (q := 227) X91 hx (hb hby d2_226) (z := (5 : Int32)) (by decide) rfl ?_
    refine Run.x_iloadN (q := 228) X91 hx (hb hby d2_227) rfl rfl ?_
    replace A_b23 := (A_b23.other W88 ne_b23_b26).other W90 ne_b23_b29
    refine Run.y_stI (q := 229) X91 hx hZ e91 A_b23 (i := 5) (by decide) (Nat.le_of_ble_eq_true rfl) (hb hby d2_228) rfl fun T92 h92 X92 e92 W92 A92 => ?_
    replace A_b23 : Ars Z h92 b23 .int [(.int 0), (.int 0), (.int 0), (.int 0), (.int 1), (.int 2)] := A92
    have N92 := Fr.snoc X92 N90 g_b23
    have Z92 : n0 ≤ h92.size := Nat.le_trans Z90 (Nat.le_of_eq W92.size.symm)
    refine Run.x_iload (q := 231) X92 hx (hb hby d2_229) rfl rfl ?_
    refine Run.x_aloadN (q := 232) X92 hx (hb hby d2_231) rfl rfl rfl ?_
    replace F_this_length := ((F_this_length.other W88 (Or.inl ne_this_b26)).other W90 (Or.inl ne_this_b29)).other W92 (Or.inl ne_this_b23)
    refine Run.z_getF (q := 235) X92 hx hZ e92 hown (wm20 hw) F_this_length (hb hby d2_232) rfl fun T93 X93 e93 => ?_
    refine Run.x_icmpYes (q := 248) X93 hx (hb hby d2_235) (flt (by decide : ¬ ((4 : Int32) < (4 : Int32)))).2.1 (by decide) (by decide) ?_
    refine Run.x_iinc (q := 251) X93 hx #[.val (.ref this), .val (.ref pat), .val (.int 2), .val (.int 0), .val (.int 5), .val (.int 0)] (hb hby d2_248) rfl (z := (5 : Int32)) (by decide) rfl rfl ?_
    refine Run.x_goto (q := 96) X93 hx (hb hby d2_251) (by decide) (by decide) ?_
    refine Run.x_iload (q := 98) X93 hx (hb hby d2_96) rfl rfl ?_
    refine Run.x_aloadN (q := 99) X93 hx (hb hby d2_98) rfl rfl rfl ?_
    refine Run.z_getF (q := 102) X93 hx hZ e93 hown (wm20 hw) F_this_length (hb hby d2_99) rfl fun T94 X94 e94 => ?_
    refine Run.x_icmpYes (q := 254) X94 hx (hb hby d2_102) (tlt (by decide : (4 : Int32) < (5 : Int32))).2.2.1 (by decide) (by decide) ?_
    replace E_this := ((E_this.wr W88).wr W90).wr W92
    replace F_this_forward := ((F_this_forward.other W88 (Or.inl ne_this_b26)).other W90 (Or.inl ne_this_b29)).other W92 (Or.inl ne_this_b23)
    replace F_this_rows := F_this_rows.other W92 (Or.inl ne_this_b23)
    replace F_this_units := ((F_this_units.other W88 (Or.inl ne_this_b26)).other W90 (Or.inl ne_this_b29)).other W92 (Or.inl ne_this_b23)
    replace F_this_targets := (F_this_targets.other W90 (Or.inl ne_this_b29)).other W92 (Or.inl ne_this_b23)
    replace A_pat := ((A_pat.other W88 ne_pat_b26).other W90 ne_pat_b29).other W92 ne_pat_b23
    replace A_b4 := ((A_b4.other W88 ne_b4_b26).other W90 ne_b4_b29).other W92 ne_b4_b23
    replace A_b26 := (A_b26.other W90 ne_b26_b29).other W92 (Ne.symm ne_b23_b26)
    replace A_b29 := A_b29.other W92 (Ne.symm ne_b23_b29)
    refine Run.retV X94 hx hlk e94 hret (hb hby d2_254) (by decide) (by decide) ?_
    have R0 : own_rw 0 c0 [(0 : Int32), (0 : Int32), (0 : Int32), (0 : Int32), (1 : Int32), (2 : Int32)] [c0, c0, (0 : Int32), (0 : Int32)] [(3 : Int32), (1 : Int32), (0 : Int32), (0 : Int32)] (fun u => (if c0 = u then (1 : Int32) else (0 : Int32))) := by
     refine ⟨0, 0, (0 : Int32), (0 : Int32), rfl, rfl, by decide, by decide, Nat.le_of_ble_eq_true rfl, Nat.le_of_ble_eq_true rfl, by decide, fun u hu => ?_⟩
     by_cases q_c0 : c0 = u
     ·subst q_c0
      exact Eq.trans (b := (1 : Int32)) (Eq.trans (own_next_p rfl) (by decide)) (Eq.symm (if_pos rfl))
     ·skip
      by_cases q_c3 : c3 = u
      ·subst q_c3
       exact Eq.trans (b := (0 : Int32)) (Eq.trans (own_next_n (fun h => hq_c0_c3 h.symm)) (rfl)) (Eq.symm (Eq.trans (if_neg (fun h => hq_c0_c3 h)) (rfl)))
      ·skip
       exact Eq.trans (b := (0 : Int32)) (Eq.trans (own_next_n (fun h => q_c0 h.symm)) (rfl)) (Eq.symm (Eq.trans (if_neg (fun h => q_c0 h)) (rfl)))
    have R1 : own_rw 1 c0 [(0 : Int32), (0 : Int32), (0 : Int32), (0 : Int32), (1 : Int32), (2 : Int32)] [c0, c0, (0 : Int32), (0 : Int32)] [(3 : Int32), (1 : Int32), (0 : Int32), (0 : Int32)] (fun u => (if c0 = c0 ∧ c0 = u then (2 : Int32) else (if c0 = u then (1 : Int32) else (0 : Int32)))) := by
     refine ⟨0, 0, (0 : Int32), (0 : Int32), rfl, rfl, by decide, by decide, Nat.le_of_ble_eq_true rfl, Nat.le_of_ble_eq_true rfl, by decide, fun u hu => ?_⟩
     by_cases q_c0 : c0 = u
     ·subst q_c0
      exact Eq.trans (b := (2 : Int32)) (Eq.trans (own_next_p rfl) (by decide)) (Eq.symm (if_pos ⟨rfl, rfl⟩))
     ·skip
      by_cases q_c3 : c3 = u
      ·subst q_c3
       exact Eq.trans (b := (0 : Int32)) (Eq.trans (own_next_n (fun h => hq_c0_c3 h.symm)) (rfl)) (Eq.symm (Eq.trans (if_neg (fun h => hq_c0_c3 h.2)) (Eq.trans (if_neg (fun h => hq_c0_c3 h)) (rfl))))
      ·skip
       exact Eq.trans (b := (0 : Int32)) (Eq.trans (own_next_n (fun h => q_c0 h.symm)) (rfl)) (Eq.symm (Eq.trans (if_neg (fun h => q_c0 h.2)) (Eq.trans (if_neg (fun h => q_c0 h)) (rfl))))
    have R2 : own_rw 2 c0 [(0 : Int32), (0 : Int32), (0 : Int32), (0 : Int32), (1 : Int32), (2 : Int32)] [c0, c0, (0 : Int32), (0 : Int32)] [(3 : Int32), (1 : Int32), (0 : Int32), (0 : Int32)] (fun u => (if c0 = c0 ∧ c0 = c0 ∧ c0 = u then (3 : Int32) else (if c0 = c0 ∧ c0 = u then (2 : Int32) else (if c0 = u then (1 : Int32) else (0 : Int32))))) := by
     refine ⟨0, 0, (0 : Int32), (0 : Int32), rfl, rfl, by decide, by decide, Nat.le_of_ble_eq_true rfl, Nat.le_of_ble_eq_true rfl, by decide, fun u hu => ?_⟩
     by_cases q_c0 : c0 = u
     ·subst q_c0
      exact Eq.trans (b := (3 : Int32)) (Eq.trans (own_next_p rfl) (by decide)) (Eq.symm (if_pos ⟨rfl, rfl, rfl⟩))
     ·skip
      by_cases q_c3 : c3 = u
      ·subst q_c3
       exact Eq.trans (b := (0 : Int32)) (Eq.trans (own_next_n (fun h => hq_c0_c3 h.symm)) (rfl)) (Eq.symm (Eq.trans (if_neg (fun h => hq_c0_c3 h.2.2)) (Eq.trans (if_neg (fun h => hq_c0_c3 h.2)) (Eq.trans (if_neg (fun h => hq_c0_c3 h)) (rfl)))))
      ·skip
       exact Eq.trans (b := (0 : Int32)) (Eq.trans (own_next_n (fun h => q_c0 h.symm)) (rfl)) (Eq.symm (Eq.trans (if_neg (fun h => q_c0 h.2.2)) (Eq.trans (if_neg (fun h => q_c0 h.2)) (Eq.trans (if_neg (fun h => q_c0 h)) (rfl)))))
    have R3 : own_rw 3 c3 [(0 : Int32), (0 : Int32), (0 : Int32), (0 : Int32), (1 : Int32), (2 : Int32)] [c0, c0, (0 : Int32), (0 : Int32)] [(3 : Int32), (1 : Int32), (0 : Int32), (0 : Int32)] (fun u => (if c0 = c0 ∧ c0 = c0 ∧ c0 = c0 ∧ c3 = u then (4 : Int32) else (if c0 = c0 ∧ c0 = c0 ∧ c0 = u then (3 : Int32) else (if c0 = c0 ∧ c0 = u then (2 : Int32) else (if c0 = u then (1 : Int32) else (0 : Int32)))))) := by
     refine ⟨0, 1, (0 : Int32), (1 : Int32), rfl, rfl, by decide, by decide, Nat.le_of_ble_eq_true rfl, Nat.le_of_ble_eq_true rfl, by decide, fun u hu => ?_⟩
     by_cases q_c0 : c0 = u
     ·subst q_c0
      exact Eq.trans (b := (3 : Int32)) (Eq.trans (own_next_n hq_c0_c3) (own_look_p rfl)) (Eq.symm (Eq.trans (if_neg (fun h => (fun h => hq_c0_c3 h.symm) h.2.2.2)) (if_pos ⟨rfl, rfl, rfl⟩)))
     ·skip
      by_cases q_c3 : c3 = u
      ·subst q_c3
       exact Eq.trans (b := (4 : Int32)) (Eq.trans (own_next_p rfl) (by decide)) (Eq.symm (if_pos ⟨rfl, rfl, rfl, rfl⟩))
      ·skip
       exact Eq.trans (b := (0 : Int32)) (Eq.trans (own_next_n (fun h => q_c3 h.symm)) (Eq.trans (own_look_n q_c0) (rfl))) (Eq.symm (Eq.trans (if_neg (fun h => q_c3 h.2.2.2)) (Eq.trans (if_neg (fun h => q_c0 h.2.2)) (Eq.trans (if_neg (fun h => q_c0 h.2)) (Eq.trans (if_neg (fun h => q_c0 h)) (rfl))))))
    have R4 : own_rw 4 (-1 : Int32) [(0 : Int32), (0 : Int32), (0 : Int32), (0 : Int32), (1 : Int32), (2 : Int32)] [c0, c0, (0 : Int32), (0 : Int32)] [(3 : Int32), (1 : Int32), (0 : Int32), (0 : Int32)] (fun u => (if c0 = c0 ∧ c0 = c0 ∧ c0 = c3 ∧ c3 = u then (4 : Int32) else (if c0 = c0 ∧ c0 = c3 ∧ c0 = u then (3 : Int32) else (if c0 = c3 ∧ c0 = u then (2 : Int32) else (if c0 = u then (1 : Int32) else (0 : Int32)))))) := by
     refine ⟨1, 1, (1 : Int32), (2 : Int32), rfl, rfl, by decide, by decide, Nat.le_of_ble_eq_true rfl, Nat.le_of_ble_eq_true rfl, by decide, fun u hu => ?_⟩
     by_cases q_c0 : c0 = u
     ·subst q_c0
      exact Eq.trans (b := (1 : Int32)) (Eq.trans (own_next_n (own_nm1 hr0.1)) (own_look_p rfl)) (Eq.symm (Eq.trans (if_neg (fun h => hq_c0_c3 h.2.2.1)) (Eq.trans (if_neg (fun h => hq_c0_c3 h.2.1)) (Eq.trans (if_neg (fun h => hq_c0_c3 h.1)) (if_pos rfl)))))
     ·skip
      by_cases q_c3 : c3 = u
      ·subst q_c3
       exact Eq.trans (b := (0 : Int32)) (Eq.trans (own_next_n (own_nm1 hr3.1)) (Eq.trans (own_look_n hq_c0_c3) (rfl))) (Eq.symm (Eq.trans (if_neg (fun h => hq_c0_c3 h.2.2.1)) (Eq.trans (if_neg (fun h => hq_c0_c3 h.2.1)) (Eq.trans (if_neg (fun h => hq_c0_c3 h.1)) (Eq.trans (if_neg (fun h => hq_c0_c3 h)) (rfl))))))
      ·skip
       exact Eq.trans (b := (0 : Int32)) (Eq.trans (own_next_n (own_nm1 hu)) (Eq.trans (own_look_n q_c0) (rfl))) (Eq.symm (Eq.trans (if_neg (fun h => hq_c0_c3 h.2.2.1)) (Eq.trans (if_neg (fun h => hq_c0_c3 h.2.1)) (Eq.trans (if_neg (fun h => hq_c0_c3 h.1)) (Eq.trans (if_neg (fun h => q_c0 h)) (rfl))))))
    exact ⟨b4, b23, b26, b29, [(0 : Int32), (0 : Int32), (0 : Int32), (0 : Int32), (1 : Int32), (2 : Int32)], [c0, c0, (0 : Int32), (0 : Int32)], [(3 : Int32), (1 : Int32), (0 : Int32), (0 : Int32)], rfl, N92, E_this, F_this_forward, F_this_rows, F_this_units, F_this_targets, A_b4, A_b23, A_b26, A_b29, R0, R1, R2, R3, R4⟩
  ·skip
   refine Run.x_icmpNo (q := 194) X44 hx (hb hby d2_191) (feq hq_c0_c2).1 rfl ?_
   refine Run.x_aloadN (q := 195) X44 hx (hb hby d2_194) rfl rfl rfl ?_
   refine Run.z_getF (q := 198) X44 hx hZ e44 hown (wm27 hw) F_this_units (hb hby d2_195) rfl fun T95 X95 e95 => ?_
   refine Run.x_iloadN (q := 199) X95 hx (hb hby d2_198) rfl rfl ?_
   refine Run.x_aloadN (q := 200) X95 hx (hb hby d2_199) rfl rfl rfl ?_
   refine Run.z_getF (q := 203) X95 hx hZ e95 hown (wm23 hw) F_this_forward (hb hby d2_200) rfl fun T96 X96 e96 => ?_
   refine Run.x_iloadN (q := 204) X96 hx (hb hby d2_203) rfl rfl ?_
   refine Run.y_ldI (q := 205) X96 hx hZ e96 A_b4 (i := 1) (v := (.int c0)) (by decide) rfl (hb hby d2_204) rfl ?_
   refine Run.x_i2c (q := 206) X96 hx (hb hby d2_205) (z := c0) (own_ic hr0) rfl ?_
   refine Run.y_stC (q := 207) X96 hx hZ e96 A_b26 (i := 0) (by decide) (Nat.le_of_ble_eq_true rfl) (z' := c0) (own_nr hr0) (hb hby d2_206) rfl fun T97 h97 X97 e97 W97 A97 => ?_
   replace A_b26 : Ars Z h97 b26 .char [(.int c0), (.int 0), (.int 0), (.int 0)] := A97
   have N97 := Fr.snoc X97 N39 g_b26
   have Z97 : n0 ≤ h97.size := Nat.le_trans Z37 (Nat.le_of_eq W97.size.symm)
   refine Run.x_aloadN (q := 208) X97 hx (hb hby d2_207) rfl rfl rfl ?_
   replace F_this_targets := F_this_targets.other W97 (Or.inl ne_this_b26)
   refine Run.z_getF (q := 211) X97 hx hZ e97 hown (wm29 hw) F_this_targets (hb hby d2_208) rfl fun T98 X98 e98 => ?_
   refine Run.x_iloadN (q := 212) X98 hx (hb hby d2_211) rfl rfl ?_
   refine Run.x_iinc (q := 215) X98 hx #[.val (.ref this), .val (.ref pat), .val (.int 1), .val (.int 1), .val (.int 2), .val (.int 0)] (hb hby d2_212) rfl (z := (1 : Int32)) (by decide) rfl rfl ?_
   refine Run.x_iloadN (q := 216) X98 hx (hb hby d2_215) rfl rfl ?_
   refine Run.x_iconst (q := 217) X98 hx (hb hby d2_216) (z := (1 : Int32)) rfl rfl ?_
   refine Run.x_iadd (q := 218) X98 hx (hb hby d2_217) (z := (2 : Int32)) (by decide) rfl ?_
   replace A_b29 := A_b29.other W97 (Ne.symm ne_b26_b29)
   refine Run.y_stI (q := 219) X98 hx hZ e98 A_b29 (i := 0) (by decide) (Nat.le_of_ble_eq_true rfl) (hb hby d2_218) rfl fun T99 h99 X99 e99 W99 A99 => ?_
   replace A_b29 : Ars Z h99 b29 .int [(.int 2), (.int 0), (.int 0), (.int 0)] := A99
   have N99 := Fr.snoc X99 N97 g_b29
   have Z99 : n0 ≤ h99.size := Nat.le_trans Z97 (Nat.le_of_eq W99.size.symm)
   refine Run.x_aloadN (q := 220) X99 hx (hb hby d2_219) rfl rfl rfl ?_
   replace F_this_rows := (F_this_rows.other W97 (Or.inl ne_this_b26)).other W99 (Or.inl ne_this_b29)
   refine Run.z_getF (q := 223) X99 hx hZ e99 hown (wm25 hw) F_this_rows (hb hby d2_220) rfl fun T100 X100 e100 => ?_
   refine Run.x_iload (q := 225) X100 hx (hb hby d2_223) rfl rfl ?_
   refine Run.x_iconst (q := 226) X100 hx (hb hby d2_225) (z := (1 : Int32)) rfl rfl ?_
   refine Run.x_iadd (q := 227) X100 hx (hb hby d2_226) (z := (3 : Int32)) (by decide) rfl ?_
   refine Run.x_iloadN (q := 228) X100 hx (hb hby d2_227) rfl rfl ?_
   replace A_b23 := (A_b23.other W97 ne_b23_b26).other W99 ne_b23_b29
   refine Run.y_stI (q := 229) X100 hx hZ e100 A_b23 (i := 3) (by decide) (Nat.le_of_ble_eq_true rfl) (hb hby d2_228) rfl fun T101 h101 X101 e101 W101 A101 => ?_
   replace A_b23 : Ars Z h101 b23 .int [(.int 0), (.int 0), (.int 0), (.int 1), (.int 0), (.int 0)] := A101
   have N101 := Fr.snoc X101 N99 g_b23
   have Z101 : n0 ≤ h101.size := Nat.le_trans Z99 (Nat.le_of_eq W101.size.symm)
   refine Run.x_iload (q := 231) X101 hx (hb hby d2_229) rfl rfl ?_
   refine Run.x_aloadN (q := 232) X101 hx (hb hby d2_231) rfl rfl rfl ?_
   replace F_this_length := ((F_this_length.other W97 (Or.inl ne_this_b26)).other W99 (Or.inl ne_this_b29)).other W101 (Or.inl ne_this_b23)
   refine Run.z_getF (q := 235) X101 hx hZ e101 hown (wm20 hw) F_this_length (hb hby d2_232) rfl fun T102 X102 e102 => ?_
   refine Run.x_icmpNo (q := 238) X102 hx (hb hby d2_235) (tlt (by decide : (2 : Int32) < (4 : Int32))).2.1 rfl ?_
   refine Run.x_aloadN (q := 239) X102 hx (hb hby d2_238) rfl rfl rfl ?_
   refine Run.x_iloadN (q := 240) X102 hx (hb hby d2_239) rfl rfl ?_
   refine Run.x_aloadN (q := 241) X102 hx (hb hby d2_240) rfl rfl rfl ?_
   refine Run.x_iload (q := 243) X102 hx (hb hby d2_241) rfl rfl ?_
   replace A_pat := ((A_pat.other W97 ne_pat_b26).other W99 ne_pat_b29).other W101 ne_pat_b23
   refine Run.y_ldC (q := 244) X102 hx hZ e102 A_pat (i := 2) (v := (.int c2)) (by decide) rfl (hb hby d2_243) rfl ?_
   replace E_this := ((E_this.wr W97).wr W99).wr W101
   replace F_this_forward := ((F_this_forward.other W97 (Or.inl ne_this_b26)).other W99 (Or.inl ne_this_b29)).other W101 (Or.inl ne_this_b23)
   replace F_this_rows := F_this_rows.other W101 (Or.inl ne_this_b23)
   replace F_this_units := ((F_this_units.other W97 (Or.inl ne_this_b26)).other W99 (Or.inl ne_this_b29)).other W101 (Or.inl ne_this_b23)
   replace F_this_targets := (F_this_targets.other W99 (Or.inl ne_this_b29)).other W101 (Or.inl ne_this_b23)
   replace A_b4 := ((A_b4.other W97 ne_b4_b26).other W99 ne_b4_b29).other W101 ne_b4_b23
   replace A_b26 := (A_b26.other W99 ne_b26_b29).other W101 (Ne.symm ne_b23_b26)
   replace A_b29 := A_b29.other W101 (Ne.symm ne_b23_b29)
   refine Run.callVI (q := 247) X102 hx hZ e102 (y := (⟨"needlewise/kmp/SparseAutomaton", "next", "(IC)I"⟩ : MethodName)) (z := (⟨"needlewise/kmp/SparseAutomaton", "next", "(IC)I"⟩ : MethodName)) hown (wm39 hw) (wm32 hw) (notFace_of_selects (args := #[]) (mvT hZ (wm34 hw))) (wm34 hw) (wm33 hw) (wm9 hw) (wm35 hw) (by decide) (a := this) E_this (argsL := [(.int 1), (.int c2)]) (rest := []) (c_next l Z a0 hw this (1 : Int32) c2 h101 n0 Z101 b4 b23 b26 b29 [(.int c0), (.int c0), (.int c2), (.int c3), (.int (-1))] [(.int 0), (.int 0), (.int 0), (.int 1), (.int 0), (.int 0)] [c0, (0 : Int32), (0 : Int32), (0 : Int32)] [(2 : Int32), (0 : Int32), (0 : Int32), (0 : Int32)] 1 0 0 c0 (0 : Int32) (0 : Int32) (0 : Int32) E_this F_this_forward F_this_rows F_this_units F_this_targets A_b4 A_b23 A_b26 A_b29 (by decide) (by decide) rfl rfl rfl (by decide) (by decide) (Nat.le_of_ble_eq_true rfl) (Nat.le_of_ble_eq_true rfl) (by decide) (Eq.trans (own_next_n (fun h => hq_c0_c2 h.symm)) (rfl))) pd_0 rfl (by rw [hml]; rfl) (W := 0) rfl (by decide) (by decide) (by decide) (by decide) (hb hby d2_244) rfl rfl fun T103 L103 X103 M103 e103 => ?_
   have N103 := Fr.app N101 M103
   refine Run.x_istoreN (q := 248) X103 hx #[.val (.ref this), .val (.ref pat), .val (.int 1), .val (.int 0), .val (.int 2), .val (.int 0)] (hb hby d2_247) rfl rfl ?_
   refine Run.x_iinc (q := 251) X103 hx #[.val (.ref this), .val (.ref pat), .val (.int 1), .val (.int 0), .val (.int 3), .val (.int 0)] (hb hby d2_248) rfl (z := (3 : Int32)) (by decide) rfl rfl ?_
   refine Run.x_goto (q := 96) X103 hx (hb hby d2_251) (by decide) (by decide) ?_
   refine Run.x_iload (q := 98) X103 hx (hb hby d2_96) rfl rfl ?_
   refine Run.x_aloadN (q := 99) X103 hx (hb hby d2_98) rfl rfl rfl ?_
   refine Run.z_getF (q := 102) X103 hx hZ e103 hown (wm20 hw) F_this_length (hb hby d2_99) rfl fun T104 X104 e104 => ?_
   refine Run.x_icmpNo (q := 105) X104 hx (hb hby d2_102) (flt (by decide : ¬ ((4 : Int32) < (3 : Int32)))).2.2.1 rfl ?_
   refine Run.x_aloadN (q := 106) X104 hx (hb hby d2_105) rfl rfl rfl ?_
   refine Run.z_getF (q := 109) X104 hx hZ e104 hown (wm25 hw) F_this_rows (hb hby d2_106) rfl fun T105 X105 e105 => ?_
   refine Run.x_iloadN (q := 110) X105 hx (hb hby d2_109) rfl rfl ?_
   refine Run.y_ldI (q := 111) X105 hx hZ e105 A_b23 (i := 0) (v := (.int 0)) (by decide) rfl (hb hby d2_110) rfl ?_
   refine Run.x_istore (q := 113) X105 hx #[.val (.ref this), .val (.ref pat), .val (.int 1), .val (.int 0), .val (.int 3), .val (.int 0)] (hb hby d2_111) rfl rfl ?_
   refine Run.x_iload (q := 115) X105 hx (hb hby d2_113) rfl rfl ?_
   refine Run.x_aloadN (q := 116) X105 hx (hb hby d2_115) rfl rfl rfl ?_
   refine Run.z_getF (q := 119) X105 hx hZ e105 hown (wm25 hw) F_this_rows (hb hby d2_116) rfl fun T106 X106 e106 => ?_
   refine Run.x_iloadN (q := 120) X106 hx (hb hby d2_119) rfl rfl ?_
   refine Run.x_iconst (q := 121) X106 hx (hb hby d2_120) (z := (1 : Int32)) rfl rfl ?_
   refine Run.x_iadd (q := 122) X106 hx (hb hby d2_121) (z := (1 : Int32)) (by decide) rfl ?_
   refine Run.y_ldI (q := 123) X106 hx hZ e106 A_b23 (i := 1) (v := (.int 0)) (by decide) rfl (hb hby d2_122) rfl ?_
   refine Run.x_icmpYes (q := 178) X106 hx (hb hby d2_123) (flt (by decide : ¬ ((0 : Int32) < (0 : Int32)))).2.1 (by decide) (by decide) ?_
   refine Run.x_aloadN (q := 179) X106 hx (hb hby d2_178) rfl rfl rfl ?_
   refine Run.z_getF (q := 182) X106 hx hZ e106 hown (wm23 hw) F_this_forward (hb hby d2_179) rfl fun T107 X107 e107 => ?_
   refine Run.x_iloadN (q := 183) X107 hx (hb hby d2_182) rfl rfl ?_
   refine Run.y_ldI (q := 184) X107 hx hZ e107 A_b4 (i := 0) (v := (.int c0)) (by decide) rfl (hb hby d2_183) rfl ?_
   refine Run.x_aloadN (q := 185) X107 hx (hb hby d2_184) rfl rfl rfl ?_
   refine Run.z_getF (q := 188) X107 hx hZ e107 hown (wm23 hw) F_this_forward (hb hby d2_185) rfl fun T108 X108 e108 => ?_
   refine Run.x_iload (q := 190) X108 hx (hb hby d2_188) rfl rfl ?_
   refine Run.y_ldI (q := 191) X108 hx hZ e108 A_b4 (i := 3) (v := (.int c3)) (by decide) rfl (hb hby d2_190) rfl ?_
   by_cases hq_c0_c3 : c0 = c3
   ·subst hq_c0_c3
    refine Run.x_icmpYes (q := 219) X108 hx (hb hby d2_191) (teq rfl).1 (by decide) (by decide) ?_
    refine Run.x_aloadN (q := 220) X108 hx (hb hby d2_219) rfl rfl rfl ?_
    refine Run.z_getF (q := 223) X108 hx hZ e108 hown (wm25 hw) F_this_rows (hb hby d2_220) rfl fun T109 X109 e109 => ?_
    refine Run.x_iload (q := 225) X109 hx (hb hby d2_223) rfl rfl ?_
    refine Run.x_iconst (q := 226) X109 hx (hb hby d2_225) (z := (1 : Int32)) rfl rfl ?_
    refine Run.x_iadd (q := 227) X109 hx (hb hby d2_226) (z := (4 : Int32)) (by decide) rfl ?_
    refine Run.x_iloadN (q := 228) X109 hx (hb hby d2_227) rfl rfl ?_
    refine Run.y_stI (q := 229) X109 hx hZ e109 A_b23 (i := 4) (by decide) (Nat.le_of_ble_eq_true rfl) (hb hby d2_228) rfl fun T110 h110 X110 e110 W110 A110 => ?_
    replace A_b23 : Ars Z h110 b23 .int [(.int 0), (.int 0), (.int 0), (.int 1), (.int 1), (.int 0)] := A110
    have N110 := Fr.snoc X110 N103 g_b23
    have Z110 : n0 ≤ h110.size := Nat.le_trans Z101 (Nat.le_of_eq W110.size.symm)
    refine Run.x_iload (q := 231) X110 hx (hb hby d2_229) rfl rfl ?_
    refine Run.x_aloadN (q := 232) X110 hx (hb hby d2_231) rfl rfl rfl ?_
    replace F_this_length := F_this_length.other W110 (Or.inl ne_this_b23)
    refine Run.z_getF (q := 235) X110 hx hZ e110 hown (wm20 hw) F_this_length (hb hby d2_232) rfl fun T111 X111 e111 => ?_
    refine Run.x_icmpNo (q := 238) X111 hx (hb hby d2_235) (tlt (by decide : (3 : Int32) < (4 : Int32))).2.1 rfl ?_
    refine Run.x_aloadN (q := 239) X111 hx (hb hby d2_238) rfl rfl rfl ?_
    refine Run.x_iloadN (q := 240) X111 hx (hb hby d2_239) rfl rfl ?_
    refine Run.x_aloadN (q := 241) X111 hx (hb hby d2_240) rfl rfl rfl ?_
    refine Run.x_iload (q := 243) X111 hx (hb hby d2_241) rfl rfl ?_
    replace A_pat := A_pat.other W110 ne_pat_b23
    refine Run.y_ldC (q := 244) X111 hx hZ e111 A_pat (i := 3) (v := (.int c0)) (by decide) rfl (hb hby d2_243) rfl ?_
    replace E_this := E_this.wr W110
    replace F_this_forward := F_this_forward.other W110 (Or.inl ne_this_b23)
    replace F_this_rows := F_this_rows.other W110 (Or.inl ne_this_b23)
    replace F_this_units := F_this_units.other W110 (Or.inl ne_this_b23)
    replace F_this_targets := F_this_targets.other W110 (Or.inl ne_this_b23)
    replace A_b4 := A_b4.other W110 ne_b4_b23
    replace A_b26 := A_b26.other W110 (Ne.symm ne_b23_b26)
    replace A_b29 := A_b29.other W110 (Ne.symm ne_b23_b29)
    refine Run.callVI (q := 247) X111 hx hZ e111 (y := (⟨"needlewise/kmp/SparseAutomaton", "next", "(IC)I"⟩ : MethodName)) (z := (⟨"needlewise/kmp/SparseAutomaton", "next", "(IC)I"⟩ : MethodName)) hown (wm39 hw) (wm32 hw) (notFace_of_selects (args := #[]) (mvT hZ (wm34 hw))) (wm34 hw) (wm33 hw) (wm9 hw) (wm35 hw) (by decide) (a := this) E_this (argsL := [(.int 0), (.int c0)]) (rest := []) (c_next l Z a0 hw this (0 : Int32) c0 h110 n0 Z110 b4 b23 b26 b29 [(.int c0), (.int c0), (.int c2), (.int c0), (.int (-1))] [(.int 0), (.int 0), (.int 0), (.int 1), (.int 1), (.int 0)] [c0, (0 : Int32), (0 : Int32), (0 : Int32)] [(2 : Int32), (0 : Int32), (0 : Int32), (0 : Int32)] 0 0 0 c0 (0 : Int32) (0 : Int32) (1 : Int32) E_this F_this_forward F_this_rows F_this_units F_this_targets A_b4 A_b23 A_b26 A_b29 (by decide) (by decide) rfl rfl rfl (by decide) (by decide) (Nat.le_of_ble_eq_true rfl) (Nat.le_of_ble_eq_true rfl) (by decide) (Eq.trans (own_next_p rfl) (by decide))) pd_0 rfl (by rw [hml]; rfl) (W := 0) rfl (by decide) (by decide) (by decide) (by decide) (hb hby d2_244) rfl rfl fun T112 L112 X112 M112 e112 => ?_
    have N112 := Fr.app N110 M112
    refine Run.x_istoreN (q := 248) X112 hx #[.val (.ref this), .val (.ref pat), .val (.int 1), .val (.int 1), .val (.int 3), .val (.int 0)] (hb hby d2_247) rfl rfl ?_
    refine Run.x_iinc (q := 251) X112 hx #[.val (.ref this), .val (.ref pat), .val (.int 1), .val (.int 1), .val (.int 4), .val (.int 0)] (hb hby d2_248) rfl (z := (4 : Int32)) (by decide) rfl rfl ?_
    refine Run.x_goto (q := 96) X112 hx (hb hby d2_251) (by decide) (by decide) ?_
    refine Run.x_iload (q := 98) X112 hx (hb hby d2_96) rfl rfl ?_
    refine Run.x_aloadN (q := 99) X112 hx (hb hby d2_98) rfl rfl rfl ?_
    refine Run.z_getF (q := 102) X112 hx hZ e112 hown (wm20 hw) F_this_length (hb hby d2_99) rfl fun T113 X113 e113 => ?_
    refine Run.x_icmpNo (q := 105) X113 hx (hb hby d2_102) (flt (by decide : ¬ ((4 : Int32) < (4 : Int32)))).2.2.1 rfl ?_
    refine Run.x_aloadN (q := 106) X113 hx (hb hby d2_105) rfl rfl rfl ?_
    refine Run.z_getF (q := 109) X113 hx hZ e113 hown (wm25 hw) F_this_rows (hb hby d2_106) rfl fun T114 X114 e114 => ?_
    refine Run.x_iloadN (q := 110) X114 hx (hb hby d2_109) rfl rfl ?_
    refine Run.y_ldI (q := 111) X114 hx hZ e114 A_b23 (i := 1) (v := (.int 0)) (by decide) rfl (hb hby d2_110) rfl ?_
    refine Run.x_istore (q := 113) X114 hx #[.val (.ref this), .val (.ref pat), .val (.int 1), .val (.int 1), .val (.int 4), .val (.int 0)] (hb hby d2_111) rfl rfl ?_
    refine Run.x_iload (q := 115) X114 hx (hb hby d2_113) rfl rfl ?_
    refine Run.x_aloadN (q := 116) X114 hx (hb hby d2_115) rfl rfl rfl ?_
    refine Run.z_getF (q := 119) X114 hx hZ e114 hown (wm25 hw) F_this_rows (hb hby d2_116) rfl fun T115 X115 e115 => ?_
    refine Run.x_iloadN (q := 120) X115 hx (hb hby d2_119) rfl rfl ?_
    refine Run.x_iconst (q := 121) X115 hx (hb hby d2_120) (z := (1 : Int32)) rfl rfl ?_
    refine Run.x_iadd (q := 122) X115 hx (hb hby d2_121) (z := (2 : Int32)) (by decide) rfl ?_
    refine Run.y_ldI (q := 123) X115 hx hZ e115 A_b23 (i := 2) (v := (.int 0)) (by decide) rfl (hb hby d2_122) rfl ?_
    refine Run.x_icmpYes (q := 178) X115 hx (hb hby d2_123) (flt (by decide : ¬ ((0 : Int32) < (0 : Int32)))).2.1 (by decide) (by decide) ?_
    refine Run.x_aloadN (q := 179) X115 hx (hb hby d2_178) rfl rfl rfl ?_
    refine Run.z_getF (q := 182) X115 hx hZ e115 hown (wm23 hw) F_this_forward (hb hby d2_179) rfl fun T116 X116 e116 => ?_
    refine Run.x_iloadN (q := 183) X116 hx (hb hby d2_182) rfl rfl ?_
    refine Run.y_ldI (q := 184) X116 hx hZ e116 A_b4 (i := 1) (v := (.int c0)) (by decide) rfl (hb hby d2_183) rfl ?_
    refine Run.x_aloadN (q := 185) X116 hx (hb hby d2_184) rfl rfl rfl ?_
    refine Run.z_getF (q := 188) X116 hx hZ e116 hown (wm23 hw) F_this_forward (hb hby d2_185) rfl fun T117 X117 e117 => ?_
    refine Run.x_iload (q := 190) X117 hx (hb hby d2_188) rfl rfl ?_
    refine Run.y_ldI (q := 191) X117 hx hZ e117 A_b4 (i := 4) (v := (.int (-1))) (by decide) rfl (hb hby d2_190) rfl ?_
    refine Run.x_icmpNo (q := 194) X117 hx (hb hby d2_191) (feq (own_nm1 hr0.1)).1 rfl ?_
    refine Run.x_aloadN (q := 195) X117 hx (hb hby d2_194) rfl rfl rfl ?_
    refine Run.z_getF (q := 198) X117 hx hZ e117 hown (wm27 hw) F_this_units (hb hby d2_195) rfl fun T118 X118 e118 => ?_
    refine Run.x_iloadN (q := 199) X118 hx (hb hby d2_198) rfl rfl ?_
    refine Run.x_aloadN (q := 200) X118 hx (hb hby d2_199) rfl rfl rfl ?_
    refine Run.z_getF (q := 203) X118 hx hZ e118 hown (wm23 hw) F_this_forward (hb hby d2_200) rfl fun T119 X119 e119 => ?_
    refine Run.x_iloadN (q := 204) X119 hx (hb hby d2_203) rfl rfl ?_
    refine Run.y_ldI (q := 205) X119 hx hZ e119 A_b4 (i := 1) (v := (.int c0)) (by decide) rfl (hb hby d2_204) rfl ?_
    refine Run.x_i2c (q := 206) X119 hx (hb hby d2_205) (z := c0) (own_ic hr0) rfl ?_
    refine Run.y_stC (q := 207) X119 hx hZ e119 A_b26 (i := 1) (by decide) (Nat.le_of_ble_eq_true rfl) (z' := c0) (own_nr hr0) (hb hby d2_206) rfl fun T120 h120 X120 e120 W120 A120 => ?_
    replace A_b26 : Ars Z h120 b26 .char [(.int c0), (.int c0), (.int 0), (.int 0)] := A120
    have N120 := Fr.snoc X120 N112 g_b26
    have Z120 : n0 ≤ h120.size := Nat.le_trans Z110 (Nat.le_of_eq W120.size.symm)
    refine Run.x_aloadN (q := 208) X120 hx (hb hby d2_207) rfl rfl rfl ?_
    replace F_this_targets := F_this_targets.other W120 (Or.inl ne_this_b26)
    refine Run.z_getF (q := 211) X120 hx hZ e120 hown (wm29 hw) F_this_targets (hb hby d2_208) rfl fun T121 X121 e121 => ?_
    refine Run.x_iloadN (q := 212) X121 hx (hb hby d2_211) rfl rfl ?_
    refine Run.x_iinc (q := 215) X121 hx #[.val (.ref this), .val (.ref pat), .val (.int 2), .val (.int 1), .val (.int 4), .val (.int 0)] (hb hby d2_212) rfl (z := (2 : Int32)) (by decide) rfl rfl ?_
    refine Run.x_iloadN (q := 216) X121 hx (hb hby d2_215) rfl rfl ?_
    refine Run.x_iconst (q := 217) X121 hx (hb hby d2_216) (z := (1 : Int32)) rfl rfl ?_
    refine Run.x_iadd (q := 218) X121 hx (hb hby d2_217) (z := (2 : Int32)) (by decide) rfl ?_
    replace A_b29 := A_b29.other W120 (Ne.symm ne_b26_b29)
    refine Run.y_stI (q := 219) X121 hx hZ e121 A_b29 (i := 1) (by decide) (Nat.le_of_ble_eq_true rfl) (hb hby d2_218) rfl fun T122 h122 X122 e122 W122 A122 => ?_
    replace A_b29 : Ars Z h122 b29 .int [(.int 2), (.int 2), (.int 0), (.int 0)] := A122
    have N122 := Fr.snoc X122 N120 g_b29
    have Z122 : n0 ≤ h122.size := Nat.le_trans Z120 (Nat.le_of_eq W122.size.symm)
    refine Run.x_aloadN (q := 220) X122 hx (hb hby d2_219) rfl rfl rfl ?_
    replace F_this_rows := (F_this_rows.other W120 (Or.inl ne_this_b26)).other W122 (Or.inl ne_this_b29)
    refine Run.z_getF (q := 223) X122 hx hZ e122 hown (wm25 hw) F_this_rows (hb hby d2_220) rfl fun T123 X123 e123 => ?_
    refine Run.x_iload (q := 225) X123 hx (hb hby d2_223) rfl rfl ?_
    refine Run.x_iconst (q := 226) X123 hx (hb hby d2_225) (z := (1 : Int32)) rfl rfl ?_
    refine Run.x_iadd (q := 227) X123 hx (hb hby d2_226) (z := (5 : Int32)) (by decide) rfl ?_
    refine Run.x_iloadN (q := 228) X123 hx (hb hby d2_227) rfl rfl ?_
    replace A_b23 := (A_b23.other W120 ne_b23_b26).other W122 ne_b23_b29
    refine Run.y_stI (q := 229) X123 hx hZ e123 A_b23 (i := 5) (by decide) (Nat.le_of_ble_eq_true rfl) (hb hby d2_228) rfl fun T124 h124 X124 e124 W124 A124 => ?_
    replace A_b23 : Ars Z h124 b23 .int [(.int 0), (.int 0), (.int 0), (.int 1), (.int 1), (.int 2)] := A124
    have N124 := Fr.snoc X124 N122 g_b23
    have Z124 : n0 ≤ h124.size := Nat.le_trans Z122 (Nat.le_of_eq W124.size.symm)
    refine Run.x_iload (q := 231) X124 hx (hb hby d2_229) rfl rfl ?_
    refine Run.x_aloadN (q := 232) X124 hx (hb hby d2_231) rfl rfl rfl ?_
    replace F_this_length := ((F_this_length.other W120 (Or.inl ne_this_b26)).other W122 (Or.inl ne_this_b29)).other W124 (Or.inl ne_this_b23)
    refine Run.z_getF (q := 235) X124 hx hZ e124 hown (wm20 hw) F_this_length (hb hby d2_232) rfl fun T125 X125 e125 => ?_
    refine Run.x_icmpYes (q := 248) X125 hx (hb hby d2_235) (flt (by decide : ¬ ((4 : Int32) < (4 : Int32)))).2.1 (by decide) (by decide) ?_
    refine Run.x_iinc (q := 251) X125 hx #[.val (.ref this), .val (.ref pat), .val (.int 2), .val (.int 1), .val (.int 5), .val (.int 0)] (hb hby d2_248) rfl (z := (5 : Int32)) (by decide) rfl rfl ?_
    refine Run.x_goto (q := 96) X125 hx (hb hby d2_251) (by decide) (by decide) ?_
    refine Run.x_iload (q := 98) X125 hx (hb hby d2_96) rfl rfl ?_
    refine Run.x_aloadN (q := 99) X125 hx (hb hby d2_98) rfl rfl rfl ?_
    refine Run.z_getF (q := 102) X125 hx hZ e125 hown (wm20 hw) F_this_length (hb hby d2_99) rfl fun T126 X126 e126 => ?_
    refine Run.x_icmpYes (q := 254) X126 hx (hb hby d2_102) (tlt (by decide : (4 : Int32) < (5 : Int32))).2.2.1 (by decide) (by decide) ?_
    replace E_this := ((E_this.wr W120).wr W122).wr W124
    replace F_this_forward := ((F_this_forward.other W120 (Or.inl ne_this_b26)).other W122 (Or.inl ne_this_b29)).other W124 (Or.inl ne_this_b23)
    replace F_this_rows := F_this_rows.other W124 (Or.inl ne_this_b23)
    replace F_this_units := ((F_this_units.other W120 (Or.inl ne_this_b26)).other W122 (Or.inl ne_this_b29)).other W124 (Or.inl ne_this_b23)
    replace F_this_targets := (F_this_targets.other W122 (Or.inl ne_this_b29)).other W124 (Or.inl ne_this_b23)
    replace A_pat := ((A_pat.other W120 ne_pat_b26).other W122 ne_pat_b29).other W124 ne_pat_b23
    replace A_b4 := ((A_b4.other W120 ne_b4_b26).other W122 ne_b4_b29).other W124 ne_b4_b23
    replace A_b26 := (A_b26.other W122 ne_b26_b29).other W124 (Ne.symm ne_b23_b26)
    replace A_b29 := A_b29.other W124 (Ne.symm ne_b23_b29)
    refine Run.retV X126 hx hlk e126 hret (hb hby d2_254) (by decide) (by decide) ?_
    have R0 : own_rw 0 c0 [(0 : Int32), (0 : Int32), (0 : Int32), (1 : Int32), (1 : Int32), (2 : Int32)] [c0, c0, (0 : Int32), (0 : Int32)] [(2 : Int32), (2 : Int32), (0 : Int32), (0 : Int32)] (fun u => (if c0 = u then (1 : Int32) else (0 : Int32))) := by
     refine ⟨0, 0, (0 : Int32), (0 : Int32), rfl, rfl, by decide, by decide, Nat.le_of_ble_eq_true rfl, Nat.le_of_ble_eq_true rfl, by decide, fun u hu => ?_⟩
     by_cases q_c0 : c0 = u
     ·subst q_c0
      exact Eq.trans (b := (1 : Int32)) (Eq.trans (own_next_p rfl) (by decide)) (Eq.symm (if_pos rfl))
     ·skip
      by_cases q_c2 : c2 = u
      ·subst q_c2
       exact Eq.trans (b := (0 : Int32)) (Eq.trans (own_next_n (fun h => hq_c0_c2 h.symm)) (rfl)) (Eq.symm (Eq.trans (if_neg (fun h => hq_c0_c2 h)) (rfl)))
      ·skip
       exact Eq.trans (b := (0 : Int32)) (Eq.trans (own_next_n (fun h => q_c0 h.symm)) (rfl)) (Eq.symm (Eq.trans (if_neg (fun h => q_c0 h)) (rfl)))
    have R1 : own_rw 1 c0 [(0 : Int32), (0 : Int32), (0 : Int32), (1 : Int32), (1 : Int32), (2 : Int32)] [c0, c0, (0 : Int32), (0 : Int32)] [(2 : Int32), (2 : Int32), (0 : Int32), (0 : Int32)] (fun u => (if c0 = c0 ∧ c0 = u then (2 : Int32) else (if c0 = u then (1 : Int32) else (0 : Int32)))) := by
     refine ⟨0, 0, (0 : Int32), (0 : Int32), rfl, rfl, by decide, by decide, Nat.le_of_ble_eq_true rfl, Nat.le_of_ble_eq_true rfl, by decide, fun u hu => ?_⟩
     by_cases q_c0 : c0 = u
     ·subst q_c0
      exact Eq.trans (b := (2 : Int32)) (Eq.trans (own_next_p rfl) (by decide)) (Eq.symm (if_pos ⟨rfl, rfl⟩))
     ·skip
      by_cases q_c2 : c2 = u
      ·subst q_c2
       exact Eq.trans (b := (0 : Int32)) (Eq.trans (own_next_n (fun h => hq_c0_c2 h.symm)) (rfl)) (Eq.symm (Eq.trans (if_neg (fun h => hq_c0_c2 h.2)) (Eq.trans (if_neg (fun h => hq_c0_c2 h)) (rfl))))
      ·skip
       exact Eq.trans (b := (0 : Int32)) (Eq.trans (own_next_n (fun h => q_c0 h.symm)) (rfl)) (Eq.symm (Eq.trans (if_neg (fun h => q_c0 h.2)) (Eq.trans (if_neg (fun h => q_c0 h)) (rfl))))
    have R2 : own_rw 2 c2 [(0 : Int32), (0 : Int32), (0 : Int32), (1 : Int32), (1 : Int32), (2 : Int32)] [c0, c0, (0 : Int32), (0 : Int32)] [(2 : Int32), (2 : Int32), (0 : Int32), (0 : Int32)] (fun u => (if c0 = c0 ∧ c0 = c0 ∧ c2 = u then (3 : Int32) else (if c0 = c0 ∧ c0 = u then (2 : Int32) else (if c0 = u then (1 : Int32) else (0 : Int32))))) := by
     refine ⟨0, 1, (0 : Int32), (1 : Int32), rfl, rfl, by decide, by decide, Nat.le_of_ble_eq_true rfl, Nat.le_of_ble_eq_true rfl, by decide, fun u hu => ?_⟩
     by_cases q_c0 : c0 = u
     ·subst q_c0
      exact Eq.trans (b := (2 : Int32)) (Eq.trans (own_next_n hq_c0_c2) (own_look_p rfl)) (Eq.symm (Eq.trans (if_neg (fun h => (fun h => hq_c0_c2 h.symm) h.2.2)) (if_pos ⟨rfl, rfl⟩)))
     ·skip
      by_cases q_c2 : c2 = u
      ·subst q_c2
       exact Eq.trans (b := (3 : Int32)) (Eq.trans (own_next_p rfl) (by decide)) (Eq.symm (if_pos ⟨rfl, rfl, rfl⟩))
      ·skip
       exact Eq.trans (b := (0 : Int32)) (Eq.trans (own_next_n (fun h => q_c2 h.symm)) (Eq.trans (own_look_n q_c0) (rfl))) (Eq.symm (Eq.trans (if_neg (fun h => q_c2 h.2.2)) (Eq.trans (if_neg (fun h => q_c0 h.2)) (Eq.trans (if_neg (fun h => q_c0 h)) (rfl)))))
    have R3 : own_rw 3 c0 [(0 : Int32), (0 : Int32), (0 : Int32), (1 : Int32), (1 : Int32), (2 : Int32)] [c0, c0, (0 : Int32), (0 : Int32)] [(2 : Int32), (2 : Int32), (0 : Int32), (0 : Int32)] (fun u => (if c0 = c0 ∧ c0 = c0 ∧ c2 = c2 ∧ c0 = u then (4 : Int32) else (if c0 = c0 ∧ c0 = c2 ∧ c2 = u then (3 : Int32) else (if c0 = c2 ∧ c0 = u then (2 : Int32) else (if c0 = u then (1 : Int32) else (0 : Int32)))))) := by
     refine ⟨1, 0, (1 : Int32), (1 : Int32), rfl, rfl, by decide, by decide, Nat.le_of_ble_eq_true rfl, Nat.le_of_ble_eq_true rfl, by decide, fun u hu => ?_⟩
     by_cases q_c0 : c0 = u
     ·subst q_c0
      exact Eq.trans (b := (4 : Int32)) (Eq.trans (own_next_p rfl) (by decide)) (Eq.symm (if_pos ⟨rfl, rfl, rfl, rfl⟩))
     ·skip
      by_cases q_c2 : c2 = u
      ·subst q_c2
       exact Eq.trans (b := (0 : Int32)) (Eq.trans (own_next_n (fun h => hq_c0_c2 h.symm)) (rfl)) (Eq.symm (Eq.trans (if_neg (fun h => hq_c0_c2 h.2.2.2)) (Eq.trans (if_neg (fun h => hq_c0_c2 h.2.1)) (Eq.trans (if_neg (fun h => hq_c0_c2 h.1)) (Eq.trans (if_neg (fun h => hq_c0_c2 h)) (rfl))))))
      ·skip
       exact Eq.trans (b := (0 : Int32)) (Eq.trans (own_next_n (fun h => q_c0 h.symm)) (rfl)) (Eq.symm (Eq.trans (if_neg (fun h => q_c0 h.2.2.2)) (Eq.trans (if_neg (fun h => hq_c0_c2 h.2.1)) (Eq.trans (if_neg (fun h => hq_c0_c2 h.1)) (Eq.trans (if_neg (fun h => q_c0 h)) (rfl))))))
    have R4 : own_rw 4 (-1 : Int32) [(0 : Int32), (0 : Int32), (0 : Int32), (1 : Int32), (1 : Int32), (2 : Int32)] [c0, c0, (0 : Int32), (0 : Int32)] [(2 : Int32), (2 : Int32), (0 : Int32), (0 : Int32)] (fun u => (if c0 = c0 ∧ c0 = c2 ∧ c2 = c0 ∧ c0 = u then (4 : Int32) else (if c0 = c2 ∧ c0 = c0 ∧ c2 = u then (3 : Int32) else (if c0 = c0 ∧ c0 = u then (2 : Int32) else (if c0 = u then (1 : Int32) else (0 : Int32)))))) := by
     refine ⟨1, 1, (1 : Int32), (2 : Int32), rfl, rfl, by decide, by decide, Nat.le_of_ble_eq_true rfl, Nat.le_of_ble_eq_true rfl, by decide, fun u hu => ?_⟩
     by_cases q_c0 : c0 = u
     ·subst q_c0
      exact Eq.trans (b := (2 : Int32)) (Eq.trans (own_next_n (own_nm1 hr0.1)) (own_look_p rfl)) (Eq.symm (Eq.trans (if_neg (fun h => hq_c0_c2 h.2.1)) (Eq.trans (if_neg (fun h => hq_c0_c2 h.1)) (if_pos ⟨rfl, rfl⟩))))
     ·skip
      by_cases q_c2 : c2 = u
      ·subst q_c2
       exact Eq.trans (b := (0 : Int32)) (Eq.trans (own_next_n (own_nm1 hr2.1)) (Eq.trans (own_look_n hq_c0_c2) (rfl))) (Eq.symm (Eq.trans (if_neg (fun h => hq_c0_c2 h.2.1)) (Eq.trans (if_neg (fun h => hq_c0_c2 h.1)) (Eq.trans (if_neg (fun h => hq_c0_c2 h.2)) (Eq.trans (if_neg (fun h => hq_c0_c2 h)) (rfl))))))
      ·skip
       exact Eq.trans (b := (0 : Int32)) (Eq.trans (own_next_n (own_nm1 hu)) (Eq.trans (own_look_n q_c0) (rfl))) (Eq.symm (Eq.trans (if_neg (fun h => hq_c0_c2 h.2.1)) (Eq.trans (if_neg (fun h => hq_c0_c2 h.1)) (Eq.trans (if_neg (fun h => q_c0 h.2)) (Eq.trans (if_neg (fun h => q_c0 h)) (rfl))))))
    exact ⟨b4, b23, b26, b29, [(0 : Int32), (0 : Int32), (0 : Int32), (1 : Int32), (1 : Int32), (2 : Int32)], [c0, c0, (0 : Int32), (0 : Int32)], [(2 : Int32), (2 : Int32), (0 : Int32), (0 : Int32)], rfl, N124, E_this, F_this_forward, F_this_rows, F_this_units, F_this_targets, A_b4, A_b23, A_b26, A_b29, R0, R1, R2, R3, R4⟩
   ·skip
    refine Run.x_icmpNo (q := 194) X108 hx (hb hby d2_191) (feq hq_c0_c3).1 rfl ?_
    refine Run.x_aloadN (q := 195) X108 hx (hb hby d2_194) rfl rfl rfl ?_
    refine Run.z_getF (q := 198) X108 hx hZ e108 hown (wm27 hw) F_this_units (hb hby d2_195) rfl fun T127 X127 e127 => ?_
    refine Run.x_iloadN (q := 199) X127 hx (hb hby d2_198) rfl rfl ?_
    refine Run.x_aloadN (q := 200) X127 hx (hb hby d2_199) rfl rfl rfl ?_
    refine Run.z_getF (q := 203) X127 hx hZ e127 hown (wm23 hw) F_this_forward (hb hby d2_200) rfl fun T128 X128 e128 => ?_
    refine Run.x_iloadN (q := 204) X128 hx (hb hby d2_203) rfl rfl ?_
    refine Run.y_ldI (q := 205) X128 hx hZ e128 A_b4 (i := 0) (v := (.int c0)) (by decide) rfl (hb hby d2_204) rfl ?_
    refine Run.x_i2c (q := 206) X128 hx (hb hby d2_205) (z := c0) (own_ic hr0) rfl ?_
    refine Run.y_stC (q := 207) X128 hx hZ e128 A_b26 (i := 1) (by decide) (Nat.le_of_ble_eq_true rfl) (z' := c0) (own_nr hr0) (hb hby d2_206) rfl fun T129 h129 X129 e129 W129 A129 => ?_
    replace A_b26 : Ars Z h129 b26 .char [(.int c0), (.int c0), (.int 0), (.int 0)] := A129
    have N129 := Fr.snoc X129 N103 g_b26
    have Z129 : n0 ≤ h129.size := Nat.le_trans Z101 (Nat.le_of_eq W129.size.symm)
    refine Run.x_aloadN (q := 208) X129 hx (hb hby d2_207) rfl rfl rfl ?_
    replace F_this_targets := F_this_targets.other W129 (Or.inl ne_this_b26)
    refine Run.z_getF (q := 211) X129 hx hZ e129 hown (wm29 hw) F_this_targets (hb hby d2_208) rfl fun T130 X130 e130 => ?_
    refine Run.x_iloadN (q := 212) X130 hx (hb hby d2_211) rfl rfl ?_
    refine Run.x_iinc (q := 215) X130 hx #[.val (.ref this), .val (.ref pat), .val (.int 2), .val (.int 0), .val (.int 3), .val (.int 0)] (hb hby d2_212) rfl (z := (2 : Int32)) (by decide) rfl rfl ?_
    refine Run.x_iloadN (q := 216) X130 hx (hb hby d2_215) rfl rfl ?_
    refine Run.x_iconst (q := 217) X130 hx (hb hby d2_216) (z := (1 : Int32)) rfl rfl ?_
    refine Run.x_iadd (q := 218) X130 hx (hb hby d2_217) (z := (1 : Int32)) (by decide) rfl ?_
    replace A_b29 := A_b29.other W129 (Ne.symm ne_b26_b29)
    refine Run.y_stI (q := 219) X130 hx hZ e130 A_b29 (i := 1) (by decide) (Nat.le_of_ble_eq_true rfl) (hb hby d2_218) rfl fun T131 h131 X131 e131 W131 A131 => ?_
    replace A_b29 : Ars Z h131 b29 .int [(.int 2), (.int 1), (.int 0), (.int 0)] := A131
    have N131 := Fr.snoc X131 N129 g_b29
    have Z131 : n0 ≤ h131.size := Nat.le_trans Z129 (Nat.le_of_eq W131.size.symm)
    refine Run.x_aloadN (q := 220) X131 hx (hb hby d2_219) rfl rfl rfl ?_
    replace F_this_rows := (F_this_rows.other W129 (Or.inl ne_this_b26)).other W131 (Or.inl ne_this_b29)
    refine Run.z_getF (q := 223) X131 hx hZ e131 hown (wm25 hw) F_this_rows (hb hby d2_220) rfl fun T132 X132 e132 => ?_
    refine Run.x_iload (q := 225) X132 hx (hb hby d2_223) rfl rfl ?_
    refine Run.x_iconst (q := 226) X132 hx (hb hby d2_225) (z := (1 : Int32)) rfl rfl ?_
    refine Run.x_iadd (q := 227) X132 hx (hb hby d2_226) (z := (4 : Int32)) (by decide) rfl ?_
    refine Run.x_iloadN (q := 228) X132 hx (hb hby d2_227) rfl rfl ?_
    replace A_b23 := (A_b23.other W129 ne_b23_b26).other W131 ne_b23_b29
    refine Run.y_stI (q := 229) X132 hx hZ e132 A_b23 (i := 4) (by decide) (Nat.le_of_ble_eq_true rfl) (hb hby d2_228) rfl fun T133 h133 X133 e133 W133 A133 => ?_
    replace A_b23 : Ars Z h133 b23 .int [(.int 0), (.int 0), (.int 0), (.int 1), (.int 2), (.int 0)] := A133
    have N133 := Fr.snoc X133 N131 g_b23
    have Z133 : n0 ≤ h133.size := Nat.le_trans Z131 (Nat.le_of_eq W133.size.symm)
    refine Run.x_iload (q := 231) X133 hx (hb hby d2_229) rfl rfl ?_
    refine Run.x_aloadN (q := 232) X133 hx (hb hby d2_231) rfl rfl rfl ?_
    replace F_this_length := ((F_this_length.other W129 (Or.inl ne_this_b26)).other W131 (Or.inl ne_this_b29)).other W133 (Or.inl ne_this_b23)
    refine Run.z_getF (q := 235) X133 hx hZ e133 hown (wm20 hw) F_this_length (hb hby d2_232) rfl fun T134 X134 e134 => ?_
    refine Run.x_icmpNo (q := 238) X134 hx (hb hby d2_235) (tlt (by decide : (3 : Int32) < (4 : Int32))).2.1 rfl ?_
    refine Run.x_aloadN (q := 239) X134 hx (hb hby d2_238) rfl rfl rfl ?_
    refine Run.x_iloadN (q := 240) X134 hx (hb hby d2_239) rfl rfl ?_
    refine Run.x_aloadN (q := 241) X134 hx (hb hby d2_240) rfl rfl rfl ?_
    refine Run.x_iload (q := 243) X134 hx (hb hby d2_241) rfl rfl ?_
    replace A_pat := ((A_pat.other W129 ne_pat_b26).other W131 ne_pat_b29).other W133 ne_pat_b23
    refine Run.y_ldC (q := 244) X134 hx hZ e134 A_pat (i := 3) (v := (.int c3)) (by decide) rfl (hb hby d2_243) rfl ?_
    replace E_this := ((E_this.wr W129).wr W131).wr W133
    replace F_this_forward := ((F_this_forward.other W129 (Or.inl ne_this_b26)).other W131 (Or.inl ne_this_b29)).other W133 (Or.inl ne_this_b23)
    replace F_this_rows := F_this_rows.other W133 (Or.inl ne_this_b23)
    replace F_this_units := ((F_this_units.other W129 (Or.inl ne_this_b26)).other W131 (Or.inl ne_this_b29)).other W133 (Or.inl ne_this_b23)
    replace F_this_targets := (F_this_targets.other W131 (Or.inl ne_this_b29)).other W133 (Or.inl ne_this_b23)
    replace A_b4 := ((A_b4.other W129 ne_b4_b26).other W131 ne_b4_b29).other W133 ne_b4_b23
    replace A_b26 := (A_b26.other W131 ne_b26_b29).other W133 (Ne.symm ne_b23_b26)
    replace A_b29 := A_b29.other W133 (Ne.symm ne_b23_b29)
    refine Run.callVI (q := 247) X134 hx hZ e134 (y := (⟨"needlewise/kmp/SparseAutomaton", "next", "(IC)I"⟩ : MethodName)) (z := (⟨"needlewise/kmp/SparseAutomaton", "next", "(IC)I"⟩ : MethodName)) hown (wm39 hw) (wm32 hw) (notFace_of_selects (args := #[]) (mvT hZ (wm34 hw))) (wm34 hw) (wm33 hw) (wm9 hw) (wm35 hw) (by decide) (a := this) E_this (argsL := [(.int 0), (.int c3)]) (rest := []) (c_next l Z a0 hw this (0 : Int32) c3 h133 n0 Z133 b4 b23 b26 b29 [(.int c0), (.int c0), (.int c2), (.int c3), (.int (-1))] [(.int 0), (.int 0), (.int 0), (.int 1), (.int 2), (.int 0)] [c0, c0, (0 : Int32), (0 : Int32)] [(2 : Int32), (1 : Int32), (0 : Int32), (0 : Int32)] 0 0 0 c0 (0 : Int32) (0 : Int32) (0 : Int32) E_this F_this_forward F_this_rows F_this_units F_this_targets A_b4 A_b23 A_b26 A_b29 (by decide) (by decide) rfl rfl rfl (by decide) (by decide) (Nat.le_of_ble_eq_true rfl) (Nat.le_of_ble_eq_true rfl) (by decide) (Eq.trans (own_next_n (fun h => hq_c0_c3 h.symm)) (rfl))) pd_0 rfl (by rw [hml]; rfl) (W := 0) rfl (by decide) (by decide) (by decide) (by decide) (hb hby d2_244) rfl rfl fun T135 L135 X135 M135 e135 => ?_
    have N135 := Fr.app N133 M135
    refine Run.x_istoreN (q := 248) X135 hx #[.val (.ref this), .val (.ref pat), .val (.int 2), .val (.int 0), .val (.int 3), .val (.int 0)] (hb hby d2_247) rfl rfl ?_
    refine Run.x_iinc (q := 251) X135 hx #[.val (.ref this), .val (.ref pat), .val (.int 2), .val (.int 0), .val (.int 4), .val (.int 0)] (hb hby d2_248) rfl (z := (4 : Int32)) (by decide) rfl rfl ?_
    refine Run.x_goto (q := 96) X135 hx (hb hby d2_251) (by decide) (by decide) ?_
    refine Run.x_iload (q := 98) X135 hx (hb hby d2_96) rfl rfl ?_
    refine Run.x_aloadN (q := 99) X135 hx (hb hby d2_98) rfl rfl rfl ?_
    refine Run.z_getF (q := 102) X135 hx hZ e135 hown (wm20 hw) F_this_length (hb hby d2_99) rfl fun T136 X136 e136 => ?_
    refine Run.x_icmpNo (q := 105) X136 hx (hb hby d2_102) (flt (by decide : ¬ ((4 : Int32) < (4 : Int32)))).2.2.1 rfl ?_
    refine Run.x_aloadN (q := 106) X136 hx (hb hby d2_105) rfl rfl rfl ?_
    refine Run.z_getF (q := 109) X136 hx hZ e136 hown (wm25 hw) F_this_rows (hb hby d2_106) rfl fun T137 X137 e137 => ?_
    refine Run.x_iloadN (q := 110) X137 hx (hb hby d2_109) rfl rfl ?_
    refine Run.y_ldI (q := 111) X137 hx hZ e137 A_b23 (i := 0) (v := (.int 0)) (by decide) rfl (hb hby d2_110) rfl ?_
    refine Run.x_istore (q := 113) X137 hx #[.val (.ref this), .val (.ref pat), .val (.int 2), .val (.int 0), .val (.int 4), .val (.int 0)] (hb hby d2_111) rfl rfl ?_
    refine Run.x_iload (q := 115) X137 hx (hb hby d2_113) rfl rfl ?_
    refine Run.x_aloadN (q := 116) X137 hx (hb hby d2_115) rfl rfl rfl ?_
    refine Run.z_getF (q := 119) X137 hx hZ e137 hown (wm25 hw) F_this_rows (hb hby d2_116) rfl fun T138 X138 e138 => ?_
    refine Run.x_iloadN (q := 120) X138 hx (hb hby d2_119) rfl rfl ?_
    refine Run.x_iconst (q := 121) X138 hx (hb hby d2_120) (z := (1 : Int32)) rfl rfl ?_
    refine Run.x_iadd (q := 122) X138 hx (hb hby d2_121) (z := (1 : Int32)) (by decide) rfl ?_
    refine Run.y_ldI (q := 123) X138 hx hZ e138 A_b23 (i := 1) (v := (.int 0)) (by decide) rfl (hb hby d2_122) rfl ?_
    refine Run.x_icmpYes (q := 178) X138 hx (hb hby d2_123) (flt (by decide : ¬ ((0 : Int32) < (0 : Int32)))).2.1 (by decide) (by decide) ?_
    refine Run.x_aloadN (q := 179) X138 hx (hb hby d2_178) rfl rfl rfl ?_
    refine Run.z_getF (q := 182) X138 hx hZ e138 hown (wm23 hw) F_this_forward (hb hby d2_179) rfl fun T139 X139 e139 => ?_
    refine Run.x_iloadN (q := 183) X139 hx (hb hby d2_182) rfl rfl ?_
    refine Run.y_ldI (q := 184) X139 hx hZ e139 A_b4 (i := 0) (v := (.int c0)) (by decide) rfl (hb hby d2_183) rfl ?_
    refine Run.x_aloadN (q := 185) X139 hx (hb hby d2_184) rfl rfl rfl ?_
    refine Run.z_getF (q := 188) X139 hx hZ e139 hown (wm23 hw) F_this_forward (hb hby d2_185) rfl fun T140 X140 e140 => ?_
    refine Run.x_iload (q := 190) X140 hx (hb hby d2_188) rfl rfl ?_
    refine Run.y_ldI (q := 191) X140 hx hZ e140 A_b4 (i := 4) (v := (.int (-1))) (by decide) rfl (hb hby d2_190) rfl ?_
    refine Run.x_icmpNo (q := 194) X140 hx (hb hby d2_191) (feq (own_nm1 hr0.1)).1 rfl ?_
    refine Run.x_aloadN (q := 195) X140 hx (hb hby d2_194) rfl rfl rfl ?_
    refine Run.z_getF (q := 198) X140 hx hZ e140 hown (wm27 hw) F_this_units (hb hby d2_195) rfl fun T141 X141 e141 => ?_
    refine Run.x_iloadN (q := 199) X141 hx (hb hby d2_198) rfl rfl ?_
    refine Run.x_aloadN (q := 200) X141 hx (hb hby d2_199) rfl rfl rfl ?_
    refine Run.z_getF (q := 203) X141 hx hZ e141 hown (wm23 hw) F_this_forward (hb hby d2_200) rfl fun T142 X142 e142 => ?_
    refine Run.x_iloadN (q := 204) X142 hx (hb hby d2_203) rfl rfl ?_
    refine Run.y_ldI (q := 205) X142 hx hZ e142 A_b4 (i := 0) (v := (.int c0)) (by decide) rfl (hb hby d2_204) rfl ?_
    refine Run.x_i2c (q := 206) X142 hx (hb hby d2_205) (z := c0) (own_ic hr0) rfl ?_
    refine Run.y_stC (q := 207) X142 hx hZ e142 A_b26 (i := 2) (by decide) (Nat.le_of_ble_eq_true rfl) (z' := c0) (own_nr hr0) (hb hby d2_206) rfl fun T143 h143 X143 e143 W143 A143 => ?_
    replace A_b26 : Ars Z h143 b26 .char [(.int c0), (.int c0), (.int c0), (.int 0)] := A143
    have N143 := Fr.snoc X143 N135 g_b26
    have Z143 : n0 ≤ h143.size := Nat.le_trans Z133 (Nat.le_of_eq W143.size.symm)
    refine Run.x_aloadN (q := 208) X143 hx (hb hby d2_207) rfl rfl rfl ?_
    replace F_this_targets := F_this_targets.other W143 (Or.inl ne_this_b26)
    refine Run.z_getF (q := 211) X143 hx hZ e143 hown (wm29 hw) F_this_targets (hb hby d2_208) rfl fun T144 X144 e144 => ?_
    refine Run.x_iloadN (q := 212) X144 hx (hb hby d2_211) rfl rfl ?_
    refine Run.x_iinc (q := 215) X144 hx #[.val (.ref this), .val (.ref pat), .val (.int 3), .val (.int 0), .val (.int 4), .val (.int 0)] (hb hby d2_212) rfl (z := (3 : Int32)) (by decide) rfl rfl ?_
    refine Run.x_iloadN (q := 216) X144 hx (hb hby d2_215) rfl rfl ?_
    refine Run.x_iconst (q := 217) X144 hx (hb hby d2_216) (z := (1 : Int32)) rfl rfl ?_
    refine Run.x_iadd (q := 218) X144 hx (hb hby d2_217) (z := (1 : Int32)) (by decide) rfl ?_
    replace A_b29 := A_b29.other W143 (Ne.symm ne_b26_b29)
    refine Run.y_stI (q := 219) X144 hx hZ e144 A_b29 (i := 2) (by decide) (Nat.le_of_ble_eq_true rfl) (hb hby d2_218) rfl fun T145 h145 X145 e145 W145 A145 => ?_
    replace A_b29 : Ars Z h145 b29 .int [(.int 2), (.int 1), (.int 1), (.int 0)] := A145
    have N145 := Fr.snoc X145 N143 g_b29
    have Z145 : n0 ≤ h145.size := Nat.le_trans Z143 (Nat.le_of_eq W145.size.symm)
    refine Run.x_aloadN (q := 220) X145 hx (hb hby d2_219) rfl rfl rfl ?_
    replace F_this_rows := (F_this_rows.other W143 (Or.inl ne_this_b26)).other W145 (Or.inl ne_this_b29)
    refine Run.z_getF (q := 223) X145 hx hZ e145 hown (wm25 hw) F_this_rows (hb hby d2_220) rfl fun T146 X146 e146 => ?_
    refine Run.x_iload (q := 225) X146 hx (hb hby d2_223) rfl rfl ?_
    refine Run.x_iconst (q := 226) X146 hx (hb hby d2_225) (z := (1 : Int32)) rfl rfl ?_
    refine Run.x_iadd (q := 227) X146 hx (hb hby d2_226) (z := (5 : Int32)) (by decide) rfl ?_
    refine Run.x_iloadN (q := 228) X146 hx (hb hby d2_227) rfl rfl ?_
    replace A_b23 := (A_b23.other W143 ne_b23_b26).other W145 ne_b23_b29
    refine Run.y_stI (q := 229) X146 hx hZ e146 A_b23 (i := 5) (by decide) (Nat.le_of_ble_eq_true rfl) (hb hby d2_228) rfl fun T147 h147 X147 e147 W147 A147 => ?_
    replace A_b23 : Ars Z h147 b23 .int [(.int 0), (.int 0), (.int 0), (.int 1), (.int 2), (.int 3)] := A147
    have N147 := Fr.snoc X147 N145 g_b23
    have Z147 : n0 ≤ h147.size := Nat.le_trans Z145 (Nat.le_of_eq W147.size.symm)
    refine Run.x_iload (q := 231) X147 hx (hb hby d2_229) rfl rfl ?_
    refine Run.x_aloadN (q := 232) X147 hx (hb hby d2_231) rfl rfl rfl ?_
    replace F_this_length := ((F_this_length.other W143 (Or.inl ne_this_b26)).other W145 (Or.inl ne_this_b29)).other W147 (Or.inl ne_this_b23)
    refine Run.z_getF (q := 235) X147 hx hZ e147 hown (wm20 hw) F_this_length (hb hby d2_232) rfl fun T148 X148 e148 => ?_
    refine Run.x_icmpYes (q := 248) X148 hx (hb hby d2_235) (flt (by decide : ¬ ((4 : Int32) < (4 : Int32)))).2.1 (by decide) (by decide) ?_
    refine Run.x_iinc (q := 251) X148 hx #[.val (.ref this), .val (.ref pat), .val (.int 3), .val (.int 0), .val (.int 5), .val (.int 0)] (hb hby d2_248) rfl (z := (5 : Int32)) (by decide) rfl rfl ?_
    refine Run.x_goto (q := 96) X148 hx (hb hby d2_251) (by decide) (by decide) ?_
    refine Run.x_iload (q := 98) X148 hx (hb hby d2_96) rfl rfl ?_
    refine Run.x_aloadN (q := 99) X148 hx (hb hby d2_98) rfl rfl rfl ?_
    refine Run.z_getF (q := 102) X148 hx hZ e148 hown (wm20 hw) F_this_length (hb hby d2_99) rfl fun T149 X149 e149 => ?_
    refine Run.x_icmpYes (q := 254) X149 hx (hb hby d2_102) (tlt (by decide : (4 : Int32) < (5 : Int32))).2.2.1 (by decide) (by decide) ?_
    replace E_this := ((E_this.wr W143).wr W145).wr W147
    replace F_this_forward := ((F_this_forward.other W143 (Or.inl ne_this_b26)).other W145 (Or.inl ne_this_b29)).other W147 (Or.inl ne_this_b23)
    replace F_this_rows := F_this_rows.other W147 (Or.inl ne_this_b23)
    replace F_this_units := ((F_this_units.other W143 (Or.inl ne_this_b26)).other W145 (Or.inl ne_this_b29)).other W147 (Or.inl ne_this_b23)
    replace F_this_targets := (F_this_targets.other W145 (Or.inl ne_this_b29)).other W147 (Or.inl ne_this_b23)
    replace A_pat := ((A_pat.other W143 ne_pat_b26).other W145 ne_pat_b29).other W147 ne_pat_b23
    replace A_b4 := ((A_b4.other W143 ne_b4_b26).other W145 ne_b4_b29).other W147 ne_b4_b23
    replace A_b26 := (A_b26.other W145 ne_b26_b29).other W147 (Ne.symm ne_b23_b26)
    replace A_b29 := A_b29.other W147 (Ne.symm ne_b23_b29)
    refine Run.retV X149 hx hlk e149 hret (hb hby d2_254) (by decide) (by decide) ?_
    by_cases hq_c2_c3 : c2 = c3
    ·subst hq_c2_c3
     have R0 : own_rw 0 c0 [(0 : Int32), (0 : Int32), (0 : Int32), (1 : Int32), (2 : Int32), (3 : Int32)] [c0, c0, c0, (0 : Int32)] [(2 : Int32), (1 : Int32), (1 : Int32), (0 : Int32)] (fun u => (if c0 = u then (1 : Int32) else (0 : Int32))) := by
      refine ⟨0, 0, (0 : Int32), (0 : Int32), rfl, rfl, by decide, by decide, Nat.le_of_ble_eq_true rfl, Nat.le_of_ble_eq_true rfl, by decide, fun u hu => ?_⟩
      by_cases q_c0 : c0 = u
      ·subst q_c0
       exact Eq.trans (b := (1 : Int32)) (Eq.trans (own_next_p rfl) (by decide)) (Eq.symm (if_pos rfl))
      ·skip
       by_cases q_c2 : c2 = u
       ·subst q_c2
        exact Eq.trans (b := (0 : Int32)) (Eq.trans (own_next_n (fun h => hq_c0_c2 h.symm)) (rfl)) (Eq.symm (Eq.trans (if_neg (fun h => hq_c0_c2 h)) (rfl)))
       ·skip
        exact Eq.trans (b := (0 : Int32)) (Eq.trans (own_next_n (fun h => q_c0 h.symm)) (rfl)) (Eq.symm (Eq.trans (if_neg (fun h => q_c0 h)) (rfl)))
     have R1 : own_rw 1 c0 [(0 : Int32), (0 : Int32), (0 : Int32), (1 : Int32), (2 : Int32), (3 : Int32)] [c0, c0, c0, (0 : Int32)] [(2 : Int32), (1 : Int32), (1 : Int32), (0 : Int32)] (fun u => (if c0 = c0 ∧ c0 = u then (2 : Int32) else (if c0 = u then (1 : Int32) else (0 : Int32)))) := by
      refine ⟨0, 0, (0 : Int32), (0 : Int32), rfl, rfl, by decide, by decide, Nat.le_of_ble_eq_true rfl, Nat.le_of_ble_eq_true rfl, by decide, fun u hu => ?_⟩
      by_cases q_c0 : c0 = u
      ·subst q_c0
       exact Eq.trans (b := (2 : Int32)) (Eq.trans (own_next_p rfl) (by decide)) (Eq.symm (if_pos ⟨rfl, rfl⟩))
      ·skip
       by_cases q_c2 : c2 = u
       ·subst q_c2
        exact Eq.trans (b := (0 : Int32)) (Eq.trans (own_next_n (fun h => hq_c0_c2 h.symm)) (rfl)) (Eq.symm (Eq.trans (if_neg (fun h => hq_c0_c2 h.2)) (Eq.trans (if_neg (fun h => hq_c0_c2 h)) (rfl))))
       ·skip
        exact Eq.trans (b := (0 : Int32)) (Eq.trans (own_next_n (fun h => q_c0 h.symm)) (rfl)) (Eq.symm (Eq.trans (if_neg (fun h => q_c0 h.2)) (Eq.trans (if_neg (fun h => q_c0 h)) (rfl))))
     have R2 : own_rw 2 c2 [(0 : Int32), (0 : Int32), (0 : Int32), (1 : Int32), (2 : Int32), (3 : Int32)] [c0, c0, c0, (0 : Int32)] [(2 : Int32), (1 : Int32), (1 : Int32), (0 : Int32)] (fun u => (if c0 = c0 ∧ c0 = c0 ∧ c2 = u then (3 : Int32) else (if c0 = c0 ∧ c0 = u then (2 : Int32) else (if c0 = u then (1 : Int32) else (0 : Int32))))) := by
      refine ⟨0, 1, (0 : Int32), (1 : Int32), rfl, rfl, by decide, by decide, Nat.le_of_ble_eq_true rfl, Nat.le_of_ble_eq_true rfl, by decide, fun u hu => ?_⟩
      by_cases q_c0 : c0 = u
      ·subst q_c0
       exact Eq.trans (b := (2 : Int32)) (Eq.trans (own_next_n hq_c0_c2) (own_look_p rfl)) (Eq.symm (Eq.trans (if_neg (fun h => (fun h => hq_c0_c2 h.symm) h.2.2)) (if_pos ⟨rfl, rfl⟩)))
      ·skip
       by_cases q_c2 : c2 = u
       ·subst q_c2
        exact Eq.trans (b := (3 : Int32)) (Eq.trans (own_next_p rfl) (by decide)) (Eq.symm (if_pos ⟨rfl, rfl, rfl⟩))
       ·skip
        exact Eq.trans (b := (0 : Int32)) (Eq.trans (own_next_n (fun h => q_c2 h.symm)) (Eq.trans (own_look_n q_c0) (rfl))) (Eq.symm (Eq.trans (if_neg (fun h => q_c2 h.2.2)) (Eq.trans (if_neg (fun h => q_c0 h.2)) (Eq.trans (if_neg (fun h => q_c0 h)) (rfl)))))
     have R3 : own_rw 3 c2 [(0 : Int32), (0 : Int32), (0 : Int32), (1 : Int32), (2 : Int32), (3 : Int32)] [c0, c0, c0, (0 : Int32)] [(2 : Int32), (1 : Int32), (1 : Int32), (0 : Int32)] (fun u => (if c0 = c0 ∧ c0 = c0 ∧ c2 = c2 ∧ c2 = u then (4 : Int32) else (if c0 = c0 ∧ c0 = c2 ∧ c2 = u then (3 : Int32) else (if c0 = c2 ∧ c0 = u then (2 : Int32) else (if c0 = u then (1 : Int32) else (0 : Int32)))))) := by
      refine ⟨1, 1, (1 : Int32), (2 : Int32), rfl, rfl, by decide, by decide, Nat.le_of_ble_eq_true rfl, Nat.le_of_ble_eq_true rfl, by decide, fun u hu => ?_⟩
      by_cases q_c0 : c0 = u
      ·subst q_c0
       exact Eq.trans (b := (1 : Int32)) (Eq.trans (own_next_n hq_c0_c2) (own_look_p rfl)) (Eq.symm (Eq.trans (if_neg (fun h => (fun h => hq_c0_c2 h.symm) h.2.2.2)) (Eq.trans (if_neg (fun h => hq_c0_c2 h.2.1)) (Eq.trans (if_neg (fun h => hq_c0_c2 h.1)) (if_pos rfl)))))
      ·skip
       by_cases q_c2 : c2 = u
       ·subst q_c2
        exact Eq.trans (b := (4 : Int32)) (Eq.trans (own_next_p rfl) (by decide)) (Eq.symm (if_pos ⟨rfl, rfl, rfl, rfl⟩))
       ·skip
        exact Eq.trans (b := (0 : Int32)) (Eq.trans (own_next_n (fun h => q_c2 h.symm)) (Eq.trans (own_look_n q_c0) (rfl))) (Eq.symm (Eq.trans (if_neg (fun h => q_c2 h.2.2.2)) (Eq.trans (if_neg (fun h => hq_c0_c2 h.2.1)) (Eq.trans (if_neg (fun h => hq_c0_c2 h.1)) (Eq.trans (if_neg (fun h => q_c0 h)) (rfl))))))
     have R4 : own_rw 4 (-1 : Int32) [(0 : Int32), (0 : Int32), (0 : Int32), (1 : Int32), (2 : Int32), (3 : Int32)] [c0, c0, c0, (0 : Int32)] [(2 : Int32), (1 : Int32), (1 : Int32), (0 : Int32)] (fun u => (if c0 = c0 ∧ c0 = c2 ∧ c2 = c2 ∧ c2 = u then (4 : Int32) else (if c0 = c2 ∧ c0 = c2 ∧ c2 = u then (3 : Int32) else (if c0 = c2 ∧ c0 = u then (2 : Int32) else (if c0 = u then (1 : Int32) else (0 : Int32)))))) := by
      refine ⟨2, 1, (2 : Int32), (3 : Int32), rfl, rfl, by decide, by decide, Nat.le_of_ble_eq_true rfl, Nat.le_of_ble_eq_true rfl, by decide, fun u hu => ?_⟩
      by_cases q_c0 : c0 = u
      ·subst q_c0
       exact Eq.trans (b := (1 : Int32)) (Eq.trans (own_next_n (own_nm1 hr0.1)) (own_look_p rfl)) (Eq.symm (Eq.trans (if_neg (fun h => hq_c0_c2 h.2.1)) (Eq.trans (if_neg (fun h => hq_c0_c2 h.1)) (Eq.trans (if_neg (fun h => hq_c0_c2 h.1)) (if_pos rfl)))))
      ·skip
       by_cases q_c2 : c2 = u
       ·subst q_c2
        exact Eq.trans (b := (0 : Int32)) (Eq.trans (own_next_n (own_nm1 hr2.1)) (Eq.trans (own_look_n hq_c0_c2) (rfl))) (Eq.symm (Eq.trans (if_neg (fun h => hq_c0_c2 h.2.1)) (Eq.trans (if_neg (fun h => hq_c0_c2 h.1)) (Eq.trans (if_neg (fun h => hq_c0_c2 h.1)) (Eq.trans (if_neg (fun h => hq_c0_c2 h)) (rfl))))))
       ·skip
        exact Eq.trans (b := (0 : Int32)) (Eq.trans (own_next_n (own_nm1 hu)) (Eq.trans (own_look_n q_c0) (rfl))) (Eq.symm (Eq.trans (if_neg (fun h => hq_c0_c2 h.2.1)) (Eq.trans (if_neg (fun h => hq_c0_c2 h.1)) (Eq.trans (if_neg (fun h => hq_c0_c2 h.1)) (Eq.trans (if_neg (fun h => q_c0 h)) (rfl))))))
     exact ⟨b4, b23, b26, b29, [(0 : Int32), (0 : Int32), (0 : Int32), (1 : Int32), (2 : Int32), (3 : Int32)], [c0, c0, c0, (0 : Int32)], [(2 : Int32), (1 : Int32), (1 : Int32), (0 : Int32)], rfl, N147, E_this, F_this_forward, F_this_rows, F_this_units, F_this_targets, A_b4, A_b23, A_b26, A_b29, R0, R1, R2, R3, R4⟩
    ·skip
     have R0 : own_rw 0 c0 [(0 : Int32), (0 : Int32), (0 : Int32), (1 : Int32), (2 : Int32), (3 : Int32)] [c0, c0, c0, (0 : Int32)] [(2 : Int32), (1 : Int32), (1 : Int32), (0 : Int32)] (fun u => (if c0 = u then (1 : Int32) else (0 : Int32))) := by
      refine ⟨0, 0, (0 : Int32), (0 : Int32), rfl, rfl, by decide, by decide, Nat.le_of_ble_eq_true rfl, Nat.le_of_ble_eq_true rfl, by decide, fun u hu => ?_⟩
      by_cases q_c0 : c0 = u
      ·subst q_c0
       exact Eq.trans (b := (1 : Int32)) (Eq.trans (own_next_p rfl) (by decide)) (Eq.symm (if_pos rfl))
      ·skip
       by_cases q_c2 : c2 = u
       ·subst q_c2
        exact Eq.trans (b := (0 : Int32)) (Eq.trans (own_next_n (fun h => hq_c0_c2 h.symm)) (rfl)) (Eq.symm (Eq.trans (if_neg (fun h => hq_c0_c2 h)) (rfl)))
       ·skip
        by_cases q_c3 : c3 = u
        ·subst q_c3
         exact Eq.trans (b := (0 : Int32)) (Eq.trans (own_next_n (fun h => hq_c0_c3 h.symm)) (rfl)) (Eq.symm (Eq.trans (if_neg (fun h => hq_c0_c3 h)) (rfl)))
        ·skip
         exact Eq.trans (b := (0 : Int32)) (Eq.trans (own_next_n (fun h => q_c0 h.symm)) (rfl)) (Eq.symm (Eq.trans (if_neg (fun h => q_c0 h)) (rfl)))
     have R1 : own_rw 1 c0 [(0 : Int32), (0 : Int32), (0 : Int32), (1 : Int32), (2 : Int32), (3 : Int32)] [c0, c0, c0, (0 : Int32)] [(2 : Int32), (1 : Int32), (1 : Int32), (0 : Int32)] (fun u => (if c0 = c0 ∧ c0 = u then (2 : Int32) else (if c0 = u then (1 : Int32) else (0 : Int32)))) := by
      refine ⟨0, 0, (0 : Int32), (0 : Int32), rfl, rfl, by decide, by decide, Nat.le_of_ble_eq_true rfl, Nat.le_of_ble_eq_true rfl, by decide, fun u hu => ?_⟩
      by_cases q_c0 : c0 = u
      ·subst q_c0
       exact Eq.trans (b := (2 : Int32)) (Eq.trans (own_next_p rfl) (by decide)) (Eq.symm (if_pos ⟨rfl, rfl⟩))
      ·skip
       by_cases q_c2 : c2 = u
       ·subst q_c2
        exact Eq.trans (b := (0 : Int32)) (Eq.trans (own_next_n (fun h => hq_c0_c2 h.symm)) (rfl)) (Eq.symm (Eq.trans (if_neg (fun h => hq_c0_c2 h.2)) (Eq.trans (if_neg (fun h => hq_c0_c2 h)) (rfl))))
       ·skip
        by_cases q_c3 : c3 = u
        ·subst q_c3
         exact Eq.trans (b := (0 : Int32)) (Eq.trans (own_next_n (fun h => hq_c0_c3 h.symm)) (rfl)) (Eq.symm (Eq.trans (if_neg (fun h => hq_c0_c3 h.2)) (Eq.trans (if_neg (fun h => hq_c0_c3 h)) (rfl))))
        ·skip
         exact Eq.trans (b := (0 : Int32)) (Eq.trans (own_next_n (fun h => q_c0 h.symm)) (rfl)) (Eq.symm (Eq.trans (if_neg (fun h => q_c0 h.2)) (Eq.trans (if_neg (fun h => q_c0 h)) (rfl))))
     have R2 : own_rw 2 c2 [(0 : Int32), (0 : Int32), (0 : Int32), (1 : Int32), (2 : Int32), (3 : Int32)] [c0, c0, c0, (0 : Int32)] [(2 : Int32), (1 : Int32), (1 : Int32), (0 : Int32)] (fun u => (if c0 = c0 ∧ c0 = c0 ∧ c2 = u then (3 : Int32) else (if c0 = c0 ∧ c0 = u then (2 : Int32) else (if c0 = u then (1 : Int32) else (0 : Int32))))) := by
      refine ⟨0, 1, (0 : Int32), (1 : Int32), rfl, rfl, by decide, by decide, Nat.le_of_ble_eq_true rfl, Nat.le_of_ble_eq_true rfl, by decide, fun u hu => ?_⟩
      by_cases q_c0 : c0 = u
      ·subst q_c0
       exact Eq.trans (b := (2 : Int32)) (Eq.trans (own_next_n hq_c0_c2) (own_look_p rfl)) (Eq.symm (Eq.trans (if_neg (fun h => (fun h => hq_c0_c2 h.symm) h.2.2)) (if_pos ⟨rfl, rfl⟩)))
      ·skip
       by_cases q_c2 : c2 = u
       ·subst q_c2
        exact Eq.trans (b := (3 : Int32)) (Eq.trans (own_next_p rfl) (by decide)) (Eq.symm (if_pos ⟨rfl, rfl, rfl⟩))
       ·skip
        by_cases q_c3 : c3 = u
        ·subst q_c3
         exact Eq.trans (b := (0 : Int32)) (Eq.trans (own_next_n (fun h => hq_c2_c3 h.symm)) (Eq.trans (own_look_n hq_c0_c3) (rfl))) (Eq.symm (Eq.trans (if_neg (fun h => hq_c2_c3 h.2.2)) (Eq.trans (if_neg (fun h => hq_c0_c3 h.2)) (Eq.trans (if_neg (fun h => hq_c0_c3 h)) (rfl)))))
        ·skip
         exact Eq.trans (b := (0 : Int32)) (Eq.trans (own_next_n (fun h => q_c2 h.symm)) (Eq.trans (own_look_n q_c0) (rfl))) (Eq.symm (Eq.trans (if_neg (fun h => q_c2 h.2.2)) (Eq.trans (if_neg (fun h => q_c0 h.2)) (Eq.trans (if_neg (fun h => q_c0 h)) (rfl)))))
     have R3 : own_rw 3 c3 [(0 : Int32), (0 : Int32), (0 : Int32), (1 : Int32), (2 : Int32), (3 : Int32)] [c0, c0, c0, (0 : Int32)] [(2 : Int32), (1 : Int32), (1 : Int32), (0 : Int32)] (fun u => (if c0 = c0 ∧ c0 = c0 ∧ c2 = c2 ∧ c3 = u then (4 : Int32) else (if c0 = c0 ∧ c0 = c2 ∧ c2 = u then (3 : Int32) else (if c0 = c2 ∧ c0 = u then (2 : Int32) else (if c0 = u then (1 : Int32) else (0 : Int32)))))) := by
      refine ⟨1, 1, (1 : Int32), (2 : Int32), rfl, rfl, by decide, by decide, Nat.le_of_ble_eq_true rfl, Nat.le_of_ble_eq_true rfl, by decide, fun u hu => ?_⟩
      by_cases q_c0 : c0 = u
      ·subst q_c0
       exact Eq.trans (b := (1 : Int32)) (Eq.trans (own_next_n hq_c0_c3) (own_look_p rfl)) (Eq.symm (Eq.trans (if_neg (fun h => (fun h => hq_c0_c3 h.symm) h.2.2.2)) (Eq.trans (if_neg (fun h => hq_c0_c2 h.2.1)) (Eq.trans (if_neg (fun h => hq_c0_c2 h.1)) (if_pos rfl)))))
      ·skip
       by_cases q_c2 : c2 = u
       ·subst q_c2
        exact Eq.trans (b := (0 : Int32)) (Eq.trans (own_next_n hq_c2_c3) (Eq.trans (own_look_n hq_c0_c2) (rfl))) (Eq.symm (Eq.trans (if_neg (fun h => (fun h => hq_c2_c3 h.symm) h.2.2.2)) (Eq.trans (if_neg (fun h => hq_c0_c2 h.2.1)) (Eq.trans (if_neg (fun h => hq_c0_c2 h.1)) (Eq.trans (if_neg (fun h => hq_c0_c2 h)) (rfl))))))
       ·skip
        by_cases q_c3 : c3 = u
        ·subst q_c3
         exact Eq.trans (b := (4 : Int32)) (Eq.trans (own_next_p rfl) (by decide)) (Eq.symm (if_pos ⟨rfl, rfl, rfl, rfl⟩))
        ·skip
         exact Eq.trans (b := (0 : Int32)) (Eq.trans (own_next_n (fun h => q_c3 h.symm)) (Eq.trans (own_look_n q_c0) (rfl))) (Eq.symm (Eq.trans (if_neg (fun h => q_c3 h.2.2.2)) (Eq.trans (if_neg (fun h => hq_c0_c2 h.2.1)) (Eq.trans (if_neg (fun h => hq_c0_c2 h.1)) (Eq.trans (if_neg (fun h => q_c0 h)) (rfl))))))
     have R4 : own_rw 4 (-1 : Int32) [(0 : Int32), (0 : Int32), (0 : Int32), (1 : Int32), (2 : Int32), (3 : Int32)] [c0, c0, c0, (0 : Int32)] [(2 : Int32), (1 : Int32), (1 : Int32), (0 : Int32)] (fun u => (if c0 = c0 ∧ c0 = c2 ∧ c2 = c3 ∧ c3 = u then (4 : Int32) else (if c0 = c2 ∧ c0 = c3 ∧ c2 = u then (3 : Int32) else (if c0 = c3 ∧ c0 = u then (2 : Int32) else (if c0 = u then (1 : Int32) else (0 : Int32)))))) := by
      refine ⟨2, 1, (2 : Int32), (3 : Int32), rfl, rfl, by decide, by decide, Nat.le_of_ble_eq_true rfl, Nat.le_of_ble_eq_true rfl, by decide, fun u hu => ?_⟩
      by_cases q_c0 : c0 = u
      ·subst q_c0
       exact Eq.trans (b := (1 : Int32)) (Eq.trans (own_next_n (own_nm1 hr0.1)) (own_look_p rfl)) (Eq.symm (Eq.trans (if_neg (fun h => hq_c0_c2 h.2.1)) (Eq.trans (if_neg (fun h => hq_c0_c2 h.1)) (Eq.trans (if_neg (fun h => hq_c0_c3 h.1)) (if_pos rfl)))))
      ·skip
       by_cases q_c2 : c2 = u
       ·subst q_c2
        exact Eq.trans (b := (0 : Int32)) (Eq.trans (own_next_n (own_nm1 hr2.1)) (Eq.trans (own_look_n hq_c0_c2) (rfl))) (Eq.symm (Eq.trans (if_neg (fun h => hq_c0_c2 h.2.1)) (Eq.trans (if_neg (fun h => hq_c0_c2 h.1)) (Eq.trans (if_neg (fun h => hq_c0_c3 h.1)) (Eq.trans (if_neg (fun h => hq_c0_c2 h)) (rfl))))))
       ·skip
        by_cases q_c3 : c3 = u
        ·subst q_c3
         exact Eq.trans (b := (0 : Int32)) (Eq.trans (own_next_n (own_nm1 hr3.1)) (Eq.trans (own_look_n hq_c0_c3) (rfl))) (Eq.symm (Eq.trans (if_neg (fun h => hq_c0_c2 h.2.1)) (Eq.trans (if_neg (fun h => hq_c0_c2 h.1)) (Eq.trans (if_neg (fun h => hq_c0_c3 h.1)) (Eq.trans (if_neg (fun h => hq_c0_c3 h)) (rfl))))))
        ·skip
         exact Eq.trans (b := (0 : Int32)) (Eq.trans (own_next_n (own_nm1 hu)) (Eq.trans (own_look_n q_c0) (rfl))) (Eq.symm (Eq.trans (if_neg (fun h => hq_c0_c2 h.2.1)) (Eq.trans (if_neg (fun h => hq_c0_c2 h.1)) (Eq.trans (if_neg (fun h => hq_c0_c3 h.1)) (Eq.trans (if_neg (fun h => q_c0 h)) (rfl))))))
     exact ⟨b4, b23, b26, b29, [(0 : Int32), (0 : Int32), (0 : Int32), (1 : Int32), (2 : Int32), (3 : Int32)], [c0, c0, c0, (0 : Int32)], [(2 : Int32), (1 : Int32), (1 : Int32), (0 : Int32)], rfl, N147, E_this, F_this_forward, F_this_rows, F_this_units, F_this_targets, A_b4, A_b23, A_b26, A_b29, R0, R1, R2, R3, R4⟩
    -- 
 ·skip
  refine Run.x_icmpNo (q := 194) X35 hx (hb hby d2_191) (feq hq_c0_c1).1 rfl ?_
  refine Run.x_aloadN (q := 195) X35 hx (hb hby d2_194) rfl rfl rfl ?_
  replace F_this_units := (F_this_units.ext E29).other W30 (Or.inr (slot_ne (Or.inr (wm28 hw)) (Or.inr (wm30 hw)) (by decide) (t := (.array .char)) (t' := (.array .int)) (by decide) (by decide)))
  refine Run.z_getF (q := 198) X35 hx hZ e35 hown (wm27 hw) F_this_units (hb hby d2_195) rfl fun T150 X150 e150 => ?_
  refine Run.x_iloadN (q := 199) X150 hx (hb hby d2_198) rfl rfl ?_
  refine Run.x_aloadN (q := 200) X150 hx (hb hby d2_199) rfl rfl rfl ?_
  refine Run.z_getF (q := 203) X150 hx hZ e150 hown (wm23 hw) F_this_forward (hb hby d2_200) rfl fun T151 X151 e151 => ?_
  refine Run.x_iloadN (q := 204) X151 hx (hb hby d2_203) rfl rfl ?_
  refine Run.y_ldI (q := 205) X151 hx hZ e151 A_b4 (i := 0) (v := (.int c0)) (by decide) rfl (hb hby d2_204) rfl ?_
  refine Run.x_i2c (q := 206) X151 hx (hb hby d2_205) (z := c0) (own_ic hr0) rfl ?_
  replace A_b26 := (A_b26.ext E29).other W30 (Ne.symm ne_this_b26)
  refine Run.y_stC (q := 207) X151 hx hZ e151 A_b26 (i := 0) (by decide) (Nat.le_of_ble_eq_true rfl) (z' := c0) (own_nr hr0) (hb hby d2_206) rfl fun T152 h152 X152 e152 W152 A152 => ?_
  replace A_b26 : Ars Z h152 b26 .char [(.int c0), (.int 0), (.int 0), (.int 0)] := A152
  have N152 := Fr.snoc X152 N30 g_b26
  have Z152 : n0 ≤ h152.size := Nat.le_trans Z30 (Nat.le_of_eq W152.size.symm)
  refine Run.x_aloadN (q := 208) X152 hx (hb hby d2_207) rfl rfl rfl ?_
  replace F_this_targets := F_this_targets.other W152 (Or.inl ne_this_b26)
  refine Run.z_getF (q := 211) X152 hx hZ e152 hown (wm29 hw) F_this_targets (hb hby d2_208) rfl fun T153 X153 e153 => ?_
  refine Run.x_iloadN (q := 212) X153 hx (hb hby d2_211) rfl rfl ?_
  refine Run.x_iinc (q := 215) X153 hx #[.val (.ref this), .val (.ref pat), .val (.int 1), .val (.int 0), .val (.int 1), .val (.int 0)] (hb hby d2_212) rfl (z := (1 : Int32)) (by decide) rfl rfl ?_
  refine Run.x_iloadN (q := 216) X153 hx (hb hby d2_215) rfl rfl ?_
  refine Run.x_iconst (q := 217) X153 hx (hb hby d2_216) (z := (1 : Int32)) rfl rfl ?_
  refine Run.x_iadd (q := 218) X153 hx (hb hby d2_217) (z := (1 : Int32)) (by decide) rfl ?_
  replace A_b29 := (A_b29.other W30 (Ne.symm ne_this_b29)).other W152 (Ne.symm ne_b26_b29)
  refine Run.y_stI (q := 219) X153 hx hZ e153 A_b29 (i := 0) (by decide) (Nat.le_of_ble_eq_true rfl) (hb hby d2_218) rfl fun T154 h154 X154 e154 W154 A154 => ?_
  replace A_b29 : Ars Z h154 b29 .int [(.int 1), (.int 0), (.int 0), (.int 0)] := A154
  have N154 := Fr.snoc X154 N152 g_b29
  have Z154 : n0 ≤ h154.size := Nat.le_trans Z152 (Nat.le_of_eq W154.size.symm)
  refine Run.x_aloadN (q := 220) X154 hx (hb hby d2_219) rfl rfl rfl ?_
  replace F_this_rows := (F_this_rows.other W152 (Or.inl ne_this_b26)).other W154 (Or.inl ne_this_b29)
  refine Run.z_getF (q := 223) X154 hx hZ e154 hown (wm25 hw) F_this_rows (hb hby d2_220) rfl fun T155 X155 e155 => ?_
  refine Run.x_iload (q := 225) X155 hx (hb hby d2_223) rfl rfl ?_
  refine Run.x_iconst (q := 226) X155 hx (hb hby d2_225) (z := (1 : Int32)) rfl rfl ?_
  refine Run.x_iadd (q := 227) X155 hx (hb hby d2_226) (z := (2 : Int32)) (by decide) rfl ?_
  refine Run.x_iloadN (q := 228) X155 hx (hb hby d2_227) rfl rfl ?_
  replace A_b23 := (A_b23.other W152 ne_b23_b26).other W154 ne_b23_b29
  refine Run.y_stI (q := 229) X155 hx hZ e155 A_b23 (i := 2) (by decide) (Nat.le_of_ble_eq_true rfl) (hb hby d2_228) rfl fun T156 h156 X156 e156 W156 A156 => ?_
  replace A_b23 : Ars Z h156 b23 .int [(.int 0), (.int 0), (.int 1), (.int 0), (.int 0), (.int 0)] := A156
  have N156 := Fr.snoc X156 N154 g_b23
  have Z156 : n0 ≤ h156.size := Nat.le_trans Z154 (Nat.le_of_eq W156.size.symm)
  refine Run.x_iload (q := 231) X156 hx (hb hby d2_229) rfl rfl ?_
  refine Run.x_aloadN (q := 232) X156 hx (hb hby d2_231) rfl rfl rfl ?_
  replace F_this_length := ((F_this_length.other W152 (Or.inl ne_this_b26)).other W154 (Or.inl ne_this_b29)).other W156 (Or.inl ne_this_b23)
  refine Run.z_getF (q := 235) X156 hx hZ e156 hown (wm20 hw) F_this_length (hb hby d2_232) rfl fun T157 X157 e157 => ?_
  refine Run.x_icmpNo (q := 238) X157 hx (hb hby d2_235) (tlt (by decide : (1 : Int32) < (4 : Int32))).2.1 rfl ?_
  refine Run.x_aloadN (q := 239) X157 hx (hb hby d2_238) rfl rfl rfl ?_
  refine Run.x_iloadN (q := 240) X157 hx (hb hby d2_239) rfl rfl ?_
  refine Run.x_aloadN (q := 241) X157 hx (hb hby d2_240) rfl rfl rfl ?_
  refine Run.x_iload (q := 243) X157 hx (hb hby d2_241) rfl rfl ?_
  replace A_pat := ((((A_pat.ext E29).other W30 (Ne.symm ne_this_pat)).other W152 ne_pat_b26).other W154 ne_pat_b29).other W156 ne_pat_b23
  refine Run.y_ldC (q := 244) X157 hx hZ e157 A_pat (i := 1) (v := (.int c1)) (by decide) rfl (hb hby d2_243) rfl ?_
  replace E_this := (((E_this.wr W30).wr W152).wr W154).wr W156
  replace F_this_forward := ((F_this_forward.other W152 (Or.inl ne_this_b26)).other W154 (Or.inl ne_this_b29)).other W156 (Or.inl ne_this_b23)
  replace F_this_rows := F_this_rows.other W156 (Or.inl ne_this_b23)
  replace F_this_units := ((F_this_units.other W152 (Or.inl ne_this_b26)).other W154 (Or.inl ne_this_b29)).other W156 (Or.inl ne_this_b23)
  replace F_this_targets := (F_this_targets.other W154 (Or.inl ne_this_b29)).other W156 (Or.inl ne_this_b23)
  replace A_b4 := ((A_b4.other W152 ne_b4_b26).other W154 ne_b4_b29).other W156 ne_b4_b23
  replace A_b26 := (A_b26.other W154 ne_b26_b29).other W156 (Ne.symm ne_b23_b26)
  replace A_b29 := A_b29.other W156 (Ne.symm ne_b23_b29)
  refine Run.callVI (q := 247) X157 hx hZ e157 (y := (⟨"needlewise/kmp/SparseAutomaton", "next", "(IC)I"⟩ : MethodName)) (z := (⟨"needlewise/kmp/SparseAutomaton", "next", "(IC)I"⟩ : MethodName)) hown (wm39 hw) (wm32 hw) (notFace_of_selects (args := #[]) (mvT hZ (wm34 hw))) (wm34 hw) (wm33 hw) (wm9 hw) (wm35 hw) (by decide) (a := this) E_this (argsL := [(.int 0), (.int c1)]) (rest := []) (c_next l Z a0 hw this (0 : Int32) c1 h156 n0 Z156 b4 b23 b26 b29 [(.int c0), (.int c1), (.int c2), (.int c3), (.int (-1))] [(.int 0), (.int 0), (.int 1), (.int 0), (.int 0), (.int 0)] [c0, (0 : Int32), (0 : Int32), (0 : Int32)] [(1 : Int32), (0 : Int32), (0 : Int32), (0 : Int32)] 0 0 0 c0 (0 : Int32) (0 : Int32) (0 : Int32) E_this F_this_forward F_this_rows F_this_units F_this_targets A_b4 A_b23 A_b26 A_b29 (by decide) (by decide) rfl rfl rfl (by decide) (by decide) (Nat.le_of_ble_eq_true rfl) (Nat.le_of_ble_eq_true rfl) (by decide) (Eq.trans (own_next_n (fun h => hq_c0_c1 h.symm)) (rfl))) pd_0 rfl (by rw [hml]; rfl) (W := 0) rfl (by decide) (by decide) (by decide) (by decide) (hb hby d2_244) rfl rfl fun T158 L158 X158 M158 e158 => ?_
  have N158 := Fr.app N156 M158
  refine Run.x_istoreN (q := 248) X158 hx #[.val (.ref this), .val (.ref pat), .val (.int 1), .val (.int 0), .val (.int 1), .val (.int 0)] (hb hby d2_247) rfl rfl ?_
  refine Run.x_iinc (q := 251) X158 hx #[.val (.ref this), .val (.ref pat), .val (.int 1), .val (.int 0), .val (.int 2), .val (.int 0)] (hb hby d2_248) rfl (z := (2 : Int32)) (by decide) rfl rfl ?_
  refine Run.x_goto (q := 96) X158 hx (hb hby d2_251) (by decide) (by decide) ?_
  refine Run.x_iload (q := 98) X158 hx (hb hby d2_96) rfl rfl ?_
  refine Run.x_aloadN (q := 99) X158 hx (hb hby d2_98) rfl rfl rfl ?_
  refine Run.z_getF (q := 102) X158 hx hZ e158 hown (wm20 hw) F_this_length (hb hby d2_99) rfl fun T159 X159 e159 => ?_
  refine Run.x_icmpNo (q := 105) X159 hx (hb hby d2_102) (flt (by decide : ¬ ((4 : Int32) < (2 : Int32)))).2.2.1 rfl ?_
  refine Run.x_aloadN (q := 106) X159 hx (hb hby d2_105) rfl rfl rfl ?_
  refine Run.z_getF (q := 109) X159 hx hZ e159 hown (wm25 hw) F_this_rows (hb hby d2_106) rfl fun T160 X160 e160 => ?_
  refine Run.x_iloadN (q := 110) X160 hx (hb hby d2_109) rfl rfl ?_
  refine Run.y_ldI (q := 111) X160 hx hZ e160 A_b23 (i := 0) (v := (.int 0)) (by decide) rfl (hb hby d2_110) rfl ?_
  refine Run.x_istore (q := 113) X160 hx #[.val (.ref this), .val (.ref pat), .val (.int 1), .val (.int 0), .val (.int 2), .val (.int 0)] (hb hby d2_111) rfl rfl ?_
  refine Run.x_iload (q := 115) X160 hx (hb hby d2_113) rfl rfl ?_
  refine Run.x_aloadN (q := 116) X160 hx (hb hby d2_115) rfl rfl rfl ?_
  refine Run.z_getF (q := 119) X160 hx hZ e160 hown (wm25 hw) F_this_rows (hb hby d2_116) rfl fun T161 X161 e161 => ?_
  refine Run.x_iloadN (q := 120) X161 hx (hb hby d2_119) rfl rfl ?_
  refine Run.x_iconst (q := 121) X161 hx (hb hby d2_120) (z := (1 : Int32)) rfl rfl ?_
  refine Run.x_iadd (q := 122) X161 hx (hb hby d2_121) (z := (1 : Int32)) (by decide) rfl ?_
  refine Run.y_ldI (q := 123) X161 hx hZ e161 A_b23 (i := 1) (v := (.int 0)) (by decide) rfl (hb hby d2_122) rfl ?_
  refine Run.x_icmpYes (q := 178) X161 hx (hb hby d2_123) (flt (by decide : ¬ ((0 : Int32) < (0 : Int32)))).2.1 (by decide) (by decide) ?_
  refine Run.x_aloadN (q := 179) X161 hx (hb hby d2_178) rfl rfl rfl ?_
  refine Run.z_getF (q := 182) X161 hx hZ e161 hown (wm23 hw) F_this_forward (hb hby d2_179) rfl fun T162 X162 e162 => ?_
  refine Run.x_iloadN (q := 183) X162 hx (hb hby d2_182) rfl rfl ?_
  refine Run.y_ldI (q := 184) X162 hx hZ e162 A_b4 (i := 0) (v := (.int c0)) (by decide) rfl (hb hby d2_183) rfl ?_
  refine Run.x_aloadN (q := 185) X162 hx (hb hby d2_184) rfl rfl rfl ?_
  refine Run.z_getF (q := 188) X162 hx hZ e162 hown (wm23 hw) F_this_forward (hb hby d2_185) rfl fun T163 X163 e163 => ?_
  refine Run.x_iload (q := 190) X163 hx (hb hby d2_188) rfl rfl ?_
  refine Run.y_ldI (q := 191) X163 hx hZ e163 A_b4 (i := 2) (v := (.int c2)) (by decide) rfl (hb hby d2_190) rfl ?_
  by_cases hq_c0_c2 : c0 = c2
  ·subst hq_c0_c2
   refine Run.x_icmpYes (q := 219) X163 hx (hb hby d2_191) (teq rfl).1 (by decide) (by decide) ?_
   refine Run.x_aloadN (q := 220) X163 hx (hb hby d2_219) rfl rfl rfl ?_
   refine Run.z_getF (q := 223) X163 hx hZ e163 hown (wm25 hw) F_this_rows (hb hby d2_220) rfl fun T164 X164 e164 => ?_
   refine Run.x_iload (q := 225) X164 hx (hb hby d2_223) rfl rfl ?_
   refine Run.x_iconst (q := 226) X164 hx (hb hby d2_225) (z := (1 : Int32)) rfl rfl ?_
   refine Run.x_iadd (q := 227) X164 hx (hb hby d2_226) (z := (3 : Int32)) (by decide) rfl ?_
   refine Run.x_iloadN (q := 228) X164 hx (hb hby d2_227) rfl rfl ?_
   refine Run.y_stI (q := 229) X164 hx hZ e164 A_b23 (i := 3) (by decide) (Nat.le_of_ble_eq_true rfl) (hb hby d2_228) rfl fun T165 h165 X165 e165 W165 A165 => ?_
   replace A_b23 : Ars Z h165 b23 .int [(.int 0), (.int 0), (.int 1), (.int 1), (.int 0), (.int 0)] := A165
   have N165 := Fr.snoc X165 N158 g_b23
   have Z165 : n0 ≤ h165.size := Nat.le_trans Z156 (Nat.le_of_eq W165.size.symm)
   refine Run.x_iload (q := 231) X165 hx (hb hby d2_229) rfl rfl ?_
   refine Run.x_aloadN (q := 232) X165 hx (hb hby d2_231) rfl rfl rfl ?_
   replace F_this_length := F_this_length.other W165 (Or.inl ne_this_b23)
   refine Run.z_getF (q := 235) X165 hx hZ e165 hown (wm20 hw) F_this_length (hb hby d2_232) rfl fun T166 X166 e166 => ?_
   refine Run.x_icmpNo (q := 238) X166 hx (hb hby d2_235) (tlt (by decide : (2 : Int32) < (4 : Int32))).2.1 rfl ?_
   refine Run.x_aloadN (q := 239) X166 hx (hb hby d2_238) rfl rfl rfl ?_
   refine Run.x_iloadN (q := 240) X166 hx (hb hby d2_239) rfl rfl ?_
   refine Run.x_aloadN (q := 241) X166 hx (hb hby d2_240) rfl rfl rfl ?_
   refine Run.x_iload (q := 243) X166 hx (hb hby d2_241) rfl rfl ?_
   replace A_pat := A_pat.other W165 ne_pat_b23
   refine Run.y_ldC (q := 244) X166 hx hZ e166 A_pat (i := 2) (v := (.int c0)) (by decide) rfl (hb hby d2_243) rfl ?_
   replace E_this := E_this.wr W165
   replace F_this_forward := F_this_forward.other W165 (Or.inl ne_this_b23)
   replace F_this_rows := F_this_rows.other W165 (Or.inl ne_this_b23)
   replace F_this_units := F_this_units.other W165 (Or.inl ne_this_b23)
   replace F_this_targets := F_this_targets.other W165 (Or.inl ne_this_b23)
   replace A_b4 := A_b4.other W165 ne_b4_b23
   replace A_b26 := A_b26.other W165 (Ne.symm ne_b23_b26)
   replace A_b29 := A_b29.other W165 (Ne.symm ne_b23_b29)
   refine Run.callVI (q := 247) X166 hx hZ e166 (y := (⟨"needlewise/kmp/SparseAutomaton", "next", "(IC)I"⟩ : MethodName)) (z := (⟨"needlewise/kmp/SparseAutomaton", "next", "(IC)I"⟩ : MethodName)) hown (wm39 hw) (wm32 hw) (notFace_of_selects (args := #[]) (mvT hZ (wm34 hw))) (wm34 hw) (wm33 hw) (wm9 hw) (wm35 hw) (by decide) (a := this) E_this (argsL := [(.int 0), (.int c0)]) (rest := []) (c_next l Z a0 hw this (0 : Int32) c0 h165 n0 Z165 b4 b23 b26 b29 [(.int c0), (.int c1), (.int c0), (.int c3), (.int (-1))] [(.int 0), (.int 0), (.int 1), (.int 1), (.int 0), (.int 0)] [c0, (0 : Int32), (0 : Int32), (0 : Int32)] [(1 : Int32), (0 : Int32), (0 : Int32), (0 : Int32)] 0 0 0 c0 (0 : Int32) (0 : Int32) (1 : Int32) E_this F_this_forward F_this_rows F_this_units F_this_targets A_b4 A_b23 A_b26 A_b29 (by decide) (by decide) rfl rfl rfl (by decide) (by decide) (Nat.le_of_ble_eq_true rfl) (Nat.le_of_ble_eq_true rfl) (by decide) (Eq.trans (own_next_p rfl) (by decide))) pd_0 rfl (by rw [hml]; rfl) (W := 0) rfl (by decide) (by decide) (by decide) (by decide) (hb hby d2_244) rfl rfl fun T167 L167 X167 M167 e167 => ?_
   have N167 := Fr.app N165 M167
   refine Run.x_istoreN (q := 248) X167 hx #[.val (.ref this), .val (.ref pat), .val (.int 1), .val (.int 1), .val (.int 2), .val (.int 0)] (hb hby d2_247) rfl rfl ?_
   refine Run.x_iinc (q := 251) X167 hx #[.val (.ref this), .val (.ref pat), .val (.int 1), .val (.int 1), .val (.int 3), .val (.int 0)] (hb hby d2_248) rfl (z := (3 : Int32)) (by decide) rfl rfl ?_
   refine Run.x_goto (q := 96) X167 hx (hb hby d2_251) (by decide) (by decide) ?_
   refine Run.x_iload (q := 98) X167 hx (hb hby d2_96) rfl rfl ?_
   refine Run.x_aloadN (q := 99) X167 hx (hb hby d2_98) rfl rfl rfl ?_
   refine Run.z_getF (q := 102) X167 hx hZ e167 hown (wm20 hw) F_this_length (hb hby d2_99) rfl fun T168 X168 e168 => ?_
   refine Run.x_icmpNo (q := 105) X168 hx (hb hby d2_102) (flt (by decide : ¬ ((4 : Int32) < (3 : Int32)))).2.2.1 rfl ?_
   refine Run.x_aloadN (q := 106) X168 hx (hb hby d2_105) rfl rfl rfl ?_
   refine Run.z_getF (q := 109) X168 hx hZ e168 hown (wm25 hw) F_this_rows (hb hby d2_106) rfl fun T169 X169 e169 => ?_
   refine Run.x_iloadN (q := 110) X169 hx (hb hby d2_109) rfl rfl ?_
   refine Run.y_ldI (q := 111) X169 hx hZ e169 A_b23 (i := 1) (v := (.int 0)) (by decide) rfl (hb hby d2_110) rfl ?_
   refine Run.x_istore (q := 113) X169 hx #[.val (.ref this), .val (.ref pat), .val (.int 1), .val (.int 1), .val (.int 3), .val (.int 0)] (hb hby d2_111) rfl rfl ?_
   refine Run.x_iload (q := 115) X169 hx (hb hby d2_113) rfl rfl ?_
   refine Run.x_aloadN (q := 116) X169 hx (hb hby d2_115) rfl rfl rfl ?_
   refine Run.z_getF (q := 119) X169 hx hZ e169 hown (wm25 hw) F_this_rows (hb hby d2_116) rfl fun T170 X170 e170 => ?_
   refine Run.x_iloadN (q := 120) X170 hx (hb hby d2_119) rfl rfl ?_
   refine Run.x_iconst (q := 121) X170 hx (hb hby d2_120) (z := (1 : Int32)) rfl rfl ?_
   refine Run.x_iadd (q := 122) X170 hx (hb hby d2_121) (z := (2 : Int32)) (by decide) rfl ?_
   refine Run.y_ldI (q := 123) X170 hx hZ e170 A_b23 (i := 2) (v := (.int 1)) (by decide) rfl (hb hby d2_122) rfl ?_
   refine Run.x_icmpNo (q := 126) X170 hx (hb hby d2_123) (tlt (by decide : (0 : Int32) < (1 : Int32))).2.1 rfl ?_
   refine Run.x_aloadN (q := 127) X170 hx (hb hby d2_126) rfl rfl rfl ?_
   refine Run.z_getF (q := 130) X170 hx hZ e170 hown (wm27 hw) F_this_units (hb hby d2_127) rfl fun T171 X171 e171 => ?_
   refine Run.x_iload (q := 132) X171 hx (hb hby d2_130) rfl rfl ?_
   refine Run.y_ldC (q := 133) X171 hx hZ e171 A_b26 (i := 0) (v := (.int c0)) (by decide) rfl (hb hby d2_132) rfl ?_
   refine Run.x_aloadN (q := 134) X171 hx (hb hby d2_133) rfl rfl rfl ?_
   refine Run.z_getF (q := 137) X171 hx hZ e171 hown (wm23 hw) F_this_forward (hb hby d2_134) rfl fun T172 X172 e172 => ?_
   refine Run.x_iload (q := 139) X172 hx (hb hby d2_137) rfl rfl ?_
   refine Run.y_ldI (q := 140) X172 hx hZ e172 A_b4 (i := 3) (v := (.int c3)) (by decide) rfl (hb hby d2_139) rfl ?_
   by_cases hq_c0_c3 : c0 = c3
   ·subst hq_c0_c3
    refine Run.x_icmpYes (q := 172) X172 hx (hb hby d2_140) (teq rfl).1 (by decide) (by decide) ?_
    refine Run.x_iinc (q := 175) X172 hx #[.val (.ref this), .val (.ref pat), .val (.int 1), .val (.int 1), .val (.int 3), .val (.int 1)] (hb hby d2_172) rfl (z := (1 : Int32)) (by decide) rfl rfl ?_
    refine Run.x_goto (q := 113) X172 hx (hb hby d2_175) (by decide) (by decide) ?_
    refine Run.x_iload (q := 115) X172 hx (hb hby d2_113) rfl rfl ?_
    refine Run.x_aloadN (q := 116) X172 hx (hb hby d2_115) rfl rfl rfl ?_
    refine Run.z_getF (q := 119) X172 hx hZ e172 hown (wm25 hw) F_this_rows (hb hby d2_116) rfl fun T173 X173 e173 => ?_
    refine Run.x_iloadN (q := 120) X173 hx (hb hby d2_119) rfl rfl ?_
    refine Run.x_iconst (q := 121) X173 hx (hb hby d2_120) (z := (1 : Int32)) rfl rfl ?_
    refine Run.x_iadd (q := 122) X173 hx (hb hby d2_121) (z := (2 : Int32)) (by decide) rfl ?_
    refine Run.y_ldI (q := 123) X173 hx hZ e173 A_b23 (i := 2) (v := (.int 1)) (by decide) rfl (hb hby d2_122) rfl ?_
    refine Run.x_icmpYes (q := 178) X173 hx (hb hby d2_123) (flt (by decide : ¬ ((1 : Int32) < (1 : Int32)))).2.1 (by decide) (by decide) ?_
    refine Run.x_aloadN (q := 179) X173 hx (hb hby d2_178) rfl rfl rfl ?_
    refine Run.z_getF (q := 182) X173 hx hZ e173 hown (wm23 hw) F_this_forward (hb hby d2_179) rfl fun T174 X174 e174 => ?_
    refine Run.x_iloadN (q := 183) X174 hx (hb hby d2_182) rfl rfl ?_
    refine Run.y_ldI (q := 184) X174 hx hZ e174 A_b4 (i := 1) (v := (.int c1)) (by decide) rfl (hb hby d2_183) rfl ?_
    refine Run.x_aloadN (q := 185) X174 hx (hb hby d2_184) rfl rfl rfl ?_
    refine Run.z_getF (q := 188) X174 hx hZ e174 hown (wm23 hw) F_this_forward (hb hby d2_185) rfl fun T175 X175 e175 => ?_
    refine Run.x_iload (q := 190) X175 hx (hb hby d2_188) rfl rfl ?_
    refine Run.y_ldI (q := 191) X175 hx hZ e175 A_b4 (i := 3) (v := (.int c0)) (by decide) rfl (hb hby d2_190) rfl ?_
    refine Run.x_icmpNo (q := 194) X175 hx (hb hby d2_191) (feq (fun h => hq_c0_c1 h.symm)).1 rfl ?_
    refine Run.x_aloadN (q := 195) X175 hx (hb hby d2_194) rfl rfl rfl ?_
    refine Run.z_getF (q := 198) X175 hx hZ e175 hown (wm27 hw) F_this_units (hb hby d2_195) rfl fun T176 X176 e176 => ?_
    refine Run.x_iloadN (q := 199) X176 hx (hb hby d2_198) rfl rfl ?_
    refine Run.x_aloadN (q := 200) X176 hx (hb hby d2_199) rfl rfl rfl ?_
    refine Run.z_getF (q := 203) X176 hx hZ e176 hown (wm23 hw) F_this_forward (hb hby d2_200) rfl fun T177 X177 e177 => ?_
    refine Run.x_iloadN (q := 204) X177 hx (hb hby d2_203) rfl rfl ?_
    refine Run.y_ldI (q := 205) X177 hx hZ e177 A_b4 (i := 1) (v := (.int c1)) (by decide) rfl (hb hby d2_204) rfl ?_
    refine Run.x_i2c (q := 206) X177 hx (hb hby d2_205) (z := c1) (own_ic hr1) rfl ?_
    refine Run.y_stC (q := 207) X177 hx hZ e177 A_b26 (i := 1) (by decide) (Nat.le_of_ble_eq_true rfl) (z' := c1) (own_nr hr1) (hb hby d2_206) rfl fun T178 h178 X178 e178 W178 A178 => ?_
    replace A_b26 : Ars Z h178 b26 .char [(.int c0), (.int c1), (.int 0), (.int 0)] := A178
    have N178 := Fr.snoc X178 N167 g_b26
    have Z178 : n0 ≤ h178.size := Nat.le_trans Z165 (Nat.le_of_eq W178.size.symm)
    refine Run.x_aloadN (q := 208) X178 hx (hb hby d2_207) rfl rfl rfl ?_
    replace F_this_targets := F_this_targets.other W178 (Or.inl ne_this_b26)
    refine Run.z_getF (q := 211) X178 hx hZ e178 hown (wm29 hw) F_this_targets (hb hby d2_208) rfl fun T179 X179 e179 => ?_
    refine Run.x_iloadN (q := 212) X179 hx (hb hby d2_211) rfl rfl ?_
    refine Run.x_iinc (q := 215) X179 hx #[.val (.ref this), .val (.ref pat), .val (.int 2), .val (.int 1), .val (.int 3), .val (.int 1)] (hb hby d2_212) rfl (z := (2 : Int32)) (by decide) rfl rfl ?_
    refine Run.x_iloadN (q := 216) X179 hx (hb hby d2_215) rfl rfl ?_
    refine Run.x_iconst (q := 217) X179 hx (hb hby d2_216) (z := (1 : Int32)) rfl rfl ?_
    refine Run.x_iadd (q := 218) X179 hx (hb hby d2_217) (z := (2 : Int32)) (by decide) rfl ?_
    replace A_b29 := A_b29.other W178 (Ne.symm ne_b26_b29)
    refine Run.y_stI (q := 219) X179 hx hZ e179 A_b29 (i := 1) (by decide) (Nat.le_of_ble_eq_true rfl) (hb hby d2_218) rfl fun T180 h180 X180 e180 W180 A180 => ?_
    replace A_b29 : Ars Z h180 b29 .int [(.int 1), (.int 2), (.int 0), (.int 0)] := A180
    have N180 := Fr.snoc X180 N178 g_b29
    have Z180 : n0 ≤ h180.size := Nat.le_trans Z178 (Nat.le_of_eq W180.size.symm)
    refine Run.x_aloadN (q := 220) X180 hx (hb hby d2_219) rfl rfl rfl ?_
    replace F_this_rows := (F_this_rows.other W178 (Or.inl ne_this_b26)).other W180 (Or.inl ne_this_b29)
    refine Run.z_getF (q := 223) X180 hx hZ e180 hown (wm25 hw) F_this_rows (hb hby d2_220) rfl fun T181 X181 e181 => ?_
    refine Run.x_iload (q := 225) X181 hx (hb hby d2_223) rfl rfl ?_
    refine Run.x_iconst (q := 226) X181 hx (hb hby d2_225) (z := (1 : Int32)) rfl rfl ?_
    refine Run.x_iadd (q := 227) X181 hx (hb hby d2_226) (z := (4 : Int32)) (by decide) rfl ?_
    refine Run.x_iloadN (q := 228) X181 hx (hb hby d2_227) rfl rfl ?_
    replace A_b23 := (A_b23.other W178 ne_b23_b26).other W180 ne_b23_b29
    refine Run.y_stI (q := 229) X181 hx hZ e181 A_b23 (i := 4) (by decide) (Nat.le_of_ble_eq_true rfl) (hb hby d2_228) rfl fun T182 h182 X182 e182 W182 A182 => ?_
    replace A_b23 : Ars Z h182 b23 .int [(.int 0), (.int 0), (.int 1), (.int 1), (.int 2), (.int 0)] := A182
    have N182 := Fr.snoc X182 N180 g_b23
    have Z182 : n0 ≤ h182.size := Nat.le_trans Z180 (Nat.le_of_eq W182.size.symm)
    refine Run.x_iload (q := 231) X182 hx (hb hby d2_229) rfl rfl ?_
    refine Run.x_aloadN (q := 232) X182 hx (hb hby d2_231) rfl rfl rfl ?_
    replace F_this_length := ((F_this_length.other W178 (Or.inl ne_this_b26)).other W180 (Or.inl ne_this_b29)).other W182 (Or.inl ne_this_b23)
    refine Run.z_getF (q := 235) X182 hx hZ e182 hown (wm20 hw) F_this_length (hb hby d2_232) rfl fun T183 X183 e183 => ?_
    refine Run.x_icmpNo (q := 238) X183 hx (hb hby d2_235) (tlt (by decide : (3 : Int32) < (4 : Int32))).2.1 rfl ?_
    refine Run.x_aloadN (q := 239) X183 hx (hb hby d2_238) rfl rfl rfl ?_
    refine Run.x_iloadN (q := 240) X183 hx (hb hby d2_239) rfl rfl ?_
    refine Run.x_aloadN (q := 241) X183 hx (hb hby d2_240) rfl rfl rfl ?_
    refine Run.x_iload (q := 243) X183 hx (hb hby d2_241) rfl rfl ?_
    replace A_pat := ((A_pat.other W178 ne_pat_b26).other W180 ne_pat_b29).other W182 ne_pat_b23
    refine Run.y_ldC (q := 244) X183 hx hZ e183 A_pat (i := 3) (v := (.int c0)) (by decide) rfl (hb hby d2_243) rfl ?_
    replace E_this := ((E_this.wr W178).wr W180).wr W182
    replace F_this_forward := ((F_this_forward.other W178 (Or.inl ne_this_b26)).other W180 (Or.inl ne_this_b29)).other W182 (Or.inl ne_this_b23)
    replace F_this_rows := F_this_rows.other W182 (Or.inl ne_this_b23)
    replace F_this_units := ((F_this_units.other W178 (Or.inl ne_this_b26)).other W180 (Or.inl ne_this_b29)).other W182 (Or.inl ne_this_b23)
    replace F_this_targets := (F_this_targets.other W180 (Or.inl ne_this_b29)).other W182 (Or.inl ne_this_b23)
    replace A_b4 := ((A_b4.other W178 ne_b4_b26).other W180 ne_b4_b29).other W182 ne_b4_b23
    replace A_b26 := (A_b26.other W180 ne_b26_b29).other W182 (Ne.symm ne_b23_b26)
    replace A_b29 := A_b29.other W182 (Ne.symm ne_b23_b29)
    refine Run.callVI (q := 247) X183 hx hZ e183 (y := (⟨"needlewise/kmp/SparseAutomaton", "next", "(IC)I"⟩ : MethodName)) (z := (⟨"needlewise/kmp/SparseAutomaton", "next", "(IC)I"⟩ : MethodName)) hown (wm39 hw) (wm32 hw) (notFace_of_selects (args := #[]) (mvT hZ (wm34 hw))) (wm34 hw) (wm33 hw) (wm9 hw) (wm35 hw) (by decide) (a := this) E_this (argsL := [(.int 1), (.int c0)]) (rest := []) (c_next l Z a0 hw this (1 : Int32) c0 h182 n0 Z182 b4 b23 b26 b29 [(.int c0), (.int c1), (.int c0), (.int c0), (.int (-1))] [(.int 0), (.int 0), (.int 1), (.int 1), (.int 2), (.int 0)] [c0, c1, (0 : Int32), (0 : Int32)] [(1 : Int32), (2 : Int32), (0 : Int32), (0 : Int32)] 1 0 1 c1 (0 : Int32) (1 : Int32) (1 : Int32) E_this F_this_forward F_this_rows F_this_units F_this_targets A_b4 A_b23 A_b26 A_b29 (by decide) (by decide) rfl rfl rfl (by decide) (by decide) (Nat.le_of_ble_eq_true rfl) (Nat.le_of_ble_eq_true rfl) (by decide) (Eq.trans (own_next_n hq_c0_c1) (own_look_p rfl))) pd_0 rfl (by rw [hml]; rfl) (W := 0) rfl (by decide) (by decide) (by decide) (by decide) (hb hby d2_244) rfl rfl fun T184 L184 X184 M184 e184 => ?_
    have N184 := Fr.app N182 M184
    refine Run.x_istoreN (q := 248) X184 hx #[.val (.ref this), .val (.ref pat), .val (.int 2), .val (.int 1), .val (.int 3), .val (.int 1)] (hb hby d2_247) rfl rfl ?_
    refine Run.x_iinc (q := 251) X184 hx #[.val (.ref this), .val (.ref pat), .val (.int 2), .val (.int 1), .val (.int 4), .val (.int 1)] (hb hby d2_248) rfl (z := (4 : Int32)) (by decide) rfl rfl ?_
    refine Run.x_goto (q := 96) X184 hx (hb hby d2_251) (by decide) (by decide) ?_
    refine Run.x_iload (q := 98) X184 hx (hb hby d2_96) rfl rfl ?_
    refine Run.x_aloadN (q := 99) X184 hx (hb hby d2_98) rfl rfl rfl ?_
    refine Run.z_getF (q := 102) X184 hx hZ e184 hown (wm20 hw) F_this_length (hb hby d2_99) rfl fun T185 X185 e185 => ?_
    refine Run.x_icmpNo (q := 105) X185 hx (hb hby d2_102) (flt (by decide : ¬ ((4 : Int32) < (4 : Int32)))).2.2.1 rfl ?_
    refine Run.x_aloadN (q := 106) X185 hx (hb hby d2_105) rfl rfl rfl ?_
    refine Run.z_getF (q := 109) X185 hx hZ e185 hown (wm25 hw) F_this_rows (hb hby d2_106) rfl fun T186 X186 e186 => ?_
    refine Run.x_iloadN (q := 110) X186 hx (hb hby d2_109) rfl rfl ?_
    refine Run.y_ldI (q := 111) X186 hx hZ e186 A_b23 (i := 1) (v := (.int 0)) (by decide) rfl (hb hby d2_110) rfl ?_
    refine Run.x_istore (q := 113) X186 hx #[.val (.ref this), .val (.ref pat), .val (.int 2), .val (.int 1), .val (.int 4), .val (.int 0)] (hb hby d2_111) rfl rfl ?_
    refine Run.x_iload (q := 115) X186 hx (hb hby d2_113) rfl rfl ?_
    refine Run.x_aloadN (q := 116) X186 hx (hb hby d2_115) rfl rfl rfl ?_
    refine Run.z_getF (q := 119) X186 hx hZ e186 hown (wm25 hw) F_this_rows (hb hby d2_116) rfl fun T187 X187 e187 => ?_
    refine Run.x_iloadN (q := 120) X187 hx (hb hby d2_119) rfl rfl ?_
    refine Run.x_iconst (q := 121) X187 hx (hb hby d2_120) (z := (1 : Int32)) rfl rfl ?_
    refine Run.x_iadd (q := 122) X187 hx (hb hby d2_121) (z := (2 : Int32)) (by decide) rfl ?_
    refine Run.y_ldI (q := 123) X187 hx hZ e187 A_b23 (i := 2) (v := (.int 1)) (by decide) rfl (hb hby d2_122) rfl ?_
    refine Run.x_icmpNo (q := 126) X187 hx (hb hby d2_123) (tlt (by decide : (0 : Int32) < (1 : Int32))).2.1 rfl ?_
    refine Run.x_aloadN (q := 127) X187 hx (hb hby d2_126) rfl rfl rfl ?_
    refine Run.z_getF (q := 130) X187 hx hZ e187 hown (wm27 hw) F_this_units (hb hby d2_127) rfl fun T188 X188 e188 => ?_
    refine Run.x_iload (q := 132) X188 hx (hb hby d2_130) rfl rfl ?_
    refine Run.y_ldC (q := 133) X188 hx hZ e188 A_b26 (i := 0) (v := (.int c0)) (by decide) rfl (hb hby d2_132) rfl ?_
    refine Run.x_aloadN (q := 134) X188 hx (hb hby d2_133) rfl rfl rfl ?_
    refine Run.z_getF (q := 137) X188 hx hZ e188 hown (wm23 hw) F_this_forward (hb hby d2_134) rfl fun T189 X189 e189 => ?_
    refine Run.x_iload (q := 139) X189 hx (hb hby d2_137) rfl rfl ?_
    refine Run.y_ldI (q := 140) X189 hx hZ e189 A_b4 (i := 4) (v := (.int (-1))) (by decide) rfl (hb hby d2_139) rfl ?_
    refine Run.x_icmpNo (q := 143) X189 hx (hb hby d2_140) (feq (own_nm1 hr0.1)).1 rfl ?_
    refine Run.x_aloadN (q := 144) X189 hx (hb hby d2_143) rfl rfl rfl ?_
    refine Run.z_getF (q := 147) X189 hx hZ e189 hown (wm27 hw) F_this_units (hb hby d2_144) rfl fun T190 X190 e190 => ?_
    refine Run.x_iloadN (q := 148) X190 hx (hb hby d2_147) rfl rfl ?_
    refine Run.x_aloadN (q := 149) X190 hx (hb hby d2_148) rfl rfl rfl ?_
    refine Run.z_getF (q := 152) X190 hx hZ e190 hown (wm27 hw) F_this_units (hb hby d2_149) rfl fun T191 X191 e191 => ?_
    refine Run.x_iload (q := 154) X191 hx (hb hby d2_152) rfl rfl ?_
    refine Run.y_ldC (q := 155) X191 hx hZ e191 A_b26 (i := 0) (v := (.int c0)) (by decide) rfl (hb hby d2_154) rfl ?_
    refine Run.y_stC (q := 156) X191 hx hZ e191 A_b26 (i := 2) (by decide) (Nat.le_of_ble_eq_true rfl) (z' := c0) (own_nr hr0) (hb hby d2_155) rfl fun T192 h192 X192 e192 W192 A192 => ?_
    replace A_b26 : Ars Z h192 b26 .char [(.int c0), (.int c1), (.int c0), (.int 0)] := A192
    have N192 := Fr.snoc X192 N184 g_b26
    have Z192 : n0 ≤ h192.size := Nat.le_trans Z182 (Nat.le_of_eq W192.size.symm)
    refine Run.x_aloadN (q := 157) X192 hx (hb hby d2_156) rfl rfl rfl ?_
    replace F_this_targets := F_this_targets.other W192 (Or.inl ne_this_b26)
    refine Run.z_getF (q := 160) X192 hx hZ e192 hown (wm29 hw) F_this_targets (hb hby d2_157) rfl fun T193 X193 e193 => ?_
    refine Run.x_iloadN (q := 161) X193 hx (hb hby d2_160) rfl rfl ?_
    refine Run.x_iinc (q := 164) X193 hx #[.val (.ref this), .val (.ref pat), .val (.int 3), .val (.int 1), .val (.int 4), .val (.int 0)] (hb hby d2_161) rfl (z := (3 : Int32)) (by decide) rfl rfl ?_
    refine Run.x_aloadN (q := 165) X193 hx (hb hby d2_164) rfl rfl rfl ?_
    refine Run.z_getF (q := 168) X193 hx hZ e193 hown (wm29 hw) F_this_targets (hb hby d2_165) rfl fun T194 X194 e194 => ?_
    refine Run.x_iload (q := 170) X194 hx (hb hby d2_168) rfl rfl ?_
    replace A_b29 := A_b29.other W192 (Ne.symm ne_b26_b29)
    refine Run.y_ldI (q := 171) X194 hx hZ e194 A_b29 (i := 0) (v := (.int 1)) (by decide) rfl (hb hby d2_170) rfl ?_
    refine Run.y_stI (q := 172) X194 hx hZ e194 A_b29 (i := 2) (by decide) (Nat.le_of_ble_eq_true rfl) (hb hby d2_171) rfl fun T195 h195 X195 e195 W195 A195 => ?_
    replace A_b29 : Ars Z h195 b29 .int [(.int 1), (.int 2), (.int 1), (.int 0)] := A195
    have N195 := Fr.snoc X195 N192 g_b29
    have Z195 : n0 ≤ h195.size := Nat.le_trans Z192 (Nat.le_of_eq W195.size.symm)
    refine Run.x_iinc (q := 175) X195 hx #[.val (.ref this), .val (.ref pat), .val (.int 3), .val (.int 1), .val (.int 4), .val (.int 1)] (hb hby d2_172) rfl (z := (1 : Int32)) (by decide) rfl rfl ?_
    refine Run.x_goto (q := 113) X195 hx (hb hby d2_175) (by decide) (by decide) ?_
    refine Run.x_iload (q := 115) X195 hx (hb hby d2_113) rfl rfl ?_
    refine Run.x_aloadN (q := 116) X195 hx (hb hby d2_115) rfl rfl rfl ?_
    replace F_this_rows := (F_this_rows.other W192 (Or.inl ne_this_b26)).other W195 (Or.inl ne_this_b29)
    refine Run.z_getF (q := 119) X195 hx hZ e195 hown (wm25 hw) F_this_rows (hb hby d2_116) rfl fun T196 X196 e196 => ?_
    refine Run.x_iloadN (q := 120) X196 hx (hb hby d2_119) rfl rfl ?_
    refine Run.x_iconst (q := 121) X196 hx (hb hby d2_120) (z := (1 : Int32)) rfl rfl ?_
    refine Run.x_iadd (q := 122) X196 hx (hb hby d2_121) (z := (2 : Int32)) (by decide) rfl ?_
    replace A_b23 := (A_b23.other W192 ne_b23_b26).other W195 ne_b23_b29
    refine Run.y_ldI (q := 123) X196 hx hZ e196 A_b23 (i := 2) (v := (.int 1)) (by decide) rfl (hb hby d2_122) rfl ?_
    refine Run.x_icmpYes (q := 178) X196 hx (hb hby d2_123) (flt (by decide : ¬ ((1 : Int32) < (1 : Int32)))).2.1 (by decide) (by decide) ?_
    refine Run.x_aloadN (q := 179) X196 hx (hb hby d2_178) rfl rfl rfl ?_
    replace F_this_forward := (F_this_forward.other W192 (Or.inl ne_this_b26)).other W195 (Or.inl ne_this_b29)
    refine Run.z_getF (q := 182) X196 hx hZ e196 hown (wm23 hw) F_this_forward (hb hby d2_179) rfl fun T197 X197 e197 => ?_
    refine Run.x_iloadN (q := 183) X197 hx (hb hby d2_182) rfl rfl ?_
    replace A_b4 := (A_b4.other W192 ne_b4_b26).other W195 ne_b4_b29
    refine Run.y_ldI (q := 184) X197 hx hZ e197 A_b4 (i := 1) (v := (.int c1)) (by decide) rfl (hb hby d2_183) rfl ?_
    refine Run.x_aloadN (q := 185) X197 hx (hb hby d2_184) rfl rfl rfl ?_
    refine Run.z_getF (q := 188) X197 hx hZ e197 hown (wm23 hw) F_this_forward (hb hby d2_185) rfl fun T198 X198 e198 => ?_
    refine Run.x_iload (q := 190) X198 hx (hb hby d2_188) rfl rfl ?_
    refine Run.y_ldI (q := 191) X198 hx hZ e198 A_b4 (i := 4) (v := (.int (-1))) (by decide) rfl (hb hby d2_190) rfl ?_
    refine Run.x_icmpNo (q := 194) X198 hx (hb hby d2_191) (feq (own_nm1 hr1.1)).1 rfl ?_
    refine Run.x_aloadN (q := 195) X198 hx (hb hby d2_194) rfl rfl rfl ?_
    replace F_this_units := (F_this_units.other W192 (Or.inl ne_this_b26)).other W195 (Or.inl ne_this_b29)
    refine Run.z_getF (q := 198) X198 hx hZ e198 hown (wm27 hw) F_this_units (hb hby d2_195) rfl fun T199 X199 e199 => ?_
    refine Run.x_iloadN (q := 199) X199 hx (hb hby d2_198) rfl rfl ?_
    refine Run.x_aloadN (q := 200) X199 hx (hb hby d2_199) rfl rfl rfl ?_
    refine Run.z_getF (q := 203) X199 hx hZ e199 hown (wm23 hw) F_this_forward (hb hby d2_200) rfl fun T200 X200 e200 => ?_
    refine Run.x_iloadN (q := 204) X200 hx (hb hby d2_203) rfl rfl ?_
    refine Run.y_ldI (q := 205) X200 hx hZ e200 A_b4 (i := 1) (v := (.int c1)) (by decide) rfl (hb hby d2_204) rfl ?_
    refine Run.x_i2c (q := 206) X200 hx (hb hby d2_205) (z := c1) (own_ic hr1) rfl ?_
    replace A_b26 := A_b26.other W195 ne_b26_b29
    refine Run.y_stC (q := 207) X200 hx hZ e200 A_b26 (i := 3) (by decide) (Nat.le_of_ble_eq_true rfl) (z' := c1) (own_nr hr1) (hb hby d2_206) rfl fun T201 h201 X201 e201 W201 A201 => ?_
    replace A_b26 : Ars Z h201 b26 .char [(.int c0), (.int c1), (.int c0), (.int c1)] := A201
    have N201 := Fr.snoc X201 N195 g_b26
    have Z201 : n0 ≤ h201.size := Nat.le_trans Z195 (Nat.le_of_eq W201.size.symm)
    refine Run.x_aloadN (q := 208) X201 hx (hb hby d2_207) rfl rfl rfl ?_
    replace F_this_targets := (F_this_targets.other W195 (Or.inl ne_this_b29)).other W201 (Or.inl ne_this_b26)
    refine Run.z_getF (q := 211) X201 hx hZ e201 hown (wm29 hw) F_this_targets (hb hby d2_208) rfl fun T202 X202 e202 => ?_
    refine Run.x_iloadN (q := 212) X202 hx (hb hby d2_211) rfl rfl ?_
    refine Run.x_iinc (q := 215) X202 hx #[.val (.ref this), .val (.ref pat), .val (.int 4), .val (.int 1), .val (.int 4), .val (.int 1)] (hb hby d2_212) rfl (z := (4 : Int32)) (by decide) rfl rfl ?_
    refine Run.x_iloadN (q := 216) X202 hx (hb hby d2_215) rfl rfl ?_
    refine Run.x_iconst (q := 217) X202 hx (hb hby d2_216) (z := (1 : Int32)) rfl rfl ?_
    refine Run.x_iadd (q := 218) X202 hx (hb hby d2_217) (z := (2 : Int32)) (by decide) rfl ?_
    replace A_b29 := A_b29.other W201 (Ne.symm ne_b26_b29)
    refine Run.y_stI (q := 219) X202 hx hZ e202 A_b29 (i := 3) (by decide) (Nat.le_of_ble_eq_true rfl) (hb hby d2_218) rfl fun T203 h203 X203 e203 W203 A203 => ?_
    replace A_b29 : Ars Z h203 b29 .int [(.int 1), (.int 2), (.int 1), (.int 2)] := A203
    have N203 := Fr.snoc X203 N201 g_b29
    have Z203 : n0 ≤ h203.size := Nat.le_trans Z201 (Nat.le_of_eq W203.size.symm)
    refine Run.x_aloadN (q := 220) X203 hx (hb hby d2_219) rfl rfl rfl ?_
    replace F_this_rows := (F_this_rows.other W201 (Or.inl ne_this_b26)).other W203 (Or.inl ne_this_b29)
    refine Run.z_getF (q := 223) X203 hx hZ e203 hown (wm25 hw) F_this_rows (hb hby d2_220) rfl fun T204 X204 e204 => ?_
    refine Run.x_iload (q := 225) X204 hx (hb hby d2_223) rfl rfl ?_
    refine Run.x_iconst (q := 226) X204 hx (hb hby d2_225) (z := (1 : Int32)) rfl rfl ?_
    refine Run.x_iadd (q := 227) X204 hx (hb hby d2_226) (z := (5 : Int32)) (by decide) rfl ?_
    refine Run.x_iloadN (q := 228) X204 hx (hb hby d2_227) rfl rfl ?_
    replace A_b23 := (A_b23.other W201 ne_b23_b26).other W203 ne_b23_b29
    refine Run.y_stI (q := 229) X204 hx hZ e204 A_b23 (i := 5) (by decide) (Nat.le_of_ble_eq_true rfl) (hb hby d2_228) rfl fun T205 h205 X205 e205 W205 A205 => ?_
    replace A_b23 : Ars Z h205 b23 .int [(.int 0), (.int 0), (.int 1), (.int 1), (.int 2), (.int 4)] := A205
    have N205 := Fr.snoc X205 N203 g_b23
    have Z205 : n0 ≤ h205.size := Nat.le_trans Z203 (Nat.le_of_eq W205.size.symm)
    refine Run.x_iload (q := 231) X205 hx (hb hby d2_229) rfl rfl ?_
    refine Run.x_aloadN (q := 232) X205 hx (hb hby d2_231) rfl rfl rfl ?_
    replace F_this_length := ((((F_this_length.other W192 (Or.inl ne_this_b26)).other W195 (Or.inl ne_this_b29)).other W201 (Or.inl ne_this_b26)).other W203 (Or.inl ne_this_b29)).other W205 (Or.inl ne_this_b23)
    refine Run.z_getF (q := 235) X205 hx hZ e205 hown (wm20 hw) F_this_length (hb hby d2_232) rfl fun T206 X206 e206 => ?_
    refine Run.x_icmpYes (q := 248) X206 hx (hb hby d2_235) (flt (by decide : ¬ ((4 : Int32) < (4 : Int32)))).2.1 (by decide) (by decide) ?_
    refine Run.x_iinc (q := 251) X206 hx #[.val (.ref this), .val (.ref pat), .val (.int 4), .val (.int 1), .val (.int 5), .val (.int 1)] (hb hby d2_248) rfl (z := (5 : Int32)) (by decide) rfl rfl ?_
    refine Run.x_goto (q := 96) X206 hx (hb hby d2_251) (by decide) (by decide) ?_
    refine Run.x_iload (q := 98) X206 hx (hb hby d2_96) rfl rfl ?_
    refine Run.x_aloadN (q := 99) X206 hx (hb hby d2_98) rfl rfl rfl ?_
    refine Run.z_getF (q := 102) X206 hx hZ e206 hown (wm20 hw) F_this_length (hb hby d2_99) rfl fun T207 X207 e207 => ?_
    refine Run.x_icmpYes (q := 254) X207 hx (hb hby d2_102) (tlt (by decide : (4 : Int32) < (5 : Int32))).2.2.1 (by decide) (by decide) ?_
    replace E_this := ((((E_this.wr W192).wr W195).wr W201).wr W203).wr W205
    replace F_this_forward := ((F_this_forward.other W201 (Or.inl ne_this_b26)).other W203 (Or.inl ne_this_b29)).other W205 (Or.inl ne_this_b23)
    replace F_this_rows := F_this_rows.other W205 (Or.inl ne_this_b23)
    replace F_this_units := ((F_this_units.other W201 (Or.inl ne_this_b26)).other W203 (Or.inl ne_this_b29)).other W205 (Or.inl ne_this_b23)
    replace F_this_targets := (F_this_targets.other W203 (Or.inl ne_this_b29)).other W205 (Or.inl ne_this_b23)
    replace A_pat := ((((A_pat.other W192 ne_pat_b26).other W195 ne_pat_b29).other W201 ne_pat_b26).other W203 ne_pat_b29).other W205 ne_pat_b23
    replace A_b4 := ((A_b4.other W201 ne_b4_b26).other W203 ne_b4_b29).other W205 ne_b4_b23
    replace A_b26 := (A_b26.other W203 ne_b26_b29).other W205 (Ne.symm ne_b23_b26)
    replace A_b29 := A_b29.other W205 (Ne.symm ne_b23_b29)
    refine Run.retV X207 hx hlk e207 hret (hb hby d2_254) (by decide) (by decide) ?_
    have R0 : own_rw 0 c0 [(0 : Int32), (0 : Int32), (1 : Int32), (1 : Int32), (2 : Int32), (4 : Int32)] [c0, c1, c0, c1] [(1 : Int32), (2 : Int32), (1 : Int32), (2 : Int32)] (fun u => (if c0 = u then (1 : Int32) else (0 : Int32))) := by
     refine ⟨0, 0, (0 : Int32), (0 : Int32), rfl, rfl, by decide, by decide, Nat.le_of_ble_eq_true rfl, Nat.le_of_ble_eq_true rfl, by decide, fun u hu => ?_⟩
     by_cases q_c0 : c0 = u
     ·subst q_c0
      exact Eq.trans (b := (1 : Int32)) (Eq.trans (own_next_p rfl) (by decide)) (Eq.symm (if_pos rfl))
     ·skip
      by_cases q_c1 : c1 = u
      ·subst q_c1
       exact Eq.trans (b := (0 : Int32)) (Eq.trans (own_next_n (fun h => hq_c0_c1 h.symm)) (rfl)) (Eq.symm (Eq.trans (if_neg (fun h => hq_c0_c1 h)) (rfl)))
      ·skip
       exact Eq.trans (b := (0 : Int32)) (Eq.trans (own_next_n (fun h => q_c0 h.symm)) (rfl)) (Eq.symm (Eq.trans (if_neg (fun h => q_c0 h)) (rfl)))
    have R1 : own_rw 1 c1 [(0 : Int32), (0 : Int32), (1 : Int32), (1 : Int32), (2 : Int32), (4 : Int32)] [c0, c1, c0, c1] [(1 : Int32), (2 : Int32), (1 : Int32), (2 : Int32)] (fun u => (if c0 = c0 ∧ c1 = u then (2 : Int32) else (if c0 = u then (1 : Int32) else (0 : Int32)))) := by
     refine ⟨0, 1, (0 : Int32), (1 : Int32), rfl, rfl, by decide, by decide, Nat.le_of_ble_eq_true rfl, Nat.le_of_ble_eq_true rfl, by decide, fun u hu => ?_⟩
     by_cases q_c0 : c0 = u
     ·subst q_c0
      exact Eq.trans (b := (1 : Int32)) (Eq.trans (own_next_n hq_c0_c1) (own_look_p rfl)) (Eq.symm (Eq.trans (if_neg (fun h => (fun h => hq_c0_c1 h.symm) h.2)) (if_pos rfl)))
     ·skip
      by_cases q_c1 : c1 = u
      ·subst q_c1
       exact Eq.trans (b := (2 : Int32)) (Eq.trans (own_next_p rfl) (by decide)) (Eq.symm (if_pos ⟨rfl, rfl⟩))
      ·skip
       exact Eq.trans (b := (0 : Int32)) (Eq.trans (own_next_n (fun h => q_c1 h.symm)) (Eq.trans (own_look_n q_c0) (rfl))) (Eq.symm (Eq.trans (if_neg (fun h => q_c1 h.2)) (Eq.trans (if_neg (fun h => q_c0 h)) (rfl))))
    have R2 : own_rw 2 c0 [(0 : Int32), (0 : Int32), (1 : Int32), (1 : Int32), (2 : Int32), (4 : Int32)] [c0, c1, c0, c1] [(1 : Int32), (2 : Int32), (1 : Int32), (2 : Int32)] (fun u => (if c0 = c0 ∧ c1 = c1 ∧ c0 = u then (3 : Int32) else (if c0 = c1 ∧ c1 = u then (2 : Int32) else (if c0 = u then (1 : Int32) else (0 : Int32))))) := by
     refine ⟨1, 0, (1 : Int32), (1 : Int32), rfl, rfl, by decide, by decide, Nat.le_of_ble_eq_true rfl, Nat.le_of_ble_eq_true rfl, by decide, fun u hu => ?_⟩
     by_cases q_c0 : c0 = u
     ·subst q_c0
      exact Eq.trans (b := (3 : Int32)) (Eq.trans (own_next_p rfl) (by decide)) (Eq.symm (if_pos ⟨rfl, rfl, rfl⟩))
     ·skip
      by_cases q_c1 : c1 = u
      ·subst q_c1
       exact Eq.trans (b := (0 : Int32)) (Eq.trans (own_next_n (fun h => hq_c0_c1 h.symm)) (rfl)) (Eq.symm (Eq.trans (if_neg (fun h => hq_c0_c1 h.2.2)) (Eq.trans (if_neg (fun h => hq_c0_c1 h.1)) (Eq.trans (if_neg (fun h => hq_c0_c1 h)) (rfl)))))
      ·skip
       exact Eq.trans (b := (0 : Int32)) (Eq.trans (own_next_n (fun h => q_c0 h.symm)) (rfl)) (Eq.symm (Eq.trans (if_neg (fun h => q_c0 h.2.2)) (Eq.trans (if_neg (fun h => hq_c0_c1 h.1)) (Eq.trans (if_neg (fun h => q_c0 h)) (rfl)))))
    have R3 : own_rw 3 c0 [(0 : Int32), (0 : Int32), (1 : Int32), (1 : Int32), (2 : Int32), (4 : Int32)] [c0, c1, c0, c1] [(1 : Int32), (2 : Int32), (1 : Int32), (2 : Int32)] (fun u => (if c0 = c0 ∧ c1 = c1 ∧ c0 = c0 ∧ c0 = u then (4 : Int32) else (if c0 = c1 ∧ c1 = c0 ∧ c0 = u then (3 : Int32) else (if c0 = c0 ∧ c1 = u then (2 : Int32) else (if c0 = u then (1 : Int32) else (0 : Int32)))))) := by
     refine ⟨1, 1, (1 : Int32), (2 : Int32), rfl, rfl, by decide, by decide, Nat.le_of_ble_eq_true rfl, Nat.le_of_ble_eq_true rfl, by decide, fun u hu => ?_⟩
     by_cases q_c0 : c0 = u
     ·subst q_c0
      exact Eq.trans (b := (4 : Int32)) (Eq.trans (own_next_p rfl) (by decide)) (Eq.symm (if_pos ⟨rfl, rfl, rfl, rfl⟩))
     ·skip
      by_cases q_c1 : c1 = u
      ·subst q_c1
       exact Eq.trans (b := (2 : Int32)) (Eq.trans (own_next_n (fun h => hq_c0_c1 h.symm)) (own_look_p rfl)) (Eq.symm (Eq.trans (if_neg (fun h => hq_c0_c1 h.2.2.2)) (Eq.trans (if_neg (fun h => hq_c0_c1 h.1)) (if_pos ⟨rfl, rfl⟩))))
      ·skip
       exact Eq.trans (b := (0 : Int32)) (Eq.trans (own_next_n (fun h => q_c0 h.symm)) (Eq.trans (own_look_n q_c1) (rfl))) (Eq.symm (Eq.trans (if_neg (fun h => q_c0 h.2.2.2)) (Eq.trans (if_neg (fun h => hq_c0_c1 h.1)) (Eq.trans (if_neg (fun h => q_c1 h.2)) (Eq.trans (if_neg (fun h => q_c0 h)) (rfl))))))
    have R4 : own_rw 4 (-1 : Int32) [(0 : Int32), (0 : Int32), (1 : Int32), (1 : Int32), (2 : Int32), (4 : Int32)] [c0, c1, c0, c1] [(1 : Int32), (2 : Int32), (1 : Int32), (2 : Int32)] (fun u => (if c0 = c1 ∧ c1 = c0 ∧ c0 = c0 ∧ c0 = u then (4 : Int32) else (if c0 = c0 ∧ c1 = c0 ∧ c0 = u then (3 : Int32) else (if c0 = c0 ∧ c1 = u then (2 : Int32) else (if c0 = u then (1 : Int32) else (0 : Int32)))))) := by
     refine ⟨2, 2, (2 : Int32), (4 : Int32), rfl, rfl, by decide, by decide, Nat.le_of_ble_eq_true rfl, Nat.le_of_ble_eq_true rfl, by decide, fun u hu => ?_⟩
     by_cases q_c0 : c0 = u
     ·subst q_c0
      exact Eq.trans (b := (1 : Int32)) (Eq.trans (own_next_n (own_nm1 hr0.1)) (own_look_p rfl)) (Eq.symm (Eq.trans (if_neg (fun h => hq_c0_c1 h.1)) (Eq.trans (if_neg (fun h => (fun h => hq_c0_c1 h.symm) h.2.1)) (Eq.trans (if_neg (fun h => (fun h => hq_c0_c1 h.symm) h.2)) (if_pos rfl)))))
     ·skip
      by_cases q_c1 : c1 = u
      ·subst q_c1
       exact Eq.trans (b := (2 : Int32)) (Eq.trans (own_next_n (own_nm1 hr1.1)) (Eq.trans (own_look_n hq_c0_c1) (own_look_p rfl))) (Eq.symm (Eq.trans (if_neg (fun h => hq_c0_c1 h.1)) (Eq.trans (if_neg (fun h => (fun h => hq_c0_c1 h.symm) h.2.1)) (if_pos ⟨rfl, rfl⟩))))
      ·skip
       exact Eq.trans (b := (0 : Int32)) (Eq.trans (own_next_n (own_nm1 hu)) (Eq.trans (own_look_n q_c0) (Eq.trans (own_look_n q_c1) (rfl)))) (Eq.symm (Eq.trans (if_neg (fun h => hq_c0_c1 h.1)) (Eq.trans (if_neg (fun h => (fun h => hq_c0_c1 h.symm) h.2.1)) (Eq.trans (if_neg (fun h => q_c1 h.2)) (Eq.trans (if_neg (fun h => q_c0 h)) (rfl))))))
    exact ⟨b4, b23, b26, b29, [(0 : Int32), (0 : Int32), (1 : Int32), (1 : Int32), (2 : Int32), (4 : Int32)], [c0, c1, c0, c1], [(1 : Int32), (2 : Int32), (1 : Int32), (2 : Int32)], rfl, N205, E_this, F_this_forward, F_this_rows, F_this_units, F_this_targets, A_b4, A_b23, A_b26, A_b29, R0, R1, R2, R3, R4⟩
   ·skip
    refine Run.x_icmpNo (q := 143) X172 hx (hb hby d2_140) (feq hq_c0_c3).1 rfl ?_
    refine Run.x_aloadN (q := 144) X172 hx (hb hby d2_143) rfl rfl rfl ?_
    refine Run.z_getF (q := 147) X172 hx hZ e172 hown (wm27 hw) F_this_units (hb hby d2_144) rfl fun T208 X208 e208 => ?_
    refine Run.x_iloadN (q := 148) X208 hx (hb hby d2_147) rfl rfl ?_
    refine Run.x_aloadN (q := 149) X208 hx (hb hby d2_148) rfl rfl rfl ?_
    refine Run.z_getF (q := 152) X208 hx hZ e208 hown (wm27 hw) F_this_units (hb hby d2_149) rfl fun T209 X209 e209 => ?_
    refine Run.x_iload (q := 154) X209 hx (hb hby d2_152) rfl rfl ?_
    refine Run.y_ldC (q := 155) X209 hx hZ e209 A_b26 (i := 0) (v := (.int c0)) (by decide) rfl (hb hby d2_154) rfl ?_
    refine Run.y_stC (q := 156) X209 hx hZ e209 A_b26 (i := 1) (by decide) (Nat.le_of_ble_eq_true rfl) (z' := c0) (own_nr hr0) (hb hby d2_155) rfl fun T210 h210 X210 e210 W210 A210 => ?_
    replace A_b26 : Ars Z h210 b26 .char [(.int c0), (.int c0), (.int 0), (.int 0)] := A210
    have N210 := Fr.snoc X210 N167 g_b26
    have Z210 : n0 ≤ h210.size := Nat.le_trans Z165 (Nat.le_of_eq W210.size.symm)
    refine Run.x_aloadN (q := 157) X210 hx (hb hby d2_156) rfl rfl rfl ?_
    replace F_this_targets := F_this_targets.other W210 (Or.inl ne_this_b26)
    refine Run.z_getF (q := 160) X210 hx hZ e210 hown (wm29 hw) F_this_targets (hb hby d2_157) rfl fun T211 X211 e211 => ?_
    refine Run.x_iloadN (q := 161) X211 hx (hb hby d2_160) rfl rfl ?_
    refine Run.x_iinc (q := 164) X211 hx #[.val (.ref this), .val (.ref pat), .val (.int 2), .val (.int 1), .val (.int 3), .val (.int 0)] (hb hby d2_161) rfl (z := (2 : Int32)) (by decide) rfl rfl ?_
    refine Run.x_aloadN (q := 165) X211 hx (hb hby d2_164) rfl rfl rfl ?_
    refine Run.z_getF (q := 168) X211 hx hZ e211 hown (wm29 hw) F_this_targets (hb hby d2_165) rfl fun T212 X212 e212 => ?_
    refine Run.x_iload (q := 170) X212 hx (hb hby d2_168) rfl rfl ?_
    replace A_b29 := A_b29.other W210 (Ne.symm ne_b26_b29)
    refine Run.y_ldI (q := 171) X212 hx hZ e212 A_b29 (i := 0) (v := (.int 1)) (by decide) rfl (hb hby d2_170) rfl ?_
    refine Run.y_stI (q := 172) X212 hx hZ e212 A_b29 (i := 1) (by decide) (Nat.le_of_ble_eq_true rfl) (hb hby d2_171) rfl fun T213 h213 X213 e213 W213 A213 => ?_
    replace A_b29 : Ars Z h213 b29 .int [(.int 1), (.int 1), (.int 0), (.int 0)] := A213
    have N213 := Fr.snoc X213 N210 g_b29
    have Z213 : n0 ≤ h213.size := Nat.le_trans Z210 (Nat.le_of_eq W213.size.symm)
    refine Run.x_iinc (q := 175) X213 hx #[.val (.ref this), .val (.ref pat), .val (.int 2), .val (.int 1), .val (.int 3), .val (.int 1)] (hb hby d2_172) rfl (z := (1 : Int32)) (by decide) rfl rfl ?_
    refine Run.x_goto (q := 113) X213 hx (hb hby d2_175) (by decide) (by decide) ?_
    refine Run.x_iload (q := 115) X213 hx (hb hby d2_113) rfl rfl ?_
    refine Run.x_aloadN (q := 116) X213 hx (hb hby d2_115) rfl rfl rfl ?_
    replace F_this_rows := (F_this_rows.other W210 (Or.inl ne_this_b26)).other W213 (Or.inl ne_this_b29)
    refine Run.z_getF (q := 119) X213 hx hZ e213 hown (wm25 hw) F_this_rows (hb hby d2_116) rfl fun T214 X214 e214 => ?_
    refine Run.x_iloadN (q := 120) X214 hx (hb hby d2_119) rfl rfl ?_
    refine Run.x_iconst (q := 121) X214 hx (hb hby d2_120) (z := (1 : Int32)) rfl rfl ?_
    refine Run.x_iadd (q := 122) X214 hx (hb hby d2_121) (z := (2 : Int32)) (by decide) rfl ?_
    replace A_b23 := (A_b23.other W210 ne_b23_b26).other W213 ne_b23_b29
    refine Run.y_ldI (q := 123) X214 hx hZ e214 A_b23 (i := 2) (v := (.int 1)) (by decide) rfl (hb hby d2_122) rfl ?_
    refine Run.x_icmpYes (q := 178) X214 hx (hb hby d2_123) (flt (by decide : ¬ ((1 : Int32) < (1 : Int32)))).2.1 (by decide) (by decide) ?_
    refine Run.x_aloadN (q := 179) X214 hx (hb hby d2_178) rfl rfl rfl ?_
    replace F_this_forward := (F_this_forward.other W210 (Or.inl ne_this_b26)).other W213 (Or.inl ne_this_b29)
    refine Run.z_getF (q := 182) X214 hx hZ e214 hown (wm23 hw) F_this_forward (hb hby d2_179) rfl fun T215 X215 e215 => ?_
    refine Run.x_iloadN (q := 183) X215 hx (hb hby d2_182) rfl rfl ?_
    replace A_b4 := (A_b4.other W210 ne_b4_b26).other W213 ne_b4_b29
    refine Run.y_ldI (q := 184) X215 hx hZ e215 A_b4 (i := 1) (v := (.int c1)) (by decide) rfl (hb hby d2_183) rfl ?_
    refine Run.x_aloadN (q := 185) X215 hx (hb hby d2_184) rfl rfl rfl ?_
    refine Run.z_getF (q := 188) X215 hx hZ e215 hown (wm23 hw) F_this_forward (hb hby d2_185) rfl fun T216 X216 e216 => ?_
    refine Run.x_iload (q := 190) X216 hx (hb hby d2_188) rfl rfl ?_
    refine Run.y_ldI (q := 191) X216 hx hZ e216 A_b4 (i := 3) (v := (.int c3)) (by decide) rfl (hb hby d2_190) rfl ?_
    by_cases hq_c1_c3 : c1 = c3
    ·subst hq_c1_c3
     refine Run.x_icmpYes (q := 219) X216 hx (hb hby d2_191) (teq rfl).1 (by decide) (by decide) ?_
     refine Run.x_aloadN (q := 220) X216 hx (hb hby d2_219) rfl rfl rfl ?_
     refine Run.z_getF (q := 223) X216 hx hZ e216 hown (wm25 hw) F_this_rows (hb hby d2_220) rfl fun T217 X217 e217 => ?_
     refine Run.x_iload (q := 225) X217 hx (hb hby d2_223) rfl rfl ?_
     refine Run.x_iconst (q := 226) X217 hx (hb hby d2_225) (z := (1 : Int32)) rfl rfl ?_
     refine Run.x_iadd (q := 227) X217 hx (hb hby d2_226) (z := (4 : Int32)) (by decide) rfl ?_
     refine Run.x_iloadN (q := 228) X217 hx (hb hby d2_227) rfl rfl ?_
     refine Run.y_stI (q := 229) X217 hx hZ e217 A_b23 (i := 4) (by decide) (Nat.le_of_ble_eq_true rfl) (hb hby d2_228) rfl fun T218 h218 X218 e218 W218 A218 => ?_
     replace A_b23 : Ars Z h218 b23 .int [(.int 0), (.int 0), (.int 1), (.int 1), (.int 2), (.int 0)] := A218
     have N218 := Fr.snoc X218 N213 g_b23
     have Z218 : n0 ≤ h218.size := Nat.le_trans Z213 (Nat.le_of_eq W218.size.symm)
     refine Run.x_iload (q := 231) X218 hx (hb hby d2_229) rfl rfl ?_
     refine Run.x_aloadN (q := 232) X218 hx (hb hby d2_231) rfl rfl rfl ?_
     replace F_this_length := ((F_this_length.other W210 (Or.inl ne_this_b26)).other W213 (Or.inl ne_this_b29)).other W218 (Or.inl ne_this_b23)
     refine Run.z_getF (q := 235) X218 hx hZ e218 hown (wm20 hw) F_this_length (hb hby d2_232) rfl fun T219 X219 e219 => ?_
     refine Run.x_icmpNo (q := 238) X219 hx (hb hby d2_235) (tlt (by decide : (3 : Int32) < (4 : Int32))).2.1 rfl ?_
     refine Run.x_aloadN (q := 239) X219 hx (hb hby d2_238) rfl rfl rfl ?_
     refine Run.x_iloadN (q := 240) X219 hx (hb hby d2_239) rfl rfl ?_
     refine Run.x_aloadN (q := 241) X219 hx (hb hby d2_240) rfl rfl rfl ?_
     refine Run.x_iload (q := 243) X219 hx (hb hby d2_241) rfl rfl ?_
     replace A_pat := ((A_pat.other W210 ne_pat_b26).other W213 ne_pat_b29).other W218 ne_pat_b23
     refine Run.y_ldC (q := 244) X219 hx hZ e219 A_pat (i := 3) (v := (.int c1)) (by decide) rfl (hb hby d2_243) rfl ?_
     replace E_this := ((E_this.wr W210).wr W213).wr W218
     replace F_this_forward := F_this_forward.other W218 (Or.inl ne_this_b23)
     replace F_this_rows := F_this_rows.other W218 (Or.inl ne_this_b23)
     replace F_this_units := ((F_this_units.other W210 (Or.inl ne_this_b26)).other W213 (Or.inl ne_this_b29)).other W218 (Or.inl ne_this_b23)
     replace F_this_targets := (F_this_targets.other W213 (Or.inl ne_this_b29)).other W218 (Or.inl ne_this_b23)
     replace A_b4 := A_b4.other W218 ne_b4_b23
     replace A_b26 := (A_b26.other W213 ne_b26_b29).other W218 (Ne.symm ne_b23_b26)
     replace A_b29 := A_b29.other W218 (Ne.symm ne_b23_b29)
     refine Run.callVI (q := 247) X219 hx hZ e219 (y := (⟨"needlewise/kmp/SparseAutomaton", "next", "(IC)I"⟩ : MethodName)) (z := (⟨"needlewise/kmp/SparseAutomaton", "next", "(IC)I"⟩ : MethodName)) hown (wm39 hw) (wm32 hw) (notFace_of_selects (args := #[]) (mvT hZ (wm34 hw))) (wm34 hw) (wm33 hw) (wm9 hw) (wm35 hw) (by decide) (a := this) E_this (argsL := [(.int 1), (.int c1)]) (rest := []) (c_next l Z a0 hw this (1 : Int32) c1 h218 n0 Z218 b4 b23 b26 b29 [(.int c0), (.int c1), (.int c0), (.int c1), (.int (-1))] [(.int 0), (.int 0), (.int 1), (.int 1), (.int 2), (.int 0)] [c0, c0, (0 : Int32), (0 : Int32)] [(1 : Int32), (1 : Int32), (0 : Int32), (0 : Int32)] 1 0 1 c1 (0 : Int32) (1 : Int32) (2 : Int32) E_this F_this_forward F_this_rows F_this_units F_this_targets A_b4 A_b23 A_b26 A_b29 (by decide) (by decide) rfl rfl rfl (by decide) (by decide) (Nat.le_of_ble_eq_true rfl) (Nat.le_of_ble_eq_true rfl) (by decide) (Eq.trans (own_next_p rfl) (by decide))) pd_0 rfl (by rw [hml]; rfl) (W := 0) rfl (by decide) (by decide) (by decide) (by decide) (hb hby d2_244) rfl rfl fun T220 L220 X220 M220 e220 => ?_
     have N220 := Fr.app N218 M220
     refine Run.x_istoreN (q := 248) X220 hx #[.val (.ref this), .val (.ref pat), .val (.int 2), .val (.int 2), .val (.int 3), .val (.int 1)] (hb hby d2_247) rfl rfl ?_
     refine Run.x_iinc (q := 251) X220 hx #[.val (.ref this), .val (.ref pat), .val (.int 2), .val (.int 2), .val (.int 4), .val (.int 1)] (hb hby d2_248) rfl (z := (4 : Int32)) (by decide) rfl rfl ?_
     refine Run.x_goto (q := 96) X220 hx (hb hby d2_251) (by decide) (by decide) ?_
     refine Run.x_iload (q := 98) X220 hx (hb hby d2_96) rfl rfl ?_
     refine Run.x_aloadN (q := 99) X220 hx (hb hby d2_98) rfl rfl rfl ?_
     refine Run.z_getF (q := 102) X220 hx hZ e220 hown (wm20 hw) F_this_length (hb hby d2_99) rfl fun T221 X221 e221 => ?_
     refine Run.x_icmpNo (q := 105) X221 hx (hb hby d2_102) (flt (by decide : ¬ ((4 : Int32) < (4 : Int32)))).2.2.1 rfl ?_
     refine Run.x_aloadN (q := 106) X221 hx (hb hby d2_105) rfl rfl rfl ?_
     refine Run.z_getF (q := 109) X221 hx hZ e221 hown (wm25 hw) F_this_rows (hb hby d2_106) rfl fun T222 X222 e222 => ?_
     refine Run.x_iloadN (q := 110) X222 hx (hb hby d2_109) rfl rfl ?_
     refine Run.y_ldI (q := 111) X222 hx hZ e222 A_b23 (i := 2) (v := (.int 1)) (by decide) rfl (hb hby d2_110) rfl ?_
     refine Run.x_istore (q := 113) X222 hx #[.val (.ref this), .val (.ref pat), .val (.int 2), .val (.int 2), .val (.int 4), .val (.int 1)] (hb hby d2_111) rfl rfl ?_
     refine Run.x_iload (q := 115) X222 hx (hb hby d2_113) rfl rfl ?_
     refine Run.x_aloadN (q := 116) X222 hx (hb hby d2_115) rfl rfl rfl ?_
     refine Run.z_getF (q := 119) X222 hx hZ e222 hown (wm25 hw) F_this_rows (hb hby d2_116) rfl fun T223 X223 e223 => ?_
     refine Run.x_iloadN (q := 120) X223 hx (hb hby d2_119) rfl rfl ?_
     refine Run.x_iconst (q := 121) X223 hx (hb hby d2_120) (z := (1 : Int32)) rfl rfl ?_
     refine Run.x_iadd (q := 122) X223 hx (hb hby d2_121) (z := (3 : Int32)) (by decide) rfl ?_
     refine Run.y_ldI (q := 123) X223 hx hZ e223 A_b23 (i := 3) (v := (.int 1)) (by decide) rfl (hb hby d2_122) rfl ?_
     refine Run.x_icmpYes (q := 178) X223 hx (hb hby d2_123) (flt (by decide : ¬ ((1 : Int32) < (1 : Int32)))).2.1 (by decide) (by decide) ?_
     refine Run.x_aloadN (q := 179) X223 hx (hb hby d2_178) rfl rfl rfl ?_
     refine Run.z_getF (q := 182) X223 hx hZ e223 hown (wm23 hw) F_this_forward (hb hby d2_179) rfl fun T224 X224 e224 => ?_
     refine Run.x_iloadN (q := 183) X224 hx (hb hby d2_182) rfl rfl ?_
     refine Run.y_ldI (q := 184) X224 hx hZ e224 A_b4 (i := 2) (v := (.int c0)) (by decide) rfl (hb hby d2_183) rfl ?_
     refine Run.x_aloadN (q := 185) X224 hx (hb hby d2_184) rfl rfl rfl ?_
     refine Run.z_getF (q := 188) X224 hx hZ e224 hown (wm23 hw) F_this_forward (hb hby d2_185) rfl fun T225 X225 e225 => ?_
     refine Run.x_iload (q := 190) X225 hx (hb hby d2_188) rfl rfl ?_
     refine Run.y_ldI (q := 191) X225 hx hZ e225 A_b4 (i := 4) (v := (.int (-1))) (by decide) rfl (hb hby d2_190) rfl ?_
     refine Run.x_icmpNo (q := 194) X225 hx (hb hby d2_191) (feq (own_nm1 hr0.1)).1 rfl ?_
     refine Run.x_aloadN (q := 195) X225 hx (hb hby d2_194) rfl rfl rfl ?_
     refine Run.z_getF (q := 198) X225 hx hZ e225 hown (wm27 hw) F_this_units (hb hby d2_195) rfl fun T226 X226 e226 => ?_
     refine Run.x_iloadN (q := 199) X226 hx (hb hby d2_198) rfl rfl ?_
     refine Run.x_aloadN (q := 200) X226 hx (hb hby d2_199) rfl rfl rfl ?_
     refine Run.z_getF (q := 203) X226 hx hZ e226 hown (wm23 hw) F_this_forward (hb hby d2_200) rfl fun T227 X227 e227 => ?_
     refine Run.x_iloadN (q := 204) X227 hx (hb hby d2_203) rfl rfl ?_
     refine Run.y_ldI (q := 205) X227 hx hZ e227 A_b4 (i := 2) (v := (.int c0)) (by decide) rfl (hb hby d2_204) rfl ?_
     refine Run.x_i2c (q := 206) X227 hx (hb hby d2_205) (z := c0) (own_ic hr0) rfl ?_
     refine Run.y_stC (q := 207) X227 hx hZ e227 A_b26 (i := 2) (by decide) (Nat.le_of_ble_eq_true rfl) (z' := c0) (own_nr hr0) (hb hby d2_206) rfl fun T228 h228 X228 e228 W228 A228 => ?_
     replace A_b26 : Ars Z h228 b26 .char [(.int c0), (.int c0), (.int c0), (.int 0)] := A228
     have N228 := Fr.snoc X228 N220 g_b26
     have Z228 : n0 ≤ h228.size := Nat.le_trans Z218 (Nat.le_of_eq W228.size.symm)
     refine Run.x_aloadN (q := 208) X228 hx (hb hby d2_207) rfl rfl rfl ?_
     replace F_this_targets := F_this_targets.other W228 (Or.inl ne_this_b26)
     refine Run.z_getF (q := 211) X228 hx hZ e228 hown (wm29 hw) F_this_targets (hb hby d2_208) rfl fun T229 X229 e229 => ?_
     refine Run.x_iloadN (q := 212) X229 hx (hb hby d2_211) rfl rfl ?_
     refine Run.x_iinc (q := 215) X229 hx #[.val (.ref this), .val (.ref pat), .val (.int 3), .val (.int 2), .val (.int 4), .val (.int 1)] (hb hby d2_212) rfl (z := (3 : Int32)) (by decide) rfl rfl ?_
     refine Run.x_iloadN (q := 216) X229 hx (hb hby d2_215) rfl rfl ?_
     refine Run.x_iconst (q := 217) X229 hx (hb hby d2_216) (z := (1 : Int32)) rfl rfl ?_
     refine Run.x_iadd (q := 218) X229 hx (hb hby d2_217) (z := (3 : Int32)) (by decide) rfl ?_
     replace A_b29 := A_b29.other W228 (Ne.symm ne_b26_b29)
     refine Run.y_stI (q := 219) X229 hx hZ e229 A_b29 (i := 2) (by decide) (Nat.le_of_ble_eq_true rfl) (hb hby d2_218) rfl fun T230 h230 X230 e230 W230 A230 => ?_
     replace A_b29 : Ars Z h230 b29 .int [(.int 1), (.int 1), (.int 3), (.int 0)] := A230
     have N230 := Fr.snoc X230 N228 g_b29
     have Z230 : n0 ≤ h230.size := Nat.le_trans Z228 (Nat.le_of_eq W230.size.symm)
     refine Run.x_aloadN (q := 220) X230 hx (hb hby d2_219) rfl rfl rfl ?_
     replace F_this_rows := (F_this_rows.other W228 (Or.inl ne_this_b26)).other W230 (Or.inl ne_this_b29)
     refine Run.z_getF (q := 223) X230 hx hZ e230 hown (wm25 hw) F_this_rows (hb hby d2_220) rfl fun T231 X231 e231 => ?_
     refine Run.x_iload (q := 225) X231 hx (hb hby d2_223) rfl rfl ?_
     refine Run.x_iconst (q := 226) X231 hx (hb hby d2_225) (z := (1 : Int32)) rfl rfl ?_
     refine Run.x_iadd (q := 227) X231 hx (hb hby d2_226) (z := (5 : Int32)) (by decide) rfl ?_
     refine Run.x_iloadN (q := 228) X231 hx (hb hby d2_227) rfl rfl ?_
     replace A_b23 := (A_b23.other W228 ne_b23_b26).other W230 ne_b23_b29
     refine Run.y_stI (q := 229) X231 hx hZ e231 A_b23 (i := 5) (by decide) (Nat.le_of_ble_eq_true rfl) (hb hby d2_228) rfl fun T232 h232 X232 e232 W232 A232 => ?_
     replace A_b23 : Ars Z h232 b23 .int [(.int 0), (.int 0), (.int 1), (.int 1), (.int 2), (.int 3)] := A232
     have N232 := Fr.snoc X232 N230 g_b23
     have Z232 : n0 ≤ h232.size := Nat.le_trans Z230 (Nat.le_of_eq W232.size.symm)
     refine Run.x_iload (q := 231) X232 hx (hb hby d2_229) rfl rfl ?_
     refine Run.x_aloadN (q := 232) X232 hx (hb hby d2_231) rfl rfl rfl ?_
     replace F_this_length := ((F_this_length.other W228 (Or.inl ne_this_b26)).other W230 (Or.inl ne_this_b29)).other W232 (Or.inl ne_this_b23)
     refine Run.z_getF (q := 235) X232 hx hZ e232 hown (wm20 hw) F_this_length (hb hby d2_232) rfl fun T233 X233 e233 => ?_
     refine Run.x_icmpYes (q := 248) X233 hx (hb hby d2_235) (flt (by decide : ¬ ((4 : Int32) < (4 : Int32)))).2.1 (by decide) (by decide) ?_
     refine Run.x_iinc (q := 251) X233 hx #[.val (.ref this), .val (.ref pat), .val (.int 3), .val (.int 2), .val (.int 5), .val (.int 1)] (hb hby d2_248) rfl (z := (5 : Int32)) (by decide) rfl rfl ?_
     refine Run.x_goto (q := 96) X233 hx (hb hby d2_251) (by decide) (by decide) ?_
     refine Run.x_iload (q := 98) X233 hx (hb hby d2_96) rfl rfl ?_
     refine Run.x_aloadN (q := 99) X233 hx (hb hby d2_98) rfl rfl rfl ?_
     refine Run.z_getF (q := 102) X233 hx hZ e233 hown (wm20 hw) F_this_length (hb hby d2_99) rfl fun T234 X234 e234 => ?_
     refine Run.x_icmpYes (q := 254) X234 hx (hb hby d2_102) (tlt (by decide : (4 : Int32) < (5 : Int32))).2.2.1 (by decide) (by decide) ?_
     replace E_this := ((E_this.wr W228).wr W230).wr W232
     replace F_this_forward := ((F_this_forward.other W228 (Or.inl ne_this_b26)).other W230 (Or.inl ne_this_b29)).other W232 (Or.inl ne_this_b23)
     replace F_this_rows := F_this_rows.other W232 (Or.inl ne_this_b23)
     replace F_this_units := ((F_this_units.other W228 (Or.inl ne_this_b26)).other W230 (Or.inl ne_this_b29)).other W232 (Or.inl ne_this_b23)
     replace F_this_targets := (F_this_targets.other W230 (Or.inl ne_this_b29)).other W232 (Or.inl ne_this_b23)
     replace A_pat := ((A_pat.other W228 ne_pat_b26).other W230 ne_pat_b29).other W232 ne_pat_b23
     replace A_b4 := ((A_b4.other W228 ne_b4_b26).other W230 ne_b4_b29).other W232 ne_b4_b23
     replace A_b26 := (A_b26.other W230 ne_b26_b29).other W232 (Ne.symm ne_b23_b26)
     replace A_b29 := A_b29.other W232 (Ne.symm ne_b23_b29)
     refine Run.retV X234 hx hlk e234 hret (hb hby d2_254) (by decide) (by decide) ?_
     have R0 : own_rw 0 c0 [(0 : Int32), (0 : Int32), (1 : Int32), (1 : Int32), (2 : Int32), (3 : Int32)] [c0, c0, c0, (0 : Int32)] [(1 : Int32), (1 : Int32), (3 : Int32), (0 : Int32)] (fun u => (if c0 = u then (1 : Int32) else (0 : Int32))) := by
      refine ⟨0, 0, (0 : Int32), (0 : Int32), rfl, rfl, by decide, by decide, Nat.le_of_ble_eq_true rfl, Nat.le_of_ble_eq_true rfl, by decide, fun u hu => ?_⟩
      by_cases q_c0 : c0 = u
      ·subst q_c0
       exact Eq.trans (b := (1 : Int32)) (Eq.trans (own_next_p rfl) (by decide)) (Eq.symm (if_pos rfl))
      ·skip
       by_cases q_c1 : c1 = u
       ·subst q_c1
        exact Eq.trans (b := (0 : Int32)) (Eq.trans (own_next_n (fun h => hq_c0_c1 h.symm)) (rfl)) (Eq.symm (Eq.trans (if_neg (fun h => hq_c0_c1 h)) (rfl)))
       ·skip
        exact Eq.trans (b := (0 : Int32)) (Eq.trans (own_next_n (fun h => q_c0 h.symm)) (rfl)) (Eq.symm (Eq.trans (if_neg (fun h => q_c0 h)) (rfl)))
     have R1 : own_rw 1 c1 [(0 : Int32), (0 : Int32), (1 : Int32), (1 : Int32), (2 : Int32), (3 : Int32)] [c0, c0, c0, (0 : Int32)] [(1 : Int32), (1 : Int32), (3 : Int32), (0 : Int32)] (fun u => (if c0 = c0 ∧ c1 = u then (2 : Int32) else (if c0 = u then (1 : Int32) else (0 : Int32)))) := by
      refine ⟨0, 1, (0 : Int32), (1 : Int32), rfl, rfl, by decide, by decide, Nat.le_of_ble_eq_true rfl, Nat.le_of_ble_eq_true rfl, by decide, fun u hu => ?_⟩
      by_cases q_c0 : c0 = u
      ·subst q_c0
       exact Eq.trans (b := (1 : Int32)) (Eq.trans (own_next_n hq_c0_c1) (own_look_p rfl)) (Eq.symm (Eq.trans (if_neg (fun h => (fun h => hq_c0_c1 h.symm) h.2)) (if_pos rfl)))
      ·skip
       by_cases q_c1 : c1 = u
       ·subst q_c1
        exact Eq.trans (b := (2 : Int32)) (Eq.trans (own_next_p rfl) (by decide)) (Eq.symm (if_pos ⟨rfl, rfl⟩))
       ·skip
        exact Eq.trans (b := (0 : Int32)) (Eq.trans (own_next_n (fun h => q_c1 h.symm)) (Eq.trans (own_look_n q_c0) (rfl))) (Eq.symm (Eq.trans (if_neg (fun h => q_c1 h.2)) (Eq.trans (if_neg (fun h => q_c0 h)) (rfl))))
     have R2 : own_rw 2 c0 [(0 : Int32), (0 : Int32), (1 : Int32), (1 : Int32), (2 : Int32), (3 : Int32)] [c0, c0, c0, (0 : Int32)] [(1 : Int32), (1 : Int32), (3 : Int32), (0 : Int32)] (fun u => (if c0 = c0 ∧ c1 = c1 ∧ c0 = u then (3 : Int32) else (if c0 = c1 ∧ c1 = u then (2 : Int32) else (if c0 = u then (1 : Int32) else (0 : Int32))))) := by
      refine ⟨1, 0, (1 : Int32), (1 : Int32), rfl, rfl, by decide, by decide, Nat.le_of_ble_eq_true rfl, Nat.le_of_ble_eq_true rfl, by decide, fun u hu => ?_⟩
      by_cases q_c0 : c0 = u
      ·subst q_c0
       exact Eq.trans (b := (3 : Int32)) (Eq.trans (own_next_p rfl) (by decide)) (Eq.symm (if_pos ⟨rfl, rfl, rfl⟩))
      ·skip
       by_cases q_c1 : c1 = u
       ·subst q_c1
        exact Eq.trans (b := (0 : Int32)) (Eq.trans (own_next_n (fun h => hq_c0_c1 h.symm)) (rfl)) (Eq.symm (Eq.trans (if_neg (fun h => hq_c0_c1 h.2.2)) (Eq.trans (if_neg (fun h => hq_c0_c1 h.1)) (Eq.trans (if_neg (fun h => hq_c0_c1 h)) (rfl)))))
       ·skip
        exact Eq.trans (b := (0 : Int32)) (Eq.trans (own_next_n (fun h => q_c0 h.symm)) (rfl)) (Eq.symm (Eq.trans (if_neg (fun h => q_c0 h.2.2)) (Eq.trans (if_neg (fun h => hq_c0_c1 h.1)) (Eq.trans (if_neg (fun h => q_c0 h)) (rfl)))))
     have R3 : own_rw 3 c1 [(0 : Int32), (0 : Int32), (1 : Int32), (1 : Int32), (2 : Int32), (3 : Int32)] [c0, c0, c0, (0 : Int32)] [(1 : Int32), (1 : Int32), (3 : Int32), (0 : Int32)] (fun u => (if c0 = c0 ∧ c1 = c1 ∧ c0 = c0 ∧ c1 = u then (4 : Int32) else (if c0 = c1 ∧ c1 = c0 ∧ c0 = u then (3 : Int32) else (if c0 = c0 ∧ c1 = u then (2 : Int32) else (if c0 = u then (1 : Int32) else (0 : Int32)))))) := by
      refine ⟨1, 1, (1 : Int32), (2 : Int32), rfl, rfl, by decide, by decide, Nat.le_of_ble_eq_true rfl, Nat.le_of_ble_eq_true rfl, by decide, fun u hu => ?_⟩
      by_cases q_c0 : c0 = u
      ·subst q_c0
       exact Eq.trans (b := (1 : Int32)) (Eq.trans (own_next_n hq_c0_c1) (own_look_p rfl)) (Eq.symm (Eq.trans (if_neg (fun h => (fun h => hq_c0_c1 h.symm) h.2.2.2)) (Eq.trans (if_neg (fun h => hq_c0_c1 h.1)) (Eq.trans (if_neg (fun h => (fun h => hq_c0_c1 h.symm) h.2)) (if_pos rfl)))))
      ·skip
       by_cases q_c1 : c1 = u
       ·subst q_c1
        exact Eq.trans (b := (4 : Int32)) (Eq.trans (own_next_p rfl) (by decide)) (Eq.symm (if_pos ⟨rfl, rfl, rfl, rfl⟩))
       ·skip
        exact Eq.trans (b := (0 : Int32)) (Eq.trans (own_next_n (fun h => q_c1 h.symm)) (Eq.trans (own_look_n q_c0) (rfl))) (Eq.symm (Eq.trans (if_neg (fun h => q_c1 h.2.2.2)) (Eq.trans (if_neg (fun h => hq_c0_c1 h.1)) (Eq.trans (if_neg (fun h => q_c1 h.2)) (Eq.trans (if_neg (fun h => q_c0 h)) (rfl))))))
     have R4 : own_rw 4 (-1 : Int32) [(0 : Int32), (0 : Int32), (1 : Int32), (1 : Int32), (2 : Int32), (3 : Int32)] [c0, c0, c0, (0 : Int32)] [(1 : Int32), (1 : Int32), (3 : Int32), (0 : Int32)] (fun u => (if c0 = c1 ∧ c1 = c0 ∧ c0 = c1 ∧ c1 = u then (4 : Int32) else (if c0 = c0 ∧ c1 = c1 ∧ c0 = u then (3 : Int32) else (if c0 = c1 ∧ c1 = u then (2 : Int32) else (if c0 = u then (1 : Int32) else (0 : Int32)))))) := by
      refine ⟨2, 1, (2 : Int32), (3 : Int32), rfl, rfl, by decide, by decide, Nat.le_of_ble_eq_true rfl, Nat.le_of_ble_eq_true rfl, by decide, fun u hu => ?_⟩
      by_cases q_c0 : c0 = u
      ·subst q_c0
       exact Eq.trans (b := (3 : Int32)) (Eq.trans (own_next_n (own_nm1 hr0.1)) (own_look_p rfl)) (Eq.symm (Eq.trans (if_neg (fun h => hq_c0_c1 h.1)) (if_pos ⟨rfl, rfl, rfl⟩)))
      ·skip
       by_cases q_c1 : c1 = u
       ·subst q_c1
        exact Eq.trans (b := (0 : Int32)) (Eq.trans (own_next_n (own_nm1 hr1.1)) (Eq.trans (own_look_n hq_c0_c1) (rfl))) (Eq.symm (Eq.trans (if_neg (fun h => hq_c0_c1 h.1)) (Eq.trans (if_neg (fun h => hq_c0_c1 h.2.2)) (Eq.trans (if_neg (fun h => hq_c0_c1 h.1)) (Eq.trans (if_neg (fun h => hq_c0_c1 h)) (rfl))))))
       ·skip
        exact Eq.trans (b := (0 : Int32)) (Eq.trans (own_next_n (own_nm1 hu)) (Eq.trans (own_look_n q_c0) (rfl))) (Eq.symm (Eq.trans (if_neg (fun h => hq_c0_c1 h.1)) (Eq.trans (if_neg (fun h => q_c0 h.2.2)) (Eq.trans (if_neg (fun h => hq_c0_c1 h.1)) (Eq.trans (if_neg (fun h => q_c0 h)) (rfl))))))
     exact ⟨b4, b23, b26, b29, [(0 : Int32), (0 : Int32), (1 : Int32), (1 : Int32), (2 : Int32), (3 : Int32)], [c0, c0, c0, (0 : Int32)], [(1 : Int32), (1 : Int32), (3 : Int32), (0 : Int32)], rfl, N232, E_this, F_this_forward, F_this_rows, F_this_units, F_this_targets, A_b4, A_b23, A_b26, A_b29, R0, R1, R2, R3, R4⟩
    ·skip
     refine Run.x_icmpNo (q := 194) X216 hx (hb hby d2_191) (feq hq_c1_c3).1 rfl ?_
     refine Run.x_aloadN (q := 195) X216 hx (hb hby d2_194) rfl rfl rfl ?_
     replace F_this_units := (F_this_units.other W210 (Or.inl ne_this_b26)).other W213 (Or.inl ne_this_b29)
     refine Run.z_getF (q := 198) X216 hx hZ e216 hown (wm27 hw) F_this_units (hb hby d2_195) rfl fun T235 X235 e235 => ?_
     refine Run.x_iloadN (q := 199) X235 hx (hb hby d2_198) rfl rfl ?_
     refine Run.x_aloadN (q := 200) X235 hx (hb hby d2_199) rfl rfl rfl ?_
     refine Run.z_getF (q := 203) X235 hx hZ e235 hown (wm23 hw) F_this_forward (hb hby d2_200) rfl fun T236 X236 e236 => ?_
     refine Run.x_iloadN (q := 204) X236 hx (hb hby d2_203) rfl rfl ?_
     refine Run.y_ldI (q := 205) X236 hx hZ e236 A_b4 (i := 1) (v := (.int c1)) (by decide) rfl (hb hby d2_204) rfl ?_
     refine Run.x_i2c (q := 206) X236 hx (hb hby d2_205) (z := c1) (own_ic hr1) rfl ?_
     replace A_b26 := A_b26.other W213 ne_b26_b29
     refine Run.y_stC (q := 207) X236 hx hZ e236 A_b26 (i := 2) (by decide) (Nat.le_of_ble_eq_true rfl) (z' := c1) (own_nr hr1) (hb hby d2_206) rfl fun T237 h237 X237 e237 W237 A237 => ?_
     replace A_b26 : Ars Z h237 b26 .char [(.int c0), (.int c0), (.int c1), (.int 0)] := A237
     have N237 := Fr.snoc X237 N213 g_b26
     have Z237 : n0 ≤ h237.size := Nat.le_trans Z213 (Nat.le_of_eq W237.size.symm)
     refine Run.x_aloadN (q := 208) X237 hx (hb hby d2_207) rfl rfl rfl ?_
     replace F_this_targets := (F_this_targets.other W213 (Or.inl ne_this_b29)).other W237 (Or.inl ne_this_b26)
     refine Run.z_getF (q := 211) X237 hx hZ e237 hown (wm29 hw) F_this_targets (hb hby d2_208) rfl fun T238 X238 e238 => ?_
     refine Run.x_iloadN (q := 212) X238 hx (hb hby d2_211) rfl rfl ?_
     refine Run.x_iinc (q := 215) X238 hx #[.val (.ref this), .val (.ref pat), .val (.int 3), .val (.int 1), .val (.int 3), .val (.int 1)] (hb hby d2_212) rfl (z := (3 : Int32)) (by decide) rfl rfl ?_
     refine Run.x_iloadN (q := 216) X238 hx (hb hby d2_215) rfl rfl ?_
     refine Run.x_iconst (q := 217) X238 hx (hb hby d2_216) (z := (1 : Int32)) rfl rfl ?_
     refine Run.x_iadd (q := 218) X238 hx (hb hby d2_217) (z := (2 : Int32)) (by decide) rfl ?_
     replace A_b29 := A_b29.other W237 (Ne.symm ne_b26_b29)
     refine Run.y_stI (q := 219) X238 hx hZ e238 A_b29 (i := 2) (by decide) (Nat.le_of_ble_eq_true rfl) (hb hby d2_218) rfl fun T239 h239 X239 e239 W239 A239 => ?_
     replace A_b29 : Ars Z h239 b29 .int [(.int 1), (.int 1), (.int 2), (.int 0)] := A239
     have N239 := Fr.snoc X239 N237 g_b29
     have Z239 : n0 ≤ h239.size := Nat.le_trans Z237 (Nat.le_of_eq W239.size.symm)
     refine Run.x_aloadN (q := 220) X239 hx (hb hby d2_219) rfl rfl rfl ?_
     replace F_this_rows := (F_this_rows.other W237 (Or.inl ne_this_b26)).other W239 (Or.inl ne_this_b29)
     refine Run.z_getF (q := 223) X239 hx hZ e239 hown (wm25 hw) F_this_rows (hb hby d2_220) rfl fun T240 X240 e240 => ?_
     refine Run.x_iload (q := 225) X240 hx (hb hby d2_223) rfl rfl ?_
     refine Run.x_iconst (q := 226) X240 hx (hb hby d2_225) (z := (1 : Int32)) rfl rfl ?_
     refine Run.x_iadd (q := 227) X240 hx (hb hby d2_226) (z := (4 : Int32)) (by decide) rfl ?_
     refine Run.x_iloadN (q := 228) X240 hx (hb hby d2_227) rfl rfl ?_
     replace A_b23 := (A_b23.other W237 ne_b23_b26).other W239 ne_b23_b29
     refine Run.y_stI (q := 229) X240 hx hZ e240 A_b23 (i := 4) (by decide) (Nat.le_of_ble_eq_true rfl) (hb hby d2_228) rfl fun T241 h241 X241 e241 W241 A241 => ?_
     replace A_b23 : Ars Z h241 b23 .int [(.int 0), (.int 0), (.int 1), (.int 1), (.int 3), (.int 0)] := A241
     have N241 := Fr.snoc X241 N239 g_b23
     have Z241 : n0 ≤ h241.size := Nat.le_trans Z239 (Nat.le_of_eq W241.size.symm)
     refine Run.x_iload (q := 231) X241 hx (hb hby d2_229) rfl rfl ?_
     refine Run.x_aloadN (q := 232) X241 hx (hb hby d2_231) rfl rfl rfl ?_
     replace F_this_length := ((((F_this_length.other W210 (Or.inl ne_this_b26)).other W213 (Or.inl ne_this_b29)).other W237 (Or.inl ne_this_b26)).other W239 (Or.inl ne_this_b29)).other W241 (Or.inl ne_this_b23)
     refine Run.z_getF (q := 235) X241 hx hZ e241 hown (wm20 hw) F_this_length (hb hby d2_232) rfl fun T242 X242 e242 => ?_
     refine Run.x_icmpNo (q := 238) X242 hx (hb hby d2_235) (tlt (by decide : (3 : Int32) < (4 : Int32))).2.1 rfl ?_
     refine Run.x_aloadN (q := 239) X242 hx (hb hby d2_238) rfl rfl rfl ?_
     refine Run.x_iloadN (q := 240) X242 hx (hb hby d2_239) rfl rfl ?_
     refine Run.x_aloadN (q := 241) X242 hx (hb hby d2_240) rfl rfl rfl ?_
     refine Run.x_iload (q := 243) X242 hx (hb hby d2_241) rfl rfl ?_
     replace A_pat := ((((A_pat.other W210 ne_pat_b26).other W213 ne_pat_b29).other W237 ne_pat_b26).other W239 ne_pat_b29).other W241 ne_pat_b23
     refine Run.y_ldC (q := 244) X242 hx hZ e242 A_pat (i := 3) (v := (.int c3)) (by decide) rfl (hb hby d2_243) rfl ?_
     replace E_this := ((((E_this.wr W210).wr W213).wr W237).wr W239).wr W241
     replace F_this_forward := ((F_this_forward.other W237 (Or.inl ne_this_b26)).other W239 (Or.inl ne_this_b29)).other W241 (Or.inl ne_this_b23)
     replace F_this_rows := F_this_rows.other W241 (Or.inl ne_this_b23)
     replace F_this_units := ((F_this_units.other W237 (Or.inl ne_this_b26)).other W239 (Or.inl ne_this_b29)).other W241 (Or.inl ne_this_b23)
     replace F_this_targets := (F_this_targets.other W239 (Or.inl ne_this_b29)).other W241 (Or.inl ne_this_b23)
     replace A_b4 := ((A_b4.other W237 ne_b4_b26).other W239 ne_b4_b29).other W241 ne_b4_b23
     replace A_b26 := (A_b26.other W239 ne_b26_b29).other W241 (Ne.symm ne_b23_b26)
     replace A_b29 := A_b29.other W241 (Ne.symm ne_b23_b29)
     refine Run.callVI (q := 247) X242 hx hZ e242 (y := (⟨"needlewise/kmp/SparseAutomaton", "next", "(IC)I"⟩ : MethodName)) (z := (⟨"needlewise/kmp/SparseAutomaton", "next", "(IC)I"⟩ : MethodName)) hown (wm39 hw) (wm32 hw) (notFace_of_selects (args := #[]) (mvT hZ (wm34 hw))) (wm34 hw) (wm33 hw) (wm9 hw) (wm35 hw) (by decide) (a := this) E_this (argsL := [(.int 1), (.int c3)]) (rest := []) (c_next l Z a0 hw this (1 : Int32) c3 h241 n0 Z241 b4 b23 b26 b29 [(.int c0), (.int c1), (.int c0), (.int c3), (.int (-1))] [(.int 0), (.int 0), (.int 1), (.int 1), (.int 3), (.int 0)] [c0, c0, c1, (0 : Int32)] [(1 : Int32), (1 : Int32), (2 : Int32), (0 : Int32)] 1 0 1 c1 (0 : Int32) (1 : Int32) (0 : Int32) E_this F_this_forward F_this_rows F_this_units F_this_targets A_b4 A_b23 A_b26 A_b29 (by decide) (by decide) rfl rfl rfl (by decide) (by decide) (Nat.le_of_ble_eq_true rfl) (Nat.le_of_ble_eq_true rfl) (by decide) (Eq.trans (own_next_n (fun h => hq_c1_c3 h.symm)) (Eq.trans (own_look_n hq_c0_c3) (rfl)))) pd_0 rfl (by rw [hml]; rfl) (W := 0) rfl (by decide) (by decide) (by decide) (by decide) (hb hby d2_244) rfl rfl fun T243 L243 X243 M243 e243 => ?_
     have N243 := Fr.app N241 M243
     refine Run.x_istoreN (q := 248) X243 hx #[.val (.ref this), .val (.ref pat), .val (.int 3), .val (.int 0), .val (.int 3), .val (.int 1)] (hb hby d2_247) rfl rfl ?_
     refine Run.x_iinc (q := 251) X243 hx #[.val (.ref this), .val (.ref pat), .val (.int 3), .val (.int 0), .val (.int 4), .val (.int 1)] (hb hby d2_248) rfl (z := (4 : Int32)) (by decide) rfl rfl ?_
     refine Run.x_goto (q := 96) X243 hx (hb hby d2_251) (by decide) (by decide) ?_
     refine Run.x_iload (q := 98) X243 hx (hb hby d2_96) rfl rfl ?_
     refine Run.x_aloadN (q := 99) X243 hx (hb hby d2_98) rfl rfl rfl ?_
     refine Run.z_getF (q := 102) X243 hx hZ e243 hown (wm20 hw) F_this_length (hb hby d2_99) rfl fun T244 X244 e244 => ?_
     refine Run.x_icmpNo (q := 105) X244 hx (hb hby d2_102) (flt (by decide : ¬ ((4 : Int32) < (4 : Int32)))).2.2.1 rfl ?_
     refine Run.x_aloadN (q := 106) X244 hx (hb hby d2_105) rfl rfl rfl ?_
     refine Run.z_getF (q := 109) X244 hx hZ e244 hown (wm25 hw) F_this_rows (hb hby d2_106) rfl fun T245 X245 e245 => ?_
     refine Run.x_iloadN (q := 110) X245 hx (hb hby d2_109) rfl rfl ?_
     refine Run.y_ldI (q := 111) X245 hx hZ e245 A_b23 (i := 0) (v := (.int 0)) (by decide) rfl (hb hby d2_110) rfl ?_
     refine Run.x_istore (q := 113) X245 hx #[.val (.ref this), .val (.ref pat), .val (.int 3), .val (.int 0), .val (.int 4), .val (.int 0)] (hb hby d2_111) rfl rfl ?_
     refine Run.x_iload (q := 115) X245 hx (hb hby d2_113) rfl rfl ?_
     refine Run.x_aloadN (q := 116) X245 hx (hb hby d2_115) rfl rfl rfl ?_
     refine Run.z_getF (q := 119) X245 hx hZ e245 hown (wm25 hw) F_this_rows (hb hby d2_116) rfl fun T246 X246 e246 => ?_
     refine Run.x_iloadN (q := 120) X246 hx (hb hby d2_119) rfl rfl ?_
     refine Run.x_iconst (q := 121) X246 hx (hb hby d2_120) (z := (1 : Int32)) rfl rfl ?_
     refine Run.x_iadd (q := 122) X246 hx (hb hby d2_121) (z := (1 : Int32)) (by decide) rfl ?_
     refine Run.y_ldI (q := 123) X246 hx hZ e246 A_b23 (i := 1) (v := (.int 0)) (by decide) rfl (hb hby d2_122) rfl ?_
     refine Run.x_icmpYes (q := 178) X246 hx (hb hby d2_123) (flt (by decide : ¬ ((0 : Int32) < (0 : Int32)))).2.1 (by decide) (by decide) ?_
     refine Run.x_aloadN (q := 179) X246 hx (hb hby d2_178) rfl rfl rfl ?_
     refine Run.z_getF (q := 182) X246 hx hZ e246 hown (wm23 hw) F_this_forward (hb hby d2_179) rfl fun T247 X247 e247 => ?_
     refine Run.x_iloadN (q := 183) X247 hx (hb hby d2_182) rfl rfl ?_
     refine Run.y_ldI (q := 184) X247 hx hZ e247 A_b4 (i := 0) (v := (.int c0)) (by decide) rfl (hb hby d2_183) rfl ?_
     refine Run.x_aloadN (q := 185) X247 hx (hb hby d2_184) rfl rfl rfl ?_
     refine Run.z_getF (q := 188) X247 hx hZ e247 hown (wm23 hw) F_this_forward (hb hby d2_185) rfl fun T248 X248 e248 => ?_
     refine Run.x_iload (q := 190) X248 hx (hb hby d2_188) rfl rfl ?_
     refine Run.y_ldI (q := 191) X248 hx hZ e248 A_b4 (i := 4) (v := (.int (-1))) (by decide) rfl (hb hby d2_190) rfl ?_
     refine Run.x_icmpNo (q := 194) X248 hx (hb hby d2_191) (feq (own_nm1 hr0.1)).1 rfl ?_
     refine Run.x_aloadN (q := 195) X248 hx (hb hby d2_194) rfl rfl rfl ?_
     refine Run.z_getF (q := 198) X248 hx hZ e248 hown (wm27 hw) F_this_units (hb hby d2_195) rfl fun T249 X249 e249 => ?_
     refine Run.x_iloadN (q := 199) X249 hx (hb hby d2_198) rfl rfl ?_
     refine Run.x_aloadN (q := 200) X249 hx (hb hby d2_199) rfl rfl rfl ?_
     refine Run.z_getF (q := 203) X249 hx hZ e249 hown (wm23 hw) F_this_forward (hb hby d2_200) rfl fun T250 X250 e250 => ?_
     refine Run.x_iloadN (q := 204) X250 hx (hb hby d2_203) rfl rfl ?_
     refine Run.y_ldI (q := 205) X250 hx hZ e250 A_b4 (i := 0) (v := (.int c0)) (by decide) rfl (hb hby d2_204) rfl ?_
     refine Run.x_i2c (q := 206) X250 hx (hb hby d2_205) (z := c0) (own_ic hr0) rfl ?_
     refine Run.y_stC (q := 207) X250 hx hZ e250 A_b26 (i := 3) (by decide) (Nat.le_of_ble_eq_true rfl) (z' := c0) (own_nr hr0) (hb hby d2_206) rfl fun T251 h251 X251 e251 W251 A251 => ?_
     replace A_b26 : Ars Z h251 b26 .char [(.int c0), (.int c0), (.int c1), (.int c0)] := A251
     have N251 := Fr.snoc X251 N243 g_b26
     have Z251 : n0 ≤ h251.size := Nat.le_trans Z241 (Nat.le_of_eq W251.size.symm)
     refine Run.x_aloadN (q := 208) X251 hx (hb hby d2_207) rfl rfl rfl ?_
     replace F_this_targets := F_this_targets.other W251 (Or.inl ne_this_b26)
     refine Run.z_getF (q := 211) X251 hx hZ e251 hown (wm29 hw) F_this_targets (hb hby d2_208) rfl fun T252 X252 e252 => ?_
     refine Run.x_iloadN (q := 212) X252 hx (hb hby d2_211) rfl rfl ?_
     refine Run.x_iinc (q := 215) X252 hx #[.val (.ref this), .val (.ref pat), .val (.int 4), .val (.int 0), .val (.int 4), .val (.int 0)] (hb hby d2_212) rfl (z := (4 : Int32)) (by decide) rfl rfl ?_
     refine Run.x_iloadN (q := 216) X252 hx (hb hby d2_215) rfl rfl ?_
     refine Run.x_iconst (q := 217) X252 hx (hb hby d2_216) (z := (1 : Int32)) rfl rfl ?_
     refine Run.x_iadd (q := 218) X252 hx (hb hby d2_217) (z := (1 : Int32)) (by decide) rfl ?_
     replace A_b29 := A_b29.other W251 (Ne.symm ne_b26_b29)
     refine Run.y_stI (q := 219) X252 hx hZ e252 A_b29 (i := 3) (by decide) (Nat.le_of_ble_eq_true rfl) (hb hby d2_218) rfl fun T253 h253 X253 e253 W253 A253 => ?_
     replace A_b29 : Ars Z h253 b29 .int [(.int 1), (.int 1), (.int 2), (.int 1)] := A253
     have N253 := Fr.snoc X253 N251 g_b29
     have Z253 : n0 ≤ h253.size := Nat.le_trans Z251 (Nat.le_of_eq W253.size.symm)
     refine Run.x_aloadN (q := 220) X253 hx (hb hby d2_219) rfl rfl rfl ?_
     replace F_this_rows := (F_this_rows.other W251 (Or.inl ne_this_b26)).other W253 (Or.inl ne_this_b29)
     refine Run.z_getF (q := 223) X253 hx hZ e253 hown (wm25 hw) F_this_rows (hb hby d2_220) rfl fun T254 X254 e254 => ?_
     refine Run.x_iload (q := 225) X254 hx (hb hby d2_223) rfl rfl ?_
     refine Run.x_iconst (q := 226) X254 hx (hb hby d2_225) (z := (1 : Int32)) rfl rfl ?_
     refine Run.x_iadd (q := 227) X254 hx (hb hby d2_226) (z := (5 : Int32)) (by decide) rfl ?_
     refine Run.x_iloadN (q := 228) X254 hx (hb hby d2_227) rfl rfl ?_
     replace A_b23 := (A_b23.other W251 ne_b23_b26).other W253 ne_b23_b29
     refine Run.y_stI (q := 229) X254 hx hZ e254 A_b23 (i := 5) (by decide) (Nat.le_of_ble_eq_true rfl) (hb hby d2_228) rfl fun T255 h255 X255 e255 W255 A255 => ?_
     replace A_b23 : Ars Z h255 b23 .int [(.int 0), (.int 0), (.int 1), (.int 1), (.int 3), (.int 4)] := A255
     have N255 := Fr.snoc X255 N253 g_b23
     have Z255 : n0 ≤ h255.size := Nat.le_trans Z253 (Nat.le_of_eq W255.size.symm)
     refine Run.x_iload (q := 231) X255 hx (hb hby d2_229) rfl rfl ?_
     refine Run.x_aloadN (q := 232) X255 hx (hb hby d2_231) rfl rfl rfl ?_
     replace F_this_length := ((F_this_length.other W251 (Or.inl ne_this_b26)).other W253 (Or.inl ne_this_b29)).other W255 (Or.inl ne_this_b23)
     refine Run.z_getF (q := 235) X255 hx hZ e255 hown (wm20 hw) F_this_length (hb hby d2_232) rfl fun T256 X256 e256 => ?_
     refine Run.x_icmpYes (q := 248) X256 hx (hb hby d2_235) (flt (by decide : ¬ ((4 : Int32) < (4 : Int32)))).2.1 (by decide) (by decide) ?_
     refine Run.x_iinc (q := 251) X256 hx #[.val (.ref this), .val (.ref pat), .val (.int 4), .val (.int 0), .val (.int 5), .val (.int 0)] (hb hby d2_248) rfl (z := (5 : Int32)) (by decide) rfl rfl ?_
     refine Run.x_goto (q := 96) X256 hx (hb hby d2_251) (by decide) (by decide) ?_
     refine Run.x_iload (q := 98) X256 hx (hb hby d2_96) rfl rfl ?_
     refine Run.x_aloadN (q := 99) X256 hx (hb hby d2_98) rfl rfl rfl ?_
     refine Run.z_getF (q := 102) X256 hx hZ e256 hown (wm20 hw) F_this_length (hb hby d2_99) rfl fun T257 X257 e257 => ?_
     refine Run.x_icmpYes (q := 254) X257 hx (hb hby d2_102) (tlt (by decide : (4 : Int32) < (5 : Int32))).2.2.1 (by decide) (by decide) ?_
     replace E_this := ((E_this.wr W251).wr W253).wr W255
     replace F_this_forward := ((F_this_forward.other W251 (Or.inl ne_this_b26)).other W253 (Or.inl ne_this_b29)).other W255 (Or.inl ne_this_b23)
     replace F_this_rows := F_this_rows.other W255 (Or.inl ne_this_b23)
     replace F_this_units := ((F_this_units.other W251 (Or.inl ne_this_b26)).other W253 (Or.inl ne_this_b29)).other W255 (Or.inl ne_this_b23)
     replace F_this_targets := (F_this_targets.other W253 (Or.inl ne_this_b29)).other W255 (Or.inl ne_this_b23)
     replace A_pat := ((A_pat.other W251 ne_pat_b26).other W253 ne_pat_b29).other W255 ne_pat_b23
     replace A_b4 := ((A_b4.other W251 ne_b4_b26).other W253 ne_b4_b29).other W255 ne_b4_b23
     replace A_b26 := (A_b26.other W253 ne_b26_b29).other W255 (Ne.symm ne_b23_b26)
     replace A_b29 := A_b29.other W255 (Ne.symm ne_b23_b29)
     refine Run.retV X257 hx hlk e257 hret (hb hby d2_254) (by decide) (by decide) ?_
     have R0 : own_rw 0 c0 [(0 : Int32), (0 : Int32), (1 : Int32), (1 : Int32), (3 : Int32), (4 : Int32)] [c0, c0, c1, c0] [(1 : Int32), (1 : Int32), (2 : Int32), (1 : Int32)] (fun u => (if c0 = u then (1 : Int32) else (0 : Int32))) := by
      refine ⟨0, 0, (0 : Int32), (0 : Int32), rfl, rfl, by decide, by decide, Nat.le_of_ble_eq_true rfl, Nat.le_of_ble_eq_true rfl, by decide, fun u hu => ?_⟩
      by_cases q_c0 : c0 = u
      ·subst q_c0
       exact Eq.trans (b := (1 : Int32)) (Eq.trans (own_next_p rfl) (by decide)) (Eq.symm (if_pos rfl))
      ·skip
       by_cases q_c1 : c1 = u
       ·subst q_c1
        exact Eq.trans (b := (0 : Int32)) (Eq.trans (own_next_n (fun h => hq_c0_c1 h.symm)) (rfl)) (Eq.symm (Eq.trans (if_neg (fun h => hq_c0_c1 h)) (rfl)))
       ·skip
        by_cases q_c3 : c3 = u
        ·subst q_c3
         exact Eq.trans (b := (0 : Int32)) (Eq.trans (own_next_n (fun h => hq_c0_c3 h.symm)) (rfl)) (Eq.symm (Eq.trans (if_neg (fun h => hq_c0_c3 h)) (rfl)))
        ·skip
         exact Eq.trans (b := (0 : Int32)) (Eq.trans (own_next_n (fun h => q_c0 h.symm)) (rfl)) (Eq.symm (Eq.trans (if_neg (fun h => q_c0 h)) (rfl)))
     have R1 : own_rw 1 c1 [(0 : Int32), (0 : Int32), (1 : Int32), (1 : Int32), (3 : Int32), (4 : Int32)] [c0, c0, c1, c0] [(1 : Int32), (1 : Int32), (2 : Int32), (1 : Int32)] (fun u => (if c0 = c0 ∧ c1 = u then (2 : Int32) else (if c0 = u then (1 : Int32) else (0 : Int32)))) := by
      refine ⟨0, 1, (0 : Int32), (1 : Int32), rfl, rfl, by decide, by decide, Nat.le_of_ble_eq_true rfl, Nat.le_of_ble_eq_true rfl, by decide, fun u hu => ?_⟩
      by_cases q_c0 : c0 = u
      ·subst q_c0
       exact Eq.trans (b := (1 : Int32)) (Eq.trans (own_next_n hq_c0_c1) (own_look_p rfl)) (Eq.symm (Eq.trans (if_neg (fun h => (fun h => hq_c0_c1 h.symm) h.2)) (if_pos rfl)))
      ·skip
       by_cases q_c1 : c1 = u
       ·subst q_c1
        exact Eq.trans (b := (2 : Int32)) (Eq.trans (own_next_p rfl) (by decide)) (Eq.symm (if_pos ⟨rfl, rfl⟩))
       ·skip
        by_cases q_c3 : c3 = u
        ·subst q_c3
         exact Eq.trans (b := (0 : Int32)) (Eq.trans (own_next_n (fun h => hq_c1_c3 h.symm)) (Eq.trans (own_look_n hq_c0_c3) (rfl))) (Eq.symm (Eq.trans (if_neg (fun h => hq_c1_c3 h.2)) (Eq.trans (if_neg (fun h => hq_c0_c3 h)) (rfl))))
        ·skip
         exact Eq.trans (b := (0 : Int32)) (Eq.trans (own_next_n (fun h => q_c1 h.symm)) (Eq.trans (own_look_n q_c0) (rfl))) (Eq.symm (Eq.trans (if_neg (fun h => q_c1 h.2)) (Eq.trans (if_neg (fun h => q_c0 h)) (rfl))))
     have R2 : own_rw 2 c0 [(0 : Int32), (0 : Int32), (1 : Int32), (1 : Int32), (3 : Int32), (4 : Int32)] [c0, c0, c1, c0] [(1 : Int32), (1 : Int32), (2 : Int32), (1 : Int32)] (fun u => (if c0 = c0 ∧ c1 = c1 ∧ c0 = u then (3 : Int32) else (if c0 = c1 ∧ c1 = u then (2 : Int32) else (if c0 = u then (1 : Int32) else (0 : Int32))))) := by
      refine ⟨1, 0, (1 : Int32), (1 : Int32), rfl, rfl, by decide, by decide, Nat.le_of_ble_eq_true rfl, Nat.le_of_ble_eq_true rfl, by decide, fun u hu => ?_⟩
      by_cases q_c0 : c0 = u
      ·subst q_c0
       exact Eq.trans (b := (3 : Int32)) (Eq.trans (own_next_p rfl) (by decide)) (Eq.symm (if_pos ⟨rfl, rfl, rfl⟩))
      ·skip
       by_cases q_c1 : c1 = u
       ·subst q_c1
        exact Eq.trans (b := (0 : Int32)) (Eq.trans (own_next_n (fun h => hq_c0_c1 h.symm)) (rfl)) (Eq.symm (Eq.trans (if_neg (fun h => hq_c0_c1 h.2.2)) (Eq.trans (if_neg (fun h => hq_c0_c1 h.1)) (Eq.trans (if_neg (fun h => hq_c0_c1 h)) (rfl)))))
       ·skip
        by_cases q_c3 : c3 = u
        ·subst q_c3
         exact Eq.trans (b := (0 : Int32)) (Eq.trans (own_next_n (fun h => hq_c0_c3 h.symm)) (rfl)) (Eq.symm (Eq.trans (if_neg (fun h => hq_c0_c3 h.2.2)) (Eq.trans (if_neg (fun h => hq_c0_c1 h.1)) (Eq.trans (if_neg (fun h => hq_c0_c3 h)) (rfl)))))
        ·skip
         exact Eq.trans (b := (0 : Int32)) (Eq.trans (own_next_n (fun h => q_c0 h.symm)) (rfl)) (Eq.symm (Eq.trans (if_neg (fun h => q_c0 h.2.2)) (Eq.trans (if_neg (fun h => hq_c0_c1 h.1)) (Eq.trans (if_neg (fun h => q_c0 h)) (rfl)))))
     have R3 : own_rw 3 c3 [(0 : Int32), (0 : Int32), (1 : Int32), (1 : Int32), (3 : Int32), (4 : Int32)] [c0, c0, c1, c0] [(1 : Int32), (1 : Int32), (2 : Int32), (1 : Int32)] (fun u => (if c0 = c0 ∧ c1 = c1 ∧ c0 = c0 ∧ c3 = u then (4 : Int32) else (if c0 = c1 ∧ c1 = c0 ∧ c0 = u then (3 : Int32) else (if c0 = c0 ∧ c1 = u then (2 : Int32) else (if c0 = u then (1 : Int32) else (0 : Int32)))))) := by
      refine ⟨1, 2, (1 : Int32), (3 : Int32), rfl, rfl, by decide, by decide, Nat.le_of_ble_eq_true rfl, Nat.le_of_ble_eq_true rfl, by decide, fun u hu => ?_⟩
      by_cases q_c0 : c0 = u
      ·subst q_c0
       exact Eq.trans (b := (1 : Int32)) (Eq.trans (own_next_n hq_c0_c3) (own_look_p rfl)) (Eq.symm (Eq.trans (if_neg (fun h => (fun h => hq_c0_c3 h.symm) h.2.2.2)) (Eq.trans (if_neg (fun h => hq_c0_c1 h.1)) (Eq.trans (if_neg (fun h => (fun h => hq_c0_c1 h.symm) h.2)) (if_pos rfl)))))
      ·skip
       by_cases q_c1 : c1 = u
       ·subst q_c1
        exact Eq.trans (b := (2 : Int32)) (Eq.trans (own_next_n hq_c1_c3) (Eq.trans (own_look_n hq_c0_c1) (own_look_p rfl))) (Eq.symm (Eq.trans (if_neg (fun h => (fun h => hq_c1_c3 h.symm) h.2.2.2)) (Eq.trans (if_neg (fun h => hq_c0_c1 h.1)) (if_pos ⟨rfl, rfl⟩))))
       ·skip
        by_cases q_c3 : c3 = u
        ·subst q_c3
         exact Eq.trans (b := (4 : Int32)) (Eq.trans (own_next_p rfl) (by decide)) (Eq.symm (if_pos ⟨rfl, rfl, rfl, rfl⟩))
        ·skip
         exact Eq.trans (b := (0 : Int32)) (Eq.trans (own_next_n (fun h => q_c3 h.symm)) (Eq.trans (own_look_n q_c0) (Eq.trans (own_look_n q_c1) (rfl)))) (Eq.symm (Eq.trans (if_neg (fun h => q_c3 h.2.2.2)) (Eq.trans (if_neg (fun h => hq_c0_c1 h.1)) (Eq.trans (if_neg (fun h => q_c1 h.2)) (Eq.trans (if_neg (fun h => q_c0 h)) (rfl))))))
     have R4 : own_rw 4 (-1 : Int32) [(0 : Int32), (0 : Int32), (1 : Int32), (1 : Int32), (3 : Int32), (4 : Int32)] [c0, c0, c1, c0] [(1 : Int32), (1 : Int32), (2 : Int32), (1 : Int32)] (fun u => (if c0 = c1 ∧ c1 = c0 ∧ c0 = c3 ∧ c3 = u then (4 : Int32) else (if c0 = c0 ∧ c1 = c3 ∧ c0 = u then (3 : Int32) else (if c0 = c3 ∧ c1 = u then (2 : Int32) else (if c0 = u then (1 : Int32) else (0 : Int32)))))) := by
      refine ⟨3, 1, (3 : Int32), (4 : Int32), rfl, rfl, by decide, by decide, Nat.le_of_ble_eq_true rfl, Nat.le_of_ble_eq_true rfl, by decide, fun u hu => ?_⟩
      by_cases q_c0 : c0 = u
      ·subst q_c0
       exact Eq.trans (b := (1 : Int32)) (Eq.trans (own_next_n (own_nm1 hr0.1)) (own_look_p rfl)) (Eq.symm (Eq.trans (if_neg (fun h => hq_c0_c1 h.1)) (Eq.trans (if_neg (fun h => hq_c1_c3 h.2.1)) (Eq.trans (if_neg (fun h => hq_c0_c3 h.1)) (if_pos rfl)))))
      ·skip
       by_cases q_c1 : c1 = u
       ·subst q_c1
        exact Eq.trans (b := (0 : Int32)) (Eq.trans (own_next_n (own_nm1 hr1.1)) (Eq.trans (own_look_n hq_c0_c1) (rfl))) (Eq.symm (Eq.trans (if_neg (fun h => hq_c0_c1 h.1)) (Eq.trans (if_neg (fun h => hq_c1_c3 h.2.1)) (Eq.trans (if_neg (fun h => hq_c0_c3 h.1)) (Eq.trans (if_neg (fun h => hq_c0_c1 h)) (rfl))))))
       ·skip
        by_cases q_c3 : c3 = u
        ·subst q_c3
         exact Eq.trans (b := (0 : Int32)) (Eq.trans (own_next_n (own_nm1 hr3.1)) (Eq.trans (own_look_n hq_c0_c3) (rfl))) (Eq.symm (Eq.trans (if_neg (fun h => hq_c0_c1 h.1)) (Eq.trans (if_neg (fun h => hq_c1_c3 h.2.1)) (Eq.trans (if_neg (fun h => hq_c0_c3 h.1)) (Eq.trans (if_neg (fun h => hq_c0_c3 h)) (rfl))))))
        ·skip
         exact Eq.trans (b := (0 : Int32)) (Eq.trans (own_next_n (own_nm1 hu)) (Eq.trans (own_look_n q_c0) (rfl))) (Eq.symm (Eq.trans (if_neg (fun h => hq_c0_c1 h.1)) (Eq.trans (if_neg (fun h => hq_c1_c3 h.2.1)) (Eq.trans (if_neg (fun h => hq_c0_c3 h.1)) (Eq.trans (if_neg (fun h => q_c0 h)) (rfl))))))
     exact ⟨b4, b23, b26, b29, [(0 : Int32), (0 : Int32), (1 : Int32), (1 : Int32), (3 : Int32), (4 : Int32)], [c0, c0, c1, c0], [(1 : Int32), (1 : Int32), (2 : Int32), (1 : Int32)], rfl, N255, E_this, F_this_forward, F_this_rows, F_this_units, F_this_targets, A_b4, A_b23, A_b26, A_b29, R0, R1, R2, R3, R4⟩
  ·skip
   refine Run.x_icmpNo (q := 194) X163 hx (hb hby d2_191) (feq hq_c0_c2).1 rfl ?_
   refine Run.x_aloadN (q := 195) X163 hx (hb hby d2_194) rfl rfl rfl ?_
   refine Run.z_getF (q := 198) X163 hx hZ e163 hown (wm27 hw) F_this_units (hb hby d2_195) rfl fun T258 X258 e258 => ?_
   refine Run.x_iloadN (q := 199) X258 hx (hb hby d2_198) rfl rfl ?_
   refine Run.x_aloadN (q := 200) X258 hx (hb hby d2_199) rfl rfl rfl ?_
   refine Run.z_getF (q := 203) X258 hx hZ e258 hown (wm23 hw) F_this_forward (hb hby d2_200) rfl fun T259 X259 e259 => ?_
   refine Run.x_iloadN (q := 204) X259 hx (hb hby d2_203) rfl rfl ?_
   refine Run.y_ldI (q := 205) X259 hx hZ e259 A_b4 (i := 0) (v := (.int c0)) (by decide) rfl (hb hby d2_204) rfl ?_
   refine Run.x_i2c (q := 206) X259 hx (hb hby d2_205) (z := c0) (own_ic hr0) rfl ?_
   refine Run.y_stC (q := 207) X259 hx hZ e259 A_b26 (i := 1) (by decide) (Nat.le_of_ble_eq_true rfl) (z' := c0) (own_nr hr0) (hb hby d2_206) rfl fun T260 h260 X260 e260 W260 A260 => ?_
   replace A_b26 : Ars Z h260 b26 .char [(.int c0), (.int c0), (.int 0), (.int 0)] := A260
   have N260 := Fr.snoc X260 N158 g_b26
   have Z260 : n0 ≤ h260.size := Nat.le_trans Z156 (Nat.le_of_eq W260.size.symm)
   refine Run.x_aloadN (q := 208) X260 hx (hb hby d2_207) rfl rfl rfl ?_
   replace F_this_targets := F_this_targets.other W260 (Or.inl ne_this_b26)
   refine Run.z_getF (q := 211) X260 hx hZ e260 hown (wm29 hw) F_this_targets (hb hby d2_208) rfl fun T261 X261 e261 => ?_
   refine Run.x_iloadN (q := 212) X261 hx (hb hby d2_211) rfl rfl ?_
   refine Run.x_iinc (q := 215) X261 hx #[.val (.ref this), .val (.ref pat), .val (.int 2), .val (.int 0), .val (.int 2), .val (.int 0)] (hb hby d2_212) rfl (z := (2 : Int32)) (by decide) rfl rfl ?_
   refine Run.x_iloadN (q := 216) X261 hx (hb hby d2_215) rfl rfl ?_
   refine Run.x_iconst (q := 217) X261 hx (hb hby d2_216) (z := (1 : Int32)) rfl rfl ?_
   refine Run.x_iadd (q := 218) X261 hx (hb hby d2_217) (z := (1 : Int32)) (by decide) rfl ?_
   replace A_b29 := A_b29.other W260 (Ne.symm ne_b26_b29)
   refine Run.y_stI (q := 219) X261 hx hZ e261 A_b29 (i := 1) (by decide) (Nat.le_of_ble_eq_true rfl) (hb hby d2_218) rfl fun T262 h262 X262 e262 W262 A262 => ?_
   replace A_b29 : Ars Z h262 b29 .int [(.int 1), (.int 1), (.int 0), (.int 0)] := A262
   have N262 := Fr.snoc X262 N260 g_b29
   have Z262 : n0 ≤ h262.size := Nat.le_trans Z260 (Nat.le_of_eq W262.size.symm)
   refine Run.x_aloadN (q := 220) X262 hx (hb hby d2_219) rfl rfl rfl ?_
   replace F_this_rows := (F_this_rows.other W260 (Or.inl ne_this_b26)).other W262 (Or.inl ne_this_b29)
   refine Run.z_getF (q := 223) X262 hx hZ e262 hown (wm25 hw) F_this_rows (hb hby d2_220) rfl fun T263 X263 e263 => ?_
   refine Run.x_iload (q := 225) X263 hx (hb hby d2_223) rfl rfl ?_
   refine Run.x_iconst (q := 226) X263 hx (hb hby d2_225) (z := (1 : Int32)) rfl rfl ?_
   refine Run.x_iadd (q := 227) X263 hx (hb hby d2_226) (z := (3 : Int32)) (by decide) rfl ?_
   refine Run.x_iloadN (q := 228) X263 hx (hb hby d2_227) rfl rfl ?_
   replace A_b23 := (A_b23.other W260 ne_b23_b26).other W262 ne_b23_b29
   refine Run.y_stI (q := 229) X263 hx hZ e263 A_b23 (i := 3) (by decide) (Nat.le_of_ble_eq_true rfl) (hb hby d2_228) rfl fun T264 h264 X264 e264 W264 A264 => ?_
   replace A_b23 : Ars Z h264 b23 .int [(.int 0), (.int 0), (.int 1), (.int 2), (.int 0), (.int 0)] := A264
   have N264 := Fr.snoc X264 N262 g_b23
   have Z264 : n0 ≤ h264.size := Nat.le_trans Z262 (Nat.le_of_eq W264.size.symm)
   refine Run.x_iload (q := 231) X264 hx (hb hby d2_229) rfl rfl ?_
   refine Run.x_aloadN (q := 232) X264 hx (hb hby d2_231) rfl rfl rfl ?_
   replace F_this_length := ((F_this_length.other W260 (Or.inl ne_this_b26)).other W262 (Or.inl ne_this_b29)).other W264 (Or.inl ne_this_b23)
   refine Run.z_getF (q := 235) X264 hx hZ e264 hown (wm20 hw) F_this_length (hb hby d2_232) rfl fun T265 X265 e265 => ?_
   refine Run.x_icmpNo (q := 238) X265 hx (hb hby d2_235) (tlt (by decide : (2 : Int32) < (4 : Int32))).2.1 rfl ?_
   refine Run.x_aloadN (q := 239) X265 hx (hb hby d2_238) rfl rfl rfl ?_
   refine Run.x_iloadN (q := 240) X265 hx (hb hby d2_239) rfl rfl ?_
   refine Run.x_aloadN (q := 241) X265 hx (hb hby d2_240) rfl rfl rfl ?_
   refine Run.x_iload (q := 243) X265 hx (hb hby d2_241) rfl rfl ?_
   replace A_pat := ((A_pat.other W260 ne_pat_b26).other W262 ne_pat_b29).other W264 ne_pat_b23
   refine Run.y_ldC (q := 244) X265 hx hZ e265 A_pat (i := 2) (v := (.int c2)) (by decide) rfl (hb hby d2_243) rfl ?_
   replace E_this := ((E_this.wr W260).wr W262).wr W264
   replace F_this_forward := ((F_this_forward.other W260 (Or.inl ne_this_b26)).other W262 (Or.inl ne_this_b29)).other W264 (Or.inl ne_this_b23)
   replace F_this_rows := F_this_rows.other W264 (Or.inl ne_this_b23)
   replace F_this_units := ((F_this_units.other W260 (Or.inl ne_this_b26)).other W262 (Or.inl ne_this_b29)).other W264 (Or.inl ne_this_b23)
   replace F_this_targets := (F_this_targets.other W262 (Or.inl ne_this_b29)).other W264 (Or.inl ne_this_b23)
   replace A_b4 := ((A_b4.other W260 ne_b4_b26).other W262 ne_b4_b29).other W264 ne_b4_b23
   replace A_b26 := (A_b26.other W262 ne_b26_b29).other W264 (Ne.symm ne_b23_b26)
   replace A_b29 := A_b29.other W264 (Ne.symm ne_b23_b29)
   refine Run.callVI (q := 247) X265 hx hZ e265 (y := (⟨"needlewise/kmp/SparseAutomaton", "next", "(IC)I"⟩ : MethodName)) (z := (⟨"needlewise/kmp/SparseAutomaton", "next", "(IC)I"⟩ : MethodName)) hown (wm39 hw) (wm32 hw) (notFace_of_selects (args := #[]) (mvT hZ (wm34 hw))) (wm34 hw) (wm33 hw) (wm9 hw) (wm35 hw) (by decide) (a := this) E_this (argsL := [(.int 0), (.int c2)]) (rest := []) (c_next l Z a0 hw this (0 : Int32) c2 h264 n0 Z264 b4 b23 b26 b29 [(.int c0), (.int c1), (.int c2), (.int c3), (.int (-1))] [(.int 0), (.int 0), (.int 1), (.int 2), (.int 0), (.int 0)] [c0, c0, (0 : Int32), (0 : Int32)] [(1 : Int32), (1 : Int32), (0 : Int32), (0 : Int32)] 0 0 0 c0 (0 : Int32) (0 : Int32) (0 : Int32) E_this F_this_forward F_this_rows F_this_units F_this_targets A_b4 A_b23 A_b26 A_b29 (by decide) (by decide) rfl rfl rfl (by decide) (by decide) (Nat.le_of_ble_eq_true rfl) (Nat.le_of_ble_eq_true rfl) (by decide) (Eq.trans (own_next_n (fun h => hq_c0_c2 h.symm)) (rfl))) pd_0 rfl (by rw [hml]; rfl) (W := 0) rfl (by decide) (by decide) (by decide) (by decide) (hb hby d2_244) rfl rfl fun T266 L266 X266 M266 e266 => ?_
   have N266 := Fr.app N264 M266
   refine Run.x_istoreN (q := 248) X266 hx #[.val (.ref this), .val (.ref pat), .val (.int 2), .val (.int 0), .val (.int 2), .val (.int 0)] (hb hby d2_247) rfl rfl ?_
   refine Run.x_iinc (q := 251) X266 hx #[.val (.ref this), .val (.ref pat), .val (.int 2), .val (.int 0), .val (.int 3), .val (.int 0)] (hb hby d2_248) rfl (z := (3 : Int32)) (by decide) rfl rfl ?_
   refine Run.x_goto (q := 96) X266 hx (hb hby d2_251) (by decide) (by decide) ?_
   refine Run.x_iload (q := 98) X266 hx (hb hby d2_96) rfl rfl ?_
   refine Run.x_aloadN (q := 99) X266 hx (hb hby d2_98) rfl rfl rfl ?_
   refine Run.z_getF (q := 102) X266 hx hZ e266 hown (wm20 hw) F_this_length (hb hby d2_99) rfl fun T267 X267 e267 => ?_
   refine Run.x_icmpNo (q := 105) X267 hx (hb hby d2_102) (flt (by decide : ¬ ((4 : Int32) < (3 : Int32)))).2.2.1 rfl ?_
   refine Run.x_aloadN (q := 106) X267 hx (hb hby d2_105) rfl rfl rfl ?_
   refine Run.z_getF (q := 109) X267 hx hZ e267 hown (wm25 hw) F_this_rows (hb hby d2_106) rfl fun T268 X268 e268 => ?_
   refine Run.x_iloadN (q := 110) X268 hx (hb hby d2_109) rfl rfl ?_
   refine Run.y_ldI (q := 111) X268 hx hZ e268 A_b23 (i := 0) (v := (.int 0)) (by decide) rfl (hb hby d2_110) rfl ?_
   refine Run.x_istore (q := 113) X268 hx #[.val (.ref this), .val (.ref pat), .val (.int 2), .val (.int 0), .val (.int 3), .val (.int 0)] (hb hby d2_111) rfl rfl ?_
   refine Run.x_iload (q := 115) X268 hx (hb hby d2_113) rfl rfl ?_
   refine Run.x_aloadN (q := 116) X268 hx (hb hby d2_115) rfl rfl rfl ?_
   refine Run.z_getF (q := 119) X268 hx hZ e268 hown (wm25 hw) F_this_rows (hb hby d2_116) rfl fun T269 X269 e269 => ?_
   refine Run.x_iloadN (q := 120) X269 hx (hb hby d2_119) rfl rfl ?_
   refine Run.x_iconst (q := 121) X269 hx (hb hby d2_120) (z := (1 : Int32)) rfl rfl ?_
   refine Run.x_iadd (q := 122) X269 hx (hb hby d2_121) (z := (1 : Int32)) (by decide) rfl ?_
   refine Run.y_ldI (q := 123) X269 hx hZ e269 A_b23 (i := 1) (v := (.int 0)) (by decide) rfl (hb hby d2_122) rfl ?_
   refine Run.x_icmpYes (q := 178) X269 hx (hb hby d2_123) (flt (by decide : ¬ ((0 : Int32) < (0 : Int32)))).2.1 (by decide) (by decide) ?_
   refine Run.x_aloadN (q := 179) X269 hx (hb hby d2_178) rfl rfl rfl ?_
   refine Run.z_getF (q := 182) X269 hx hZ e269 hown (wm23 hw) F_this_forward (hb hby d2_179) rfl fun T270 X270 e270 => ?_
   refine Run.x_iloadN (q := 183) X270 hx (hb hby d2_182) rfl rfl ?_
   refine Run.y_ldI (q := 184) X270 hx hZ e270 A_b4 (i := 0) (v := (.int c0)) (by decide) rfl (hb hby d2_183) rfl ?_
   refine Run.x_aloadN (q := 185) X270 hx (hb hby d2_184) rfl rfl rfl ?_
   refine Run.z_getF (q := 188) X270 hx hZ e270 hown (wm23 hw) F_this_forward (hb hby d2_185) rfl fun T271 X271 e271 => ?_
   refine Run.x_iload (q := 190) X271 hx (hb hby d2_188) rfl rfl ?_
   refine Run.y_ldI (q := 191) X271 hx hZ e271 A_b4 (i := 3) (v := (.int c3)) (by decide) rfl (hb hby d2_190) rfl ?_
   by_cases hq_c0_c3 : c0 = c3
   ·subst hq_c0_c3
    refine Run.x_icmpYes (q := 219) X271 hx (hb hby d2_191) (teq rfl).1 (by decide) (by decide) ?_
    refine Run.x_aloadN (q := 220) X271 hx (hb hby d2_219) rfl rfl rfl ?_
    refine Run.z_getF (q := 223) X271 hx hZ e271 hown (wm25 hw) F_this_rows (hb hby d2_220) rfl fun T272 X272 e272 => ?_
    refine Run.x_iload (q := 225) X272 hx (hb hby d2_223) rfl rfl ?_
    refine Run.x_iconst (q := 226) X272 hx (hb hby d2_225) (z := (1 : Int32)) rfl rfl ?_
    refine Run.x_iadd (q := 227) X272 hx (hb hby d2_226) (z := (4 : Int32)) (by decide) rfl ?_
    refine Run.x_iloadN (q := 228) X272 hx (hb hby d2_227) rfl rfl ?_
    refine Run.y_stI (q := 229) X272 hx hZ e272 A_b23 (i := 4) (by decide) (Nat.le_of_ble_eq_true rfl) (hb hby d2_228) rfl fun T273 h273 X273 e273 W273 A273 => ?_
    replace A_b23 : Ars Z h273 b23 .int [(.int 0), (.int 0), (.int 1), (.int 2), (.int 2), (.int 0)] := A273
    have N273 := Fr.snoc X273 N266 g_b23
    have Z273 : n0 ≤ h273.size := Nat.le_trans Z264 (Nat.le_of_eq W273.size.symm)
    refine Run.x_iload (q := 231) X273 hx (hb hby d2_229) rfl rfl ?_
    refine Run.x_aloadN (q := 232) X273 hx (hb hby d2_231) rfl rfl rfl ?_
    replace F_this_length := F_this_length.other W273 (Or.inl ne_this_b23)
    refine Run.z_getF (q := 235) X273 hx hZ e273 hown (wm20 hw) F_this_length (hb hby d2_232) rfl fun T274 X274 e274 => ?_
    refine Run.x_icmpNo (q := 238) X274 hx (hb hby d2_235) (tlt (by decide : (3 : Int32) < (4 : Int32))).2.1 rfl ?_
    refine Run.x_aloadN (q := 239) X274 hx (hb hby d2_238) rfl rfl rfl ?_
    refine Run.x_iloadN (q := 240) X274 hx (hb hby d2_239) rfl rfl ?_
    refine Run.x_aloadN (q := 241) X274 hx (hb hby d2_240) rfl rfl rfl ?_
    refine Run.x_iload (q := 243) X274 hx (hb hby d2_241) rfl rfl ?_
    replace A_pat := A_pat.other W273 ne_pat_b23
    refine Run.y_ldC (q := 244) X274 hx hZ e274 A_pat (i := 3) (v := (.int c0)) (by decide) rfl (hb hby d2_243) rfl ?_
    replace E_this := E_this.wr W273
    replace F_this_forward := F_this_forward.other W273 (Or.inl ne_this_b23)
    replace F_this_rows := F_this_rows.other W273 (Or.inl ne_this_b23)
    replace F_this_units := F_this_units.other W273 (Or.inl ne_this_b23)
    replace F_this_targets := F_this_targets.other W273 (Or.inl ne_this_b23)
    replace A_b4 := A_b4.other W273 ne_b4_b23
    replace A_b26 := A_b26.other W273 (Ne.symm ne_b23_b26)
    replace A_b29 := A_b29.other W273 (Ne.symm ne_b23_b29)
    refine Run.callVI (q := 247) X274 hx hZ e274 (y := (⟨"needlewise/kmp/SparseAutomaton", "next", "(IC)I"⟩ : MethodName)) (z := (⟨"needlewise/kmp/SparseAutomaton", "next", "(IC)I"⟩ : MethodName)) hown (wm39 hw) (wm32 hw) (notFace_of_selects (args := #[]) (mvT hZ (wm34 hw))) (wm34 hw) (wm33 hw) (wm9 hw) (wm35 hw) (by decide) (a := this) E_this (argsL := [(.int 0), (.int c0)]) (rest := []) (c_next l Z a0 hw this (0 : Int32) c0 h273 n0 Z273 b4 b23 b26 b29 [(.int c0), (.int c1), (.int c2), (.int c0), (.int (-1))] [(.int 0), (.int 0), (.int 1), (.int 2), (.int 2), (.int 0)] [c0, c0, (0 : Int32), (0 : Int32)] [(1 : Int32), (1 : Int32), (0 : Int32), (0 : Int32)] 0 0 0 c0 (0 : Int32) (0 : Int32) (1 : Int32) E_this F_this_forward F_this_rows F_this_units F_this_targets A_b4 A_b23 A_b26 A_b29 (by decide) (by decide) rfl rfl rfl (by decide) (by decide) (Nat.le_of_ble_eq_true rfl) (Nat.le_of_ble_eq_true rfl) (by decide) (Eq.trans (own_next_p rfl) (by decide))) pd_0 rfl (by rw [hml]; rfl) (W := 0) rfl (by decide) (by decide) (by decide) (by decide) (hb hby d2_244) rfl rfl fun T275 L275 X275 M275 e275 => ?_
    have N275 := Fr.app N273 M275
    refine Run.x_istoreN (q := 248) X275 hx #[.val (.ref this), .val (.ref pat), .val (.int 2), .val (.int 1), .val (.int 3), .val (.int 0)] (hb hby d2_247) rfl rfl ?_
    refine Run.x_iinc (q := 251) X275 hx #[.val (.ref this), .val (.ref pat), .val (.int 2), .val (.int 1), .val (.int 4), .val (.int 0)] (hb hby d2_248) rfl (z := (4 : Int32)) (by decide) rfl rfl ?_
    refine Run.x_goto (q := 96) X275 hx (hb hby d2_251) (by decide) (by decide) ?_
    refine Run.x_iload (q := 98) X275 hx (hb hby d2_96) rfl rfl ?_
    refine Run.x_aloadN (q := 99) X275 hx (hb hby d2_98) rfl rfl rfl ?_
    refine Run.z_getF (q := 102) X275 hx hZ e275 hown (wm20 hw) F_this_length (hb hby d2_99) rfl fun T276 X276 e276 => ?_
    refine Run.x_icmpNo (q := 105) X276 hx (hb hby d2_102) (flt (by decide : ¬ ((4 : Int32) < (4 : Int32)))).2.2.1 rfl ?_
    refine Run.x_aloadN (q := 106) X276 hx (hb hby d2_105) rfl rfl rfl ?_
    refine Run.z_getF (q := 109) X276 hx hZ e276 hown (wm25 hw) F_this_rows (hb hby d2_106) rfl fun T277 X277 e277 => ?_
    refine Run.x_iloadN (q := 110) X277 hx (hb hby d2_109) rfl rfl ?_
    refine Run.y_ldI (q := 111) X277 hx hZ e277 A_b23 (i := 1) (v := (.int 0)) (by decide) rfl (hb hby d2_110) rfl ?_
    refine Run.x_istore (q := 113) X277 hx #[.val (.ref this), .val (.ref pat), .val (.int 2), .val (.int 1), .val (.int 4), .val (.int 0)] (hb hby d2_111) rfl rfl ?_
    refine Run.x_iload (q := 115) X277 hx (hb hby d2_113) rfl rfl ?_
    refine Run.x_aloadN (q := 116) X277 hx (hb hby d2_115) rfl rfl rfl ?_
    refine Run.z_getF (q := 119) X277 hx hZ e277 hown (wm25 hw) F_this_rows (hb hby d2_116) rfl fun T278 X278 e278 => ?_
    refine Run.x_iloadN (q := 120) X278 hx (hb hby d2_119) rfl rfl ?_
    refine Run.x_iconst (q := 121) X278 hx (hb hby d2_120) (z := (1 : Int32)) rfl rfl ?_
    refine Run.x_iadd (q := 122) X278 hx (hb hby d2_121) (z := (2 : Int32)) (by decide) rfl ?_
    refine Run.y_ldI (q := 123) X278 hx hZ e278 A_b23 (i := 2) (v := (.int 1)) (by decide) rfl (hb hby d2_122) rfl ?_
    refine Run.x_icmpNo (q := 126) X278 hx (hb hby d2_123) (tlt (by decide : (0 : Int32) < (1 : Int32))).2.1 rfl ?_
    refine Run.x_aloadN (q := 127) X278 hx (hb hby d2_126) rfl rfl rfl ?_
    refine Run.z_getF (q := 130) X278 hx hZ e278 hown (wm27 hw) F_this_units (hb hby d2_127) rfl fun T279 X279 e279 => ?_
    refine Run.x_iload (q := 132) X279 hx (hb hby d2_130) rfl rfl ?_
    refine Run.y_ldC (q := 133) X279 hx hZ e279 A_b26 (i := 0) (v := (.int c0)) (by decide) rfl (hb hby d2_132) rfl ?_
    refine Run.x_aloadN (q := 134) X279 hx (hb hby d2_133) rfl rfl rfl ?_
    refine Run.z_getF (q := 137) X279 hx hZ e279 hown (wm23 hw) F_this_forward (hb hby d2_134) rfl fun T280 X280 e280 => ?_
    refine Run.x_iload (q := 139) X280 hx (hb hby d2_137) rfl rfl ?_
    refine Run.y_ldI (q := 140) X280 hx hZ e280 A_b4 (i := 4) (v := (.int (-1))) (by decide) rfl (hb hby d2_139) rfl ?_
    refine Run.x_icmpNo (q := 143) X280 hx (hb hby d2_140) (feq (own_nm1 hr0.1)).1 rfl ?_
    refine Run.x_aloadN (q := 144) X280 hx (hb hby d2_143) rfl rfl rfl ?_
    refine Run.z_getF (q := 147) X280 hx hZ e280 hown (wm27 hw) F_this_units (hb hby d2_144) rfl fun T281 X281 e281 => ?_
    refine Run.x_iloadN (q := 148) X281 hx (hb hby d2_147) rfl rfl ?_
    refine Run.x_aloadN (q := 149) X281 hx (hb hby d2_148) rfl rfl rfl ?_
    refine Run.z_getF (q := 152) X281 hx hZ e281 hown (wm27 hw) F_this_units (hb hby d2_149) rfl fun T282 X282 e282 => ?_
    refine Run.x_iload (q := 154) X282 hx (hb hby d2_152) rfl rfl ?_
    refine Run.y_ldC (q := 155) X282 hx hZ e282 A_b26 (i := 0) (v := (.int c0)) (by decide) rfl (hb hby d2_154) rfl ?_
    refine Run.y_stC (q := 156) X282 hx hZ e282 A_b26 (i := 2) (by decide) (Nat.le_of_ble_eq_true rfl) (z' := c0) (own_nr hr0) (hb hby d2_155) rfl fun T283 h283 X283 e283 W283 A283 => ?_
    replace A_b26 : Ars Z h283 b26 .char [(.int c0), (.int c0), (.int c0), (.int 0)] := A283
    have N283 := Fr.snoc X283 N275 g_b26
    have Z283 : n0 ≤ h283.size := Nat.le_trans Z273 (Nat.le_of_eq W283.size.symm)
    refine Run.x_aloadN (q := 157) X283 hx (hb hby d2_156) rfl rfl rfl ?_
    replace F_this_targets := F_this_targets.other W283 (Or.inl ne_this_b26)
    refine Run.z_getF (q := 160) X283 hx hZ e283 hown (wm29 hw) F_this_targets (hb hby d2_157) rfl fun T284 X284 e284 => ?_
    refine Run.x_iloadN (q := 161) X284 hx (hb hby d2_160) rfl rfl ?_
    refine Run.x_iinc (q := 164) X284 hx #[.val (.ref this), .val (.ref pat), .val (.int 3), .val (.int 1), .val (.int 4), .val (.int 0)] (hb hby d2_161) rfl (z := (3 : Int32)) (by decide) rfl rfl ?_
    refine Run.x_aloadN (q := 165) X284 hx (hb hby d2_164) rfl rfl rfl ?_
    refine Run.z_getF (q := 168) X284 hx hZ e284 hown (wm29 hw) F_this_targets (hb hby d2_165) rfl fun T285 X285 e285 => ?_
    refine Run.x_iload (q := 170) X285 hx (hb hby d2_168) rfl rfl ?_
    replace A_b29 := A_b29.other W283 (Ne.symm ne_b26_b29)
    refine Run.y_ldI (q := 171) X285 hx hZ e285 A_b29 (i := 0) (v := (.int 1)) (by decide) rfl (hb hby d2_170) rfl ?_
    refine Run.y_stI (q := 172) X285 hx hZ e285 A_b29 (i := 2) (by decide) (Nat.le_of_ble_eq_true rfl) (hb hby d2_171) rfl fun T286 h286 X286 e286 W286 A286 => ?_
    replace A_b29 : Ars Z h286 b29 .int [(.int 1), (.int 1), (.int 1), (.int 0)] := A286
    have N286 := Fr.snoc X286 N283 g_b29
    have Z286 : n0 ≤ h286.size := Nat.le_trans Z283 (Nat.le_of_eq W286.size.symm)
    refine Run.x_iinc (q := 175) X286 hx #[.val (.ref this), .val (.ref pat), .val (.int 3), .val (.int 1), .val (.int 4), .val (.int 1)] (hb hby d2_172) rfl (z := (1 : Int32)) (by decide) rfl rfl ?_
    refine Run.x_goto (q := 113) X286 hx (hb hby d2_175) (by decide) (by decide) ?_
    refine Run.x_iload (q := 115) X286 hx (hb hby d2_113) rfl rfl ?_
    refine Run.x_aloadN (q := 116) X286 hx (hb hby d2_115) rfl rfl rfl ?_
    replace F_this_rows := (F_this_rows.other W283 (Or.inl ne_this_b26)).other W286 (Or.inl ne_this_b29)
    refine Run.z_getF (q := 119) X286 hx hZ e286 hown (wm25 hw) F_this_rows (hb hby d2_116) rfl fun T287 X287 e287 => ?_
    refine Run.x_iloadN (q := 120) X287 hx (hb hby d2_119) rfl rfl ?_
    refine Run.x_iconst (q := 121) X287 hx (hb hby d2_120) (z := (1 : Int32)) rfl rfl ?_
    refine Run.x_iadd (q := 122) X287 hx (hb hby d2_121) (z := (2 : Int32)) (by decide) rfl ?_
    replace A_b23 := (A_b23.other W283 ne_b23_b26).other W286 ne_b23_b29
    refine Run.y_ldI (q := 123) X287 hx hZ e287 A_b23 (i := 2) (v := (.int 1)) (by decide) rfl (hb hby d2_122) rfl ?_
    refine Run.x_icmpYes (q := 178) X287 hx (hb hby d2_123) (flt (by decide : ¬ ((1 : Int32) < (1 : Int32)))).2.1 (by decide) (by decide) ?_
    refine Run.x_aloadN (q := 179) X287 hx (hb hby d2_178) rfl rfl rfl ?_
    replace F_this_forward := (F_this_forward.other W283 (Or.inl ne_this_b26)).other W286 (Or.inl ne_this_b29)
    refine Run.z_getF (q := 182) X287 hx hZ e287 hown (wm23 hw) F_this_forward (hb hby d2_179) rfl fun T288 X288 e288 => ?_
    refine Run.x_iloadN (q := 183) X288 hx (hb hby d2_182) rfl rfl ?_
    replace A_b4 := (A_b4.other W283 ne_b4_b26).other W286 ne_b4_b29
    refine Run.y_ldI (q := 184) X288 hx hZ e288 A_b4 (i := 1) (v := (.int c1)) (by decide) rfl (hb hby d2_183) rfl ?_
    refine Run.x_aloadN (q := 185) X288 hx (hb hby d2_184) rfl rfl rfl ?_
    refine Run.z_getF (q := 188) X288 hx hZ e288 hown (wm23 hw) F_this_forward (hb hby d2_185) rfl fun T289 X289 e289 => ?_
    refine Run.x_iload (q := 190) X289 hx (hb hby d2_188) rfl rfl ?_
    refine Run.y_ldI (q := 191) X289 hx hZ e289 A_b4 (i := 4) (v := (.int (-1))) (by decide) rfl (hb hby d2_190) rfl ?_
    refine Run.x_icmpNo (q := 194) X289 hx (hb hby d2_191) (feq (own_nm1 hr1.1)).1 rfl ?_
    refine Run.x_aloadN (q := 195) X289 hx (hb hby d2_194) rfl rfl rfl ?_
    replace F_this_units := (F_this_units.other W283 (Or.inl ne_this_b26)).other W286 (Or.inl ne_this_b29)
    refine Run.z_getF (q := 198) X289 hx hZ e289 hown (wm27 hw) F_this_units (hb hby d2_195) rfl fun T290 X290 e290 => ?_
    refine Run.x_iloadN (q := 199) X290 hx (hb hby d2_198) rfl rfl ?_
    refine Run.x_aloadN (q := 200) X290 hx (hb hby d2_199) rfl rfl rfl ?_
    refine Run.z_getF (q := 203) X290 hx hZ e290 hown (wm23 hw) F_this_forward (hb hby d2_200) rfl fun T291 X291 e291 => ?_
    refine Run.x_iloadN (q := 204) X291 hx (hb hby d2_203) rfl rfl ?_
    refine Run.y_ldI (q := 205) X291 hx hZ e291 A_b4 (i := 1) (v := (.int c1)) (by decide) rfl (hb hby d2_204) rfl ?_
    refine Run.x_i2c (q := 206) X291 hx (hb hby d2_205) (z := c1) (own_ic hr1) rfl ?_
    replace A_b26 := A_b26.other W286 ne_b26_b29
    refine Run.y_stC (q := 207) X291 hx hZ e291 A_b26 (i := 3) (by decide) (Nat.le_of_ble_eq_true rfl) (z' := c1) (own_nr hr1) (hb hby d2_206) rfl fun T292 h292 X292 e292 W292 A292 => ?_
    replace A_b26 : Ars Z h292 b26 .char [(.int c0), (.int c0), (.int c0), (.int c1)] := A292
    have N292 := Fr.snoc X292 N286 g_b26
    have Z292 : n0 ≤ h292.size := Nat.le_trans Z286 (Nat.le_of_eq W292.size.symm)
    refine Run.x_aloadN (q := 208) X292 hx (hb hby d2_207) rfl rfl rfl ?_
    replace F_this_targets := (F_this_targets.other W286 (Or.inl ne_this_b29)).other W292 (Or.inl ne_this_b26)
    refine Run.z_getF (q := 211) X292 hx hZ e292 hown (wm29 hw) F_this_targets (hb hby d2_208) rfl fun T293 X293 e293 => ?_
    refine Run.x_iloadN (q := 212) X293 hx (hb hby d2_211) rfl rfl ?_
    refine Run.x_iinc (q := 215) X293 hx #[.val (.ref this), .val (.ref pat), .val (.int 4), .val (.int 1), .val (.int 4), .val (.int 1)] (hb hby d2_212) rfl (z := (4 : Int32)) (by decide) rfl rfl ?_
    refine Run.x_iloadN (q := 216) X293 hx (hb hby d2_215) rfl rfl ?_
    refine Run.x_iconst (q := 217) X293 hx (hb hby d2_216) (z := (1 : Int32)) rfl rfl ?_
    refine Run.x_iadd (q := 218) X293 hx (hb hby d2_217) (z := (2 : Int32)) (by decide) rfl ?_
    replace A_b29 := A_b29.other W292 (Ne.symm ne_b26_b29)
    refine Run.y_stI (q := 219) X293 hx hZ e293 A_b29 (i := 3) (by decide) (Nat.le_of_ble_eq_true rfl) (hb hby d2_218) rfl fun T294 h294 X294 e294 W294 A294 => ?_
    replace A_b29 : Ars Z h294 b29 .int [(.int 1), (.int 1), (.int 1), (.int 2)] := A294
    have N294 := Fr.snoc X294 N292 g_b29
    have Z294 : n0 ≤ h294.size := Nat.le_trans Z292 (Nat.le_of_eq W294.size.symm)
    refine Run.x_aloadN (q := 220) X294 hx (hb hby d2_219) rfl rfl rfl ?_
    replace F_this_rows := (F_this_rows.other W292 (Or.inl ne_this_b26)).other W294 (Or.inl ne_this_b29)
    refine Run.z_getF (q := 223) X294 hx hZ e294 hown (wm25 hw) F_this_rows (hb hby d2_220) rfl fun T295 X295 e295 => ?_
    refine Run.x_iload (q := 225) X295 hx (hb hby d2_223) rfl rfl ?_
    refine Run.x_iconst (q := 226) X295 hx (hb hby d2_225) (z := (1 : Int32)) rfl rfl ?_
    refine Run.x_iadd (q := 227) X295 hx (hb hby d2_226) (z := (5 : Int32)) (by decide) rfl ?_
    refine Run.x_iloadN (q := 228) X295 hx (hb hby d2_227) rfl rfl ?_
    replace A_b23 := (A_b23.other W292 ne_b23_b26).other W294 ne_b23_b29
    refine Run.y_stI (q := 229) X295 hx hZ e295 A_b23 (i := 5) (by decide) (Nat.le_of_ble_eq_true rfl) (hb hby d2_228) rfl fun T296 h296 X296 e296 W296 A296 => ?_
    replace A_b23 : Ars Z h296 b23 .int [(.int 0), (.int 0), (.int 1), (.int 2), (.int 2), (.int 4)] := A296
    have N296 := Fr.snoc X296 N294 g_b23
    have Z296 : n0 ≤ h296.size := Nat.le_trans Z294 (Nat.le_of_eq W296.size.symm)
    refine Run.x_iload (q := 231) X296 hx (hb hby d2_229) rfl rfl ?_
    refine Run.x_aloadN (q := 232) X296 hx (hb hby d2_231) rfl rfl rfl ?_
    replace F_this_length := ((((F_this_length.other W283 (Or.inl ne_this_b26)).other W286 (Or.inl ne_this_b29)).other W292 (Or.inl ne_this_b26)).other W294 (Or.inl ne_this_b29)).other W296 (Or.inl ne_this_b23)
    refine Run.z_getF (q := 235) X296 hx hZ e296 hown (wm20 hw) F_this_length (hb hby d2_232) rfl fun T297 X297 e297 => ?_
    refine Run.x_icmpYes (q := 248) X297 hx (hb hby d2_235) (flt (by decide : ¬ ((4 : Int32) < (4 : Int32)))).2.1 (by decide) (by decide) ?_
    refine Run.x_iinc (q := 251) X297 hx #[.val (.ref this), .val (.ref pat), .val (.int 4), .val (.int 1), .val (.int 5), .val (.int 1)] (hb hby d2_248) rfl (z := (5 : Int32)) (by decide) rfl rfl ?_
    refine Run.x_goto (q := 96) X297 hx (hb hby d2_251) (by decide) (by decide) ?_
    refine Run.x_iload (q := 98) X297 hx (hb hby d2_96) rfl rfl ?_
    refine Run.x_aloadN (q := 99) X297 hx (hb hby d2_98) rfl rfl rfl ?_
    refine Run.z_getF (q := 102) X297 hx hZ e297 hown (wm20 hw) F_this_length (hb hby d2_99) rfl fun T298 X298 e298 => ?_
    refine Run.x_icmpYes (q := 254) X298 hx (hb hby d2_102) (tlt (by decide : (4 : Int32) < (5 : Int32))).2.2.1 (by decide) (by decide) ?_
    replace E_this := ((((E_this.wr W283).wr W286).wr W292).wr W294).wr W296
    replace F_this_forward := ((F_this_forward.other W292 (Or.inl ne_this_b26)).other W294 (Or.inl ne_this_b29)).other W296 (Or.inl ne_this_b23)
    replace F_this_rows := F_this_rows.other W296 (Or.inl ne_this_b23)
    replace F_this_units := ((F_this_units.other W292 (Or.inl ne_this_b26)).other W294 (Or.inl ne_this_b29)).other W296 (Or.inl ne_this_b23)
    replace F_this_targets := (F_this_targets.other W294 (Or.inl ne_this_b29)).other W296 (Or.inl ne_this_b23)
    replace A_pat := ((((A_pat.other W283 ne_pat_b26).other W286 ne_pat_b29).other W292 ne_pat_b26).other W294 ne_pat_b29).other W296 ne_pat_b23
    replace A_b4 := ((A_b4.other W292 ne_b4_b26).other W294 ne_b4_b29).other W296 ne_b4_b23
    replace A_b26 := (A_b26.other W294 ne_b26_b29).other W296 (Ne.symm ne_b23_b26)
    replace A_b29 := A_b29.other W296 (Ne.symm ne_b23_b29)
    refine Run.retV X298 hx hlk e298 hret (hb hby d2_254) (by decide) (by decide) ?_
    by_cases hq_c1_c2 : c1 = c2
    ·subst hq_c1_c2
     have R0 : own_rw 0 c0 [(0 : Int32), (0 : Int32), (1 : Int32), (2 : Int32), (2 : Int32), (4 : Int32)] [c0, c0, c0, c1] [(1 : Int32), (1 : Int32), (1 : Int32), (2 : Int32)] (fun u => (if c0 = u then (1 : Int32) else (0 : Int32))) := by
      refine ⟨0, 0, (0 : Int32), (0 : Int32), rfl, rfl, by decide, by decide, Nat.le_of_ble_eq_true rfl, Nat.le_of_ble_eq_true rfl, by decide, fun u hu => ?_⟩
      by_cases q_c0 : c0 = u
      ·subst q_c0
       exact Eq.trans (b := (1 : Int32)) (Eq.trans (own_next_p rfl) (by decide)) (Eq.symm (if_pos rfl))
      ·skip
       by_cases q_c1 : c1 = u
       ·subst q_c1
        exact Eq.trans (b := (0 : Int32)) (Eq.trans (own_next_n (fun h => hq_c0_c1 h.symm)) (rfl)) (Eq.symm (Eq.trans (if_neg (fun h => hq_c0_c1 h)) (rfl)))
       ·skip
        exact Eq.trans (b := (0 : Int32)) (Eq.trans (own_next_n (fun h => q_c0 h.symm)) (rfl)) (Eq.symm (Eq.trans (if_neg (fun h => q_c0 h)) (rfl)))
     have R1 : own_rw 1 c1 [(0 : Int32), (0 : Int32), (1 : Int32), (2 : Int32), (2 : Int32), (4 : Int32)] [c0, c0, c0, c1] [(1 : Int32), (1 : Int32), (1 : Int32), (2 : Int32)] (fun u => (if c0 = c0 ∧ c1 = u then (2 : Int32) else (if c0 = u then (1 : Int32) else (0 : Int32)))) := by
      refine ⟨0, 1, (0 : Int32), (1 : Int32), rfl, rfl, by decide, by decide, Nat.le_of_ble_eq_true rfl, Nat.le_of_ble_eq_true rfl, by decide, fun u hu => ?_⟩
      by_cases q_c0 : c0 = u
      ·subst q_c0
       exact Eq.trans (b := (1 : Int32)) (Eq.trans (own_next_n hq_c0_c1) (own_look_p rfl)) (Eq.symm (Eq.trans (if_neg (fun h => (fun h => hq_c0_c1 h.symm) h.2)) (if_pos rfl)))
      ·skip
       by_cases q_c1 : c1 = u
       ·subst q_c1
        exact Eq.trans (b := (2 : Int32)) (Eq.trans (own_next_p rfl) (by decide)) (Eq.symm (if_pos ⟨rfl, rfl⟩))
       ·skip
        exact Eq.trans (b := (0 : Int32)) (Eq.trans (own_next_n (fun h => q_c1 h.symm)) (Eq.trans (own_look_n q_c0) (rfl))) (Eq.symm (Eq.trans (if_neg (fun h => q_c1 h.2)) (Eq.trans (if_neg (fun h => q_c0 h)) (rfl))))
     have R2 : own_rw 2 c1 [(0 : Int32), (0 : Int32), (1 : Int32), (2 : Int32), (2 : Int32), (4 : Int32)] [c0, c0, c0, c1] [(1 : Int32), (1 : Int32), (1 : Int32), (2 : Int32)] (fun u => (if c0 = c0 ∧ c1 = c1 ∧ c1 = u then (3 : Int32) else (if c0 = c1 ∧ c1 = u then (2 : Int32) else (if c0 = u then (1 : Int32) else (0 : Int32))))) := by
      refine ⟨1, 1, (1 : Int32), (2 : Int32), rfl, rfl, by decide, by decide, Nat.le_of_ble_eq_true rfl, Nat.le_of_ble_eq_true rfl, by decide, fun u hu => ?_⟩
      by_cases q_c0 : c0 = u
      ·subst q_c0
       exact Eq.trans (b := (1 : Int32)) (Eq.trans (own_next_n hq_c0_c1) (own_look_p rfl)) (Eq.symm (Eq.trans (if_neg (fun h => (fun h => hq_c0_c1 h.symm) h.2.2)) (Eq.trans (if_neg (fun h => hq_c0_c1 h.1)) (if_pos rfl))))
      ·skip
       by_cases q_c1 : c1 = u
       ·subst q_c1
        exact Eq.trans (b := (3 : Int32)) (Eq.trans (own_next_p rfl) (by decide)) (Eq.symm (if_pos ⟨rfl, rfl, rfl⟩))
       ·skip
        exact Eq.trans (b := (0 : Int32)) (Eq.trans (own_next_n (fun h => q_c1 h.symm)) (Eq.trans (own_look_n q_c0) (rfl))) (Eq.symm (Eq.trans (if_neg (fun h => q_c1 h.2.2)) (Eq.trans (if_neg (fun h => hq_c0_c1 h.1)) (Eq.trans (if_neg (fun h => q_c0 h)) (rfl)))))
     have R3 : own_rw 3 c0 [(0 : Int32), (0 : Int32), (1 : Int32), (2 : Int32), (2 : Int32), (4 : Int32)] [c0, c0, c0, c1] [(1 : Int32), (1 : Int32), (1 : Int32), (2 : Int32)] (fun u => (if c0 = c0 ∧ c1 = c1 ∧ c1 = c1 ∧ c0 = u then (4 : Int32) else (if c0 = c1 ∧ c1 = c1 ∧ c1 = u then (3 : Int32) else (if c0 = c1 ∧ c1 = u then (2 : Int32) else (if c0 = u then (1 : Int32) else (0 : Int32)))))) := by
      refine ⟨2, 0, (2 : Int32), (2 : Int32), rfl, rfl, by decide, by decide, Nat.le_of_ble_eq_true rfl, Nat.le_of_ble_eq_true rfl, by decide, fun u hu => ?_⟩
      by_cases q_c0 : c0 = u
      ·subst q_c0
       exact Eq.trans (b := (4 : Int32)) (Eq.trans (own_next_p rfl) (by decide)) (Eq.symm (if_pos ⟨rfl, rfl, rfl, rfl⟩))
      ·skip
       by_cases q_c1 : c1 = u
       ·subst q_c1
        exact Eq.trans (b := (0 : Int32)) (Eq.trans (own_next_n (fun h => hq_c0_c1 h.symm)) (rfl)) (Eq.symm (Eq.trans (if_neg (fun h => hq_c0_c1 h.2.2.2)) (Eq.trans (if_neg (fun h => hq_c0_c1 h.1)) (Eq.trans (if_neg (fun h => hq_c0_c1 h.1)) (Eq.trans (if_neg (fun h => hq_c0_c1 h)) (rfl))))))
       ·skip
        exact Eq.trans (b := (0 : Int32)) (Eq.trans (own_next_n (fun h => q_c0 h.symm)) (rfl)) (Eq.symm (Eq.trans (if_neg (fun h => q_c0 h.2.2.2)) (Eq.trans (if_neg (fun h => hq_c0_c1 h.1)) (Eq.trans (if_neg (fun h => hq_c0_c1 h.1)) (Eq.trans (if_neg (fun h => q_c0 h)) (rfl))))))
     have R4 : own_rw 4 (-1 : Int32) [(0 : Int32), (0 : Int32), (1 : Int32), (2 : Int32), (2 : Int32), (4 : Int32)] [c0, c0, c0, c1] [(1 : Int32), (1 : Int32), (1 : Int32), (2 : Int32)] (fun u => (if c0 = c1 ∧ c1 = c1 ∧ c1 = c0 ∧ c0 = u then (4 : Int32) else (if c0 = c1 ∧ c1 = c0 ∧ c1 = u then (3 : Int32) else (if c0 = c0 ∧ c1 = u then (2 : Int32) else (if c0 = u then (1 : Int32) else (0 : Int32)))))) := by
      refine ⟨2, 2, (2 : Int32), (4 : Int32), rfl, rfl, by decide, by decide, Nat.le_of_ble_eq_true rfl, Nat.le_of_ble_eq_true rfl, by decide, fun u hu => ?_⟩
      by_cases q_c0 : c0 = u
      ·subst q_c0
       exact Eq.trans (b := (1 : Int32)) (Eq.trans (own_next_n (own_nm1 hr0.1)) (own_look_p rfl)) (Eq.symm (Eq.trans (if_neg (fun h => hq_c0_c1 h.1)) (Eq.trans (if_neg (fun h => hq_c0_c1 h.1)) (Eq.trans (if_neg (fun h => (fun h => hq_c0_c1 h.symm) h.2)) (if_pos rfl)))))
      ·skip
       by_cases q_c1 : c1 = u
       ·subst q_c1
        exact Eq.trans (b := (2 : Int32)) (Eq.trans (own_next_n (own_nm1 hr1.1)) (Eq.trans (own_look_n hq_c0_c1) (own_look_p rfl))) (Eq.symm (Eq.trans (if_neg (fun h => hq_c0_c1 h.1)) (Eq.trans (if_neg (fun h => hq_c0_c1 h.1)) (if_pos ⟨rfl, rfl⟩))))
       ·skip
        exact Eq.trans (b := (0 : Int32)) (Eq.trans (own_next_n (own_nm1 hu)) (Eq.trans (own_look_n q_c0) (Eq.trans (own_look_n q_c1) (rfl)))) (Eq.symm (Eq.trans (if_neg (fun h => hq_c0_c1 h.1)) (Eq.trans (if_neg (fun h => hq_c0_c1 h.1)) (Eq.trans (if_neg (fun h => q_c1 h.2)) (Eq.trans (if_neg (fun h => q_c0 h)) (rfl))))))
     exact ⟨b4, b23, b26, b29, [(0 : Int32), (0 : Int32), (1 : Int32), (2 : Int32), (2 : Int32), (4 : Int32)], [c0, c0, c0, c1], [(1 : Int32), (1 : Int32), (1 : Int32), (2 : Int32)], rfl, N296, E_this, F_this_forward, F_this_rows, F_this_units, F_this_targets, A_b4, A_b23, A_b26, A_b29, R0, R1, R2, R3, R4⟩
    ·skip
     have R0 : own_rw 0 c0 [(0 : Int32), (0 : Int32), (1 : Int32), (2 : Int32), (2 : Int32), (4 : Int32)] [c0, c0, c0, c1] [(1 : Int32), (1 : Int32), (1 : Int32), (2 : Int32)] (fun u => (if c0 = u then (1 : Int32) else (0 : Int32))) := by
      refine ⟨0, 0, (0 : Int32), (0 : Int32), rfl, rfl, by decide, by decide, Nat.le_of_ble_eq_true rfl, Nat.le_of_ble_eq_true rfl, by decide, fun u hu => ?_⟩
      by_cases q_c0 : c0 = u
      ·subst q_c0
       exact Eq.trans (b := (1 : Int32)) (Eq.trans (own_next_p rfl) (by decide)) (Eq.symm (if_pos rfl))
      ·skip
       by_cases q_c1 : c1 = u
       ·subst q_c1
        exact Eq.trans (b := (0 : Int32)) (Eq.trans (own_next_n (fun h => hq_c0_c1 h.symm)) (rfl)) (Eq.symm (Eq.trans (if_neg (fun h => hq_c0_c1 h)) (rfl)))
       ·skip
        by_cases q_c2 : c2 = u
        ·subst q_c2
         exact Eq.trans (b := (0 : Int32)) (Eq.trans (own_next_n (fun h => hq_c0_c2 h.symm)) (rfl)) (Eq.symm (Eq.trans (if_neg (fun h => hq_c0_c2 h)) (rfl)))
        ·skip
         exact Eq.trans (b := (0 : Int32)) (Eq.trans (own_next_n (fun h => q_c0 h.symm)) (rfl)) (Eq.symm (Eq.trans (if_neg (fun h => q_c0 h)) (rfl)))
     have R1 : own_rw 1 c1 [(0 : Int32), (0 : Int32), (1 : Int32), (2 : Int32), (2 : Int32), (4 : Int32)] [c0, c0, c0, c1] [(1 : Int32), (1 : Int32), (1 : Int32), (2 : Int32)] (fun u => (if c0 = c0 ∧ c1 = u then (2 : Int32) else (if c0 = u then (1 : Int32) else (0 : Int32)))) := by
      refine ⟨0, 1, (0 : Int32), (1 : Int32), rfl, rfl, by decide, by decide, Nat.le_of_ble_eq_true rfl, Nat.le_of_ble_eq_true rfl, by decide, fun u hu => ?_⟩
      by_cases q_c0 : c0 = u
      ·subst q_c0
       exact Eq.trans (b := (1 : Int32)) (Eq.trans (own_next_n hq_c0_c1) (own_look_p rfl)) (Eq.symm (Eq.trans (if_neg (fun h => (fun h => hq_c0_c1 h.symm) h.2)) (if_pos rfl)))
      ·skip
       by_cases q_c1 : c1 = u
       ·subst q_c1
        exact Eq.trans (b := (2 : Int32)) (Eq.trans (own_next_p rfl) (by decide)) (Eq.symm (if_pos ⟨rfl, rfl⟩))
       ·skip
        by_cases q_c2 : c2 = u
        ·subst q_c2
         exact Eq.trans (b := (0 : Int32)) (Eq.trans (own_next_n (fun h => hq_c1_c2 h.symm)) (Eq.trans (own_look_n hq_c0_c2) (rfl))) (Eq.symm (Eq.trans (if_neg (fun h => hq_c1_c2 h.2)) (Eq.trans (if_neg (fun h => hq_c0_c2 h)) (rfl))))
        ·skip
         exact Eq.trans (b := (0 : Int32)) (Eq.trans (own_next_n (fun h => q_c1 h.symm)) (Eq.trans (own_look_n q_c0) (rfl))) (Eq.symm (Eq.trans (if_neg (fun h => q_c1 h.2)) (Eq.trans (if_neg (fun h => q_c0 h)) (rfl))))
     have R2 : own_rw 2 c2 [(0 : Int32), (0 : Int32), (1 : Int32), (2 : Int32), (2 : Int32), (4 : Int32)] [c0, c0, c0, c1] [(1 : Int32), (1 : Int32), (1 : Int32), (2 : Int32)] (fun u => (if c0 = c0 ∧ c1 = c1 ∧ c2 = u then (3 : Int32) else (if c0 = c1 ∧ c1 = u then (2 : Int32) else (if c0 = u then (1 : Int32) else (0 : Int32))))) := by
      refine ⟨1, 1, (1 : Int32), (2 : Int32), rfl, rfl, by decide, by decide, Nat.le_of_ble_eq_true rfl, Nat.le_of_ble_eq_true rfl, by decide, fun u hu => ?_⟩
      by_cases q_c0 : c0 = u
      ·subst q_c0
       exact Eq.trans (b := (1 : Int32)) (Eq.trans (own_next_n hq_c0_c2) (own_look_p rfl)) (Eq.symm (Eq.trans (if_neg (fun h => (fun h => hq_c0_c2 h.symm) h.2.2)) (Eq.trans (if_neg (fun h => hq_c0_c1 h.1)) (if_pos rfl))))
      ·skip
       by_cases q_c1 : c1 = u
       ·subst q_c1
        exact Eq.trans (b := (0 : Int32)) (Eq.trans (own_next_n hq_c1_c2) (Eq.trans (own_look_n hq_c0_c1) (rfl))) (Eq.symm (Eq.trans (if_neg (fun h => (fun h => hq_c1_c2 h.symm) h.2.2)) (Eq.trans (if_neg (fun h => hq_c0_c1 h.1)) (Eq.trans (if_neg (fun h => hq_c0_c1 h)) (rfl)))))
       ·skip
        by_cases q_c2 : c2 = u
        ·subst q_c2
         exact Eq.trans (b := (3 : Int32)) (Eq.trans (own_next_p rfl) (by decide)) (Eq.symm (if_pos ⟨rfl, rfl, rfl⟩))
        ·skip
         exact Eq.trans (b := (0 : Int32)) (Eq.trans (own_next_n (fun h => q_c2 h.symm)) (Eq.trans (own_look_n q_c0) (rfl))) (Eq.symm (Eq.trans (if_neg (fun h => q_c2 h.2.2)) (Eq.trans (if_neg (fun h => hq_c0_c1 h.1)) (Eq.trans (if_neg (fun h => q_c0 h)) (rfl)))))
     have R3 : own_rw 3 c0 [(0 : Int32), (0 : Int32), (1 : Int32), (2 : Int32), (2 : Int32), (4 : Int32)] [c0, c0, c0, c1] [(1 : Int32), (1 : Int32), (1 : Int32), (2 : Int32)] (fun u => (if c0 = c0 ∧ c1 = c1 ∧ c2 = c2 ∧ c0 = u then (4 : Int32) else (if c0 = c1 ∧ c1 = c2 ∧ c2 = u then (3 : Int32) else (if c0 = c2 ∧ c1 = u then (2 : Int32) else (if c0 = u then (1 : Int32) else (0 : Int32)))))) := by
      refine ⟨2, 0, (2 : Int32), (2 : Int32), rfl, rfl, by decide, by decide, Nat.le_of_ble_eq_true rfl, Nat.le_of_ble_eq_true rfl, by decide, fun u hu => ?_⟩
      by_cases q_c0 : c0 = u
      ·subst q_c0
       exact Eq.trans (b := (4 : Int32)) (Eq.trans (own_next_p rfl) (by decide)) (Eq.symm (if_pos ⟨rfl, rfl, rfl, rfl⟩))
      ·skip
       by_cases q_c1 : c1 = u
       ·subst q_c1
        exact Eq.trans (b := (0 : Int32)) (Eq.trans (own_next_n (fun h => hq_c0_c1 h.symm)) (rfl)) (Eq.symm (Eq.trans (if_neg (fun h => hq_c0_c1 h.2.2.2)) (Eq.trans (if_neg (fun h => hq_c0_c1 h.1)) (Eq.trans (if_neg (fun h => hq_c0_c2 h.1)) (Eq.trans (if_neg (fun h => hq_c0_c1 h)) (rfl))))))
       ·skip
        by_cases q_c2 : c2 = u
        ·subst q_c2
         exact Eq.trans (b := (0 : Int32)) (Eq.trans (own_next_n (fun h => hq_c0_c2 h.symm)) (rfl)) (Eq.symm (Eq.trans (if_neg (fun h => hq_c0_c2 h.2.2.2)) (Eq.trans (if_neg (fun h => hq_c0_c1 h.1)) (Eq.trans (if_neg (fun h => hq_c0_c2 h.1)) (Eq.trans (if_neg (fun h => hq_c0_c2 h)) (rfl))))))
        ·skip
         exact Eq.trans (b := (0 : Int32)) (Eq.trans (own_next_n (fun h => q_c0 h.symm)) (rfl)) (Eq.symm (Eq.trans (if_neg (fun h => q_c0 h.2.2.2)) (Eq.trans (if_neg (fun h => hq_c0_c1 h.1)) (Eq.trans (if_neg (fun h => hq_c0_c2 h.1)) (Eq.trans (if_neg (fun h => q_c0 h)) (rfl))))))
     have R4 : own_rw 4 (-1 : Int32) [(0 : Int32), (0 : Int32), (1 : Int32), (2 : Int32), (2 : Int32), (4 : Int32)] [c0, c0, c0, c1] [(1 : Int32), (1 : Int32), (1 : Int32), (2 : Int32)] (fun u => (if c0 = c1 ∧ c1 = c2 ∧ c2 = c0 ∧ c0 = u then (4 : Int32) else (if c0 = c2 ∧ c1 = c0 ∧ c2 = u then (3 : Int32) else (if c0 = c0 ∧ c1 = u then (2 : Int32) else (if c0 = u then (1 : Int32) else (0 : Int32)))))) := by
      refine ⟨2, 2, (2 : Int32), (4 : Int32), rfl, rfl, by decide, by decide, Nat.le_of_ble_eq_true rfl, Nat.le_of_ble_eq_true rfl, by decide, fun u hu => ?_⟩
      by_cases q_c0 : c0 = u
      ·subst q_c0
       exact Eq.trans (b := (1 : Int32)) (Eq.trans (own_next_n (own_nm1 hr0.1)) (own_look_p rfl)) (Eq.symm (Eq.trans (if_neg (fun h => hq_c0_c1 h.1)) (Eq.trans (if_neg (fun h => hq_c0_c2 h.1)) (Eq.trans (if_neg (fun h => (fun h => hq_c0_c1 h.symm) h.2)) (if_pos rfl)))))
      ·skip
       by_cases q_c1 : c1 = u
       ·subst q_c1
        exact Eq.trans (b := (2 : Int32)) (Eq.trans (own_next_n (own_nm1 hr1.1)) (Eq.trans (own_look_n hq_c0_c1) (own_look_p rfl))) (Eq.symm (Eq.trans (if_neg (fun h => hq_c0_c1 h.1)) (Eq.trans (if_neg (fun h => hq_c0_c2 h.1)) (if_pos ⟨rfl, rfl⟩))))
       ·skip
        by_cases q_c2 : c2 = u
        ·subst q_c2
         exact Eq.trans (b := (0 : Int32)) (Eq.trans (own_next_n (own_nm1 hr2.1)) (Eq.trans (own_look_n hq_c0_c2) (Eq.trans (own_look_n hq_c1_c2) (rfl)))) (Eq.symm (Eq.trans (if_neg (fun h => hq_c0_c1 h.1)) (Eq.trans (if_neg (fun h => hq_c0_c2 h.1)) (Eq.trans (if_neg (fun h => hq_c1_c2 h.2)) (Eq.trans (if_neg (fun h => hq_c0_c2 h)) (rfl))))))
        ·skip
         exact Eq.trans (b := (0 : Int32)) (Eq.trans (own_next_n (own_nm1 hu)) (Eq.trans (own_look_n q_c0) (Eq.trans (own_look_n q_c1) (rfl)))) (Eq.symm (Eq.trans (if_neg (fun h => hq_c0_c1 h.1)) (Eq.trans (if_neg (fun h => hq_c0_c2 h.1)) (Eq.trans (if_neg (fun h => q_c1 h.2)) (Eq.trans (if_neg (fun h => q_c0 h)) (rfl))))))
     exact ⟨b4, b23, b26, b29, [(0 : Int32), (0 : Int32), (1 : Int32), (2 : Int32), (2 : Int32), (4 : Int32)], [c0, c0, c0, c1], [(1 : Int32), (1 : Int32), (1 : Int32), (2 : Int32)], rfl, N296, E_this, F_this_forward, F_this_rows, F_this_units, F_this_targets, A_b4, A_b23, A_b26, A_b29, R0, R1, R2, R3, R4⟩
    -- 
   ·skip
    refine Run.x_icmpNo (q := 194) X271 hx (hb hby d2_191) (feq hq_c0_c3).1 rfl ?_
    refine Run.x_aloadN (q := 195) X271 hx (hb hby d2_194) rfl rfl rfl ?_
    refine Run.z_getF (q := 198) X271 hx hZ e271 hown (wm27 hw) F_this_units (hb hby d2_195) rfl fun T299 X299 e299 => ?_
    refine Run.x_iloadN (q := 199) X299 hx (hb hby d2_198) rfl rfl ?_
    refine Run.x_aloadN (q := 200) X299 hx (hb hby d2_199) rfl rfl rfl ?_
    refine Run.z_getF (q := 203) X299 hx hZ e299 hown (wm23 hw) F_this_forward (hb hby d2_200) rfl fun T300 X300 e300 => ?_
    refine Run.x_iloadN (q := 204) X300 hx (hb hby d2_203) rfl rfl ?_
    refine Run.y_ldI (q := 205) X300 hx hZ e300 A_b4 (i := 0) (v := (.int c0)) (by decide) rfl (hb hby d2_204) rfl ?_
    refine Run.x_i2c (q := 206) X300 hx (hb hby d2_205) (z := c0) (own_ic hr0) rfl ?_
    refine Run.y_stC (q := 207) X300 hx hZ e300 A_b26 (i := 2) (by decide) (Nat.le_of_ble_eq_true rfl) (z' := c0) (own_nr hr0) (hb hby d2_206) rfl fun T301 h301 X301 e301 W301 A301 => ?_
    replace A_b26 : Ars Z h301 b26 .char [(.int c0), (.int c0), (.int c0), (.int 0)] := A301
    have N301 := Fr.snoc X301 N266 g_b26
    have Z301 : n0 ≤ h301.size := Nat.le_trans Z264 (Nat.le_of_eq W301.size.symm)
    refine Run.x_aloadN (q := 208) X301 hx (hb hby d2_207) rfl rfl rfl ?_
    replace F_this_targets := F_this_targets.other W301 (Or.inl ne_this_b26)
    refine Run.z_getF (q := 211) X301 hx hZ e301 hown (wm29 hw) F_this_targets (hb hby d2_208) rfl fun T302 X302 e302 => ?_
    refine Run.x_iloadN (q := 212) X302 hx (hb hby d2_211) rfl rfl ?_
    refine Run.x_iinc (q := 215) X302 hx #[.val (.ref this), .val (.ref pat), .val (.int 3), .val (.int 0), .val (.int 3), .val (.int 0)] (hb hby d2_212) rfl (z := (3 : Int32)) (by decide) rfl rfl ?_
    refine Run.x_iloadN (q := 216) X302 hx (hb hby d2_215) rfl rfl ?_
    refine Run.x_iconst (q := 217) X302 hx (hb hby d2_216) (z := (1 : Int32)) rfl rfl ?_
    refine Run.x_iadd (q := 218) X302 hx (hb hby d2_217) (z := (1 : Int32)) (by decide) rfl ?_
    replace A_b29 := A_b29.other W301 (Ne.symm ne_b26_b29)
    refine Run.y_stI (q := 219) X302 hx hZ e302 A_b29 (i := 2) (by decide) (Nat.le_of_ble_eq_true rfl) (hb hby d2_218) rfl fun T303 h303 X303 e303 W303 A303 => ?_
    replace A_b29 : Ars Z h303 b29 .int [(.int 1), (.int 1), (.int 1), (.int 0)] := A303
    have N303 := Fr.snoc X303 N301 g_b29
    have Z303 : n0 ≤ h303.size := Nat.le_trans Z301 (Nat.le_of_eq W303.size.symm)
    refine Run.x_aloadN (q := 220) X303 hx (hb hby d2_219) rfl rfl rfl ?_
    replace F_this_rows := (F_this_rows.other W301 (Or.inl ne_this_b26)).other W303 (Or.inl ne_this_b29)
    refine Run.z_getF (q := 223) X303 hx hZ e303 hown (wm25 hw) F_this_rows (hb hby d2_220) rfl fun T304 X304 e304 => ?_
    refine Run.x_iload (q := 225) X304 hx (hb hby d2_223) rfl rfl ?_
    refine Run.x_iconst (q := 226) X304 hx (hb hby d2_225) (z := (1 : Int32)) rfl rfl ?_
    refine Run.x_iadd (q := 227) X304 hx (hb hby d2_226) (z := (4 : Int32)) (by decide) rfl ?_
    refine Run.x_iloadN (q := 228) X304 hx (hb hby d2_227) rfl rfl ?_
    replace A_b23 := (A_b23.other W301 ne_b23_b26).other W303 ne_b23_b29
    refine Run.y_stI (q := 229) X304 hx hZ e304 A_b23 (i := 4) (by decide) (Nat.le_of_ble_eq_true rfl) (hb hby d2_228) rfl fun T305 h305 X305 e305 W305 A305 => ?_
    replace A_b23 : Ars Z h305 b23 .int [(.int 0), (.int 0), (.int 1), (.int 2), (.int 3), (.int 0)] := A305
    have N305 := Fr.snoc X305 N303 g_b23
    have Z305 : n0 ≤ h305.size := Nat.le_trans Z303 (Nat.le_of_eq W305.size.symm)
    refine Run.x_iload (q := 231) X305 hx (hb hby d2_229) rfl rfl ?_
    refine Run.x_aloadN (q := 232) X305 hx (hb hby d2_231) rfl rfl rfl ?_
    replace F_this_length := ((F_this_length.other W301 (Or.inl ne_this_b26)).other W303 (Or.inl ne_this_b29)).other W305 (Or.inl ne_this_b23)
    refine Run.z_getF (q := 235) X305 hx hZ e305 hown (wm20 hw) F_this_length (hb hby d2_232) rfl fun T306 X306 e306 => ?_
    refine Run.x_icmpNo (q := 238) X306 hx (hb hby d2_235) (tlt (by decide : (3 : Int32) < (4 : Int32))).2.1 rfl ?_
    refine Run.x_aloadN (q := 239) X306 hx (hb hby d2_238) rfl rfl rfl ?_
    refine Run.x_iloadN (q := 240) X306 hx (hb hby d2_239) rfl rfl ?_
    refine Run.x_aloadN (q := 241) X306 hx (hb hby d2_240) rfl rfl rfl ?_
    refine Run.x_iload (q := 243) X306 hx (hb hby d2_241) rfl rfl ?_
    replace A_pat := ((A_pat.other W301 ne_pat_b26).other W303 ne_pat_b29).other W305 ne_pat_b23
    refine Run.y_ldC (q := 244) X306 hx hZ e306 A_pat (i := 3) (v := (.int c3)) (by decide) rfl (hb hby d2_243) rfl ?_
    replace E_this := ((E_this.wr W301).wr W303).wr W305
    replace F_this_forward := ((F_this_forward.other W301 (Or.inl ne_this_b26)).other W303 (Or.inl ne_this_b29)).other W305 (Or.inl ne_this_b23)
    replace F_this_rows := F_this_rows.other W305 (Or.inl ne_this_b23)
    replace F_this_units := ((F_this_units.other W301 (Or.inl ne_this_b26)).other W303 (Or.inl ne_this_b29)).other W305 (Or.inl ne_this_b23)
    replace F_this_targets := (F_this_targets.other W303 (Or.inl ne_this_b29)).other W305 (Or.inl ne_this_b23)
    replace A_b4 := ((A_b4.other W301 ne_b4_b26).other W303 ne_b4_b29).other W305 ne_b4_b23
    replace A_b26 := (A_b26.other W303 ne_b26_b29).other W305 (Ne.symm ne_b23_b26)
    replace A_b29 := A_b29.other W305 (Ne.symm ne_b23_b29)
    refine Run.callVI (q := 247) X306 hx hZ e306 (y := (⟨"needlewise/kmp/SparseAutomaton", "next", "(IC)I"⟩ : MethodName)) (z := (⟨"needlewise/kmp/SparseAutomaton", "next", "(IC)I"⟩ : MethodName)) hown (wm39 hw) (wm32 hw) (notFace_of_selects (args := #[]) (mvT hZ (wm34 hw))) (wm34 hw) (wm33 hw) (wm9 hw) (wm35 hw) (by decide) (a := this) E_this (argsL := [(.int 0), (.int c3)]) (rest := []) (c_next l Z a0 hw this (0 : Int32) c3 h305 n0 Z305 b4 b23 b26 b29 [(.int c0), (.int c1), (.int c2), (.int c3), (.int (-1))] [(.int 0), (.int 0), (.int 1), (.int 2), (.int 3), (.int 0)] [c0, c0, c0, (0 : Int32)] [(1 : Int32), (1 : Int32), (1 : Int32), (0 : Int32)] 0 0 0 c0 (0 : Int32) (0 : Int32) (0 : Int32) E_this F_this_forward F_this_rows F_this_units F_this_targets A_b4 A_b23 A_b26 A_b29 (by decide) (by decide) rfl rfl rfl (by decide) (by decide) (Nat.le_of_ble_eq_true rfl) (Nat.le_of_ble_eq_true rfl) (by decide) (Eq.trans (own_next_n (fun h => hq_c0_c3 h.symm)) (rfl))) pd_0 rfl (by rw [hml]; rfl) (W := 0) rfl (by decide) (by decide) (by decide) (by decide) (hb hby d2_244) rfl rfl fun T307 L307 X307 M307 e307 => ?_
    have N307 := Fr.app N305 M307
    refine Run.x_istoreN (q := 248) X307 hx #[.val (.ref this), .val (.ref pat), .val (.int 3), .val (.int 0), .val (.int 3), .val (.int 0)] (hb hby d2_247) rfl rfl ?_
    refine Run.x_iinc (q := 251) X307 hx #[.val (.ref this), .val (.ref pat), .val (.int 3), .val (.int 0), .val (.int 4), .val (.int 0)] (hb hby d2_248) rfl (z := (4 : Int32)) (by decide) rfl rfl ?_
    refine Run.x_goto (q := 96) X307 hx (hb hby d2_251) (by decide) (by decide) ?_
    refine Run.x_iload (q := 98) X307 hx (hb hby d2_96) rfl rfl ?_
    refine Run.x_aloadN (q := 99) X307 hx (hb hby d2_98) rfl rfl rfl ?_
    refine Run.z_getF (q := 102) X307 hx hZ e307 hown (wm20 hw) F_this_length (hb hby d2_99) rfl fun T308 X308 e308 => ?_
    refine Run.x_icmpNo (q := 105) X308 hx (hb hby d2_102) (flt (by decide : ¬ ((4 : Int32) < (4 : Int32)))).2.2.1 rfl ?_
    refine Run.x_aloadN (q := 106) X308 hx (hb hby d2_105) rfl rfl rfl ?_
    refine Run.z_getF (q := 109) X308 hx hZ e308 hown (wm25 hw) F_this_rows (hb hby d2_106) rfl fun T309 X309 e309 => ?_
    refine Run.x_iloadN (q := 110) X309 hx (hb hby d2_109) rfl rfl ?_
    refine Run.y_ldI (q := 111) X309 hx hZ e309 A_b23 (i := 0) (v := (.int 0)) (by decide) rfl (hb hby d2_110) rfl ?_
    refine Run.x_istore (q := 113) X309 hx #[.val (.ref this), .val (.ref pat), .val (.int 3), .val (.int 0), .val (.int 4), .val (.int 0)] (hb hby d2_111) rfl rfl ?_
    refine Run.x_iload (q := 115) X309 hx (hb hby d2_113) rfl rfl ?_
    refine Run.x_aloadN (q := 116) X309 hx (hb hby d2_115) rfl rfl rfl ?_
    refine Run.z_getF (q := 119) X309 hx hZ e309 hown (wm25 hw) F_this_rows (hb hby d2_116) rfl fun T310 X310 e310 => ?_
    refine Run.x_iloadN (q := 120) X310 hx (hb hby d2_119) rfl rfl ?_
    refine Run.x_iconst (q := 121) X310 hx (hb hby d2_120) (z := (1 : Int32)) rfl rfl ?_
    refine Run.x_iadd (q := 122) X310 hx (hb hby d2_121) (z := (1 : Int32)) (by decide) rfl ?_
    refine Run.y_ldI (q := 123) X310 hx hZ e310 A_b23 (i := 1) (v := (.int 0)) (by decide) rfl (hb hby d2_122) rfl ?_
    refine Run.x_icmpYes (q := 178) X310 hx (hb hby d2_123) (flt (by decide : ¬ ((0 : Int32) < (0 : Int32)))).2.1 (by decide) (by decide) ?_
    refine Run.x_aloadN (q := 179) X310 hx (hb hby d2_178) rfl rfl rfl ?_
    refine Run.z_getF (q := 182) X310 hx hZ e310 hown (wm23 hw) F_this_forward (hb hby d2_179) rfl fun T311 X311 e311 => ?_
    refine Run.x_iloadN (q := 183) X311 hx (hb hby d2_182) rfl rfl ?_
    refine Run.y_ldI (q := 184) X311 hx hZ e311 A_b4 (i := 0) (v := (.int c0)) (by decide) rfl (hb hby d2_183) rfl ?_
    refine Run.x_aloadN (q := 185) X311 hx (hb hby d2_184) rfl rfl rfl ?_
    refine Run.z_getF (q := 188) X311 hx hZ e311 hown (wm23 hw) F_this_forward (hb hby d2_185) rfl fun T312 X312 e312 => ?_
    refine Run.x_iload (q := 190) X312 hx (hb hby d2_188) rfl rfl ?_
    refine Run.y_ldI (q := 191) X312 hx hZ e312 A_b4 (i := 4) (v := (.int (-1))) (by decide) rfl (hb hby d2_190) rfl ?_
    refine Run.x_icmpNo (q := 194) X312 hx (hb hby d2_191) (feq (own_nm1 hr0.1)).1 rfl ?_
    refine Run.x_aloadN (q := 195) X312 hx (hb hby d2_194) rfl rfl rfl ?_
    refine Run.z_getF (q := 198) X312 hx hZ e312 hown (wm27 hw) F_this_units (hb hby d2_195) rfl fun T313 X313 e313 => ?_
    refine Run.x_iloadN (q := 199) X313 hx (hb hby d2_198) rfl rfl ?_
    refine Run.x_aloadN (q := 200) X313 hx (hb hby d2_199) rfl rfl rfl ?_
    refine Run.z_getF (q := 203) X313 hx hZ e313 hown (wm23 hw) F_this_forward (hb hby d2_200) rfl fun T314 X314 e314 => ?_
    refine Run.x_iloadN (q := 204) X314 hx (hb hby d2_203) rfl rfl ?_
    refine Run.y_ldI (q := 205) X314 hx hZ e314 A_b4 (i := 0) (v := (.int c0)) (by decide) rfl (hb hby d2_204) rfl ?_
    refine Run.x_i2c (q := 206) X314 hx (hb hby d2_205) (z := c0) (own_ic hr0) rfl ?_
    refine Run.y_stC (q := 207) X314 hx hZ e314 A_b26 (i := 3) (by decide) (Nat.le_of_ble_eq_true rfl) (z' := c0) (own_nr hr0) (hb hby d2_206) rfl fun T315 h315 X315 e315 W315 A315 => ?_
    replace A_b26 : Ars Z h315 b26 .char [(.int c0), (.int c0), (.int c0), (.int c0)] := A315
    have N315 := Fr.snoc X315 N307 g_b26
    have Z315 : n0 ≤ h315.size := Nat.le_trans Z305 (Nat.le_of_eq W315.size.symm)
    refine Run.x_aloadN (q := 208) X315 hx (hb hby d2_207) rfl rfl rfl ?_
    replace F_this_targets := F_this_targets.other W315 (Or.inl ne_this_b26)
    refine Run.z_getF (q := 211) X315 hx hZ e315 hown (wm29 hw) F_this_targets (hb hby d2_208) rfl fun T316 X316 e316 => ?_
    refine Run.x_iloadN (q := 212) X316 hx (hb hby d2_211) rfl rfl ?_
    refine Run.x_iinc (q := 215) X316 hx #[.val (.ref this), .val (.ref pat), .val (.int 4), .val (.int 0), .val (.int 4), .val (.int 0)] (hb hby d2_212) rfl (z := (4 : Int32)) (by decide) rfl rfl ?_
    refine Run.x_iloadN (q := 216) X316 hx (hb hby d2_215) rfl rfl ?_
    refine Run.x_iconst (q := 217) X316 hx (hb hby d2_216) (z := (1 : Int32)) rfl rfl ?_
    refine Run.x_iadd (q := 218) X316 hx (hb hby d2_217) (z := (1 : Int32)) (by decide) rfl ?_
    replace A_b29 := A_b29.other W315 (Ne.symm ne_b26_b29)
    refine Run.y_stI (q := 219) X316 hx hZ e316 A_b29 (i := 3) (by decide) (Nat.le_of_ble_eq_true rfl) (hb hby d2_218) rfl fun T317 h317 X317 e317 W317 A317 => ?_
    replace A_b29 : Ars Z h317 b29 .int [(.int 1), (.int 1), (.int 1), (.int 1)] := A317
    have N317 := Fr.snoc X317 N315 g_b29
    have Z317 : n0 ≤ h317.size := Nat.le_trans Z315 (Nat.le_of_eq W317.size.symm)
    refine Run.x_aloadN (q := 220) X317 hx (hb hby d2_219) rfl rfl rfl ?_
    replace F_this_rows := (F_this_rows.other W315 (Or.inl ne_this_b26)).other W317 (Or.inl ne_this_b29)
    refine Run.z_getF (q := 223) X317 hx hZ e317 hown (wm25 hw) F_this_rows (hb hby d2_220) rfl fun T318 X318 e318 => ?_
    refine Run.x_iload (q := 225) X318 hx (hb hby d2_223) rfl rfl ?_
    refine Run.x_iconst (q := 226) X318 hx (hb hby d2_225) (z := (1 : Int32)) rfl rfl ?_
    refine Run.x_iadd (q := 227) X318 hx (hb hby d2_226) (z := (5 : Int32)) (by decide) rfl ?_
    refine Run.x_iloadN (q := 228) X318 hx (hb hby d2_227) rfl rfl ?_
    replace A_b23 := (A_b23.other W315 ne_b23_b26).other W317 ne_b23_b29
    refine Run.y_stI (q := 229) X318 hx hZ e318 A_b23 (i := 5) (by decide) (Nat.le_of_ble_eq_true rfl) (hb hby d2_228) rfl fun T319 h319 X319 e319 W319 A319 => ?_
    replace A_b23 : Ars Z h319 b23 .int [(.int 0), (.int 0), (.int 1), (.int 2), (.int 3), (.int 4)] := A319
    have N319 := Fr.snoc X319 N317 g_b23
    have Z319 : n0 ≤ h319.size := Nat.le_trans Z317 (Nat.le_of_eq W319.size.symm)
    refine Run.x_iload (q := 231) X319 hx (hb hby d2_229) rfl rfl ?_
    refine Run.x_aloadN (q := 232) X319 hx (hb hby d2_231) rfl rfl rfl ?_
    replace F_this_length := ((F_this_length.other W315 (Or.inl ne_this_b26)).other W317 (Or.inl ne_this_b29)).other W319 (Or.inl ne_this_b23)
    refine Run.z_getF (q := 235) X319 hx hZ e319 hown (wm20 hw) F_this_length (hb hby d2_232) rfl fun T320 X320 e320 => ?_
    refine Run.x_icmpYes (q := 248) X320 hx (hb hby d2_235) (flt (by decide : ¬ ((4 : Int32) < (4 : Int32)))).2.1 (by decide) (by decide) ?_
    refine Run.x_iinc (q := 251) X320 hx #[.val (.ref this), .val (.ref pat), .val (.int 4), .val (.int 0), .val (.int 5), .val (.int 0)] (hb hby d2_248) rfl (z := (5 : Int32)) (by decide) rfl rfl ?_
    refine Run.x_goto (q := 96) X320 hx (hb hby d2_251) (by decide) (by decide) ?_
    refine Run.x_iload (q := 98) X320 hx (hb hby d2_96) rfl rfl ?_
    refine Run.x_aloadN (q := 99) X320 hx (hb hby d2_98) rfl rfl rfl ?_
    refine Run.z_getF (q := 102) X320 hx hZ e320 hown (wm20 hw) F_this_length (hb hby d2_99) rfl fun T321 X321 e321 => ?_
    refine Run.x_icmpYes (q := 254) X321 hx (hb hby d2_102) (tlt (by decide : (4 : Int32) < (5 : Int32))).2.2.1 (by decide) (by decide) ?_
    replace E_this := ((E_this.wr W315).wr W317).wr W319
    replace F_this_forward := ((F_this_forward.other W315 (Or.inl ne_this_b26)).other W317 (Or.inl ne_this_b29)).other W319 (Or.inl ne_this_b23)
    replace F_this_rows := F_this_rows.other W319 (Or.inl ne_this_b23)
    replace F_this_units := ((F_this_units.other W315 (Or.inl ne_this_b26)).other W317 (Or.inl ne_this_b29)).other W319 (Or.inl ne_this_b23)
    replace F_this_targets := (F_this_targets.other W317 (Or.inl ne_this_b29)).other W319 (Or.inl ne_this_b23)
    replace A_pat := ((A_pat.other W315 ne_pat_b26).other W317 ne_pat_b29).other W319 ne_pat_b23
    replace A_b4 := ((A_b4.other W315 ne_b4_b26).other W317 ne_b4_b29).other W319 ne_b4_b23
    replace A_b26 := (A_b26.other W317 ne_b26_b29).other W319 (Ne.symm ne_b23_b26)
    replace A_b29 := A_b29.other W319 (Ne.symm ne_b23_b29)
    refine Run.retV X321 hx hlk e321 hret (hb hby d2_254) (by decide) (by decide) ?_
    by_cases hq_c1_c2 : c1 = c2
    ·subst hq_c1_c2
     by_cases hq_c1_c3 : c1 = c3
     ·subst hq_c1_c3
      have R0 : own_rw 0 c0 [(0 : Int32), (0 : Int32), (1 : Int32), (2 : Int32), (3 : Int32), (4 : Int32)] [c0, c0, c0, c0] [(1 : Int32), (1 : Int32), (1 : Int32), (1 : Int32)] (fun u => (if c0 = u then (1 : Int32) else (0 : Int32))) := by
       refine ⟨0, 0, (0 : Int32), (0 : Int32), rfl, rfl, by decide, by decide, Nat.le_of_ble_eq_true rfl, Nat.le_of_ble_eq_true rfl, by decide, fun u hu => ?_⟩
       by_cases q_c0 : c0 = u
       ·subst q_c0
        exact Eq.trans (b := (1 : Int32)) (Eq.trans (own_next_p rfl) (by decide)) (Eq.symm (if_pos rfl))
       ·skip
        by_cases q_c1 : c1 = u
        ·subst q_c1
         exact Eq.trans (b := (0 : Int32)) (Eq.trans (own_next_n (fun h => hq_c0_c1 h.symm)) (rfl)) (Eq.symm (Eq.trans (if_neg (fun h => hq_c0_c1 h)) (rfl)))
        ·skip
         exact Eq.trans (b := (0 : Int32)) (Eq.trans (own_next_n (fun h => q_c0 h.symm)) (rfl)) (Eq.symm (Eq.trans (if_neg (fun h => q_c0 h)) (rfl)))
      have R1 : own_rw 1 c1 [(0 : Int32), (0 : Int32), (1 : Int32), (2 : Int32), (3 : Int32), (4 : Int32)] [c0, c0, c0, c0] [(1 : Int32), (1 : Int32), (1 : Int32), (1 : Int32)] (fun u => (if c0 = c0 ∧ c1 = u then (2 : Int32) else (if c0 = u then (1 : Int32) else (0 : Int32)))) := by
       refine ⟨0, 1, (0 : Int32), (1 : Int32), rfl, rfl, by decide, by decide, Nat.le_of_ble_eq_true rfl, Nat.le_of_ble_eq_true rfl, by decide, fun u hu => ?_⟩
       by_cases q_c0 : c0 = u
       ·subst q_c0
        exact Eq.trans (b := (1 : Int32)) (Eq.trans (own_next_n hq_c0_c1) (own_look_p rfl)) (Eq.symm (Eq.trans (if_neg (fun h => (fun h => hq_c0_c1 h.symm) h.2)) (if_pos rfl)))
       ·skip
        by_cases q_c1 : c1 = u
        ·subst q_c1
         exact Eq.trans (b := (2 : Int32)) (Eq.trans (own_next_p rfl) (by decide)) (Eq.symm (if_pos ⟨rfl, rfl⟩))
        ·skip
         exact Eq.trans (b := (0 : Int32)) (Eq.trans (own_next_n (fun h => q_c1 h.symm)) (Eq.trans (own_look_n q_c0) (rfl))) (Eq.symm (Eq.trans (if_neg (fun h => q_c1 h.2)) (Eq.trans (if_neg (fun h => q_c0 h)) (rfl))))
      have R2 : own_rw 2 c1 [(0 : Int32), (0 : Int32), (1 : Int32), (2 : Int32), (3 : Int32), (4 : Int32)] [c0, c0, c0, c0] [(1 : Int32), (1 : Int32), (1 : Int32), (1 : Int32)] (fun u => (if c0 = c0 ∧ c1 = c1 ∧ c1 = u then (3 : Int32) else (if c0 = c1 ∧ c1 = u then (2 : Int32) else (if c0 = u then (1 : Int32) else (0 : Int32))))) := by
       refine ⟨1, 1, (1 : Int32), (2 : Int32), rfl, rfl, by decide, by decide, Nat.le_of_ble_eq_true rfl, Nat.le_of_ble_eq_true rfl, by decide, fun u hu => ?_⟩
       by_cases q_c0 : c0 = u
       ·subst q_c0
        exact Eq.trans (b := (1 : Int32)) (Eq.trans (own_next_n hq_c0_c1) (own_look_p rfl)) (Eq.symm (Eq.trans (if_neg (fun h => (fun h => hq_c0_c1 h.symm) h.2.2)) (Eq.trans (if_neg (fun h => hq_c0_c1 h.1)) (if_pos rfl))))
       ·skip
        by_cases q_c1 : c1 = u
        ·subst q_c1
         exact Eq.trans (b := (3 : Int32)) (Eq.trans (own_next_p rfl) (by decide)) (Eq.symm (if_pos ⟨rfl, rfl, rfl⟩))
        ·skip
         exact Eq.trans (b := (0 : Int32)) (Eq.trans (own_next_n (fun h => q_c1 h.symm)) (Eq.trans (own_look_n q_c0) (rfl))) (Eq.symm (Eq.trans (if_neg (fun h => q_c1 h.2.2)) (Eq.trans (if_neg (fun h => hq_c0_c1 h.1)) (Eq.trans (if_neg (fun h => q_c0 h)) (rfl)))))
      have R3 : own_rw 3 c1 [(0 : Int32), (0 : Int32), (1 : Int32), (2 : Int32), (3 : Int32), (4 : Int32)] [c0, c0, c0, c0] [(1 : Int32), (1 : Int32), (1 : Int32), (1 : Int32)] (fun u => (if c0 = c0 ∧ c1 = c1 ∧ c1 = c1 ∧ c1 = u then (4 : Int32) else (if c0 = c1 ∧ c1 = c1 ∧ c1 = u then (3 : Int32) else (if c0 = c1 ∧ c1 = u then (2 : Int32) else (if c0 = u then (1 : Int32) else (0 : Int32)))))) := by
       refine ⟨2, 1, (2 : Int32), (3 : Int32), rfl, rfl, by decide, by decide, Nat.le_of_ble_eq_true rfl, Nat.le_of_ble_eq_true rfl, by decide, fun u hu => ?_⟩
       by_cases q_c0 : c0 = u
       ·subst q_c0
        exact Eq.trans (b := (1 : Int32)) (Eq.trans (own_next_n hq_c0_c1) (own_look_p rfl)) (Eq.symm (Eq.trans (if_neg (fun h => (fun h => hq_c0_c1 h.symm) h.2.2.2)) (Eq.trans (if_neg (fun h => hq_c0_c1 h.1)) (Eq.trans (if_neg (fun h => hq_c0_c1 h.1)) (if_pos rfl)))))
       ·skip
        by_cases q_c1 : c1 = u
        ·subst q_c1
         exact Eq.trans (b := (4 : Int32)) (Eq.trans (own_next_p rfl) (by decide)) (Eq.symm (if_pos ⟨rfl, rfl, rfl, rfl⟩))
        ·skip
         exact Eq.trans (b := (0 : Int32)) (Eq.trans (own_next_n (fun h => q_c1 h.symm)) (Eq.trans (own_look_n q_c0) (rfl))) (Eq.symm (Eq.trans (if_neg (fun h => q_c1 h.2.2.2)) (Eq.trans (if_neg (fun h => hq_c0_c1 h.1)) (Eq.trans (if_neg (fun h => hq_c0_c1 h.1)) (Eq.trans (if_neg (fun h => q_c0 h)) (rfl))))))
      have R4 : own_rw 4 (-1 : Int32) [(0 : Int32), (0 : Int32), (1 : Int32), (2 : Int32), (3 : Int32), (4 : Int32)] [c0, c0, c0, c0] [(1 : Int32), (1 : Int32), (1 : Int32), (1 : Int32)] (fun u => (if c0 = c1 ∧ c1 = c1 ∧ c1 = c1 ∧ c1 = u then (4 : Int32) else (if c0 = c1 ∧ c1 = c1 ∧ c1 = u then (3 : Int32) else (if c0 = c1 ∧ c1 = u then (2 : Int32) else (if c0 = u then (1 : Int32) else (0 : Int32)))))) := by
       refine ⟨3, 1, (3 : Int32), (4 : Int32), rfl, rfl, by decide, by decide, Nat.le_of_ble_eq_true rfl, Nat.le_of_ble_eq_true rfl, by decide, fun u hu => ?_⟩
       by_cases q_c0 : c0 = u
       ·subst q_c0
        exact Eq.trans (b := (1 : Int32)) (Eq.trans (own_next_n (own_nm1 hr0.1)) (own_look_p rfl)) (Eq.symm (Eq.trans (if_neg (fun h => hq_c0_c1 h.1)) (Eq.trans (if_neg (fun h => hq_c0_c1 h.1)) (Eq.trans (if_neg (fun h => hq_c0_c1 h.1)) (if_pos rfl)))))
       ·skip
        by_cases q_c1 : c1 = u
        ·subst q_c1
         exact Eq.trans (b := (0 : Int32)) (Eq.trans (own_next_n (own_nm1 hr1.1)) (Eq.trans (own_look_n hq_c0_c1) (rfl))) (Eq.symm (Eq.trans (if_neg (fun h => hq_c0_c1 h.1)) (Eq.trans (if_neg (fun h => hq_c0_c1 h.1)) (Eq.trans (if_neg (fun h => hq_c0_c1 h.1)) (Eq.trans (if_neg (fun h => hq_c0_c1 h)) (rfl))))))
        ·skip
         exact Eq.trans (b := (0 : Int32)) (Eq.trans (own_next_n (own_nm1 hu)) (Eq.trans (own_look_n q_c0) (rfl))) (Eq.symm (Eq.trans (if_neg (fun h => hq_c0_c1 h.1)) (Eq.trans (if_neg (fun h => hq_c0_c1 h.1)) (Eq.trans (if_neg (fun h => hq_c0_c1 h.1)) (Eq.trans (if_neg (fun h => q_c0 h)) (rfl))))))
      exact ⟨b4, b23, b26, b29, [(0 : Int32), (0 : Int32), (1 : Int32), (2 : Int32), (3 : Int32), (4 : Int32)], [c0, c0, c0, c0], [(1 : Int32), (1 : Int32), (1 : Int32), (1 : Int32)], rfl, N319, E_this, F_this_forward, F_this_rows, F_this_units, F_this_targets, A_b4, A_b23, A_b26, A_b29, R0, R1, R2, R3, R4⟩
     ·skip
      have R0 : own_rw 0 c0 [(0 : Int32), (0 : Int32), (1 : Int32), (2 : Int32), (3 : Int32), (4 : Int32)] [c0, c0, c0, c0] [(1 : Int32), (1 : Int32), (1 : Int32), (1 : Int32)] (fun u => (if c0 = u then (1 : Int32) else (0 : Int32))) := by
       refine ⟨0, 0, (0 : Int32), (0 : Int32), rfl, rfl, by decide, by decide, Nat.le_of_ble_eq_true rfl, Nat.le_of_ble_eq_true rfl, by decide, fun u hu => ?_⟩
       by_cases q_c0 : c0 = u
       ·subst q_c0
        exact Eq.trans (b := (1 : Int32)) (Eq.trans (own_next_p rfl) (by decide)) (Eq.symm (if_pos rfl))
       ·skip
        by_cases q_c1 : c1 = u
        ·subst q_c1
         exact Eq.trans (b := (0 : Int32)) (Eq.trans (own_next_n (fun h => hq_c0_c1 h.symm)) (rfl)) (Eq.symm (Eq.trans (if_neg (fun h => hq_c0_c1 h)) (rfl)))
        ·skip
         by_cases q_c3 : c3 = u
         ·subst q_c3
          exact Eq.trans (b := (0 : Int32)) (Eq.trans (own_next_n (fun h => hq_c0_c3 h.symm)) (rfl)) (Eq.symm (Eq.trans (if_neg (fun h => hq_c0_c3 h)) (rfl)))
         ·skip
          exact Eq.trans (b := (0 : Int32)) (Eq.trans (own_next_n (fun h => q_c0 h.symm)) (rfl)) (Eq.symm (Eq.trans (if_neg (fun h => q_c0 h)) (rfl)))
      have R1 : own_rw 1 c1 [(0 : Int32), (0 : Int32), (1 : Int32), (2 : Int32), (3 : Int32), (4 : Int32)] [c0, c0, c0, c0] [(1 : Int32), (1 : Int32), (1 : Int32), (1 : Int32)] (fun u => (if c0 = c0 ∧ c1 = u then (2 : Int32) else (if c0 = u then (1 : Int32) else (0 : Int32)))) := by
       refine ⟨0, 1, (0 : Int32), (1 : Int32), rfl, rfl, by decide, by decide, Nat.le_of_ble_eq_true rfl, Nat.le_of_ble_eq_true rfl, by decide, fun u hu => ?_⟩
       by_cases q_c0 : c0 = u
       ·subst q_c0
        exact Eq.trans (b := (1 : Int32)) (Eq.trans (own_next_n hq_c0_c1) (own_look_p rfl)) (Eq.symm (Eq.trans (if_neg (fun h => (fun h => hq_c0_c1 h.symm) h.2)) (if_pos rfl)))
       ·skip
        by_cases q_c1 : c1 = u
        ·subst q_c1
         exact Eq.trans (b := (2 : Int32)) (Eq.trans (own_next_p rfl) (by decide)) (Eq.symm (if_pos ⟨rfl, rfl⟩))
        ·skip
         by_cases q_c3 : c3 = u
         ·subst q_c3
          exact Eq.trans (b := (0 : Int32)) (Eq.trans (own_next_n (fun h => hq_c1_c3 h.symm)) (Eq.trans (own_look_n hq_c0_c3) (rfl))) (Eq.symm (Eq.trans (if_neg (fun h => hq_c1_c3 h.2)) (Eq.trans (if_neg (fun h => hq_c0_c3 h)) (rfl))))
         ·skip
          exact Eq.trans (b := (0 : Int32)) (Eq.trans (own_next_n (fun h => q_c1 h.symm)) (Eq.trans (own_look_n q_c0) (rfl))) (Eq.symm (Eq.trans (if_neg (fun h => q_c1 h.2)) (Eq.trans (if_neg (fun h => q_c0 h)) (rfl))))
      have R2 : own_rw 2 c1 [(0 : Int32), (0 : Int32), (1 : Int32), (2 : Int32), (3 : Int32), (4 : Int32)] [c0, c0, c0, c0] [(1 : Int32), (1 : Int32), (1 : Int32), (1 : Int32)] (fun u => (if c0 = c0 ∧ c1 = c1 ∧ c1 = u then (3 : Int32) else (if c0 = c1 ∧ c1 = u then (2 : Int32) else (if c0 = u then (1 : Int32) else (0 : Int32))))) := by
       refine ⟨1, 1, (1 : Int32), (2 : Int32), rfl, rfl, by decide, by decide, Nat.le_of_ble_eq_true rfl, Nat.le_of_ble_eq_true rfl, by decide, fun u hu => ?_⟩
       by_cases q_c0 : c0 = u
       ·subst q_c0
        exact Eq.trans (b := (1 : Int32)) (Eq.trans (own_next_n hq_c0_c1) (own_look_p rfl)) (Eq.symm (Eq.trans (if_neg (fun h => (fun h => hq_c0_c1 h.symm) h.2.2)) (Eq.trans (if_neg (fun h => hq_c0_c1 h.1)) (if_pos rfl))))
       ·skip
        by_cases q_c1 : c1 = u
        ·subst q_c1
         exact Eq.trans (b := (3 : Int32)) (Eq.trans (own_next_p rfl) (by decide)) (Eq.symm (if_pos ⟨rfl, rfl, rfl⟩))
        ·skip
         by_cases q_c3 : c3 = u
         ·subst q_c3
          exact Eq.trans (b := (0 : Int32)) (Eq.trans (own_next_n (fun h => hq_c1_c3 h.symm)) (Eq.trans (own_look_n hq_c0_c3) (rfl))) (Eq.symm (Eq.trans (if_neg (fun h => hq_c1_c3 h.2.2)) (Eq.trans (if_neg (fun h => hq_c0_c1 h.1)) (Eq.trans (if_neg (fun h => hq_c0_c3 h)) (rfl)))))
         ·skip
          exact Eq.trans (b := (0 : Int32)) (Eq.trans (own_next_n (fun h => q_c1 h.symm)) (Eq.trans (own_look_n q_c0) (rfl))) (Eq.symm (Eq.trans (if_neg (fun h => q_c1 h.2.2)) (Eq.trans (if_neg (fun h => hq_c0_c1 h.1)) (Eq.trans (if_neg (fun h => q_c0 h)) (rfl)))))
      have R3 : own_rw 3 c3 [(0 : Int32), (0 : Int32), (1 : Int32), (2 : Int32), (3 : Int32), (4 : Int32)] [c0, c0, c0, c0] [(1 : Int32), (1 : Int32), (1 : Int32), (1 : Int32)] (fun u => (if c0 = c0 ∧ c1 = c1 ∧ c1 = c1 ∧ c3 = u then (4 : Int32) else (if c0 = c1 ∧ c1 = c1 ∧ c1 = u then (3 : Int32) else (if c0 = c1 ∧ c1 = u then (2 : Int32) else (if c0 = u then (1 : Int32) else (0 : Int32)))))) := by
       refine ⟨2, 1, (2 : Int32), (3 : Int32), rfl, rfl, by decide, by decide, Nat.le_of_ble_eq_true rfl, Nat.le_of_ble_eq_true rfl, by decide, fun u hu => ?_⟩
       by_cases q_c0 : c0 = u
       ·subst q_c0
        exact Eq.trans (b := (1 : Int32)) (Eq.trans (own_next_n hq_c0_c3) (own_look_p rfl)) (Eq.symm (Eq.trans (if_neg (fun h => (fun h => hq_c0_c3 h.symm) h.2.2.2)) (Eq.trans (if_neg (fun h => hq_c0_c1 h.1)) (Eq.trans (if_neg (fun h => hq_c0_c1 h.1)) (if_pos rfl)))))
       ·skip
        by_cases q_c1 : c1 = u
        ·subst q_c1
         exact Eq.trans (b := (0 : Int32)) (Eq.trans (own_next_n hq_c1_c3) (Eq.trans (own_look_n hq_c0_c1) (rfl))) (Eq.symm (Eq.trans (if_neg (fun h => (fun h => hq_c1_c3 h.symm) h.2.2.2)) (Eq.trans (if_neg (fun h => hq_c0_c1 h.1)) (Eq.trans (if_neg (fun h => hq_c0_c1 h.1)) (Eq.trans (if_neg (fun h => hq_c0_c1 h)) (rfl))))))
        ·skip
         by_cases q_c3 : c3 = u
         ·subst q_c3
          exact Eq.trans (b := (4 : Int32)) (Eq.trans (own_next_p rfl) (by decide)) (Eq.symm (if_pos ⟨rfl, rfl, rfl, rfl⟩))
         ·skip
          exact Eq.trans (b := (0 : Int32)) (Eq.trans (own_next_n (fun h => q_c3 h.symm)) (Eq.trans (own_look_n q_c0) (rfl))) (Eq.symm (Eq.trans (if_neg (fun h => q_c3 h.2.2.2)) (Eq.trans (if_neg (fun h => hq_c0_c1 h.1)) (Eq.trans (if_neg (fun h => hq_c0_c1 h.1)) (Eq.trans (if_neg (fun h => q_c0 h)) (rfl))))))
      have R4 : own_rw 4 (-1 : Int32) [(0 : Int32), (0 : Int32), (1 : Int32), (2 : Int32), (3 : Int32), (4 : Int32)] [c0, c0, c0, c0] [(1 : Int32), (1 : Int32), (1 : Int32), (1 : Int32)] (fun u => (if c0 = c1 ∧ c1 = c1 ∧ c1 = c3 ∧ c3 = u then (4 : Int32) else (if c0 = c1 ∧ c1 = c3 ∧ c1 = u then (3 : Int32) else (if c0 = c3 ∧ c1 = u then (2 : Int32) else (if c0 = u then (1 : Int32) else (0 : Int32)))))) := by
       refine ⟨3, 1, (3 : Int32), (4 : Int32), rfl, rfl, by decide, by decide, Nat.le_of_ble_eq_true rfl, Nat.le_of_ble_eq_true rfl, by decide, fun u hu => ?_⟩
       by_cases q_c0 : c0 = u
       ·subst q_c0
        exact Eq.trans (b := (1 : Int32)) (Eq.trans (own_next_n (own_nm1 hr0.1)) (own_look_p rfl)) (Eq.symm (Eq.trans (if_neg (fun h => hq_c0_c1 h.1)) (Eq.trans (if_neg (fun h => hq_c0_c1 h.1)) (Eq.trans (if_neg (fun h => hq_c0_c3 h.1)) (if_pos rfl)))))
       ·skip
        by_cases q_c1 : c1 = u
        ·subst q_c1
         exact Eq.trans (b := (0 : Int32)) (Eq.trans (own_next_n (own_nm1 hr1.1)) (Eq.trans (own_look_n hq_c0_c1) (rfl))) (Eq.symm (Eq.trans (if_neg (fun h => hq_c0_c1 h.1)) (Eq.trans (if_neg (fun h => hq_c0_c1 h.1)) (Eq.trans (if_neg (fun h => hq_c0_c3 h.1)) (Eq.trans (if_neg (fun h => hq_c0_c1 h)) (rfl))))))
        ·skip
         by_cases q_c3 : c3 = u
         ·subst q_c3
          exact Eq.trans (b := (0 : Int32)) (Eq.trans (own_next_n (own_nm1 hr3.1)) (Eq.trans (own_look_n hq_c0_c3) (rfl))) (Eq.symm (Eq.trans (if_neg (fun h => hq_c0_c1 h.1)) (Eq.trans (if_neg (fun h => hq_c0_c1 h.1)) (Eq.trans (if_neg (fun h => hq_c0_c3 h.1)) (Eq.trans (if_neg (fun h => hq_c0_c3 h)) (rfl))))))
         ·skip
          exact Eq.trans (b := (0 : Int32)) (Eq.trans (own_next_n (own_nm1 hu)) (Eq.trans (own_look_n q_c0) (rfl))) (Eq.symm (Eq.trans (if_neg (fun h => hq_c0_c1 h.1)) (Eq.trans (if_neg (fun h => hq_c0_c1 h.1)) (Eq.trans (if_neg (fun h => hq_c0_c3 h.1)) (Eq.trans (if_neg (fun h => q_c0 h)) (rfl))))))
      exact ⟨b4, b23, b26, b29, [(0 : Int32), (0 : Int32), (1 : Int32), (2 : Int32), (3 : Int32), (4 : Int32)], [c0, c0, c0, c0], [(1 : Int32), (1 : Int32), (1 : Int32), (1 : Int32)], rfl, N319, E_this, F_this_forward, F_this_rows, F_this_units, F_this_targets, A_b4, A_b23, A_b26, A_b29, R0, R1, R2, R3, R4⟩
     -- 
    ·skip
     by_cases hq_c1_c3 : c1 = c3
     ·subst hq_c1_c3
      have R0 : own_rw 0 c0 [(0 : Int32), (0 : Int32), (1 : Int32), (2 : Int32), (3 : Int32), (4 : Int32)] [c0, c0, c0, c0] [(1 : Int32), (1 : Int32), (1 : Int32), (1 : Int32)] (fun u => (if c0 = u then (1 : Int32) else (0 : Int32))) := by
       refine ⟨0, 0, (0 : Int32), (0 : Int32), rfl, rfl, by decide, by decide, Nat.le_of_ble_eq_true rfl, Nat.le_of_ble_eq_true rfl, by decide, fun u hu => ?_⟩
       by_cases q_c0 : c0 = u
       ·subst q_c0
        exact Eq.trans (b := (1 : Int32)) (Eq.trans (own_next_p rfl) (by decide)) (Eq.symm (if_pos rfl))
       ·skip
        by_cases q_c1 : c1 = u
        ·subst q_c1
         exact Eq.trans (b := (0 : Int32)) (Eq.trans (own_next_n (fun h => hq_c0_c1 h.symm)) (rfl)) (Eq.symm (Eq.trans (if_neg (fun h => hq_c0_c1 h)) (rfl)))
        ·skip
         by_cases q_c2 : c2 = u
         ·subst q_c2
          exact Eq.trans (b := (0 : Int32)) (Eq.trans (own_next_n (fun h => hq_c0_c2 h.symm)) (rfl)) (Eq.symm (Eq.trans (if_neg (fun h => hq_c0_c2 h)) (rfl)))
         ·skip
          exact Eq.trans (b := (0 : Int32)) (Eq.trans (own_next_n (fun h => q_c0 h.symm)) (rfl)) (Eq.symm (Eq.trans (if_neg (fun h => q_c0 h)) (rfl)))
      have R1 : own_rw 1 c1 [(0 : Int32), (0 : Int32), (1 : Int32), (2 : Int32), (3 : Int32), (4 : Int32)] [c0, c0, c0, c0] [(1 : Int32), (1 : Int32), (1 : Int32), (1 : Int32)] (fun u => (if c0 = c0 ∧ c1 = u then (2 : Int32) else (if c0 = u then (1 : Int32) else (0 : Int32)))) := by
       refine ⟨0, 1, (0 : Int32), (1 : Int32), rfl, rfl, by decide, by decide, Nat.le_of_ble_eq_true rfl, Nat.le_of_ble_eq_true rfl, by decide, fun u hu => ?_⟩
       by_cases q_c0 : c0 = u
       ·subst q_c0
        exact Eq.trans (b := (1 : Int32)) (Eq.trans (own_next_n hq_c0_c1) (own_look_p rfl)) (Eq.symm (Eq.trans (if_neg (fun h => (fun h => hq_c0_c1 h.symm) h.2)) (if_pos rfl)))
       ·skip
        by_cases q_c1 : c1 = u
        ·subst q_c1
         exact Eq.trans (b := (2 : Int32)) (Eq.trans (own_next_p rfl) (by decide)) (Eq.symm (if_pos ⟨rfl, rfl⟩))
        ·skip
         by_cases q_c2 : c2 = u
         ·subst q_c2
          exact Eq.trans (b := (0 : Int32)) (Eq.trans (own_next_n (fun h => hq_c1_c2 h.symm)) (Eq.trans (own_look_n hq_c0_c2) (rfl))) (Eq.symm (Eq.trans (if_neg (fun h => hq_c1_c2 h.2)) (Eq.trans (if_neg (fun h => hq_c0_c2 h)) (rfl))))
         ·skip
          exact Eq.trans (b := (0 : Int32)) (Eq.trans (own_next_n (fun h => q_c1 h.symm)) (Eq.trans (own_look_n q_c0) (rfl))) (Eq.symm (Eq.trans (if_neg (fun h => q_c1 h.2)) (Eq.trans (if_neg (fun h => q_c0 h)) (rfl))))
      have R2 : own_rw 2 c2 [(0 : Int32), (0 : Int32), (1 : Int32), (2 : Int32), (3 : Int32), (4 : Int32)] [c0, c0, c0, c0] [(1 : Int32), (1 : Int32), (1 : Int32), (1 : Int32)] (fun u => (if c0 = c0 ∧ c1 = c1 ∧ c2 = u then (3 : Int32) else (if c0 = c1 ∧ c1 = u then (2 : Int32) else (if c0 = u then (1 : Int32) else (0 : Int32))))) := by
       refine ⟨1, 1, (1 : Int32), (2 : Int32), rfl, rfl, by decide, by decide, Nat.le_of_ble_eq_true rfl, Nat.le_of_ble_eq_true rfl, by decide, fun u hu => ?_⟩
       by_cases q_c0 : c0 = u
       ·subst q_c0
        exact Eq.trans (b := (1 : Int32)) (Eq.trans (own_next_n hq_c0_c2) (own_look_p rfl)) (Eq.symm (Eq.trans (if_neg (fun h => (fun h => hq_c0_c2 h.symm) h.2.2)) (Eq.trans (if_neg (fun h => hq_c0_c1 h.1)) (if_pos rfl))))
       ·skip
        by_cases q_c1 : c1 = u
        ·subst q_c1
         exact Eq.trans (b := (0 : Int32)) (Eq.trans (own_next_n hq_c1_c2) (Eq.trans (own_look_n hq_c0_c1) (rfl))) (Eq.symm (Eq.trans (if_neg (fun h => (fun h => hq_c1_c2 h.symm) h.2.2)) (Eq.trans (if_neg (fun h => hq_c0_c1 h.1)) (Eq.trans (if_neg (fun h => hq_c0_c1 h)) (rfl)))))
        ·skip
         by_cases q_c2 : c2 = u
         ·subst q_c2
          exact Eq.trans (b := (3 : Int32)) (Eq.trans (own_next_p rfl) (by decide)) (Eq.symm (if_pos ⟨rfl, rfl, rfl⟩))
         ·skip
          exact Eq.trans (b := (0 : Int32)) (Eq.trans (own_next_n (fun h => q_c2 h.symm)) (Eq.trans (own_look_n q_c0) (rfl))) (Eq.symm (Eq.trans (if_neg (fun h => q_c2 h.2.2)) (Eq.trans (if_neg (fun h => hq_c0_c1 h.1)) (Eq.trans (if_neg (fun h => q_c0 h)) (rfl)))))
      have R3 : own_rw 3 c1 [(0 : Int32), (0 : Int32), (1 : Int32), (2 : Int32), (3 : Int32), (4 : Int32)] [c0, c0, c0, c0] [(1 : Int32), (1 : Int32), (1 : Int32), (1 : Int32)] (fun u => (if c0 = c0 ∧ c1 = c1 ∧ c2 = c2 ∧ c1 = u then (4 : Int32) else (if c0 = c1 ∧ c1 = c2 ∧ c2 = u then (3 : Int32) else (if c0 = c2 ∧ c1 = u then (2 : Int32) else (if c0 = u then (1 : Int32) else (0 : Int32)))))) := by
       refine ⟨2, 1, (2 : Int32), (3 : Int32), rfl, rfl, by decide, by decide, Nat.le_of_ble_eq_true rfl, Nat.le_of_ble_eq_true rfl, by decide, fun u hu => ?_⟩
       by_cases q_c0 : c0 = u
       ·subst q_c0
        exact Eq.trans (b := (1 : Int32)) (Eq.trans (own_next_n hq_c0_c1) (own_look_p rfl)) (Eq.symm (Eq.trans (if_neg (fun h => (fun h => hq_c0_c1 h.symm) h.2.2.2)) (Eq.trans (if_neg (fun h => hq_c0_c1 h.1)) (Eq.trans (if_neg (fun h => hq_c0_c2 h.1)) (if_pos rfl)))))
       ·skip
        by_cases q_c1 : c1 = u
        ·subst q_c1
         exact Eq.trans (b := (4 : Int32)) (Eq.trans (own_next_p rfl) (by decide)) (Eq.symm (if_pos ⟨rfl, rfl, rfl, rfl⟩))
        ·skip
         by_cases q_c2 : c2 = u
         ·subst q_c2
          exact Eq.trans (b := (0 : Int32)) (Eq.trans (own_next_n (fun h => hq_c1_c2 h.symm)) (Eq.trans (own_look_n hq_c0_c2) (rfl))) (Eq.symm (Eq.trans (if_neg (fun h => hq_c1_c2 h.2.2.2)) (Eq.trans (if_neg (fun h => hq_c0_c1 h.1)) (Eq.trans (if_neg (fun h => hq_c0_c2 h.1)) (Eq.trans (if_neg (fun h => hq_c0_c2 h)) (rfl))))))
         ·skip
          exact Eq.trans (b := (0 : Int32)) (Eq.trans (own_next_n (fun h => q_c1 h.symm)) (Eq.trans (own_look_n q_c0) (rfl))) (Eq.symm (Eq.trans (if_neg (fun h => q_c1 h.2.2.2)) (Eq.trans (if_neg (fun h => hq_c0_c1 h.1)) (Eq.trans (if_neg (fun h => hq_c0_c2 h.1)) (Eq.trans (if_neg (fun h => q_c0 h)) (rfl))))))
      have R4 : own_rw 4 (-1 : Int32) [(0 : Int32), (0 : Int32), (1 : Int32), (2 : Int32), (3 : Int32), (4 : Int32)] [c0, c0, c0, c0] [(1 : Int32), (1 : Int32), (1 : Int32), (1 : Int32)] (fun u => (if c0 = c1 ∧ c1 = c2 ∧ c2 = c1 ∧ c1 = u then (4 : Int32) else (if c0 = c2 ∧ c1 = c1 ∧ c2 = u then (3 : Int32) else (if c0 = c1 ∧ c1 = u then (2 : Int32) else (if c0 = u then (1 : Int32) else (0 : Int32)))))) := by
       refine ⟨3, 1, (3 : Int32), (4 : Int32), rfl, rfl, by decide, by decide, Nat.le_of_ble_eq_true rfl, Nat.le_of_ble_eq_true rfl, by decide, fun u hu => ?_⟩
       by_cases q_c0 : c0 = u
       ·subst q_c0
        exact Eq.trans (b := (1 : Int32)) (Eq.trans (own_next_n (own_nm1 hr0.1)) (own_look_p rfl)) (Eq.symm (Eq.trans (if_neg (fun h => hq_c0_c1 h.1)) (Eq.trans (if_neg (fun h => hq_c0_c2 h.1)) (Eq.trans (if_neg (fun h => hq_c0_c1 h.1)) (if_pos rfl)))))
       ·skip
        by_cases q_c1 : c1 = u
        ·subst q_c1
         exact Eq.trans (b := (0 : Int32)) (Eq.trans (own_next_n (own_nm1 hr1.1)) (Eq.trans (own_look_n hq_c0_c1) (rfl))) (Eq.symm (Eq.trans (if_neg (fun h => hq_c0_c1 h.1)) (Eq.trans (if_neg (fun h => hq_c0_c2 h.1)) (Eq.trans (if_neg (fun h => hq_c0_c1 h.1)) (Eq.trans (if_neg (fun h => hq_c0_c1 h)) (rfl))))))
        ·skip
         by_cases q_c2 : c2 = u
         ·subst q_c2
          exact Eq.trans (b := (0 : Int32)) (Eq.trans (own_next_n (own_nm1 hr2.1)) (Eq.trans (own_look_n hq_c0_c2) (rfl))) (Eq.symm (Eq.trans (if_neg (fun h => hq_c0_c1 h.1)) (Eq.trans (if_neg (fun h => hq_c0_c2 h.1)) (Eq.trans (if_neg (fun h => hq_c0_c1 h.1)) (Eq.trans (if_neg (fun h => hq_c0_c2 h)) (rfl))))))
         ·skip
          exact Eq.trans (b := (0 : Int32)) (Eq.trans (own_next_n (own_nm1 hu)) (Eq.trans (own_look_n q_c0) (rfl))) (Eq.symm (Eq.trans (if_neg (fun h => hq_c0_c1 h.1)) (Eq.trans (if_neg (fun h => hq_c0_c2 h.1)) (Eq.trans (if_neg (fun h => hq_c0_c1 h.1)) (Eq.trans (if_neg (fun h => q_c0 h)) (rfl))))))
      exact ⟨b4, b23, b26, b29, [(0 : Int32), (0 : Int32), (1 : Int32), (2 : Int32), (3 : Int32), (4 : Int32)], [c0, c0, c0, c0], [(1 : Int32), (1 : Int32), (1 : Int32), (1 : Int32)], rfl, N319, E_this, F_this_forward, F_this_rows, F_this_units, F_this_targets, A_b4, A_b23, A_b26, A_b29, R0, R1, R2, R3, R4⟩
     ·skip
      by_cases hq_c2_c3 : c2 = c3
      ·subst hq_c2_c3
       have R0 : own_rw 0 c0 [(0 : Int32), (0 : Int32), (1 : Int32), (2 : Int32), (3 : Int32), (4 : Int32)] [c0, c0, c0, c0] [(1 : Int32), (1 : Int32), (1 : Int32), (1 : Int32)] (fun u => (if c0 = u then (1 : Int32) else (0 : Int32))) := by
        refine ⟨0, 0, (0 : Int32), (0 : Int32), rfl, rfl, by decide, by decide, Nat.le_of_ble_eq_true rfl, Nat.le_of_ble_eq_true rfl, by decide, fun u hu => ?_⟩
        by_cases q_c0 : c0 = u
        ·subst q_c0
         exact Eq.trans (b := (1 : Int32)) (Eq.trans (own_next_p rfl) (by decide)) (Eq.symm (if_pos rfl))
        ·skip
         by_cases q_c1 : c1 = u
         ·subst q_c1
          exact Eq.trans (b := (0 : Int32)) (Eq.trans (own_next_n (fun h => hq_c0_c1 h.symm)) (rfl)) (Eq.symm (Eq.trans (if_neg (fun h => hq_c0_c1 h)) (rfl)))
         ·skip
          by_cases q_c2 : c2 = u
          ·subst q_c2
           exact Eq.trans (b := (0 : Int32)) (Eq.trans (own_next_n (fun h => hq_c0_c2 h.symm)) (rfl)) (Eq.symm (Eq.trans (if_neg (fun h => hq_c0_c2 h)) (rfl)))
          ·skip
           exact Eq.trans (b := (0 : Int32)) (Eq.trans (own_next_n (fun h => q_c0 h.symm)) (rfl)) (Eq.symm (Eq.trans (if_neg (fun h => q_c0 h)) (rfl)))
       have R1 : own_rw 1 c1 [(0 : Int32), (0 : Int32), (1 : Int32), (2 : Int32), (3 : Int32), (4 : Int32)] [c0, c0, c0, c0] [(1 : Int32), (1 : Int32), (1 : Int32), (1 : Int32)] (fun u => (if c0 = c0 ∧ c1 = u then (2 : Int32) else (if c0 = u then (1 : Int32) else (0 : Int32)))) := by
        refine ⟨0, 1, (0 : Int32), (1 : Int32), rfl, rfl, by decide, by decide, Nat.le_of_ble_eq_true rfl, Nat.le_of_ble_eq_true rfl, by decide, fun u hu => ?_⟩
        by_cases q_c0 : c0 = u
        ·subst q_c0
         exact Eq.trans (b := (1 : Int32)) (Eq.trans (own_next_n hq_c0_c1) (own_look_p rfl)) (Eq.symm (Eq.trans (if_neg (fun h => (fun h => hq_c0_c1 h.symm) h.2)) (if_pos rfl)))
        ·skip
         by_cases q_c1 : c1 = u
         ·subst q_c1
          exact Eq.trans (b := (2 : Int32)) (Eq.trans (own_next_p rfl) (by decide)) (Eq.symm (if_pos ⟨rfl, rfl⟩))
         ·skip
          by_cases q_c2 : c2 = u
          ·subst q_c2
           exact Eq.trans (b := (0 : Int32)) (Eq.trans (own_next_n (fun h => hq_c1_c2 h.symm)) (Eq.trans (own_look_n hq_c0_c2) (rfl))) (Eq.symm (Eq.trans (if_neg (fun h => hq_c1_c2 h.2)) (Eq.trans (if_neg (fun h => hq_c0_c2 h)) (rfl))))
          ·skip
           exact Eq.trans (b := (0 : Int32)) (Eq.trans (own_next_n (fun h => q_c1 h.symm)) (Eq.trans (own_look_n q_c0) (rfl))) (Eq.symm (Eq.trans (if_neg (fun h => q_c1 h.2)) (Eq.trans (if_neg (fun h => q_c0 h)) (rfl))))
       have R2 : own_rw 2 c2 [(0 : Int32), (0 : Int32), (1 : Int32), (2 : Int32), (3 : Int32), (4 : Int32)] [c0, c0, c0, c0] [(1 : Int32), (1 : Int32), (1 : Int32), (1 : Int32)] (fun u => (if c0 = c0 ∧ c1 = c1 ∧ c2 = u then (3 : Int32) else (if c0 = c1 ∧ c1 = u then (2 : Int32) else (if c0 = u then (1 : Int32) else (0 : Int32))))) := by
        refine ⟨1, 1, (1 : Int32), (2 : Int32), rfl, rfl, by decide, by decide, Nat.le_of_ble_eq_true rfl, Nat.le_of_ble_eq_true rfl, by decide, fun u hu => ?_⟩
        by_cases q_c0 : c0 = u
        ·subst q_c0
         exact Eq.trans (b := (1 : Int32)) (Eq.trans (own_next_n hq_c0_c2) (own_look_p rfl)) (Eq.symm (Eq.trans (if_neg (fun h => (fun h => hq_c0_c2 h.symm) h.2.2)) (Eq.trans (if_neg (fun h => hq_c0_c1 h.1)) (if_pos rfl))))
        ·skip
         by_cases q_c1 : c1 = u
         ·subst q_c1
          exact Eq.trans (b := (0 : Int32)) (Eq.trans (own_next_n hq_c1_c2) (Eq.trans (own_look_n hq_c0_c1) (rfl))) (Eq.symm (Eq.trans (if_neg (fun h => (fun h => hq_c1_c2 h.symm) h.2.2)) (Eq.trans (if_neg (fun h => hq_c0_c1 h.1)) (Eq.trans (if_neg (fun h => hq_c0_c1 h)) (rfl)))))
         ·skip
          by_cases q_c2 : c2 = u
          ·subst q_c2
           exact Eq.trans (b := (3 : Int32)) (Eq.trans (own_next_p rfl) (by decide)) (Eq.symm (if_pos ⟨rfl, rfl, rfl⟩))
          ·skip
           exact Eq.trans (b := (0 : Int32)) (Eq.trans (own_next_n (fun h => q_c2 h.symm)) (Eq.trans (own_look_n q_c0) (rfl))) (Eq.symm (Eq.trans (if_neg (fun h => q_c2 h.2.2)) (Eq.trans (if_neg (fun h => hq_c0_c1 h.1)) (Eq.trans (if_neg (fun h => q_c0 h)) (rfl)))))
       have R3 : own_rw 3 c2 [(0 : Int32), (0 : Int32), (1 : Int32), (2 : Int32), (3 : Int32), (4 : Int32)] [c0, c0, c0, c0] [(1 : Int32), (1 : Int32), (1 : Int32), (1 : Int32)] (fun u => (if c0 = c0 ∧ c1 = c1 ∧ c2 = c2 ∧ c2 = u then (4 : Int32) else (if c0 = c1 ∧ c1 = c2 ∧ c2 = u then (3 : Int32) else (if c0 = c2 ∧ c1 = u then (2 : Int32) else (if c0 = u then (1 : Int32) else (0 : Int32)))))) := by
        refine ⟨2, 1, (2 : Int32), (3 : Int32), rfl, rfl, by decide, by decide, Nat.le_of_ble_eq_true rfl, Nat.le_of_ble_eq_true rfl, by decide, fun u hu => ?_⟩
        by_cases q_c0 : c0 = u
        ·subst q_c0
         exact Eq.trans (b := (1 : Int32)) (Eq.trans (own_next_n hq_c0_c2) (own_look_p rfl)) (Eq.symm (Eq.trans (if_neg (fun h => (fun h => hq_c0_c2 h.symm) h.2.2.2)) (Eq.trans (if_neg (fun h => hq_c0_c1 h.1)) (Eq.trans (if_neg (fun h => hq_c0_c2 h.1)) (if_pos rfl)))))
        ·skip
         by_cases q_c1 : c1 = u
         ·subst q_c1
          exact Eq.trans (b := (0 : Int32)) (Eq.trans (own_next_n hq_c1_c2) (Eq.trans (own_look_n hq_c0_c1) (rfl))) (Eq.symm (Eq.trans (if_neg (fun h => (fun h => hq_c1_c2 h.symm) h.2.2.2)) (Eq.trans (if_neg (fun h => hq_c0_c1 h.1)) (Eq.trans (if_neg (fun h => hq_c0_c2 h.1)) (Eq.trans (if_neg (fun h => hq_c0_c1 h)) (rfl))))))
         ·skip
          by_cases q_c2 : c2 = u
          ·subst q_c2
           exact Eq.trans (b := (4 : Int32)) (Eq.trans (own_next_p rfl) (by decide)) (Eq.symm (if_pos ⟨rfl, rfl, rfl, rfl⟩))
          ·skip
           exact Eq.trans (b := (0 : Int32)) (Eq.trans (own_next_n (fun h => q_c2 h.symm)) (Eq.trans (own_look_n q_c0) (rfl))) (Eq.symm (Eq.trans (if_neg (fun h => q_c2 h.2.2.2)) (Eq.trans (if_neg (fun h => hq_c0_c1 h.1)) (Eq.trans (if_neg (fun h => hq_c0_c2 h.1)) (Eq.trans (if_neg (fun h => q_c0 h)) (rfl))))))
       have R4 : own_rw 4 (-1 : Int32) [(0 : Int32), (0 : Int32), (1 : Int32), (2 : Int32), (3 : Int32), (4 : Int32)] [c0, c0, c0, c0] [(1 : Int32), (1 : Int32), (1 : Int32), (1 : Int32)] (fun u => (if c0 = c1 ∧ c1 = c2 ∧ c2 = c2 ∧ c2 = u then (4 : Int32) else (if c0 = c2 ∧ c1 = c2 ∧ c2 = u then (3 : Int32) else (if c0 = c2 ∧ c1 = u then (2 : Int32) else (if c0 = u then (1 : Int32) else (0 : Int32)))))) := by
        refine ⟨3, 1, (3 : Int32), (4 : Int32), rfl, rfl, by decide, by decide, Nat.le_of_ble_eq_true rfl, Nat.le_of_ble_eq_true rfl, by decide, fun u hu => ?_⟩
        by_cases q_c0 : c0 = u
        ·subst q_c0
         exact Eq.trans (b := (1 : Int32)) (Eq.trans (own_next_n (own_nm1 hr0.1)) (own_look_p rfl)) (Eq.symm (Eq.trans (if_neg (fun h => hq_c0_c1 h.1)) (Eq.trans (if_neg (fun h => hq_c0_c2 h.1)) (Eq.trans (if_neg (fun h => hq_c0_c2 h.1)) (if_pos rfl)))))
        ·skip
         by_cases q_c1 : c1 = u
         ·subst q_c1
          exact Eq.trans (b := (0 : Int32)) (Eq.trans (own_next_n (own_nm1 hr1.1)) (Eq.trans (own_look_n hq_c0_c1) (rfl))) (Eq.symm (Eq.trans (if_neg (fun h => hq_c0_c1 h.1)) (Eq.trans (if_neg (fun h => hq_c0_c2 h.1)) (Eq.trans (if_neg (fun h => hq_c0_c2 h.1)) (Eq.trans (if_neg (fun h => hq_c0_c1 h)) (rfl))))))
         ·skip
          by_cases q_c2 : c2 = u
          ·subst q_c2
           exact Eq.trans (b := (0 : Int32)) (Eq.trans (own_next_n (own_nm1 hr2.1)) (Eq.trans (own_look_n hq_c0_c2) (rfl))) (Eq.symm (Eq.trans (if_neg (fun h => hq_c0_c1 h.1)) (Eq.trans (if_neg (fun h => hq_c0_c2 h.1)) (Eq.trans (if_neg (fun h => hq_c0_c2 h.1)) (Eq.trans (if_neg (fun h => hq_c0_c2 h)) (rfl))))))
          ·skip
           exact Eq.trans (b := (0 : Int32)) (Eq.trans (own_next_n (own_nm1 hu)) (Eq.trans (own_look_n q_c0) (rfl))) (Eq.symm (Eq.trans (if_neg (fun h => hq_c0_c1 h.1)) (Eq.trans (if_neg (fun h => hq_c0_c2 h.1)) (Eq.trans (if_neg (fun h => hq_c0_c2 h.1)) (Eq.trans (if_neg (fun h => q_c0 h)) (rfl))))))
       exact ⟨b4, b23, b26, b29, [(0 : Int32), (0 : Int32), (1 : Int32), (2 : Int32), (3 : Int32), (4 : Int32)], [c0, c0, c0, c0], [(1 : Int32), (1 : Int32), (1 : Int32), (1 : Int32)], rfl, N319, E_this, F_this_forward, F_this_rows, F_this_units, F_this_targets, A_b4, A_b23, A_b26, A_b29, R0, R1, R2, R3, R4⟩
      ·skip
       have R0 : own_rw 0 c0 [(0 : Int32), (0 : Int32), (1 : Int32), (2 : Int32), (3 : Int32), (4 : Int32)] [c0, c0, c0, c0] [(1 : Int32), (1 : Int32), (1 : Int32), (1 : Int32)] (fun u => (if c0 = u then (1 : Int32) else (0 : Int32))) := by
        refine ⟨0, 0, (0 : Int32), (0 : Int32), rfl, rfl, by decide, by decide, Nat.le_of_ble_eq_true rfl, Nat.le_of_ble_eq_true rfl, by decide, fun u hu => ?_⟩
        by_cases q_c0 : c0 = u
        ·subst q_c0
         exact Eq.trans (b := (1 : Int32)) (Eq.trans (own_next_p rfl) (by decide)) (Eq.symm (if_pos rfl))
        ·skip
         by_cases q_c1 : c1 = u
         ·subst q_c1
          exact Eq.trans (b := (0 : Int32)) (Eq.trans (own_next_n (fun h => hq_c0_c1 h.symm)) (rfl)) (Eq.symm (Eq.trans (if_neg (fun h => hq_c0_c1 h)) (rfl)))
         ·skip
          by_cases q_c2 : c2 = u
          ·subst q_c2
           exact Eq.trans (b := (0 : Int32)) (Eq.trans (own_next_n (fun h => hq_c0_c2 h.symm)) (rfl)) (Eq.symm (Eq.trans (if_neg (fun h => hq_c0_c2 h)) (rfl)))
          ·skip
           by_cases q_c3 : c3 = u
           ·subst q_c3
            exact Eq.trans (b := (0 : Int32)) (Eq.trans (own_next_n (fun h => hq_c0_c3 h.symm)) (rfl)) (Eq.symm (Eq.trans (if_neg (fun h => hq_c0_c3 h)) (rfl)))
           ·skip
            exact Eq.trans (b := (0 : Int32)) (Eq.trans (own_next_n (fun h => q_c0 h.symm)) (rfl)) (Eq.symm (Eq.trans (if_neg (fun h => q_c0 h)) (rfl)))
       have R1 : own_rw 1 c1 [(0 : Int32), (0 : Int32), (1 : Int32), (2 : Int32), (3 : Int32), (4 : Int32)] [c0, c0, c0, c0] [(1 : Int32), (1 : Int32), (1 : Int32), (1 : Int32)] (fun u => (if c0 = c0 ∧ c1 = u then (2 : Int32) else (if c0 = u then (1 : Int32) else (0 : Int32)))) := by
        refine ⟨0, 1, (0 : Int32), (1 : Int32), rfl, rfl, by decide, by decide, Nat.le_of_ble_eq_true rfl, Nat.le_of_ble_eq_true rfl, by decide, fun u hu => ?_⟩
        by_cases q_c0 : c0 = u
        ·subst q_c0
         exact Eq.trans (b := (1 : Int32)) (Eq.trans (own_next_n hq_c0_c1) (own_look_p rfl)) (Eq.symm (Eq.trans (if_neg (fun h => (fun h => hq_c0_c1 h.symm) h.2)) (if_pos rfl)))
        ·skip
         by_cases q_c1 : c1 = u
         ·subst q_c1
          exact Eq.trans (b := (2 : Int32)) (Eq.trans (own_next_p rfl) (by decide)) (Eq.symm (if_pos ⟨rfl, rfl⟩))
         ·skip
          by_cases q_c2 : c2 = u
          ·subst q_c2
           exact Eq.trans (b := (0 : Int32)) (Eq.trans (own_next_n (fun h => hq_c1_c2 h.symm)) (Eq.trans (own_look_n hq_c0_c2) (rfl))) (Eq.symm (Eq.trans (if_neg (fun h => hq_c1_c2 h.2)) (Eq.trans (if_neg (fun h => hq_c0_c2 h)) (rfl))))
          ·skip
           by_cases q_c3 : c3 = u
           ·subst q_c3
            exact Eq.trans (b := (0 : Int32)) (Eq.trans (own_next_n (fun h => hq_c1_c3 h.symm)) (Eq.trans (own_look_n hq_c0_c3) (rfl))) (Eq.symm (Eq.trans (if_neg (fun h => hq_c1_c3 h.2)) (Eq.trans (if_neg (fun h => hq_c0_c3 h)) (rfl))))
           ·skip
            exact Eq.trans (b := (0 : Int32)) (Eq.trans (own_next_n (fun h => q_c1 h.symm)) (Eq.trans (own_look_n q_c0) (rfl))) (Eq.symm (Eq.trans (if_neg (fun h => q_c1 h.2)) (Eq.trans (if_neg (fun h => q_c0 h)) (rfl))))
       have R2 : own_rw 2 c2 [(0 : Int32), (0 : Int32), (1 : Int32), (2 : Int32), (3 : Int32), (4 : Int32)] [c0, c0, c0, c0] [(1 : Int32), (1 : Int32), (1 : Int32), (1 : Int32)] (fun u => (if c0 = c0 ∧ c1 = c1 ∧ c2 = u then (3 : Int32) else (if c0 = c1 ∧ c1 = u then (2 : Int32) else (if c0 = u then (1 : Int32) else (0 : Int32))))) := by
        refine ⟨1, 1, (1 : Int32), (2 : Int32), rfl, rfl, by decide, by decide, Nat.le_of_ble_eq_true rfl, Nat.le_of_ble_eq_true rfl, by decide, fun u hu => ?_⟩
        by_cases q_c0 : c0 = u
        ·subst q_c0
         exact Eq.trans (b := (1 : Int32)) (Eq.trans (own_next_n hq_c0_c2) (own_look_p rfl)) (Eq.symm (Eq.trans (if_neg (fun h => (fun h => hq_c0_c2 h.symm) h.2.2)) (Eq.trans (if_neg (fun h => hq_c0_c1 h.1)) (if_pos rfl))))
        ·skip
         by_cases q_c1 : c1 = u
         ·subst q_c1
          exact Eq.trans (b := (0 : Int32)) (Eq.trans (own_next_n hq_c1_c2) (Eq.trans (own_look_n hq_c0_c1) (rfl))) (Eq.symm (Eq.trans (if_neg (fun h => (fun h => hq_c1_c2 h.symm) h.2.2)) (Eq.trans (if_neg (fun h => hq_c0_c1 h.1)) (Eq.trans (if_neg (fun h => hq_c0_c1 h)) (rfl)))))
         ·skip
          by_cases q_c2 : c2 = u
          ·subst q_c2
           exact Eq.trans (b := (3 : Int32)) (Eq.trans (own_next_p rfl) (by decide)) (Eq.symm (if_pos ⟨rfl, rfl, rfl⟩))
          ·skip
           by_cases q_c3 : c3 = u
           ·subst q_c3
            exact Eq.trans (b := (0 : Int32)) (Eq.trans (own_next_n (fun h => hq_c2_c3 h.symm)) (Eq.trans (own_look_n hq_c0_c3) (rfl))) (Eq.symm (Eq.trans (if_neg (fun h => hq_c2_c3 h.2.2)) (Eq.trans (if_neg (fun h => hq_c0_c1 h.1)) (Eq.trans (if_neg (fun h => hq_c0_c3 h)) (rfl)))))
           ·skip
            exact Eq.trans (b := (0 : Int32)) (Eq.trans (own_next_n (fun h => q_c2 h.symm)) (Eq.trans (own_look_n q_c0) (rfl))) (Eq.symm (Eq.trans (if_neg (fun h => q_c2 h.2.2)) (Eq.trans (if_neg (fun h => hq_c0_c1 h.1)) (Eq.trans (if_neg (fun h => q_c0 h)) (rfl)))))
       have R3 : own_rw 3 c3 [(0 : Int32), (0 : Int32), (1 : Int32), (2 : Int32), (3 : Int32), (4 : Int32)] [c0, c0, c0, c0] [(1 : Int32), (1 : Int32), (1 : Int32), (1 : Int32)] (fun u => (if c0 = c0 ∧ c1 = c1 ∧ c2 = c2 ∧ c3 = u then (4 : Int32) else (if c0 = c1 ∧ c1 = c2 ∧ c2 = u then (3 : Int32) else (if c0 = c2 ∧ c1 = u then (2 : Int32) else (if c0 = u then (1 : Int32) else (0 : Int32)))))) := by
        refine ⟨2, 1, (2 : Int32), (3 : Int32), rfl, rfl, by decide, by decide, Nat.le_of_ble_eq_true rfl, Nat.le_of_ble_eq_true rfl, by decide, fun u hu => ?_⟩
        by_cases q_c0 : c0 = u
        ·subst q_c0
         exact Eq.trans (b := (1 : Int32)) (Eq.trans (own_next_n hq_c0_c3) (own_look_p rfl)) (Eq.symm (Eq.trans (if_neg (fun h => (fun h => hq_c0_c3 h.symm) h.2.2.2)) (Eq.trans (if_neg (fun h => hq_c0_c1 h.1)) (Eq.trans (if_neg (fun h => hq_c0_c2 h.1)) (if_pos rfl)))))
        ·skip
         by_cases q_c1 : c1 = u
         ·subst q_c1
          exact Eq.trans (b := (0 : Int32)) (Eq.trans (own_next_n hq_c1_c3) (Eq.trans (own_look_n hq_c0_c1) (rfl))) (Eq.symm (Eq.trans (if_neg (fun h => (fun h => hq_c1_c3 h.symm) h.2.2.2)) (Eq.trans (if_neg (fun h => hq_c0_c1 h.1)) (Eq.trans (if_neg (fun h => hq_c0_c2 h.1)) (Eq.trans (if_neg (fun h => hq_c0_c1 h)) (rfl))))))
         ·skip
          by_cases q_c2 : c2 = u
          ·subst q_c2
           exact Eq.trans (b := (0 : Int32)) (Eq.trans (own_next_n hq_c2_c3) (Eq.trans (own_look_n hq_c0_c2) (rfl))) (Eq.symm (Eq.trans (if_neg (fun h => (fun h => hq_c2_c3 h.symm) h.2.2.2)) (Eq.trans (if_neg (fun h => hq_c0_c1 h.1)) (Eq.trans (if_neg (fun h => hq_c0_c2 h.1)) (Eq.trans (if_neg (fun h => hq_c0_c2 h)) (rfl))))))
          ·skip
           by_cases q_c3 : c3 = u
           ·subst q_c3
            exact Eq.trans (b := (4 : Int32)) (Eq.trans (own_next_p rfl) (by decide)) (Eq.symm (if_pos ⟨rfl, rfl, rfl, rfl⟩))
           ·skip
            exact Eq.trans (b := (0 : Int32)) (Eq.trans (own_next_n (fun h => q_c3 h.symm)) (Eq.trans (own_look_n q_c0) (rfl))) (Eq.symm (Eq.trans (if_neg (fun h => q_c3 h.2.2.2)) (Eq.trans (if_neg (fun h => hq_c0_c1 h.1)) (Eq.trans (if_neg (fun h => hq_c0_c2 h.1)) (Eq.trans (if_neg (fun h => q_c0 h)) (rfl))))))
       have R4 : own_rw 4 (-1 : Int32) [(0 : Int32), (0 : Int32), (1 : Int32), (2 : Int32), (3 : Int32), (4 : Int32)] [c0, c0, c0, c0] [(1 : Int32), (1 : Int32), (1 : Int32), (1 : Int32)] (fun u => (if c0 = c1 ∧ c1 = c2 ∧ c2 = c3 ∧ c3 = u then (4 : Int32) else (if c0 = c2 ∧ c1 = c3 ∧ c2 = u then (3 : Int32) else (if c0 = c3 ∧ c1 = u then (2 : Int32) else (if c0 = u then (1 : Int32) else (0 : Int32)))))) := by
        refine ⟨3, 1, (3 : Int32), (4 : Int32), rfl, rfl, by decide, by decide, Nat.le_of_ble_eq_true rfl, Nat.le_of_ble_eq_true rfl, by decide, fun u hu => ?_⟩
        by_cases q_c0 : c0 = u
        ·subst q_c0
         exact Eq.trans (b := (1 : Int32)) (Eq.trans (own_next_n (own_nm1 hr0.1)) (own_look_p rfl)) (Eq.symm (Eq.trans (if_neg (fun h => hq_c0_c1 h.1)) (Eq.trans (if_neg (fun h => hq_c0_c2 h.1)) (Eq.trans (if_neg (fun h => hq_c0_c3 h.1)) (if_pos rfl)))))
        ·skip
         by_cases q_c1 : c1 = u
         ·subst q_c1
          exact Eq.trans (b := (0 : Int32)) (Eq.trans (own_next_n (own_nm1 hr1.1)) (Eq.trans (own_look_n hq_c0_c1) (rfl))) (Eq.symm (Eq.trans (if_neg (fun h => hq_c0_c1 h.1)) (Eq.trans (if_neg (fun h => hq_c0_c2 h.1)) (Eq.trans (if_neg (fun h => hq_c0_c3 h.1)) (Eq.trans (if_neg (fun h => hq_c0_c1 h)) (rfl))))))
         ·skip
          by_cases q_c2 : c2 = u
          ·subst q_c2
           exact Eq.trans (b := (0 : Int32)) (Eq.trans (own_next_n (own_nm1 hr2.1)) (Eq.trans (own_look_n hq_c0_c2) (rfl))) (Eq.symm (Eq.trans (if_neg (fun h => hq_c0_c1 h.1)) (Eq.trans (if_neg (fun h => hq_c0_c2 h.1)) (Eq.trans (if_neg (fun h => hq_c0_c3 h.1)) (Eq.trans (if_neg (fun h => hq_c0_c2 h)) (rfl))))))
          ·skip
           by_cases q_c3 : c3 = u
           ·subst q_c3
            exact Eq.trans (b := (0 : Int32)) (Eq.trans (own_next_n (own_nm1 hr3.1)) (Eq.trans (own_look_n hq_c0_c3) (rfl))) (Eq.symm (Eq.trans (if_neg (fun h => hq_c0_c1 h.1)) (Eq.trans (if_neg (fun h => hq_c0_c2 h.1)) (Eq.trans (if_neg (fun h => hq_c0_c3 h.1)) (Eq.trans (if_neg (fun h => hq_c0_c3 h)) (rfl))))))
           ·skip
            exact Eq.trans (b := (0 : Int32)) (Eq.trans (own_next_n (own_nm1 hu)) (Eq.trans (own_look_n q_c0) (rfl))) (Eq.symm (Eq.trans (if_neg (fun h => hq_c0_c1 h.1)) (Eq.trans (if_neg (fun h => hq_c0_c2 h.1)) (Eq.trans (if_neg (fun h => hq_c0_c3 h.1)) (Eq.trans (if_neg (fun h => q_c0 h)) (rfl))))))
       exact ⟨b4, b23, b26, b29, [(0 : Int32), (0 : Int32), (1 : Int32), (2 : Int32), (3 : Int32), (4 : Int32)], [c0, c0, c0, c0], [(1 : Int32), (1 : Int32), (1 : Int32), (1 : Int32)], rfl, N319, E_this, F_this_forward, F_this_rows, F_this_units, F_this_targets, A_b4, A_b23, A_b26, A_b29, R0, R1, R2, R3, R4⟩
      -- 
     -- 
    -- 
theorem d3_0 : decode method_2_code 0 = .ok (.iload_n 3, 1) := by decide +kernel
theorem d3_1 : decode method_2_code 1 = .ok (.iconst 1, 1) := by decide +kernel
theorem d3_2 : decode method_2_code 2 = .ok (.if_icmp .lt 14, 3) := by decide +kernel
theorem d3_5 : decode method_2_code 5 = .ok (.aload_n 0, 1) := by decide +kernel
theorem d3_6 : decode method_2_code 6 = .ok (.iconst 0, 1) := by decide +kernel
theorem d3_7 : decode method_2_code 7 = .ok (.caload, 1) := by decide +kernel
theorem d3_8 : decode method_2_code 8 = .ok (.aload_n 1, 1) := by decide +kernel
theorem d3_9 : decode method_2_code 9 = .ok (.iload_n 2, 1) := by decide +kernel
theorem d3_10 : decode method_2_code 10 = .ok (.iload_n 3, 1) := by decide +kernel
theorem d3_11 : decode method_2_code 11 = .ok (.isub, 1) := by decide +kernel
theorem d3_12 : decode method_2_code 12 = .ok (.caload, 1) := by decide +kernel
theorem d3_13 : decode method_2_code 13 = .ok (.if_icmp .ne 61, 3) := by decide +kernel
theorem d3_16 : decode method_2_code 16 = .ok (.iload_n 3, 1) := by decide +kernel
theorem d3_17 : decode method_2_code 17 = .ok (.iconst 2, 1) := by decide +kernel
theorem d3_18 : decode method_2_code 18 = .ok (.if_icmp .lt 16, 3) := by decide +kernel
theorem d3_21 : decode method_2_code 21 = .ok (.aload_n 0, 1) := by decide +kernel
theorem d3_22 : decode method_2_code 22 = .ok (.iconst 1, 1) := by decide +kernel
theorem d3_23 : decode method_2_code 23 = .ok (.caload, 1) := by decide +kernel
theorem d3_24 : decode method_2_code 24 = .ok (.aload_n 1, 1) := by decide +kernel
theorem d3_25 : decode method_2_code 25 = .ok (.iload_n 2, 1) := by decide +kernel
theorem d3_26 : decode method_2_code 26 = .ok (.iload_n 3, 1) := by decide +kernel
theorem d3_27 : decode method_2_code 27 = .ok (.isub, 1) := by decide +kernel
theorem d3_28 : decode method_2_code 28 = .ok (.iconst 1, 1) := by decide +kernel
theorem d3_29 : decode method_2_code 29 = .ok (.iadd, 1) := by decide +kernel
theorem d3_30 : decode method_2_code 30 = .ok (.caload, 1) := by decide +kernel
theorem d3_31 : decode method_2_code 31 = .ok (.if_icmp .ne 43, 3) := by decide +kernel
theorem d3_34 : decode method_2_code 34 = .ok (.iload_n 3, 1) := by decide +kernel
theorem d3_35 : decode method_2_code 35 = .ok (.iconst 3, 1) := by decide +kernel
theorem d3_36 : decode method_2_code 36 = .ok (.if_icmp .lt 16, 3) := by decide +kernel
theorem d3_39 : decode method_2_code 39 = .ok (.aload_n 0, 1) := by decide +kernel
theorem d3_40 : decode method_2_code 40 = .ok (.iconst 2, 1) := by decide +kernel
theorem d3_41 : decode method_2_code 41 = .ok (.caload, 1) := by decide +kernel
theorem d3_42 : decode method_2_code 42 = .ok (.aload_n 1, 1) := by decide +kernel
theorem d3_43 : decode method_2_code 43 = .ok (.iload_n 2, 1) := by decide +kernel
theorem d3_44 : decode method_2_code 44 = .ok (.iload_n 3, 1) := by decide +kernel
theorem d3_45 : decode method_2_code 45 = .ok (.isub, 1) := by decide +kernel
theorem d3_46 : decode method_2_code 46 = .ok (.iconst 2, 1) := by decide +kernel
theorem d3_47 : decode method_2_code 47 = .ok (.iadd, 1) := by decide +kernel
theorem d3_48 : decode method_2_code 48 = .ok (.caload, 1) := by decide +kernel
theorem d3_49 : decode method_2_code 49 = .ok (.if_icmp .ne 25, 3) := by decide +kernel
theorem d3_52 : decode method_2_code 52 = .ok (.iload_n 3, 1) := by decide +kernel
theorem d3_53 : decode method_2_code 53 = .ok (.iconst 4, 1) := by decide +kernel
theorem d3_54 : decode method_2_code 54 = .ok (.if_icmp .lt 16, 3) := by decide +kernel
theorem d3_57 : decode method_2_code 57 = .ok (.aload_n 0, 1) := by decide +kernel
theorem d3_58 : decode method_2_code 58 = .ok (.iconst 3, 1) := by decide +kernel
theorem d3_59 : decode method_2_code 59 = .ok (.caload, 1) := by decide +kernel
theorem d3_60 : decode method_2_code 60 = .ok (.aload_n 1, 1) := by decide +kernel
theorem d3_61 : decode method_2_code 61 = .ok (.iload_n 2, 1) := by decide +kernel
theorem d3_62 : decode method_2_code 62 = .ok (.iload_n 3, 1) := by decide +kernel
theorem d3_63 : decode method_2_code 63 = .ok (.isub, 1) := by decide +kernel
theorem d3_64 : decode method_2_code 64 = .ok (.iconst 3, 1) := by decide +kernel
theorem d3_65 : decode method_2_code 65 = .ok (.iadd, 1) := by decide +kernel
theorem d3_66 : decode method_2_code 66 = .ok (.caload, 1) := by decide +kernel
theorem d3_67 : decode method_2_code 67 = .ok (.if_icmp .ne 7, 3) := by decide +kernel
theorem d3_70 : decode method_2_code 70 = .ok (.iconst 1, 1) := by decide +kernel
theorem d3_71 : decode method_2_code 71 = .ok (.goto 4, 3) := by decide +kernel
theorem d3_74 : decode method_2_code 74 = .ok (.iconst 0, 1) := by decide +kernel
theorem d3_75 : decode method_2_code 75 = .ok (.ireturn, 1) := by decide +kernel
theorem pn_1 : plainName "needlewise/kmp/SparseAutomatonNextPinLaw" = true := by first | (simp [plainName, overriddenIn]; done) | decide +kernel
theorem ef_c_end_1 (m : MethodId) (pa : Addr) (ta : Addr) (n : Int32) : entryFrame m #[(.ref pa), (.ref ta), (.int n), (.int 1)] 4 = mkF m 0 #[.val (.ref pa), .val (.ref ta), .val (.int n), .val (.int 1)] [] := by first | (simp [entryFrame, mkF, argsToLocals, Value.category]; done) | rfl
set_option maxRecDepth 65536 in
set_option maxHeartbeats 40000000 in
theorem c_end_1 (l : Launch) (Z : State) (a0 : Array Value) (hw : ∀ d ∈ tables_1, d.before a0 Z = true) (pa : Addr) (ta : Addr) (n : Int32) (h0 : Heap) (n0 : Nat) (Z0 : n0 ≤ h0.size) (x0 : Int32) (x1 : Int32) (x2 : Int32) (x3 : Int32) (t0 : Int32) (i0 : Nat) (ts : List Value) (A_pa : Ars Z h0 pa .char [(.int x0), (.int x1), (.int x2), (.int x3)]) (A_ta : Ars Z h0 ta .char ts) (hi0 : (n - (1 : Int32)).toInt = i0) (ht0 : ts[i0]? = some (.int t0)) :
  Ctr l Z (⟨"needlewise/kmp/SparseAutomatonNextPinLaw", "ends", "([C[CII)Z"⟩ : MethodName) method_2_code 4 (some .boolean) ({ frames := 0, cells := 0, slots := 0, locals := 0 } : Room) #[(.ref pa), (.ref ta), (.int n), (.int 1)] h0 (PureI h0 n0 (own_b (x0 = t0))) := by
 refine Ctr.of (plainFor_of_name pn_1) (fun m => ef_c_end_1 m pa ta n) ?_
 intro p e s m below meth c T0 hx hby hml hown hnm hret hlk hZ e0 X0
 have N0 := Fr.nil n0
 replace hown : s.vm.findClass "needlewise/kmp/SparseAutomatonNextPinLaw" = some m.cls := hown
 replace hml : c.maxLocals = 4 := hml
 refine Run.x_iloadN (q := 1) X0 hx (hb hby d3_0) rfl rfl ?_
 refine Run.x_iconst (q := 2) X0 hx (hb hby d3_1) (z := (1 : Int32)) rfl rfl ?_
 refine Run.x_icmpNo (q := 5) X0 hx (hb hby d3_2) (flt (by decide : ¬ ((1 : Int32) < (1 : Int32)))).1 rfl ?_
 refine Run.x_aloadN (q := 6) X0 hx (hb hby d3_5) rfl rfl rfl ?_
 refine Run.x_iconst (q := 7) X0 hx (hb hby d3_6) (z := (0 : Int32)) rfl rfl ?_
 refine Run.y_ldC (q := 8) X0 hx hZ e0 A_pa (i := 0) (v := (.int x0)) (by decide) rfl (hb hby d3_7) rfl ?_
 refine Run.x_aloadN (q := 9) X0 hx (hb hby d3_8) rfl rfl rfl ?_
 refine Run.x_iloadN (q := 10) X0 hx (hb hby d3_9) rfl rfl ?_
 refine Run.x_iloadN (q := 11) X0 hx (hb hby d3_10) rfl rfl ?_
 refine Run.x_isub (q := 12) X0 hx (hb hby d3_11) rfl rfl ?_
 refine Run.y_ldC (q := 13) X0 hx hZ e0 A_ta (i := i0) (v := (.int t0)) hi0 ht0 (hb hby d3_12) rfl ?_
 by_cases hc13 : x0 = t0
 ·skip
  refine Run.x_icmpNo (q := 16) X0 hx (hb hby d3_13) (teq hc13).2 rfl ?_
  refine Run.x_iloadN (q := 17) X0 hx (hb hby d3_16) rfl rfl ?_
  refine Run.x_iconst (q := 18) X0 hx (hb hby d3_17) (z := (2 : Int32)) rfl rfl ?_
  refine Run.x_icmpYes (q := 34) X0 hx (hb hby d3_18) (tlt (by decide : (1 : Int32) < (2 : Int32))).1 (by decide) (by decide) ?_
  refine Run.x_iloadN (q := 35) X0 hx (hb hby d3_34) rfl rfl ?_
  refine Run.x_iconst (q := 36) X0 hx (hb hby d3_35) (z := (3 : Int32)) rfl rfl ?_
  refine Run.x_icmpYes (q := 52) X0 hx (hb hby d3_36) (tlt (by decide : (1 : Int32) < (3 : Int32))).1 (by decide) (by decide) ?_
  refine Run.x_iloadN (q := 53) X0 hx (hb hby d3_52) rfl rfl ?_
  refine Run.x_iconst (q := 54) X0 hx (hb hby d3_53) (z := (4 : Int32)) rfl rfl ?_
  refine Run.x_icmpYes (q := 70) X0 hx (hb hby d3_54) (tlt (by decide : (1 : Int32) < (4 : Int32))).1 (by decide) (by decide) ?_
  refine Run.x_iconst (q := 71) X0 hx (hb hby d3_70) (z := (1 : Int32)) rfl rfl ?_
  refine Run.x_goto (q := 75) X0 hx (hb hby d3_71) (by decide) (by decide) ?_
  refine Run.retN X0 hx hlk e0 (t := .boolean) hret (by simp) (z' := (1 : Int32)) (by decide) (hb hby d3_75) (by decide) (by decide) ?_
  exact PureI.mk (by exact (own_b1 hc13).symm) N0
 ·skip
  refine Run.x_icmpYes (q := 74) X0 hx (hb hby d3_13) (feq hc13).2 (by decide) (by decide) ?_
  refine Run.x_iconst (q := 75) X0 hx (hb hby d3_74) (z := (0 : Int32)) rfl rfl ?_
  refine Run.retN X0 hx hlk e0 (t := .boolean) hret (by simp) (z' := (0 : Int32)) (by decide) (hb hby d3_75) (by decide) (by decide) ?_
  exact PureI.mk (by exact (own_b0 (fun h => hc13 h)).symm) N0
theorem ef_c_end_2 (m : MethodId) (pa : Addr) (ta : Addr) (n : Int32) : entryFrame m #[(.ref pa), (.ref ta), (.int n), (.int 2)] 4 = mkF m 0 #[.val (.ref pa), .val (.ref ta), .val (.int n), .val (.int 2)] [] := by first | (simp [entryFrame, mkF, argsToLocals, Value.category]; done) | rfl
set_option maxRecDepth 65536 in
set_option maxHeartbeats 40000000 in
theorem c_end_2 (l : Launch) (Z : State) (a0 : Array Value) (hw : ∀ d ∈ tables_1, d.before a0 Z = true) (pa : Addr) (ta : Addr) (n : Int32) (h0 : Heap) (n0 : Nat) (Z0 : n0 ≤ h0.size) (x0 : Int32) (x1 : Int32) (x2 : Int32) (x3 : Int32) (t0 : Int32) (t1 : Int32) (i0 : Nat) (i1 : Nat) (ts : List Value) (A_pa : Ars Z h0 pa .char [(.int x0), (.int x1), (.int x2), (.int x3)]) (A_ta : Ars Z h0 ta .char ts) (hi0 : (n - (2 : Int32)).toInt = i0) (hi1 : ((n - (2 : Int32)) + (1 : Int32)).toInt = i1) (ht0 : ts[i0]? = some (.int t0)) (ht1 : ts[i1]? = some (.int t1)) :
  Ctr l Z (⟨"needlewise/kmp/SparseAutomatonNextPinLaw", "ends", "([C[CII)Z"⟩ : MethodName) method_2_code 4 (some .boolean) ({ frames := 0, cells := 0, slots := 0, locals := 0 } : Room) #[(.ref pa), (.ref ta), (.int n), (.int 2)] h0 (PureI h0 n0 (own_b (x0 = t0 ∧ x1 = t1))) := by
 refine Ctr.of (plainFor_of_name pn_1) (fun m => ef_c_end_2 m pa ta n) ?_
 intro p e s m below meth c T0 hx hby hml hown hnm hret hlk hZ e0 X0
 have N0 := Fr.nil n0
 replace hown : s.vm.findClass "needlewise/kmp/SparseAutomatonNextPinLaw" = some m.cls := hown
 replace hml : c.maxLocals = 4 := hml
 refine Run.x_iloadN (q := 1) X0 hx (hb hby d3_0) rfl rfl ?_
 refine Run.x_iconst (q := 2) X0 hx (hb hby d3_1) (z := (1 : Int32)) rfl rfl ?_
 refine Run.x_icmpNo (q := 5) X0 hx (hb hby d3_2) (flt (by decide : ¬ ((2 : Int32) < (1 : Int32)))).1 rfl ?_
 refine Run.x_aloadN (q := 6) X0 hx (hb hby d3_5) rfl rfl rfl ?_
 refine Run.x_iconst (q := 7) X0 hx (hb hby d3_6) (z := (0 : Int32)) rfl rfl ?_
 refine Run.y_ldC (q := 8) X0 hx hZ e0 A_pa (i := 0) (v := (.int x0)) (by decide) rfl (hb hby d3_7) rfl ?_
 refine Run.x_aloadN (q := 9) X0 hx (hb hby d3_8) rfl rfl rfl ?_
 refine Run.x_iloadN (q := 10) X0 hx (hb hby d3_9) rfl rfl ?_
 refine Run.x_iloadN (q := 11) X0 hx (hb hby d3_10) rfl rfl ?_
 refine Run.x_isub (q := 12) X0 hx (hb hby d3_11) rfl rfl ?_
 refine Run.y_ldC (q := 13) X0 hx hZ e0 A_ta (i := i0) (v := (.int t0)) hi0 ht0 (hb hby d3_12) rfl ?_
 by_cases hc13 : x0 = t0
 ·skip
  refine Run.x_icmpNo (q := 16) X0 hx (hb hby d3_13) (teq hc13).2 rfl ?_
  refine Run.x_iloadN (q := 17) X0 hx (hb hby d3_16) rfl rfl ?_
  refine Run.x_iconst (q := 18) X0 hx (hb hby d3_17) (z := (2 : Int32)) rfl rfl ?_
  refine Run.x_icmpNo (q := 21) X0 hx (hb hby d3_18) (flt (by decide : ¬ ((2 : Int32) < (2 : Int32)))).1 rfl ?_
  refine Run.x_aloadN (q := 22) X0 hx (hb hby d3_21) rfl rfl rfl ?_
  refine Run.x_iconst (q := 23) X0 hx (hb hby d3_22) (z := (1 : Int32)) rfl rfl ?_
  refine Run.y_ldC (q := 24) X0 hx hZ e0 A_pa (i := 1) (v := (.int x1)) (by decide) rfl (hb hby d3_23) rfl ?_
  refine Run.x_aloadN (q := 25) X0 hx (hb hby d3_24) rfl rfl rfl ?_
  refine Run.x_iloadN (q := 26) X0 hx (hb hby d3_25) rfl rfl ?_
  refine Run.x_iloadN (q := 27) X0 hx (hb hby d3_26) rfl rfl ?_
  refine Run.x_isub (q := 28) X0 hx (hb hby d3_27) rfl rfl ?_
  refine Run.x_iconst (q := 29) X0 hx (hb hby d3_28) (z := (1 : Int32)) rfl rfl ?_
  refine Run.x_iadd (q := 30) X0 hx (hb hby d3_29) rfl rfl ?_
  refine Run.y_ldC (q := 31) X0 hx hZ e0 A_ta (i := i1) (v := (.int t1)) hi1 ht1 (hb hby d3_30) rfl ?_
  by_cases hc31 : x1 = t1
  ·skip
   refine Run.x_icmpNo (q := 34) X0 hx (hb hby d3_31) (teq hc31).2 rfl ?_
   refine Run.x_iloadN (q := 35) X0 hx (hb hby d3_34) rfl rfl ?_
   refine Run.x_iconst (q := 36) X0 hx (hb hby d3_35) (z := (3 : Int32)) rfl rfl ?_
   refine Run.x_icmpYes (q := 52) X0 hx (hb hby d3_36) (tlt (by decide : (2 : Int32) < (3 : Int32))).1 (by decide) (by decide) ?_
   refine Run.x_iloadN (q := 53) X0 hx (hb hby d3_52) rfl rfl ?_
   refine Run.x_iconst (q := 54) X0 hx (hb hby d3_53) (z := (4 : Int32)) rfl rfl ?_
   refine Run.x_icmpYes (q := 70) X0 hx (hb hby d3_54) (tlt (by decide : (2 : Int32) < (4 : Int32))).1 (by decide) (by decide) ?_
   refine Run.x_iconst (q := 71) X0 hx (hb hby d3_70) (z := (1 : Int32)) rfl rfl ?_
   refine Run.x_goto (q := 75) X0 hx (hb hby d3_71) (by decide) (by decide) ?_
   refine Run.retN X0 hx hlk e0 (t := .boolean) hret (by simp) (z' := (1 : Int32)) (by decide) (hb hby d3_75) (by decide) (by decide) ?_
   exact PureI.mk (by exact (own_b1 ⟨hc13, hc31⟩).symm) N0
  ·skip
   refine Run.x_icmpYes (q := 74) X0 hx (hb hby d3_31) (feq hc31).2 (by decide) (by decide) ?_
   refine Run.x_iconst (q := 75) X0 hx (hb hby d3_74) (z := (0 : Int32)) rfl rfl ?_
   refine Run.retN X0 hx hlk e0 (t := .boolean) hret (by simp) (z' := (0 : Int32)) (by decide) (hb hby d3_75) (by decide) (by decide) ?_
   exact PureI.mk (by exact (own_b0 (fun h => hc31 h.2)).symm) N0
 ·skip
  refine Run.x_icmpYes (q := 74) X0 hx (hb hby d3_13) (feq hc13).2 (by decide) (by decide) ?_
  refine Run.x_iconst (q := 75) X0 hx (hb hby d3_74) (z := (0 : Int32)) rfl rfl ?_
  refine Run.retN X0 hx hlk e0 (t := .boolean) hret (by simp) (z' := (0 : Int32)) (by decide) (hb hby d3_75) (by decide) (by decide) ?_
  exact PureI.mk (by exact (own_b0 (fun h => hc13 h.1)).symm) N0
theorem ef_c_end_3 (m : MethodId) (pa : Addr) (ta : Addr) (n : Int32) : entryFrame m #[(.ref pa), (.ref ta), (.int n), (.int 3)] 4 = mkF m 0 #[.val (.ref pa), .val (.ref ta), .val (.int n), .val (.int 3)] [] := by first | (simp [entryFrame, mkF, argsToLocals, Value.category]; done) | rfl
set_option maxRecDepth 65536 in
set_option maxHeartbeats 40000000 in
theorem c_end_3 (l : Launch) (Z : State) (a0 : Array Value) (hw : ∀ d ∈ tables_1, d.before a0 Z = true) (pa : Addr) (ta : Addr) (n : Int32) (h0 : Heap) (n0 : Nat) (Z0 : n0 ≤ h0.size) (x0 : Int32) (x1 : Int32) (x2 : Int32) (x3 : Int32) (t0 : Int32) (t1 : Int32) (t2 : Int32) (i0 : Nat) (i1 : Nat) (i2 : Nat) (ts : List Value) (A_pa : Ars Z h0 pa .char [(.int x0), (.int x1), (.int x2), (.int x3)]) (A_ta : Ars Z h0 ta .char ts) (hi0 : (n - (3 : Int32)).toInt = i0) (hi1 : ((n - (3 : Int32)) + (1 : Int32)).toInt = i1) (hi2 : ((n - (3 : Int32)) + (2 : Int32)).toInt = i2) (ht0 : ts[i0]? = some (.int t0)) (ht1 : ts[i1]? = some (.int t1)) (ht2 : ts[i2]? = some (.int t2)) :
  Ctr l Z (⟨"needlewise/kmp/SparseAutomatonNextPinLaw", "ends", "([C[CII)Z"⟩ : MethodName) method_2_code 4 (some .boolean) ({ frames := 0, cells := 0, slots := 0, locals := 0 } : Room) #[(.ref pa), (.ref ta), (.int n), (.int 3)] h0 (PureI h0 n0 (own_b (x0 = t0 ∧ x1 = t1 ∧ x2 = t2))) := by
 refine Ctr.of (plainFor_of_name pn_1) (fun m => ef_c_end_3 m pa ta n) ?_
 intro p e s m below meth c T0 hx hby hml hown hnm hret hlk hZ e0 X0
 have N0 := Fr.nil n0
 replace hown : s.vm.findClass "needlewise/kmp/SparseAutomatonNextPinLaw" = some m.cls := hown
 replace hml : c.maxLocals = 4 := hml
 refine Run.x_iloadN (q := 1) X0 hx (hb hby d3_0) rfl rfl ?_
 refine Run.x_iconst (q := 2) X0 hx (hb hby d3_1) (z := (1 : Int32)) rfl rfl ?_
 refine Run.x_icmpNo (q := 5) X0 hx (hb hby d3_2) (flt (by decide : ¬ ((3 : Int32) < (1 : Int32)))).1 rfl ?_
 refine Run.x_aloadN (q := 6) X0 hx (hb hby d3_5) rfl rfl rfl ?_
 refine Run.x_iconst (q := 7) X0 hx (hb hby d3_6) (z := (0 : Int32)) rfl rfl ?_
 refine Run.y_ldC (q := 8) X0 hx hZ e0 A_pa (i := 0) (v := (.int x0)) (by decide) rfl (hb hby d3_7) rfl ?_
 refine Run.x_aloadN (q := 9) X0 hx (hb hby d3_8) rfl rfl rfl ?_
 refine Run.x_iloadN (q := 10) X0 hx (hb hby d3_9) rfl rfl ?_
 refine Run.x_iloadN (q := 11) X0 hx (hb hby d3_10) rfl rfl ?_
 refine Run.x_isub (q := 12) X0 hx (hb hby d3_11) rfl rfl ?_
 refine Run.y_ldC (q := 13) X0 hx hZ e0 A_ta (i := i0) (v := (.int t0)) hi0 ht0 (hb hby d3_12) rfl ?_
 by_cases hc13 : x0 = t0
 ·skip
  refine Run.x_icmpNo (q := 16) X0 hx (hb hby d3_13) (teq hc13).2 rfl ?_
  refine Run.x_iloadN (q := 17) X0 hx (hb hby d3_16) rfl rfl ?_
  refine Run.x_iconst (q := 18) X0 hx (hb hby d3_17) (z := (2 : Int32)) rfl rfl ?_
  refine Run.x_icmpNo (q := 21) X0 hx (hb hby d3_18) (flt (by decide : ¬ ((3 : Int32) < (2 : Int32)))).1 rfl ?_
  refine Run.x_aloadN (q := 22) X0 hx (hb hby d3_21) rfl rfl rfl ?_
  refine Run.x_iconst (q := 23) X0 hx (hb hby d3_22) (z := (1 : Int32)) rfl rfl ?_
  refine Run.y_ldC (q := 24) X0 hx hZ e0 A_pa (i := 1) (v := (.int x1)) (by decide) rfl (hb hby d3_23) rfl ?_
  refine Run.x_aloadN (q := 25) X0 hx (hb hby d3_24) rfl rfl rfl ?_
  refine Run.x_iloadN (q := 26) X0 hx (hb hby d3_25) rfl rfl ?_
  refine Run.x_iloadN (q := 27) X0 hx (hb hby d3_26) rfl rfl ?_
  refine Run.x_isub (q := 28) X0 hx (hb hby d3_27) rfl rfl ?_
  refine Run.x_iconst (q := 29) X0 hx (hb hby d3_28) (z := (1 : Int32)) rfl rfl ?_
  refine Run.x_iadd (q := 30) X0 hx (hb hby d3_29) rfl rfl ?_
  refine Run.y_ldC (q := 31) X0 hx hZ e0 A_ta (i := i1) (v := (.int t1)) hi1 ht1 (hb hby d3_30) rfl ?_
  by_cases hc31 : x1 = t1
  ·skip
   refine Run.x_icmpNo (q := 34) X0 hx (hb hby d3_31) (teq hc31).2 rfl ?_
   refine Run.x_iloadN (q := 35) X0 hx (hb hby d3_34) rfl rfl ?_
   refine Run.x_iconst (q := 36) X0 hx (hb hby d3_35) (z := (3 : Int32)) rfl rfl ?_
   refine Run.x_icmpNo (q := 39) X0 hx (hb hby d3_36) (flt (by decide : ¬ ((3 : Int32) < (3 : Int32)))).1 rfl ?_
   refine Run.x_aloadN (q := 40) X0 hx (hb hby d3_39) rfl rfl rfl ?_
   refine Run.x_iconst (q := 41) X0 hx (hb hby d3_40) (z := (2 : Int32)) rfl rfl ?_
   refine Run.y_ldC (q := 42) X0 hx hZ e0 A_pa (i := 2) (v := (.int x2)) (by decide) rfl (hb hby d3_41) rfl ?_
   refine Run.x_aloadN (q := 43) X0 hx (hb hby d3_42) rfl rfl rfl ?_
   refine Run.x_iloadN (q := 44) X0 hx (hb hby d3_43) rfl rfl ?_
   refine Run.x_iloadN (q := 45) X0 hx (hb hby d3_44) rfl rfl ?_
   refine Run.x_isub (q := 46) X0 hx (hb hby d3_45) rfl rfl ?_
   refine Run.x_iconst (q := 47) X0 hx (hb hby d3_46) (z := (2 : Int32)) rfl rfl ?_
   refine Run.x_iadd (q := 48) X0 hx (hb hby d3_47) rfl rfl ?_
   refine Run.y_ldC (q := 49) X0 hx hZ e0 A_ta (i := i2) (v := (.int t2)) hi2 ht2 (hb hby d3_48) rfl ?_
   by_cases hc49 : x2 = t2
   ·skip
    refine Run.x_icmpNo (q := 52) X0 hx (hb hby d3_49) (teq hc49).2 rfl ?_
    refine Run.x_iloadN (q := 53) X0 hx (hb hby d3_52) rfl rfl ?_
    refine Run.x_iconst (q := 54) X0 hx (hb hby d3_53) (z := (4 : Int32)) rfl rfl ?_
    refine Run.x_icmpYes (q := 70) X0 hx (hb hby d3_54) (tlt (by decide : (3 : Int32) < (4 : Int32))).1 (by decide) (by decide) ?_
    refine Run.x_iconst (q := 71) X0 hx (hb hby d3_70) (z := (1 : Int32)) rfl rfl ?_
    refine Run.x_goto (q := 75) X0 hx (hb hby d3_71) (by decide) (by decide) ?_
    refine Run.retN X0 hx hlk e0 (t := .boolean) hret (by simp) (z' := (1 : Int32)) (by decide) (hb hby d3_75) (by decide) (by decide) ?_
    exact PureI.mk (by exact (own_b1 ⟨hc13, hc31, hc49⟩).symm) N0
   ·skip
    refine Run.x_icmpYes (q := 74) X0 hx (hb hby d3_49) (feq hc49).2 (by decide) (by decide) ?_
    refine Run.x_iconst (q := 75) X0 hx (hb hby d3_74) (z := (0 : Int32)) rfl rfl ?_
    refine Run.retN X0 hx hlk e0 (t := .boolean) hret (by simp) (z' := (0 : Int32)) (by decide) (hb hby d3_75) (by decide) (by decide) ?_
    exact PureI.mk (by exact (own_b0 (fun h => hc49 h.2.2)).symm) N0
  ·skip
   refine Run.x_icmpYes (q := 74) X0 hx (hb hby d3_31) (feq hc31).2 (by decide) (by decide) ?_
   refine Run.x_iconst (q := 75) X0 hx (hb hby d3_74) (z := (0 : Int32)) rfl rfl ?_
   refine Run.retN X0 hx hlk e0 (t := .boolean) hret (by simp) (z' := (0 : Int32)) (by decide) (hb hby d3_75) (by decide) (by decide) ?_
   exact PureI.mk (by exact (own_b0 (fun h => hc31 h.2.1)).symm) N0
 ·skip
  refine Run.x_icmpYes (q := 74) X0 hx (hb hby d3_13) (feq hc13).2 (by decide) (by decide) ?_
  refine Run.x_iconst (q := 75) X0 hx (hb hby d3_74) (z := (0 : Int32)) rfl rfl ?_
  refine Run.retN X0 hx hlk e0 (t := .boolean) hret (by simp) (z' := (0 : Int32)) (by decide) (hb hby d3_75) (by decide) (by decide) ?_
  exact PureI.mk (by exact (own_b0 (fun h => hc13 h.1)).symm) N0
theorem ef_c_end_4 (m : MethodId) (pa : Addr) (ta : Addr) (n : Int32) : entryFrame m #[(.ref pa), (.ref ta), (.int n), (.int 4)] 4 = mkF m 0 #[.val (.ref pa), .val (.ref ta), .val (.int n), .val (.int 4)] [] := by first | (simp [entryFrame, mkF, argsToLocals, Value.category]; done) | rfl
set_option maxRecDepth 65536 in
set_option maxHeartbeats 40000000 in
theorem c_end_4 (l : Launch) (Z : State) (a0 : Array Value) (hw : ∀ d ∈ tables_1, d.before a0 Z = true) (pa : Addr) (ta : Addr) (n : Int32) (h0 : Heap) (n0 : Nat) (Z0 : n0 ≤ h0.size) (x0 : Int32) (x1 : Int32) (x2 : Int32) (x3 : Int32) (t0 : Int32) (t1 : Int32) (t2 : Int32) (t3 : Int32) (i0 : Nat) (i1 : Nat) (i2 : Nat) (i3 : Nat) (ts : List Value) (A_pa : Ars Z h0 pa .char [(.int x0), (.int x1), (.int x2), (.int x3)]) (A_ta : Ars Z h0 ta .char ts) (hi0 : (n - (4 : Int32)).toInt = i0) (hi1 : ((n - (4 : Int32)) + (1 : Int32)).toInt = i1) (hi2 : ((n - (4 : Int32)) + (2 : Int32)).toInt = i2) (hi3 : ((n - (4 : Int32)) + (3 : Int32)).toInt = i3) (ht0 : ts[i0]? = some (.int t0)) (ht1 : ts[i1]? = some (.int t1)) (ht2 : ts[i2]? = some (.int t2)) (ht3 : ts[i3]? = some (.int t3)) :
  Ctr l Z (⟨"needlewise/kmp/SparseAutomatonNextPinLaw", "ends", "([C[CII)Z"⟩ : MethodName) method_2_code 4 (some .boolean) ({ frames := 0, cells := 0, slots := 0, locals := 0 } : Room) #[(.ref pa), (.ref ta), (.int n), (.int 4)] h0 (PureI h0 n0 (own_b (x0 = t0 ∧ x1 = t1 ∧ x2 = t2 ∧ x3 = t3))) := by
 refine Ctr.of (plainFor_of_name pn_1) (fun m => ef_c_end_4 m pa ta n) ?_
 intro p e s m below meth c T0 hx hby hml hown hnm hret hlk hZ e0 X0
 have N0 := Fr.nil n0
 replace hown : s.vm.findClass "needlewise/kmp/SparseAutomatonNextPinLaw" = some m.cls := hown
 replace hml : c.maxLocals = 4 := hml
 refine Run.x_iloadN (q := 1) X0 hx (hb hby d3_0) rfl rfl ?_
 refine Run.x_iconst (q := 2) X0 hx (hb hby d3_1) (z := (1 : Int32)) rfl rfl ?_
 refine Run.x_icmpNo (q := 5) X0 hx (hb hby d3_2) (flt (by decide : ¬ ((4 : Int32) < (1 : Int32)))).1 rfl ?_
 refine Run.x_aloadN (q := 6) X0 hx (hb hby d3_5) rfl rfl rfl ?_
 refine Run.x_iconst (q := 7) X0 hx (hb hby d3_6) (z := (0 : Int32)) rfl rfl ?_
 refine Run.y_ldC (q := 8) X0 hx hZ e0 A_pa (i := 0) (v := (.int x0)) (by decide) rfl (hb hby d3_7) rfl ?_
 refine Run.x_aloadN (q := 9) X0 hx (hb hby d3_8) rfl rfl rfl ?_
 refine Run.x_iloadN (q := 10) X0 hx (hb hby d3_9) rfl rfl ?_
 refine Run.x_iloadN (q := 11) X0 hx (hb hby d3_10) rfl rfl ?_
 refine Run.x_isub (q := 12) X0 hx (hb hby d3_11) rfl rfl ?_
 refine Run.y_ldC (q := 13) X0 hx hZ e0 A_ta (i := i0) (v := (.int t0)) hi0 ht0 (hb hby d3_12) rfl ?_
 by_cases hc13 : x0 = t0
 ·skip
  refine Run.x_icmpNo (q := 16) X0 hx (hb hby d3_13) (teq hc13).2 rfl ?_
  refine Run.x_iloadN (q := 17) X0 hx (hb hby d3_16) rfl rfl ?_
  refine Run.x_iconst (q := 18) X0 hx (hb hby d3_17) (z := (2 : Int32)) rfl rfl ?_
  refine Run.x_icmpNo (q := 21) X0 hx (hb hby d3_18) (flt (by decide : ¬ ((4 : Int32) < (2 : Int32)))).1 rfl ?_
  refine Run.x_aloadN (q := 22) X0 hx (hb hby d3_21) rfl rfl rfl ?_
  refine Run.x_iconst (q := 23) X0 hx (hb hby d3_22) (z := (1 : Int32)) rfl rfl ?_
  refine Run.y_ldC (q := 24) X0 hx hZ e0 A_pa (i := 1) (v := (.int x1)) (by decide) rfl (hb hby d3_23) rfl ?_
  refine Run.x_aloadN (q := 25) X0 hx (hb hby d3_24) rfl rfl rfl ?_
  refine Run.x_iloadN (q := 26) X0 hx (hb hby d3_25) rfl rfl ?_
  refine Run.x_iloadN (q := 27) X0 hx (hb hby d3_26) rfl rfl ?_
  refine Run.x_isub (q := 28) X0 hx (hb hby d3_27) rfl rfl ?_
  refine Run.x_iconst (q := 29) X0 hx (hb hby d3_28) (z := (1 : Int32)) rfl rfl ?_
  refine Run.x_iadd (q := 30) X0 hx (hb hby d3_29) rfl rfl ?_
  refine Run.y_ldC (q := 31) X0 hx hZ e0 A_ta (i := i1) (v := (.int t1)) hi1 ht1 (hb hby d3_30) rfl ?_
  by_cases hc31 : x1 = t1
  ·skip
   refine Run.x_icmpNo (q := 34) X0 hx (hb hby d3_31) (teq hc31).2 rfl ?_
   refine Run.x_iloadN (q := 35) X0 hx (hb hby d3_34) rfl rfl ?_
   refine Run.x_iconst (q := 36) X0 hx (hb hby d3_35) (z := (3 : Int32)) rfl rfl ?_
   refine Run.x_icmpNo (q := 39) X0 hx (hb hby d3_36) (flt (by decide : ¬ ((4 : Int32) < (3 : Int32)))).1 rfl ?_
   refine Run.x_aloadN (q := 40) X0 hx (hb hby d3_39) rfl rfl rfl ?_
   refine Run.x_iconst (q := 41) X0 hx (hb hby d3_40) (z := (2 : Int32)) rfl rfl ?_
   refine Run.y_ldC (q := 42) X0 hx hZ e0 A_pa (i := 2) (v := (.int x2)) (by decide) rfl (hb hby d3_41) rfl ?_
   refine Run.x_aloadN (q := 43) X0 hx (hb hby d3_42) rfl rfl rfl ?_
   refine Run.x_iloadN (q := 44) X0 hx (hb hby d3_43) rfl rfl ?_
   refine Run.x_iloadN (q := 45) X0 hx (hb hby d3_44) rfl rfl ?_
   refine Run.x_isub (q := 46) X0 hx (hb hby d3_45) rfl rfl ?_
   refine Run.x_iconst (q := 47) X0 hx (hb hby d3_46) (z := (2 : Int32)) rfl rfl ?_
   refine Run.x_iadd (q := 48) X0 hx (hb hby d3_47) rfl rfl ?_
   refine Run.y_ldC (q := 49) X0 hx hZ e0 A_ta (i := i2) (v := (.int t2)) hi2 ht2 (hb hby d3_48) rfl ?_
   by_cases hc49 : x2 = t2
   ·skip
    refine Run.x_icmpNo (q := 52) X0 hx (hb hby d3_49) (teq hc49).2 rfl ?_
    refine Run.x_iloadN (q := 53) X0 hx (hb hby d3_52) rfl rfl ?_
    refine Run.x_iconst (q := 54) X0 hx (hb hby d3_53) (z := (4 : Int32)) rfl rfl ?_
    refine Run.x_icmpNo (q := 57) X0 hx (hb hby d3_54) (flt (by decide : ¬ ((4 : Int32) < (4 : Int32)))).1 rfl ?_
    refine Run.x_aloadN (q := 58) X0 hx (hb hby d3_57) rfl rfl rfl ?_
    refine Run.x_iconst (q := 59) X0 hx (hb hby d3_58) (z := (3 : Int32)) rfl rfl ?_
    refine Run.y_ldC (q := 60) X0 hx hZ e0 A_pa (i := 3) (v := (.int x3)) (by decide) rfl (hb hby d3_59) rfl ?_
    refine Run.x_aloadN (q := 61) X0 hx (hb hby d3_60) rfl rfl rfl ?_
    refine Run.x_iloadN (q := 62) X0 hx (hb hby d3_61) rfl rfl ?_
    refine Run.x_iloadN (q := 63) X0 hx (hb hby d3_62) rfl rfl ?_
    refine Run.x_isub (q := 64) X0 hx (hb hby d3_63) rfl rfl ?_
    refine Run.x_iconst (q := 65) X0 hx (hb hby d3_64) (z := (3 : Int32)) rfl rfl ?_
    refine Run.x_iadd (q := 66) X0 hx (hb hby d3_65) rfl rfl ?_
    refine Run.y_ldC (q := 67) X0 hx hZ e0 A_ta (i := i3) (v := (.int t3)) hi3 ht3 (hb hby d3_66) rfl ?_
    by_cases hc67 : x3 = t3
    ·skip
     refine Run.x_icmpNo (q := 70) X0 hx (hb hby d3_67) (teq hc67).2 rfl ?_
     refine Run.x_iconst (q := 71) X0 hx (hb hby d3_70) (z := (1 : Int32)) rfl rfl ?_
     refine Run.x_goto (q := 75) X0 hx (hb hby d3_71) (by decide) (by decide) ?_
     refine Run.retN X0 hx hlk e0 (t := .boolean) hret (by simp) (z' := (1 : Int32)) (by decide) (hb hby d3_75) (by decide) (by decide) ?_
     exact PureI.mk (by exact (own_b1 ⟨hc13, hc31, hc49, hc67⟩).symm) N0
    ·skip
     refine Run.x_icmpYes (q := 74) X0 hx (hb hby d3_67) (feq hc67).2 (by decide) (by decide) ?_
     refine Run.x_iconst (q := 75) X0 hx (hb hby d3_74) (z := (0 : Int32)) rfl rfl ?_
     refine Run.retN X0 hx hlk e0 (t := .boolean) hret (by simp) (z' := (0 : Int32)) (by decide) (hb hby d3_75) (by decide) (by decide) ?_
     exact PureI.mk (by exact (own_b0 (fun h => hc67 h.2.2.2)).symm) N0
   ·skip
    refine Run.x_icmpYes (q := 74) X0 hx (hb hby d3_49) (feq hc49).2 (by decide) (by decide) ?_
    refine Run.x_iconst (q := 75) X0 hx (hb hby d3_74) (z := (0 : Int32)) rfl rfl ?_
    refine Run.retN X0 hx hlk e0 (t := .boolean) hret (by simp) (z' := (0 : Int32)) (by decide) (hb hby d3_75) (by decide) (by decide) ?_
    exact PureI.mk (by exact (own_b0 (fun h => hc49 h.2.2.1)).symm) N0
  ·skip
   refine Run.x_icmpYes (q := 74) X0 hx (hb hby d3_31) (feq hc31).2 (by decide) (by decide) ?_
   refine Run.x_iconst (q := 75) X0 hx (hb hby d3_74) (z := (0 : Int32)) rfl rfl ?_
   refine Run.retN X0 hx hlk e0 (t := .boolean) hret (by simp) (z' := (0 : Int32)) (by decide) (hb hby d3_75) (by decide) (by decide) ?_
   exact PureI.mk (by exact (own_b0 (fun h => hc31 h.2.1)).symm) N0
 ·skip
  refine Run.x_icmpYes (q := 74) X0 hx (hb hby d3_13) (feq hc13).2 (by decide) (by decide) ?_
  refine Run.x_iconst (q := 75) X0 hx (hb hby d3_74) (z := (0 : Int32)) rfl rfl ?_
  refine Run.retN X0 hx hlk e0 (t := .boolean) hret (by simp) (z' := (0 : Int32)) (by decide) (hb hby d3_75) (by decide) (by decide) ?_
  exact PureI.mk (by exact (own_b0 (fun h => hc13 h.1)).symm) N0
theorem d4_0 : decode jdk_29_method_69_code 0 = .ok (.iload_n 0, 1) := by decide +kernel
theorem d4_1 : decode jdk_29_method_69_code 1 = .ok (.iload_n 1, 1) := by decide +kernel
theorem d4_2 : decode jdk_29_method_69_code 2 = .ok (.if_icmp .gt 7, 3) := by decide +kernel
theorem d4_5 : decode jdk_29_method_69_code 5 = .ok (.iload_n 0, 1) := by decide +kernel
theorem d4_6 : decode jdk_29_method_69_code 6 = .ok (.goto 4, 3) := by decide +kernel
theorem d4_9 : decode jdk_29_method_69_code 9 = .ok (.iload_n 1, 1) := by decide +kernel
theorem d4_10 : decode jdk_29_method_69_code 10 = .ok (.ireturn, 1) := by decide +kernel
theorem ef_c_min (m : MethodId) (x : Int32) (y : Int32) : entryFrame m #[(.int x), (.int y)] 2 = mkF m 0 #[.val (.int x), .val (.int y)] [] := by first | (simp [entryFrame, mkF, argsToLocals, Value.category]; done) | rfl
set_option maxRecDepth 65536 in
set_option maxHeartbeats 40000000 in
theorem c_min (l : Launch) (Z : State) (a0 : Array Value) (hw : ∀ d ∈ tables_1, d.before a0 Z = true) (x : Int32) (y : Int32) (h0 : Heap) (n0 : Nat) (Z0 : n0 ≤ h0.size) (z : Int32) (hz : (if y < x then y else x) = z) :
  Ctr l Z (⟨"java/lang/Math", "min", "(II)I"⟩ : MethodName) jdk_29_method_69_code 2 (some .int) ({ frames := 0, cells := 0, slots := 0, locals := 0 } : Room) #[(.int x), (.int y)] h0 (PureI h0 n0 z) := by
 refine Ctr.of (Jvm.Free.JP.mathPlain rfl (by decide +kernel)) (fun m => ef_c_min m x y) ?_
 intro p e s m below meth c T0 hx hby hml hown hnm hret hlk hZ e0 X0
 have N0 := Fr.nil n0
 replace hown : s.vm.findClass "java/lang/Math" = some m.cls := hown
 replace hml : c.maxLocals = 2 := hml
 refine Run.x_iloadN (q := 1) X0 hx (hb hby d4_0) rfl rfl ?_
 refine Run.x_iloadN (q := 2) X0 hx (hb hby d4_1) rfl rfl ?_
 by_cases hc2 : y < x
 ·skip
  refine Run.x_icmpYes (q := 9) X0 hx (hb hby d4_2) (tlt hc2).2.2.1 (by decide) (by decide) ?_
  refine Run.x_iloadN (q := 10) X0 hx (hb hby d4_9) rfl rfl ?_
  refine Run.retI X0 hx hlk e0 hret (hb hby d4_10) (by decide) (by decide) ?_
  exact PureI.mk (by exact (if_pos hc2).symm.trans hz) N0
 ·skip
  refine Run.x_icmpNo (q := 5) X0 hx (hb hby d4_2) (flt hc2).2.2.1 rfl ?_
  refine Run.x_iloadN (q := 6) X0 hx (hb hby d4_5) rfl rfl ?_
  refine Run.x_goto (q := 10) X0 hx (hb hby d4_6) (by decide) (by decide) ?_
  refine Run.retI X0 hx hlk e0 hret (hb hby d4_10) (by decide) (by decide) ?_
  exact PureI.mk (by exact (if_neg hc2).symm.trans hz) N0
theorem d5_0 : decode method_3_code 0 = .ok (.iload_n 1, 1) := by decide +kernel
theorem d5_1 : decode method_3_code 1 = .ok (.ifCond .ne 7, 3) := by decide +kernel
theorem d5_4 : decode method_3_code 4 = .ok (.iconst 0, 1) := by decide +kernel
theorem d5_5 : decode method_3_code 5 = .ok (.newarray .char, 2) := by decide +kernel
theorem d5_7 : decode method_3_code 7 = .ok (.areturn, 1) := by decide +kernel
theorem d5_8 : decode method_3_code 8 = .ok (.iload_n 1, 1) := by decide +kernel
theorem d5_9 : decode method_3_code 9 = .ok (.iconst 1, 1) := by decide +kernel
theorem d5_10 : decode method_3_code 10 = .ok (.if_icmp .ne 13, 3) := by decide +kernel
theorem d5_13 : decode method_3_code 13 = .ok (.iconst 1, 1) := by decide +kernel
theorem d5_14 : decode method_3_code 14 = .ok (.newarray .char, 2) := by decide +kernel
theorem d5_16 : decode method_3_code 16 = .ok (.dup, 1) := by decide +kernel
theorem d5_17 : decode method_3_code 17 = .ok (.iconst 0, 1) := by decide +kernel
theorem d5_18 : decode method_3_code 18 = .ok (.aload_n 0, 1) := by decide +kernel
theorem d5_19 : decode method_3_code 19 = .ok (.iconst 0, 1) := by decide +kernel
theorem d5_20 : decode method_3_code 20 = .ok (.caload, 1) := by decide +kernel
theorem d5_21 : decode method_3_code 21 = .ok (.castore, 1) := by decide +kernel
theorem d5_22 : decode method_3_code 22 = .ok (.areturn, 1) := by decide +kernel
theorem d5_23 : decode method_3_code 23 = .ok (.iload_n 1, 1) := by decide +kernel
theorem d5_24 : decode method_3_code 24 = .ok (.iconst 2, 1) := by decide +kernel
theorem d5_25 : decode method_3_code 25 = .ok (.if_icmp .ne 19, 3) := by decide +kernel
theorem d5_28 : decode method_3_code 28 = .ok (.iconst 2, 1) := by decide +kernel
theorem d5_29 : decode method_3_code 29 = .ok (.newarray .char, 2) := by decide +kernel
theorem d5_31 : decode method_3_code 31 = .ok (.dup, 1) := by decide +kernel
theorem d5_32 : decode method_3_code 32 = .ok (.iconst 0, 1) := by decide +kernel
theorem d5_33 : decode method_3_code 33 = .ok (.aload_n 0, 1) := by decide +kernel
theorem d5_34 : decode method_3_code 34 = .ok (.iconst 0, 1) := by decide +kernel
theorem d5_35 : decode method_3_code 35 = .ok (.caload, 1) := by decide +kernel
theorem d5_36 : decode method_3_code 36 = .ok (.castore, 1) := by decide +kernel
theorem d5_37 : decode method_3_code 37 = .ok (.dup, 1) := by decide +kernel
theorem d5_38 : decode method_3_code 38 = .ok (.iconst 1, 1) := by decide +kernel
theorem d5_39 : decode method_3_code 39 = .ok (.aload_n 0, 1) := by decide +kernel
theorem d5_40 : decode method_3_code 40 = .ok (.iconst 1, 1) := by decide +kernel
theorem d5_41 : decode method_3_code 41 = .ok (.caload, 1) := by decide +kernel
theorem d5_42 : decode method_3_code 42 = .ok (.castore, 1) := by decide +kernel
theorem d5_43 : decode method_3_code 43 = .ok (.areturn, 1) := by decide +kernel
theorem d5_44 : decode method_3_code 44 = .ok (.iload_n 1, 1) := by decide +kernel
theorem d5_45 : decode method_3_code 45 = .ok (.iconst 3, 1) := by decide +kernel
theorem d5_46 : decode method_3_code 46 = .ok (.if_icmp .ne 25, 3) := by decide +kernel
theorem d5_49 : decode method_3_code 49 = .ok (.iconst 3, 1) := by decide +kernel
theorem d5_50 : decode method_3_code 50 = .ok (.newarray .char, 2) := by decide +kernel
theorem d5_52 : decode method_3_code 52 = .ok (.dup, 1) := by decide +kernel
theorem d5_53 : decode method_3_code 53 = .ok (.iconst 0, 1) := by decide +kernel
theorem d5_54 : decode method_3_code 54 = .ok (.aload_n 0, 1) := by decide +kernel
theorem d5_55 : decode method_3_code 55 = .ok (.iconst 0, 1) := by decide +kernel
theorem d5_56 : decode method_3_code 56 = .ok (.caload, 1) := by decide +kernel
theorem d5_57 : decode method_3_code 57 = .ok (.castore, 1) := by decide +kernel
theorem d5_58 : decode method_3_code 58 = .ok (.dup, 1) := by decide +kernel
theorem d5_59 : decode method_3_code 59 = .ok (.iconst 1, 1) := by decide +kernel
theorem d5_60 : decode method_3_code 60 = .ok (.aload_n 0, 1) := by decide +kernel
theorem d5_61 : decode method_3_code 61 = .ok (.iconst 1, 1) := by decide +kernel
theorem d5_62 : decode method_3_code 62 = .ok (.caload, 1) := by decide +kernel
theorem d5_63 : decode method_3_code 63 = .ok (.castore, 1) := by decide +kernel
theorem d5_64 : decode method_3_code 64 = .ok (.dup, 1) := by decide +kernel
theorem d5_65 : decode method_3_code 65 = .ok (.iconst 2, 1) := by decide +kernel
theorem d5_66 : decode method_3_code 66 = .ok (.aload_n 0, 1) := by decide +kernel
theorem d5_67 : decode method_3_code 67 = .ok (.iconst 2, 1) := by decide +kernel
theorem d5_68 : decode method_3_code 68 = .ok (.caload, 1) := by decide +kernel
theorem d5_69 : decode method_3_code 69 = .ok (.castore, 1) := by decide +kernel
theorem d5_70 : decode method_3_code 70 = .ok (.areturn, 1) := by decide +kernel
theorem d5_71 : decode method_3_code 71 = .ok (.iconst 4, 1) := by decide +kernel
theorem d5_72 : decode method_3_code 72 = .ok (.newarray .char, 2) := by decide +kernel
theorem d5_74 : decode method_3_code 74 = .ok (.dup, 1) := by decide +kernel
theorem d5_75 : decode method_3_code 75 = .ok (.iconst 0, 1) := by decide +kernel
theorem d5_76 : decode method_3_code 76 = .ok (.aload_n 0, 1) := by decide +kernel
theorem d5_77 : decode method_3_code 77 = .ok (.iconst 0, 1) := by decide +kernel
theorem d5_78 : decode method_3_code 78 = .ok (.caload, 1) := by decide +kernel
theorem d5_79 : decode method_3_code 79 = .ok (.castore, 1) := by decide +kernel
theorem d5_80 : decode method_3_code 80 = .ok (.dup, 1) := by decide +kernel
theorem d5_81 : decode method_3_code 81 = .ok (.iconst 1, 1) := by decide +kernel
theorem d5_82 : decode method_3_code 82 = .ok (.aload_n 0, 1) := by decide +kernel
theorem d5_83 : decode method_3_code 83 = .ok (.iconst 1, 1) := by decide +kernel
theorem d5_84 : decode method_3_code 84 = .ok (.caload, 1) := by decide +kernel
theorem d5_85 : decode method_3_code 85 = .ok (.castore, 1) := by decide +kernel
theorem d5_86 : decode method_3_code 86 = .ok (.dup, 1) := by decide +kernel
theorem d5_87 : decode method_3_code 87 = .ok (.iconst 2, 1) := by decide +kernel
theorem d5_88 : decode method_3_code 88 = .ok (.aload_n 0, 1) := by decide +kernel
theorem d5_89 : decode method_3_code 89 = .ok (.iconst 2, 1) := by decide +kernel
theorem d5_90 : decode method_3_code 90 = .ok (.caload, 1) := by decide +kernel
theorem d5_91 : decode method_3_code 91 = .ok (.castore, 1) := by decide +kernel
theorem d5_92 : decode method_3_code 92 = .ok (.dup, 1) := by decide +kernel
theorem d5_93 : decode method_3_code 93 = .ok (.iconst 3, 1) := by decide +kernel
theorem d5_94 : decode method_3_code 94 = .ok (.aload_n 0, 1) := by decide +kernel
theorem d5_95 : decode method_3_code 95 = .ok (.iconst 3, 1) := by decide +kernel
theorem d5_96 : decode method_3_code 96 = .ok (.caload, 1) := by decide +kernel
theorem d5_97 : decode method_3_code 97 = .ok (.castore, 1) := by decide +kernel
theorem d5_98 : decode method_3_code 98 = .ok (.areturn, 1) := by decide +kernel
theorem ef_c_pat0 (m : MethodId) (pa : Addr) : entryFrame m #[(.ref pa), (.int 0)] 2 = mkF m 0 #[.val (.ref pa), .val (.int 0)] [] := by first | (simp [entryFrame, mkF, argsToLocals, Value.category]; done) | rfl
set_option maxRecDepth 65536 in
set_option maxHeartbeats 40000000 in
theorem c_pat0 (l : Launch) (Z : State) (a0 : Array Value) (hw : ∀ d ∈ tables_1, d.before a0 Z = true) (pa : Addr) (h0 : Heap) (n0 : Nat) (Z0 : n0 ≤ h0.size) (c0 : Int32) (c1 : Int32) (c2 : Int32) (c3 : Int32) (A_pa : Ars Z h0 pa .char [(.int c0), (.int c1), (.int c2), (.int c3)]) (hr0 : 0 ≤ c0.toInt ∧ c0.toInt < 65536) (hr1 : 0 ≤ c1.toInt ∧ c1.toInt < 65536) (hr2 : 0 ≤ c2.toInt ∧ c2.toInt < 65536) (hr3 : 0 ≤ c3.toInt ∧ c3.toInt < 65536) :
  Ctr l Z (⟨"needlewise/kmp/SparseAutomatonNextPinLaw", "pattern", "([CI)[C"⟩ : MethodName) method_3_code 2 (some (.array .char)) ({ frames := 0, cells := 1, slots := 0, locals := 0 } : Room) #[(.ref pa), (.int 0)] h0 (fun v h L => ∃ b : Addr, v = some (.ref b) ∧ Fr n0 L ∧ Keep h0 h [] ∧ h0.size ≤ b ∧ Ars Z h b .char []) := by
 refine Ctr.of (plainFor_of_name pn_1) (fun m => ef_c_pat0 m pa) ?_
 intro p e s m below meth c T0 hx hby hml hown hnm hret hlk hZ e0 X0
 have N0 := Fr.nil n0
 replace hown : s.vm.findClass "needlewise/kmp/SparseAutomatonNextPinLaw" = some m.cls := hown
 replace hml : c.maxLocals = 2 := hml
 have KP := Keep.refl h0 []
 refine Run.x_iloadN (q := 1) X0 hx (hb hby d5_0) rfl rfl ?_
 refine Run.x_ifNo (q := 4) X0 hx (hb hby d5_1) ((if0 _ _).trans (teq (by decide : (0 : Int32) = (0 : Int32))).2) rfl ?_
 refine Run.x_iconst (q := 5) X0 hx (hb hby d5_4) (z := (0 : Int32)) rfl rfl ?_
 refine Run.newP (aty := .char) X0 hx hZ e0 (wm2 hw) (hb hby d5_5) (len := 0) (by decide) (by decide) (cap := 0) (by decide) (by decide) (by decide) (by decide) ?_
 intro T1 h1 b1 gg1 X1 e1 E1 A_b1
 have g_b1 : n0 ≤ b1 := Nat.le_trans Z0 (Nat.le_of_eq gg1.symm)
 have ne_pa_b1 : pa ≠ b1 := Nat.ne_of_lt (Nat.lt_of_lt_of_le A_pa.lt (Nat.le_of_eq gg1.symm))
 have sz_b1 : h0.size ≤ b1 := Nat.le_trans KP.1 (Nat.le_of_eq gg1.symm)
 have Z1 : n0 ≤ h1.size := Nat.le_trans Z0 E1.1
 replace KP := KP.ext E1
 replace A_b1 : Ars Z h1 b1 .char [] := A_b1
 show Run p e below s _ _ _ (T1.setTop (mkF m 7 #[.val (.ref pa), .val (.int 0)] [(.ref b1)]))
 replace A_pa := A_pa.ext E1
 refine Run.retA X1 hx hlk e1 (t := (.array .char)) hret rfl rfl rfl (hb hby d5_7) (by decide) (by decide) ?_
 exact ⟨b1, rfl, N0, KP, sz_b1, A_b1⟩
theorem ef_c_pat1 (m : MethodId) (pa : Addr) : entryFrame m #[(.ref pa), (.int 1)] 2 = mkF m 0 #[.val (.ref pa), .val (.int 1)] [] := by first | (simp [entryFrame, mkF, argsToLocals, Value.category]; done) | rfl
set_option maxRecDepth 65536 in
set_option maxHeartbeats 40000000 in
theorem c_pat1 (l : Launch) (Z : State) (a0 : Array Value) (hw : ∀ d ∈ tables_1, d.before a0 Z = true) (pa : Addr) (h0 : Heap) (n0 : Nat) (Z0 : n0 ≤ h0.size) (c0 : Int32) (c1 : Int32) (c2 : Int32) (c3 : Int32) (A_pa : Ars Z h0 pa .char [(.int c0), (.int c1), (.int c2), (.int c3)]) (hr0 : 0 ≤ c0.toInt ∧ c0.toInt < 65536) (hr1 : 0 ≤ c1.toInt ∧ c1.toInt < 65536) (hr2 : 0 ≤ c2.toInt ∧ c2.toInt < 65536) (hr3 : 0 ≤ c3.toInt ∧ c3.toInt < 65536) :
  Ctr l Z (⟨"needlewise/kmp/SparseAutomatonNextPinLaw", "pattern", "([CI)[C"⟩ : MethodName) method_3_code 2 (some (.array .char)) ({ frames := 0, cells := 1, slots := 1, locals := 0 } : Room) #[(.ref pa), (.int 1)] h0 (fun v h L => ∃ b : Addr, v = some (.ref b) ∧ Fr n0 L ∧ Keep h0 h [] ∧ h0.size ≤ b ∧ Ars Z h b .char [(.int c0)]) := by
 refine Ctr.of (plainFor_of_name pn_1) (fun m => ef_c_pat1 m pa) ?_
 intro p e s m below meth c T0 hx hby hml hown hnm hret hlk hZ e0 X0
 have N0 := Fr.nil n0
 replace hown : s.vm.findClass "needlewise/kmp/SparseAutomatonNextPinLaw" = some m.cls := hown
 replace hml : c.maxLocals = 2 := hml
 have KP := Keep.refl h0 []
 refine Run.x_iloadN (q := 1) X0 hx (hb hby d5_0) rfl rfl ?_
 refine Run.x_ifYes (q := 8) X0 hx (hb hby d5_1) ((if0 _ _).trans (feq (by decide : ¬ ((1 : Int32) = (0 : Int32)))).2) (by decide) (by decide) ?_
 refine Run.x_iloadN (q := 9) X0 hx (hb hby d5_8) rfl rfl ?_
 refine Run.x_iconst (q := 10) X0 hx (hb hby d5_9) (z := (1 : Int32)) rfl rfl ?_
 refine Run.x_icmpNo (q := 13) X0 hx (hb hby d5_10) (teq (by decide : (1 : Int32) = (1 : Int32))).2 rfl ?_
 refine Run.x_iconst (q := 14) X0 hx (hb hby d5_13) (z := (1 : Int32)) rfl rfl ?_
 refine Run.newP (aty := .char) X0 hx hZ e0 (wm2 hw) (hb hby d5_14) (len := 1) (by decide) (by decide) (cap := 1) (by decide) (by decide) (by decide) (by decide) ?_
 intro T1 h1 b1 gg1 X1 e1 E1 A_b1
 have g_b1 : n0 ≤ b1 := Nat.le_trans Z0 (Nat.le_of_eq gg1.symm)
 have ne_pa_b1 : pa ≠ b1 := Nat.ne_of_lt (Nat.lt_of_lt_of_le A_pa.lt (Nat.le_of_eq gg1.symm))
 have sz_b1 : h0.size ≤ b1 := Nat.le_trans KP.1 (Nat.le_of_eq gg1.symm)
 have Z1 : n0 ≤ h1.size := Nat.le_trans Z0 E1.1
 replace KP := KP.ext E1
 replace A_b1 : Ars Z h1 b1 .char [(.int 0)] := A_b1
 show Run p e below s _ _ _ (T1.setTop (mkF m 16 #[.val (.ref pa), .val (.int 1)] [(.ref b1)]))
 refine Run.x_dup (q := 17) X1 hx (hb hby d5_16) rfl rfl ?_
 refine Run.x_iconst (q := 18) X1 hx (hb hby d5_17) (z := (0 : Int32)) rfl rfl ?_
 refine Run.x_aloadN (q := 19) X1 hx (hb hby d5_18) rfl rfl rfl ?_
 refine Run.x_iconst (q := 20) X1 hx (hb hby d5_19) (z := (0 : Int32)) rfl rfl ?_
 replace A_pa := A_pa.ext E1
 refine Run.y_ldC (q := 21) X1 hx hZ e1 A_pa (i := 0) (v := (.int c0)) (by decide) rfl (hb hby d5_20) rfl ?_
 refine Run.y_stC (q := 22) X1 hx hZ e1 A_b1 (i := 0) (by decide) (Nat.le_of_ble_eq_true rfl) (z' := c0) (own_nr hr0) (hb hby d5_21) rfl fun T2 h2 X2 e2 W2 A2 => ?_
 replace A_b1 : Ars Z h2 b1 .char [(.int c0)] := A2
 replace KP := KP.wr W2 (Or.inr sz_b1)
 have N2 := Fr.snoc X2 N0 g_b1
 have Z2 : n0 ≤ h2.size := Nat.le_trans Z1 (Nat.le_of_eq W2.size.symm)
 replace A_pa := A_pa.other W2 ne_pa_b1
 refine Run.retA X2 hx hlk e2 (t := (.array .char)) hret rfl rfl rfl (hb hby d5_22) (by decide) (by decide) ?_
 exact ⟨b1, rfl, N2, KP, sz_b1, A_b1⟩
theorem ef_c_pat2 (m : MethodId) (pa : Addr) : entryFrame m #[(.ref pa), (.int 2)] 2 = mkF m 0 #[.val (.ref pa), .val (.int 2)] [] := by first | (simp [entryFrame, mkF, argsToLocals, Value.category]; done) | rfl
set_option maxRecDepth 65536 in
set_option maxHeartbeats 40000000 in
theorem c_pat2 (l : Launch) (Z : State) (a0 : Array Value) (hw : ∀ d ∈ tables_1, d.before a0 Z = true) (pa : Addr) (h0 : Heap) (n0 : Nat) (Z0 : n0 ≤ h0.size) (c0 : Int32) (c1 : Int32) (c2 : Int32) (c3 : Int32) (A_pa : Ars Z h0 pa .char [(.int c0), (.int c1), (.int c2), (.int c3)]) (hr0 : 0 ≤ c0.toInt ∧ c0.toInt < 65536) (hr1 : 0 ≤ c1.toInt ∧ c1.toInt < 65536) (hr2 : 0 ≤ c2.toInt ∧ c2.toInt < 65536) (hr3 : 0 ≤ c3.toInt ∧ c3.toInt < 65536) :
  Ctr l Z (⟨"needlewise/kmp/SparseAutomatonNextPinLaw", "pattern", "([CI)[C"⟩ : MethodName) method_3_code 2 (some (.array .char)) ({ frames := 0, cells := 1, slots := 2, locals := 0 } : Room) #[(.ref pa), (.int 2)] h0 (fun v h L => ∃ b : Addr, v = some (.ref b) ∧ Fr n0 L ∧ Keep h0 h [] ∧ h0.size ≤ b ∧ Ars Z h b .char [(.int c0), (.int c1)]) := by
 refine Ctr.of (plainFor_of_name pn_1) (fun m => ef_c_pat2 m pa) ?_
 intro p e s m below meth c T0 hx hby hml hown hnm hret hlk hZ e0 X0
 have N0 := Fr.nil n0
 replace hown : s.vm.findClass "needlewise/kmp/SparseAutomatonNextPinLaw" = some m.cls := hown
 replace hml : c.maxLocals = 2 := hml
 have KP := Keep.refl h0 []
 refine Run.x_iloadN (q := 1) X0 hx (hb hby d5_0) rfl rfl ?_
 refine Run.x_ifYes (q := 8) X0 hx (hb hby d5_1) ((if0 _ _).trans (feq (by decide : ¬ ((2 : Int32) = (0 : Int32)))).2) (by decide) (by decide) ?_
 refine Run.x_iloadN (q := 9) X0 hx (hb hby d5_8) rfl rfl ?_
 refine Run.x_iconst (q := 10) X0 hx (hb hby d5_9) (z := (1 : Int32)) rfl rfl ?_
 refine Run.x_icmpYes (q := 23) X0 hx (hb hby d5_10) (feq (by decide : ¬ ((2 : Int32) = (1 : Int32)))).2 (by decide) (by decide) ?_
 refine Run.x_iloadN (q := 24) X0 hx (hb hby d5_23) rfl rfl ?_
 refine Run.x_iconst (q := 25) X0 hx (hb hby d5_24) (z := (2 : Int32)) rfl rfl ?_
 refine Run.x_icmpNo (q := 28) X0 hx (hb hby d5_25) (teq (by decide : (2 : Int32) = (2 : Int32))).2 rfl ?_
 refine Run.x_iconst (q := 29) X0 hx (hb hby d5_28) (z := (2 : Int32)) rfl rfl ?_
 refine Run.newP (aty := .char) X0 hx hZ e0 (wm2 hw) (hb hby d5_29) (len := 2) (by decide) (by decide) (cap := 2) (by decide) (by decide) (by decide) (by decide) ?_
 intro T1 h1 b1 gg1 X1 e1 E1 A_b1
 have g_b1 : n0 ≤ b1 := Nat.le_trans Z0 (Nat.le_of_eq gg1.symm)
 have ne_pa_b1 : pa ≠ b1 := Nat.ne_of_lt (Nat.lt_of_lt_of_le A_pa.lt (Nat.le_of_eq gg1.symm))
 have sz_b1 : h0.size ≤ b1 := Nat.le_trans KP.1 (Nat.le_of_eq gg1.symm)
 have Z1 : n0 ≤ h1.size := Nat.le_trans Z0 E1.1
 replace KP := KP.ext E1
 replace A_b1 : Ars Z h1 b1 .char [(.int 0), (.int 0)] := A_b1
 show Run p e below s _ _ _ (T1.setTop (mkF m 31 #[.val (.ref pa), .val (.int 2)] [(.ref b1)]))
 refine Run.x_dup (q := 32) X1 hx (hb hby d5_31) rfl rfl ?_
 refine Run.x_iconst (q := 33) X1 hx (hb hby d5_32) (z := (0 : Int32)) rfl rfl ?_
 refine Run.x_aloadN (q := 34) X1 hx (hb hby d5_33) rfl rfl rfl ?_
 refine Run.x_iconst (q := 35) X1 hx (hb hby d5_34) (z := (0 : Int32)) rfl rfl ?_
 replace A_pa := A_pa.ext E1
 refine Run.y_ldC (q := 36) X1 hx hZ e1 A_pa (i := 0) (v := (.int c0)) (by decide) rfl (hb hby d5_35) rfl ?_
 refine Run.y_stC (q := 37) X1 hx hZ e1 A_b1 (i := 0) (by decide) (Nat.le_of_ble_eq_true rfl) (z' := c0) (own_nr hr0) (hb hby d5_36) rfl fun T2 h2 X2 e2 W2 A2 => ?_
 replace A_b1 : Ars Z h2 b1 .char [(.int c0), (.int 0)] := A2
 replace KP := KP.wr W2 (Or.inr sz_b1)
 have N2 := Fr.snoc X2 N0 g_b1
 have Z2 : n0 ≤ h2.size := Nat.le_trans Z1 (Nat.le_of_eq W2.size.symm)
 refine Run.x_dup (q := 38) X2 hx (hb hby d5_37) rfl rfl ?_
 refine Run.x_iconst (q := 39) X2 hx (hb hby d5_38) (z := (1 : Int32)) rfl rfl ?_
 refine Run.x_aloadN (q := 40) X2 hx (hb hby d5_39) rfl rfl rfl ?_
 refine Run.x_iconst (q := 41) X2 hx (hb hby d5_40) (z := (1 : Int32)) rfl rfl ?_
 replace A_pa := A_pa.other W2 ne_pa_b1
 refine Run.y_ldC (q := 42) X2 hx hZ e2 A_pa (i := 1) (v := (.int c1)) (by decide) rfl (hb hby d5_41) rfl ?_
 refine Run.y_stC (q := 43) X2 hx hZ e2 A_b1 (i := 1) (by decide) (Nat.le_of_ble_eq_true rfl) (z' := c1) (own_nr hr1) (hb hby d5_42) rfl fun T3 h3 X3 e3 W3 A3 => ?_
 replace A_b1 : Ars Z h3 b1 .char [(.int c0), (.int c1)] := A3
 replace KP := KP.wr W3 (Or.inr sz_b1)
 have N3 := Fr.snoc X3 N2 g_b1
 have Z3 : n0 ≤ h3.size := Nat.le_trans Z2 (Nat.le_of_eq W3.size.symm)
 replace A_pa := A_pa.other W3 ne_pa_b1
 refine Run.retA X3 hx hlk e3 (t := (.array .char)) hret rfl rfl rfl (hb hby d5_43) (by decide) (by decide) ?_
 exact ⟨b1, rfl, N3, KP, sz_b1, A_b1⟩
theorem ef_c_pat3 (m : MethodId) (pa : Addr) : entryFrame m #[(.ref pa), (.int 3)] 2 = mkF m 0 #[.val (.ref pa), .val (.int 3)] [] := by first | (simp [entryFrame, mkF, argsToLocals, Value.category]; done) | rfl
set_option maxRecDepth 65536 in
set_option maxHeartbeats 40000000 in
theorem c_pat3 (l : Launch) (Z : State) (a0 : Array Value) (hw : ∀ d ∈ tables_1, d.before a0 Z = true) (pa : Addr) (h0 : Heap) (n0 : Nat) (Z0 : n0 ≤ h0.size) (c0 : Int32) (c1 : Int32) (c2 : Int32) (c3 : Int32) (A_pa : Ars Z h0 pa .char [(.int c0), (.int c1), (.int c2), (.int c3)]) (hr0 : 0 ≤ c0.toInt ∧ c0.toInt < 65536) (hr1 : 0 ≤ c1.toInt ∧ c1.toInt < 65536) (hr2 : 0 ≤ c2.toInt ∧ c2.toInt < 65536) (hr3 : 0 ≤ c3.toInt ∧ c3.toInt < 65536) :
  Ctr l Z (⟨"needlewise/kmp/SparseAutomatonNextPinLaw", "pattern", "([CI)[C"⟩ : MethodName) method_3_code 2 (some (.array .char)) ({ frames := 0, cells := 1, slots := 3, locals := 0 } : Room) #[(.ref pa), (.int 3)] h0 (fun v h L => ∃ b : Addr, v = some (.ref b) ∧ Fr n0 L ∧ Keep h0 h [] ∧ h0.size ≤ b ∧ Ars Z h b .char [(.int c0), (.int c1), (.int c2)]) := by
 refine Ctr.of (plainFor_of_name pn_1) (fun m => ef_c_pat3 m pa) ?_
 intro p e s m below meth c T0 hx hby hml hown hnm hret hlk hZ e0 X0
 have N0 := Fr.nil n0
 replace hown : s.vm.findClass "needlewise/kmp/SparseAutomatonNextPinLaw" = some m.cls := hown
 replace hml : c.maxLocals = 2 := hml
 have KP := Keep.refl h0 []
 refine Run.x_iloadN (q := 1) X0 hx (hb hby d5_0) rfl rfl ?_
 refine Run.x_ifYes (q := 8) X0 hx (hb hby d5_1) ((if0 _ _).trans (feq (by decide : ¬ ((3 : Int32) = (0 : Int32)))).2) (by decide) (by decide) ?_
 refine Run.x_iloadN (q := 9) X0 hx (hb hby d5_8) rfl rfl ?_
 refine Run.x_iconst (q := 10) X0 hx (hb hby d5_9) (z := (1 : Int32)) rfl rfl ?_
 refine Run.x_icmpYes (q := 23) X0 hx (hb hby d5_10) (feq (by decide : ¬ ((3 : Int32) = (1 : Int32)))).2 (by decide) (by decide) ?_
 refine Run.x_iloadN (q := 24) X0 hx (hb hby d5_23) rfl rfl ?_
 refine Run.x_iconst (q := 25) X0 hx (hb hby d5_24) (z := (2 : Int32)) rfl rfl ?_
 refine Run.x_icmpYes (q := 44) X0 hx (hb hby d5_25) (feq (by decide : ¬ ((3 : Int32) = (2 : Int32)))).2 (by decide) (by decide) ?_
 refine Run.x_iloadN (q := 45) X0 hx (hb hby d5_44) rfl rfl ?_
 refine Run.x_iconst (q := 46) X0 hx (hb hby d5_45) (z := (3 : Int32)) rfl rfl ?_
 refine Run.x_icmpNo (q := 49) X0 hx (hb hby d5_46) (teq (by decide : (3 : Int32) = (3 : Int32))).2 rfl ?_
 refine Run.x_iconst (q := 50) X0 hx (hb hby d5_49) (z := (3 : Int32)) rfl rfl ?_
 refine Run.newP (aty := .char) X0 hx hZ e0 (wm2 hw) (hb hby d5_50) (len := 3) (by decide) (by decide) (cap := 3) (by decide) (by decide) (by decide) (by decide) ?_
 intro T1 h1 b1 gg1 X1 e1 E1 A_b1
 have g_b1 : n0 ≤ b1 := Nat.le_trans Z0 (Nat.le_of_eq gg1.symm)
 have ne_pa_b1 : pa ≠ b1 := Nat.ne_of_lt (Nat.lt_of_lt_of_le A_pa.lt (Nat.le_of_eq gg1.symm))
 have sz_b1 : h0.size ≤ b1 := Nat.le_trans KP.1 (Nat.le_of_eq gg1.symm)
 have Z1 : n0 ≤ h1.size := Nat.le_trans Z0 E1.1
 replace KP := KP.ext E1
 replace A_b1 : Ars Z h1 b1 .char [(.int 0), (.int 0), (.int 0)] := A_b1
 show Run p e below s _ _ _ (T1.setTop (mkF m 52 #[.val (.ref pa), .val (.int 3)] [(.ref b1)]))
 refine Run.x_dup (q := 53) X1 hx (hb hby d5_52) rfl rfl ?_
 refine Run.x_iconst (q := 54) X1 hx (hb hby d5_53) (z := (0 : Int32)) rfl rfl ?_
 refine Run.x_aloadN (q := 55) X1 hx (hb hby d5_54) rfl rfl rfl ?_
 refine Run.x_iconst (q := 56) X1 hx (hb hby d5_55) (z := (0 : Int32)) rfl rfl ?_
 replace A_pa := A_pa.ext E1
 refine Run.y_ldC (q := 57) X1 hx hZ e1 A_pa (i := 0) (v := (.int c0)) (by decide) rfl (hb hby d5_56) rfl ?_
 refine Run.y_stC (q := 58) X1 hx hZ e1 A_b1 (i := 0) (by decide) (Nat.le_of_ble_eq_true rfl) (z' := c0) (own_nr hr0) (hb hby d5_57) rfl fun T2 h2 X2 e2 W2 A2 => ?_
 replace A_b1 : Ars Z h2 b1 .char [(.int c0), (.int 0), (.int 0)] := A2
 replace KP := KP.wr W2 (Or.inr sz_b1)
 have N2 := Fr.snoc X2 N0 g_b1
 have Z2 : n0 ≤ h2.size := Nat.le_trans Z1 (Nat.le_of_eq W2.size.symm)
 refine Run.x_dup (q := 59) X2 hx (hb hby d5_58) rfl rfl ?_
 refine Run.x_iconst (q := 60) X2 hx (hb hby d5_59) (z := (1 : Int32)) rfl rfl ?_
 refine Run.x_aloadN (q := 61) X2 hx (hb hby d5_60) rfl rfl rfl ?_
 refine Run.x_iconst (q := 62) X2 hx (hb hby d5_61) (z := (1 : Int32)) rfl rfl ?_
 replace A_pa := A_pa.other W2 ne_pa_b1
 refine Run.y_ldC (q := 63) X2 hx hZ e2 A_pa (i := 1) (v := (.int c1)) (by decide) rfl (hb hby d5_62) rfl ?_
 refine Run.y_stC (q := 64) X2 hx hZ e2 A_b1 (i := 1) (by decide) (Nat.le_of_ble_eq_true rfl) (z' := c1) (own_nr hr1) (hb hby d5_63) rfl fun T3 h3 X3 e3 W3 A3 => ?_
 replace A_b1 : Ars Z h3 b1 .char [(.int c0), (.int c1), (.int 0)] := A3
 replace KP := KP.wr W3 (Or.inr sz_b1)
 have N3 := Fr.snoc X3 N2 g_b1
 have Z3 : n0 ≤ h3.size := Nat.le_trans Z2 (Nat.le_of_eq W3.size.symm)
 refine Run.x_dup (q := 65) X3 hx (hb hby d5_64) rfl rfl ?_
 refine Run.x_iconst (q := 66) X3 hx (hb hby d5_65) (z := (2 : Int32)) rfl rfl ?_
 refine Run.x_aloadN (q := 67) X3 hx (hb hby d5_66) rfl rfl rfl ?_
 refine Run.x_iconst (q := 68) X3 hx (hb hby d5_67) (z := (2 : Int32)) rfl rfl ?_
 replace A_pa := A_pa.other W3 ne_pa_b1
 refine Run.y_ldC (q := 69) X3 hx hZ e3 A_pa (i := 2) (v := (.int c2)) (by decide) rfl (hb hby d5_68) rfl ?_
 refine Run.y_stC (q := 70) X3 hx hZ e3 A_b1 (i := 2) (by decide) (Nat.le_of_ble_eq_true rfl) (z' := c2) (own_nr hr2) (hb hby d5_69) rfl fun T4 h4 X4 e4 W4 A4 => ?_
 replace A_b1 : Ars Z h4 b1 .char [(.int c0), (.int c1), (.int c2)] := A4
 replace KP := KP.wr W4 (Or.inr sz_b1)
 have N4 := Fr.snoc X4 N3 g_b1
 have Z4 : n0 ≤ h4.size := Nat.le_trans Z3 (Nat.le_of_eq W4.size.symm)
 replace A_pa := A_pa.other W4 ne_pa_b1
 refine Run.retA X4 hx hlk e4 (t := (.array .char)) hret rfl rfl rfl (hb hby d5_70) (by decide) (by decide) ?_
 exact ⟨b1, rfl, N4, KP, sz_b1, A_b1⟩
theorem ef_c_pat4 (m : MethodId) (pa : Addr) : entryFrame m #[(.ref pa), (.int 4)] 2 = mkF m 0 #[.val (.ref pa), .val (.int 4)] [] := by first | (simp [entryFrame, mkF, argsToLocals, Value.category]; done) | rfl
set_option maxRecDepth 65536 in
set_option maxHeartbeats 40000000 in
theorem c_pat4 (l : Launch) (Z : State) (a0 : Array Value) (hw : ∀ d ∈ tables_1, d.before a0 Z = true) (pa : Addr) (h0 : Heap) (n0 : Nat) (Z0 : n0 ≤ h0.size) (c0 : Int32) (c1 : Int32) (c2 : Int32) (c3 : Int32) (A_pa : Ars Z h0 pa .char [(.int c0), (.int c1), (.int c2), (.int c3)]) (hr0 : 0 ≤ c0.toInt ∧ c0.toInt < 65536) (hr1 : 0 ≤ c1.toInt ∧ c1.toInt < 65536) (hr2 : 0 ≤ c2.toInt ∧ c2.toInt < 65536) (hr3 : 0 ≤ c3.toInt ∧ c3.toInt < 65536) :
  Ctr l Z (⟨"needlewise/kmp/SparseAutomatonNextPinLaw", "pattern", "([CI)[C"⟩ : MethodName) method_3_code 2 (some (.array .char)) ({ frames := 0, cells := 1, slots := 4, locals := 0 } : Room) #[(.ref pa), (.int 4)] h0 (fun v h L => ∃ b : Addr, v = some (.ref b) ∧ Fr n0 L ∧ Keep h0 h [] ∧ h0.size ≤ b ∧ Ars Z h b .char [(.int c0), (.int c1), (.int c2), (.int c3)]) := by
 refine Ctr.of (plainFor_of_name pn_1) (fun m => ef_c_pat4 m pa) ?_
 intro p e s m below meth c T0 hx hby hml hown hnm hret hlk hZ e0 X0
 have N0 := Fr.nil n0
 replace hown : s.vm.findClass "needlewise/kmp/SparseAutomatonNextPinLaw" = some m.cls := hown
 replace hml : c.maxLocals = 2 := hml
 have KP := Keep.refl h0 []
 refine Run.x_iloadN (q := 1) X0 hx (hb hby d5_0) rfl rfl ?_
 refine Run.x_ifYes (q := 8) X0 hx (hb hby d5_1) ((if0 _ _).trans (feq (by decide : ¬ ((4 : Int32) = (0 : Int32)))).2) (by decide) (by decide) ?_
 refine Run.x_iloadN (q := 9) X0 hx (hb hby d5_8) rfl rfl ?_
 refine Run.x_iconst (q := 10) X0 hx (hb hby d5_9) (z := (1 : Int32)) rfl rfl ?_
 refine Run.x_icmpYes (q := 23) X0 hx (hb hby d5_10) (feq (by decide : ¬ ((4 : Int32) = (1 : Int32)))).2 (by decide) (by decide) ?_
 refine Run.x_iloadN (q := 24) X0 hx (hb hby d5_23) rfl rfl ?_
 refine Run.x_iconst (q := 25) X0 hx (hb hby d5_24) (z := (2 : Int32)) rfl rfl ?_
 refine Run.x_icmpYes (q := 44) X0 hx (hb hby d5_25) (feq (by decide : ¬ ((4 : Int32) = (2 : Int32)))).2 (by decide) (by decide) ?_
 refine Run.x_iloadN (q := 45) X0 hx (hb hby d5_44) rfl rfl ?_
 refine Run.x_iconst (q := 46) X0 hx (hb hby d5_45) (z := (3 : Int32)) rfl rfl ?_
 refine Run.x_icmpYes (q := 71) X0 hx (hb hby d5_46) (feq (by decide : ¬ ((4 : Int32) = (3 : Int32)))).2 (by decide) (by decide) ?_
 refine Run.x_iconst (q := 72) X0 hx (hb hby d5_71) (z := (4 : Int32)) rfl rfl ?_
 refine Run.newP (aty := .char) X0 hx hZ e0 (wm2 hw) (hb hby d5_72) (len := 4) (by decide) (by decide) (cap := 4) (by decide) (by decide) (by decide) (by decide) ?_
 intro T1 h1 b1 gg1 X1 e1 E1 A_b1
 have g_b1 : n0 ≤ b1 := Nat.le_trans Z0 (Nat.le_of_eq gg1.symm)
 have ne_pa_b1 : pa ≠ b1 := Nat.ne_of_lt (Nat.lt_of_lt_of_le A_pa.lt (Nat.le_of_eq gg1.symm))
 have sz_b1 : h0.size ≤ b1 := Nat.le_trans KP.1 (Nat.le_of_eq gg1.symm)
 have Z1 : n0 ≤ h1.size := Nat.le_trans Z0 E1.1
 replace KP := KP.ext E1
 replace A_b1 : Ars Z h1 b1 .char [(.int 0), (.int 0), (.int 0), (.int 0)] := A_b1
 show Run p e below s _ _ _ (T1.setTop (mkF m 74 #[.val (.ref pa), .val (.int 4)] [(.ref b1)]))
 refine Run.x_dup (q := 75) X1 hx (hb hby d5_74) rfl rfl ?_
 refine Run.x_iconst (q := 76) X1 hx (hb hby d5_75) (z := (0 : Int32)) rfl rfl ?_
 refine Run.x_aloadN (q := 77) X1 hx (hb hby d5_76) rfl rfl rfl ?_
 refine Run.x_iconst (q := 78) X1 hx (hb hby d5_77) (z := (0 : Int32)) rfl rfl ?_
 replace A_pa := A_pa.ext E1
 refine Run.y_ldC (q := 79) X1 hx hZ e1 A_pa (i := 0) (v := (.int c0)) (by decide) rfl (hb hby d5_78) rfl ?_
 refine Run.y_stC (q := 80) X1 hx hZ e1 A_b1 (i := 0) (by decide) (Nat.le_of_ble_eq_true rfl) (z' := c0) (own_nr hr0) (hb hby d5_79) rfl fun T2 h2 X2 e2 W2 A2 => ?_
 replace A_b1 : Ars Z h2 b1 .char [(.int c0), (.int 0), (.int 0), (.int 0)] := A2
 replace KP := KP.wr W2 (Or.inr sz_b1)
 have N2 := Fr.snoc X2 N0 g_b1
 have Z2 : n0 ≤ h2.size := Nat.le_trans Z1 (Nat.le_of_eq W2.size.symm)
 refine Run.x_dup (q := 81) X2 hx (hb hby d5_80) rfl rfl ?_
 refine Run.x_iconst (q := 82) X2 hx (hb hby d5_81) (z := (1 : Int32)) rfl rfl ?_
 refine Run.x_aloadN (q := 83) X2 hx (hb hby d5_82) rfl rfl rfl ?_
 refine Run.x_iconst (q := 84) X2 hx (hb hby d5_83) (z := (1 : Int32)) rfl rfl ?_
 replace A_pa := A_pa.other W2 ne_pa_b1
 refine Run.y_ldC (q := 85) X2 hx hZ e2 A_pa (i := 1) (v := (.int c1)) (by decide) rfl (hb hby d5_84) rfl ?_
 refine Run.y_stC (q := 86) X2 hx hZ e2 A_b1 (i := 1) (by decide) (Nat.le_of_ble_eq_true rfl) (z' := c1) (own_nr hr1) (hb hby d5_85) rfl fun T3 h3 X3 e3 W3 A3 => ?_
 replace A_b1 : Ars Z h3 b1 .char [(.int c0), (.int c1), (.int 0), (.int 0)] := A3
 replace KP := KP.wr W3 (Or.inr sz_b1)
 have N3 := Fr.snoc X3 N2 g_b1
 have Z3 : n0 ≤ h3.size := Nat.le_trans Z2 (Nat.le_of_eq W3.size.symm)
 refine Run.x_dup (q := 87) X3 hx (hb hby d5_86) rfl rfl ?_
 refine Run.x_iconst (q := 88) X3 hx (hb hby d5_87) (z := (2 : Int32)) rfl rfl ?_
 refine Run.x_aloadN (q := 89) X3 hx (hb hby d5_88) rfl rfl rfl ?_
 refine Run.x_iconst (q := 90) X3 hx (hb hby d5_89) (z := (2 : Int32)) rfl rfl ?_
 replace A_pa := A_pa.other W3 ne_pa_b1
 refine Run.y_ldC (q := 91) X3 hx hZ e3 A_pa (i := 2) (v := (.int c2)) (by decide) rfl (hb hby d5_90) rfl ?_
 refine Run.y_stC (q := 92) X3 hx hZ e3 A_b1 (i := 2) (by decide) (Nat.le_of_ble_eq_true rfl) (z' := c2) (own_nr hr2) (hb hby d5_91) rfl fun T4 h4 X4 e4 W4 A4 => ?_
 replace A_b1 : Ars Z h4 b1 .char [(.int c0), (.int c1), (.int c2), (.int 0)] := A4
 replace KP := KP.wr W4 (Or.inr sz_b1)
 have N4 := Fr.snoc X4 N3 g_b1
 have Z4 : n0 ≤ h4.size := Nat.le_trans Z3 (Nat.le_of_eq W4.size.symm)
 refine Run.x_dup (q := 93) X4 hx (hb hby d5_92) rfl rfl ?_
 refine Run.x_iconst (q := 94) X4 hx (hb hby d5_93) (z := (3 : Int32)) rfl rfl ?_
 refine Run.x_aloadN (q := 95) X4 hx (hb hby d5_94) rfl rfl rfl ?_
 refine Run.x_iconst (q := 96) X4 hx (hb hby d5_95) (z := (3 : Int32)) rfl rfl ?_
 replace A_pa := A_pa.other W4 ne_pa_b1
 refine Run.y_ldC (q := 97) X4 hx hZ e4 A_pa (i := 3) (v := (.int c3)) (by decide) rfl (hb hby d5_96) rfl ?_
 refine Run.y_stC (q := 98) X4 hx hZ e4 A_b1 (i := 3) (by decide) (Nat.le_of_ble_eq_true rfl) (z' := c3) (own_nr hr3) (hb hby d5_97) rfl fun T5 h5 X5 e5 W5 A5 => ?_
 replace A_b1 : Ars Z h5 b1 .char [(.int c0), (.int c1), (.int c2), (.int c3)] := A5
 replace KP := KP.wr W5 (Or.inr sz_b1)
 have N5 := Fr.snoc X5 N4 g_b1
 have Z5 : n0 ≤ h5.size := Nat.le_trans Z4 (Nat.le_of_eq W5.size.symm)
 replace A_pa := A_pa.other W5 ne_pa_b1
 refine Run.retA X5 hx hlk e5 (t := (.array .char)) hret rfl rfl rfl (hb hby d5_98) (by decide) (by decide) ?_
 exact ⟨b1, rfl, N5, KP, sz_b1, A_b1⟩
theorem own_m {p v : Int32} (h : (p &&& (2147483647 : Int32)) % (5 : Int32) = v) : v = 0 ∨ v = 1 ∨ v = 2 ∨ v = 3 ∨ v = 4 := by
 have q := c_mask p 2147483647 31 (by decide) (by decide)
 have r := (c_irem (p &&& 2147483647) 5 5 (by decide)).1 (by rw [q]; omega)
 rw [h] at r
 simp only [eq32]
 have : (0 : Int32).toInt = 0 ∧ (1 : Int32).toInt = 1 ∧ (2 : Int32).toInt = 2 ∧ (3 : Int32).toInt = 3 ∧ (4 : Int32).toInt = 4 := by decide
 omega
theorem own_nz {p v : Int32} (h : (p &&& (2147483647 : Int32)) % (5 : Int32) = v) : v + (1 : Int32) ≠ 0 := by
 rcases own_m h with rfl | rfl | rfl | rfl | rfl <;> decide
theorem own_s0 {p v : Int32} (h : (p &&& (2147483647 : Int32)) % ((0 : Int32) + (1 : Int32)) = v) : v = 0 := by
 rw [show ((0 : Int32) + (1 : Int32)) = 1 by decide] at h
 have q := c_mask p 2147483647 31 (by decide) (by decide)
 have r := (c_irem (p &&& 2147483647) 1 1 (by decide)).1 (by rw [q]; omega)
 rw [h] at r
 simp only [eq32]
 have : (0 : Int32).toInt = 0 ∧ (1 : Int32).toInt = 1 ∧ (2 : Int32).toInt = 2 ∧ (3 : Int32).toInt = 3 ∧ (4 : Int32).toInt = 4 := by decide
 omega
theorem own_s1 {p v : Int32} (h : (p &&& (2147483647 : Int32)) % ((1 : Int32) + (1 : Int32)) = v) : v = 0 ∨ v = 1 := by
 rw [show ((1 : Int32) + (1 : Int32)) = 2 by decide] at h
 have q := c_mask p 2147483647 31 (by decide) (by decide)
 have r := (c_irem (p &&& 2147483647) 2 2 (by decide)).1 (by rw [q]; omega)
 rw [h] at r
 simp only [eq32]
 have : (0 : Int32).toInt = 0 ∧ (1 : Int32).toInt = 1 ∧ (2 : Int32).toInt = 2 ∧ (3 : Int32).toInt = 3 ∧ (4 : Int32).toInt = 4 := by decide
 omega
theorem own_s2 {p v : Int32} (h : (p &&& (2147483647 : Int32)) % ((2 : Int32) + (1 : Int32)) = v) : v = 0 ∨ v = 1 ∨ v = 2 := by
 rw [show ((2 : Int32) + (1 : Int32)) = 3 by decide] at h
 have q := c_mask p 2147483647 31 (by decide) (by decide)
 have r := (c_irem (p &&& 2147483647) 3 3 (by decide)).1 (by rw [q]; omega)
 rw [h] at r
 simp only [eq32]
 have : (0 : Int32).toInt = 0 ∧ (1 : Int32).toInt = 1 ∧ (2 : Int32).toInt = 2 ∧ (3 : Int32).toInt = 3 ∧ (4 : Int32).toInt = 4 := by decide
 omega
theorem own_s3 {p v : Int32} (h : (p &&& (2147483647 : Int32)) % ((3 : Int32) + (1 : Int32)) = v) : v = 0 ∨ v = 1 ∨ v = 2 ∨ v = 3 := by
 rw [show ((3 : Int32) + (1 : Int32)) = 4 by decide] at h
 have q := c_mask p 2147483647 31 (by decide) (by decide)
 have r := (c_irem (p &&& 2147483647) 4 4 (by decide)).1 (by rw [q]; omega)
 rw [h] at r
 simp only [eq32]
 have : (0 : Int32).toInt = 0 ∧ (1 : Int32).toInt = 1 ∧ (2 : Int32).toInt = 2 ∧ (3 : Int32).toInt = 3 ∧ (4 : Int32).toInt = 4 := by decide
 omega
theorem own_s4 {p v : Int32} (h : (p &&& (2147483647 : Int32)) % ((4 : Int32) + (1 : Int32)) = v) : v = 0 ∨ v = 1 ∨ v = 2 ∨ v = 3 ∨ v = 4 := by
 rw [show ((4 : Int32) + (1 : Int32)) = 5 by decide] at h
 have q := c_mask p 2147483647 31 (by decide) (by decide)
 have r := (c_irem (p &&& 2147483647) 5 5 (by decide)).1 (by rw [q]; omega)
 rw [h] at r
 simp only [eq32]
 have : (0 : Int32).toInt = 0 ∧ (1 : Int32).toInt = 1 ∧ (2 : Int32).toInt = 2 ∧ (3 : Int32).toInt = 3 ∧ (4 : Int32).toInt = 4 := by decide
 omega
theorem ef_c_law (m : MethodId) (p1 : Int32) (p2 : Int32) (p3 : Int64) (p4 : Int32) (p5 : Int32) : entryFrame m #[(.int p1), (.int p2), (.long p3), (.int p4), (.int p5)] maxLocals = mkF m 0 #[.val (.int p1), .val (.int p2), .val (.long p3), .second, .val (.int p4), .val (.int p5), .unset, .unset, .unset, .unset, .unset, .unset, .unset, .unset, .unset, .unset, .unset] [] := by first | (simp [entryFrame, mkF, argsToLocals, Value.category, maxLocals]; done) | rfl
theorem wm0 {a0 : Array Value} {Z : State} (hw : ∀ d ∈ tables_1, d.before a0 Z = true) : (Jvm.Cond.constant "needlewise/kmp/SparseAutomatonNextPinLaw" (7 : Nat) (2147483647 : Int32)).before a0 Z = true := hw _ (List.mem_of_getElem? (i := 0) rfl)
theorem wm3 {a0 : Array Value} {Z : State} (hw : ∀ d ∈ tables_1, d.before a0 Z = true) : (Jvm.Cond.methodLink "needlewise/kmp/SparseAutomatonNextPinLaw" (12 : Nat) ({ cls := "java/lang/Math", name := "min", desc := "(II)I" } : Jvm.MethodName)).before a0 Z = true := hw _ (List.mem_of_getElem? (i := 3) rfl)
theorem wm6 {a0 : Array Value} {Z : State} (hw : ∀ d ∈ tables_1, d.before a0 Z = true) : (Jvm.Cond.code ({ cls := "java/lang/Math", name := "min", desc := "(II)I" } : Jvm.MethodName) jdk_29_method_69_code (2 : Nat) (Option.some Jvm.ClassFile.FieldType.int)).before a0 Z = true := hw _ (List.mem_of_getElem? (i := 6) rfl)
theorem pd_1 : parseMethodDescriptor "(II)I" = some ⟨[.int, .int], some .int⟩ := by decide +kernel
theorem wm4 {a0 : Array Value} {Z : State} (hw : ∀ d ∈ tables_1, d.before a0 Z = true) : (Jvm.Cond.static ({ cls := "java/lang/Math", name := "min", desc := "(II)I" } : Jvm.MethodName)).before a0 Z = true := hw _ (List.mem_of_getElem? (i := 4) rfl)
theorem wm5 {a0 : Array Value} {Z : State} (hw : ∀ d ∈ tables_1, d.before a0 Z = true) : (Jvm.Cond.initialized "java/lang/Math").before a0 Z = true := hw _ (List.mem_of_getElem? (i := 5) rfl)
theorem wm7 {a0 : Array Value} {Z : State} (hw : ∀ d ∈ tables_1, d.before a0 Z = true) : (Jvm.Cond.classLink "needlewise/kmp/SparseAutomatonNextPinLaw" (24 : Nat) "needlewise/kmp/SparseAutomaton").before a0 Z = true := hw _ (List.mem_of_getElem? (i := 7) rfl)
theorem wm10 {a0 : Array Value} {Z : State} (hw : ∀ d ∈ tables_1, d.before a0 Z = true) : (Jvm.Cond.methodLink "needlewise/kmp/SparseAutomatonNextPinLaw" (26 : Nat) ({ cls := "needlewise/kmp/SparseAutomatonNextPinLaw", name := "pattern", desc := "([CI)[C" } : Jvm.MethodName)).before a0 Z = true := hw _ (List.mem_of_getElem? (i := 10) rfl)
theorem wm13 {a0 : Array Value} {Z : State} (hw : ∀ d ∈ tables_1, d.before a0 Z = true) : (Jvm.Cond.code ({ cls := "needlewise/kmp/SparseAutomatonNextPinLaw", name := "pattern", desc := "([CI)[C" } : Jvm.MethodName) method_3_code (2 : Nat) (Option.some (Jvm.ClassFile.FieldType.array Jvm.ClassFile.FieldType.char))).before a0 Z = true := hw _ (List.mem_of_getElem? (i := 13) rfl)
theorem pd_2 : parseMethodDescriptor "([CI)[C" = some ⟨[(.array .char), .int], some (.array .char)⟩ := by decide +kernel
theorem wm11 {a0 : Array Value} {Z : State} (hw : ∀ d ∈ tables_1, d.before a0 Z = true) : (Jvm.Cond.static ({ cls := "needlewise/kmp/SparseAutomatonNextPinLaw", name := "pattern", desc := "([CI)[C" } : Jvm.MethodName)).before a0 Z = true := hw _ (List.mem_of_getElem? (i := 11) rfl)
theorem wm12 {a0 : Array Value} {Z : State} (hw : ∀ d ∈ tables_1, d.before a0 Z = true) : (Jvm.Cond.initialized "needlewise/kmp/SparseAutomatonNextPinLaw").before a0 Z = true := hw _ (List.mem_of_getElem? (i := 12) rfl)
theorem wm14 {a0 : Array Value} {Z : State} (hw : ∀ d ∈ tables_1, d.before a0 Z = true) : (Jvm.Cond.methodLink "needlewise/kmp/SparseAutomatonNextPinLaw" (30 : Nat) ({ cls := "needlewise/kmp/SparseAutomaton", name := "<init>", desc := "([C)V" } : Jvm.MethodName)).before a0 Z = true := hw _ (List.mem_of_getElem? (i := 14) rfl)
theorem wm16 {a0 : Array Value} {Z : State} (hw : ∀ d ∈ tables_1, d.before a0 Z = true) : (Jvm.Cond.code ({ cls := "needlewise/kmp/SparseAutomaton", name := "<init>", desc := "([C)V" } : Jvm.MethodName) prog_24_method_1_code (6 : Nat) (Option.none : Option Jvm.ClassFile.FieldType)).before a0 Z = true := hw _ (List.mem_of_getElem? (i := 16) rfl)
theorem pd_3 : parseMethodDescriptor "([C)V" = some ⟨[(.array .char)], none⟩ := by decide +kernel
theorem wm15 {a0 : Array Value} {Z : State} (hw : ∀ d ∈ tables_1, d.before a0 Z = true) : (Jvm.Cond.instanceMethod ({ cls := "needlewise/kmp/SparseAutomaton", name := "<init>", desc := "([C)V" } : Jvm.MethodName)).before a0 Z = true := hw _ (List.mem_of_getElem? (i := 15) rfl)
theorem wm31 {a0 : Array Value} {Z : State} (hw : ∀ d ∈ tables_1, d.before a0 Z = true) : (Jvm.Cond.methodLink "needlewise/kmp/SparseAutomatonNextPinLaw" (33 : Nat) ({ cls := "needlewise/kmp/SparseAutomaton", name := "next", desc := "(IC)I" } : Jvm.MethodName)).before a0 Z = true := hw _ (List.mem_of_getElem? (i := 31) rfl)
theorem wm36 {a0 : Array Value} {Z : State} (hw : ∀ d ∈ tables_1, d.before a0 Z = true) : (Jvm.Cond.methodLink "needlewise/kmp/SparseAutomatonNextPinLaw" (18 : Nat) ({ cls := "needlewise/kmp/SparseAutomatonNextPinLaw", name := "ends", desc := "([C[CII)Z" } : Jvm.MethodName)).before a0 Z = true := hw _ (List.mem_of_getElem? (i := 36) rfl)
theorem wm38 {a0 : Array Value} {Z : State} (hw : ∀ d ∈ tables_1, d.before a0 Z = true) : (Jvm.Cond.code ({ cls := "needlewise/kmp/SparseAutomatonNextPinLaw", name := "ends", desc := "([C[CII)Z" } : Jvm.MethodName) method_2_code (4 : Nat) (Option.some Jvm.ClassFile.FieldType.boolean)).before a0 Z = true := hw _ (List.mem_of_getElem? (i := 38) rfl)
theorem pd_4 : parseMethodDescriptor "([C[CII)Z" = some ⟨[(.array .char), (.array .char), .int, .int], some .boolean⟩ := by decide +kernel
theorem wm37 {a0 : Array Value} {Z : State} (hw : ∀ d ∈ tables_1, d.before a0 Z = true) : (Jvm.Cond.static ({ cls := "needlewise/kmp/SparseAutomatonNextPinLaw", name := "ends", desc := "([C[CII)Z" } : Jvm.MethodName)).before a0 Z = true := hw _ (List.mem_of_getElem? (i := 37) rfl)
theorem wm1 {a0 : Array Value} {Z : State} (hw : ∀ d ∈ tables_1, d.before a0 Z = true) : (Jvm.Cond.constantLong "needlewise/kmp/SparseAutomatonNextPinLaw" (10 : Nat) (3 : Int64)).before a0 Z = true := hw _ (List.mem_of_getElem? (i := 1) rfl)
theorem wm40 {a0 : Array Value} {Z : State} (hw : ∀ d ∈ tables_1, d.before a0 Z = true) : (Jvm.Cond.constantLong "needlewise/kmp/SparseAutomatonNextPinLaw" (8 : Nat) (65535 : Int64)).before a0 Z = true := hw _ (List.mem_of_getElem? (i := 40) rfl)
set_option maxRecDepth 65536 in
set_option maxHeartbeats 40000000 in
theorem c_law (l : Launch) (Z : State) (a0 : Array Value) (hw : ∀ d ∈ tables_1, d.before a0 Z = true) (p1 : Int32) (p2 : Int32) (p3 : Int64) (p4 : Int32) (p5 : Int32) (h0 : Heap) (n0 : Nat) (Z0 : n0 ≤ h0.size)  :
  Ctr l Z x code maxLocals ret room_1 #[(.int p1), (.int p2), (.long p3), (.int p4), (.int p5)] h0 (Tru n0) := by
 refine Ctr.of (plainFor_of_name pn_1) (fun m => ef_c_law m p1 p2 p3 p4 p5) ?_
 intro p e s m below meth c T0 hx hby hml hown hnm hret hlk hZ e0 X0
 have N0 := Fr.nil n0
 replace hown : s.vm.findClass "needlewise/kmp/SparseAutomatonNextPinLaw" = some m.cls := hown
 replace hml : c.maxLocals = 17 := hml
 refine Run.x_iloadN (q := 1) X0 hx (hb hby at_0) rfl rfl ?_
 refine Run.st (B := T0.setTop (mkF m 3 #[.val (.int p1), .val (.int p2), .val (.long p3), .second, .val (.int p4), .val (.int p5), .unset, .unset, .unset, .unset, .unset, .unset, .unset, .unset, .unset, .unset, .unset] [(.int 2147483647), (.int p1)])) (fun t kt => X0.ldcInt hx hown (mvT hZ (wm0 hw)) (g := (mkF m 1 #[.val (.int p1), .val (.int p2), .val (.long p3), .second, .val (.int p4), .val (.int p5), .unset, .unset, .unset, .unset, .unset, .unset, .unset, .unset, .unset, .unset, .unset] [(.int p1)])) rfl (hb hby at_1) _ kt) ?_
 refine Run.x_iand (q := 4) X0 hx (hb hby at_3) rfl rfl ?_
 refine Run.x_iconst (q := 5) X0 hx (hb hby at_4) (z := (5 : Int32)) rfl rfl ?_
 refine Run.x_irem (q := 6) X0 hx (hb hby at_5) (by decide) rfl rfl ?_
 refine Run.x_istore (q := 8) X0 hx #[.val (.int p1), .val (.int p2), .val (.long p3), .second, .val (.int p4), .val (.int p5), .val (.int ((p1 &&& (2147483647 : Int32)) % (5 : Int32))), .unset, .unset, .unset, .unset, .unset, .unset, .unset, .unset, .unset, .unset] (hb hby at_6) rfl rfl ?_
 generalize hmm : ((p1 &&& (2147483647 : Int32)) % (5 : Int32)) = mm
 refine Run.x_iloadN (q := 9) X0 hx (hb hby at_8) rfl rfl ?_
 refine Run.st (B := T0.setTop (mkF m 11 #[.val (.int p1), .val (.int p2), .val (.long p3), .second, .val (.int p4), .val (.int p5), .val (.int mm), .unset, .unset, .unset, .unset, .unset, .unset, .unset, .unset, .unset, .unset] [(.int 2147483647), (.int p2)])) (fun t kt => X0.ldcInt hx hown (mvT hZ (wm0 hw)) (g := (mkF m 9 #[.val (.int p1), .val (.int p2), .val (.long p3), .second, .val (.int p4), .val (.int p5), .val (.int mm), .unset, .unset, .unset, .unset, .unset, .unset, .unset, .unset, .unset, .unset] [(.int p2)])) rfl (hb hby at_9) _ kt) ?_
 refine Run.x_iand (q := 12) X0 hx (hb hby at_11) rfl rfl ?_
 refine Run.x_iload (q := 14) X0 hx (hb hby at_12) rfl rfl ?_
 refine Run.x_iconst (q := 15) X0 hx (hb hby at_14) (z := (1 : Int32)) rfl rfl ?_
 refine Run.x_iadd (q := 16) X0 hx (hb hby at_15) rfl rfl ?_
 refine Run.x_irem (q := 17) X0 hx (hb hby at_16) (own_nz hmm) rfl rfl ?_
 refine Run.x_istore (q := 19) X0 hx #[.val (.int p1), .val (.int p2), .val (.long p3), .second, .val (.int p4), .val (.int p5), .val (.int mm), .val (.int ((p2 &&& (2147483647 : Int32)) % (mm + (1 : Int32)))), .unset, .unset, .unset, .unset, .unset, .unset, .unset, .unset, .unset] (hb hby at_17) rfl rfl ?_
 generalize hss : ((p2 &&& (2147483647 : Int32)) % (mm + (1 : Int32))) = ss
 have J35 : ∀ (mk : Int64), Run p e below s (Tru n0) room_1.cells room_1.slots (T0.setTop (mkF m 35 #[.val (.int p1), .val (.int p2), .val (.long p3), .second, .val (.int p4), .val (.int p5), .val (.int mm), .val (.int ss), .unset, .unset, .unset, .unset, .unset, .unset, .unset, .unset, .unset] [(.long mk)])) := by
  intro mk
  refine Run.x_lstore (q := 37) X0 hx #[.val (.int p1), .val (.int p2), .val (.long p3), .second, .val (.int p4), .val (.int p5), .val (.int mm), .val (.int ss), .val (.long mk), .second, .unset, .unset, .unset, .unset, .unset, .unset, .unset] (hb hby at_35) rfl rfl ?_
  refine Run.x_iconst (q := 38) X0 hx (hb hby at_37) (z := (4 : Int32)) rfl rfl ?_
  refine Run.newP (aty := .char) X0 hx hZ e0 (wm2 hw) (hb hby at_38) (len := 4) (by decide) (by decide) (cap := 4) (by decide) (by decide) (by decide) (by decide) ?_
  intro T1 h1 b1 gg1 X1 e1 E1 A_b1
  have g_b1 : n0 ≤ b1 := Nat.le_trans Z0 (Nat.le_of_eq gg1.symm)
  have Z1 : n0 ≤ h1.size := Nat.le_trans Z0 E1.1
  replace A_b1 : Ars Z h1 b1 .char [(.int 0), (.int 0), (.int 0), (.int 0)] := A_b1
  show Run p e below s _ _ _ (T1.setTop (mkF m 40 #[.val (.int p1), .val (.int p2), .val (.long p3), .second, .val (.int p4), .val (.int p5), .val (.int mm), .val (.int ss), .val (.long mk), .second, .unset, .unset, .unset, .unset, .unset, .unset, .unset] [(.ref b1)]))
  refine Run.x_astore (q := 42) X1 hx #[.val (.int p1), .val (.int p2), .val (.long p3), .second, .val (.int p4), .val (.int p5), .val (.int mm), .val (.int ss), .val (.long mk), .second, .val (.ref b1), .unset, .unset, .unset, .unset, .unset, .unset] (hb hby at_40) rfl rfl rfl ?_
  refine Run.x_aload (q := 44) X1 hx (hb hby at_42) rfl rfl rfl ?_
  refine Run.x_iconst (q := 45) X1 hx (hb hby at_44) (z := (0 : Int32)) rfl rfl ?_
  refine Run.x_lloadN (q := 46) X1 hx (hb hby at_45) rfl rfl ?_
  refine Run.x_lload (q := 48) X1 hx (hb hby at_46) rfl rfl ?_
  refine Run.x_land (q := 49) X1 hx (hb hby at_48) rfl rfl ?_
  refine Run.x_l2i (q := 50) X1 hx (hb hby at_49) rfl rfl ?_
  refine Run.x_i2c (q := 51) X1 hx (hb hby at_50) rfl rfl ?_
  generalize hk0 : (p3 &&& mk).toInt32.toUInt32.toUInt16.toUInt32.toInt32 = k0
  have rk0 := own_rg hk0
  refine Run.y_stC (q := 52) X1 hx hZ e1 A_b1 (i := 0) (by decide) (Nat.le_of_ble_eq_true rfl) (z' := k0) (own_nr rk0) (hb hby at_51) rfl fun T2 h2 X2 e2 W2 A2 => ?_
  replace A_b1 : Ars Z h2 b1 .char [(.int k0), (.int 0), (.int 0), (.int 0)] := A2
  have N2 := Fr.snoc X2 N0 g_b1
  have Z2 : n0 ≤ h2.size := Nat.le_trans Z1 (Nat.le_of_eq W2.size.symm)
  refine Run.x_aload (q := 54) X2 hx (hb hby at_52) rfl rfl rfl ?_
  refine Run.x_iconst (q := 55) X2 hx (hb hby at_54) (z := (1 : Int32)) rfl rfl ?_
  refine Run.x_lloadN (q := 56) X2 hx (hb hby at_55) rfl rfl ?_
  refine Run.x_bipush (q := 58) X2 hx (hb hby at_56) (z := (16 : Int32)) rfl rfl ?_
  refine Run.x_lushr (q := 59) X2 hx (hb hby at_58) rfl rfl ?_
  refine Run.x_lload (q := 61) X2 hx (hb hby at_59) rfl rfl ?_
  refine Run.x_land (q := 62) X2 hx (hb hby at_61) rfl rfl ?_
  refine Run.x_l2i (q := 63) X2 hx (hb hby at_62) rfl rfl ?_
  refine Run.x_i2c (q := 64) X2 hx (hb hby at_63) rfl rfl ?_
  generalize hk1 : (((p3.toUInt64 >>> ((16 : Int32) &&& 0x3f).toInt64.toUInt64).toInt64) &&& mk).toInt32.toUInt32.toUInt16.toUInt32.toInt32 = k1
  have rk1 := own_rg hk1
  refine Run.y_stC (q := 65) X2 hx hZ e2 A_b1 (i := 1) (by decide) (Nat.le_of_ble_eq_true rfl) (z' := k1) (own_nr rk1) (hb hby at_64) rfl fun T3 h3 X3 e3 W3 A3 => ?_
  replace A_b1 : Ars Z h3 b1 .char [(.int k0), (.int k1), (.int 0), (.int 0)] := A3
  have N3 := Fr.snoc X3 N2 g_b1
  have Z3 : n0 ≤ h3.size := Nat.le_trans Z2 (Nat.le_of_eq W3.size.symm)
  refine Run.x_aload (q := 67) X3 hx (hb hby at_65) rfl rfl rfl ?_
  refine Run.x_iconst (q := 68) X3 hx (hb hby at_67) (z := (2 : Int32)) rfl rfl ?_
  refine Run.x_lloadN (q := 69) X3 hx (hb hby at_68) rfl rfl ?_
  refine Run.x_bipush (q := 71) X3 hx (hb hby at_69) (z := (32 : Int32)) rfl rfl ?_
  refine Run.x_lushr (q := 72) X3 hx (hb hby at_71) rfl rfl ?_
  refine Run.x_lload (q := 74) X3 hx (hb hby at_72) rfl rfl ?_
  refine Run.x_land (q := 75) X3 hx (hb hby at_74) rfl rfl ?_
  refine Run.x_l2i (q := 76) X3 hx (hb hby at_75) rfl rfl ?_
  refine Run.x_i2c (q := 77) X3 hx (hb hby at_76) rfl rfl ?_
  generalize hk2 : (((p3.toUInt64 >>> ((32 : Int32) &&& 0x3f).toInt64.toUInt64).toInt64) &&& mk).toInt32.toUInt32.toUInt16.toUInt32.toInt32 = k2
  have rk2 := own_rg hk2
  refine Run.y_stC (q := 78) X3 hx hZ e3 A_b1 (i := 2) (by decide) (Nat.le_of_ble_eq_true rfl) (z' := k2) (own_nr rk2) (hb hby at_77) rfl fun T4 h4 X4 e4 W4 A4 => ?_
  replace A_b1 : Ars Z h4 b1 .char [(.int k0), (.int k1), (.int k2), (.int 0)] := A4
  have N4 := Fr.snoc X4 N3 g_b1
  have Z4 : n0 ≤ h4.size := Nat.le_trans Z3 (Nat.le_of_eq W4.size.symm)
  refine Run.x_aload (q := 80) X4 hx (hb hby at_78) rfl rfl rfl ?_
  refine Run.x_iconst (q := 81) X4 hx (hb hby at_80) (z := (3 : Int32)) rfl rfl ?_
  refine Run.x_lloadN (q := 82) X4 hx (hb hby at_81) rfl rfl ?_
  refine Run.x_bipush (q := 84) X4 hx (hb hby at_82) (z := (48 : Int32)) rfl rfl ?_
  refine Run.x_lushr (q := 85) X4 hx (hb hby at_84) rfl rfl ?_
  refine Run.x_lload (q := 87) X4 hx (hb hby at_85) rfl rfl ?_
  refine Run.x_land (q := 88) X4 hx (hb hby at_87) rfl rfl ?_
  refine Run.x_l2i (q := 89) X4 hx (hb hby at_88) rfl rfl ?_
  refine Run.x_i2c (q := 90) X4 hx (hb hby at_89) rfl rfl ?_
  generalize hk3 : (((p3.toUInt64 >>> ((48 : Int32) &&& 0x3f).toInt64.toUInt64).toInt64) &&& mk).toInt32.toUInt32.toUInt16.toUInt32.toInt32 = k3
  have rk3 := own_rg hk3
  refine Run.y_stC (q := 91) X4 hx hZ e4 A_b1 (i := 3) (by decide) (Nat.le_of_ble_eq_true rfl) (z' := k3) (own_nr rk3) (hb hby at_90) rfl fun T5 h5 X5 e5 W5 A5 => ?_
  replace A_b1 : Ars Z h5 b1 .char [(.int k0), (.int k1), (.int k2), (.int k3)] := A5
  have N5 := Fr.snoc X5 N4 g_b1
  have Z5 : n0 ≤ h5.size := Nat.le_trans Z4 (Nat.le_of_eq W5.size.symm)
  refine Run.x_iload (q := 93) X5 hx (hb hby at_91) rfl rfl ?_
  refine Run.x_lload (q := 95) X5 hx (hb hby at_93) rfl rfl ?_
  refine Run.x_l2i (q := 96) X5 hx (hb hby at_95) rfl rfl ?_
  refine Run.x_iand (q := 97) X5 hx (hb hby at_96) rfl rfl ?_
  refine Run.x_i2c (q := 98) X5 hx (hb hby at_97) rfl rfl ?_
  refine Run.x_istore (q := 100) X5 hx #[.val (.int p1), .val (.int p2), .val (.long p3), .second, .val (.int p4), .val (.int p5), .val (.int mm), .val (.int ss), .val (.long mk), .second, .val (.ref b1), .val (.int (p4 &&& mk.toInt32).toUInt32.toUInt16.toUInt32.toInt32), .unset, .unset, .unset, .unset, .unset] (hb hby at_98) rfl rfl ?_
  generalize hu : (p4 &&& mk.toInt32).toUInt32.toUInt16.toUInt32.toInt32 = u
  have ru := own_rg hu
  refine Run.x_iconst (q := 101) X5 hx (hb hby at_100) (z := (5 : Int32)) rfl rfl ?_
  refine Run.newP (aty := .char) X5 hx hZ e5 (wm2 hw) (hb hby at_101) (len := 5) (by decide) (by decide) (cap := 5) (by decide) (by decide) (by decide) (by decide) ?_
  intro T6 h6 b6 gg6 X6 e6 E6 A_b6
  have g_b6 : n0 ≤ b6 := Nat.le_trans Z5 (Nat.le_of_eq gg6.symm)
  have ne_b1_b6 : b1 ≠ b6 := Nat.ne_of_lt (Nat.lt_of_lt_of_le A_b1.lt (Nat.le_of_eq gg6.symm))
  have Z6 : n0 ≤ h6.size := Nat.le_trans Z5 E6.1
  replace A_b6 : Ars Z h6 b6 .char [(.int 0), (.int 0), (.int 0), (.int 0), (.int 0)] := A_b6
  show Run p e below s _ _ _ (T6.setTop (mkF m 103 #[.val (.int p1), .val (.int p2), .val (.long p3), .second, .val (.int p4), .val (.int p5), .val (.int mm), .val (.int ss), .val (.long mk), .second, .val (.ref b1), .val (.int u), .unset, .unset, .unset, .unset, .unset] [(.ref b6)]))
  refine Run.x_dup (q := 104) X6 hx (hb hby at_103) rfl rfl ?_
  refine Run.x_iconst (q := 105) X6 hx (hb hby at_104) (z := (0 : Int32)) rfl rfl ?_
  refine Run.x_aload (q := 107) X6 hx (hb hby at_105) rfl rfl rfl ?_
  refine Run.x_iconst (q := 108) X6 hx (hb hby at_107) (z := (0 : Int32)) rfl rfl ?_
  replace A_b1 := A_b1.ext E6
  refine Run.y_ldC (q := 109) X6 hx hZ e6 A_b1 (i := 0) (v := (.int k0)) (by decide) rfl (hb hby at_108) rfl ?_
  refine Run.y_stC (q := 110) X6 hx hZ e6 A_b6 (i := 0) (by decide) (Nat.le_of_ble_eq_true rfl) (z' := k0) (own_nr rk0) (hb hby at_109) rfl fun T7 h7 X7 e7 W7 A7 => ?_
  replace A_b6 : Ars Z h7 b6 .char [(.int k0), (.int 0), (.int 0), (.int 0), (.int 0)] := A7
  have N7 := Fr.snoc X7 N5 g_b6
  have Z7 : n0 ≤ h7.size := Nat.le_trans Z6 (Nat.le_of_eq W7.size.symm)
  refine Run.x_dup (q := 111) X7 hx (hb hby at_110) rfl rfl ?_
  refine Run.x_iconst (q := 112) X7 hx (hb hby at_111) (z := (1 : Int32)) rfl rfl ?_
  refine Run.x_aload (q := 114) X7 hx (hb hby at_112) rfl rfl rfl ?_
  refine Run.x_iconst (q := 115) X7 hx (hb hby at_114) (z := (1 : Int32)) rfl rfl ?_
  replace A_b1 := A_b1.other W7 ne_b1_b6
  refine Run.y_ldC (q := 116) X7 hx hZ e7 A_b1 (i := 1) (v := (.int k1)) (by decide) rfl (hb hby at_115) rfl ?_
  refine Run.y_stC (q := 117) X7 hx hZ e7 A_b6 (i := 1) (by decide) (Nat.le_of_ble_eq_true rfl) (z' := k1) (own_nr rk1) (hb hby at_116) rfl fun T8 h8 X8 e8 W8 A8 => ?_
  replace A_b6 : Ars Z h8 b6 .char [(.int k0), (.int k1), (.int 0), (.int 0), (.int 0)] := A8
  have N8 := Fr.snoc X8 N7 g_b6
  have Z8 : n0 ≤ h8.size := Nat.le_trans Z7 (Nat.le_of_eq W8.size.symm)
  refine Run.x_dup (q := 118) X8 hx (hb hby at_117) rfl rfl ?_
  refine Run.x_iconst (q := 119) X8 hx (hb hby at_118) (z := (2 : Int32)) rfl rfl ?_
  refine Run.x_aload (q := 121) X8 hx (hb hby at_119) rfl rfl rfl ?_
  refine Run.x_iconst (q := 122) X8 hx (hb hby at_121) (z := (2 : Int32)) rfl rfl ?_
  replace A_b1 := A_b1.other W8 ne_b1_b6
  refine Run.y_ldC (q := 123) X8 hx hZ e8 A_b1 (i := 2) (v := (.int k2)) (by decide) rfl (hb hby at_122) rfl ?_
  refine Run.y_stC (q := 124) X8 hx hZ e8 A_b6 (i := 2) (by decide) (Nat.le_of_ble_eq_true rfl) (z' := k2) (own_nr rk2) (hb hby at_123) rfl fun T9 h9 X9 e9 W9 A9 => ?_
  replace A_b6 : Ars Z h9 b6 .char [(.int k0), (.int k1), (.int k2), (.int 0), (.int 0)] := A9
  have N9 := Fr.snoc X9 N8 g_b6
  have Z9 : n0 ≤ h9.size := Nat.le_trans Z8 (Nat.le_of_eq W9.size.symm)
  refine Run.x_dup (q := 125) X9 hx (hb hby at_124) rfl rfl ?_
  refine Run.x_iconst (q := 126) X9 hx (hb hby at_125) (z := (3 : Int32)) rfl rfl ?_
  refine Run.x_aload (q := 128) X9 hx (hb hby at_126) rfl rfl rfl ?_
  refine Run.x_iconst (q := 129) X9 hx (hb hby at_128) (z := (3 : Int32)) rfl rfl ?_
  replace A_b1 := A_b1.other W9 ne_b1_b6
  refine Run.y_ldC (q := 130) X9 hx hZ e9 A_b1 (i := 3) (v := (.int k3)) (by decide) rfl (hb hby at_129) rfl ?_
  refine Run.y_stC (q := 131) X9 hx hZ e9 A_b6 (i := 3) (by decide) (Nat.le_of_ble_eq_true rfl) (z' := k3) (own_nr rk3) (hb hby at_130) rfl fun T10 h10 X10 e10 W10 A10 => ?_
  replace A_b6 : Ars Z h10 b6 .char [(.int k0), (.int k1), (.int k2), (.int k3), (.int 0)] := A10
  have N10 := Fr.snoc X10 N9 g_b6
  have Z10 : n0 ≤ h10.size := Nat.le_trans Z9 (Nat.le_of_eq W10.size.symm)
  refine Run.x_dup (q := 132) X10 hx (hb hby at_131) rfl rfl ?_
  refine Run.x_iconst (q := 133) X10 hx (hb hby at_132) (z := (4 : Int32)) rfl rfl ?_
  refine Run.x_iconst (q := 134) X10 hx (hb hby at_133) (z := (0 : Int32)) rfl rfl ?_
  refine Run.y_stC (q := 135) X10 hx hZ e10 A_b6 (i := 4) (by decide) (Nat.le_of_ble_eq_true rfl) (z' := (0 : Int32)) (by decide) (hb hby at_134) rfl fun T11 h11 X11 e11 W11 A11 => ?_
  replace A_b6 : Ars Z h11 b6 .char [(.int k0), (.int k1), (.int k2), (.int k3), (.int 0)] := A11
  have N11 := Fr.snoc X11 N10 g_b6
  have Z11 : n0 ≤ h11.size := Nat.le_trans Z10 (Nat.le_of_eq W11.size.symm)
  refine Run.x_astore (q := 137) X11 hx #[.val (.int p1), .val (.int p2), .val (.long p3), .second, .val (.int p4), .val (.int p5), .val (.int mm), .val (.int ss), .val (.long mk), .second, .val (.ref b1), .val (.int u), .val (.ref b6), .unset, .unset, .unset, .unset] (hb hby at_135) rfl rfl rfl ?_
  have J137 : ∀ (z0 : Slot) (z1 : Slot) (z2 : Slot) (z3 : Slot) (z4 : Slot) (z5 : Slot) (z8 : Slot) (z9 : Slot), Run p e below s (Tru n0) room_1.cells room_1.slots (T11.setTop (mkF m 137 #[z0, z1, z2, z3, z4, z5, .val (.int mm), .val (.int ss), z8, z9, .val (.ref b1), .val (.int u), .val (.ref b6), .unset, .unset, .unset, .unset] [])) := by
   intro z0 z1 z2 z3 z4 z5 z8 z9
   rcases own_m hmm with rfl | rfl | rfl | rfl | rfl
   ·skip
    show Run p e below s _ _ _ (T11.setTop (mkF m 137 #[z0, z1, z2, z3, z4, z5, .val (.int 0), .val (.int ss), z8, z9, .val (.ref b1), .val (.int u), .val (.ref b6), .unset, .unset, .unset, .unset] []))
    rcases own_s0 hss with rfl
    ·skip
     show Run p e below s _ _ _ (T11.setTop (mkF m 137 #[z0, z1, z2, z3, z4, z5, .val (.int 0), .val (.int 0), z8, z9, .val (.ref b1), .val (.int u), .val (.ref b6), .unset, .unset, .unset, .unset] []))
     refine Run.x_aload (q := 139) X11 hx (hb hby at_137) rfl rfl rfl ?_
     refine Run.x_iload (q := 141) X11 hx (hb hby at_139) rfl rfl ?_
     refine Run.x_iload (q := 143) X11 hx (hb hby at_141) rfl rfl ?_
     refine Run.y_stC (q := 144) X11 hx hZ e11 A_b6 (i := 0) (by decide) (Nat.le_of_ble_eq_true rfl) (z' := u) (own_nr ru) (hb hby at_143) rfl fun T12 h12 X12 e12 W12 A12 => ?_
     replace A_b6 : Ars Z h12 b6 .char [(.int u), (.int k1), (.int k2), (.int k3), (.int 0)] := A12
     have N12 := Fr.snoc X12 N11 g_b6
     have Z12 : n0 ≤ h12.size := Nat.le_trans Z11 (Nat.le_of_eq W12.size.symm)
     refine Run.x_iload (q := 146) X12 hx (hb hby at_144) rfl rfl ?_
     refine Run.x_iconst (q := 147) X12 hx (hb hby at_146) (z := (1 : Int32)) rfl rfl ?_
     refine Run.x_iadd (q := 148) X12 hx (hb hby at_147) (z := (1 : Int32)) (by decide) rfl ?_
     refine Run.x_istore (q := 150) X12 hx #[z0, z1, z2, z3, z4, z5, .val (.int 0), .val (.int 0), z8, z9, .val (.ref b1), .val (.int u), .val (.ref b6), .val (.int 1), .unset, .unset, .unset] (hb hby at_148) rfl rfl ?_
     refine Run.x_iload (q := 152) X12 hx (hb hby at_150) rfl rfl ?_
     refine Run.x_iload (q := 154) X12 hx (hb hby at_152) rfl rfl ?_
     refine Run.callSI (q := 157) X12 hx hZ e12 (y := (⟨"java/lang/Math", "min", "(II)I"⟩ : MethodName)) hown (wm3 hw) (wm4 hw) (wm5 hw) (wm6 hw) (by decide) (argsL := [(.int 1), (.int 0)]) (rest := []) (c_min l Z a0 hw (1 : Int32) (0 : Int32) h12 n0 Z12 (0 : Int32) (by decide)) pd_1 rfl (by rw [hml]; rfl) (W := 0) rfl (by decide) (by decide) (by decide) (by decide) (hb hby at_154) rfl rfl fun T13 L13 X13 M13 e13 => ?_
     have N13 := Fr.app N12 M13
     refine Run.x_istore (q := 159) X13 hx #[z0, z1, z2, z3, z4, z5, .val (.int 0), .val (.int 0), z8, z9, .val (.ref b1), .val (.int u), .val (.ref b6), .val (.int 1), .val (.int 0), .unset, .unset] (hb hby at_157) rfl rfl ?_
     have JX : ∀ (T14 : State) (h14 : Heap) (lo14 : List Loc) (ex : Int32), Stand p l e room_1 s m #[(.int p1), (.int p2), (.long p3), (.int p4), (.int p5)] below meth c T14 lo14 2 9 → T14.heap = h14 → Fr n0 lo14 → n0 ≤ h14.size → Ars Z h14 b1 .char [(.int k0), (.int k1), (.int k2), (.int k3)] → (ex = (0 : Int32)) → Run p e below s (Tru n0) room_1.cells room_1.slots (T14.setTop (mkF m 262 #[z0, z1, z2, z3, z4, z5, .val (.int 0), .val (.int 0), z8, z9, .val (.ref b1), .val (.int u), .val (.ref b6), .val (.int 1), .val (.int 0), .val (.int ex), .unset] [])) := by
      intro T14 h14 lo14 ex X14 e14 N14 Z14 A_b1 hex
      obtain ⟨T15, h15, X15, e15, E15, A15, D15, -, st15⟩ := newO X14 hx hZ hown (wm7 hw) (wm8 hw) (wm9 hw) e14 (g := (mkF m 262 #[z0, z1, z2, z3, z4, z5, .val (.int 0), .val (.int 0), z8, z9, .val (.ref b1), .val (.int u), .val (.ref b6), .val (.int 1), .val (.int 0), .val (.int ex), .unset] [])) rfl (hb hby at_262) (by decide) (by decide)
      obtain ⟨b15, gg15⟩ : ∃ z, z = h14.size := ⟨_, rfl⟩
      rw [← gg15] at A15 D15 st15
      have g_b15 : n0 ≤ b15 := Nat.le_trans Z14 (Nat.le_of_eq gg15.symm)
      have ne_b1_b15 : b1 ≠ b15 := Nat.ne_of_lt (Nat.lt_of_lt_of_le A_b1.lt (Nat.le_of_eq gg15.symm))
      have Z15 : n0 ≤ h15.size := Nat.le_trans Z14 E15.1
      have E_b15 := A15
      have F_b15_length : Fld Z h15 b15 "needlewise/kmp/SparseAutomaton" "length" "I" (.int 0) := D15 (Or.inr (wm21 hw)) (ty := .int) (by decide)
      have F_b15_forward : Fld Z h15 b15 "needlewise/kmp/SparseAutomaton" "forward" "[I" .null := D15 (Or.inr (wm24 hw)) (ty := (.array .int)) (by decide)
      have F_b15_rows : Fld Z h15 b15 "needlewise/kmp/SparseAutomaton" "rows" "[I" .null := D15 (Or.inr (wm26 hw)) (ty := (.array .int)) (by decide)
      have F_b15_units : Fld Z h15 b15 "needlewise/kmp/SparseAutomaton" "units" "[C" .null := D15 (Or.inr (wm28 hw)) (ty := (.array .char)) (by decide)
      have F_b15_targets : Fld Z h15 b15 "needlewise/kmp/SparseAutomaton" "targets" "[I" .null := D15 (Or.inr (wm30 hw)) (ty := (.array .int)) (by decide)
      refine Run.st st15 ?_
      show Run p e below s _ _ _ (T15.setTop (mkF m 265 #[z0, z1, z2, z3, z4, z5, .val (.int 0), .val (.int 0), z8, z9, .val (.ref b1), .val (.int u), .val (.ref b6), .val (.int 1), .val (.int 0), .val (.int ex), .unset] [(.ref b15)]))
      refine Run.x_dup (q := 266) X15 hx (hb hby at_265) rfl rfl ?_
      refine Run.x_aload (q := 268) X15 hx (hb hby at_266) rfl rfl rfl ?_
      refine Run.x_iload (q := 270) X15 hx (hb hby at_268) rfl rfl ?_
      replace A_b1 := A_b1.ext E15
      refine Run.callS X15 hx hZ e15 (y := (⟨"needlewise/kmp/SparseAutomatonNextPinLaw", "pattern", "([CI)[C"⟩ : MethodName)) hown (wm10 hw) (wm11 hw) (wm12 hw) (wm13 hw) (by decide) (argsL := [(.ref b1), (.int 0)]) (rest := [(.ref b15), (.ref b15)]) (c_pat0 l Z a0 hw b1 h15 n0 Z15 k0 k1 k2 k3 A_b1 rk0 rk1 rk2 rk3) pd_2 rfl (by rw [hml]; rfl) (W := 2) rfl (by decide) (by decide) (by decide) (by decide) (hb hby at_270) rfl ?_
      intro T16 v16 L16 X16 q16
      obtain ⟨np16, rfl, M16, K16, sz16, An16⟩ := q16
      have N16 := Fr.app N14 M16
      show Run p e below s _ _ _ (T16.setTop (mkF m 273 #[z0, z1, z2, z3, z4, z5, .val (.int 0), .val (.int 0), z8, z9, .val (.ref b1), .val (.int u), .val (.ref b6), .val (.int 1), .val (.int 0), .val (.int ex), .unset] [(.ref np16), (.ref b15), (.ref b15)]))
      have ne_b1_np16 : b1 ≠ np16 := Nat.ne_of_lt (Nat.lt_of_lt_of_le A_b1.lt sz16)
      have ne_b15_np16 : b15 ≠ np16 := Nat.ne_of_lt (Nat.lt_of_lt_of_le E_b15.lt sz16)
      have g_np16 : n0 ≤ np16 := Nat.le_trans Z15 sz16
      have Z16 : n0 ≤ T16.heap.size := Nat.le_trans Z15 K16.1
      replace E_b15 := E_b15.keep K16
      replace F_b15_length := F_b15_length.keep K16 nin0
      replace F_b15_forward := F_b15_forward.keep K16 nin0
      replace F_b15_rows := F_b15_rows.keep K16 nin0
      replace F_b15_units := F_b15_units.keep K16 nin0
      replace F_b15_targets := F_b15_targets.keep K16 nin0
      refine Run.callC X16 hx hZ rfl (y := (⟨"needlewise/kmp/SparseAutomaton", "<init>", "([C)V"⟩ : MethodName)) hown rfl (wm14 hw) (wm15 hw) (wm9 hw) (wm16 hw) (by decide) (a := b15) (argsL := [(.ref np16)]) (rest := [(.ref b15)]) (c_init0 l Z a0 hw b15 np16 T16.heap n0 Z16 E_b15 F_b15_length F_b15_forward F_b15_rows F_b15_units F_b15_targets An16 g_b15 ne_b15_np16) pd_3 rfl (by rw [hml]; rfl) (W := 1) rfl (by decide) (by decide) (by decide) (by decide) (hb hby at_273) rfl ?_
      intro T17 v17 L17 X17 q17
      obtain ⟨fo17, ro17, uo17, to17, rw17, un17, tg17, rfl, M17, E17, Ffo17, Fro17, Fuo17, Fto17, Afo17, Aro17, Auo17, Ato17, R17_0⟩ := q17
      have N17 := Fr.app N16 M17
      show Run p e below s _ _ _ (T17.setTop (mkF m 276 #[z0, z1, z2, z3, z4, z5, .val (.int 0), .val (.int 0), z8, z9, .val (.ref b1), .val (.int u), .val (.ref b6), .val (.int 1), .val (.int 0), .val (.int ex), .unset] [(.ref b15)]))
      have Z17 : n0 ≤ T17.heap.size := Nat.le_trans g_b15 (Nat.le_of_lt E17.lt)
      obtain ⟨aa, dd, za, ze, q1, q2, q3, q4, q5, q6, q7, q8⟩ := R17_0
      refine Run.x_astore (q := 278) X17 hx #[z0, z1, z2, z3, z4, z5, .val (.int 0), .val (.int 0), z8, z9, .val (.ref b1), .val (.int u), .val (.ref b6), .val (.int 1), .val (.int 0), .val (.int ex), .val (.ref b15)] (hb hby at_276) rfl rfl rfl ?_
      refine Run.x_aload (q := 280) X17 hx (hb hby at_278) rfl rfl rfl ?_
      refine Run.x_iload (q := 282) X17 hx (hb hby at_280) rfl rfl ?_
      refine Run.x_iload (q := 284) X17 hx (hb hby at_282) rfl rfl ?_
      refine Run.callVI (q := 287) X17 hx hZ rfl (y := (⟨"needlewise/kmp/SparseAutomaton", "next", "(IC)I"⟩ : MethodName)) (z := (⟨"needlewise/kmp/SparseAutomaton", "next", "(IC)I"⟩ : MethodName)) hown (wm31 hw) (wm32 hw) (notFace_of_selects (args := #[]) (mvT hZ (wm34 hw))) (wm34 hw) (wm33 hw) (wm9 hw) (wm35 hw) (by decide) (a := b15) E17 (argsL := [(.int 0), (.int u)]) (rest := []) (c_next l Z a0 hw b15 (0 : Int32) u T17.heap n0 Z17 fo17 ro17 uo17 to17 [(.int (-1))] (rw17.map Value.int) un17 tg17 0 aa dd (-1 : Int32) za ze (0 : Int32) E17 Ffo17 Fro17 Fuo17 Fto17 Afo17 Aro17 Auo17 Ato17 (by decide) (by decide) rfl q1 q2 q3 q4 q5 q6 q7 (q8 u ru.1)) pd_0 rfl (by rw [hml]; rfl) (W := 0) rfl (by decide) (by decide) (by decide) (by decide) (hb hby at_284) rfl rfl fun T18 L18 X18 M18 e18 => ?_
      have N18 := Fr.app N17 M18
      refine Run.x_iload (q := 289) X18 hx (hb hby at_287) rfl rfl ?_
      refine Run.x_icmpNo (q := 292) X18 hx (hb hby at_289) (teq hex.symm).2 rfl ?_
      refine Run.x_iconst (q := 293) X18 hx (hb hby at_292) (z := (1 : Int32)) rfl rfl ?_
      refine Run.x_goto (q := 297) X18 hx (hb hby at_293) (by decide) (by decide) ?_
      refine Run.retN X18 hx hlk e18 (t := .boolean) hret (by simp) (z' := (1 : Int32)) (by decide) (hb hby at_297) (by decide) (by decide) ?_
      exact ⟨rfl, N18⟩
     refine Run.x_iload (q := 161) X13 hx (hb hby at_159) rfl rfl ?_
     refine Run.x_iconst (q := 162) X13 hx (hb hby at_161) (z := (4 : Int32)) rfl rfl ?_
     refine Run.x_icmpYes (q := 184) X13 hx (hb hby at_162) (tlt (by decide : (0 : Int32) < (4 : Int32))).1 (by decide) (by decide) ?_
     refine Run.x_iload (q := 186) X13 hx (hb hby at_184) rfl rfl ?_
     refine Run.x_iconst (q := 187) X13 hx (hb hby at_186) (z := (3 : Int32)) rfl rfl ?_
     refine Run.x_icmpYes (q := 209) X13 hx (hb hby at_187) (tlt (by decide : (0 : Int32) < (3 : Int32))).1 (by decide) (by decide) ?_
     refine Run.x_iload (q := 211) X13 hx (hb hby at_209) rfl rfl ?_
     refine Run.x_iconst (q := 212) X13 hx (hb hby at_211) (z := (2 : Int32)) rfl rfl ?_
     refine Run.x_icmpYes (q := 234) X13 hx (hb hby at_212) (tlt (by decide : (0 : Int32) < (2 : Int32))).1 (by decide) (by decide) ?_
     refine Run.x_iload (q := 236) X13 hx (hb hby at_234) rfl rfl ?_
     refine Run.x_iconst (q := 237) X13 hx (hb hby at_236) (z := (1 : Int32)) rfl rfl ?_
     refine Run.x_icmpYes (q := 259) X13 hx (hb hby at_237) (tlt (by decide : (0 : Int32) < (1 : Int32))).1 (by decide) (by decide) ?_
     refine Run.x_iconst (q := 260) X13 hx (hb hby at_259) (z := (0 : Int32)) rfl rfl ?_
     refine Run.x_istore (q := 262) X13 hx #[z0, z1, z2, z3, z4, z5, .val (.int 0), .val (.int 0), z8, z9, .val (.ref b1), .val (.int u), .val (.ref b6), .val (.int 1), .val (.int 0), .val (.int 0), .unset] (hb hby at_260) rfl rfl ?_
     replace A_b1 := ((A_b1.other W10 ne_b1_b6).other W11 ne_b1_b6).other W12 ne_b1_b6
     exact JX T13 h12 _ _ X13 e13 N13 Z12 A_b1 (Eq.symm (rfl))
   ·skip
    show Run p e below s _ _ _ (T11.setTop (mkF m 137 #[z0, z1, z2, z3, z4, z5, .val (.int 1), .val (.int ss), z8, z9, .val (.ref b1), .val (.int u), .val (.ref b6), .unset, .unset, .unset, .unset] []))
    rcases own_s1 hss with rfl | rfl
    ·skip
     show Run p e below s _ _ _ (T11.setTop (mkF m 137 #[z0, z1, z2, z3, z4, z5, .val (.int 1), .val (.int 0), z8, z9, .val (.ref b1), .val (.int u), .val (.ref b6), .unset, .unset, .unset, .unset] []))
     refine Run.x_aload (q := 139) X11 hx (hb hby at_137) rfl rfl rfl ?_
     refine Run.x_iload (q := 141) X11 hx (hb hby at_139) rfl rfl ?_
     refine Run.x_iload (q := 143) X11 hx (hb hby at_141) rfl rfl ?_
     refine Run.y_stC (q := 144) X11 hx hZ e11 A_b6 (i := 0) (by decide) (Nat.le_of_ble_eq_true rfl) (z' := u) (own_nr ru) (hb hby at_143) rfl fun T19 h19 X19 e19 W19 A19 => ?_
     replace A_b6 : Ars Z h19 b6 .char [(.int u), (.int k1), (.int k2), (.int k3), (.int 0)] := A19
     have N19 := Fr.snoc X19 N11 g_b6
     have Z19 : n0 ≤ h19.size := Nat.le_trans Z11 (Nat.le_of_eq W19.size.symm)
     refine Run.x_iload (q := 146) X19 hx (hb hby at_144) rfl rfl ?_
     refine Run.x_iconst (q := 147) X19 hx (hb hby at_146) (z := (1 : Int32)) rfl rfl ?_
     refine Run.x_iadd (q := 148) X19 hx (hb hby at_147) (z := (1 : Int32)) (by decide) rfl ?_
     refine Run.x_istore (q := 150) X19 hx #[z0, z1, z2, z3, z4, z5, .val (.int 1), .val (.int 0), z8, z9, .val (.ref b1), .val (.int u), .val (.ref b6), .val (.int 1), .unset, .unset, .unset] (hb hby at_148) rfl rfl ?_
     refine Run.x_iload (q := 152) X19 hx (hb hby at_150) rfl rfl ?_
     refine Run.x_iload (q := 154) X19 hx (hb hby at_152) rfl rfl ?_
     refine Run.callSI (q := 157) X19 hx hZ e19 (y := (⟨"java/lang/Math", "min", "(II)I"⟩ : MethodName)) hown (wm3 hw) (wm4 hw) (wm5 hw) (wm6 hw) (by decide) (argsL := [(.int 1), (.int 1)]) (rest := []) (c_min l Z a0 hw (1 : Int32) (1 : Int32) h19 n0 Z19 (1 : Int32) (by decide)) pd_1 rfl (by rw [hml]; rfl) (W := 0) rfl (by decide) (by decide) (by decide) (by decide) (hb hby at_154) rfl rfl fun T20 L20 X20 M20 e20 => ?_
     have N20 := Fr.app N19 M20
     refine Run.x_istore (q := 159) X20 hx #[z0, z1, z2, z3, z4, z5, .val (.int 1), .val (.int 0), z8, z9, .val (.ref b1), .val (.int u), .val (.ref b6), .val (.int 1), .val (.int 1), .unset, .unset] (hb hby at_157) rfl rfl ?_
     have JX : ∀ (T21 : State) (h21 : Heap) (lo21 : List Loc) (ex : Int32), Stand p l e room_1 s m #[(.int p1), (.int p2), (.long p3), (.int p4), (.int p5)] below meth c T21 lo21 2 9 → T21.heap = h21 → Fr n0 lo21 → n0 ≤ h21.size → Ars Z h21 b1 .char [(.int k0), (.int k1), (.int k2), (.int k3)] → (ex = (if k0 = u then (1 : Int32) else (0 : Int32))) → Run p e below s (Tru n0) room_1.cells room_1.slots (T21.setTop (mkF m 262 #[z0, z1, z2, z3, z4, z5, .val (.int 1), .val (.int 0), z8, z9, .val (.ref b1), .val (.int u), .val (.ref b6), .val (.int 1), .val (.int 1), .val (.int ex), .unset] [])) := by
      intro T21 h21 lo21 ex X21 e21 N21 Z21 A_b1 hex
      obtain ⟨T22, h22, X22, e22, E22, A22, D22, -, st22⟩ := newO X21 hx hZ hown (wm7 hw) (wm8 hw) (wm9 hw) e21 (g := (mkF m 262 #[z0, z1, z2, z3, z4, z5, .val (.int 1), .val (.int 0), z8, z9, .val (.ref b1), .val (.int u), .val (.ref b6), .val (.int 1), .val (.int 1), .val (.int ex), .unset] [])) rfl (hb hby at_262) (by decide) (by decide)
      obtain ⟨b22, gg22⟩ : ∃ z, z = h21.size := ⟨_, rfl⟩
      rw [← gg22] at A22 D22 st22
      have g_b22 : n0 ≤ b22 := Nat.le_trans Z21 (Nat.le_of_eq gg22.symm)
      have ne_b1_b22 : b1 ≠ b22 := Nat.ne_of_lt (Nat.lt_of_lt_of_le A_b1.lt (Nat.le_of_eq gg22.symm))
      have Z22 : n0 ≤ h22.size := Nat.le_trans Z21 E22.1
      have E_b22 := A22
      have F_b22_length : Fld Z h22 b22 "needlewise/kmp/SparseAutomaton" "length" "I" (.int 0) := D22 (Or.inr (wm21 hw)) (ty := .int) (by decide)
      have F_b22_forward : Fld Z h22 b22 "needlewise/kmp/SparseAutomaton" "forward" "[I" .null := D22 (Or.inr (wm24 hw)) (ty := (.array .int)) (by decide)
      have F_b22_rows : Fld Z h22 b22 "needlewise/kmp/SparseAutomaton" "rows" "[I" .null := D22 (Or.inr (wm26 hw)) (ty := (.array .int)) (by decide)
      have F_b22_units : Fld Z h22 b22 "needlewise/kmp/SparseAutomaton" "units" "[C" .null := D22 (Or.inr (wm28 hw)) (ty := (.array .char)) (by decide)
      have F_b22_targets : Fld Z h22 b22 "needlewise/kmp/SparseAutomaton" "targets" "[I" .null := D22 (Or.inr (wm30 hw)) (ty := (.array .int)) (by decide)
      refine Run.st st22 ?_
      show Run p e below s _ _ _ (T22.setTop (mkF m 265 #[z0, z1, z2, z3, z4, z5, .val (.int 1), .val (.int 0), z8, z9, .val (.ref b1), .val (.int u), .val (.ref b6), .val (.int 1), .val (.int 1), .val (.int ex), .unset] [(.ref b22)]))
      refine Run.x_dup (q := 266) X22 hx (hb hby at_265) rfl rfl ?_
      refine Run.x_aload (q := 268) X22 hx (hb hby at_266) rfl rfl rfl ?_
      refine Run.x_iload (q := 270) X22 hx (hb hby at_268) rfl rfl ?_
      replace A_b1 := A_b1.ext E22
      refine Run.callS X22 hx hZ e22 (y := (⟨"needlewise/kmp/SparseAutomatonNextPinLaw", "pattern", "([CI)[C"⟩ : MethodName)) hown (wm10 hw) (wm11 hw) (wm12 hw) (wm13 hw) (by decide) (argsL := [(.ref b1), (.int 1)]) (rest := [(.ref b22), (.ref b22)]) (c_pat1 l Z a0 hw b1 h22 n0 Z22 k0 k1 k2 k3 A_b1 rk0 rk1 rk2 rk3) pd_2 rfl (by rw [hml]; rfl) (W := 2) rfl (by decide) (by decide) (by decide) (by decide) (hb hby at_270) rfl ?_
      intro T23 v23 L23 X23 q23
      obtain ⟨np23, rfl, M23, K23, sz23, An23⟩ := q23
      have N23 := Fr.app N21 M23
      show Run p e below s _ _ _ (T23.setTop (mkF m 273 #[z0, z1, z2, z3, z4, z5, .val (.int 1), .val (.int 0), z8, z9, .val (.ref b1), .val (.int u), .val (.ref b6), .val (.int 1), .val (.int 1), .val (.int ex), .unset] [(.ref np23), (.ref b22), (.ref b22)]))
      have ne_b1_np23 : b1 ≠ np23 := Nat.ne_of_lt (Nat.lt_of_lt_of_le A_b1.lt sz23)
      have ne_b22_np23 : b22 ≠ np23 := Nat.ne_of_lt (Nat.lt_of_lt_of_le E_b22.lt sz23)
      have g_np23 : n0 ≤ np23 := Nat.le_trans Z22 sz23
      have Z23 : n0 ≤ T23.heap.size := Nat.le_trans Z22 K23.1
      replace E_b22 := E_b22.keep K23
      replace F_b22_length := F_b22_length.keep K23 nin0
      replace F_b22_forward := F_b22_forward.keep K23 nin0
      replace F_b22_rows := F_b22_rows.keep K23 nin0
      replace F_b22_units := F_b22_units.keep K23 nin0
      replace F_b22_targets := F_b22_targets.keep K23 nin0
      refine Run.callC X23 hx hZ rfl (y := (⟨"needlewise/kmp/SparseAutomaton", "<init>", "([C)V"⟩ : MethodName)) hown rfl (wm14 hw) (wm15 hw) (wm9 hw) (wm16 hw) (by decide) (a := b22) (argsL := [(.ref np23)]) (rest := [(.ref b22)]) (c_init1 l Z a0 hw b22 np23 T23.heap n0 Z23 k0 E_b22 F_b22_length F_b22_forward F_b22_rows F_b22_units F_b22_targets An23 g_b22 ne_b22_np23 rk0) pd_3 rfl (by rw [hml]; rfl) (W := 1) rfl (by decide) (by decide) (by decide) (by decide) (hb hby at_273) rfl ?_
      intro T24 v24 L24 X24 q24
      obtain ⟨fo24, ro24, uo24, to24, rw24, un24, tg24, rfl, M24, E24, Ffo24, Fro24, Fuo24, Fto24, Afo24, Aro24, Auo24, Ato24, R24_0, R24_1⟩ := q24
      have N24 := Fr.app N23 M24
      show Run p e below s _ _ _ (T24.setTop (mkF m 276 #[z0, z1, z2, z3, z4, z5, .val (.int 1), .val (.int 0), z8, z9, .val (.ref b1), .val (.int u), .val (.ref b6), .val (.int 1), .val (.int 1), .val (.int ex), .unset] [(.ref b22)]))
      have Z24 : n0 ≤ T24.heap.size := Nat.le_trans g_b22 (Nat.le_of_lt E24.lt)
      obtain ⟨aa, dd, za, ze, q1, q2, q3, q4, q5, q6, q7, q8⟩ := R24_0
      refine Run.x_astore (q := 278) X24 hx #[z0, z1, z2, z3, z4, z5, .val (.int 1), .val (.int 0), z8, z9, .val (.ref b1), .val (.int u), .val (.ref b6), .val (.int 1), .val (.int 1), .val (.int ex), .val (.ref b22)] (hb hby at_276) rfl rfl rfl ?_
      refine Run.x_aload (q := 280) X24 hx (hb hby at_278) rfl rfl rfl ?_
      refine Run.x_iload (q := 282) X24 hx (hb hby at_280) rfl rfl ?_
      refine Run.x_iload (q := 284) X24 hx (hb hby at_282) rfl rfl ?_
      refine Run.callVI (q := 287) X24 hx hZ rfl (y := (⟨"needlewise/kmp/SparseAutomaton", "next", "(IC)I"⟩ : MethodName)) (z := (⟨"needlewise/kmp/SparseAutomaton", "next", "(IC)I"⟩ : MethodName)) hown (wm31 hw) (wm32 hw) (notFace_of_selects (args := #[]) (mvT hZ (wm34 hw))) (wm34 hw) (wm33 hw) (wm9 hw) (wm35 hw) (by decide) (a := b22) E24 (argsL := [(.int 0), (.int u)]) (rest := []) (c_next l Z a0 hw b22 (0 : Int32) u T24.heap n0 Z24 fo24 ro24 uo24 to24 [(.int k0), (.int (-1))] (rw24.map Value.int) un24 tg24 0 aa dd k0 za ze (if k0 = u then (1 : Int32) else (0 : Int32)) E24 Ffo24 Fro24 Fuo24 Fto24 Afo24 Aro24 Auo24 Ato24 (by decide) (by decide) rfl q1 q2 q3 q4 q5 q6 q7 (q8 u ru.1)) pd_0 rfl (by rw [hml]; rfl) (W := 0) rfl (by decide) (by decide) (by decide) (by decide) (hb hby at_284) rfl rfl fun T25 L25 X25 M25 e25 => ?_
      have N25 := Fr.app N24 M25
      refine Run.x_iload (q := 289) X25 hx (hb hby at_287) rfl rfl ?_
      refine Run.x_icmpNo (q := 292) X25 hx (hb hby at_289) (teq hex.symm).2 rfl ?_
      refine Run.x_iconst (q := 293) X25 hx (hb hby at_292) (z := (1 : Int32)) rfl rfl ?_
      refine Run.x_goto (q := 297) X25 hx (hb hby at_293) (by decide) (by decide) ?_
      refine Run.retN X25 hx hlk e25 (t := .boolean) hret (by simp) (z' := (1 : Int32)) (by decide) (hb hby at_297) (by decide) (by decide) ?_
      exact ⟨rfl, N25⟩
     refine Run.x_iload (q := 161) X20 hx (hb hby at_159) rfl rfl ?_
     refine Run.x_iconst (q := 162) X20 hx (hb hby at_161) (z := (4 : Int32)) rfl rfl ?_
     refine Run.x_icmpYes (q := 184) X20 hx (hb hby at_162) (tlt (by decide : (1 : Int32) < (4 : Int32))).1 (by decide) (by decide) ?_
     refine Run.x_iload (q := 186) X20 hx (hb hby at_184) rfl rfl ?_
     refine Run.x_iconst (q := 187) X20 hx (hb hby at_186) (z := (3 : Int32)) rfl rfl ?_
     refine Run.x_icmpYes (q := 209) X20 hx (hb hby at_187) (tlt (by decide : (1 : Int32) < (3 : Int32))).1 (by decide) (by decide) ?_
     refine Run.x_iload (q := 211) X20 hx (hb hby at_209) rfl rfl ?_
     refine Run.x_iconst (q := 212) X20 hx (hb hby at_211) (z := (2 : Int32)) rfl rfl ?_
     refine Run.x_icmpYes (q := 234) X20 hx (hb hby at_212) (tlt (by decide : (1 : Int32) < (2 : Int32))).1 (by decide) (by decide) ?_
     refine Run.x_iload (q := 236) X20 hx (hb hby at_234) rfl rfl ?_
     refine Run.x_iconst (q := 237) X20 hx (hb hby at_236) (z := (1 : Int32)) rfl rfl ?_
     refine Run.x_icmpNo (q := 240) X20 hx (hb hby at_237) (flt (by decide : ¬ ((1 : Int32) < (1 : Int32)))).1 rfl ?_
     refine Run.x_aload (q := 242) X20 hx (hb hby at_240) rfl rfl rfl ?_
     refine Run.x_aload (q := 244) X20 hx (hb hby at_242) rfl rfl rfl ?_
     refine Run.x_iload (q := 246) X20 hx (hb hby at_244) rfl rfl ?_
     refine Run.x_iconst (q := 247) X20 hx (hb hby at_246) (z := (1 : Int32)) rfl rfl ?_
     replace A_b1 := ((A_b1.other W10 ne_b1_b6).other W11 ne_b1_b6).other W19 ne_b1_b6
     refine Run.callSI (q := 250) X20 hx hZ e20 (y := (⟨"needlewise/kmp/SparseAutomatonNextPinLaw", "ends", "([C[CII)Z"⟩ : MethodName)) hown (wm36 hw) (wm37 hw) (wm12 hw) (wm38 hw) (by decide) (argsL := [(.ref b1), (.ref b6), (.int 1), (.int 1)]) (rest := []) (c_end_1 l Z a0 hw b1 b6 (1 : Int32) h19 n0 Z19 k0 k1 k2 k3 u 0 [(.int u), (.int k1), (.int k2), (.int k3), (.int 0)] A_b1 A_b6 (by decide) rfl) pd_4 rfl (by rw [hml]; rfl) (W := 0) rfl (by decide) (by decide) (by decide) (by decide) (hb hby at_247) rfl rfl fun T26 L26 X26 M26 e26 => ?_
     have N26 := Fr.app N20 M26
     by_cases hc250 : (own_b (k0 = u)) = (0 : Int32)
     ·skip
      refine Run.x_ifYes (q := 259) X26 hx (hb hby at_250) ((if0 _ _).trans (teq hc250).1) (by decide) (by decide) ?_
      refine Run.x_iconst (q := 260) X26 hx (hb hby at_259) (z := (0 : Int32)) rfl rfl ?_
      refine Run.x_istore (q := 262) X26 hx #[z0, z1, z2, z3, z4, z5, .val (.int 1), .val (.int 0), z8, z9, .val (.ref b1), .val (.int u), .val (.ref b6), .val (.int 1), .val (.int 1), .val (.int 0), .unset] (hb hby at_260) rfl rfl ?_
      exact JX T26 h19 _ _ X26 e26 N26 Z19 A_b1 (Eq.symm (((if_neg (own_beq hc250)).trans rfl)))
     ·skip
      refine Run.x_ifNo (q := 253) X26 hx (hb hby at_250) ((if0 _ _).trans (feq hc250).1) rfl ?_
      refine Run.x_iconst (q := 254) X26 hx (hb hby at_253) (z := (1 : Int32)) rfl rfl ?_
      refine Run.x_istore (q := 256) X26 hx #[z0, z1, z2, z3, z4, z5, .val (.int 1), .val (.int 0), z8, z9, .val (.ref b1), .val (.int u), .val (.ref b6), .val (.int 1), .val (.int 1), .val (.int 1), .unset] (hb hby at_254) rfl rfl ?_
      refine Run.x_goto (q := 262) X26 hx (hb hby at_256) (by decide) (by decide) ?_
      exact JX T26 h19 _ _ X26 e26 N26 Z19 A_b1 (Eq.symm ((if_pos (own_bne hc250))))
    ·skip
     show Run p e below s _ _ _ (T11.setTop (mkF m 137 #[z0, z1, z2, z3, z4, z5, .val (.int 1), .val (.int 1), z8, z9, .val (.ref b1), .val (.int u), .val (.ref b6), .unset, .unset, .unset, .unset] []))
     refine Run.x_aload (q := 139) X11 hx (hb hby at_137) rfl rfl rfl ?_
     refine Run.x_iload (q := 141) X11 hx (hb hby at_139) rfl rfl ?_
     refine Run.x_iload (q := 143) X11 hx (hb hby at_141) rfl rfl ?_
     refine Run.y_stC (q := 144) X11 hx hZ e11 A_b6 (i := 1) (by decide) (Nat.le_of_ble_eq_true rfl) (z' := u) (own_nr ru) (hb hby at_143) rfl fun T27 h27 X27 e27 W27 A27 => ?_
     replace A_b6 : Ars Z h27 b6 .char [(.int k0), (.int u), (.int k2), (.int k3), (.int 0)] := A27
     have N27 := Fr.snoc X27 N11 g_b6
     have Z27 : n0 ≤ h27.size := Nat.le_trans Z11 (Nat.le_of_eq W27.size.symm)
     refine Run.x_iload (q := 146) X27 hx (hb hby at_144) rfl rfl ?_
     refine Run.x_iconst (q := 147) X27 hx (hb hby at_146) (z := (1 : Int32)) rfl rfl ?_
     refine Run.x_iadd (q := 148) X27 hx (hb hby at_147) (z := (2 : Int32)) (by decide) rfl ?_
     refine Run.x_istore (q := 150) X27 hx #[z0, z1, z2, z3, z4, z5, .val (.int 1), .val (.int 1), z8, z9, .val (.ref b1), .val (.int u), .val (.ref b6), .val (.int 2), .unset, .unset, .unset] (hb hby at_148) rfl rfl ?_
     refine Run.x_iload (q := 152) X27 hx (hb hby at_150) rfl rfl ?_
     refine Run.x_iload (q := 154) X27 hx (hb hby at_152) rfl rfl ?_
     refine Run.callSI (q := 157) X27 hx hZ e27 (y := (⟨"java/lang/Math", "min", "(II)I"⟩ : MethodName)) hown (wm3 hw) (wm4 hw) (wm5 hw) (wm6 hw) (by decide) (argsL := [(.int 2), (.int 1)]) (rest := []) (c_min l Z a0 hw (2 : Int32) (1 : Int32) h27 n0 Z27 (1 : Int32) (by decide)) pd_1 rfl (by rw [hml]; rfl) (W := 0) rfl (by decide) (by decide) (by decide) (by decide) (hb hby at_154) rfl rfl fun T28 L28 X28 M28 e28 => ?_
     have N28 := Fr.app N27 M28
     refine Run.x_istore (q := 159) X28 hx #[z0, z1, z2, z3, z4, z5, .val (.int 1), .val (.int 1), z8, z9, .val (.ref b1), .val (.int u), .val (.ref b6), .val (.int 2), .val (.int 1), .unset, .unset] (hb hby at_157) rfl rfl ?_
     have JX : ∀ (T29 : State) (h29 : Heap) (lo29 : List Loc) (ex : Int32), Stand p l e room_1 s m #[(.int p1), (.int p2), (.long p3), (.int p4), (.int p5)] below meth c T29 lo29 2 9 → T29.heap = h29 → Fr n0 lo29 → n0 ≤ h29.size → Ars Z h29 b1 .char [(.int k0), (.int k1), (.int k2), (.int k3)] → (ex = (if k0 = u then (1 : Int32) else (0 : Int32))) → Run p e below s (Tru n0) room_1.cells room_1.slots (T29.setTop (mkF m 262 #[z0, z1, z2, z3, z4, z5, .val (.int 1), .val (.int 1), z8, z9, .val (.ref b1), .val (.int u), .val (.ref b6), .val (.int 2), .val (.int 1), .val (.int ex), .unset] [])) := by
      intro T29 h29 lo29 ex X29 e29 N29 Z29 A_b1 hex
      obtain ⟨T30, h30, X30, e30, E30, A30, D30, -, st30⟩ := newO X29 hx hZ hown (wm7 hw) (wm8 hw) (wm9 hw) e29 (g := (mkF m 262 #[z0, z1, z2, z3, z4, z5, .val (.int 1), .val (.int 1), z8, z9, .val (.ref b1), .val (.int u), .val (.ref b6), .val (.int 2), .val (.int 1), .val (.int ex), .unset] [])) rfl (hb hby at_262) (by decide) (by decide)
      obtain ⟨b30, gg30⟩ : ∃ z, z = h29.size := ⟨_, rfl⟩
      rw [← gg30] at A30 D30 st30
      have g_b30 : n0 ≤ b30 := Nat.le_trans Z29 (Nat.le_of_eq gg30.symm)
      have ne_b1_b30 : b1 ≠ b30 := Nat.ne_of_lt (Nat.lt_of_lt_of_le A_b1.lt (Nat.le_of_eq gg30.symm))
      have Z30 : n0 ≤ h30.size := Nat.le_trans Z29 E30.1
      have E_b30 := A30
      have F_b30_length : Fld Z h30 b30 "needlewise/kmp/SparseAutomaton" "length" "I" (.int 0) := D30 (Or.inr (wm21 hw)) (ty := .int) (by decide)
      have F_b30_forward : Fld Z h30 b30 "needlewise/kmp/SparseAutomaton" "forward" "[I" .null := D30 (Or.inr (wm24 hw)) (ty := (.array .int)) (by decide)
      have F_b30_rows : Fld Z h30 b30 "needlewise/kmp/SparseAutomaton" "rows" "[I" .null := D30 (Or.inr (wm26 hw)) (ty := (.array .int)) (by decide)
      have F_b30_units : Fld Z h30 b30 "needlewise/kmp/SparseAutomaton" "units" "[C" .null := D30 (Or.inr (wm28 hw)) (ty := (.array .char)) (by decide)
      have F_b30_targets : Fld Z h30 b30 "needlewise/kmp/SparseAutomaton" "targets" "[I" .null := D30 (Or.inr (wm30 hw)) (ty := (.array .int)) (by decide)
      refine Run.st st30 ?_
      show Run p e below s _ _ _ (T30.setTop (mkF m 265 #[z0, z1, z2, z3, z4, z5, .val (.int 1), .val (.int 1), z8, z9, .val (.ref b1), .val (.int u), .val (.ref b6), .val (.int 2), .val (.int 1), .val (.int ex), .unset] [(.ref b30)]))
      refine Run.x_dup (q := 266) X30 hx (hb hby at_265) rfl rfl ?_
      refine Run.x_aload (q := 268) X30 hx (hb hby at_266) rfl rfl rfl ?_
      refine Run.x_iload (q := 270) X30 hx (hb hby at_268) rfl rfl ?_
      replace A_b1 := A_b1.ext E30
      refine Run.callS X30 hx hZ e30 (y := (⟨"needlewise/kmp/SparseAutomatonNextPinLaw", "pattern", "([CI)[C"⟩ : MethodName)) hown (wm10 hw) (wm11 hw) (wm12 hw) (wm13 hw) (by decide) (argsL := [(.ref b1), (.int 1)]) (rest := [(.ref b30), (.ref b30)]) (c_pat1 l Z a0 hw b1 h30 n0 Z30 k0 k1 k2 k3 A_b1 rk0 rk1 rk2 rk3) pd_2 rfl (by rw [hml]; rfl) (W := 2) rfl (by decide) (by decide) (by decide) (by decide) (hb hby at_270) rfl ?_
      intro T31 v31 L31 X31 q31
      obtain ⟨np31, rfl, M31, K31, sz31, An31⟩ := q31
      have N31 := Fr.app N29 M31
      show Run p e below s _ _ _ (T31.setTop (mkF m 273 #[z0, z1, z2, z3, z4, z5, .val (.int 1), .val (.int 1), z8, z9, .val (.ref b1), .val (.int u), .val (.ref b6), .val (.int 2), .val (.int 1), .val (.int ex), .unset] [(.ref np31), (.ref b30), (.ref b30)]))
      have ne_b1_np31 : b1 ≠ np31 := Nat.ne_of_lt (Nat.lt_of_lt_of_le A_b1.lt sz31)
      have ne_b30_np31 : b30 ≠ np31 := Nat.ne_of_lt (Nat.lt_of_lt_of_le E_b30.lt sz31)
      have g_np31 : n0 ≤ np31 := Nat.le_trans Z30 sz31
      have Z31 : n0 ≤ T31.heap.size := Nat.le_trans Z30 K31.1
      replace E_b30 := E_b30.keep K31
      replace F_b30_length := F_b30_length.keep K31 nin0
      replace F_b30_forward := F_b30_forward.keep K31 nin0
      replace F_b30_rows := F_b30_rows.keep K31 nin0
      replace F_b30_units := F_b30_units.keep K31 nin0
      replace F_b30_targets := F_b30_targets.keep K31 nin0
      refine Run.callC X31 hx hZ rfl (y := (⟨"needlewise/kmp/SparseAutomaton", "<init>", "([C)V"⟩ : MethodName)) hown rfl (wm14 hw) (wm15 hw) (wm9 hw) (wm16 hw) (by decide) (a := b30) (argsL := [(.ref np31)]) (rest := [(.ref b30)]) (c_init1 l Z a0 hw b30 np31 T31.heap n0 Z31 k0 E_b30 F_b30_length F_b30_forward F_b30_rows F_b30_units F_b30_targets An31 g_b30 ne_b30_np31 rk0) pd_3 rfl (by rw [hml]; rfl) (W := 1) rfl (by decide) (by decide) (by decide) (by decide) (hb hby at_273) rfl ?_
      intro T32 v32 L32 X32 q32
      obtain ⟨fo32, ro32, uo32, to32, rw32, un32, tg32, rfl, M32, E32, Ffo32, Fro32, Fuo32, Fto32, Afo32, Aro32, Auo32, Ato32, R32_0, R32_1⟩ := q32
      have N32 := Fr.app N31 M32
      show Run p e below s _ _ _ (T32.setTop (mkF m 276 #[z0, z1, z2, z3, z4, z5, .val (.int 1), .val (.int 1), z8, z9, .val (.ref b1), .val (.int u), .val (.ref b6), .val (.int 2), .val (.int 1), .val (.int ex), .unset] [(.ref b30)]))
      have Z32 : n0 ≤ T32.heap.size := Nat.le_trans g_b30 (Nat.le_of_lt E32.lt)
      obtain ⟨aa, dd, za, ze, q1, q2, q3, q4, q5, q6, q7, q8⟩ := R32_1
      refine Run.x_astore (q := 278) X32 hx #[z0, z1, z2, z3, z4, z5, .val (.int 1), .val (.int 1), z8, z9, .val (.ref b1), .val (.int u), .val (.ref b6), .val (.int 2), .val (.int 1), .val (.int ex), .val (.ref b30)] (hb hby at_276) rfl rfl rfl ?_
      refine Run.x_aload (q := 280) X32 hx (hb hby at_278) rfl rfl rfl ?_
      refine Run.x_iload (q := 282) X32 hx (hb hby at_280) rfl rfl ?_
      refine Run.x_iload (q := 284) X32 hx (hb hby at_282) rfl rfl ?_
      refine Run.callVI (q := 287) X32 hx hZ rfl (y := (⟨"needlewise/kmp/SparseAutomaton", "next", "(IC)I"⟩ : MethodName)) (z := (⟨"needlewise/kmp/SparseAutomaton", "next", "(IC)I"⟩ : MethodName)) hown (wm31 hw) (wm32 hw) (notFace_of_selects (args := #[]) (mvT hZ (wm34 hw))) (wm34 hw) (wm33 hw) (wm9 hw) (wm35 hw) (by decide) (a := b30) E32 (argsL := [(.int 1), (.int u)]) (rest := []) (c_next l Z a0 hw b30 (1 : Int32) u T32.heap n0 Z32 fo32 ro32 uo32 to32 [(.int k0), (.int (-1))] (rw32.map Value.int) un32 tg32 1 aa dd (-1 : Int32) za ze (if k0 = u then (1 : Int32) else (0 : Int32)) E32 Ffo32 Fro32 Fuo32 Fto32 Afo32 Aro32 Auo32 Ato32 (by decide) (by decide) rfl q1 q2 q3 q4 q5 q6 q7 (q8 u ru.1)) pd_0 rfl (by rw [hml]; rfl) (W := 0) rfl (by decide) (by decide) (by decide) (by decide) (hb hby at_284) rfl rfl fun T33 L33 X33 M33 e33 => ?_
      have N33 := Fr.app N32 M33
      refine Run.x_iload (q := 289) X33 hx (hb hby at_287) rfl rfl ?_
      refine Run.x_icmpNo (q := 292) X33 hx (hb hby at_289) (teq hex.symm).2 rfl ?_
      refine Run.x_iconst (q := 293) X33 hx (hb hby at_292) (z := (1 : Int32)) rfl rfl ?_
      refine Run.x_goto (q := 297) X33 hx (hb hby at_293) (by decide) (by decide) ?_
      refine Run.retN X33 hx hlk e33 (t := .boolean) hret (by simp) (z' := (1 : Int32)) (by decide) (hb hby at_297) (by decide) (by decide) ?_
      exact ⟨rfl, N33⟩
     refine Run.x_iload (q := 161) X28 hx (hb hby at_159) rfl rfl ?_
     refine Run.x_iconst (q := 162) X28 hx (hb hby at_161) (z := (4 : Int32)) rfl rfl ?_
     refine Run.x_icmpYes (q := 184) X28 hx (hb hby at_162) (tlt (by decide : (1 : Int32) < (4 : Int32))).1 (by decide) (by decide) ?_
     refine Run.x_iload (q := 186) X28 hx (hb hby at_184) rfl rfl ?_
     refine Run.x_iconst (q := 187) X28 hx (hb hby at_186) (z := (3 : Int32)) rfl rfl ?_
     refine Run.x_icmpYes (q := 209) X28 hx (hb hby at_187) (tlt (by decide : (1 : Int32) < (3 : Int32))).1 (by decide) (by decide) ?_
     refine Run.x_iload (q := 211) X28 hx (hb hby at_209) rfl rfl ?_
     refine Run.x_iconst (q := 212) X28 hx (hb hby at_211) (z := (2 : Int32)) rfl rfl ?_
     refine Run.x_icmpYes (q := 234) X28 hx (hb hby at_212) (tlt (by decide : (1 : Int32) < (2 : Int32))).1 (by decide) (by decide) ?_
     refine Run.x_iload (q := 236) X28 hx (hb hby at_234) rfl rfl ?_
     refine Run.x_iconst (q := 237) X28 hx (hb hby at_236) (z := (1 : Int32)) rfl rfl ?_
     refine Run.x_icmpNo (q := 240) X28 hx (hb hby at_237) (flt (by decide : ¬ ((1 : Int32) < (1 : Int32)))).1 rfl ?_
     refine Run.x_aload (q := 242) X28 hx (hb hby at_240) rfl rfl rfl ?_
     refine Run.x_aload (q := 244) X28 hx (hb hby at_242) rfl rfl rfl ?_
     refine Run.x_iload (q := 246) X28 hx (hb hby at_244) rfl rfl ?_
     refine Run.x_iconst (q := 247) X28 hx (hb hby at_246) (z := (1 : Int32)) rfl rfl ?_
     replace A_b1 := ((A_b1.other W10 ne_b1_b6).other W11 ne_b1_b6).other W27 ne_b1_b6
     refine Run.callSI (q := 250) X28 hx hZ e28 (y := (⟨"needlewise/kmp/SparseAutomatonNextPinLaw", "ends", "([C[CII)Z"⟩ : MethodName)) hown (wm36 hw) (wm37 hw) (wm12 hw) (wm38 hw) (by decide) (argsL := [(.ref b1), (.ref b6), (.int 2), (.int 1)]) (rest := []) (c_end_1 l Z a0 hw b1 b6 (2 : Int32) h27 n0 Z27 k0 k1 k2 k3 u 1 [(.int k0), (.int u), (.int k2), (.int k3), (.int 0)] A_b1 A_b6 (by decide) rfl) pd_4 rfl (by rw [hml]; rfl) (W := 0) rfl (by decide) (by decide) (by decide) (by decide) (hb hby at_247) rfl rfl fun T34 L34 X34 M34 e34 => ?_
     have N34 := Fr.app N28 M34
     by_cases hc250 : (own_b (k0 = u)) = (0 : Int32)
     ·skip
      refine Run.x_ifYes (q := 259) X34 hx (hb hby at_250) ((if0 _ _).trans (teq hc250).1) (by decide) (by decide) ?_
      refine Run.x_iconst (q := 260) X34 hx (hb hby at_259) (z := (0 : Int32)) rfl rfl ?_
      refine Run.x_istore (q := 262) X34 hx #[z0, z1, z2, z3, z4, z5, .val (.int 1), .val (.int 1), z8, z9, .val (.ref b1), .val (.int u), .val (.ref b6), .val (.int 2), .val (.int 1), .val (.int 0), .unset] (hb hby at_260) rfl rfl ?_
      exact JX T34 h27 _ _ X34 e34 N34 Z27 A_b1 (Eq.symm (((if_neg (own_beq hc250)).trans rfl)))
     ·skip
      refine Run.x_ifNo (q := 253) X34 hx (hb hby at_250) ((if0 _ _).trans (feq hc250).1) rfl ?_
      refine Run.x_iconst (q := 254) X34 hx (hb hby at_253) (z := (1 : Int32)) rfl rfl ?_
      refine Run.x_istore (q := 256) X34 hx #[z0, z1, z2, z3, z4, z5, .val (.int 1), .val (.int 1), z8, z9, .val (.ref b1), .val (.int u), .val (.ref b6), .val (.int 2), .val (.int 1), .val (.int 1), .unset] (hb hby at_254) rfl rfl ?_
      refine Run.x_goto (q := 262) X34 hx (hb hby at_256) (by decide) (by decide) ?_
      exact JX T34 h27 _ _ X34 e34 N34 Z27 A_b1 (Eq.symm ((if_pos (own_bne hc250))))
   ·skip
    show Run p e below s _ _ _ (T11.setTop (mkF m 137 #[z0, z1, z2, z3, z4, z5, .val (.int 2), .val (.int ss), z8, z9, .val (.ref b1), .val (.int u), .val (.ref b6), .unset, .unset, .unset, .unset] []))
    rcases own_s2 hss with rfl | rfl | rfl
    ·skip
     show Run p e below s _ _ _ (T11.setTop (mkF m 137 #[z0, z1, z2, z3, z4, z5, .val (.int 2), .val (.int 0), z8, z9, .val (.ref b1), .val (.int u), .val (.ref b6), .unset, .unset, .unset, .unset] []))
     refine Run.x_aload (q := 139) X11 hx (hb hby at_137) rfl rfl rfl ?_
     refine Run.x_iload (q := 141) X11 hx (hb hby at_139) rfl rfl ?_
     refine Run.x_iload (q := 143) X11 hx (hb hby at_141) rfl rfl ?_
     refine Run.y_stC (q := 144) X11 hx hZ e11 A_b6 (i := 0) (by decide) (Nat.le_of_ble_eq_true rfl) (z' := u) (own_nr ru) (hb hby at_143) rfl fun T35 h35 X35 e35 W35 A35 => ?_
     replace A_b6 : Ars Z h35 b6 .char [(.int u), (.int k1), (.int k2), (.int k3), (.int 0)] := A35
     have N35 := Fr.snoc X35 N11 g_b6
     have Z35 : n0 ≤ h35.size := Nat.le_trans Z11 (Nat.le_of_eq W35.size.symm)
     refine Run.x_iload (q := 146) X35 hx (hb hby at_144) rfl rfl ?_
     refine Run.x_iconst (q := 147) X35 hx (hb hby at_146) (z := (1 : Int32)) rfl rfl ?_
     refine Run.x_iadd (q := 148) X35 hx (hb hby at_147) (z := (1 : Int32)) (by decide) rfl ?_
     refine Run.x_istore (q := 150) X35 hx #[z0, z1, z2, z3, z4, z5, .val (.int 2), .val (.int 0), z8, z9, .val (.ref b1), .val (.int u), .val (.ref b6), .val (.int 1), .unset, .unset, .unset] (hb hby at_148) rfl rfl ?_
     refine Run.x_iload (q := 152) X35 hx (hb hby at_150) rfl rfl ?_
     refine Run.x_iload (q := 154) X35 hx (hb hby at_152) rfl rfl ?_
     refine Run.callSI (q := 157) X35 hx hZ e35 (y := (⟨"java/lang/Math", "min", "(II)I"⟩ : MethodName)) hown (wm3 hw) (wm4 hw) (wm5 hw) (wm6 hw) (by decide) (argsL := [(.int 1), (.int 2)]) (rest := []) (c_min l Z a0 hw (1 : Int32) (2 : Int32) h35 n0 Z35 (1 : Int32) (by decide)) pd_1 rfl (by rw [hml]; rfl) (W := 0) rfl (by decide) (by decide) (by decide) (by decide) (hb hby at_154) rfl rfl fun T36 L36 X36 M36 e36 => ?_
     have N36 := Fr.app N35 M36
     refine Run.x_istore (q := 159) X36 hx #[z0, z1, z2, z3, z4, z5, .val (.int 2), .val (.int 0), z8, z9, .val (.ref b1), .val (.int u), .val (.ref b6), .val (.int 1), .val (.int 1), .unset, .unset] (hb hby at_157) rfl rfl ?_
     have JX : ∀ (T37 : State) (h37 : Heap) (lo37 : List Loc) (ex : Int32), Stand p l e room_1 s m #[(.int p1), (.int p2), (.long p3), (.int p4), (.int p5)] below meth c T37 lo37 2 9 → T37.heap = h37 → Fr n0 lo37 → n0 ≤ h37.size → Ars Z h37 b1 .char [(.int k0), (.int k1), (.int k2), (.int k3)] → (ex = (if k0 = u then (1 : Int32) else (0 : Int32))) → Run p e below s (Tru n0) room_1.cells room_1.slots (T37.setTop (mkF m 262 #[z0, z1, z2, z3, z4, z5, .val (.int 2), .val (.int 0), z8, z9, .val (.ref b1), .val (.int u), .val (.ref b6), .val (.int 1), .val (.int 1), .val (.int ex), .unset] [])) := by
      intro T37 h37 lo37 ex X37 e37 N37 Z37 A_b1 hex
      obtain ⟨T38, h38, X38, e38, E38, A38, D38, -, st38⟩ := newO X37 hx hZ hown (wm7 hw) (wm8 hw) (wm9 hw) e37 (g := (mkF m 262 #[z0, z1, z2, z3, z4, z5, .val (.int 2), .val (.int 0), z8, z9, .val (.ref b1), .val (.int u), .val (.ref b6), .val (.int 1), .val (.int 1), .val (.int ex), .unset] [])) rfl (hb hby at_262) (by decide) (by decide)
      obtain ⟨b38, gg38⟩ : ∃ z, z = h37.size := ⟨_, rfl⟩
      rw [← gg38] at A38 D38 st38
      have g_b38 : n0 ≤ b38 := Nat.le_trans Z37 (Nat.le_of_eq gg38.symm)
      have ne_b1_b38 : b1 ≠ b38 := Nat.ne_of_lt (Nat.lt_of_lt_of_le A_b1.lt (Nat.le_of_eq gg38.symm))
      have Z38 : n0 ≤ h38.size := Nat.le_trans Z37 E38.1
      have E_b38 := A38
      have F_b38_length : Fld Z h38 b38 "needlewise/kmp/SparseAutomaton" "length" "I" (.int 0) := D38 (Or.inr (wm21 hw)) (ty := .int) (by decide)
      have F_b38_forward : Fld Z h38 b38 "needlewise/kmp/SparseAutomaton" "forward" "[I" .null := D38 (Or.inr (wm24 hw)) (ty := (.array .int)) (by decide)
      have F_b38_rows : Fld Z h38 b38 "needlewise/kmp/SparseAutomaton" "rows" "[I" .null := D38 (Or.inr (wm26 hw)) (ty := (.array .int)) (by decide)
      have F_b38_units : Fld Z h38 b38 "needlewise/kmp/SparseAutomaton" "units" "[C" .null := D38 (Or.inr (wm28 hw)) (ty := (.array .char)) (by decide)
      have F_b38_targets : Fld Z h38 b38 "needlewise/kmp/SparseAutomaton" "targets" "[I" .null := D38 (Or.inr (wm30 hw)) (ty := (.array .int)) (by decide)
      refine Run.st st38 ?_
      show Run p e below s _ _ _ (T38.setTop (mkF m 265 #[z0, z1, z2, z3, z4, z5, .val (.int 2), .val (.int 0), z8, z9, .val (.ref b1), .val (.int u), .val (.ref b6), .val (.int 1), .val (.int 1), .val (.int ex), .unset] [(.ref b38)]))
      refine Run.x_dup (q := 266) X38 hx (hb hby at_265) rfl rfl ?_
      refine Run.x_aload (q := 268) X38 hx (hb hby at_266) rfl rfl rfl ?_
      refine Run.x_iload (q := 270) X38 hx (hb hby at_268) rfl rfl ?_
      replace A_b1 := A_b1.ext E38
      refine Run.callS X38 hx hZ e38 (y := (⟨"needlewise/kmp/SparseAutomatonNextPinLaw", "pattern", "([CI)[C"⟩ : MethodName)) hown (wm10 hw) (wm11 hw) (wm12 hw) (wm13 hw) (by decide) (argsL := [(.ref b1), (.int 2)]) (rest := [(.ref b38), (.ref b38)]) (c_pat2 l Z a0 hw b1 h38 n0 Z38 k0 k1 k2 k3 A_b1 rk0 rk1 rk2 rk3) pd_2 rfl (by rw [hml]; rfl) (W := 2) rfl (by decide) (by decide) (by decide) (by decide) (hb hby at_270) rfl ?_
      intro T39 v39 L39 X39 q39
      obtain ⟨np39, rfl, M39, K39, sz39, An39⟩ := q39
      have N39 := Fr.app N37 M39
      show Run p e below s _ _ _ (T39.setTop (mkF m 273 #[z0, z1, z2, z3, z4, z5, .val (.int 2), .val (.int 0), z8, z9, .val (.ref b1), .val (.int u), .val (.ref b6), .val (.int 1), .val (.int 1), .val (.int ex), .unset] [(.ref np39), (.ref b38), (.ref b38)]))
      have ne_b1_np39 : b1 ≠ np39 := Nat.ne_of_lt (Nat.lt_of_lt_of_le A_b1.lt sz39)
      have ne_b38_np39 : b38 ≠ np39 := Nat.ne_of_lt (Nat.lt_of_lt_of_le E_b38.lt sz39)
      have g_np39 : n0 ≤ np39 := Nat.le_trans Z38 sz39
      have Z39 : n0 ≤ T39.heap.size := Nat.le_trans Z38 K39.1
      replace E_b38 := E_b38.keep K39
      replace F_b38_length := F_b38_length.keep K39 nin0
      replace F_b38_forward := F_b38_forward.keep K39 nin0
      replace F_b38_rows := F_b38_rows.keep K39 nin0
      replace F_b38_units := F_b38_units.keep K39 nin0
      replace F_b38_targets := F_b38_targets.keep K39 nin0
      refine Run.callC X39 hx hZ rfl (y := (⟨"needlewise/kmp/SparseAutomaton", "<init>", "([C)V"⟩ : MethodName)) hown rfl (wm14 hw) (wm15 hw) (wm9 hw) (wm16 hw) (by decide) (a := b38) (argsL := [(.ref np39)]) (rest := [(.ref b38)]) (c_init2 l Z a0 hw b38 np39 T39.heap n0 Z39 k0 k1 E_b38 F_b38_length F_b38_forward F_b38_rows F_b38_units F_b38_targets An39 g_b38 ne_b38_np39 rk0 rk1) pd_3 rfl (by rw [hml]; rfl) (W := 1) rfl (by decide) (by decide) (by decide) (by decide) (hb hby at_273) rfl ?_
      intro T40 v40 L40 X40 q40
      obtain ⟨fo40, ro40, uo40, to40, rw40, un40, tg40, rfl, M40, E40, Ffo40, Fro40, Fuo40, Fto40, Afo40, Aro40, Auo40, Ato40, R40_0, R40_1, R40_2⟩ := q40
      have N40 := Fr.app N39 M40
      show Run p e below s _ _ _ (T40.setTop (mkF m 276 #[z0, z1, z2, z3, z4, z5, .val (.int 2), .val (.int 0), z8, z9, .val (.ref b1), .val (.int u), .val (.ref b6), .val (.int 1), .val (.int 1), .val (.int ex), .unset] [(.ref b38)]))
      have Z40 : n0 ≤ T40.heap.size := Nat.le_trans g_b38 (Nat.le_of_lt E40.lt)
      obtain ⟨aa, dd, za, ze, q1, q2, q3, q4, q5, q6, q7, q8⟩ := R40_0
      refine Run.x_astore (q := 278) X40 hx #[z0, z1, z2, z3, z4, z5, .val (.int 2), .val (.int 0), z8, z9, .val (.ref b1), .val (.int u), .val (.ref b6), .val (.int 1), .val (.int 1), .val (.int ex), .val (.ref b38)] (hb hby at_276) rfl rfl rfl ?_
      refine Run.x_aload (q := 280) X40 hx (hb hby at_278) rfl rfl rfl ?_
      refine Run.x_iload (q := 282) X40 hx (hb hby at_280) rfl rfl ?_
      refine Run.x_iload (q := 284) X40 hx (hb hby at_282) rfl rfl ?_
      refine Run.callVI (q := 287) X40 hx hZ rfl (y := (⟨"needlewise/kmp/SparseAutomaton", "next", "(IC)I"⟩ : MethodName)) (z := (⟨"needlewise/kmp/SparseAutomaton", "next", "(IC)I"⟩ : MethodName)) hown (wm31 hw) (wm32 hw) (notFace_of_selects (args := #[]) (mvT hZ (wm34 hw))) (wm34 hw) (wm33 hw) (wm9 hw) (wm35 hw) (by decide) (a := b38) E40 (argsL := [(.int 0), (.int u)]) (rest := []) (c_next l Z a0 hw b38 (0 : Int32) u T40.heap n0 Z40 fo40 ro40 uo40 to40 [(.int k0), (.int k1), (.int (-1))] (rw40.map Value.int) un40 tg40 0 aa dd k0 za ze (if k0 = u then (1 : Int32) else (0 : Int32)) E40 Ffo40 Fro40 Fuo40 Fto40 Afo40 Aro40 Auo40 Ato40 (by decide) (by decide) rfl q1 q2 q3 q4 q5 q6 q7 (q8 u ru.1)) pd_0 rfl (by rw [hml]; rfl) (W := 0) rfl (by decide) (by decide) (by decide) (by decide) (hb hby at_284) rfl rfl fun T41 L41 X41 M41 e41 => ?_
      have N41 := Fr.app N40 M41
      refine Run.x_iload (q := 289) X41 hx (hb hby at_287) rfl rfl ?_
      refine Run.x_icmpNo (q := 292) X41 hx (hb hby at_289) (teq hex.symm).2 rfl ?_
      refine Run.x_iconst (q := 293) X41 hx (hb hby at_292) (z := (1 : Int32)) rfl rfl ?_
      refine Run.x_goto (q := 297) X41 hx (hb hby at_293) (by decide) (by decide) ?_
      refine Run.retN X41 hx hlk e41 (t := .boolean) hret (by simp) (z' := (1 : Int32)) (by decide) (hb hby at_297) (by decide) (by decide) ?_
      exact ⟨rfl, N41⟩
     refine Run.x_iload (q := 161) X36 hx (hb hby at_159) rfl rfl ?_
     refine Run.x_iconst (q := 162) X36 hx (hb hby at_161) (z := (4 : Int32)) rfl rfl ?_
     refine Run.x_icmpYes (q := 184) X36 hx (hb hby at_162) (tlt (by decide : (1 : Int32) < (4 : Int32))).1 (by decide) (by decide) ?_
     refine Run.x_iload (q := 186) X36 hx (hb hby at_184) rfl rfl ?_
     refine Run.x_iconst (q := 187) X36 hx (hb hby at_186) (z := (3 : Int32)) rfl rfl ?_
     refine Run.x_icmpYes (q := 209) X36 hx (hb hby at_187) (tlt (by decide : (1 : Int32) < (3 : Int32))).1 (by decide) (by decide) ?_
     refine Run.x_iload (q := 211) X36 hx (hb hby at_209) rfl rfl ?_
     refine Run.x_iconst (q := 212) X36 hx (hb hby at_211) (z := (2 : Int32)) rfl rfl ?_
     refine Run.x_icmpYes (q := 234) X36 hx (hb hby at_212) (tlt (by decide : (1 : Int32) < (2 : Int32))).1 (by decide) (by decide) ?_
     refine Run.x_iload (q := 236) X36 hx (hb hby at_234) rfl rfl ?_
     refine Run.x_iconst (q := 237) X36 hx (hb hby at_236) (z := (1 : Int32)) rfl rfl ?_
     refine Run.x_icmpNo (q := 240) X36 hx (hb hby at_237) (flt (by decide : ¬ ((1 : Int32) < (1 : Int32)))).1 rfl ?_
     refine Run.x_aload (q := 242) X36 hx (hb hby at_240) rfl rfl rfl ?_
     refine Run.x_aload (q := 244) X36 hx (hb hby at_242) rfl rfl rfl ?_
     refine Run.x_iload (q := 246) X36 hx (hb hby at_244) rfl rfl ?_
     refine Run.x_iconst (q := 247) X36 hx (hb hby at_246) (z := (1 : Int32)) rfl rfl ?_
     replace A_b1 := ((A_b1.other W10 ne_b1_b6).other W11 ne_b1_b6).other W35 ne_b1_b6
     refine Run.callSI (q := 250) X36 hx hZ e36 (y := (⟨"needlewise/kmp/SparseAutomatonNextPinLaw", "ends", "([C[CII)Z"⟩ : MethodName)) hown (wm36 hw) (wm37 hw) (wm12 hw) (wm38 hw) (by decide) (argsL := [(.ref b1), (.ref b6), (.int 1), (.int 1)]) (rest := []) (c_end_1 l Z a0 hw b1 b6 (1 : Int32) h35 n0 Z35 k0 k1 k2 k3 u 0 [(.int u), (.int k1), (.int k2), (.int k3), (.int 0)] A_b1 A_b6 (by decide) rfl) pd_4 rfl (by rw [hml]; rfl) (W := 0) rfl (by decide) (by decide) (by decide) (by decide) (hb hby at_247) rfl rfl fun T42 L42 X42 M42 e42 => ?_
     have N42 := Fr.app N36 M42
     by_cases hc250 : (own_b (k0 = u)) = (0 : Int32)
     ·skip
      refine Run.x_ifYes (q := 259) X42 hx (hb hby at_250) ((if0 _ _).trans (teq hc250).1) (by decide) (by decide) ?_
      refine Run.x_iconst (q := 260) X42 hx (hb hby at_259) (z := (0 : Int32)) rfl rfl ?_
      refine Run.x_istore (q := 262) X42 hx #[z0, z1, z2, z3, z4, z5, .val (.int 2), .val (.int 0), z8, z9, .val (.ref b1), .val (.int u), .val (.ref b6), .val (.int 1), .val (.int 1), .val (.int 0), .unset] (hb hby at_260) rfl rfl ?_
      exact JX T42 h35 _ _ X42 e42 N42 Z35 A_b1 (Eq.symm (((if_neg (own_beq hc250)).trans rfl)))
     ·skip
      refine Run.x_ifNo (q := 253) X42 hx (hb hby at_250) ((if0 _ _).trans (feq hc250).1) rfl ?_
      refine Run.x_iconst (q := 254) X42 hx (hb hby at_253) (z := (1 : Int32)) rfl rfl ?_
      refine Run.x_istore (q := 256) X42 hx #[z0, z1, z2, z3, z4, z5, .val (.int 2), .val (.int 0), z8, z9, .val (.ref b1), .val (.int u), .val (.ref b6), .val (.int 1), .val (.int 1), .val (.int 1), .unset] (hb hby at_254) rfl rfl ?_
      refine Run.x_goto (q := 262) X42 hx (hb hby at_256) (by decide) (by decide) ?_
      exact JX T42 h35 _ _ X42 e42 N42 Z35 A_b1 (Eq.symm ((if_pos (own_bne hc250))))
    ·skip
     show Run p e below s _ _ _ (T11.setTop (mkF m 137 #[z0, z1, z2, z3, z4, z5, .val (.int 2), .val (.int 1), z8, z9, .val (.ref b1), .val (.int u), .val (.ref b6), .unset, .unset, .unset, .unset] []))
     refine Run.x_aload (q := 139) X11 hx (hb hby at_137) rfl rfl rfl ?_
     refine Run.x_iload (q := 141) X11 hx (hb hby at_139) rfl rfl ?_
     refine Run.x_iload (q := 143) X11 hx (hb hby at_141) rfl rfl ?_
     refine Run.y_stC (q := 144) X11 hx hZ e11 A_b6 (i := 1) (by decide) (Nat.le_of_ble_eq_true rfl) (z' := u) (own_nr ru) (hb hby at_143) rfl fun T43 h43 X43 e43 W43 A43 => ?_
     replace A_b6 : Ars Z h43 b6 .char [(.int k0), (.int u), (.int k2), (.int k3), (.int 0)] := A43
     have N43 := Fr.snoc X43 N11 g_b6
     have Z43 : n0 ≤ h43.size := Nat.le_trans Z11 (Nat.le_of_eq W43.size.symm)
     refine Run.x_iload (q := 146) X43 hx (hb hby at_144) rfl rfl ?_
     refine Run.x_iconst (q := 147) X43 hx (hb hby at_146) (z := (1 : Int32)) rfl rfl ?_
     refine Run.x_iadd (q := 148) X43 hx (hb hby at_147) (z := (2 : Int32)) (by decide) rfl ?_
     refine Run.x_istore (q := 150) X43 hx #[z0, z1, z2, z3, z4, z5, .val (.int 2), .val (.int 1), z8, z9, .val (.ref b1), .val (.int u), .val (.ref b6), .val (.int 2), .unset, .unset, .unset] (hb hby at_148) rfl rfl ?_
     refine Run.x_iload (q := 152) X43 hx (hb hby at_150) rfl rfl ?_
     refine Run.x_iload (q := 154) X43 hx (hb hby at_152) rfl rfl ?_
     refine Run.callSI (q := 157) X43 hx hZ e43 (y := (⟨"java/lang/Math", "min", "(II)I"⟩ : MethodName)) hown (wm3 hw) (wm4 hw) (wm5 hw) (wm6 hw) (by decide) (argsL := [(.int 2), (.int 2)]) (rest := []) (c_min l Z a0 hw (2 : Int32) (2 : Int32) h43 n0 Z43 (2 : Int32) (by decide)) pd_1 rfl (by rw [hml]; rfl) (W := 0) rfl (by decide) (by decide) (by decide) (by decide) (hb hby at_154) rfl rfl fun T44 L44 X44 M44 e44 => ?_
     have N44 := Fr.app N43 M44
     refine Run.x_istore (q := 159) X44 hx #[z0, z1, z2, z3, z4, z5, .val (.int 2), .val (.int 1), z8, z9, .val (.ref b1), .val (.int u), .val (.ref b6), .val (.int 2), .val (.int 2), .unset, .unset] (hb hby at_157) rfl rfl ?_
     have JX : ∀ (T45 : State) (h45 : Heap) (lo45 : List Loc) (ex : Int32), Stand p l e room_1 s m #[(.int p1), (.int p2), (.long p3), (.int p4), (.int p5)] below meth c T45 lo45 2 9 → T45.heap = h45 → Fr n0 lo45 → n0 ≤ h45.size → Ars Z h45 b1 .char [(.int k0), (.int k1), (.int k2), (.int k3)] → (ex = (if k0 = k0 ∧ k1 = u then (2 : Int32) else (if k0 = u then (1 : Int32) else (0 : Int32)))) → Run p e below s (Tru n0) room_1.cells room_1.slots (T45.setTop (mkF m 262 #[z0, z1, z2, z3, z4, z5, .val (.int 2), .val (.int 1), z8, z9, .val (.ref b1), .val (.int u), .val (.ref b6), .val (.int 2), .val (.int 2), .val (.int ex), .unset] [])) := by
      intro T45 h45 lo45 ex X45 e45 N45 Z45 A_b1 hex
      obtain ⟨T46, h46, X46, e46, E46, A46, D46, -, st46⟩ := newO X45 hx hZ hown (wm7 hw) (wm8 hw) (wm9 hw) e45 (g := (mkF m 262 #[z0, z1, z2, z3, z4, z5, .val (.int 2), .val (.int 1), z8, z9, .val (.ref b1), .val (.int u), .val (.ref b6), .val (.int 2), .val (.int 2), .val (.int ex), .unset] [])) rfl (hb hby at_262) (by decide) (by decide)
      obtain ⟨b46, gg46⟩ : ∃ z, z = h45.size := ⟨_, rfl⟩
      rw [← gg46] at A46 D46 st46
      have g_b46 : n0 ≤ b46 := Nat.le_trans Z45 (Nat.le_of_eq gg46.symm)
      have ne_b1_b46 : b1 ≠ b46 := Nat.ne_of_lt (Nat.lt_of_lt_of_le A_b1.lt (Nat.le_of_eq gg46.symm))
      have Z46 : n0 ≤ h46.size := Nat.le_trans Z45 E46.1
      have E_b46 := A46
      have F_b46_length : Fld Z h46 b46 "needlewise/kmp/SparseAutomaton" "length" "I" (.int 0) := D46 (Or.inr (wm21 hw)) (ty := .int) (by decide)
      have F_b46_forward : Fld Z h46 b46 "needlewise/kmp/SparseAutomaton" "forward" "[I" .null := D46 (Or.inr (wm24 hw)) (ty := (.array .int)) (by decide)
      have F_b46_rows : Fld Z h46 b46 "needlewise/kmp/SparseAutomaton" "rows" "[I" .null := D46 (Or.inr (wm26 hw)) (ty := (.array .int)) (by decide)
      have F_b46_units : Fld Z h46 b46 "needlewise/kmp/SparseAutomaton" "units" "[C" .null := D46 (Or.inr (wm28 hw)) (ty := (.array .char)) (by decide)
      have F_b46_targets : Fld Z h46 b46 "needlewise/kmp/SparseAutomaton" "targets" "[I" .null := D46 (Or.inr (wm30 hw)) (ty := (.array .int)) (by decide)
      refine Run.st st46 ?_
      show Run p e below s _ _ _ (T46.setTop (mkF m 265 #[z0, z1, z2, z3, z4, z5, .val (.int 2), .val (.int 1), z8, z9, .val (.ref b1), .val (.int u), .val (.ref b6), .val (.int 2), .val (.int 2), .val (.int ex), .unset] [(.ref b46)]))
      refine Run.x_dup (q := 266) X46 hx (hb hby at_265) rfl rfl ?_
      refine Run.x_aload (q := 268) X46 hx (hb hby at_266) rfl rfl rfl ?_
      refine Run.x_iload (q := 270) X46 hx (hb hby at_268) rfl rfl ?_
      replace A_b1 := A_b1.ext E46
      refine Run.callS X46 hx hZ e46 (y := (⟨"needlewise/kmp/SparseAutomatonNextPinLaw", "pattern", "([CI)[C"⟩ : MethodName)) hown (wm10 hw) (wm11 hw) (wm12 hw) (wm13 hw) (by decide) (argsL := [(.ref b1), (.int 2)]) (rest := [(.ref b46), (.ref b46)]) (c_pat2 l Z a0 hw b1 h46 n0 Z46 k0 k1 k2 k3 A_b1 rk0 rk1 rk2 rk3) pd_2 rfl (by rw [hml]; rfl) (W := 2) rfl (by decide) (by decide) (by decide) (by decide) (hb hby at_270) rfl ?_
      intro T47 v47 L47 X47 q47
      obtain ⟨np47, rfl, M47, K47, sz47, An47⟩ := q47
      have N47 := Fr.app N45 M47
      show Run p e below s _ _ _ (T47.setTop (mkF m 273 #[z0, z1, z2, z3, z4, z5, .val (.int 2), .val (.int 1), z8, z9, .val (.ref b1), .val (.int u), .val (.ref b6), .val (.int 2), .val (.int 2), .val (.int ex), .unset] [(.ref np47), (.ref b46), (.ref b46)]))
      have ne_b1_np47 : b1 ≠ np47 := Nat.ne_of_lt (Nat.lt_of_lt_of_le A_b1.lt sz47)
      have ne_b46_np47 : b46 ≠ np47 := Nat.ne_of_lt (Nat.lt_of_lt_of_le E_b46.lt sz47)
      have g_np47 : n0 ≤ np47 := Nat.le_trans Z46 sz47
      have Z47 : n0 ≤ T47.heap.size := Nat.le_trans Z46 K47.1
      replace E_b46 := E_b46.keep K47
      replace F_b46_length := F_b46_length.keep K47 nin0
      replace F_b46_forward := F_b46_forward.keep K47 nin0
      replace F_b46_rows := F_b46_rows.keep K47 nin0
      replace F_b46_units := F_b46_units.keep K47 nin0
      replace F_b46_targets := F_b46_targets.keep K47 nin0
      refine Run.callC X47 hx hZ rfl (y := (⟨"needlewise/kmp/SparseAutomaton", "<init>", "([C)V"⟩ : MethodName)) hown rfl (wm14 hw) (wm15 hw) (wm9 hw) (wm16 hw) (by decide) (a := b46) (argsL := [(.ref np47)]) (rest := [(.ref b46)]) (c_init2 l Z a0 hw b46 np47 T47.heap n0 Z47 k0 k1 E_b46 F_b46_length F_b46_forward F_b46_rows F_b46_units F_b46_targets An47 g_b46 ne_b46_np47 rk0 rk1) pd_3 rfl (by rw [hml]; rfl) (W := 1) rfl (by decide) (by decide) (by decide) (by decide) (hb hby at_273) rfl ?_
      intro T48 v48 L48 X48 q48
      obtain ⟨fo48, ro48, uo48, to48, rw48, un48, tg48, rfl, M48, E48, Ffo48, Fro48, Fuo48, Fto48, Afo48, Aro48, Auo48, Ato48, R48_0, R48_1, R48_2⟩ := q48
      have N48 := Fr.app N47 M48
      show Run p e below s _ _ _ (T48.setTop (mkF m 276 #[z0, z1, z2, z3, z4, z5, .val (.int 2), .val (.int 1), z8, z9, .val (.ref b1), .val (.int u), .val (.ref b6), .val (.int 2), .val (.int 2), .val (.int ex), .unset] [(.ref b46)]))
      have Z48 : n0 ≤ T48.heap.size := Nat.le_trans g_b46 (Nat.le_of_lt E48.lt)
      obtain ⟨aa, dd, za, ze, q1, q2, q3, q4, q5, q6, q7, q8⟩ := R48_1
      refine Run.x_astore (q := 278) X48 hx #[z0, z1, z2, z3, z4, z5, .val (.int 2), .val (.int 1), z8, z9, .val (.ref b1), .val (.int u), .val (.ref b6), .val (.int 2), .val (.int 2), .val (.int ex), .val (.ref b46)] (hb hby at_276) rfl rfl rfl ?_
      refine Run.x_aload (q := 280) X48 hx (hb hby at_278) rfl rfl rfl ?_
      refine Run.x_iload (q := 282) X48 hx (hb hby at_280) rfl rfl ?_
      refine Run.x_iload (q := 284) X48 hx (hb hby at_282) rfl rfl ?_
      refine Run.callVI (q := 287) X48 hx hZ rfl (y := (⟨"needlewise/kmp/SparseAutomaton", "next", "(IC)I"⟩ : MethodName)) (z := (⟨"needlewise/kmp/SparseAutomaton", "next", "(IC)I"⟩ : MethodName)) hown (wm31 hw) (wm32 hw) (notFace_of_selects (args := #[]) (mvT hZ (wm34 hw))) (wm34 hw) (wm33 hw) (wm9 hw) (wm35 hw) (by decide) (a := b46) E48 (argsL := [(.int 1), (.int u)]) (rest := []) (c_next l Z a0 hw b46 (1 : Int32) u T48.heap n0 Z48 fo48 ro48 uo48 to48 [(.int k0), (.int k1), (.int (-1))] (rw48.map Value.int) un48 tg48 1 aa dd k1 za ze (if k0 = k0 ∧ k1 = u then (2 : Int32) else (if k0 = u then (1 : Int32) else (0 : Int32))) E48 Ffo48 Fro48 Fuo48 Fto48 Afo48 Aro48 Auo48 Ato48 (by decide) (by decide) rfl q1 q2 q3 q4 q5 q6 q7 (q8 u ru.1)) pd_0 rfl (by rw [hml]; rfl) (W := 0) rfl (by decide) (by decide) (by decide) (by decide) (hb hby at_284) rfl rfl fun T49 L49 X49 M49 e49 => ?_
      have N49 := Fr.app N48 M49
      refine Run.x_iload (q := 289) X49 hx (hb hby at_287) rfl rfl ?_
      refine Run.x_icmpNo (q := 292) X49 hx (hb hby at_289) (teq hex.symm).2 rfl ?_
      refine Run.x_iconst (q := 293) X49 hx (hb hby at_292) (z := (1 : Int32)) rfl rfl ?_
      refine Run.x_goto (q := 297) X49 hx (hb hby at_293) (by decide) (by decide) ?_
      refine Run.retN X49 hx hlk e49 (t := .boolean) hret (by simp) (z' := (1 : Int32)) (by decide) (hb hby at_297) (by decide) (by decide) ?_
      exact ⟨rfl, N49⟩
     refine Run.x_iload (q := 161) X44 hx (hb hby at_159) rfl rfl ?_
     refine Run.x_iconst (q := 162) X44 hx (hb hby at_161) (z := (4 : Int32)) rfl rfl ?_
     refine Run.x_icmpYes (q := 184) X44 hx (hb hby at_162) (tlt (by decide : (2 : Int32) < (4 : Int32))).1 (by decide) (by decide) ?_
     refine Run.x_iload (q := 186) X44 hx (hb hby at_184) rfl rfl ?_
     refine Run.x_iconst (q := 187) X44 hx (hb hby at_186) (z := (3 : Int32)) rfl rfl ?_
     refine Run.x_icmpYes (q := 209) X44 hx (hb hby at_187) (tlt (by decide : (2 : Int32) < (3 : Int32))).1 (by decide) (by decide) ?_
     refine Run.x_iload (q := 211) X44 hx (hb hby at_209) rfl rfl ?_
     refine Run.x_iconst (q := 212) X44 hx (hb hby at_211) (z := (2 : Int32)) rfl rfl ?_
     refine Run.x_icmpNo (q := 215) X44 hx (hb hby at_212) (flt (by decide : ¬ ((2 : Int32) < (2 : Int32)))).1 rfl ?_
     refine Run.x_aload (q := 217) X44 hx (hb hby at_215) rfl rfl rfl ?_
     refine Run.x_aload (q := 219) X44 hx (hb hby at_217) rfl rfl rfl ?_
     refine Run.x_iload (q := 221) X44 hx (hb hby at_219) rfl rfl ?_
     refine Run.x_iconst (q := 222) X44 hx (hb hby at_221) (z := (2 : Int32)) rfl rfl ?_
     replace A_b1 := ((A_b1.other W10 ne_b1_b6).other W11 ne_b1_b6).other W43 ne_b1_b6
     refine Run.callSI (q := 225) X44 hx hZ e44 (y := (⟨"needlewise/kmp/SparseAutomatonNextPinLaw", "ends", "([C[CII)Z"⟩ : MethodName)) hown (wm36 hw) (wm37 hw) (wm12 hw) (wm38 hw) (by decide) (argsL := [(.ref b1), (.ref b6), (.int 2), (.int 2)]) (rest := []) (c_end_2 l Z a0 hw b1 b6 (2 : Int32) h43 n0 Z43 k0 k1 k2 k3 k0 u 0 1 [(.int k0), (.int u), (.int k2), (.int k3), (.int 0)] A_b1 A_b6 (by decide) (by decide) rfl rfl) pd_4 rfl (by rw [hml]; rfl) (W := 0) rfl (by decide) (by decide) (by decide) (by decide) (hb hby at_222) rfl rfl fun T50 L50 X50 M50 e50 => ?_
     have N50 := Fr.app N44 M50
     by_cases hc225 : (own_b (k0 = k0 ∧ k1 = u)) = (0 : Int32)
     ·skip
      refine Run.x_ifYes (q := 234) X50 hx (hb hby at_225) ((if0 _ _).trans (teq hc225).1) (by decide) (by decide) ?_
      refine Run.x_iload (q := 236) X50 hx (hb hby at_234) rfl rfl ?_
      refine Run.x_iconst (q := 237) X50 hx (hb hby at_236) (z := (1 : Int32)) rfl rfl ?_
      refine Run.x_icmpNo (q := 240) X50 hx (hb hby at_237) (flt (by decide : ¬ ((2 : Int32) < (1 : Int32)))).1 rfl ?_
      refine Run.x_aload (q := 242) X50 hx (hb hby at_240) rfl rfl rfl ?_
      refine Run.x_aload (q := 244) X50 hx (hb hby at_242) rfl rfl rfl ?_
      refine Run.x_iload (q := 246) X50 hx (hb hby at_244) rfl rfl ?_
      refine Run.x_iconst (q := 247) X50 hx (hb hby at_246) (z := (1 : Int32)) rfl rfl ?_
      refine Run.callSI (q := 250) X50 hx hZ e50 (y := (⟨"needlewise/kmp/SparseAutomatonNextPinLaw", "ends", "([C[CII)Z"⟩ : MethodName)) hown (wm36 hw) (wm37 hw) (wm12 hw) (wm38 hw) (by decide) (argsL := [(.ref b1), (.ref b6), (.int 2), (.int 1)]) (rest := []) (c_end_1 l Z a0 hw b1 b6 (2 : Int32) h43 n0 Z43 k0 k1 k2 k3 u 1 [(.int k0), (.int u), (.int k2), (.int k3), (.int 0)] A_b1 A_b6 (by decide) rfl) pd_4 rfl (by rw [hml]; rfl) (W := 0) rfl (by decide) (by decide) (by decide) (by decide) (hb hby at_247) rfl rfl fun T51 L51 X51 M51 e51 => ?_
      have N51 := Fr.app N50 M51
      by_cases hc250 : (own_b (k0 = u)) = (0 : Int32)
      ·skip
       refine Run.x_ifYes (q := 259) X51 hx (hb hby at_250) ((if0 _ _).trans (teq hc250).1) (by decide) (by decide) ?_
       refine Run.x_iconst (q := 260) X51 hx (hb hby at_259) (z := (0 : Int32)) rfl rfl ?_
       refine Run.x_istore (q := 262) X51 hx #[z0, z1, z2, z3, z4, z5, .val (.int 2), .val (.int 1), z8, z9, .val (.ref b1), .val (.int u), .val (.ref b6), .val (.int 2), .val (.int 2), .val (.int 0), .unset] (hb hby at_260) rfl rfl ?_
       exact JX T51 h43 _ _ X51 e51 N51 Z43 A_b1 (Eq.symm (((if_neg (own_beq hc225)).trans ((if_neg (own_beq hc250)).trans rfl))))
      ·skip
       refine Run.x_ifNo (q := 253) X51 hx (hb hby at_250) ((if0 _ _).trans (feq hc250).1) rfl ?_
       refine Run.x_iconst (q := 254) X51 hx (hb hby at_253) (z := (1 : Int32)) rfl rfl ?_
       refine Run.x_istore (q := 256) X51 hx #[z0, z1, z2, z3, z4, z5, .val (.int 2), .val (.int 1), z8, z9, .val (.ref b1), .val (.int u), .val (.ref b6), .val (.int 2), .val (.int 2), .val (.int 1), .unset] (hb hby at_254) rfl rfl ?_
       refine Run.x_goto (q := 262) X51 hx (hb hby at_256) (by decide) (by decide) ?_
       exact JX T51 h43 _ _ X51 e51 N51 Z43 A_b1 (Eq.symm (((if_neg (own_beq hc225)).trans (if_pos (own_bne hc250)))))
     ·skip
      refine Run.x_ifNo (q := 228) X50 hx (hb hby at_225) ((if0 _ _).trans (feq hc225).1) rfl ?_
      refine Run.x_iconst (q := 229) X50 hx (hb hby at_228) (z := (2 : Int32)) rfl rfl ?_
      refine Run.x_istore (q := 231) X50 hx #[z0, z1, z2, z3, z4, z5, .val (.int 2), .val (.int 1), z8, z9, .val (.ref b1), .val (.int u), .val (.ref b6), .val (.int 2), .val (.int 2), .val (.int 2), .unset] (hb hby at_229) rfl rfl ?_
      refine Run.x_goto (q := 262) X50 hx (hb hby at_231) (by decide) (by decide) ?_
      exact JX T50 h43 _ _ X50 e50 N50 Z43 A_b1 (Eq.symm ((if_pos (own_bne hc225))))
    ·skip
     show Run p e below s _ _ _ (T11.setTop (mkF m 137 #[z0, z1, z2, z3, z4, z5, .val (.int 2), .val (.int 2), z8, z9, .val (.ref b1), .val (.int u), .val (.ref b6), .unset, .unset, .unset, .unset] []))
     refine Run.x_aload (q := 139) X11 hx (hb hby at_137) rfl rfl rfl ?_
     refine Run.x_iload (q := 141) X11 hx (hb hby at_139) rfl rfl ?_
     refine Run.x_iload (q := 143) X11 hx (hb hby at_141) rfl rfl ?_
     refine Run.y_stC (q := 144) X11 hx hZ e11 A_b6 (i := 2) (by decide) (Nat.le_of_ble_eq_true rfl) (z' := u) (own_nr ru) (hb hby at_143) rfl fun T52 h52 X52 e52 W52 A52 => ?_
     replace A_b6 : Ars Z h52 b6 .char [(.int k0), (.int k1), (.int u), (.int k3), (.int 0)] := A52
     have N52 := Fr.snoc X52 N11 g_b6
     have Z52 : n0 ≤ h52.size := Nat.le_trans Z11 (Nat.le_of_eq W52.size.symm)
     refine Run.x_iload (q := 146) X52 hx (hb hby at_144) rfl rfl ?_
     refine Run.x_iconst (q := 147) X52 hx (hb hby at_146) (z := (1 : Int32)) rfl rfl ?_
     refine Run.x_iadd (q := 148) X52 hx (hb hby at_147) (z := (3 : Int32)) (by decide) rfl ?_
     refine Run.x_istore (q := 150) X52 hx #[z0, z1, z2, z3, z4, z5, .val (.int 2), .val (.int 2), z8, z9, .val (.ref b1), .val (.int u), .val (.ref b6), .val (.int 3), .unset, .unset, .unset] (hb hby at_148) rfl rfl ?_
     refine Run.x_iload (q := 152) X52 hx (hb hby at_150) rfl rfl ?_
     refine Run.x_iload (q := 154) X52 hx (hb hby at_152) rfl rfl ?_
     refine Run.callSI (q := 157) X52 hx hZ e52 (y := (⟨"java/lang/Math", "min", "(II)I"⟩ : MethodName)) hown (wm3 hw) (wm4 hw) (wm5 hw) (wm6 hw) (by decide) (argsL := [(.int 3), (.int 2)]) (rest := []) (c_min l Z a0 hw (3 : Int32) (2 : Int32) h52 n0 Z52 (2 : Int32) (by decide)) pd_1 rfl (by rw [hml]; rfl) (W := 0) rfl (by decide) (by decide) (by decide) (by decide) (hb hby at_154) rfl rfl fun T53 L53 X53 M53 e53 => ?_
     have N53 := Fr.app N52 M53
     refine Run.x_istore (q := 159) X53 hx #[z0, z1, z2, z3, z4, z5, .val (.int 2), .val (.int 2), z8, z9, .val (.ref b1), .val (.int u), .val (.ref b6), .val (.int 3), .val (.int 2), .unset, .unset] (hb hby at_157) rfl rfl ?_
     have JX : ∀ (T54 : State) (h54 : Heap) (lo54 : List Loc) (ex : Int32), Stand p l e room_1 s m #[(.int p1), (.int p2), (.long p3), (.int p4), (.int p5)] below meth c T54 lo54 2 9 → T54.heap = h54 → Fr n0 lo54 → n0 ≤ h54.size → Ars Z h54 b1 .char [(.int k0), (.int k1), (.int k2), (.int k3)] → (ex = (if k0 = k1 ∧ k1 = u then (2 : Int32) else (if k0 = u then (1 : Int32) else (0 : Int32)))) → Run p e below s (Tru n0) room_1.cells room_1.slots (T54.setTop (mkF m 262 #[z0, z1, z2, z3, z4, z5, .val (.int 2), .val (.int 2), z8, z9, .val (.ref b1), .val (.int u), .val (.ref b6), .val (.int 3), .val (.int 2), .val (.int ex), .unset] [])) := by
      intro T54 h54 lo54 ex X54 e54 N54 Z54 A_b1 hex
      obtain ⟨T55, h55, X55, e55, E55, A55, D55, -, st55⟩ := newO X54 hx hZ hown (wm7 hw) (wm8 hw) (wm9 hw) e54 (g := (mkF m 262 #[z0, z1, z2, z3, z4, z5, .val (.int 2), .val (.int 2), z8, z9, .val (.ref b1), .val (.int u), .val (.ref b6), .val (.int 3), .val (.int 2), .val (.int ex), .unset] [])) rfl (hb hby at_262) (by decide) (by decide)
      obtain ⟨b55, gg55⟩ : ∃ z, z = h54.size := ⟨_, rfl⟩
      rw [← gg55] at A55 D55 st55
      have g_b55 : n0 ≤ b55 := Nat.le_trans Z54 (Nat.le_of_eq gg55.symm)
      have ne_b1_b55 : b1 ≠ b55 := Nat.ne_of_lt (Nat.lt_of_lt_of_le A_b1.lt (Nat.le_of_eq gg55.symm))
      have Z55 : n0 ≤ h55.size := Nat.le_trans Z54 E55.1
      have E_b55 := A55
      have F_b55_length : Fld Z h55 b55 "needlewise/kmp/SparseAutomaton" "length" "I" (.int 0) := D55 (Or.inr (wm21 hw)) (ty := .int) (by decide)
      have F_b55_forward : Fld Z h55 b55 "needlewise/kmp/SparseAutomaton" "forward" "[I" .null := D55 (Or.inr (wm24 hw)) (ty := (.array .int)) (by decide)
      have F_b55_rows : Fld Z h55 b55 "needlewise/kmp/SparseAutomaton" "rows" "[I" .null := D55 (Or.inr (wm26 hw)) (ty := (.array .int)) (by decide)
      have F_b55_units : Fld Z h55 b55 "needlewise/kmp/SparseAutomaton" "units" "[C" .null := D55 (Or.inr (wm28 hw)) (ty := (.array .char)) (by decide)
      have F_b55_targets : Fld Z h55 b55 "needlewise/kmp/SparseAutomaton" "targets" "[I" .null := D55 (Or.inr (wm30 hw)) (ty := (.array .int)) (by decide)
      refine Run.st st55 ?_
      show Run p e below s _ _ _ (T55.setTop (mkF m 265 #[z0, z1, z2, z3, z4, z5, .val (.int 2), .val (.int 2), z8, z9, .val (.ref b1), .val (.int u), .val (.ref b6), .val (.int 3), .val (.int 2), .val (.int ex), .unset] [(.ref b55)]))
      refine Run.x_dup (q := 266) X55 hx (hb hby at_265) rfl rfl ?_
      refine Run.x_aload (q := 268) X55 hx (hb hby at_266) rfl rfl rfl ?_
      refine Run.x_iload (q := 270) X55 hx (hb hby at_268) rfl rfl ?_
      replace A_b1 := A_b1.ext E55
      refine Run.callS X55 hx hZ e55 (y := (⟨"needlewise/kmp/SparseAutomatonNextPinLaw", "pattern", "([CI)[C"⟩ : MethodName)) hown (wm10 hw) (wm11 hw) (wm12 hw) (wm13 hw) (by decide) (argsL := [(.ref b1), (.int 2)]) (rest := [(.ref b55), (.ref b55)]) (c_pat2 l Z a0 hw b1 h55 n0 Z55 k0 k1 k2 k3 A_b1 rk0 rk1 rk2 rk3) pd_2 rfl (by rw [hml]; rfl) (W := 2) rfl (by decide) (by decide) (by decide) (by decide) (hb hby at_270) rfl ?_
      intro T56 v56 L56 X56 q56
      obtain ⟨np56, rfl, M56, K56, sz56, An56⟩ := q56
      have N56 := Fr.app N54 M56
      show Run p e below s _ _ _ (T56.setTop (mkF m 273 #[z0, z1, z2, z3, z4, z5, .val (.int 2), .val (.int 2), z8, z9, .val (.ref b1), .val (.int u), .val (.ref b6), .val (.int 3), .val (.int 2), .val (.int ex), .unset] [(.ref np56), (.ref b55), (.ref b55)]))
      have ne_b1_np56 : b1 ≠ np56 := Nat.ne_of_lt (Nat.lt_of_lt_of_le A_b1.lt sz56)
      have ne_b55_np56 : b55 ≠ np56 := Nat.ne_of_lt (Nat.lt_of_lt_of_le E_b55.lt sz56)
      have g_np56 : n0 ≤ np56 := Nat.le_trans Z55 sz56
      have Z56 : n0 ≤ T56.heap.size := Nat.le_trans Z55 K56.1
      replace E_b55 := E_b55.keep K56
      replace F_b55_length := F_b55_length.keep K56 nin0
      replace F_b55_forward := F_b55_forward.keep K56 nin0
      replace F_b55_rows := F_b55_rows.keep K56 nin0
      replace F_b55_units := F_b55_units.keep K56 nin0
      replace F_b55_targets := F_b55_targets.keep K56 nin0
      refine Run.callC X56 hx hZ rfl (y := (⟨"needlewise/kmp/SparseAutomaton", "<init>", "([C)V"⟩ : MethodName)) hown rfl (wm14 hw) (wm15 hw) (wm9 hw) (wm16 hw) (by decide) (a := b55) (argsL := [(.ref np56)]) (rest := [(.ref b55)]) (c_init2 l Z a0 hw b55 np56 T56.heap n0 Z56 k0 k1 E_b55 F_b55_length F_b55_forward F_b55_rows F_b55_units F_b55_targets An56 g_b55 ne_b55_np56 rk0 rk1) pd_3 rfl (by rw [hml]; rfl) (W := 1) rfl (by decide) (by decide) (by decide) (by decide) (hb hby at_273) rfl ?_
      intro T57 v57 L57 X57 q57
      obtain ⟨fo57, ro57, uo57, to57, rw57, un57, tg57, rfl, M57, E57, Ffo57, Fro57, Fuo57, Fto57, Afo57, Aro57, Auo57, Ato57, R57_0, R57_1, R57_2⟩ := q57
      have N57 := Fr.app N56 M57
      show Run p e below s _ _ _ (T57.setTop (mkF m 276 #[z0, z1, z2, z3, z4, z5, .val (.int 2), .val (.int 2), z8, z9, .val (.ref b1), .val (.int u), .val (.ref b6), .val (.int 3), .val (.int 2), .val (.int ex), .unset] [(.ref b55)]))
      have Z57 : n0 ≤ T57.heap.size := Nat.le_trans g_b55 (Nat.le_of_lt E57.lt)
      obtain ⟨aa, dd, za, ze, q1, q2, q3, q4, q5, q6, q7, q8⟩ := R57_2
      refine Run.x_astore (q := 278) X57 hx #[z0, z1, z2, z3, z4, z5, .val (.int 2), .val (.int 2), z8, z9, .val (.ref b1), .val (.int u), .val (.ref b6), .val (.int 3), .val (.int 2), .val (.int ex), .val (.ref b55)] (hb hby at_276) rfl rfl rfl ?_
      refine Run.x_aload (q := 280) X57 hx (hb hby at_278) rfl rfl rfl ?_
      refine Run.x_iload (q := 282) X57 hx (hb hby at_280) rfl rfl ?_
      refine Run.x_iload (q := 284) X57 hx (hb hby at_282) rfl rfl ?_
      refine Run.callVI (q := 287) X57 hx hZ rfl (y := (⟨"needlewise/kmp/SparseAutomaton", "next", "(IC)I"⟩ : MethodName)) (z := (⟨"needlewise/kmp/SparseAutomaton", "next", "(IC)I"⟩ : MethodName)) hown (wm31 hw) (wm32 hw) (notFace_of_selects (args := #[]) (mvT hZ (wm34 hw))) (wm34 hw) (wm33 hw) (wm9 hw) (wm35 hw) (by decide) (a := b55) E57 (argsL := [(.int 2), (.int u)]) (rest := []) (c_next l Z a0 hw b55 (2 : Int32) u T57.heap n0 Z57 fo57 ro57 uo57 to57 [(.int k0), (.int k1), (.int (-1))] (rw57.map Value.int) un57 tg57 2 aa dd (-1 : Int32) za ze (if k0 = k1 ∧ k1 = u then (2 : Int32) else (if k0 = u then (1 : Int32) else (0 : Int32))) E57 Ffo57 Fro57 Fuo57 Fto57 Afo57 Aro57 Auo57 Ato57 (by decide) (by decide) rfl q1 q2 q3 q4 q5 q6 q7 (q8 u ru.1)) pd_0 rfl (by rw [hml]; rfl) (W := 0) rfl (by decide) (by decide) (by decide) (by decide) (hb hby at_284) rfl rfl fun T58 L58 X58 M58 e58 => ?_
      have N58 := Fr.app N57 M58
      refine Run.x_iload (q := 289) X58 hx (hb hby at_287) rfl rfl ?_
      refine Run.x_icmpNo (q := 292) X58 hx (hb hby at_289) (teq hex.symm).2 rfl ?_
      refine Run.x_iconst (q := 293) X58 hx (hb hby at_292) (z := (1 : Int32)) rfl rfl ?_
      refine Run.x_goto (q := 297) X58 hx (hb hby at_293) (by decide) (by decide) ?_
      refine Run.retN X58 hx hlk e58 (t := .boolean) hret (by simp) (z' := (1 : Int32)) (by decide) (hb hby at_297) (by decide) (by decide) ?_
      exact ⟨rfl, N58⟩
     refine Run.x_iload (q := 161) X53 hx (hb hby at_159) rfl rfl ?_
     refine Run.x_iconst (q := 162) X53 hx (hb hby at_161) (z := (4 : Int32)) rfl rfl ?_
     refine Run.x_icmpYes (q := 184) X53 hx (hb hby at_162) (tlt (by decide : (2 : Int32) < (4 : Int32))).1 (by decide) (by decide) ?_
     refine Run.x_iload (q := 186) X53 hx (hb hby at_184) rfl rfl ?_
     refine Run.x_iconst (q := 187) X53 hx (hb hby at_186) (z := (3 : Int32)) rfl rfl ?_
     refine Run.x_icmpYes (q := 209) X53 hx (hb hby at_187) (tlt (by decide : (2 : Int32) < (3 : Int32))).1 (by decide) (by decide) ?_
     refine Run.x_iload (q := 211) X53 hx (hb hby at_209) rfl rfl ?_
     refine Run.x_iconst (q := 212) X53 hx (hb hby at_211) (z := (2 : Int32)) rfl rfl ?_
     refine Run.x_icmpNo (q := 215) X53 hx (hb hby at_212) (flt (by decide : ¬ ((2 : Int32) < (2 : Int32)))).1 rfl ?_
     refine Run.x_aload (q := 217) X53 hx (hb hby at_215) rfl rfl rfl ?_
     refine Run.x_aload (q := 219) X53 hx (hb hby at_217) rfl rfl rfl ?_
     refine Run.x_iload (q := 221) X53 hx (hb hby at_219) rfl rfl ?_
     refine Run.x_iconst (q := 222) X53 hx (hb hby at_221) (z := (2 : Int32)) rfl rfl ?_
     replace A_b1 := ((A_b1.other W10 ne_b1_b6).other W11 ne_b1_b6).other W52 ne_b1_b6
     refine Run.callSI (q := 225) X53 hx hZ e53 (y := (⟨"needlewise/kmp/SparseAutomatonNextPinLaw", "ends", "([C[CII)Z"⟩ : MethodName)) hown (wm36 hw) (wm37 hw) (wm12 hw) (wm38 hw) (by decide) (argsL := [(.ref b1), (.ref b6), (.int 3), (.int 2)]) (rest := []) (c_end_2 l Z a0 hw b1 b6 (3 : Int32) h52 n0 Z52 k0 k1 k2 k3 k1 u 1 2 [(.int k0), (.int k1), (.int u), (.int k3), (.int 0)] A_b1 A_b6 (by decide) (by decide) rfl rfl) pd_4 rfl (by rw [hml]; rfl) (W := 0) rfl (by decide) (by decide) (by decide) (by decide) (hb hby at_222) rfl rfl fun T59 L59 X59 M59 e59 => ?_
     have N59 := Fr.app N53 M59
     by_cases hc225 : (own_b (k0 = k1 ∧ k1 = u)) = (0 : Int32)
     ·skip
      refine Run.x_ifYes (q := 234) X59 hx (hb hby at_225) ((if0 _ _).trans (teq hc225).1) (by decide) (by decide) ?_
      refine Run.x_iload (q := 236) X59 hx (hb hby at_234) rfl rfl ?_
      refine Run.x_iconst (q := 237) X59 hx (hb hby at_236) (z := (1 : Int32)) rfl rfl ?_
      refine Run.x_icmpNo (q := 240) X59 hx (hb hby at_237) (flt (by decide : ¬ ((2 : Int32) < (1 : Int32)))).1 rfl ?_
      refine Run.x_aload (q := 242) X59 hx (hb hby at_240) rfl rfl rfl ?_
      refine Run.x_aload (q := 244) X59 hx (hb hby at_242) rfl rfl rfl ?_
      refine Run.x_iload (q := 246) X59 hx (hb hby at_244) rfl rfl ?_
      refine Run.x_iconst (q := 247) X59 hx (hb hby at_246) (z := (1 : Int32)) rfl rfl ?_
      refine Run.callSI (q := 250) X59 hx hZ e59 (y := (⟨"needlewise/kmp/SparseAutomatonNextPinLaw", "ends", "([C[CII)Z"⟩ : MethodName)) hown (wm36 hw) (wm37 hw) (wm12 hw) (wm38 hw) (by decide) (argsL := [(.ref b1), (.ref b6), (.int 3), (.int 1)]) (rest := []) (c_end_1 l Z a0 hw b1 b6 (3 : Int32) h52 n0 Z52 k0 k1 k2 k3 u 2 [(.int k0), (.int k1), (.int u), (.int k3), (.int 0)] A_b1 A_b6 (by decide) rfl) pd_4 rfl (by rw [hml]; rfl) (W := 0) rfl (by decide) (by decide) (by decide) (by decide) (hb hby at_247) rfl rfl fun T60 L60 X60 M60 e60 => ?_
      have N60 := Fr.app N59 M60
      by_cases hc250 : (own_b (k0 = u)) = (0 : Int32)
      ·skip
       refine Run.x_ifYes (q := 259) X60 hx (hb hby at_250) ((if0 _ _).trans (teq hc250).1) (by decide) (by decide) ?_
       refine Run.x_iconst (q := 260) X60 hx (hb hby at_259) (z := (0 : Int32)) rfl rfl ?_
       refine Run.x_istore (q := 262) X60 hx #[z0, z1, z2, z3, z4, z5, .val (.int 2), .val (.int 2), z8, z9, .val (.ref b1), .val (.int u), .val (.ref b6), .val (.int 3), .val (.int 2), .val (.int 0), .unset] (hb hby at_260) rfl rfl ?_
       exact JX T60 h52 _ _ X60 e60 N60 Z52 A_b1 (Eq.symm (((if_neg (own_beq hc225)).trans ((if_neg (own_beq hc250)).trans rfl))))
      ·skip
       refine Run.x_ifNo (q := 253) X60 hx (hb hby at_250) ((if0 _ _).trans (feq hc250).1) rfl ?_
       refine Run.x_iconst (q := 254) X60 hx (hb hby at_253) (z := (1 : Int32)) rfl rfl ?_
       refine Run.x_istore (q := 256) X60 hx #[z0, z1, z2, z3, z4, z5, .val (.int 2), .val (.int 2), z8, z9, .val (.ref b1), .val (.int u), .val (.ref b6), .val (.int 3), .val (.int 2), .val (.int 1), .unset] (hb hby at_254) rfl rfl ?_
       refine Run.x_goto (q := 262) X60 hx (hb hby at_256) (by decide) (by decide) ?_
       exact JX T60 h52 _ _ X60 e60 N60 Z52 A_b1 (Eq.symm (((if_neg (own_beq hc225)).trans (if_pos (own_bne hc250)))))
     ·skip
      refine Run.x_ifNo (q := 228) X59 hx (hb hby at_225) ((if0 _ _).trans (feq hc225).1) rfl ?_
      refine Run.x_iconst (q := 229) X59 hx (hb hby at_228) (z := (2 : Int32)) rfl rfl ?_
      refine Run.x_istore (q := 231) X59 hx #[z0, z1, z2, z3, z4, z5, .val (.int 2), .val (.int 2), z8, z9, .val (.ref b1), .val (.int u), .val (.ref b6), .val (.int 3), .val (.int 2), .val (.int 2), .unset] (hb hby at_229) rfl rfl ?_
      refine Run.x_goto (q := 262) X59 hx (hb hby at_231) (by decide) (by decide) ?_
      exact JX T59 h52 _ _ X59 e59 N59 Z52 A_b1 (Eq.symm ((if_pos (own_bne hc225))))
   ·skip
    show Run p e below s _ _ _ (T11.setTop (mkF m 137 #[z0, z1, z2, z3, z4, z5, .val (.int 3), .val (.int ss), z8, z9, .val (.ref b1), .val (.int u), .val (.ref b6), .unset, .unset, .unset, .unset] []))
    rcases own_s3 hss with rfl | rfl | rfl | rfl
    ·skip
     show Run p e below s _ _ _ (T11.setTop (mkF m 137 #[z0, z1, z2, z3, z4, z5, .val (.int 3), .val (.int 0), z8, z9, .val (.ref b1), .val (.int u), .val (.ref b6), .unset, .unset, .unset, .unset] []))
     refine Run.x_aload (q := 139) X11 hx (hb hby at_137) rfl rfl rfl ?_
     refine Run.x_iload (q := 141) X11 hx (hb hby at_139) rfl rfl ?_
     refine Run.x_iload (q := 143) X11 hx (hb hby at_141) rfl rfl ?_
     refine Run.y_stC (q := 144) X11 hx hZ e11 A_b6 (i := 0) (by decide) (Nat.le_of_ble_eq_true rfl) (z' := u) (own_nr ru) (hb hby at_143) rfl fun T61 h61 X61 e61 W61 A61 => ?_
     replace A_b6 : Ars Z h61 b6 .char [(.int u), (.int k1), (.int k2), (.int k3), (.int 0)] := A61
     have N61 := Fr.snoc X61 N11 g_b6
     have Z61 : n0 ≤ h61.size := Nat.le_trans Z11 (Nat.le_of_eq W61.size.symm)
     refine Run.x_iload (q := 146) X61 hx (hb hby at_144) rfl rfl ?_
     refine Run.x_iconst (q := 147) X61 hx (hb hby at_146) (z := (1 : Int32)) rfl rfl ?_
     refine Run.x_iadd (q := 148) X61 hx (hb hby at_147) (z := (1 : Int32)) (by decide) rfl ?_
     refine Run.x_istore (q := 150) X61 hx #[z0, z1, z2, z3, z4, z5, .val (.int 3), .val (.int 0), z8, z9, .val (.ref b1), .val (.int u), .val (.ref b6), .val (.int 1), .unset, .unset, .unset] (hb hby at_148) rfl rfl ?_
     refine Run.x_iload (q := 152) X61 hx (hb hby at_150) rfl rfl ?_
     refine Run.x_iload (q := 154) X61 hx (hb hby at_152) rfl rfl ?_
     refine Run.callSI (q := 157) X61 hx hZ e61 (y := (⟨"java/lang/Math", "min", "(II)I"⟩ : MethodName)) hown (wm3 hw) (wm4 hw) (wm5 hw) (wm6 hw) (by decide) (argsL := [(.int 1), (.int 3)]) (rest := []) (c_min l Z a0 hw (1 : Int32) (3 : Int32) h61 n0 Z61 (1 : Int32) (by decide)) pd_1 rfl (by rw [hml]; rfl) (W := 0) rfl (by decide) (by decide) (by decide) (by decide) (hb hby at_154) rfl rfl fun T62 L62 X62 M62 e62 => ?_
     have N62 := Fr.app N61 M62
     refine Run.x_istore (q := 159) X62 hx #[z0, z1, z2, z3, z4, z5, .val (.int 3), .val (.int 0), z8, z9, .val (.ref b1), .val (.int u), .val (.ref b6), .val (.int 1), .val (.int 1), .unset, .unset] (hb hby at_157) rfl rfl ?_
     have JX : ∀ (T63 : State) (h63 : Heap) (lo63 : List Loc) (ex : Int32), Stand p l e room_1 s m #[(.int p1), (.int p2), (.long p3), (.int p4), (.int p5)] below meth c T63 lo63 2 9 → T63.heap = h63 → Fr n0 lo63 → n0 ≤ h63.size → Ars Z h63 b1 .char [(.int k0), (.int k1), (.int k2), (.int k3)] → (ex = (if k0 = u then (1 : Int32) else (0 : Int32))) → Run p e below s (Tru n0) room_1.cells room_1.slots (T63.setTop (mkF m 262 #[z0, z1, z2, z3, z4, z5, .val (.int 3), .val (.int 0), z8, z9, .val (.ref b1), .val (.int u), .val (.ref b6), .val (.int 1), .val (.int 1), .val (.int ex), .unset] [])) := by
      intro T63 h63 lo63 ex X63 e63 N63 Z63 A_b1 hex
      obtain ⟨T64, h64, X64, e64, E64, A64, D64, -, st64⟩ := newO X63 hx hZ hown (wm7 hw) (wm8 hw) (wm9 hw) e63 (g := (mkF m 262 #[z0, z1, z2, z3, z4, z5, .val (.int 3), .val (.int 0), z8, z9, .val (.ref b1), .val (.int u), .val (.ref b6), .val (.int 1), .val (.int 1), .val (.int ex), .unset] [])) rfl (hb hby at_262) (by decide) (by decide)
      obtain ⟨b64, gg64⟩ : ∃ z, z = h63.size := ⟨_, rfl⟩
      rw [← gg64] at A64 D64 st64
      have g_b64 : n0 ≤ b64 := Nat.le_trans Z63 (Nat.le_of_eq gg64.symm)
      have ne_b1_b64 : b1 ≠ b64 := Nat.ne_of_lt (Nat.lt_of_lt_of_le A_b1.lt (Nat.le_of_eq gg64.symm))
      have Z64 : n0 ≤ h64.size := Nat.le_trans Z63 E64.1
      have E_b64 := A64
      have F_b64_length : Fld Z h64 b64 "needlewise/kmp/SparseAutomaton" "length" "I" (.int 0) := D64 (Or.inr (wm21 hw)) (ty := .int) (by decide)
      have F_b64_forward : Fld Z h64 b64 "needlewise/kmp/SparseAutomaton" "forward" "[I" .null := D64 (Or.inr (wm24 hw)) (ty := (.array .int)) (by decide)
      have F_b64_rows : Fld Z h64 b64 "needlewise/kmp/SparseAutomaton" "rows" "[I" .null := D64 (Or.inr (wm26 hw)) (ty := (.array .int)) (by decide)
      have F_b64_units : Fld Z h64 b64 "needlewise/kmp/SparseAutomaton" "units" "[C" .null := D64 (Or.inr (wm28 hw)) (ty := (.array .char)) (by decide)
      have F_b64_targets : Fld Z h64 b64 "needlewise/kmp/SparseAutomaton" "targets" "[I" .null := D64 (Or.inr (wm30 hw)) (ty := (.array .int)) (by decide)
      refine Run.st st64 ?_
      show Run p e below s _ _ _ (T64.setTop (mkF m 265 #[z0, z1, z2, z3, z4, z5, .val (.int 3), .val (.int 0), z8, z9, .val (.ref b1), .val (.int u), .val (.ref b6), .val (.int 1), .val (.int 1), .val (.int ex), .unset] [(.ref b64)]))
      refine Run.x_dup (q := 266) X64 hx (hb hby at_265) rfl rfl ?_
      refine Run.x_aload (q := 268) X64 hx (hb hby at_266) rfl rfl rfl ?_
      refine Run.x_iload (q := 270) X64 hx (hb hby at_268) rfl rfl ?_
      replace A_b1 := A_b1.ext E64
      refine Run.callS X64 hx hZ e64 (y := (⟨"needlewise/kmp/SparseAutomatonNextPinLaw", "pattern", "([CI)[C"⟩ : MethodName)) hown (wm10 hw) (wm11 hw) (wm12 hw) (wm13 hw) (by decide) (argsL := [(.ref b1), (.int 3)]) (rest := [(.ref b64), (.ref b64)]) (c_pat3 l Z a0 hw b1 h64 n0 Z64 k0 k1 k2 k3 A_b1 rk0 rk1 rk2 rk3) pd_2 rfl (by rw [hml]; rfl) (W := 2) rfl (by decide) (by decide) (by decide) (by decide) (hb hby at_270) rfl ?_
      intro T65 v65 L65 X65 q65
      obtain ⟨np65, rfl, M65, K65, sz65, An65⟩ := q65
      have N65 := Fr.app N63 M65
      show Run p e below s _ _ _ (T65.setTop (mkF m 273 #[z0, z1, z2, z3, z4, z5, .val (.int 3), .val (.int 0), z8, z9, .val (.ref b1), .val (.int u), .val (.ref b6), .val (.int 1), .val (.int 1), .val (.int ex), .unset] [(.ref np65), (.ref b64), (.ref b64)]))
      have ne_b1_np65 : b1 ≠ np65 := Nat.ne_of_lt (Nat.lt_of_lt_of_le A_b1.lt sz65)
      have ne_b64_np65 : b64 ≠ np65 := Nat.ne_of_lt (Nat.lt_of_lt_of_le E_b64.lt sz65)
      have g_np65 : n0 ≤ np65 := Nat.le_trans Z64 sz65
      have Z65 : n0 ≤ T65.heap.size := Nat.le_trans Z64 K65.1
      replace E_b64 := E_b64.keep K65
      replace F_b64_length := F_b64_length.keep K65 nin0
      replace F_b64_forward := F_b64_forward.keep K65 nin0
      replace F_b64_rows := F_b64_rows.keep K65 nin0
      replace F_b64_units := F_b64_units.keep K65 nin0
      replace F_b64_targets := F_b64_targets.keep K65 nin0
      refine Run.callC X65 hx hZ rfl (y := (⟨"needlewise/kmp/SparseAutomaton", "<init>", "([C)V"⟩ : MethodName)) hown rfl (wm14 hw) (wm15 hw) (wm9 hw) (wm16 hw) (by decide) (a := b64) (argsL := [(.ref np65)]) (rest := [(.ref b64)]) (c_init3 l Z a0 hw b64 np65 T65.heap n0 Z65 k0 k1 k2 E_b64 F_b64_length F_b64_forward F_b64_rows F_b64_units F_b64_targets An65 g_b64 ne_b64_np65 rk0 rk1 rk2) pd_3 rfl (by rw [hml]; rfl) (W := 1) rfl (by decide) (by decide) (by decide) (by decide) (hb hby at_273) rfl ?_
      intro T66 v66 L66 X66 q66
      obtain ⟨fo66, ro66, uo66, to66, rw66, un66, tg66, rfl, M66, E66, Ffo66, Fro66, Fuo66, Fto66, Afo66, Aro66, Auo66, Ato66, R66_0, R66_1, R66_2, R66_3⟩ := q66
      have N66 := Fr.app N65 M66
      show Run p e below s _ _ _ (T66.setTop (mkF m 276 #[z0, z1, z2, z3, z4, z5, .val (.int 3), .val (.int 0), z8, z9, .val (.ref b1), .val (.int u), .val (.ref b6), .val (.int 1), .val (.int 1), .val (.int ex), .unset] [(.ref b64)]))
      have Z66 : n0 ≤ T66.heap.size := Nat.le_trans g_b64 (Nat.le_of_lt E66.lt)
      obtain ⟨aa, dd, za, ze, q1, q2, q3, q4, q5, q6, q7, q8⟩ := R66_0
      refine Run.x_astore (q := 278) X66 hx #[z0, z1, z2, z3, z4, z5, .val (.int 3), .val (.int 0), z8, z9, .val (.ref b1), .val (.int u), .val (.ref b6), .val (.int 1), .val (.int 1), .val (.int ex), .val (.ref b64)] (hb hby at_276) rfl rfl rfl ?_
      refine Run.x_aload (q := 280) X66 hx (hb hby at_278) rfl rfl rfl ?_
      refine Run.x_iload (q := 282) X66 hx (hb hby at_280) rfl rfl ?_
      refine Run.x_iload (q := 284) X66 hx (hb hby at_282) rfl rfl ?_
      refine Run.callVI (q := 287) X66 hx hZ rfl (y := (⟨"needlewise/kmp/SparseAutomaton", "next", "(IC)I"⟩ : MethodName)) (z := (⟨"needlewise/kmp/SparseAutomaton", "next", "(IC)I"⟩ : MethodName)) hown (wm31 hw) (wm32 hw) (notFace_of_selects (args := #[]) (mvT hZ (wm34 hw))) (wm34 hw) (wm33 hw) (wm9 hw) (wm35 hw) (by decide) (a := b64) E66 (argsL := [(.int 0), (.int u)]) (rest := []) (c_next l Z a0 hw b64 (0 : Int32) u T66.heap n0 Z66 fo66 ro66 uo66 to66 [(.int k0), (.int k1), (.int k2), (.int (-1))] (rw66.map Value.int) un66 tg66 0 aa dd k0 za ze (if k0 = u then (1 : Int32) else (0 : Int32)) E66 Ffo66 Fro66 Fuo66 Fto66 Afo66 Aro66 Auo66 Ato66 (by decide) (by decide) rfl q1 q2 q3 q4 q5 q6 q7 (q8 u ru.1)) pd_0 rfl (by rw [hml]; rfl) (W := 0) rfl (by decide) (by decide) (by decide) (by decide) (hb hby at_284) rfl rfl fun T67 L67 X67 M67 e67 => ?_
      have N67 := Fr.app N66 M67
      refine Run.x_iload (q := 289) X67 hx (hb hby at_287) rfl rfl ?_
      refine Run.x_icmpNo (q := 292) X67 hx (hb hby at_289) (teq hex.symm).2 rfl ?_
      refine Run.x_iconst (q := 293) X67 hx (hb hby at_292) (z := (1 : Int32)) rfl rfl ?_
      refine Run.x_goto (q := 297) X67 hx (hb hby at_293) (by decide) (by decide) ?_
      refine Run.retN X67 hx hlk e67 (t := .boolean) hret (by simp) (z' := (1 : Int32)) (by decide) (hb hby at_297) (by decide) (by decide) ?_
      exact ⟨rfl, N67⟩
     refine Run.x_iload (q := 161) X62 hx (hb hby at_159) rfl rfl ?_
     refine Run.x_iconst (q := 162) X62 hx (hb hby at_161) (z := (4 : Int32)) rfl rfl ?_
     refine Run.x_icmpYes (q := 184) X62 hx (hb hby at_162) (tlt (by decide : (1 : Int32) < (4 : Int32))).1 (by decide) (by decide) ?_
     refine Run.x_iload (q := 186) X62 hx (hb hby at_184) rfl rfl ?_
     refine Run.x_iconst (q := 187) X62 hx (hb hby at_186) (z := (3 : Int32)) rfl rfl ?_
     refine Run.x_icmpYes (q := 209) X62 hx (hb hby at_187) (tlt (by decide : (1 : Int32) < (3 : Int32))).1 (by decide) (by decide) ?_
     refine Run.x_iload (q := 211) X62 hx (hb hby at_209) rfl rfl ?_
     refine Run.x_iconst (q := 212) X62 hx (hb hby at_211) (z := (2 : Int32)) rfl rfl ?_
     refine Run.x_icmpYes (q := 234) X62 hx (hb hby at_212) (tlt (by decide : (1 : Int32) < (2 : Int32))).1 (by decide) (by decide) ?_
     refine Run.x_iload (q := 236) X62 hx (hb hby at_234) rfl rfl ?_
     refine Run.x_iconst (q := 237) X62 hx (hb hby at_236) (z := (1 : Int32)) rfl rfl ?_
     refine Run.x_icmpNo (q := 240) X62 hx (hb hby at_237) (flt (by decide : ¬ ((1 : Int32) < (1 : Int32)))).1 rfl ?_
     refine Run.x_aload (q := 242) X62 hx (hb hby at_240) rfl rfl rfl ?_
     refine Run.x_aload (q := 244) X62 hx (hb hby at_242) rfl rfl rfl ?_
     refine Run.x_iload (q := 246) X62 hx (hb hby at_244) rfl rfl ?_
     refine Run.x_iconst (q := 247) X62 hx (hb hby at_246) (z := (1 : Int32)) rfl rfl ?_
     replace A_b1 := ((A_b1.other W10 ne_b1_b6).other W11 ne_b1_b6).other W61 ne_b1_b6
     refine Run.callSI (q := 250) X62 hx hZ e62 (y := (⟨"needlewise/kmp/SparseAutomatonNextPinLaw", "ends", "([C[CII)Z"⟩ : MethodName)) hown (wm36 hw) (wm37 hw) (wm12 hw) (wm38 hw) (by decide) (argsL := [(.ref b1), (.ref b6), (.int 1), (.int 1)]) (rest := []) (c_end_1 l Z a0 hw b1 b6 (1 : Int32) h61 n0 Z61 k0 k1 k2 k3 u 0 [(.int u), (.int k1), (.int k2), (.int k3), (.int 0)] A_b1 A_b6 (by decide) rfl) pd_4 rfl (by rw [hml]; rfl) (W := 0) rfl (by decide) (by decide) (by decide) (by decide) (hb hby at_247) rfl rfl fun T68 L68 X68 M68 e68 => ?_
     have N68 := Fr.app N62 M68
     by_cases hc250 : (own_b (k0 = u)) = (0 : Int32)
     ·skip
      refine Run.x_ifYes (q := 259) X68 hx (hb hby at_250) ((if0 _ _).trans (teq hc250).1) (by decide) (by decide) ?_
      refine Run.x_iconst (q := 260) X68 hx (hb hby at_259) (z := (0 : Int32)) rfl rfl ?_
      refine Run.x_istore (q := 262) X68 hx #[z0, z1, z2, z3, z4, z5, .val (.int 3), .val (.int 0), z8, z9, .val (.ref b1), .val (.int u), .val (.ref b6), .val (.int 1), .val (.int 1), .val (.int 0), .unset] (hb hby at_260) rfl rfl ?_
      exact JX T68 h61 _ _ X68 e68 N68 Z61 A_b1 (Eq.symm (((if_neg (own_beq hc250)).trans rfl)))
     ·skip
      refine Run.x_ifNo (q := 253) X68 hx (hb hby at_250) ((if0 _ _).trans (feq hc250).1) rfl ?_
      refine Run.x_iconst (q := 254) X68 hx (hb hby at_253) (z := (1 : Int32)) rfl rfl ?_
      refine Run.x_istore (q := 256) X68 hx #[z0, z1, z2, z3, z4, z5, .val (.int 3), .val (.int 0), z8, z9, .val (.ref b1), .val (.int u), .val (.ref b6), .val (.int 1), .val (.int 1), .val (.int 1), .unset] (hb hby at_254) rfl rfl ?_
      refine Run.x_goto (q := 262) X68 hx (hb hby at_256) (by decide) (by decide) ?_
      exact JX T68 h61 _ _ X68 e68 N68 Z61 A_b1 (Eq.symm ((if_pos (own_bne hc250))))
    ·skip
     show Run p e below s _ _ _ (T11.setTop (mkF m 137 #[z0, z1, z2, z3, z4, z5, .val (.int 3), .val (.int 1), z8, z9, .val (.ref b1), .val (.int u), .val (.ref b6), .unset, .unset, .unset, .unset] []))
     refine Run.x_aload (q := 139) X11 hx (hb hby at_137) rfl rfl rfl ?_
     refine Run.x_iload (q := 141) X11 hx (hb hby at_139) rfl rfl ?_
     refine Run.x_iload (q := 143) X11 hx (hb hby at_141) rfl rfl ?_
     refine Run.y_stC (q := 144) X11 hx hZ e11 A_b6 (i := 1) (by decide) (Nat.le_of_ble_eq_true rfl) (z' := u) (own_nr ru) (hb hby at_143) rfl fun T69 h69 X69 e69 W69 A69 => ?_
     replace A_b6 : Ars Z h69 b6 .char [(.int k0), (.int u), (.int k2), (.int k3), (.int 0)] := A69
     have N69 := Fr.snoc X69 N11 g_b6
     have Z69 : n0 ≤ h69.size := Nat.le_trans Z11 (Nat.le_of_eq W69.size.symm)
     refine Run.x_iload (q := 146) X69 hx (hb hby at_144) rfl rfl ?_
     refine Run.x_iconst (q := 147) X69 hx (hb hby at_146) (z := (1 : Int32)) rfl rfl ?_
     refine Run.x_iadd (q := 148) X69 hx (hb hby at_147) (z := (2 : Int32)) (by decide) rfl ?_
     refine Run.x_istore (q := 150) X69 hx #[z0, z1, z2, z3, z4, z5, .val (.int 3), .val (.int 1), z8, z9, .val (.ref b1), .val (.int u), .val (.ref b6), .val (.int 2), .unset, .unset, .unset] (hb hby at_148) rfl rfl ?_
     refine Run.x_iload (q := 152) X69 hx (hb hby at_150) rfl rfl ?_
     refine Run.x_iload (q := 154) X69 hx (hb hby at_152) rfl rfl ?_
     refine Run.callSI (q := 157) X69 hx hZ e69 (y := (⟨"java/lang/Math", "min", "(II)I"⟩ : MethodName)) hown (wm3 hw) (wm4 hw) (wm5 hw) (wm6 hw) (by decide) (argsL := [(.int 2), (.int 3)]) (rest := []) (c_min l Z a0 hw (2 : Int32) (3 : Int32) h69 n0 Z69 (2 : Int32) (by decide)) pd_1 rfl (by rw [hml]; rfl) (W := 0) rfl (by decide) (by decide) (by decide) (by decide) (hb hby at_154) rfl rfl fun T70 L70 X70 M70 e70 => ?_
     have N70 := Fr.app N69 M70
     refine Run.x_istore (q := 159) X70 hx #[z0, z1, z2, z3, z4, z5, .val (.int 3), .val (.int 1), z8, z9, .val (.ref b1), .val (.int u), .val (.ref b6), .val (.int 2), .val (.int 2), .unset, .unset] (hb hby at_157) rfl rfl ?_
     have JX : ∀ (T71 : State) (h71 : Heap) (lo71 : List Loc) (ex : Int32), Stand p l e room_1 s m #[(.int p1), (.int p2), (.long p3), (.int p4), (.int p5)] below meth c T71 lo71 2 9 → T71.heap = h71 → Fr n0 lo71 → n0 ≤ h71.size → Ars Z h71 b1 .char [(.int k0), (.int k1), (.int k2), (.int k3)] → (ex = (if k0 = k0 ∧ k1 = u then (2 : Int32) else (if k0 = u then (1 : Int32) else (0 : Int32)))) → Run p e below s (Tru n0) room_1.cells room_1.slots (T71.setTop (mkF m 262 #[z0, z1, z2, z3, z4, z5, .val (.int 3), .val (.int 1), z8, z9, .val (.ref b1), .val (.int u), .val (.ref b6), .val (.int 2), .val (.int 2), .val (.int ex), .unset] [])) := by
      intro T71 h71 lo71 ex X71 e71 N71 Z71 A_b1 hex
      obtain ⟨T72, h72, X72, e72, E72, A72, D72, -, st72⟩ := newO X71 hx hZ hown (wm7 hw) (wm8 hw) (wm9 hw) e71 (g := (mkF m 262 #[z0, z1, z2, z3, z4, z5, .val (.int 3), .val (.int 1), z8, z9, .val (.ref b1), .val (.int u), .val (.ref b6), .val (.int 2), .val (.int 2), .val (.int ex), .unset] [])) rfl (hb hby at_262) (by decide) (by decide)
      obtain ⟨b72, gg72⟩ : ∃ z, z = h71.size := ⟨_, rfl⟩
      rw [← gg72] at A72 D72 st72
      have g_b72 : n0 ≤ b72 := Nat.le_trans Z71 (Nat.le_of_eq gg72.symm)
      have ne_b1_b72 : b1 ≠ b72 := Nat.ne_of_lt (Nat.lt_of_lt_of_le A_b1.lt (Nat.le_of_eq gg72.symm))
      have Z72 : n0 ≤ h72.size := Nat.le_trans Z71 E72.1
      have E_b72 := A72
      have F_b72_length : Fld Z h72 b72 "needlewise/kmp/SparseAutomaton" "length" "I" (.int 0) := D72 (Or.inr (wm21 hw)) (ty := .int) (by decide)
      have F_b72_forward : Fld Z h72 b72 "needlewise/kmp/SparseAutomaton" "forward" "[I" .null := D72 (Or.inr (wm24 hw)) (ty := (.array .int)) (by decide)
      have F_b72_rows : Fld Z h72 b72 "needlewise/kmp/SparseAutomaton" "rows" "[I" .null := D72 (Or.inr (wm26 hw)) (ty := (.array .int)) (by decide)
      have F_b72_units : Fld Z h72 b72 "needlewise/kmp/SparseAutomaton" "units" "[C" .null := D72 (Or.inr (wm28 hw)) (ty := (.array .char)) (by decide)
      have F_b72_targets : Fld Z h72 b72 "needlewise/kmp/SparseAutomaton" "targets" "[I" .null := D72 (Or.inr (wm30 hw)) (ty := (.array .int)) (by decide)
      refine Run.st st72 ?_
      show Run p e below s _ _ _ (T72.setTop (mkF m 265 #[z0, z1, z2, z3, z4, z5, .val (.int 3), .val (.int 1), z8, z9, .val (.ref b1), .val (.int u), .val (.ref b6), .val (.int 2), .val (.int 2), .val (.int ex), .unset] [(.ref b72)]))
      refine Run.x_dup (q := 266) X72 hx (hb hby at_265) rfl rfl ?_
      refine Run.x_aload (q := 268) X72 hx (hb hby at_266) rfl rfl rfl ?_
      refine Run.x_iload (q := 270) X72 hx (hb hby at_268) rfl rfl ?_
      replace A_b1 := A_b1.ext E72
      refine Run.callS X72 hx hZ e72 (y := (⟨"needlewise/kmp/SparseAutomatonNextPinLaw", "pattern", "([CI)[C"⟩ : MethodName)) hown (wm10 hw) (wm11 hw) (wm12 hw) (wm13 hw) (by decide) (argsL := [(.ref b1), (.int 3)]) (rest := [(.ref b72), (.ref b72)]) (c_pat3 l Z a0 hw b1 h72 n0 Z72 k0 k1 k2 k3 A_b1 rk0 rk1 rk2 rk3) pd_2 rfl (by rw [hml]; rfl) (W := 2) rfl (by decide) (by decide) (by decide) (by decide) (hb hby at_270) rfl ?_
      intro T73 v73 L73 X73 q73
      obtain ⟨np73, rfl, M73, K73, sz73, An73⟩ := q73
      have N73 := Fr.app N71 M73
      show Run p e below s _ _ _ (T73.setTop (mkF m 273 #[z0, z1, z2, z3, z4, z5, .val (.int 3), .val (.int 1), z8, z9, .val (.ref b1), .val (.int u), .val (.ref b6), .val (.int 2), .val (.int 2), .val (.int ex), .unset] [(.ref np73), (.ref b72), (.ref b72)]))
      have ne_b1_np73 : b1 ≠ np73 := Nat.ne_of_lt (Nat.lt_of_lt_of_le A_b1.lt sz73)
      have ne_b72_np73 : b72 ≠ np73 := Nat.ne_of_lt (Nat.lt_of_lt_of_le E_b72.lt sz73)
      have g_np73 : n0 ≤ np73 := Nat.le_trans Z72 sz73
      have Z73 : n0 ≤ T73.heap.size := Nat.le_trans Z72 K73.1
      replace E_b72 := E_b72.keep K73
      replace F_b72_length := F_b72_length.keep K73 nin0
      replace F_b72_forward := F_b72_forward.keep K73 nin0
      replace F_b72_rows := F_b72_rows.keep K73 nin0
      replace F_b72_units := F_b72_units.keep K73 nin0
      replace F_b72_targets := F_b72_targets.keep K73 nin0
      refine Run.callC X73 hx hZ rfl (y := (⟨"needlewise/kmp/SparseAutomaton", "<init>", "([C)V"⟩ : MethodName)) hown rfl (wm14 hw) (wm15 hw) (wm9 hw) (wm16 hw) (by decide) (a := b72) (argsL := [(.ref np73)]) (rest := [(.ref b72)]) (c_init3 l Z a0 hw b72 np73 T73.heap n0 Z73 k0 k1 k2 E_b72 F_b72_length F_b72_forward F_b72_rows F_b72_units F_b72_targets An73 g_b72 ne_b72_np73 rk0 rk1 rk2) pd_3 rfl (by rw [hml]; rfl) (W := 1) rfl (by decide) (by decide) (by decide) (by decide) (hb hby at_273) rfl ?_
      intro T74 v74 L74 X74 q74
      obtain ⟨fo74, ro74, uo74, to74, rw74, un74, tg74, rfl, M74, E74, Ffo74, Fro74, Fuo74, Fto74, Afo74, Aro74, Auo74, Ato74, R74_0, R74_1, R74_2, R74_3⟩ := q74
      have N74 := Fr.app N73 M74
      show Run p e below s _ _ _ (T74.setTop (mkF m 276 #[z0, z1, z2, z3, z4, z5, .val (.int 3), .val (.int 1), z8, z9, .val (.ref b1), .val (.int u), .val (.ref b6), .val (.int 2), .val (.int 2), .val (.int ex), .unset] [(.ref b72)]))
      have Z74 : n0 ≤ T74.heap.size := Nat.le_trans g_b72 (Nat.le_of_lt E74.lt)
      obtain ⟨aa, dd, za, ze, q1, q2, q3, q4, q5, q6, q7, q8⟩ := R74_1
      refine Run.x_astore (q := 278) X74 hx #[z0, z1, z2, z3, z4, z5, .val (.int 3), .val (.int 1), z8, z9, .val (.ref b1), .val (.int u), .val (.ref b6), .val (.int 2), .val (.int 2), .val (.int ex), .val (.ref b72)] (hb hby at_276) rfl rfl rfl ?_
      refine Run.x_aload (q := 280) X74 hx (hb hby at_278) rfl rfl rfl ?_
      refine Run.x_iload (q := 282) X74 hx (hb hby at_280) rfl rfl ?_
      refine Run.x_iload (q := 284) X74 hx (hb hby at_282) rfl rfl ?_
      refine Run.callVI (q := 287) X74 hx hZ rfl (y := (⟨"needlewise/kmp/SparseAutomaton", "next", "(IC)I"⟩ : MethodName)) (z := (⟨"needlewise/kmp/SparseAutomaton", "next", "(IC)I"⟩ : MethodName)) hown (wm31 hw) (wm32 hw) (notFace_of_selects (args := #[]) (mvT hZ (wm34 hw))) (wm34 hw) (wm33 hw) (wm9 hw) (wm35 hw) (by decide) (a := b72) E74 (argsL := [(.int 1), (.int u)]) (rest := []) (c_next l Z a0 hw b72 (1 : Int32) u T74.heap n0 Z74 fo74 ro74 uo74 to74 [(.int k0), (.int k1), (.int k2), (.int (-1))] (rw74.map Value.int) un74 tg74 1 aa dd k1 za ze (if k0 = k0 ∧ k1 = u then (2 : Int32) else (if k0 = u then (1 : Int32) else (0 : Int32))) E74 Ffo74 Fro74 Fuo74 Fto74 Afo74 Aro74 Auo74 Ato74 (by decide) (by decide) rfl q1 q2 q3 q4 q5 q6 q7 (q8 u ru.1)) pd_0 rfl (by rw [hml]; rfl) (W := 0) rfl (by decide) (by decide) (by decide) (by decide) (hb hby at_284) rfl rfl fun T75 L75 X75 M75 e75 => ?_
      have N75 := Fr.app N74 M75
      refine Run.x_iload (q := 289) X75 hx (hb hby at_287) rfl rfl ?_
      refine Run.x_icmpNo (q := 292) X75 hx (hb hby at_289) (teq hex.symm).2 rfl ?_
      refine Run.x_iconst (q := 293) X75 hx (hb hby at_292) (z := (1 : Int32)) rfl rfl ?_
      refine Run.x_goto (q := 297) X75 hx (hb hby at_293) (by decide) (by decide) ?_
      refine Run.retN X75 hx hlk e75 (t := .boolean) hret (by simp) (z' := (1 : Int32)) (by decide) (hb hby at_297) (by decide) (by decide) ?_
      exact ⟨rfl, N75⟩
     refine Run.x_iload (q := 161) X70 hx (hb hby at_159) rfl rfl ?_
     refine Run.x_iconst (q := 162) X70 hx (hb hby at_161) (z := (4 : Int32)) rfl rfl ?_
     refine Run.x_icmpYes (q := 184) X70 hx (hb hby at_162) (tlt (by decide : (2 : Int32) < (4 : Int32))).1 (by decide) (by decide) ?_
     refine Run.x_iload (q := 186) X70 hx (hb hby at_184) rfl rfl ?_
     refine Run.x_iconst (q := 187) X70 hx (hb hby at_186) (z := (3 : Int32)) rfl rfl ?_
     refine Run.x_icmpYes (q := 209) X70 hx (hb hby at_187) (tlt (by decide : (2 : Int32) < (3 : Int32))).1 (by decide) (by decide) ?_
     refine Run.x_iload (q := 211) X70 hx (hb hby at_209) rfl rfl ?_
     refine Run.x_iconst (q := 212) X70 hx (hb hby at_211) (z := (2 : Int32)) rfl rfl ?_
     refine Run.x_icmpNo (q := 215) X70 hx (hb hby at_212) (flt (by decide : ¬ ((2 : Int32) < (2 : Int32)))).1 rfl ?_
     refine Run.x_aload (q := 217) X70 hx (hb hby at_215) rfl rfl rfl ?_
     refine Run.x_aload (q := 219) X70 hx (hb hby at_217) rfl rfl rfl ?_
     refine Run.x_iload (q := 221) X70 hx (hb hby at_219) rfl rfl ?_
     refine Run.x_iconst (q := 222) X70 hx (hb hby at_221) (z := (2 : Int32)) rfl rfl ?_
     replace A_b1 := ((A_b1.other W10 ne_b1_b6).other W11 ne_b1_b6).other W69 ne_b1_b6
     refine Run.callSI (q := 225) X70 hx hZ e70 (y := (⟨"needlewise/kmp/SparseAutomatonNextPinLaw", "ends", "([C[CII)Z"⟩ : MethodName)) hown (wm36 hw) (wm37 hw) (wm12 hw) (wm38 hw) (by decide) (argsL := [(.ref b1), (.ref b6), (.int 2), (.int 2)]) (rest := []) (c_end_2 l Z a0 hw b1 b6 (2 : Int32) h69 n0 Z69 k0 k1 k2 k3 k0 u 0 1 [(.int k0), (.int u), (.int k2), (.int k3), (.int 0)] A_b1 A_b6 (by decide) (by decide) rfl rfl) pd_4 rfl (by rw [hml]; rfl) (W := 0) rfl (by decide) (by decide) (by decide) (by decide) (hb hby at_222) rfl rfl fun T76 L76 X76 M76 e76 => ?_
     have N76 := Fr.app N70 M76
     by_cases hc225 : (own_b (k0 = k0 ∧ k1 = u)) = (0 : Int32)
     ·skip
      refine Run.x_ifYes (q := 234) X76 hx (hb hby at_225) ((if0 _ _).trans (teq hc225).1) (by decide) (by decide) ?_
      refine Run.x_iload (q := 236) X76 hx (hb hby at_234) rfl rfl ?_
      refine Run.x_iconst (q := 237) X76 hx (hb hby at_236) (z := (1 : Int32)) rfl rfl ?_
      refine Run.x_icmpNo (q := 240) X76 hx (hb hby at_237) (flt (by decide : ¬ ((2 : Int32) < (1 : Int32)))).1 rfl ?_
      refine Run.x_aload (q := 242) X76 hx (hb hby at_240) rfl rfl rfl ?_
      refine Run.x_aload (q := 244) X76 hx (hb hby at_242) rfl rfl rfl ?_
      refine Run.x_iload (q := 246) X76 hx (hb hby at_244) rfl rfl ?_
      refine Run.x_iconst (q := 247) X76 hx (hb hby at_246) (z := (1 : Int32)) rfl rfl ?_
      refine Run.callSI (q := 250) X76 hx hZ e76 (y := (⟨"needlewise/kmp/SparseAutomatonNextPinLaw", "ends", "([C[CII)Z"⟩ : MethodName)) hown (wm36 hw) (wm37 hw) (wm12 hw) (wm38 hw) (by decide) (argsL := [(.ref b1), (.ref b6), (.int 2), (.int 1)]) (rest := []) (c_end_1 l Z a0 hw b1 b6 (2 : Int32) h69 n0 Z69 k0 k1 k2 k3 u 1 [(.int k0), (.int u), (.int k2), (.int k3), (.int 0)] A_b1 A_b6 (by decide) rfl) pd_4 rfl (by rw [hml]; rfl) (W := 0) rfl (by decide) (by decide) (by decide) (by decide) (hb hby at_247) rfl rfl fun T77 L77 X77 M77 e77 => ?_
      have N77 := Fr.app N76 M77
      by_cases hc250 : (own_b (k0 = u)) = (0 : Int32)
      ·skip
       refine Run.x_ifYes (q := 259) X77 hx (hb hby at_250) ((if0 _ _).trans (teq hc250).1) (by decide) (by decide) ?_
       refine Run.x_iconst (q := 260) X77 hx (hb hby at_259) (z := (0 : Int32)) rfl rfl ?_
       refine Run.x_istore (q := 262) X77 hx #[z0, z1, z2, z3, z4, z5, .val (.int 3), .val (.int 1), z8, z9, .val (.ref b1), .val (.int u), .val (.ref b6), .val (.int 2), .val (.int 2), .val (.int 0), .unset] (hb hby at_260) rfl rfl ?_
       exact JX T77 h69 _ _ X77 e77 N77 Z69 A_b1 (Eq.symm (((if_neg (own_beq hc225)).trans ((if_neg (own_beq hc250)).trans rfl))))
      ·skip
       refine Run.x_ifNo (q := 253) X77 hx (hb hby at_250) ((if0 _ _).trans (feq hc250).1) rfl ?_
       refine Run.x_iconst (q := 254) X77 hx (hb hby at_253) (z := (1 : Int32)) rfl rfl ?_
       refine Run.x_istore (q := 256) X77 hx #[z0, z1, z2, z3, z4, z5, .val (.int 3), .val (.int 1), z8, z9, .val (.ref b1), .val (.int u), .val (.ref b6), .val (.int 2), .val (.int 2), .val (.int 1), .unset] (hb hby at_254) rfl rfl ?_
       refine Run.x_goto (q := 262) X77 hx (hb hby at_256) (by decide) (by decide) ?_
       exact JX T77 h69 _ _ X77 e77 N77 Z69 A_b1 (Eq.symm (((if_neg (own_beq hc225)).trans (if_pos (own_bne hc250)))))
     ·skip
      refine Run.x_ifNo (q := 228) X76 hx (hb hby at_225) ((if0 _ _).trans (feq hc225).1) rfl ?_
      refine Run.x_iconst (q := 229) X76 hx (hb hby at_228) (z := (2 : Int32)) rfl rfl ?_
      refine Run.x_istore (q := 231) X76 hx #[z0, z1, z2, z3, z4, z5, .val (.int 3), .val (.int 1), z8, z9, .val (.ref b1), .val (.int u), .val (.ref b6), .val (.int 2), .val (.int 2), .val (.int 2), .unset] (hb hby at_229) rfl rfl ?_
      refine Run.x_goto (q := 262) X76 hx (hb hby at_231) (by decide) (by decide) ?_
      exact JX T76 h69 _ _ X76 e76 N76 Z69 A_b1 (Eq.symm ((if_pos (own_bne hc225))))
    ·skip
     show Run p e below s _ _ _ (T11.setTop (mkF m 137 #[z0, z1, z2, z3, z4, z5, .val (.int 3), .val (.int 2), z8, z9, .val (.ref b1), .val (.int u), .val (.ref b6), .unset, .unset, .unset, .unset] []))
     refine Run.x_aload (q := 139) X11 hx (hb hby at_137) rfl rfl rfl ?_
     refine Run.x_iload (q := 141) X11 hx (hb hby at_139) rfl rfl ?_
     refine Run.x_iload (q := 143) X11 hx (hb hby at_141) rfl rfl ?_
     refine Run.y_stC (q := 144) X11 hx hZ e11 A_b6 (i := 2) (by decide) (Nat.le_of_ble_eq_true rfl) (z' := u) (own_nr ru) (hb hby at_143) rfl fun T78 h78 X78 e78 W78 A78 => ?_
     replace A_b6 : Ars Z h78 b6 .char [(.int k0), (.int k1), (.int u), (.int k3), (.int 0)] := A78
     have N78 := Fr.snoc X78 N11 g_b6
     have Z78 : n0 ≤ h78.size := Nat.le_trans Z11 (Nat.le_of_eq W78.size.symm)
     refine Run.x_iload (q := 146) X78 hx (hb hby at_144) rfl rfl ?_
     refine Run.x_iconst (q := 147) X78 hx (hb hby at_146) (z := (1 : Int32)) rfl rfl ?_
     refine Run.x_iadd (q := 148) X78 hx (hb hby at_147) (z := (3 : Int32)) (by decide) rfl ?_
     refine Run.x_istore (q := 150) X78 hx #[z0, z1, z2, z3, z4, z5, .val (.int 3), .val (.int 2), z8, z9, .val (.ref b1), .val (.int u), .val (.ref b6), .val (.int 3), .unset, .unset, .unset] (hb hby at_148) rfl rfl ?_
     refine Run.x_iload (q := 152) X78 hx (hb hby at_150) rfl rfl ?_
     refine Run.x_iload (q := 154) X78 hx (hb hby at_152) rfl rfl ?_
     refine Run.callSI (q := 157) X78 hx hZ e78 (y := (⟨"java/lang/Math", "min", "(II)I"⟩ : MethodName)) hown (wm3 hw) (wm4 hw) (wm5 hw) (wm6 hw) (by decide) (argsL := [(.int 3), (.int 3)]) (rest := []) (c_min l Z a0 hw (3 : Int32) (3 : Int32) h78 n0 Z78 (3 : Int32) (by decide)) pd_1 rfl (by rw [hml]; rfl) (W := 0) rfl (by decide) (by decide) (by decide) (by decide) (hb hby at_154) rfl rfl fun T79 L79 X79 M79 e79 => ?_
     have N79 := Fr.app N78 M79
     refine Run.x_istore (q := 159) X79 hx #[z0, z1, z2, z3, z4, z5, .val (.int 3), .val (.int 2), z8, z9, .val (.ref b1), .val (.int u), .val (.ref b6), .val (.int 3), .val (.int 3), .unset, .unset] (hb hby at_157) rfl rfl ?_
     have JX : ∀ (T80 : State) (h80 : Heap) (lo80 : List Loc) (ex : Int32), Stand p l e room_1 s m #[(.int p1), (.int p2), (.long p3), (.int p4), (.int p5)] below meth c T80 lo80 2 9 → T80.heap = h80 → Fr n0 lo80 → n0 ≤ h80.size → Ars Z h80 b1 .char [(.int k0), (.int k1), (.int k2), (.int k3)] → (ex = (if k0 = k0 ∧ k1 = k1 ∧ k2 = u then (3 : Int32) else (if k0 = k1 ∧ k1 = u then (2 : Int32) else (if k0 = u then (1 : Int32) else (0 : Int32))))) → Run p e below s (Tru n0) room_1.cells room_1.slots (T80.setTop (mkF m 262 #[z0, z1, z2, z3, z4, z5, .val (.int 3), .val (.int 2), z8, z9, .val (.ref b1), .val (.int u), .val (.ref b6), .val (.int 3), .val (.int 3), .val (.int ex), .unset] [])) := by
      intro T80 h80 lo80 ex X80 e80 N80 Z80 A_b1 hex
      obtain ⟨T81, h81, X81, e81, E81, A81, D81, -, st81⟩ := newO X80 hx hZ hown (wm7 hw) (wm8 hw) (wm9 hw) e80 (g := (mkF m 262 #[z0, z1, z2, z3, z4, z5, .val (.int 3), .val (.int 2), z8, z9, .val (.ref b1), .val (.int u), .val (.ref b6), .val (.int 3), .val (.int 3), .val (.int ex), .unset] [])) rfl (hb hby at_262) (by decide) (by decide)
      obtain ⟨b81, gg81⟩ : ∃ z, z = h80.size := ⟨_, rfl⟩
      rw [← gg81] at A81 D81 st81
      have g_b81 : n0 ≤ b81 := Nat.le_trans Z80 (Nat.le_of_eq gg81.symm)
      have ne_b1_b81 : b1 ≠ b81 := Nat.ne_of_lt (Nat.lt_of_lt_of_le A_b1.lt (Nat.le_of_eq gg81.symm))
      have Z81 : n0 ≤ h81.size := Nat.le_trans Z80 E81.1
      have E_b81 := A81
      have F_b81_length : Fld Z h81 b81 "needlewise/kmp/SparseAutomaton" "length" "I" (.int 0) := D81 (Or.inr (wm21 hw)) (ty := .int) (by decide)
      have F_b81_forward : Fld Z h81 b81 "needlewise/kmp/SparseAutomaton" "forward" "[I" .null := D81 (Or.inr (wm24 hw)) (ty := (.array .int)) (by decide)
      have F_b81_rows : Fld Z h81 b81 "needlewise/kmp/SparseAutomaton" "rows" "[I" .null := D81 (Or.inr (wm26 hw)) (ty := (.array .int)) (by decide)
      have F_b81_units : Fld Z h81 b81 "needlewise/kmp/SparseAutomaton" "units" "[C" .null := D81 (Or.inr (wm28 hw)) (ty := (.array .char)) (by decide)
      have F_b81_targets : Fld Z h81 b81 "needlewise/kmp/SparseAutomaton" "targets" "[I" .null := D81 (Or.inr (wm30 hw)) (ty := (.array .int)) (by decide)
      refine Run.st st81 ?_
      show Run p e below s _ _ _ (T81.setTop (mkF m 265 #[z0, z1, z2, z3, z4, z5, .val (.int 3), .val (.int 2), z8, z9, .val (.ref b1), .val (.int u), .val (.ref b6), .val (.int 3), .val (.int 3), .val (.int ex), .unset] [(.ref b81)]))
      refine Run.x_dup (q := 266) X81 hx (hb hby at_265) rfl rfl ?_
      refine Run.x_aload (q := 268) X81 hx (hb hby at_266) rfl rfl rfl ?_
      refine Run.x_iload (q := 270) X81 hx (hb hby at_268) rfl rfl ?_
      replace A_b1 := A_b1.ext E81
      refine Run.callS X81 hx hZ e81 (y := (⟨"needlewise/kmp/SparseAutomatonNextPinLaw", "pattern", "([CI)[C"⟩ : MethodName)) hown (wm10 hw) (wm11 hw) (wm12 hw) (wm13 hw) (by decide) (argsL := [(.ref b1), (.int 3)]) (rest := [(.ref b81), (.ref b81)]) (c_pat3 l Z a0 hw b1 h81 n0 Z81 k0 k1 k2 k3 A_b1 rk0 rk1 rk2 rk3) pd_2 rfl (by rw [hml]; rfl) (W := 2) rfl (by decide) (by decide) (by decide) (by decide) (hb hby at_270) rfl ?_
      intro T82 v82 L82 X82 q82
      obtain ⟨np82, rfl, M82, K82, sz82, An82⟩ := q82
      have N82 := Fr.app N80 M82
      show Run p e below s _ _ _ (T82.setTop (mkF m 273 #[z0, z1, z2, z3, z4, z5, .val (.int 3), .val (.int 2), z8, z9, .val (.ref b1), .val (.int u), .val (.ref b6), .val (.int 3), .val (.int 3), .val (.int ex), .unset] [(.ref np82), (.ref b81), (.ref b81)]))
      have ne_b1_np82 : b1 ≠ np82 := Nat.ne_of_lt (Nat.lt_of_lt_of_le A_b1.lt sz82)
      have ne_b81_np82 : b81 ≠ np82 := Nat.ne_of_lt (Nat.lt_of_lt_of_le E_b81.lt sz82)
      have g_np82 : n0 ≤ np82 := Nat.le_trans Z81 sz82
      have Z82 : n0 ≤ T82.heap.size := Nat.le_trans Z81 K82.1
      replace E_b81 := E_b81.keep K82
      replace F_b81_length := F_b81_length.keep K82 nin0
      replace F_b81_forward := F_b81_forward.keep K82 nin0
      replace F_b81_rows := F_b81_rows.keep K82 nin0
      replace F_b81_units := F_b81_units.keep K82 nin0
      replace F_b81_targets := F_b81_targets.keep K82 nin0
      refine Run.callC X82 hx hZ rfl (y := (⟨"needlewise/kmp/SparseAutomaton", "<init>", "([C)V"⟩ : MethodName)) hown rfl (wm14 hw) (wm15 hw) (wm9 hw) (wm16 hw) (by decide) (a := b81) (argsL := [(.ref np82)]) (rest := [(.ref b81)]) (c_init3 l Z a0 hw b81 np82 T82.heap n0 Z82 k0 k1 k2 E_b81 F_b81_length F_b81_forward F_b81_rows F_b81_units F_b81_targets An82 g_b81 ne_b81_np82 rk0 rk1 rk2) pd_3 rfl (by rw [hml]; rfl) (W := 1) rfl (by decide) (by decide) (by decide) (by decide) (hb hby at_273) rfl ?_
      intro T83 v83 L83 X83 q83
      obtain ⟨fo83, ro83, uo83, to83, rw83, un83, tg83, rfl, M83, E83, Ffo83, Fro83, Fuo83, Fto83, Afo83, Aro83, Auo83, Ato83, R83_0, R83_1, R83_2, R83_3⟩ := q83
      have N83 := Fr.app N82 M83
      show Run p e below s _ _ _ (T83.setTop (mkF m 276 #[z0, z1, z2, z3, z4, z5, .val (.int 3), .val (.int 2), z8, z9, .val (.ref b1), .val (.int u), .val (.ref b6), .val (.int 3), .val (.int 3), .val (.int ex), .unset] [(.ref b81)]))
      have Z83 : n0 ≤ T83.heap.size := Nat.le_trans g_b81 (Nat.le_of_lt E83.lt)
      obtain ⟨aa, dd, za, ze, q1, q2, q3, q4, q5, q6, q7, q8⟩ := R83_2
      refine Run.x_astore (q := 278) X83 hx #[z0, z1, z2, z3, z4, z5, .val (.int 3), .val (.int 2), z8, z9, .val (.ref b1), .val (.int u), .val (.ref b6), .val (.int 3), .val (.int 3), .val (.int ex), .val (.ref b81)] (hb hby at_276) rfl rfl rfl ?_
      refine Run.x_aload (q := 280) X83 hx (hb hby at_278) rfl rfl rfl ?_
      refine Run.x_iload (q := 282) X83 hx (hb hby at_280) rfl rfl ?_
      refine Run.x_iload (q := 284) X83 hx (hb hby at_282) rfl rfl ?_
      refine Run.callVI (q := 287) X83 hx hZ rfl (y := (⟨"needlewise/kmp/SparseAutomaton", "next", "(IC)I"⟩ : MethodName)) (z := (⟨"needlewise/kmp/SparseAutomaton", "next", "(IC)I"⟩ : MethodName)) hown (wm31 hw) (wm32 hw) (notFace_of_selects (args := #[]) (mvT hZ (wm34 hw))) (wm34 hw) (wm33 hw) (wm9 hw) (wm35 hw) (by decide) (a := b81) E83 (argsL := [(.int 2), (.int u)]) (rest := []) (c_next l Z a0 hw b81 (2 : Int32) u T83.heap n0 Z83 fo83 ro83 uo83 to83 [(.int k0), (.int k1), (.int k2), (.int (-1))] (rw83.map Value.int) un83 tg83 2 aa dd k2 za ze (if k0 = k0 ∧ k1 = k1 ∧ k2 = u then (3 : Int32) else (if k0 = k1 ∧ k1 = u then (2 : Int32) else (if k0 = u then (1 : Int32) else (0 : Int32)))) E83 Ffo83 Fro83 Fuo83 Fto83 Afo83 Aro83 Auo83 Ato83 (by decide) (by decide) rfl q1 q2 q3 q4 q5 q6 q7 (q8 u ru.1)) pd_0 rfl (by rw [hml]; rfl) (W := 0) rfl (by decide) (by decide) (by decide) (by decide) (hb hby at_284) rfl rfl fun T84 L84 X84 M84 e84 => ?_
      have N84 := Fr.app N83 M84
      refine Run.x_iload (q := 289) X84 hx (hb hby at_287) rfl rfl ?_
      refine Run.x_icmpNo (q := 292) X84 hx (hb hby at_289) (teq hex.symm).2 rfl ?_
      refine Run.x_iconst (q := 293) X84 hx (hb hby at_292) (z := (1 : Int32)) rfl rfl ?_
      refine Run.x_goto (q := 297) X84 hx (hb hby at_293) (by decide) (by decide) ?_
      refine Run.retN X84 hx hlk e84 (t := .boolean) hret (by simp) (z' := (1 : Int32)) (by decide) (hb hby at_297) (by decide) (by decide) ?_
      exact ⟨rfl, N84⟩
     refine Run.x_iload (q := 161) X79 hx (hb hby at_159) rfl rfl ?_
     refine Run.x_iconst (q := 162) X79 hx (hb hby at_161) (z := (4 : Int32)) rfl rfl ?_
     refine Run.x_icmpYes (q := 184) X79 hx (hb hby at_162) (tlt (by decide : (3 : Int32) < (4 : Int32))).1 (by decide) (by decide) ?_
     refine Run.x_iload (q := 186) X79 hx (hb hby at_184) rfl rfl ?_
     refine Run.x_iconst (q := 187) X79 hx (hb hby at_186) (z := (3 : Int32)) rfl rfl ?_
     refine Run.x_icmpNo (q := 190) X79 hx (hb hby at_187) (flt (by decide : ¬ ((3 : Int32) < (3 : Int32)))).1 rfl ?_
     refine Run.x_aload (q := 192) X79 hx (hb hby at_190) rfl rfl rfl ?_
     refine Run.x_aload (q := 194) X79 hx (hb hby at_192) rfl rfl rfl ?_
     refine Run.x_iload (q := 196) X79 hx (hb hby at_194) rfl rfl ?_
     refine Run.x_iconst (q := 197) X79 hx (hb hby at_196) (z := (3 : Int32)) rfl rfl ?_
     replace A_b1 := ((A_b1.other W10 ne_b1_b6).other W11 ne_b1_b6).other W78 ne_b1_b6
     refine Run.callSI (q := 200) X79 hx hZ e79 (y := (⟨"needlewise/kmp/SparseAutomatonNextPinLaw", "ends", "([C[CII)Z"⟩ : MethodName)) hown (wm36 hw) (wm37 hw) (wm12 hw) (wm38 hw) (by decide) (argsL := [(.ref b1), (.ref b6), (.int 3), (.int 3)]) (rest := []) (c_end_3 l Z a0 hw b1 b6 (3 : Int32) h78 n0 Z78 k0 k1 k2 k3 k0 k1 u 0 1 2 [(.int k0), (.int k1), (.int u), (.int k3), (.int 0)] A_b1 A_b6 (by decide) (by decide) (by decide) rfl rfl rfl) pd_4 rfl (by rw [hml]; rfl) (W := 0) rfl (by decide) (by decide) (by decide) (by decide) (hb hby at_197) rfl rfl fun T85 L85 X85 M85 e85 => ?_
     have N85 := Fr.app N79 M85
     by_cases hc200 : (own_b (k0 = k0 ∧ k1 = k1 ∧ k2 = u)) = (0 : Int32)
     ·skip
      refine Run.x_ifYes (q := 209) X85 hx (hb hby at_200) ((if0 _ _).trans (teq hc200).1) (by decide) (by decide) ?_
      refine Run.x_iload (q := 211) X85 hx (hb hby at_209) rfl rfl ?_
      refine Run.x_iconst (q := 212) X85 hx (hb hby at_211) (z := (2 : Int32)) rfl rfl ?_
      refine Run.x_icmpNo (q := 215) X85 hx (hb hby at_212) (flt (by decide : ¬ ((3 : Int32) < (2 : Int32)))).1 rfl ?_
      refine Run.x_aload (q := 217) X85 hx (hb hby at_215) rfl rfl rfl ?_
      refine Run.x_aload (q := 219) X85 hx (hb hby at_217) rfl rfl rfl ?_
      refine Run.x_iload (q := 221) X85 hx (hb hby at_219) rfl rfl ?_
      refine Run.x_iconst (q := 222) X85 hx (hb hby at_221) (z := (2 : Int32)) rfl rfl ?_
      refine Run.callSI (q := 225) X85 hx hZ e85 (y := (⟨"needlewise/kmp/SparseAutomatonNextPinLaw", "ends", "([C[CII)Z"⟩ : MethodName)) hown (wm36 hw) (wm37 hw) (wm12 hw) (wm38 hw) (by decide) (argsL := [(.ref b1), (.ref b6), (.int 3), (.int 2)]) (rest := []) (c_end_2 l Z a0 hw b1 b6 (3 : Int32) h78 n0 Z78 k0 k1 k2 k3 k1 u 1 2 [(.int k0), (.int k1), (.int u), (.int k3), (.int 0)] A_b1 A_b6 (by decide) (by decide) rfl rfl) pd_4 rfl (by rw [hml]; rfl) (W := 0) rfl (by decide) (by decide) (by decide) (by decide) (hb hby at_222) rfl rfl fun T86 L86 X86 M86 e86 => ?_
      have N86 := Fr.app N85 M86
      by_cases hc225 : (own_b (k0 = k1 ∧ k1 = u)) = (0 : Int32)
      ·skip
       refine Run.x_ifYes (q := 234) X86 hx (hb hby at_225) ((if0 _ _).trans (teq hc225).1) (by decide) (by decide) ?_
       refine Run.x_iload (q := 236) X86 hx (hb hby at_234) rfl rfl ?_
       refine Run.x_iconst (q := 237) X86 hx (hb hby at_236) (z := (1 : Int32)) rfl rfl ?_
       refine Run.x_icmpNo (q := 240) X86 hx (hb hby at_237) (flt (by decide : ¬ ((3 : Int32) < (1 : Int32)))).1 rfl ?_
       refine Run.x_aload (q := 242) X86 hx (hb hby at_240) rfl rfl rfl ?_
       refine Run.x_aload (q := 244) X86 hx (hb hby at_242) rfl rfl rfl ?_
       refine Run.x_iload (q := 246) X86 hx (hb hby at_244) rfl rfl ?_
       refine Run.x_iconst (q := 247) X86 hx (hb hby at_246) (z := (1 : Int32)) rfl rfl ?_
       refine Run.callSI (q := 250) X86 hx hZ e86 (y := (⟨"needlewise/kmp/SparseAutomatonNextPinLaw", "ends", "([C[CII)Z"⟩ : MethodName)) hown (wm36 hw) (wm37 hw) (wm12 hw) (wm38 hw) (by decide) (argsL := [(.ref b1), (.ref b6), (.int 3), (.int 1)]) (rest := []) (c_end_1 l Z a0 hw b1 b6 (3 : Int32) h78 n0 Z78 k0 k1 k2 k3 u 2 [(.int k0), (.int k1), (.int u), (.int k3), (.int 0)] A_b1 A_b6 (by decide) rfl) pd_4 rfl (by rw [hml]; rfl) (W := 0) rfl (by decide) (by decide) (by decide) (by decide) (hb hby at_247) rfl rfl fun T87 L87 X87 M87 e87 => ?_
       have N87 := Fr.app N86 M87
       by_cases hc250 : (own_b (k0 = u)) = (0 : Int32)
       ·skip
        refine Run.x_ifYes (q := 259) X87 hx (hb hby at_250) ((if0 _ _).trans (teq hc250).1) (by decide) (by decide) ?_
        refine Run.x_iconst (q := 260) X87 hx (hb hby at_259) (z := (0 : Int32)) rfl rfl ?_
        refine Run.x_istore (q := 262) X87 hx #[z0, z1, z2, z3, z4, z5, .val (.int 3), .val (.int 2), z8, z9, .val (.ref b1), .val (.int u), .val (.ref b6), .val (.int 3), .val (.int 3), .val (.int 0), .unset] (hb hby at_260) rfl rfl ?_
        exact JX T87 h78 _ _ X87 e87 N87 Z78 A_b1 (Eq.symm (((if_neg (own_beq hc200)).trans ((if_neg (own_beq hc225)).trans ((if_neg (own_beq hc250)).trans rfl)))))
       ·skip
        refine Run.x_ifNo (q := 253) X87 hx (hb hby at_250) ((if0 _ _).trans (feq hc250).1) rfl ?_
        refine Run.x_iconst (q := 254) X87 hx (hb hby at_253) (z := (1 : Int32)) rfl rfl ?_
        refine Run.x_istore (q := 256) X87 hx #[z0, z1, z2, z3, z4, z5, .val (.int 3), .val (.int 2), z8, z9, .val (.ref b1), .val (.int u), .val (.ref b6), .val (.int 3), .val (.int 3), .val (.int 1), .unset] (hb hby at_254) rfl rfl ?_
        refine Run.x_goto (q := 262) X87 hx (hb hby at_256) (by decide) (by decide) ?_
        exact JX T87 h78 _ _ X87 e87 N87 Z78 A_b1 (Eq.symm (((if_neg (own_beq hc200)).trans ((if_neg (own_beq hc225)).trans (if_pos (own_bne hc250))))))
      ·skip
       refine Run.x_ifNo (q := 228) X86 hx (hb hby at_225) ((if0 _ _).trans (feq hc225).1) rfl ?_
       refine Run.x_iconst (q := 229) X86 hx (hb hby at_228) (z := (2 : Int32)) rfl rfl ?_
       refine Run.x_istore (q := 231) X86 hx #[z0, z1, z2, z3, z4, z5, .val (.int 3), .val (.int 2), z8, z9, .val (.ref b1), .val (.int u), .val (.ref b6), .val (.int 3), .val (.int 3), .val (.int 2), .unset] (hb hby at_229) rfl rfl ?_
       refine Run.x_goto (q := 262) X86 hx (hb hby at_231) (by decide) (by decide) ?_
       exact JX T86 h78 _ _ X86 e86 N86 Z78 A_b1 (Eq.symm (((if_neg (own_beq hc200)).trans (if_pos (own_bne hc225)))))
     ·skip
      refine Run.x_ifNo (q := 203) X85 hx (hb hby at_200) ((if0 _ _).trans (feq hc200).1) rfl ?_
      refine Run.x_iconst (q := 204) X85 hx (hb hby at_203) (z := (3 : Int32)) rfl rfl ?_
      refine Run.x_istore (q := 206) X85 hx #[z0, z1, z2, z3, z4, z5, .val (.int 3), .val (.int 2), z8, z9, .val (.ref b1), .val (.int u), .val (.ref b6), .val (.int 3), .val (.int 3), .val (.int 3), .unset] (hb hby at_204) rfl rfl ?_
      refine Run.x_goto (q := 262) X85 hx (hb hby at_206) (by decide) (by decide) ?_
      exact JX T85 h78 _ _ X85 e85 N85 Z78 A_b1 (Eq.symm ((if_pos (own_bne hc200))))
    ·skip
     show Run p e below s _ _ _ (T11.setTop (mkF m 137 #[z0, z1, z2, z3, z4, z5, .val (.int 3), .val (.int 3), z8, z9, .val (.ref b1), .val (.int u), .val (.ref b6), .unset, .unset, .unset, .unset] []))
     refine Run.x_aload (q := 139) X11 hx (hb hby at_137) rfl rfl rfl ?_
     refine Run.x_iload (q := 141) X11 hx (hb hby at_139) rfl rfl ?_
     refine Run.x_iload (q := 143) X11 hx (hb hby at_141) rfl rfl ?_
     refine Run.y_stC (q := 144) X11 hx hZ e11 A_b6 (i := 3) (by decide) (Nat.le_of_ble_eq_true rfl) (z' := u) (own_nr ru) (hb hby at_143) rfl fun T88 h88 X88 e88 W88 A88 => ?_
     replace A_b6 : Ars Z h88 b6 .char [(.int k0), (.int k1), (.int k2), (.int u), (.int 0)] := A88
     have N88 := Fr.snoc X88 N11 g_b6
     have Z88 : n0 ≤ h88.size := Nat.le_trans Z11 (Nat.le_of_eq W88.size.symm)
     refine Run.x_iload (q := 146) X88 hx (hb hby at_144) rfl rfl ?_
     refine Run.x_iconst (q := 147) X88 hx (hb hby at_146) (z := (1 : Int32)) rfl rfl ?_
     refine Run.x_iadd (q := 148) X88 hx (hb hby at_147) (z := (4 : Int32)) (by decide) rfl ?_
     refine Run.x_istore (q := 150) X88 hx #[z0, z1, z2, z3, z4, z5, .val (.int 3), .val (.int 3), z8, z9, .val (.ref b1), .val (.int u), .val (.ref b6), .val (.int 4), .unset, .unset, .unset] (hb hby at_148) rfl rfl ?_
     refine Run.x_iload (q := 152) X88 hx (hb hby at_150) rfl rfl ?_
     refine Run.x_iload (q := 154) X88 hx (hb hby at_152) rfl rfl ?_
     refine Run.callSI (q := 157) X88 hx hZ e88 (y := (⟨"java/lang/Math", "min", "(II)I"⟩ : MethodName)) hown (wm3 hw) (wm4 hw) (wm5 hw) (wm6 hw) (by decide) (argsL := [(.int 4), (.int 3)]) (rest := []) (c_min l Z a0 hw (4 : Int32) (3 : Int32) h88 n0 Z88 (3 : Int32) (by decide)) pd_1 rfl (by rw [hml]; rfl) (W := 0) rfl (by decide) (by decide) (by decide) (by decide) (hb hby at_154) rfl rfl fun T89 L89 X89 M89 e89 => ?_
     have N89 := Fr.app N88 M89
     refine Run.x_istore (q := 159) X89 hx #[z0, z1, z2, z3, z4, z5, .val (.int 3), .val (.int 3), z8, z9, .val (.ref b1), .val (.int u), .val (.ref b6), .val (.int 4), .val (.int 3), .unset, .unset] (hb hby at_157) rfl rfl ?_
     have JX : ∀ (T90 : State) (h90 : Heap) (lo90 : List Loc) (ex : Int32), Stand p l e room_1 s m #[(.int p1), (.int p2), (.long p3), (.int p4), (.int p5)] below meth c T90 lo90 2 9 → T90.heap = h90 → Fr n0 lo90 → n0 ≤ h90.size → Ars Z h90 b1 .char [(.int k0), (.int k1), (.int k2), (.int k3)] → (ex = (if k0 = k1 ∧ k1 = k2 ∧ k2 = u then (3 : Int32) else (if k0 = k2 ∧ k1 = u then (2 : Int32) else (if k0 = u then (1 : Int32) else (0 : Int32))))) → Run p e below s (Tru n0) room_1.cells room_1.slots (T90.setTop (mkF m 262 #[z0, z1, z2, z3, z4, z5, .val (.int 3), .val (.int 3), z8, z9, .val (.ref b1), .val (.int u), .val (.ref b6), .val (.int 4), .val (.int 3), .val (.int ex), .unset] [])) := by
      intro T90 h90 lo90 ex X90 e90 N90 Z90 A_b1 hex
      obtain ⟨T91, h91, X91, e91, E91, A91, D91, -, st91⟩ := newO X90 hx hZ hown (wm7 hw) (wm8 hw) (wm9 hw) e90 (g := (mkF m 262 #[z0, z1, z2, z3, z4, z5, .val (.int 3), .val (.int 3), z8, z9, .val (.ref b1), .val (.int u), .val (.ref b6), .val (.int 4), .val (.int 3), .val (.int ex), .unset] [])) rfl (hb hby at_262) (by decide) (by decide)
      obtain ⟨b91, gg91⟩ : ∃ z, z = h90.size := ⟨_, rfl⟩
      rw [← gg91] at A91 D91 st91
      have g_b91 : n0 ≤ b91 := Nat.le_trans Z90 (Nat.le_of_eq gg91.symm)
      have ne_b1_b91 : b1 ≠ b91 := Nat.ne_of_lt (Nat.lt_of_lt_of_le A_b1.lt (Nat.le_of_eq gg91.symm))
      have Z91 : n0 ≤ h91.size := Nat.le_trans Z90 E91.1
      have E_b91 := A91
      have F_b91_length : Fld Z h91 b91 "needlewise/kmp/SparseAutomaton" "length" "I" (.int 0) := D91 (Or.inr (wm21 hw)) (ty := .int) (by decide)
      have F_b91_forward : Fld Z h91 b91 "needlewise/kmp/SparseAutomaton" "forward" "[I" .null := D91 (Or.inr (wm24 hw)) (ty := (.array .int)) (by decide)
      have F_b91_rows : Fld Z h91 b91 "needlewise/kmp/SparseAutomaton" "rows" "[I" .null := D91 (Or.inr (wm26 hw)) (ty := (.array .int)) (by decide)
      have F_b91_units : Fld Z h91 b91 "needlewise/kmp/SparseAutomaton" "units" "[C" .null := D91 (Or.inr (wm28 hw)) (ty := (.array .char)) (by decide)
      have F_b91_targets : Fld Z h91 b91 "needlewise/kmp/SparseAutomaton" "targets" "[I" .null := D91 (Or.inr (wm30 hw)) (ty := (.array .int)) (by decide)
      refine Run.st st91 ?_
      show Run p e below s _ _ _ (T91.setTop (mkF m 265 #[z0, z1, z2, z3, z4, z5, .val (.int 3), .val (.int 3), z8, z9, .val (.ref b1), .val (.int u), .val (.ref b6), .val (.int 4), .val (.int 3), .val (.int ex), .unset] [(.ref b91)]))
      refine Run.x_dup (q := 266) X91 hx (hb hby at_265) rfl rfl ?_
      refine Run.x_aload (q := 268) X91 hx (hb hby at_266) rfl rfl rfl ?_
      refine Run.x_iload (q := 270) X91 hx (hb hby at_268) rfl rfl ?_
      replace A_b1 := A_b1.ext E91
      refine Run.callS X91 hx hZ e91 (y := (⟨"needlewise/kmp/SparseAutomatonNextPinLaw", "pattern", "([CI)[C"⟩ : MethodName)) hown (wm10 hw) (wm11 hw) (wm12 hw) (wm13 hw) (by decide) (argsL := [(.ref b1), (.int 3)]) (rest := [(.ref b91), (.ref b91)]) (c_pat3 l Z a0 hw b1 h91 n0 Z91 k0 k1 k2 k3 A_b1 rk0 rk1 rk2 rk3) pd_2 rfl (by rw [hml]; rfl) (W := 2) rfl (by decide) (by decide) (by decide) (by decide) (hb hby at_270) rfl ?_
      intro T92 v92 L92 X92 q92
      obtain ⟨np92, rfl, M92, K92, sz92, An92⟩ := q92
      have N92 := Fr.app N90 M92
      show Run p e below s _ _ _ (T92.setTop (mkF m 273 #[z0, z1, z2, z3, z4, z5, .val (.int 3), .val (.int 3), z8, z9, .val (.ref b1), .val (.int u), .val (.ref b6), .val (.int 4), .val (.int 3), .val (.int ex), .unset] [(.ref np92), (.ref b91), (.ref b91)]))
      have ne_b1_np92 : b1 ≠ np92 := Nat.ne_of_lt (Nat.lt_of_lt_of_le A_b1.lt sz92)
      have ne_b91_np92 : b91 ≠ np92 := Nat.ne_of_lt (Nat.lt_of_lt_of_le E_b91.lt sz92)
      have g_np92 : n0 ≤ np92 := Nat.le_trans Z91 sz92
      have Z92 : n0 ≤ T92.heap.size := Nat.le_trans Z91 K92.1
      replace E_b91 := E_b91.keep K92
      replace F_b91_length := F_b91_length.keep K92 nin0
      replace F_b91_forward := F_b91_forward.keep K92 nin0
      replace F_b91_rows := F_b91_rows.keep K92 nin0
      replace F_b91_units := F_b91_units.keep K92 nin0
      replace F_b91_targets := F_b91_targets.keep K92 nin0
      refine Run.callC X92 hx hZ rfl (y := (⟨"needlewise/kmp/SparseAutomaton", "<init>", "([C)V"⟩ : MethodName)) hown rfl (wm14 hw) (wm15 hw) (wm9 hw) (wm16 hw) (by decide) (a := b91) (argsL := [(.ref np92)]) (rest := [(.ref b91)]) (c_init3 l Z a0 hw b91 np92 T92.heap n0 Z92 k0 k1 k2 E_b91 F_b91_length F_b91_forward F_b91_rows F_b91_units F_b91_targets An92 g_b91 ne_b91_np92 rk0 rk1 rk2) pd_3 rfl (by rw [hml]; rfl) (W := 1) rfl (by decide) (by decide) (by decide) (by decide) (hb hby at_273) rfl ?_
      intro T93 v93 L93 X93 q93
      obtain ⟨fo93, ro93, uo93, to93, rw93, un93, tg93, rfl, M93, E93, Ffo93, Fro93, Fuo93, Fto93, Afo93, Aro93, Auo93, Ato93, R93_0, R93_1, R93_2, R93_3⟩ := q93
      have N93 := Fr.app N92 M93
      show Run p e below s _ _ _ (T93.setTop (mkF m 276 #[z0, z1, z2, z3, z4, z5, .val (.int 3), .val (.int 3), z8, z9, .val (.ref b1), .val (.int u), .val (.ref b6), .val (.int 4), .val (.int 3), .val (.int ex), .unset] [(.ref b91)]))
      have Z93 : n0 ≤ T93.heap.size := Nat.le_trans g_b91 (Nat.le_of_lt E93.lt)
      obtain ⟨aa, dd, za, ze, q1, q2, q3, q4, q5, q6, q7, q8⟩ := R93_3
      refine Run.x_astore (q := 278) X93 hx #[z0, z1, z2, z3, z4, z5, .val (.int 3), .val (.int 3), z8, z9, .val (.ref b1), .val (.int u), .val (.ref b6), .val (.int 4), .val (.int 3), .val (.int ex), .val (.ref b91)] (hb hby at_276) rfl rfl rfl ?_
      refine Run.x_aload (q := 280) X93 hx (hb hby at_278) rfl rfl rfl ?_
      refine Run.x_iload (q := 282) X93 hx (hb hby at_280) rfl rfl ?_
      refine Run.x_iload (q := 284) X93 hx (hb hby at_282) rfl rfl ?_
      refine Run.callVI (q := 287) X93 hx hZ rfl (y := (⟨"needlewise/kmp/SparseAutomaton", "next", "(IC)I"⟩ : MethodName)) (z := (⟨"needlewise/kmp/SparseAutomaton", "next", "(IC)I"⟩ : MethodName)) hown (wm31 hw) (wm32 hw) (notFace_of_selects (args := #[]) (mvT hZ (wm34 hw))) (wm34 hw) (wm33 hw) (wm9 hw) (wm35 hw) (by decide) (a := b91) E93 (argsL := [(.int 3), (.int u)]) (rest := []) (c_next l Z a0 hw b91 (3 : Int32) u T93.heap n0 Z93 fo93 ro93 uo93 to93 [(.int k0), (.int k1), (.int k2), (.int (-1))] (rw93.map Value.int) un93 tg93 3 aa dd (-1 : Int32) za ze (if k0 = k1 ∧ k1 = k2 ∧ k2 = u then (3 : Int32) else (if k0 = k2 ∧ k1 = u then (2 : Int32) else (if k0 = u then (1 : Int32) else (0 : Int32)))) E93 Ffo93 Fro93 Fuo93 Fto93 Afo93 Aro93 Auo93 Ato93 (by decide) (by decide) rfl q1 q2 q3 q4 q5 q6 q7 (q8 u ru.1)) pd_0 rfl (by rw [hml]; rfl) (W := 0) rfl (by decide) (by decide) (by decide) (by decide) (hb hby at_284) rfl rfl fun T94 L94 X94 M94 e94 => ?_
      have N94 := Fr.app N93 M94
      refine Run.x_iload (q := 289) X94 hx (hb hby at_287) rfl rfl ?_
      refine Run.x_icmpNo (q := 292) X94 hx (hb hby at_289) (teq hex.symm).2 rfl ?_
      refine Run.x_iconst (q := 293) X94 hx (hb hby at_292) (z := (1 : Int32)) rfl rfl ?_
      refine Run.x_goto (q := 297) X94 hx (hb hby at_293) (by decide) (by decide) ?_
      refine Run.retN X94 hx hlk e94 (t := .boolean) hret (by simp) (z' := (1 : Int32)) (by decide) (hb hby at_297) (by decide) (by decide) ?_
      exact ⟨rfl, N94⟩
     refine Run.x_iload (q := 161) X89 hx (hb hby at_159) rfl rfl ?_
     refine Run.x_iconst (q := 162) X89 hx (hb hby at_161) (z := (4 : Int32)) rfl rfl ?_
     refine Run.x_icmpYes (q := 184) X89 hx (hb hby at_162) (tlt (by decide : (3 : Int32) < (4 : Int32))).1 (by decide) (by decide) ?_
     refine Run.x_iload (q := 186) X89 hx (hb hby at_184) rfl rfl ?_
     refine Run.x_iconst (q := 187) X89 hx (hb hby at_186) (z := (3 : Int32)) rfl rfl ?_
     refine Run.x_icmpNo (q := 190) X89 hx (hb hby at_187) (flt (by decide : ¬ ((3 : Int32) < (3 : Int32)))).1 rfl ?_
     refine Run.x_aload (q := 192) X89 hx (hb hby at_190) rfl rfl rfl ?_
     refine Run.x_aload (q := 194) X89 hx (hb hby at_192) rfl rfl rfl ?_
     refine Run.x_iload (q := 196) X89 hx (hb hby at_194) rfl rfl ?_
     refine Run.x_iconst (q := 197) X89 hx (hb hby at_196) (z := (3 : Int32)) rfl rfl ?_
     replace A_b1 := ((A_b1.other W10 ne_b1_b6).other W11 ne_b1_b6).other W88 ne_b1_b6
     refine Run.callSI (q := 200) X89 hx hZ e89 (y := (⟨"needlewise/kmp/SparseAutomatonNextPinLaw", "ends", "([C[CII)Z"⟩ : MethodName)) hown (wm36 hw) (wm37 hw) (wm12 hw) (wm38 hw) (by decide) (argsL := [(.ref b1), (.ref b6), (.int 4), (.int 3)]) (rest := []) (c_end_3 l Z a0 hw b1 b6 (4 : Int32) h88 n0 Z88 k0 k1 k2 k3 k1 k2 u 1 2 3 [(.int k0), (.int k1), (.int k2), (.int u), (.int 0)] A_b1 A_b6 (by decide) (by decide) (by decide) rfl rfl rfl) pd_4 rfl (by rw [hml]; rfl) (W := 0) rfl (by decide) (by decide) (by decide) (by decide) (hb hby at_197) rfl rfl fun T95 L95 X95 M95 e95 => ?_
     have N95 := Fr.app N89 M95
     by_cases hc200 : (own_b (k0 = k1 ∧ k1 = k2 ∧ k2 = u)) = (0 : Int32)
     ·skip
      refine Run.x_ifYes (q := 209) X95 hx (hb hby at_200) ((if0 _ _).trans (teq hc200).1) (by decide) (by decide) ?_
      refine Run.x_iload (q := 211) X95 hx (hb hby at_209) rfl rfl ?_
      refine Run.x_iconst (q := 212) X95 hx (hb hby at_211) (z := (2 : Int32)) rfl rfl ?_
      refine Run.x_icmpNo (q := 215) X95 hx (hb hby at_212) (flt (by decide : ¬ ((3 : Int32) < (2 : Int32)))).1 rfl ?_
      refine Run.x_aload (q := 217) X95 hx (hb hby at_215) rfl rfl rfl ?_
      refine Run.x_aload (q := 219) X95 hx (hb hby at_217) rfl rfl rfl ?_
      refine Run.x_iload (q := 221) X95 hx (hb hby at_219) rfl rfl ?_
      refine Run.x_iconst (q := 222) X95 hx (hb hby at_221) (z := (2 : Int32)) rfl rfl ?_
      refine Run.callSI (q := 225) X95 hx hZ e95 (y := (⟨"needlewise/kmp/SparseAutomatonNextPinLaw", "ends", "([C[CII)Z"⟩ : MethodName)) hown (wm36 hw) (wm37 hw) (wm12 hw) (wm38 hw) (by decide) (argsL := [(.ref b1), (.ref b6), (.int 4), (.int 2)]) (rest := []) (c_end_2 l Z a0 hw b1 b6 (4 : Int32) h88 n0 Z88 k0 k1 k2 k3 k2 u 2 3 [(.int k0), (.int k1), (.int k2), (.int u), (.int 0)] A_b1 A_b6 (by decide) (by decide) rfl rfl) pd_4 rfl (by rw [hml]; rfl) (W := 0) rfl (by decide) (by decide) (by decide) (by decide) (hb hby at_222) rfl rfl fun T96 L96 X96 M96 e96 => ?_
      have N96 := Fr.app N95 M96
      by_cases hc225 : (own_b (k0 = k2 ∧ k1 = u)) = (0 : Int32)
      ·skip
       refine Run.x_ifYes (q := 234) X96 hx (hb hby at_225) ((if0 _ _).trans (teq hc225).1) (by decide) (by decide) ?_
       refine Run.x_iload (q := 236) X96 hx (hb hby at_234) rfl rfl ?_
       refine Run.x_iconst (q := 237) X96 hx (hb hby at_236) (z := (1 : Int32)) rfl rfl ?_
       refine Run.x_icmpNo (q := 240) X96 hx (hb hby at_237) (flt (by decide : ¬ ((3 : Int32) < (1 : Int32)))).1 rfl ?_
       refine Run.x_aload (q := 242) X96 hx (hb hby at_240) rfl rfl rfl ?_
       refine Run.x_aload (q := 244) X96 hx (hb hby at_242) rfl rfl rfl ?_
       refine Run.x_iload (q := 246) X96 hx (hb hby at_244) rfl rfl ?_
       refine Run.x_iconst (q := 247) X96 hx (hb hby at_246) (z := (1 : Int32)) rfl rfl ?_
       refine Run.callSI (q := 250) X96 hx hZ e96 (y := (⟨"needlewise/kmp/SparseAutomatonNextPinLaw", "ends", "([C[CII)Z"⟩ : MethodName)) hown (wm36 hw) (wm37 hw) (wm12 hw) (wm38 hw) (by decide) (argsL := [(.ref b1), (.ref b6), (.int 4), (.int 1)]) (rest := []) (c_end_1 l Z a0 hw b1 b6 (4 : Int32) h88 n0 Z88 k0 k1 k2 k3 u 3 [(.int k0), (.int k1), (.int k2), (.int u), (.int 0)] A_b1 A_b6 (by decide) rfl) pd_4 rfl (by rw [hml]; rfl) (W := 0) rfl (by decide) (by decide) (by decide) (by decide) (hb hby at_247) rfl rfl fun T97 L97 X97 M97 e97 => ?_
       have N97 := Fr.app N96 M97
       by_cases hc250 : (own_b (k0 = u)) = (0 : Int32)
       ·skip
        refine Run.x_ifYes (q := 259) X97 hx (hb hby at_250) ((if0 _ _).trans (teq hc250).1) (by decide) (by decide) ?_
        refine Run.x_iconst (q := 260) X97 hx (hb hby at_259) (z := (0 : Int32)) rfl rfl ?_
        refine Run.x_istore (q := 262) X97 hx #[z0, z1, z2, z3, z4, z5, .val (.int 3), .val (.int 3), z8, z9, .val (.ref b1), .val (.int u), .val (.ref b6), .val (.int 4), .val (.int 3), .val (.int 0), .unset] (hb hby at_260) rfl rfl ?_
        exact JX T97 h88 _ _ X97 e97 N97 Z88 A_b1 (Eq.symm (((if_neg (own_beq hc200)).trans ((if_neg (own_beq hc225)).trans ((if_neg (own_beq hc250)).trans rfl)))))
       ·skip
        refine Run.x_ifNo (q := 253) X97 hx (hb hby at_250) ((if0 _ _).trans (feq hc250).1) rfl ?_
        refine Run.x_iconst (q := 254) X97 hx (hb hby at_253) (z := (1 : Int32)) rfl rfl ?_
        refine Run.x_istore (q := 256) X97 hx #[z0, z1, z2, z3, z4, z5, .val (.int 3), .val (.int 3), z8, z9, .val (.ref b1), .val (.int u), .val (.ref b6), .val (.int 4), .val (.int 3), .val (.int 1), .unset] (hb hby at_254) rfl rfl ?_
        refine Run.x_goto (q := 262) X97 hx (hb hby at_256) (by decide) (by decide) ?_
        exact JX T97 h88 _ _ X97 e97 N97 Z88 A_b1 (Eq.symm (((if_neg (own_beq hc200)).trans ((if_neg (own_beq hc225)).trans (if_pos (own_bne hc250))))))
      ·skip
       refine Run.x_ifNo (q := 228) X96 hx (hb hby at_225) ((if0 _ _).trans (feq hc225).1) rfl ?_
       refine Run.x_iconst (q := 229) X96 hx (hb hby at_228) (z := (2 : Int32)) rfl rfl ?_
       refine Run.x_istore (q := 231) X96 hx #[z0, z1, z2, z3, z4, z5, .val (.int 3), .val (.int 3), z8, z9, .val (.ref b1), .val (.int u), .val (.ref b6), .val (.int 4), .val (.int 3), .val (.int 2), .unset] (hb hby at_229) rfl rfl ?_
       refine Run.x_goto (q := 262) X96 hx (hb hby at_231) (by decide) (by decide) ?_
       exact JX T96 h88 _ _ X96 e96 N96 Z88 A_b1 (Eq.symm (((if_neg (own_beq hc200)).trans (if_pos (own_bne hc225)))))
     ·skip
      refine Run.x_ifNo (q := 203) X95 hx (hb hby at_200) ((if0 _ _).trans (feq hc200).1) rfl ?_
      refine Run.x_iconst (q := 204) X95 hx (hb hby at_203) (z := (3 : Int32)) rfl rfl ?_
      refine Run.x_istore (q := 206) X95 hx #[z0, z1, z2, z3, z4, z5, .val (.int 3), .val (.int 3), z8, z9, .val (.ref b1), .val (.int u), .val (.ref b6), .val (.int 4), .val (.int 3), .val (.int 3), .unset] (hb hby at_204) rfl rfl ?_
      refine Run.x_goto (q := 262) X95 hx (hb hby at_206) (by decide) (by decide) ?_
      exact JX T95 h88 _ _ X95 e95 N95 Z88 A_b1 (Eq.symm ((if_pos (own_bne hc200))))
   ·skip
    show Run p e below s _ _ _ (T11.setTop (mkF m 137 #[z0, z1, z2, z3, z4, z5, .val (.int 4), .val (.int ss), z8, z9, .val (.ref b1), .val (.int u), .val (.ref b6), .unset, .unset, .unset, .unset] []))
    rcases own_s4 hss with rfl | rfl | rfl | rfl | rfl
    ·skip
     show Run p e below s _ _ _ (T11.setTop (mkF m 137 #[z0, z1, z2, z3, z4, z5, .val (.int 4), .val (.int 0), z8, z9, .val (.ref b1), .val (.int u), .val (.ref b6), .unset, .unset, .unset, .unset] []))
     refine Run.x_aload (q := 139) X11 hx (hb hby at_137) rfl rfl rfl ?_
     refine Run.x_iload (q := 141) X11 hx (hb hby at_139) rfl rfl ?_
     refine Run.x_iload (q := 143) X11 hx (hb hby at_141) rfl rfl ?_
     refine Run.y_stC (q := 144) X11 hx hZ e11 A_b6 (i := 0) (by decide) (Nat.le_of_ble_eq_true rfl) (z' := u) (own_nr ru) (hb hby at_143) rfl fun T98 h98 X98 e98 W98 A98 => ?_
     replace A_b6 : Ars Z h98 b6 .char [(.int u), (.int k1), (.int k2), (.int k3), (.int 0)] := A98
     have N98 := Fr.snoc X98 N11 g_b6
     have Z98 : n0 ≤ h98.size := Nat.le_trans Z11 (Nat.le_of_eq W98.size.symm)
     refine Run.x_iload (q := 146) X98 hx (hb hby at_144) rfl rfl ?_
     refine Run.x_iconst (q := 147) X98 hx (hb hby at_146) (z := (1 : Int32)) rfl rfl ?_
     refine Run.x_iadd (q := 148) X98 hx (hb hby at_147) (z := (1 : Int32)) (by decide) rfl ?_
     refine Run.x_istore (q := 150) X98 hx #[z0, z1, z2, z3, z4, z5, .val (.int 4), .val (.int 0), z8, z9, .val (.ref b1), .val (.int u), .val (.ref b6), .val (.int 1), .unset, .unset, .unset] (hb hby at_148) rfl rfl ?_
     refine Run.x_iload (q := 152) X98 hx (hb hby at_150) rfl rfl ?_
     refine Run.x_iload (q := 154) X98 hx (hb hby at_152) rfl rfl ?_
     refine Run.callSI (q := 157) X98 hx hZ e98 (y := (⟨"java/lang/Math", "min", "(II)I"⟩ : MethodName)) hown (wm3 hw) (wm4 hw) (wm5 hw) (wm6 hw) (by decide) (argsL := [(.int 1), (.int 4)]) (rest := []) (c_min l Z a0 hw (1 : Int32) (4 : Int32) h98 n0 Z98 (1 : Int32) (by decide)) pd_1 rfl (by rw [hml]; rfl) (W := 0) rfl (by decide) (by decide) (by decide) (by decide) (hb hby at_154) rfl rfl fun T99 L99 X99 M99 e99 => ?_
     have N99 := Fr.app N98 M99
     refine Run.x_istore (q := 159) X99 hx #[z0, z1, z2, z3, z4, z5, .val (.int 4), .val (.int 0), z8, z9, .val (.ref b1), .val (.int u), .val (.ref b6), .val (.int 1), .val (.int 1), .unset, .unset] (hb hby at_157) rfl rfl ?_
     have JX : ∀ (T100 : State) (h100 : Heap) (lo100 : List Loc) (ex : Int32), Stand p l e room_1 s m #[(.int p1), (.int p2), (.long p3), (.int p4), (.int p5)] below meth c T100 lo100 2 9 → T100.heap = h100 → Fr n0 lo100 → n0 ≤ h100.size → Ars Z h100 b1 .char [(.int k0), (.int k1), (.int k2), (.int k3)] → (ex = (if k0 = u then (1 : Int32) else (0 : Int32))) → Run p e below s (Tru n0) room_1.cells room_1.slots (T100.setTop (mkF m 262 #[z0, z1, z2, z3, z4, z5, .val (.int 4), .val (.int 0), z8, z9, .val (.ref b1), .val (.int u), .val (.ref b6), .val (.int 1), .val (.int 1), .val (.int ex), .unset] [])) := by
      intro T100 h100 lo100 ex X100 e100 N100 Z100 A_b1 hex
      obtain ⟨T101, h101, X101, e101, E101, A101, D101, -, st101⟩ := newO X100 hx hZ hown (wm7 hw) (wm8 hw) (wm9 hw) e100 (g := (mkF m 262 #[z0, z1, z2, z3, z4, z5, .val (.int 4), .val (.int 0), z8, z9, .val (.ref b1), .val (.int u), .val (.ref b6), .val (.int 1), .val (.int 1), .val (.int ex), .unset] [])) rfl (hb hby at_262) (by decide) (by decide)
      obtain ⟨b101, gg101⟩ : ∃ z, z = h100.size := ⟨_, rfl⟩
      rw [← gg101] at A101 D101 st101
      have g_b101 : n0 ≤ b101 := Nat.le_trans Z100 (Nat.le_of_eq gg101.symm)
      have ne_b1_b101 : b1 ≠ b101 := Nat.ne_of_lt (Nat.lt_of_lt_of_le A_b1.lt (Nat.le_of_eq gg101.symm))
      have Z101 : n0 ≤ h101.size := Nat.le_trans Z100 E101.1
      have E_b101 := A101
      have F_b101_length : Fld Z h101 b101 "needlewise/kmp/SparseAutomaton" "length" "I" (.int 0) := D101 (Or.inr (wm21 hw)) (ty := .int) (by decide)
      have F_b101_forward : Fld Z h101 b101 "needlewise/kmp/SparseAutomaton" "forward" "[I" .null := D101 (Or.inr (wm24 hw)) (ty := (.array .int)) (by decide)
      have F_b101_rows : Fld Z h101 b101 "needlewise/kmp/SparseAutomaton" "rows" "[I" .null := D101 (Or.inr (wm26 hw)) (ty := (.array .int)) (by decide)
      have F_b101_units : Fld Z h101 b101 "needlewise/kmp/SparseAutomaton" "units" "[C" .null := D101 (Or.inr (wm28 hw)) (ty := (.array .char)) (by decide)
      have F_b101_targets : Fld Z h101 b101 "needlewise/kmp/SparseAutomaton" "targets" "[I" .null := D101 (Or.inr (wm30 hw)) (ty := (.array .int)) (by decide)
      refine Run.st st101 ?_
      show Run p e below s _ _ _ (T101.setTop (mkF m 265 #[z0, z1, z2, z3, z4, z5, .val (.int 4), .val (.int 0), z8, z9, .val (.ref b1), .val (.int u), .val (.ref b6), .val (.int 1), .val (.int 1), .val (.int ex), .unset] [(.ref b101)]))
      refine Run.x_dup (q := 266) X101 hx (hb hby at_265) rfl rfl ?_
      refine Run.x_aload (q := 268) X101 hx (hb hby at_266) rfl rfl rfl ?_
      refine Run.x_iload (q := 270) X101 hx (hb hby at_268) rfl rfl ?_
      replace A_b1 := A_b1.ext E101
      refine Run.callS X101 hx hZ e101 (y := (⟨"needlewise/kmp/SparseAutomatonNextPinLaw", "pattern", "([CI)[C"⟩ : MethodName)) hown (wm10 hw) (wm11 hw) (wm12 hw) (wm13 hw) (by decide) (argsL := [(.ref b1), (.int 4)]) (rest := [(.ref b101), (.ref b101)]) (c_pat4 l Z a0 hw b1 h101 n0 Z101 k0 k1 k2 k3 A_b1 rk0 rk1 rk2 rk3) pd_2 rfl (by rw [hml]; rfl) (W := 2) rfl (by decide) (by decide) (by decide) (by decide) (hb hby at_270) rfl ?_
      intro T102 v102 L102 X102 q102
      obtain ⟨np102, rfl, M102, K102, sz102, An102⟩ := q102
      have N102 := Fr.app N100 M102
      show Run p e below s _ _ _ (T102.setTop (mkF m 273 #[z0, z1, z2, z3, z4, z5, .val (.int 4), .val (.int 0), z8, z9, .val (.ref b1), .val (.int u), .val (.ref b6), .val (.int 1), .val (.int 1), .val (.int ex), .unset] [(.ref np102), (.ref b101), (.ref b101)]))
      have ne_b1_np102 : b1 ≠ np102 := Nat.ne_of_lt (Nat.lt_of_lt_of_le A_b1.lt sz102)
      have ne_b101_np102 : b101 ≠ np102 := Nat.ne_of_lt (Nat.lt_of_lt_of_le E_b101.lt sz102)
      have g_np102 : n0 ≤ np102 := Nat.le_trans Z101 sz102
      have Z102 : n0 ≤ T102.heap.size := Nat.le_trans Z101 K102.1
      replace E_b101 := E_b101.keep K102
      replace F_b101_length := F_b101_length.keep K102 nin0
      replace F_b101_forward := F_b101_forward.keep K102 nin0
      replace F_b101_rows := F_b101_rows.keep K102 nin0
      replace F_b101_units := F_b101_units.keep K102 nin0
      replace F_b101_targets := F_b101_targets.keep K102 nin0
      refine Run.callC X102 hx hZ rfl (y := (⟨"needlewise/kmp/SparseAutomaton", "<init>", "([C)V"⟩ : MethodName)) hown rfl (wm14 hw) (wm15 hw) (wm9 hw) (wm16 hw) (by decide) (a := b101) (argsL := [(.ref np102)]) (rest := [(.ref b101)]) (c_init4 l Z a0 hw b101 np102 T102.heap n0 Z102 k0 k1 k2 k3 E_b101 F_b101_length F_b101_forward F_b101_rows F_b101_units F_b101_targets An102 g_b101 ne_b101_np102 rk0 rk1 rk2 rk3) pd_3 rfl (by rw [hml]; rfl) (W := 1) rfl (by decide) (by decide) (by decide) (by decide) (hb hby at_273) rfl ?_
      intro T103 v103 L103 X103 q103
      obtain ⟨fo103, ro103, uo103, to103, rw103, un103, tg103, rfl, M103, E103, Ffo103, Fro103, Fuo103, Fto103, Afo103, Aro103, Auo103, Ato103, R103_0, R103_1, R103_2, R103_3, R103_4⟩ := q103
      have N103 := Fr.app N102 M103
      show Run p e below s _ _ _ (T103.setTop (mkF m 276 #[z0, z1, z2, z3, z4, z5, .val (.int 4), .val (.int 0), z8, z9, .val (.ref b1), .val (.int u), .val (.ref b6), .val (.int 1), .val (.int 1), .val (.int ex), .unset] [(.ref b101)]))
      have Z103 : n0 ≤ T103.heap.size := Nat.le_trans g_b101 (Nat.le_of_lt E103.lt)
      obtain ⟨aa, dd, za, ze, q1, q2, q3, q4, q5, q6, q7, q8⟩ := R103_0
      refine Run.x_astore (q := 278) X103 hx #[z0, z1, z2, z3, z4, z5, .val (.int 4), .val (.int 0), z8, z9, .val (.ref b1), .val (.int u), .val (.ref b6), .val (.int 1), .val (.int 1), .val (.int ex), .val (.ref b101)] (hb hby at_276) rfl rfl rfl ?_
      refine Run.x_aload (q := 280) X103 hx (hb hby at_278) rfl rfl rfl ?_
      refine Run.x_iload (q := 282) X103 hx (hb hby at_280) rfl rfl ?_
      refine Run.x_iload (q := 284) X103 hx (hb hby at_282) rfl rfl ?_
      refine Run.callVI (q := 287) X103 hx hZ rfl (y := (⟨"needlewise/kmp/SparseAutomaton", "next", "(IC)I"⟩ : MethodName)) (z := (⟨"needlewise/kmp/SparseAutomaton", "next", "(IC)I"⟩ : MethodName)) hown (wm31 hw) (wm32 hw) (notFace_of_selects (args := #[]) (mvT hZ (wm34 hw))) (wm34 hw) (wm33 hw) (wm9 hw) (wm35 hw) (by decide) (a := b101) E103 (argsL := [(.int 0), (.int u)]) (rest := []) (c_next l Z a0 hw b101 (0 : Int32) u T103.heap n0 Z103 fo103 ro103 uo103 to103 [(.int k0), (.int k1), (.int k2), (.int k3), (.int (-1))] (rw103.map Value.int) un103 tg103 0 aa dd k0 za ze (if k0 = u then (1 : Int32) else (0 : Int32)) E103 Ffo103 Fro103 Fuo103 Fto103 Afo103 Aro103 Auo103 Ato103 (by decide) (by decide) rfl q1 q2 q3 q4 q5 q6 q7 (q8 u ru.1)) pd_0 rfl (by rw [hml]; rfl) (W := 0) rfl (by decide) (by decide) (by decide) (by decide) (hb hby at_284) rfl rfl fun T104 L104 X104 M104 e104 => ?_
      have N104 := Fr.app N103 M104
      refine Run.x_iload (q := 289) X104 hx (hb hby at_287) rfl rfl ?_
      refine Run.x_icmpNo (q := 292) X104 hx (hb hby at_289) (teq hex.symm).2 rfl ?_
      refine Run.x_iconst (q := 293) X104 hx (hb hby at_292) (z := (1 : Int32)) rfl rfl ?_
      refine Run.x_goto (q := 297) X104 hx (hb hby at_293) (by decide) (by decide) ?_
      refine Run.retN X104 hx hlk e104 (t := .boolean) hret (by simp) (z' := (1 : Int32)) (by decide) (hb hby at_297) (by decide) (by decide) ?_
      exact ⟨rfl, N104⟩
     refine Run.x_iload (q := 161) X99 hx (hb hby at_159) rfl rfl ?_
     refine Run.x_iconst (q := 162) X99 hx (hb hby at_161) (z := (4 : Int32)) rfl rfl ?_
     refine Run.x_icmpYes (q := 184) X99 hx (hb hby at_162) (tlt (by decide : (1 : Int32) < (4 : Int32))).1 (by decide) (by decide) ?_
     refine Run.x_iload (q := 186) X99 hx (hb hby at_184) rfl rfl ?_
     refine Run.x_iconst (q := 187) X99 hx (hb hby at_186) (z := (3 : Int32)) rfl rfl ?_
     refine Run.x_icmpYes (q := 209) X99 hx (hb hby at_187) (tlt (by decide : (1 : Int32) < (3 : Int32))).1 (by decide) (by decide) ?_
     refine Run.x_iload (q := 211) X99 hx (hb hby at_209) rfl rfl ?_
     refine Run.x_iconst (q := 212) X99 hx (hb hby at_211) (z := (2 : Int32)) rfl rfl ?_
     refine Run.x_icmpYes (q := 234) X99 hx (hb hby at_212) (tlt (by decide : (1 : Int32) < (2 : Int32))).1 (by decide) (by decide) ?_
     refine Run.x_iload (q := 236) X99 hx (hb hby at_234) rfl rfl ?_
     refine Run.x_iconst (q := 237) X99 hx (hb hby at_236) (z := (1 : Int32)) rfl rfl ?_
     refine Run.x_icmpNo (q := 240) X99 hx (hb hby at_237) (flt (by decide : ¬ ((1 : Int32) < (1 : Int32)))).1 rfl ?_
     refine Run.x_aload (q := 242) X99 hx (hb hby at_240) rfl rfl rfl ?_
     refine Run.x_aload (q := 244) X99 hx (hb hby at_242) rfl rfl rfl ?_
     refine Run.x_iload (q := 246) X99 hx (hb hby at_244) rfl rfl ?_
     refine Run.x_iconst (q := 247) X99 hx (hb hby at_246) (z := (1 : Int32)) rfl rfl ?_
     replace A_b1 := ((A_b1.other W10 ne_b1_b6).other W11 ne_b1_b6).other W98 ne_b1_b6
     refine Run.callSI (q := 250) X99 hx hZ e99 (y := (⟨"needlewise/kmp/SparseAutomatonNextPinLaw", "ends", "([C[CII)Z"⟩ : MethodName)) hown (wm36 hw) (wm37 hw) (wm12 hw) (wm38 hw) (by decide) (argsL := [(.ref b1), (.ref b6), (.int 1), (.int 1)]) (rest := []) (c_end_1 l Z a0 hw b1 b6 (1 : Int32) h98 n0 Z98 k0 k1 k2 k3 u 0 [(.int u), (.int k1), (.int k2), (.int k3), (.int 0)] A_b1 A_b6 (by decide) rfl) pd_4 rfl (by rw [hml]; rfl) (W := 0) rfl (by decide) (by decide) (by decide) (by decide) (hb hby at_247) rfl rfl fun T105 L105 X105 M105 e105 => ?_
     have N105 := Fr.app N99 M105
     by_cases hc250 : (own_b (k0 = u)) = (0 : Int32)
     ·skip
      refine Run.x_ifYes (q := 259) X105 hx (hb hby at_250) ((if0 _ _).trans (teq hc250).1) (by decide) (by decide) ?_
      refine Run.x_iconst (q := 260) X105 hx (hb hby at_259) (z := (0 : Int32)) rfl rfl ?_
      refine Run.x_istore (q := 262) X105 hx #[z0, z1, z2, z3, z4, z5, .val (.int 4), .val (.int 0), z8, z9, .val (.ref b1), .val (.int u), .val (.ref b6), .val (.int 1), .val (.int 1), .val (.int 0), .unset] (hb hby at_260) rfl rfl ?_
      exact JX T105 h98 _ _ X105 e105 N105 Z98 A_b1 (Eq.symm (((if_neg (own_beq hc250)).trans rfl)))
     ·skip
      refine Run.x_ifNo (q := 253) X105 hx (hb hby at_250) ((if0 _ _).trans (feq hc250).1) rfl ?_
      refine Run.x_iconst (q := 254) X105 hx (hb hby at_253) (z := (1 : Int32)) rfl rfl ?_
      refine Run.x_istore (q := 256) X105 hx #[z0, z1, z2, z3, z4, z5, .val (.int 4), .val (.int 0), z8, z9, .val (.ref b1), .val (.int u), .val (.ref b6), .val (.int 1), .val (.int 1), .val (.int 1), .unset] (hb hby at_254) rfl rfl ?_
      refine Run.x_goto (q := 262) X105 hx (hb hby at_256) (by decide) (by decide) ?_
      exact JX T105 h98 _ _ X105 e105 N105 Z98 A_b1 (Eq.symm ((if_pos (own_bne hc250))))
    ·skip
     show Run p e below s _ _ _ (T11.setTop (mkF m 137 #[z0, z1, z2, z3, z4, z5, .val (.int 4), .val (.int 1), z8, z9, .val (.ref b1), .val (.int u), .val (.ref b6), .unset, .unset, .unset, .unset] []))
     refine Run.x_aload (q := 139) X11 hx (hb hby at_137) rfl rfl rfl ?_
     refine Run.x_iload (q := 141) X11 hx (hb hby at_139) rfl rfl ?_
     refine Run.x_iload (q := 143) X11 hx (hb hby at_141) rfl rfl ?_
     refine Run.y_stC (q := 144) X11 hx hZ e11 A_b6 (i := 1) (by decide) (Nat.le_of_ble_eq_true rfl) (z' := u) (own_nr ru) (hb hby at_143) rfl fun T106 h106 X106 e106 W106 A106 => ?_
     replace A_b6 : Ars Z h106 b6 .char [(.int k0), (.int u), (.int k2), (.int k3), (.int 0)] := A106
     have N106 := Fr.snoc X106 N11 g_b6
     have Z106 : n0 ≤ h106.size := Nat.le_trans Z11 (Nat.le_of_eq W106.size.symm)
     refine Run.x_iload (q := 146) X106 hx (hb hby at_144) rfl rfl ?_
     refine Run.x_iconst (q := 147) X106 hx (hb hby at_146) (z := (1 : Int32)) rfl rfl ?_
     refine Run.x_iadd (q := 148) X106 hx (hb hby at_147) (z := (2 : Int32)) (by decide) rfl ?_
     refine Run.x_istore (q := 150) X106 hx #[z0, z1, z2, z3, z4, z5, .val (.int 4), .val (.int 1), z8, z9, .val (.ref b1), .val (.int u), .val (.ref b6), .val (.int 2), .unset, .unset, .unset] (hb hby at_148) rfl rfl ?_
     refine Run.x_iload (q := 152) X106 hx (hb hby at_150) rfl rfl ?_
     refine Run.x_iload (q := 154) X106 hx (hb hby at_152) rfl rfl ?_
     refine Run.callSI (q := 157) X106 hx hZ e106 (y := (⟨"java/lang/Math", "min", "(II)I"⟩ : MethodName)) hown (wm3 hw) (wm4 hw) (wm5 hw) (wm6 hw) (by decide) (argsL := [(.int 2), (.int 4)]) (rest := []) (c_min l Z a0 hw (2 : Int32) (4 : Int32) h106 n0 Z106 (2 : Int32) (by decide)) pd_1 rfl (by rw [hml]; rfl) (W := 0) rfl (by decide) (by decide) (by decide) (by decide) (hb hby at_154) rfl rfl fun T107 L107 X107 M107 e107 => ?_
     have N107 := Fr.app N106 M107
     refine Run.x_istore (q := 159) X107 hx #[z0, z1, z2, z3, z4, z5, .val (.int 4), .val (.int 1), z8, z9, .val (.ref b1), .val (.int u), .val (.ref b6), .val (.int 2), .val (.int 2), .unset, .unset] (hb hby at_157) rfl rfl ?_
     have JX : ∀ (T108 : State) (h108 : Heap) (lo108 : List Loc) (ex : Int32), Stand p l e room_1 s m #[(.int p1), (.int p2), (.long p3), (.int p4), (.int p5)] below meth c T108 lo108 2 9 → T108.heap = h108 → Fr n0 lo108 → n0 ≤ h108.size → Ars Z h108 b1 .char [(.int k0), (.int k1), (.int k2), (.int k3)] → (ex = (if k0 = k0 ∧ k1 = u then (2 : Int32) else (if k0 = u then (1 : Int32) else (0 : Int32)))) → Run p e below s (Tru n0) room_1.cells room_1.slots (T108.setTop (mkF m 262 #[z0, z1, z2, z3, z4, z5, .val (.int 4), .val (.int 1), z8, z9, .val (.ref b1), .val (.int u), .val (.ref b6), .val (.int 2), .val (.int 2), .val (.int ex), .unset] [])) := by
      intro T108 h108 lo108 ex X108 e108 N108 Z108 A_b1 hex
      obtain ⟨T109, h109, X109, e109, E109, A109, D109, -, st109⟩ := newO X108 hx hZ hown (wm7 hw) (wm8 hw) (wm9 hw) e108 (g := (mkF m 262 #[z0, z1, z2, z3, z4, z5, .val (.int 4), .val (.int 1), z8, z9, .val (.ref b1), .val (.int u), .val (.ref b6), .val (.int 2), .val (.int 2), .val (.int ex), .unset] [])) rfl (hb hby at_262) (by decide) (by decide)
      obtain ⟨b109, gg109⟩ : ∃ z, z = h108.size := ⟨_, rfl⟩
      rw [← gg109] at A109 D109 st109
      have g_b109 : n0 ≤ b109 := Nat.le_trans Z108 (Nat.le_of_eq gg109.symm)
      have ne_b1_b109 : b1 ≠ b109 := Nat.ne_of_lt (Nat.lt_of_lt_of_le A_b1.lt (Nat.le_of_eq gg109.symm))
      have Z109 : n0 ≤ h109.size := Nat.le_trans Z108 E109.1
      have E_b109 := A109
      have F_b109_length : Fld Z h109 b109 "needlewise/kmp/SparseAutomaton" "length" "I" (.int 0) := D109 (Or.inr (wm21 hw)) (ty := .int) (by decide)
      have F_b109_forward : Fld Z h109 b109 "needlewise/kmp/SparseAutomaton" "forward" "[I" .null := D109 (Or.inr (wm24 hw)) (ty := (.array .int)) (by decide)
      have F_b109_rows : Fld Z h109 b109 "needlewise/kmp/SparseAutomaton" "rows" "[I" .null := D109 (Or.inr (wm26 hw)) (ty := (.array .int)) (by decide)
      have F_b109_units : Fld Z h109 b109 "needlewise/kmp/SparseAutomaton" "units" "[C" .null := D109 (Or.inr (wm28 hw)) (ty := (.array .char)) (by decide)
      have F_b109_targets : Fld Z h109 b109 "needlewise/kmp/SparseAutomaton" "targets" "[I" .null := D109 (Or.inr (wm30 hw)) (ty := (.array .int)) (by decide)
      refine Run.st st109 ?_
      show Run p e below s _ _ _ (T109.setTop (mkF m 265 #[z0, z1, z2, z3, z4, z5, .val (.int 4), .val (.int 1), z8, z9, .val (.ref b1), .val (.int u), .val (.ref b6), .val (.int 2), .val (.int 2), .val (.int ex), .unset] [(.ref b109)]))
      refine Run.x_dup (q := 266) X109 hx (hb hby at_265) rfl rfl ?_
      refine Run.x_aload (q := 268) X109 hx (hb hby at_266) rfl rfl rfl ?_
      refine Run.x_iload (q := 270) X109 hx (hb hby at_268) rfl rfl ?_
      replace A_b1 := A_b1.ext E109
      refine Run.callS X109 hx hZ e109 (y := (⟨"needlewise/kmp/SparseAutomatonNextPinLaw", "pattern", "([CI)[C"⟩ : MethodName)) hown (wm10 hw) (wm11 hw) (wm12 hw) (wm13 hw) (by decide) (argsL := [(.ref b1), (.int 4)]) (rest := [(.ref b109), (.ref b109)]) (c_pat4 l Z a0 hw b1 h109 n0 Z109 k0 k1 k2 k3 A_b1 rk0 rk1 rk2 rk3) pd_2 rfl (by rw [hml]; rfl) (W := 2) rfl (by decide) (by decide) (by decide) (by decide) (hb hby at_270) rfl ?_
      intro T110 v110 L110 X110 q110
      obtain ⟨np110, rfl, M110, K110, sz110, An110⟩ := q110
      have N110 := Fr.app N108 M110
      show Run p e below s _ _ _ (T110.setTop (mkF m 273 #[z0, z1, z2, z3, z4, z5, .val (.int 4), .val (.int 1), z8, z9, .val (.ref b1), .val (.int u), .val (.ref b6), .val (.int 2), .val (.int 2), .val (.int ex), .unset] [(.ref np110), (.ref b109), (.ref b109)]))
      have ne_b1_np110 : b1 ≠ np110 := Nat.ne_of_lt (Nat.lt_of_lt_of_le A_b1.lt sz110)
      have ne_b109_np110 : b109 ≠ np110 := Nat.ne_of_lt (Nat.lt_of_lt_of_le E_b109.lt sz110)
      have g_np110 : n0 ≤ np110 := Nat.le_trans Z109 sz110
      have Z110 : n0 ≤ T110.heap.size := Nat.le_trans Z109 K110.1
      replace E_b109 := E_b109.keep K110
      replace F_b109_length := F_b109_length.keep K110 nin0
      replace F_b109_forward := F_b109_forward.keep K110 nin0
      replace F_b109_rows := F_b109_rows.keep K110 nin0
      replace F_b109_units := F_b109_units.keep K110 nin0
      replace F_b109_targets := F_b109_targets.keep K110 nin0
      refine Run.callC X110 hx hZ rfl (y := (⟨"needlewise/kmp/SparseAutomaton", "<init>", "([C)V"⟩ : MethodName)) hown rfl (wm14 hw) (wm15 hw) (wm9 hw) (wm16 hw) (by decide) (a := b109) (argsL := [(.ref np110)]) (rest := [(.ref b109)]) (c_init4 l Z a0 hw b109 np110 T110.heap n0 Z110 k0 k1 k2 k3 E_b109 F_b109_length F_b109_forward F_b109_rows F_b109_units F_b109_targets An110 g_b109 ne_b109_np110 rk0 rk1 rk2 rk3) pd_3 rfl (by rw [hml]; rfl) (W := 1) rfl (by decide) (by decide) (by decide) (by decide) (hb hby at_273) rfl ?_
      intro T111 v111 L111 X111 q111
      obtain ⟨fo111, ro111, uo111, to111, rw111, un111, tg111, rfl, M111, E111, Ffo111, Fro111, Fuo111, Fto111, Afo111, Aro111, Auo111, Ato111, R111_0, R111_1, R111_2, R111_3, R111_4⟩ := q111
      have N111 := Fr.app N110 M111
      show Run p e below s _ _ _ (T111.setTop (mkF m 276 #[z0, z1, z2, z3, z4, z5, .val (.int 4), .val (.int 1), z8, z9, .val (.ref b1), .val (.int u), .val (.ref b6), .val (.int 2), .val (.int 2), .val (.int ex), .unset] [(.ref b109)]))
      have Z111 : n0 ≤ T111.heap.size := Nat.le_trans g_b109 (Nat.le_of_lt E111.lt)
      obtain ⟨aa, dd, za, ze, q1, q2, q3, q4, q5, q6, q7, q8⟩ := R111_1
      refine Run.x_astore (q := 278) X111 hx #[z0, z1, z2, z3, z4, z5, .val (.int 4), .val (.int 1), z8, z9, .val (.ref b1), .val (.int u), .val (.ref b6), .val (.int 2), .val (.int 2), .val (.int ex), .val (.ref b109)] (hb hby at_276) rfl rfl rfl ?_
      refine Run.x_aload (q := 280) X111 hx (hb hby at_278) rfl rfl rfl ?_
      refine Run.x_iload (q := 282) X111 hx (hb hby at_280) rfl rfl ?_
      refine Run.x_iload (q := 284) X111 hx (hb hby at_282) rfl rfl ?_
      refine Run.callVI (q := 287) X111 hx hZ rfl (y := (⟨"needlewise/kmp/SparseAutomaton", "next", "(IC)I"⟩ : MethodName)) (z := (⟨"needlewise/kmp/SparseAutomaton", "next", "(IC)I"⟩ : MethodName)) hown (wm31 hw) (wm32 hw) (notFace_of_selects (args := #[]) (mvT hZ (wm34 hw))) (wm34 hw) (wm33 hw) (wm9 hw) (wm35 hw) (by decide) (a := b109) E111 (argsL := [(.int 1), (.int u)]) (rest := []) (c_next l Z a0 hw b109 (1 : Int32) u T111.heap n0 Z111 fo111 ro111 uo111 to111 [(.int k0), (.int k1), (.int k2), (.int k3), (.int (-1))] (rw111.map Value.int) un111 tg111 1 aa dd k1 za ze (if k0 = k0 ∧ k1 = u then (2 : Int32) else (if k0 = u then (1 : Int32) else (0 : Int32))) E111 Ffo111 Fro111 Fuo111 Fto111 Afo111 Aro111 Auo111 Ato111 (by decide) (by decide) rfl q1 q2 q3 q4 q5 q6 q7 (q8 u ru.1)) pd_0 rfl (by rw [hml]; rfl) (W := 0) rfl (by decide) (by decide) (by decide) (by decide) (hb hby at_284) rfl rfl fun T112 L112 X112 M112 e112 => ?_
      have N112 := Fr.app N111 M112
      refine Run.x_iload (q := 289) X112 hx (hb hby at_287) rfl rfl ?_
      refine Run.x_icmpNo (q := 292) X112 hx (hb hby at_289) (teq hex.symm).2 rfl ?_
      refine Run.x_iconst (q := 293) X112 hx (hb hby at_292) (z := (1 : Int32)) rfl rfl ?_
      refine Run.x_goto (q := 297) X112 hx (hb hby at_293) (by decide) (by decide) ?_
      refine Run.retN X112 hx hlk e112 (t := .boolean) hret (by simp) (z' := (1 : Int32)) (by decide) (hb hby at_297) (by decide) (by decide) ?_
      exact ⟨rfl, N112⟩
     refine Run.x_iload (q := 161) X107 hx (hb hby at_159) rfl rfl ?_
     refine Run.x_iconst (q := 162) X107 hx (hb hby at_161) (z := (4 : Int32)) rfl rfl ?_
     refine Run.x_icmpYes (q := 184) X107 hx (hb hby at_162) (tlt (by decide : (2 : Int32) < (4 : Int32))).1 (by decide) (by decide) ?_
     refine Run.x_iload (q := 186) X107 hx (hb hby at_184) rfl rfl ?_
     refine Run.x_iconst (q := 187) X107 hx (hb hby at_186) (z := (3 : Int32)) rfl rfl ?_
     refine Run.x_icmpYes (q := 209) X107 hx (hb hby at_187) (tlt (by decide : (2 : Int32) < (3 : Int32))).1 (by decide) (by decide) ?_
     refine Run.x_iload (q := 211) X107 hx (hb hby at_209) rfl rfl ?_
     refine Run.x_iconst (q := 212) X107 hx (hb hby at_211) (z := (2 : Int32)) rfl rfl ?_
     refine Run.x_icmpNo (q := 215) X107 hx (hb hby at_212) (flt (by decide : ¬ ((2 : Int32) < (2 : Int32)))).1 rfl ?_
     refine Run.x_aload (q := 217) X107 hx (hb hby at_215) rfl rfl rfl ?_
     refine Run.x_aload (q := 219) X107 hx (hb hby at_217) rfl rfl rfl ?_
     refine Run.x_iload (q := 221) X107 hx (hb hby at_219) rfl rfl ?_
     refine Run.x_iconst (q := 222) X107 hx (hb hby at_221) (z := (2 : Int32)) rfl rfl ?_
     replace A_b1 := ((A_b1.other W10 ne_b1_b6).other W11 ne_b1_b6).other W106 ne_b1_b6
     refine Run.callSI (q := 225) X107 hx hZ e107 (y := (⟨"needlewise/kmp/SparseAutomatonNextPinLaw", "ends", "([C[CII)Z"⟩ : MethodName)) hown (wm36 hw) (wm37 hw) (wm12 hw) (wm38 hw) (by decide) (argsL := [(.ref b1), (.ref b6), (.int 2), (.int 2)]) (rest := []) (c_end_2 l Z a0 hw b1 b6 (2 : Int32) h106 n0 Z106 k0 k1 k2 k3 k0 u 0 1 [(.int k0), (.int u), (.int k2), (.int k3), (.int 0)] A_b1 A_b6 (by decide) (by decide) rfl rfl) pd_4 rfl (by rw [hml]; rfl) (W := 0) rfl (by decide) (by decide) (by decide) (by decide) (hb hby at_222) rfl rfl fun T113 L113 X113 M113 e113 => ?_
     have N113 := Fr.app N107 M113
     by_cases hc225 : (own_b (k0 = k0 ∧ k1 = u)) = (0 : Int32)
     ·skip
      refine Run.x_ifYes (q := 234) X113 hx (hb hby at_225) ((if0 _ _).trans (teq hc225).1) (by decide) (by decide) ?_
      refine Run.x_iload (q := 236) X113 hx (hb hby at_234) rfl rfl ?_
      refine Run.x_iconst (q := 237) X113 hx (hb hby at_236) (z := (1 : Int32)) rfl rfl ?_
      refine Run.x_icmpNo (q := 240) X113 hx (hb hby at_237) (flt (by decide : ¬ ((2 : Int32) < (1 : Int32)))).1 rfl ?_
      refine Run.x_aload (q := 242) X113 hx (hb hby at_240) rfl rfl rfl ?_
      refine Run.x_aload (q := 244) X113 hx (hb hby at_242) rfl rfl rfl ?_
      refine Run.x_iload (q := 246) X113 hx (hb hby at_244) rfl rfl ?_
      refine Run.x_iconst (q := 247) X113 hx (hb hby at_246) (z := (1 : Int32)) rfl rfl ?_
      refine Run.callSI (q := 250) X113 hx hZ e113 (y := (⟨"needlewise/kmp/SparseAutomatonNextPinLaw", "ends", "([C[CII)Z"⟩ : MethodName)) hown (wm36 hw) (wm37 hw) (wm12 hw) (wm38 hw) (by decide) (argsL := [(.ref b1), (.ref b6), (.int 2), (.int 1)]) (rest := []) (c_end_1 l Z a0 hw b1 b6 (2 : Int32) h106 n0 Z106 k0 k1 k2 k3 u 1 [(.int k0), (.int u), (.int k2), (.int k3), (.int 0)] A_b1 A_b6 (by decide) rfl) pd_4 rfl (by rw [hml]; rfl) (W := 0) rfl (by decide) (by decide) (by decide) (by decide) (hb hby at_247) rfl rfl fun T114 L114 X114 M114 e114 => ?_
      have N114 := Fr.app N113 M114
      by_cases hc250 : (own_b (k0 = u)) = (0 : Int32)
      ·skip
       refine Run.x_ifYes (q := 259) X114 hx (hb hby at_250) ((if0 _ _).trans (teq hc250).1) (by decide) (by decide) ?_
       refine Run.x_iconst (q := 260) X114 hx (hb hby at_259) (z := (0 : Int32)) rfl rfl ?_
       refine Run.x_istore (q := 262) X114 hx #[z0, z1, z2, z3, z4, z5, .val (.int 4), .val (.int 1), z8, z9, .val (.ref b1), .val (.int u), .val (.ref b6), .val (.int 2), .val (.int 2), .val (.int 0), .unset] (hb hby at_260) rfl rfl ?_
       exact JX T114 h106 _ _ X114 e114 N114 Z106 A_b1 (Eq.symm (((if_neg (own_beq hc225)).trans ((if_neg (own_beq hc250)).trans rfl))))
      ·skip
       refine Run.x_ifNo (q := 253) X114 hx (hb hby at_250) ((if0 _ _).trans (feq hc250).1) rfl ?_
       refine Run.x_iconst (q := 254) X114 hx (hb hby at_253) (z := (1 : Int32)) rfl rfl ?_
       refine Run.x_istore (q := 256) X114 hx #[z0, z1, z2, z3, z4, z5, .val (.int 4), .val (.int 1), z8, z9, .val (.ref b1), .val (.int u), .val (.ref b6), .val (.int 2), .val (.int 2), .val (.int 1), .unset] (hb hby at_254) rfl rfl ?_
       refine Run.x_goto (q := 262) X114 hx (hb hby at_256) (by decide) (by decide) ?_
       exact JX T114 h106 _ _ X114 e114 N114 Z106 A_b1 (Eq.symm (((if_neg (own_beq hc225)).trans (if_pos (own_bne hc250)))))
     ·skip
      refine Run.x_ifNo (q := 228) X113 hx (hb hby at_225) ((if0 _ _).trans (feq hc225).1) rfl ?_
      refine Run.x_iconst (q := 229) X113 hx (hb hby at_228) (z := (2 : Int32)) rfl rfl ?_
      refine Run.x_istore (q := 231) X113 hx #[z0, z1, z2, z3, z4, z5, .val (.int 4), .val (.int 1), z8, z9, .val (.ref b1), .val (.int u), .val (.ref b6), .val (.int 2), .val (.int 2), .val (.int 2), .unset] (hb hby at_229) rfl rfl ?_
      refine Run.x_goto (q := 262) X113 hx (hb hby at_231) (by decide) (by decide) ?_
      exact JX T113 h106 _ _ X113 e113 N113 Z106 A_b1 (Eq.symm ((if_pos (own_bne hc225))))
    ·skip
     show Run p e below s _ _ _ (T11.setTop (mkF m 137 #[z0, z1, z2, z3, z4, z5, .val (.int 4), .val (.int 2), z8, z9, .val (.ref b1), .val (.int u), .val (.ref b6), .unset, .unset, .unset, .unset] []))
     refine Run.x_aload (q := 139) X11 hx (hb hby at_137) rfl rfl rfl ?_
     refine Run.x_iload (q := 141) X11 hx (hb hby at_139) rfl rfl ?_
     refine Run.x_iload (q := 143) X11 hx (hb hby at_141) rfl rfl ?_
     refine Run.y_stC (q := 144) X11 hx hZ e11 A_b6 (i := 2) (by decide) (Nat.le_of_ble_eq_true rfl) (z' := u) (own_nr ru) (hb hby at_143) rfl fun T115 h115 X115 e115 W115 A115 => ?_
     replace A_b6 : Ars Z h115 b6 .char [(.int k0), (.int k1), (.int u), (.int k3), (.int 0)] := A115
     have N115 := Fr.snoc X115 N11 g_b6
     have Z115 : n0 ≤ h115.size := Nat.le_trans Z11 (Nat.le_of_eq W115.size.symm)
     refine Run.x_iload (q := 146) X115 hx (hb hby at_144) rfl rfl ?_
     refine Run.x_iconst (q := 147) X115 hx (hb hby at_146) (z := (1 : Int32)) rfl rfl ?_
     refine Run.x_iadd (q := 148) X115 hx (hb hby at_147) (z := (3 : Int32)) (by decide) rfl ?_
     refine Run.x_istore (q := 150) X115 hx #[z0, z1, z2, z3, z4, z5, .val (.int 4), .val (.int 2), z8, z9, .val (.ref b1), .val (.int u), .val (.ref b6), .val (.int 3), .unset, .unset, .unset] (hb hby at_148) rfl rfl ?_
     refine Run.x_iload (q := 152) X115 hx (hb hby at_150) rfl rfl ?_
     refine Run.x_iload (q := 154) X115 hx (hb hby at_152) rfl rfl ?_
     refine Run.callSI (q := 157) X115 hx hZ e115 (y := (⟨"java/lang/Math", "min", "(II)I"⟩ : MethodName)) hown (wm3 hw) (wm4 hw) (wm5 hw) (wm6 hw) (by decide) (argsL := [(.int 3), (.int 4)]) (rest := []) (c_min l Z a0 hw (3 : Int32) (4 : Int32) h115 n0 Z115 (3 : Int32) (by decide)) pd_1 rfl (by rw [hml]; rfl) (W := 0) rfl (by decide) (by decide) (by decide) (by decide) (hb hby at_154) rfl rfl fun T116 L116 X116 M116 e116 => ?_
     have N116 := Fr.app N115 M116
     refine Run.x_istore (q := 159) X116 hx #[z0, z1, z2, z3, z4, z5, .val (.int 4), .val (.int 2), z8, z9, .val (.ref b1), .val (.int u), .val (.ref b6), .val (.int 3), .val (.int 3), .unset, .unset] (hb hby at_157) rfl rfl ?_
     have JX : ∀ (T117 : State) (h117 : Heap) (lo117 : List Loc) (ex : Int32), Stand p l e room_1 s m #[(.int p1), (.int p2), (.long p3), (.int p4), (.int p5)] below meth c T117 lo117 2 9 → T117.heap = h117 → Fr n0 lo117 → n0 ≤ h117.size → Ars Z h117 b1 .char [(.int k0), (.int k1), (.int k2), (.int k3)] → (ex = (if k0 = k0 ∧ k1 = k1 ∧ k2 = u then (3 : Int32) else (if k0 = k1 ∧ k1 = u then (2 : Int32) else (if k0 = u then (1 : Int32) else (0 : Int32))))) → Run p e below s (Tru n0) room_1.cells room_1.slots (T117.setTop (mkF m 262 #[z0, z1, z2, z3, z4, z5, .val (.int 4), .val (.int 2), z8, z9, .val (.ref b1), .val (.int u), .val (.ref b6), .val (.int 3), .val (.int 3), .val (.int ex), .unset] [])) := by
      intro T117 h117 lo117 ex X117 e117 N117 Z117 A_b1 hex
      obtain ⟨T118, h118, X118, e118, E118, A118, D118, -, st118⟩ := newO X117 hx hZ hown (wm7 hw) (wm8 hw) (wm9 hw) e117 (g := (mkF m 262 #[z0, z1, z2, z3, z4, z5, .val (.int 4), .val (.int 2), z8, z9, .val (.ref b1), .val (.int u), .val (.ref b6), .val (.int 3), .val (.int 3), .val (.int ex), .unset] [])) rfl (hb hby at_262) (by decide) (by decide)
      obtain ⟨b118, gg118⟩ : ∃ z, z = h117.size := ⟨_, rfl⟩
      rw [← gg118] at A118 D118 st118
      have g_b118 : n0 ≤ b118 := Nat.le_trans Z117 (Nat.le_of_eq gg118.symm)
      have ne_b1_b118 : b1 ≠ b118 := Nat.ne_of_lt (Nat.lt_of_lt_of_le A_b1.lt (Nat.le_of_eq gg118.symm))
      have Z118 : n0 ≤ h118.size := Nat.le_trans Z117 E118.1
      have E_b118 := A118
      have F_b118_length : Fld Z h118 b118 "needlewise/kmp/SparseAutomaton" "length" "I" (.int 0) := D118 (Or.inr (wm21 hw)) (ty := .int) (by decide)
      have F_b118_forward : Fld Z h118 b118 "needlewise/kmp/SparseAutomaton" "forward" "[I" .null := D118 (Or.inr (wm24 hw)) (ty := (.array .int)) (by decide)
      have F_b118_rows : Fld Z h118 b118 "needlewise/kmp/SparseAutomaton" "rows" "[I" .null := D118 (Or.inr (wm26 hw)) (ty := (.array .int)) (by decide)
      have F_b118_units : Fld Z h118 b118 "needlewise/kmp/SparseAutomaton" "units" "[C" .null := D118 (Or.inr (wm28 hw)) (ty := (.array .char)) (by decide)
      have F_b118_targets : Fld Z h118 b118 "needlewise/kmp/SparseAutomaton" "targets" "[I" .null := D118 (Or.inr (wm30 hw)) (ty := (.array .int)) (by decide)
      refine Run.st st118 ?_
      show Run p e below s _ _ _ (T118.setTop (mkF m 265 #[z0, z1, z2, z3, z4, z5, .val (.int 4), .val (.int 2), z8, z9, .val (.ref b1), .val (.int u), .val (.ref b6), .val (.int 3), .val (.int 3), .val (.int ex), .unset] [(.ref b118)]))
      refine Run.x_dup (q := 266) X118 hx (hb hby at_265) rfl rfl ?_
      refine Run.x_aload (q := 268) X118 hx (hb hby at_266) rfl rfl rfl ?_
      refine Run.x_iload (q := 270) X118 hx (hb hby at_268) rfl rfl ?_
      replace A_b1 := A_b1.ext E118
      refine Run.callS X118 hx hZ e118 (y := (⟨"needlewise/kmp/SparseAutomatonNextPinLaw", "pattern", "([CI)[C"⟩ : MethodName)) hown (wm10 hw) (wm11 hw) (wm12 hw) (wm13 hw) (by decide) (argsL := [(.ref b1), (.int 4)]) (rest := [(.ref b118), (.ref b118)]) (c_pat4 l Z a0 hw b1 h118 n0 Z118 k0 k1 k2 k3 A_b1 rk0 rk1 rk2 rk3) pd_2 rfl (by rw [hml]; rfl) (W := 2) rfl (by decide) (by decide) (by decide) (by decide) (hb hby at_270) rfl ?_
      intro T119 v119 L119 X119 q119
      obtain ⟨np119, rfl, M119, K119, sz119, An119⟩ := q119
      have N119 := Fr.app N117 M119
      show Run p e below s _ _ _ (T119.setTop (mkF m 273 #[z0, z1, z2, z3, z4, z5, .val (.int 4), .val (.int 2), z8, z9, .val (.ref b1), .val (.int u), .val (.ref b6), .val (.int 3), .val (.int 3), .val (.int ex), .unset] [(.ref np119), (.ref b118), (.ref b118)]))
      have ne_b1_np119 : b1 ≠ np119 := Nat.ne_of_lt (Nat.lt_of_lt_of_le A_b1.lt sz119)
      have ne_b118_np119 : b118 ≠ np119 := Nat.ne_of_lt (Nat.lt_of_lt_of_le E_b118.lt sz119)
      have g_np119 : n0 ≤ np119 := Nat.le_trans Z118 sz119
      have Z119 : n0 ≤ T119.heap.size := Nat.le_trans Z118 K119.1
      replace E_b118 := E_b118.keep K119
      replace F_b118_length := F_b118_length.keep K119 nin0
      replace F_b118_forward := F_b118_forward.keep K119 nin0
      replace F_b118_rows := F_b118_rows.keep K119 nin0
      replace F_b118_units := F_b118_units.keep K119 nin0
      replace F_b118_targets := F_b118_targets.keep K119 nin0
      refine Run.callC X119 hx hZ rfl (y := (⟨"needlewise/kmp/SparseAutomaton", "<init>", "([C)V"⟩ : MethodName)) hown rfl (wm14 hw) (wm15 hw) (wm9 hw) (wm16 hw) (by decide) (a := b118) (argsL := [(.ref np119)]) (rest := [(.ref b118)]) (c_init4 l Z a0 hw b118 np119 T119.heap n0 Z119 k0 k1 k2 k3 E_b118 F_b118_length F_b118_forward F_b118_rows F_b118_units F_b118_targets An119 g_b118 ne_b118_np119 rk0 rk1 rk2 rk3) pd_3 rfl (by rw [hml]; rfl) (W := 1) rfl (by decide) (by decide) (by decide) (by decide) (hb hby at_273) rfl ?_
      intro T120 v120 L120 X120 q120
      obtain ⟨fo120, ro120, uo120, to120, rw120, un120, tg120, rfl, M120, E120, Ffo120, Fro120, Fuo120, Fto120, Afo120, Aro120, Auo120, Ato120, R120_0, R120_1, R120_2, R120_3, R120_4⟩ := q120
      have N120 := Fr.app N119 M120
      show Run p e below s _ _ _ (T120.setTop (mkF m 276 #[z0, z1, z2, z3, z4, z5, .val (.int 4), .val (.int 2), z8, z9, .val (.ref b1), .val (.int u), .val (.ref b6), .val (.int 3), .val (.int 3), .val (.int ex), .unset] [(.ref b118)]))
      have Z120 : n0 ≤ T120.heap.size := Nat.le_trans g_b118 (Nat.le_of_lt E120.lt)
      obtain ⟨aa, dd, za, ze, q1, q2, q3, q4, q5, q6, q7, q8⟩ := R120_2
      refine Run.x_astore (q := 278) X120 hx #[z0, z1, z2, z3, z4, z5, .val (.int 4), .val (.int 2), z8, z9, .val (.ref b1), .val (.int u), .val (.ref b6), .val (.int 3), .val (.int 3), .val (.int ex), .val (.ref b118)] (hb hby at_276) rfl rfl rfl ?_
      refine Run.x_aload (q := 280) X120 hx (hb hby at_278) rfl rfl rfl ?_
      refine Run.x_iload (q := 282) X120 hx (hb hby at_280) rfl rfl ?_
      refine Run.x_iload (q := 284) X120 hx (hb hby at_282) rfl rfl ?_
      refine Run.callVI (q := 287) X120 hx hZ rfl (y := (⟨"needlewise/kmp/SparseAutomaton", "next", "(IC)I"⟩ : MethodName)) (z := (⟨"needlewise/kmp/SparseAutomaton", "next", "(IC)I"⟩ : MethodName)) hown (wm31 hw) (wm32 hw) (notFace_of_selects (args := #[]) (mvT hZ (wm34 hw))) (wm34 hw) (wm33 hw) (wm9 hw) (wm35 hw) (by decide) (a := b118) E120 (argsL := [(.int 2), (.int u)]) (rest := []) (c_next l Z a0 hw b118 (2 : Int32) u T120.heap n0 Z120 fo120 ro120 uo120 to120 [(.int k0), (.int k1), (.int k2), (.int k3), (.int (-1))] (rw120.map Value.int) un120 tg120 2 aa dd k2 za ze (if k0 = k0 ∧ k1 = k1 ∧ k2 = u then (3 : Int32) else (if k0 = k1 ∧ k1 = u then (2 : Int32) else (if k0 = u then (1 : Int32) else (0 : Int32)))) E120 Ffo120 Fro120 Fuo120 Fto120 Afo120 Aro120 Auo120 Ato120 (by decide) (by decide) rfl q1 q2 q3 q4 q5 q6 q7 (q8 u ru.1)) pd_0 rfl (by rw [hml]; rfl) (W := 0) rfl (by decide) (by decide) (by decide) (by decide) (hb hby at_284) rfl rfl fun T121 L121 X121 M121 e121 => ?_
      have N121 := Fr.app N120 M121
      refine Run.x_iload (q := 289) X121 hx (hb hby at_287) rfl rfl ?_
      refine Run.x_icmpNo (q := 292) X121 hx (hb hby at_289) (teq hex.symm).2 rfl ?_
      refine Run.x_iconst (q := 293) X121 hx (hb hby at_292) (z := (1 : Int32)) rfl rfl ?_
      refine Run.x_goto (q := 297) X121 hx (hb hby at_293) (by decide) (by decide) ?_
      refine Run.retN X121 hx hlk e121 (t := .boolean) hret (by simp) (z' := (1 : Int32)) (by decide) (hb hby at_297) (by decide) (by decide) ?_
      exact ⟨rfl, N121⟩
     refine Run.x_iload (q := 161) X116 hx (hb hby at_159) rfl rfl ?_
     refine Run.x_iconst (q := 162) X116 hx (hb hby at_161) (z := (4 : Int32)) rfl rfl ?_
     refine Run.x_icmpYes (q := 184) X116 hx (hb hby at_162) (tlt (by decide : (3 : Int32) < (4 : Int32))).1 (by decide) (by decide) ?_
     refine Run.x_iload (q := 186) X116 hx (hb hby at_184) rfl rfl ?_
     refine Run.x_iconst (q := 187) X116 hx (hb hby at_186) (z := (3 : Int32)) rfl rfl ?_
     refine Run.x_icmpNo (q := 190) X116 hx (hb hby at_187) (flt (by decide : ¬ ((3 : Int32) < (3 : Int32)))).1 rfl ?_
     refine Run.x_aload (q := 192) X116 hx (hb hby at_190) rfl rfl rfl ?_
     refine Run.x_aload (q := 194) X116 hx (hb hby at_192) rfl rfl rfl ?_
     refine Run.x_iload (q := 196) X116 hx (hb hby at_194) rfl rfl ?_
     refine Run.x_iconst (q := 197) X116 hx (hb hby at_196) (z := (3 : Int32)) rfl rfl ?_
     replace A_b1 := ((A_b1.other W10 ne_b1_b6).other W11 ne_b1_b6).other W115 ne_b1_b6
     refine Run.callSI (q := 200) X116 hx hZ e116 (y := (⟨"needlewise/kmp/SparseAutomatonNextPinLaw", "ends", "([C[CII)Z"⟩ : MethodName)) hown (wm36 hw) (wm37 hw) (wm12 hw) (wm38 hw) (by decide) (argsL := [(.ref b1), (.ref b6), (.int 3), (.int 3)]) (rest := []) (c_end_3 l Z a0 hw b1 b6 (3 : Int32) h115 n0 Z115 k0 k1 k2 k3 k0 k1 u 0 1 2 [(.int k0), (.int k1), (.int u), (.int k3), (.int 0)] A_b1 A_b6 (by decide) (by decide) (by decide) rfl rfl rfl) pd_4 rfl (by rw [hml]; rfl) (W := 0) rfl (by decide) (by decide) (by decide) (by decide) (hb hby at_197) rfl rfl fun T122 L122 X122 M122 e122 => ?_
     have N122 := Fr.app N116 M122
     by_cases hc200 : (own_b (k0 = k0 ∧ k1 = k1 ∧ k2 = u)) = (0 : Int32)
     ·skip
      refine Run.x_ifYes (q := 209) X122 hx (hb hby at_200) ((if0 _ _).trans (teq hc200).1) (by decide) (by decide) ?_
      refine Run.x_iload (q := 211) X122 hx (hb hby at_209) rfl rfl ?_
      refine Run.x_iconst (q := 212) X122 hx (hb hby at_211) (z := (2 : Int32)) rfl rfl ?_
      refine Run.x_icmpNo (q := 215) X122 hx (hb hby at_212) (flt (by decide : ¬ ((3 : Int32) < (2 : Int32)))).1 rfl ?_
      refine Run.x_aload (q := 217) X122 hx (hb hby at_215) rfl rfl rfl ?_
      refine Run.x_aload (q := 219) X122 hx (hb hby at_217) rfl rfl rfl ?_
      refine Run.x_iload (q := 221) X122 hx (hb hby at_219) rfl rfl ?_
      refine Run.x_iconst (q := 222) X122 hx (hb hby at_221) (z := (2 : Int32)) rfl rfl ?_
      refine Run.callSI (q := 225) X122 hx hZ e122 (y := (⟨"needlewise/kmp/SparseAutomatonNextPinLaw", "ends", "([C[CII)Z"⟩ : MethodName)) hown (wm36 hw) (wm37 hw) (wm12 hw) (wm38 hw) (by decide) (argsL := [(.ref b1), (.ref b6), (.int 3), (.int 2)]) (rest := []) (c_end_2 l Z a0 hw b1 b6 (3 : Int32) h115 n0 Z115 k0 k1 k2 k3 k1 u 1 2 [(.int k0), (.int k1), (.int u), (.int k3), (.int 0)] A_b1 A_b6 (by decide) (by decide) rfl rfl) pd_4 rfl (by rw [hml]; rfl) (W := 0) rfl (by decide) (by decide) (by decide) (by decide) (hb hby at_222) rfl rfl fun T123 L123 X123 M123 e123 => ?_
      have N123 := Fr.app N122 M123
      by_cases hc225 : (own_b (k0 = k1 ∧ k1 = u)) = (0 : Int32)
      ·skip
       refine Run.x_ifYes (q := 234) X123 hx (hb hby at_225) ((if0 _ _).trans (teq hc225).1) (by decide) (by decide) ?_
       refine Run.x_iload (q := 236) X123 hx (hb hby at_234) rfl rfl ?_
       refine Run.x_iconst (q := 237) X123 hx (hb hby at_236) (z := (1 : Int32)) rfl rfl ?_
       refine Run.x_icmpNo (q := 240) X123 hx (hb hby at_237) (flt (by decide : ¬ ((3 : Int32) < (1 : Int32)))).1 rfl ?_
       refine Run.x_aload (q := 242) X123 hx (hb hby at_240) rfl rfl rfl ?_
       refine Run.x_aload (q := 244) X123 hx (hb hby at_242) rfl rfl rfl ?_
       refine Run.x_iload (q := 246) X123 hx (hb hby at_244) rfl rfl ?_
       refine Run.x_iconst (q := 247) X123 hx (hb hby at_246) (z := (1 : Int32)) rfl rfl ?_
       refine Run.callSI (q := 250) X123 hx hZ e123 (y := (⟨"needlewise/kmp/SparseAutomatonNextPinLaw", "ends", "([C[CII)Z"⟩ : MethodName)) hown (wm36 hw) (wm37 hw) (wm12 hw) (wm38 hw) (by decide) (argsL := [(.ref b1), (.ref b6), (.int 3), (.int 1)]) (rest := []) (c_end_1 l Z a0 hw b1 b6 (3 : Int32) h115 n0 Z115 k0 k1 k2 k3 u 2 [(.int k0), (.int k1), (.int u), (.int k3), (.int 0)] A_b1 A_b6 (by decide) rfl) pd_4 rfl (by rw [hml]; rfl) (W := 0) rfl (by decide) (by decide) (by decide) (by decide) (hb hby at_247) rfl rfl fun T124 L124 X124 M124 e124 => ?_
       have N124 := Fr.app N123 M124
       by_cases hc250 : (own_b (k0 = u)) = (0 : Int32)
       ·skip
        refine Run.x_ifYes (q := 259) X124 hx (hb hby at_250) ((if0 _ _).trans (teq hc250).1) (by decide) (by decide) ?_
        refine Run.x_iconst (q := 260) X124 hx (hb hby at_259) (z := (0 : Int32)) rfl rfl ?_
        refine Run.x_istore (q := 262) X124 hx #[z0, z1, z2, z3, z4, z5, .val (.int 4), .val (.int 2), z8, z9, .val (.ref b1), .val (.int u), .val (.ref b6), .val (.int 3), .val (.int 3), .val (.int 0), .unset] (hb hby at_260) rfl rfl ?_
        exact JX T124 h115 _ _ X124 e124 N124 Z115 A_b1 (Eq.symm (((if_neg (own_beq hc200)).trans ((if_neg (own_beq hc225)).trans ((if_neg (own_beq hc250)).trans rfl)))))
       ·skip
        refine Run.x_ifNo (q := 253) X124 hx (hb hby at_250) ((if0 _ _).trans (feq hc250).1) rfl ?_
        refine Run.x_iconst (q := 254) X124 hx (hb hby at_253) (z := (1 : Int32)) rfl rfl ?_
        refine Run.x_istore (q := 256) X124 hx #[z0, z1, z2, z3, z4, z5, .val (.int 4), .val (.int 2), z8, z9, .val (.ref b1), .val (.int u), .val (.ref b6), .val (.int 3), .val (.int 3), .val (.int 1), .unset] (hb hby at_254) rfl rfl ?_
        refine Run.x_goto (q := 262) X124 hx (hb hby at_256) (by decide) (by decide) ?_
        exact JX T124 h115 _ _ X124 e124 N124 Z115 A_b1 (Eq.symm (((if_neg (own_beq hc200)).trans ((if_neg (own_beq hc225)).trans (if_pos (own_bne hc250))))))
      ·skip
       refine Run.x_ifNo (q := 228) X123 hx (hb hby at_225) ((if0 _ _).trans (feq hc225).1) rfl ?_
       refine Run.x_iconst (q := 229) X123 hx (hb hby at_228) (z := (2 : Int32)) rfl rfl ?_
       refine Run.x_istore (q := 231) X123 hx #[z0, z1, z2, z3, z4, z5, .val (.int 4), .val (.int 2), z8, z9, .val (.ref b1), .val (.int u), .val (.ref b6), .val (.int 3), .val (.int 3), .val (.int 2), .unset] (hb hby at_229) rfl rfl ?_
       refine Run.x_goto (q := 262) X123 hx (hb hby at_231) (by decide) (by decide) ?_
       exact JX T123 h115 _ _ X123 e123 N123 Z115 A_b1 (Eq.symm (((if_neg (own_beq hc200)).trans (if_pos (own_bne hc225)))))
     ·skip
      refine Run.x_ifNo (q := 203) X122 hx (hb hby at_200) ((if0 _ _).trans (feq hc200).1) rfl ?_
      refine Run.x_iconst (q := 204) X122 hx (hb hby at_203) (z := (3 : Int32)) rfl rfl ?_
      refine Run.x_istore (q := 206) X122 hx #[z0, z1, z2, z3, z4, z5, .val (.int 4), .val (.int 2), z8, z9, .val (.ref b1), .val (.int u), .val (.ref b6), .val (.int 3), .val (.int 3), .val (.int 3), .unset] (hb hby at_204) rfl rfl ?_
      refine Run.x_goto (q := 262) X122 hx (hb hby at_206) (by decide) (by decide) ?_
      exact JX T122 h115 _ _ X122 e122 N122 Z115 A_b1 (Eq.symm ((if_pos (own_bne hc200))))
    ·skip
     show Run p e below s _ _ _ (T11.setTop (mkF m 137 #[z0, z1, z2, z3, z4, z5, .val (.int 4), .val (.int 3), z8, z9, .val (.ref b1), .val (.int u), .val (.ref b6), .unset, .unset, .unset, .unset] []))
     refine Run.x_aload (q := 139) X11 hx (hb hby at_137) rfl rfl rfl ?_
     refine Run.x_iload (q := 141) X11 hx (hb hby at_139) rfl rfl ?_
     refine Run.x_iload (q := 143) X11 hx (hb hby at_141) rfl rfl ?_
     refine Run.y_stC (q := 144) X11 hx hZ e11 A_b6 (i := 3) (by decide) (Nat.le_of_ble_eq_true rfl) (z' := u) (own_nr ru) (hb hby at_143) rfl fun T125 h125 X125 e125 W125 A125 => ?_
     replace A_b6 : Ars Z h125 b6 .char [(.int k0), (.int k1), (.int k2), (.int u), (.int 0)] := A125
     have N125 := Fr.snoc X125 N11 g_b6
     have Z125 : n0 ≤ h125.size := Nat.le_trans Z11 (Nat.le_of_eq W125.size.symm)
     refine Run.x_iload (q := 146) X125 hx (hb hby at_144) rfl rfl ?_
     refine Run.x_iconst (q := 147) X125 hx (hb hby at_146) (z := (1 : Int32)) rfl rfl ?_
     refine Run.x_iadd (q := 148) X125 hx (hb hby at_147) (z := (4 : Int32)) (by decide) rfl ?_
     refine Run.x_istore (q := 150) X125 hx #[z0, z1, z2, z3, z4, z5, .val (.int 4), .val (.int 3), z8, z9, .val (.ref b1), .val (.int u), .val (.ref b6), .val (.int 4), .unset, .unset, .unset] (hb hby at_148) rfl rfl ?_
     refine Run.x_iload (q := 152) X125 hx (hb hby at_150) rfl rfl ?_
     refine Run.x_iload (q := 154) X125 hx (hb hby at_152) rfl rfl ?_
     refine Run.callSI (q := 157) X125 hx hZ e125 (y := (⟨"java/lang/Math", "min", "(II)I"⟩ : MethodName)) hown (wm3 hw) (wm4 hw) (wm5 hw) (wm6 hw) (by decide) (argsL := [(.int 4), (.int 4)]) (rest := []) (c_min l Z a0 hw (4 : Int32) (4 : Int32) h125 n0 Z125 (4 : Int32) (by decide)) pd_1 rfl (by rw [hml]; rfl) (W := 0) rfl (by decide) (by decide) (by decide) (by decide) (hb hby at_154) rfl rfl fun T126 L126 X126 M126 e126 => ?_
     have N126 := Fr.app N125 M126
     refine Run.x_istore (q := 159) X126 hx #[z0, z1, z2, z3, z4, z5, .val (.int 4), .val (.int 3), z8, z9, .val (.ref b1), .val (.int u), .val (.ref b6), .val (.int 4), .val (.int 4), .unset, .unset] (hb hby at_157) rfl rfl ?_
     have JX : ∀ (T127 : State) (h127 : Heap) (lo127 : List Loc) (ex : Int32), Stand p l e room_1 s m #[(.int p1), (.int p2), (.long p3), (.int p4), (.int p5)] below meth c T127 lo127 2 9 → T127.heap = h127 → Fr n0 lo127 → n0 ≤ h127.size → Ars Z h127 b1 .char [(.int k0), (.int k1), (.int k2), (.int k3)] → (ex = (if k0 = k0 ∧ k1 = k1 ∧ k2 = k2 ∧ k3 = u then (4 : Int32) else (if k0 = k1 ∧ k1 = k2 ∧ k2 = u then (3 : Int32) else (if k0 = k2 ∧ k1 = u then (2 : Int32) else (if k0 = u then (1 : Int32) else (0 : Int32)))))) → Run p e below s (Tru n0) room_1.cells room_1.slots (T127.setTop (mkF m 262 #[z0, z1, z2, z3, z4, z5, .val (.int 4), .val (.int 3), z8, z9, .val (.ref b1), .val (.int u), .val (.ref b6), .val (.int 4), .val (.int 4), .val (.int ex), .unset] [])) := by
      intro T127 h127 lo127 ex X127 e127 N127 Z127 A_b1 hex
      obtain ⟨T128, h128, X128, e128, E128, A128, D128, -, st128⟩ := newO X127 hx hZ hown (wm7 hw) (wm8 hw) (wm9 hw) e127 (g := (mkF m 262 #[z0, z1, z2, z3, z4, z5, .val (.int 4), .val (.int 3), z8, z9, .val (.ref b1), .val (.int u), .val (.ref b6), .val (.int 4), .val (.int 4), .val (.int ex), .unset] [])) rfl (hb hby at_262) (by decide) (by decide)
      obtain ⟨b128, gg128⟩ : ∃ z, z = h127.size := ⟨_, rfl⟩
      rw [← gg128] at A128 D128 st128
      have g_b128 : n0 ≤ b128 := Nat.le_trans Z127 (Nat.le_of_eq gg128.symm)
      have ne_b1_b128 : b1 ≠ b128 := Nat.ne_of_lt (Nat.lt_of_lt_of_le A_b1.lt (Nat.le_of_eq gg128.symm))
      have Z128 : n0 ≤ h128.size := Nat.le_trans Z127 E128.1
      have E_b128 := A128
      have F_b128_length : Fld Z h128 b128 "needlewise/kmp/SparseAutomaton" "length" "I" (.int 0) := D128 (Or.inr (wm21 hw)) (ty := .int) (by decide)
      have F_b128_forward : Fld Z h128 b128 "needlewise/kmp/SparseAutomaton" "forward" "[I" .null := D128 (Or.inr (wm24 hw)) (ty := (.array .int)) (by decide)
      have F_b128_rows : Fld Z h128 b128 "needlewise/kmp/SparseAutomaton" "rows" "[I" .null := D128 (Or.inr (wm26 hw)) (ty := (.array .int)) (by decide)
      have F_b128_units : Fld Z h128 b128 "needlewise/kmp/SparseAutomaton" "units" "[C" .null := D128 (Or.inr (wm28 hw)) (ty := (.array .char)) (by decide)
      have F_b128_targets : Fld Z h128 b128 "needlewise/kmp/SparseAutomaton" "targets" "[I" .null := D128 (Or.inr (wm30 hw)) (ty := (.array .int)) (by decide)
      refine Run.st st128 ?_
      show Run p e below s _ _ _ (T128.setTop (mkF m 265 #[z0, z1, z2, z3, z4, z5, .val (.int 4), .val (.int 3), z8, z9, .val (.ref b1), .val (.int u), .val (.ref b6), .val (.int 4), .val (.int 4), .val (.int ex), .unset] [(.ref b128)]))
      refine Run.x_dup (q := 266) X128 hx (hb hby at_265) rfl rfl ?_
      refine Run.x_aload (q := 268) X128 hx (hb hby at_266) rfl rfl rfl ?_
      refine Run.x_iload (q := 270) X128 hx (hb hby at_268) rfl rfl ?_
      replace A_b1 := A_b1.ext E128
      refine Run.callS X128 hx hZ e128 (y := (⟨"needlewise/kmp/SparseAutomatonNextPinLaw", "pattern", "([CI)[C"⟩ : MethodName)) hown (wm10 hw) (wm11 hw) (wm12 hw) (wm13 hw) (by decide) (argsL := [(.ref b1), (.int 4)]) (rest := [(.ref b128), (.ref b128)]) (c_pat4 l Z a0 hw b1 h128 n0 Z128 k0 k1 k2 k3 A_b1 rk0 rk1 rk2 rk3) pd_2 rfl (by rw [hml]; rfl) (W := 2) rfl (by decide) (by decide) (by decide) (by decide) (hb hby at_270) rfl ?_
      intro T129 v129 L129 X129 q129
      obtain ⟨np129, rfl, M129, K129, sz129, An129⟩ := q129
      have N129 := Fr.app N127 M129
      show Run p e below s _ _ _ (T129.setTop (mkF m 273 #[z0, z1, z2, z3, z4, z5, .val (.int 4), .val (.int 3), z8, z9, .val (.ref b1), .val (.int u), .val (.ref b6), .val (.int 4), .val (.int 4), .val (.int ex), .unset] [(.ref np129), (.ref b128), (.ref b128)]))
      have ne_b1_np129 : b1 ≠ np129 := Nat.ne_of_lt (Nat.lt_of_lt_of_le A_b1.lt sz129)
      have ne_b128_np129 : b128 ≠ np129 := Nat.ne_of_lt (Nat.lt_of_lt_of_le E_b128.lt sz129)
      have g_np129 : n0 ≤ np129 := Nat.le_trans Z128 sz129
      have Z129 : n0 ≤ T129.heap.size := Nat.le_trans Z128 K129.1
      replace E_b128 := E_b128.keep K129
      replace F_b128_length := F_b128_length.keep K129 nin0
      replace F_b128_forward := F_b128_forward.keep K129 nin0
      replace F_b128_rows := F_b128_rows.keep K129 nin0
      replace F_b128_units := F_b128_units.keep K129 nin0
      replace F_b128_targets := F_b128_targets.keep K129 nin0
      refine Run.callC X129 hx hZ rfl (y := (⟨"needlewise/kmp/SparseAutomaton", "<init>", "([C)V"⟩ : MethodName)) hown rfl (wm14 hw) (wm15 hw) (wm9 hw) (wm16 hw) (by decide) (a := b128) (argsL := [(.ref np129)]) (rest := [(.ref b128)]) (c_init4 l Z a0 hw b128 np129 T129.heap n0 Z129 k0 k1 k2 k3 E_b128 F_b128_length F_b128_forward F_b128_rows F_b128_units F_b128_targets An129 g_b128 ne_b128_np129 rk0 rk1 rk2 rk3) pd_3 rfl (by rw [hml]; rfl) (W := 1) rfl (by decide) (by decide) (by decide) (by decide) (hb hby at_273) rfl ?_
      intro T130 v130 L130 X130 q130
      obtain ⟨fo130, ro130, uo130, to130, rw130, un130, tg130, rfl, M130, E130, Ffo130, Fro130, Fuo130, Fto130, Afo130, Aro130, Auo130, Ato130, R130_0, R130_1, R130_2, R130_3, R130_4⟩ := q130
      have N130 := Fr.app N129 M130
      show Run p e below s _ _ _ (T130.setTop (mkF m 276 #[z0, z1, z2, z3, z4, z5, .val (.int 4), .val (.int 3), z8, z9, .val (.ref b1), .val (.int u), .val (.ref b6), .val (.int 4), .val (.int 4), .val (.int ex), .unset] [(.ref b128)]))
      have Z130 : n0 ≤ T130.heap.size := Nat.le_trans g_b128 (Nat.le_of_lt E130.lt)
      obtain ⟨aa, dd, za, ze, q1, q2, q3, q4, q5, q6, q7, q8⟩ := R130_3
      refine Run.x_astore (q := 278) X130 hx #[z0, z1, z2, z3, z4, z5, .val (.int 4), .val (.int 3), z8, z9, .val (.ref b1), .val (.int u), .val (.ref b6), .val (.int 4), .val (.int 4), .val (.int ex), .val (.ref b128)] (hb hby at_276) rfl rfl rfl ?_
      refine Run.x_aload (q := 280) X130 hx (hb hby at_278) rfl rfl rfl ?_
      refine Run.x_iload (q := 282) X130 hx (hb hby at_280) rfl rfl ?_
      refine Run.x_iload (q := 284) X130 hx (hb hby at_282) rfl rfl ?_
      refine Run.callVI (q := 287) X130 hx hZ rfl (y := (⟨"needlewise/kmp/SparseAutomaton", "next", "(IC)I"⟩ : MethodName)) (z := (⟨"needlewise/kmp/SparseAutomaton", "next", "(IC)I"⟩ : MethodName)) hown (wm31 hw) (wm32 hw) (notFace_of_selects (args := #[]) (mvT hZ (wm34 hw))) (wm34 hw) (wm33 hw) (wm9 hw) (wm35 hw) (by decide) (a := b128) E130 (argsL := [(.int 3), (.int u)]) (rest := []) (c_next l Z a0 hw b128 (3 : Int32) u T130.heap n0 Z130 fo130 ro130 uo130 to130 [(.int k0), (.int k1), (.int k2), (.int k3), (.int (-1))] (rw130.map Value.int) un130 tg130 3 aa dd k3 za ze (if k0 = k0 ∧ k1 = k1 ∧ k2 = k2 ∧ k3 = u then (4 : Int32) else (if k0 = k1 ∧ k1 = k2 ∧ k2 = u then (3 : Int32) else (if k0 = k2 ∧ k1 = u then (2 : Int32) else (if k0 = u then (1 : Int32) else (0 : Int32))))) E130 Ffo130 Fro130 Fuo130 Fto130 Afo130 Aro130 Auo130 Ato130 (by decide) (by decide) rfl q1 q2 q3 q4 q5 q6 q7 (q8 u ru.1)) pd_0 rfl (by rw [hml]; rfl) (W := 0) rfl (by decide) (by decide) (by decide) (by decide) (hb hby at_284) rfl rfl fun T131 L131 X131 M131 e131 => ?_
      have N131 := Fr.app N130 M131
      refine Run.x_iload (q := 289) X131 hx (hb hby at_287) rfl rfl ?_
      refine Run.x_icmpNo (q := 292) X131 hx (hb hby at_289) (teq hex.symm).2 rfl ?_
      refine Run.x_iconst (q := 293) X131 hx (hb hby at_292) (z := (1 : Int32)) rfl rfl ?_
      refine Run.x_goto (q := 297) X131 hx (hb hby at_293) (by decide) (by decide) ?_
      refine Run.retN X131 hx hlk e131 (t := .boolean) hret (by simp) (z' := (1 : Int32)) (by decide) (hb hby at_297) (by decide) (by decide) ?_
      exact ⟨rfl, N131⟩
     refine Run.x_iload (q := 161) X126 hx (hb hby at_159) rfl rfl ?_
     refine Run.x_iconst (q := 162) X126 hx (hb hby at_161) (z := (4 : Int32)) rfl rfl ?_
     refine Run.x_icmpNo (q := 165) X126 hx (hb hby at_162) (flt (by decide : ¬ ((4 : Int32) < (4 : Int32)))).1 rfl ?_
     refine Run.x_aload (q := 167) X126 hx (hb hby at_165) rfl rfl rfl ?_
     refine Run.x_aload (q := 169) X126 hx (hb hby at_167) rfl rfl rfl ?_
     refine Run.x_iload (q := 171) X126 hx (hb hby at_169) rfl rfl ?_
     refine Run.x_iconst (q := 172) X126 hx (hb hby at_171) (z := (4 : Int32)) rfl rfl ?_
     replace A_b1 := ((A_b1.other W10 ne_b1_b6).other W11 ne_b1_b6).other W125 ne_b1_b6
     refine Run.callSI (q := 175) X126 hx hZ e126 (y := (⟨"needlewise/kmp/SparseAutomatonNextPinLaw", "ends", "([C[CII)Z"⟩ : MethodName)) hown (wm36 hw) (wm37 hw) (wm12 hw) (wm38 hw) (by decide) (argsL := [(.ref b1), (.ref b6), (.int 4), (.int 4)]) (rest := []) (c_end_4 l Z a0 hw b1 b6 (4 : Int32) h125 n0 Z125 k0 k1 k2 k3 k0 k1 k2 u 0 1 2 3 [(.int k0), (.int k1), (.int k2), (.int u), (.int 0)] A_b1 A_b6 (by decide) (by decide) (by decide) (by decide) rfl rfl rfl rfl) pd_4 rfl (by rw [hml]; rfl) (W := 0) rfl (by decide) (by decide) (by decide) (by decide) (hb hby at_172) rfl rfl fun T132 L132 X132 M132 e132 => ?_
     have N132 := Fr.app N126 M132
     by_cases hc175 : (own_b (k0 = k0 ∧ k1 = k1 ∧ k2 = k2 ∧ k3 = u)) = (0 : Int32)
     ·skip
      refine Run.x_ifYes (q := 184) X132 hx (hb hby at_175) ((if0 _ _).trans (teq hc175).1) (by decide) (by decide) ?_
      refine Run.x_iload (q := 186) X132 hx (hb hby at_184) rfl rfl ?_
      refine Run.x_iconst (q := 187) X132 hx (hb hby at_186) (z := (3 : Int32)) rfl rfl ?_
      refine Run.x_icmpNo (q := 190) X132 hx (hb hby at_187) (flt (by decide : ¬ ((4 : Int32) < (3 : Int32)))).1 rfl ?_
      refine Run.x_aload (q := 192) X132 hx (hb hby at_190) rfl rfl rfl ?_
      refine Run.x_aload (q := 194) X132 hx (hb hby at_192) rfl rfl rfl ?_
      refine Run.x_iload (q := 196) X132 hx (hb hby at_194) rfl rfl ?_
      refine Run.x_iconst (q := 197) X132 hx (hb hby at_196) (z := (3 : Int32)) rfl rfl ?_
      refine Run.callSI (q := 200) X132 hx hZ e132 (y := (⟨"needlewise/kmp/SparseAutomatonNextPinLaw", "ends", "([C[CII)Z"⟩ : MethodName)) hown (wm36 hw) (wm37 hw) (wm12 hw) (wm38 hw) (by decide) (argsL := [(.ref b1), (.ref b6), (.int 4), (.int 3)]) (rest := []) (c_end_3 l Z a0 hw b1 b6 (4 : Int32) h125 n0 Z125 k0 k1 k2 k3 k1 k2 u 1 2 3 [(.int k0), (.int k1), (.int k2), (.int u), (.int 0)] A_b1 A_b6 (by decide) (by decide) (by decide) rfl rfl rfl) pd_4 rfl (by rw [hml]; rfl) (W := 0) rfl (by decide) (by decide) (by decide) (by decide) (hb hby at_197) rfl rfl fun T133 L133 X133 M133 e133 => ?_
      have N133 := Fr.app N132 M133
      by_cases hc200 : (own_b (k0 = k1 ∧ k1 = k2 ∧ k2 = u)) = (0 : Int32)
      ·skip
       refine Run.x_ifYes (q := 209) X133 hx (hb hby at_200) ((if0 _ _).trans (teq hc200).1) (by decide) (by decide) ?_
       refine Run.x_iload (q := 211) X133 hx (hb hby at_209) rfl rfl ?_
       refine Run.x_iconst (q := 212) X133 hx (hb hby at_211) (z := (2 : Int32)) rfl rfl ?_
       refine Run.x_icmpNo (q := 215) X133 hx (hb hby at_212) (flt (by decide : ¬ ((4 : Int32) < (2 : Int32)))).1 rfl ?_
       refine Run.x_aload (q := 217) X133 hx (hb hby at_215) rfl rfl rfl ?_
       refine Run.x_aload (q := 219) X133 hx (hb hby at_217) rfl rfl rfl ?_
       refine Run.x_iload (q := 221) X133 hx (hb hby at_219) rfl rfl ?_
       refine Run.x_iconst (q := 222) X133 hx (hb hby at_221) (z := (2 : Int32)) rfl rfl ?_
       refine Run.callSI (q := 225) X133 hx hZ e133 (y := (⟨"needlewise/kmp/SparseAutomatonNextPinLaw", "ends", "([C[CII)Z"⟩ : MethodName)) hown (wm36 hw) (wm37 hw) (wm12 hw) (wm38 hw) (by decide) (argsL := [(.ref b1), (.ref b6), (.int 4), (.int 2)]) (rest := []) (c_end_2 l Z a0 hw b1 b6 (4 : Int32) h125 n0 Z125 k0 k1 k2 k3 k2 u 2 3 [(.int k0), (.int k1), (.int k2), (.int u), (.int 0)] A_b1 A_b6 (by decide) (by decide) rfl rfl) pd_4 rfl (by rw [hml]; rfl) (W := 0) rfl (by decide) (by decide) (by decide) (by decide) (hb hby at_222) rfl rfl fun T134 L134 X134 M134 e134 => ?_
       have N134 := Fr.app N133 M134
       by_cases hc225 : (own_b (k0 = k2 ∧ k1 = u)) = (0 : Int32)
       ·skip
        refine Run.x_ifYes (q := 234) X134 hx (hb hby at_225) ((if0 _ _).trans (teq hc225).1) (by decide) (by decide) ?_
        refine Run.x_iload (q := 236) X134 hx (hb hby at_234) rfl rfl ?_
        refine Run.x_iconst (q := 237) X134 hx (hb hby at_236) (z := (1 : Int32)) rfl rfl ?_
        refine Run.x_icmpNo (q := 240) X134 hx (hb hby at_237) (flt (by decide : ¬ ((4 : Int32) < (1 : Int32)))).1 rfl ?_
        refine Run.x_aload (q := 242) X134 hx (hb hby at_240) rfl rfl rfl ?_
        refine Run.x_aload (q := 244) X134 hx (hb hby at_242) rfl rfl rfl ?_
        refine Run.x_iload (q := 246) X134 hx (hb hby at_244) rfl rfl ?_
        refine Run.x_iconst (q := 247) X134 hx (hb hby at_246) (z := (1 : Int32)) rfl rfl ?_
        refine Run.callSI (q := 250) X134 hx hZ e134 (y := (⟨"needlewise/kmp/SparseAutomatonNextPinLaw", "ends", "([C[CII)Z"⟩ : MethodName)) hown (wm36 hw) (wm37 hw) (wm12 hw) (wm38 hw) (by decide) (argsL := [(.ref b1), (.ref b6), (.int 4), (.int 1)]) (rest := []) (c_end_1 l Z a0 hw b1 b6 (4 : Int32) h125 n0 Z125 k0 k1 k2 k3 u 3 [(.int k0), (.int k1), (.int k2), (.int u), (.int 0)] A_b1 A_b6 (by decide) rfl) pd_4 rfl (by rw [hml]; rfl) (W := 0) rfl (by decide) (by decide) (by decide) (by decide) (hb hby at_247) rfl rfl fun T135 L135 X135 M135 e135 => ?_
        have N135 := Fr.app N134 M135
        by_cases hc250 : (own_b (k0 = u)) = (0 : Int32)
        ·skip
         refine Run.x_ifYes (q := 259) X135 hx (hb hby at_250) ((if0 _ _).trans (teq hc250).1) (by decide) (by decide) ?_
         refine Run.x_iconst (q := 260) X135 hx (hb hby at_259) (z := (0 : Int32)) rfl rfl ?_
         refine Run.x_istore (q := 262) X135 hx #[z0, z1, z2, z3, z4, z5, .val (.int 4), .val (.int 3), z8, z9, .val (.ref b1), .val (.int u), .val (.ref b6), .val (.int 4), .val (.int 4), .val (.int 0), .unset] (hb hby at_260) rfl rfl ?_
         exact JX T135 h125 _ _ X135 e135 N135 Z125 A_b1 (Eq.symm (((if_neg (own_beq hc175)).trans ((if_neg (own_beq hc200)).trans ((if_neg (own_beq hc225)).trans ((if_neg (own_beq hc250)).trans rfl))))))
        ·skip
         refine Run.x_ifNo (q := 253) X135 hx (hb hby at_250) ((if0 _ _).trans (feq hc250).1) rfl ?_
         refine Run.x_iconst (q := 254) X135 hx (hb hby at_253) (z := (1 : Int32)) rfl rfl ?_
         refine Run.x_istore (q := 256) X135 hx #[z0, z1, z2, z3, z4, z5, .val (.int 4), .val (.int 3), z8, z9, .val (.ref b1), .val (.int u), .val (.ref b6), .val (.int 4), .val (.int 4), .val (.int 1), .unset] (hb hby at_254) rfl rfl ?_
         refine Run.x_goto (q := 262) X135 hx (hb hby at_256) (by decide) (by decide) ?_
         exact JX T135 h125 _ _ X135 e135 N135 Z125 A_b1 (Eq.symm (((if_neg (own_beq hc175)).trans ((if_neg (own_beq hc200)).trans ((if_neg (own_beq hc225)).trans (if_pos (own_bne hc250)))))))
       ·skip
        refine Run.x_ifNo (q := 228) X134 hx (hb hby at_225) ((if0 _ _).trans (feq hc225).1) rfl ?_
        refine Run.x_iconst (q := 229) X134 hx (hb hby at_228) (z := (2 : Int32)) rfl rfl ?_
        refine Run.x_istore (q := 231) X134 hx #[z0, z1, z2, z3, z4, z5, .val (.int 4), .val (.int 3), z8, z9, .val (.ref b1), .val (.int u), .val (.ref b6), .val (.int 4), .val (.int 4), .val (.int 2), .unset] (hb hby at_229) rfl rfl ?_
        refine Run.x_goto (q := 262) X134 hx (hb hby at_231) (by decide) (by decide) ?_
        exact JX T134 h125 _ _ X134 e134 N134 Z125 A_b1 (Eq.symm (((if_neg (own_beq hc175)).trans ((if_neg (own_beq hc200)).trans (if_pos (own_bne hc225))))))
      ·skip
       refine Run.x_ifNo (q := 203) X133 hx (hb hby at_200) ((if0 _ _).trans (feq hc200).1) rfl ?_
       refine Run.x_iconst (q := 204) X133 hx (hb hby at_203) (z := (3 : Int32)) rfl rfl ?_
       refine Run.x_istore (q := 206) X133 hx #[z0, z1, z2, z3, z4, z5, .val (.int 4), .val (.int 3), z8, z9, .val (.ref b1), .val (.int u), .val (.ref b6), .val (.int 4), .val (.int 4), .val (.int 3), .unset] (hb hby at_204) rfl rfl ?_
       refine Run.x_goto (q := 262) X133 hx (hb hby at_206) (by decide) (by decide) ?_
       exact JX T133 h125 _ _ X133 e133 N133 Z125 A_b1 (Eq.symm (((if_neg (own_beq hc175)).trans (if_pos (own_bne hc200)))))
     ·skip
      refine Run.x_ifNo (q := 178) X132 hx (hb hby at_175) ((if0 _ _).trans (feq hc175).1) rfl ?_
      refine Run.x_iconst (q := 179) X132 hx (hb hby at_178) (z := (4 : Int32)) rfl rfl ?_
      refine Run.x_istore (q := 181) X132 hx #[z0, z1, z2, z3, z4, z5, .val (.int 4), .val (.int 3), z8, z9, .val (.ref b1), .val (.int u), .val (.ref b6), .val (.int 4), .val (.int 4), .val (.int 4), .unset] (hb hby at_179) rfl rfl ?_
      refine Run.x_goto (q := 262) X132 hx (hb hby at_181) (by decide) (by decide) ?_
      exact JX T132 h125 _ _ X132 e132 N132 Z125 A_b1 (Eq.symm ((if_pos (own_bne hc175))))
    ·skip
     show Run p e below s _ _ _ (T11.setTop (mkF m 137 #[z0, z1, z2, z3, z4, z5, .val (.int 4), .val (.int 4), z8, z9, .val (.ref b1), .val (.int u), .val (.ref b6), .unset, .unset, .unset, .unset] []))
     refine Run.x_aload (q := 139) X11 hx (hb hby at_137) rfl rfl rfl ?_
     refine Run.x_iload (q := 141) X11 hx (hb hby at_139) rfl rfl ?_
     refine Run.x_iload (q := 143) X11 hx (hb hby at_141) rfl rfl ?_
     refine Run.y_stC (q := 144) X11 hx hZ e11 A_b6 (i := 4) (by decide) (Nat.le_of_ble_eq_true rfl) (z' := u) (own_nr ru) (hb hby at_143) rfl fun T136 h136 X136 e136 W136 A136 => ?_
     replace A_b6 : Ars Z h136 b6 .char [(.int k0), (.int k1), (.int k2), (.int k3), (.int u)] := A136
     have N136 := Fr.snoc X136 N11 g_b6
     have Z136 : n0 ≤ h136.size := Nat.le_trans Z11 (Nat.le_of_eq W136.size.symm)
     refine Run.x_iload (q := 146) X136 hx (hb hby at_144) rfl rfl ?_
     refine Run.x_iconst (q := 147) X136 hx (hb hby at_146) (z := (1 : Int32)) rfl rfl ?_
     refine Run.x_iadd (q := 148) X136 hx (hb hby at_147) (z := (5 : Int32)) (by decide) rfl ?_
     refine Run.x_istore (q := 150) X136 hx #[z0, z1, z2, z3, z4, z5, .val (.int 4), .val (.int 4), z8, z9, .val (.ref b1), .val (.int u), .val (.ref b6), .val (.int 5), .unset, .unset, .unset] (hb hby at_148) rfl rfl ?_
     refine Run.x_iload (q := 152) X136 hx (hb hby at_150) rfl rfl ?_
     refine Run.x_iload (q := 154) X136 hx (hb hby at_152) rfl rfl ?_
     refine Run.callSI (q := 157) X136 hx hZ e136 (y := (⟨"java/lang/Math", "min", "(II)I"⟩ : MethodName)) hown (wm3 hw) (wm4 hw) (wm5 hw) (wm6 hw) (by decide) (argsL := [(.int 5), (.int 4)]) (rest := []) (c_min l Z a0 hw (5 : Int32) (4 : Int32) h136 n0 Z136 (4 : Int32) (by decide)) pd_1 rfl (by rw [hml]; rfl) (W := 0) rfl (by decide) (by decide) (by decide) (by decide) (hb hby at_154) rfl rfl fun T137 L137 X137 M137 e137 => ?_
     have N137 := Fr.app N136 M137
     refine Run.x_istore (q := 159) X137 hx #[z0, z1, z2, z3, z4, z5, .val (.int 4), .val (.int 4), z8, z9, .val (.ref b1), .val (.int u), .val (.ref b6), .val (.int 5), .val (.int 4), .unset, .unset] (hb hby at_157) rfl rfl ?_
     have JX : ∀ (T138 : State) (h138 : Heap) (lo138 : List Loc) (ex : Int32), Stand p l e room_1 s m #[(.int p1), (.int p2), (.long p3), (.int p4), (.int p5)] below meth c T138 lo138 2 9 → T138.heap = h138 → Fr n0 lo138 → n0 ≤ h138.size → Ars Z h138 b1 .char [(.int k0), (.int k1), (.int k2), (.int k3)] → (ex = (if k0 = k1 ∧ k1 = k2 ∧ k2 = k3 ∧ k3 = u then (4 : Int32) else (if k0 = k2 ∧ k1 = k3 ∧ k2 = u then (3 : Int32) else (if k0 = k3 ∧ k1 = u then (2 : Int32) else (if k0 = u then (1 : Int32) else (0 : Int32)))))) → Run p e below s (Tru n0) room_1.cells room_1.slots (T138.setTop (mkF m 262 #[z0, z1, z2, z3, z4, z5, .val (.int 4), .val (.int 4), z8, z9, .val (.ref b1), .val (.int u), .val (.ref b6), .val (.int 5), .val (.int 4), .val (.int ex), .unset] [])) := by
      intro T138 h138 lo138 ex X138 e138 N138 Z138 A_b1 hex
      obtain ⟨T139, h139, X139, e139, E139, A139, D139, -, st139⟩ := newO X138 hx hZ hown (wm7 hw) (wm8 hw) (wm9 hw) e138 (g := (mkF m 262 #[z0, z1, z2, z3, z4, z5, .val (.int 4), .val (.int 4), z8, z9, .val (.ref b1), .val (.int u), .val (.ref b6), .val (.int 5), .val (.int 4), .val (.int ex), .unset] [])) rfl (hb hby at_262) (by decide) (by decide)
      obtain ⟨b139, gg139⟩ : ∃ z, z = h138.size := ⟨_, rfl⟩
      rw [← gg139] at A139 D139 st139
      have g_b139 : n0 ≤ b139 := Nat.le_trans Z138 (Nat.le_of_eq gg139.symm)
      have ne_b1_b139 : b1 ≠ b139 := Nat.ne_of_lt (Nat.lt_of_lt_of_le A_b1.lt (Nat.le_of_eq gg139.symm))
      have Z139 : n0 ≤ h139.size := Nat.le_trans Z138 E139.1
      have E_b139 := A139
      have F_b139_length : Fld Z h139 b139 "needlewise/kmp/SparseAutomaton" "length" "I" (.int 0) := D139 (Or.inr (wm21 hw)) (ty := .int) (by decide)
      have F_b139_forward : Fld Z h139 b139 "needlewise/kmp/SparseAutomaton" "forward" "[I" .null := D139 (Or.inr (wm24 hw)) (ty := (.array .int)) (by decide)
      have F_b139_rows : Fld Z h139 b139 "needlewise/kmp/SparseAutomaton" "rows" "[I" .null := D139 (Or.inr (wm26 hw)) (ty := (.array .int)) (by decide)
      have F_b139_units : Fld Z h139 b139 "needlewise/kmp/SparseAutomaton" "units" "[C" .null := D139 (Or.inr (wm28 hw)) (ty := (.array .char)) (by decide)
      have F_b139_targets : Fld Z h139 b139 "needlewise/kmp/SparseAutomaton" "targets" "[I" .null := D139 (Or.inr (wm30 hw)) (ty := (.array .int)) (by decide)
      refine Run.st st139 ?_
      show Run p e below s _ _ _ (T139.setTop (mkF m 265 #[z0, z1, z2, z3, z4, z5, .val (.int 4), .val (.int 4), z8, z9, .val (.ref b1), .val (.int u), .val (.ref b6), .val (.int 5), .val (.int 4), .val (.int ex), .unset] [(.ref b139)]))
      refine Run.x_dup (q := 266) X139 hx (hb hby at_265) rfl rfl ?_
      refine Run.x_aload (q := 268) X139 hx (hb hby at_266) rfl rfl rfl ?_
      refine Run.x_iload (q := 270) X139 hx (hb hby at_268) rfl rfl ?_
      replace A_b1 := A_b1.ext E139
      refine Run.callS X139 hx hZ e139 (y := (⟨"needlewise/kmp/SparseAutomatonNextPinLaw", "pattern", "([CI)[C"⟩ : MethodName)) hown (wm10 hw) (wm11 hw) (wm12 hw) (wm13 hw) (by decide) (argsL := [(.ref b1), (.int 4)]) (rest := [(.ref b139), (.ref b139)]) (c_pat4 l Z a0 hw b1 h139 n0 Z139 k0 k1 k2 k3 A_b1 rk0 rk1 rk2 rk3) pd_2 rfl (by rw [hml]; rfl) (W := 2) rfl (by decide) (by decide) (by decide) (by decide) (hb hby at_270) rfl ?_
      intro T140 v140 L140 X140 q140
      obtain ⟨np140, rfl, M140, K140, sz140, An140⟩ := q140
      have N140 := Fr.app N138 M140
      show Run p e below s _ _ _ (T140.setTop (mkF m 273 #[z0, z1, z2, z3, z4, z5, .val (.int 4), .val (.int 4), z8, z9, .val (.ref b1), .val (.int u), .val (.ref b6), .val (.int 5), .val (.int 4), .val (.int ex), .unset] [(.ref np140), (.ref b139), (.ref b139)]))
      have ne_b1_np140 : b1 ≠ np140 := Nat.ne_of_lt (Nat.lt_of_lt_of_le A_b1.lt sz140)
      have ne_b139_np140 : b139 ≠ np140 := Nat.ne_of_lt (Nat.lt_of_lt_of_le E_b139.lt sz140)
      have g_np140 : n0 ≤ np140 := Nat.le_trans Z139 sz140
      have Z140 : n0 ≤ T140.heap.size := Nat.le_trans Z139 K140.1
      replace E_b139 := E_b139.keep K140
      replace F_b139_length := F_b139_length.keep K140 nin0
      replace F_b139_forward := F_b139_forward.keep K140 nin0
      replace F_b139_rows := F_b139_rows.keep K140 nin0
      replace F_b139_units := F_b139_units.keep K140 nin0
      replace F_b139_targets := F_b139_targets.keep K140 nin0
      refine Run.callC X140 hx hZ rfl (y := (⟨"needlewise/kmp/SparseAutomaton", "<init>", "([C)V"⟩ : MethodName)) hown rfl (wm14 hw) (wm15 hw) (wm9 hw) (wm16 hw) (by decide) (a := b139) (argsL := [(.ref np140)]) (rest := [(.ref b139)]) (c_init4 l Z a0 hw b139 np140 T140.heap n0 Z140 k0 k1 k2 k3 E_b139 F_b139_length F_b139_forward F_b139_rows F_b139_units F_b139_targets An140 g_b139 ne_b139_np140 rk0 rk1 rk2 rk3) pd_3 rfl (by rw [hml]; rfl) (W := 1) rfl (by decide) (by decide) (by decide) (by decide) (hb hby at_273) rfl ?_
      intro T141 v141 L141 X141 q141
      obtain ⟨fo141, ro141, uo141, to141, rw141, un141, tg141, rfl, M141, E141, Ffo141, Fro141, Fuo141, Fto141, Afo141, Aro141, Auo141, Ato141, R141_0, R141_1, R141_2, R141_3, R141_4⟩ := q141
      have N141 := Fr.app N140 M141
      show Run p e below s _ _ _ (T141.setTop (mkF m 276 #[z0, z1, z2, z3, z4, z5, .val (.int 4), .val (.int 4), z8, z9, .val (.ref b1), .val (.int u), .val (.ref b6), .val (.int 5), .val (.int 4), .val (.int ex), .unset] [(.ref b139)]))
      have Z141 : n0 ≤ T141.heap.size := Nat.le_trans g_b139 (Nat.le_of_lt E141.lt)
      obtain ⟨aa, dd, za, ze, q1, q2, q3, q4, q5, q6, q7, q8⟩ := R141_4
      refine Run.x_astore (q := 278) X141 hx #[z0, z1, z2, z3, z4, z5, .val (.int 4), .val (.int 4), z8, z9, .val (.ref b1), .val (.int u), .val (.ref b6), .val (.int 5), .val (.int 4), .val (.int ex), .val (.ref b139)] (hb hby at_276) rfl rfl rfl ?_
      refine Run.x_aload (q := 280) X141 hx (hb hby at_278) rfl rfl rfl ?_
      refine Run.x_iload (q := 282) X141 hx (hb hby at_280) rfl rfl ?_
      refine Run.x_iload (q := 284) X141 hx (hb hby at_282) rfl rfl ?_
      refine Run.callVI (q := 287) X141 hx hZ rfl (y := (⟨"needlewise/kmp/SparseAutomaton", "next", "(IC)I"⟩ : MethodName)) (z := (⟨"needlewise/kmp/SparseAutomaton", "next", "(IC)I"⟩ : MethodName)) hown (wm31 hw) (wm32 hw) (notFace_of_selects (args := #[]) (mvT hZ (wm34 hw))) (wm34 hw) (wm33 hw) (wm9 hw) (wm35 hw) (by decide) (a := b139) E141 (argsL := [(.int 4), (.int u)]) (rest := []) (c_next l Z a0 hw b139 (4 : Int32) u T141.heap n0 Z141 fo141 ro141 uo141 to141 [(.int k0), (.int k1), (.int k2), (.int k3), (.int (-1))] (rw141.map Value.int) un141 tg141 4 aa dd (-1 : Int32) za ze (if k0 = k1 ∧ k1 = k2 ∧ k2 = k3 ∧ k3 = u then (4 : Int32) else (if k0 = k2 ∧ k1 = k3 ∧ k2 = u then (3 : Int32) else (if k0 = k3 ∧ k1 = u then (2 : Int32) else (if k0 = u then (1 : Int32) else (0 : Int32))))) E141 Ffo141 Fro141 Fuo141 Fto141 Afo141 Aro141 Auo141 Ato141 (by decide) (by decide) rfl q1 q2 q3 q4 q5 q6 q7 (q8 u ru.1)) pd_0 rfl (by rw [hml]; rfl) (W := 0) rfl (by decide) (by decide) (by decide) (by decide) (hb hby at_284) rfl rfl fun T142 L142 X142 M142 e142 => ?_
      have N142 := Fr.app N141 M142
      refine Run.x_iload (q := 289) X142 hx (hb hby at_287) rfl rfl ?_
      refine Run.x_icmpNo (q := 292) X142 hx (hb hby at_289) (teq hex.symm).2 rfl ?_
      refine Run.x_iconst (q := 293) X142 hx (hb hby at_292) (z := (1 : Int32)) rfl rfl ?_
      refine Run.x_goto (q := 297) X142 hx (hb hby at_293) (by decide) (by decide) ?_
      refine Run.retN X142 hx hlk e142 (t := .boolean) hret (by simp) (z' := (1 : Int32)) (by decide) (hb hby at_297) (by decide) (by decide) ?_
      exact ⟨rfl, N142⟩
     refine Run.x_iload (q := 161) X137 hx (hb hby at_159) rfl rfl ?_
     refine Run.x_iconst (q := 162) X137 hx (hb hby at_161) (z := (4 : Int32)) rfl rfl ?_
     refine Run.x_icmpNo (q := 165) X137 hx (hb hby at_162) (flt (by decide : ¬ ((4 : Int32) < (4 : Int32)))).1 rfl ?_
     refine Run.x_aload (q := 167) X137 hx (hb hby at_165) rfl rfl rfl ?_
     refine Run.x_aload (q := 169) X137 hx (hb hby at_167) rfl rfl rfl ?_
     refine Run.x_iload (q := 171) X137 hx (hb hby at_169) rfl rfl ?_
     refine Run.x_iconst (q := 172) X137 hx (hb hby at_171) (z := (4 : Int32)) rfl rfl ?_
     replace A_b1 := ((A_b1.other W10 ne_b1_b6).other W11 ne_b1_b6).other W136 ne_b1_b6
     refine Run.callSI (q := 175) X137 hx hZ e137 (y := (⟨"needlewise/kmp/SparseAutomatonNextPinLaw", "ends", "([C[CII)Z"⟩ : MethodName)) hown (wm36 hw) (wm37 hw) (wm12 hw) (wm38 hw) (by decide) (argsL := [(.ref b1), (.ref b6), (.int 5), (.int 4)]) (rest := []) (c_end_4 l Z a0 hw b1 b6 (5 : Int32) h136 n0 Z136 k0 k1 k2 k3 k1 k2 k3 u 1 2 3 4 [(.int k0), (.int k1), (.int k2), (.int k3), (.int u)] A_b1 A_b6 (by decide) (by decide) (by decide) (by decide) rfl rfl rfl rfl) pd_4 rfl (by rw [hml]; rfl) (W := 0) rfl (by decide) (by decide) (by decide) (by decide) (hb hby at_172) rfl rfl fun T143 L143 X143 M143 e143 => ?_
     have N143 := Fr.app N137 M143
     by_cases hc175 : (own_b (k0 = k1 ∧ k1 = k2 ∧ k2 = k3 ∧ k3 = u)) = (0 : Int32)
     ·skip
      refine Run.x_ifYes (q := 184) X143 hx (hb hby at_175) ((if0 _ _).trans (teq hc175).1) (by decide) (by decide) ?_
      refine Run.x_iload (q := 186) X143 hx (hb hby at_184) rfl rfl ?_
      refine Run.x_iconst (q := 187) X143 hx (hb hby at_186) (z := (3 : Int32)) rfl rfl ?_
      refine Run.x_icmpNo (q := 190) X143 hx (hb hby at_187) (flt (by decide : ¬ ((4 : Int32) < (3 : Int32)))).1 rfl ?_
      refine Run.x_aload (q := 192) X143 hx (hb hby at_190) rfl rfl rfl ?_
      refine Run.x_aload (q := 194) X143 hx (hb hby at_192) rfl rfl rfl ?_
      refine Run.x_iload (q := 196) X143 hx (hb hby at_194) rfl rfl ?_
      refine Run.x_iconst (q := 197) X143 hx (hb hby at_196) (z := (3 : Int32)) rfl rfl ?_
      refine Run.callSI (q := 200) X143 hx hZ e143 (y := (⟨"needlewise/kmp/SparseAutomatonNextPinLaw", "ends", "([C[CII)Z"⟩ : MethodName)) hown (wm36 hw) (wm37 hw) (wm12 hw) (wm38 hw) (by decide) (argsL := [(.ref b1), (.ref b6), (.int 5), (.int 3)]) (rest := []) (c_end_3 l Z a0 hw b1 b6 (5 : Int32) h136 n0 Z136 k0 k1 k2 k3 k2 k3 u 2 3 4 [(.int k0), (.int k1), (.int k2), (.int k3), (.int u)] A_b1 A_b6 (by decide) (by decide) (by decide) rfl rfl rfl) pd_4 rfl (by rw [hml]; rfl) (W := 0) rfl (by decide) (by decide) (by decide) (by decide) (hb hby at_197) rfl rfl fun T144 L144 X144 M144 e144 => ?_
      have N144 := Fr.app N143 M144
      by_cases hc200 : (own_b (k0 = k2 ∧ k1 = k3 ∧ k2 = u)) = (0 : Int32)
      ·skip
       refine Run.x_ifYes (q := 209) X144 hx (hb hby at_200) ((if0 _ _).trans (teq hc200).1) (by decide) (by decide) ?_
       refine Run.x_iload (q := 211) X144 hx (hb hby at_209) rfl rfl ?_
       refine Run.x_iconst (q := 212) X144 hx (hb hby at_211) (z := (2 : Int32)) rfl rfl ?_
       refine Run.x_icmpNo (q := 215) X144 hx (hb hby at_212) (flt (by decide : ¬ ((4 : Int32) < (2 : Int32)))).1 rfl ?_
       refine Run.x_aload (q := 217) X144 hx (hb hby at_215) rfl rfl rfl ?_
       refine Run.x_aload (q := 219) X144 hx (hb hby at_217) rfl rfl rfl ?_
       refine Run.x_iload (q := 221) X144 hx (hb hby at_219) rfl rfl ?_
       refine Run.x_iconst (q := 222) X144 hx (hb hby at_221) (z := (2 : Int32)) rfl rfl ?_
       refine Run.callSI (q := 225) X144 hx hZ e144 (y := (⟨"needlewise/kmp/SparseAutomatonNextPinLaw", "ends", "([C[CII)Z"⟩ : MethodName)) hown (wm36 hw) (wm37 hw) (wm12 hw) (wm38 hw) (by decide) (argsL := [(.ref b1), (.ref b6), (.int 5), (.int 2)]) (rest := []) (c_end_2 l Z a0 hw b1 b6 (5 : Int32) h136 n0 Z136 k0 k1 k2 k3 k3 u 3 4 [(.int k0), (.int k1), (.int k2), (.int k3), (.int u)] A_b1 A_b6 (by decide) (by decide) rfl rfl) pd_4 rfl (by rw [hml]; rfl) (W := 0) rfl (by decide) (by decide) (by decide) (by decide) (hb hby at_222) rfl rfl fun T145 L145 X145 M145 e145 => ?_
       have N145 := Fr.app N144 M145
       by_cases hc225 : (own_b (k0 = k3 ∧ k1 = u)) = (0 : Int32)
       ·skip
        refine Run.x_ifYes (q := 234) X145 hx (hb hby at_225) ((if0 _ _).trans (teq hc225).1) (by decide) (by decide) ?_
        refine Run.x_iload (q := 236) X145 hx (hb hby at_234) rfl rfl ?_
        refine Run.x_iconst (q := 237) X145 hx (hb hby at_236) (z := (1 : Int32)) rfl rfl ?_
        refine Run.x_icmpNo (q := 240) X145 hx (hb hby at_237) (flt (by decide : ¬ ((4 : Int32) < (1 : Int32)))).1 rfl ?_
        refine Run.x_aload (q := 242) X145 hx (hb hby at_240) rfl rfl rfl ?_
        refine Run.x_aload (q := 244) X145 hx (hb hby at_242) rfl rfl rfl ?_
        refine Run.x_iload (q := 246) X145 hx (hb hby at_244) rfl rfl ?_
        refine Run.x_iconst (q := 247) X145 hx (hb hby at_246) (z := (1 : Int32)) rfl rfl ?_
        refine Run.callSI (q := 250) X145 hx hZ e145 (y := (⟨"needlewise/kmp/SparseAutomatonNextPinLaw", "ends", "([C[CII)Z"⟩ : MethodName)) hown (wm36 hw) (wm37 hw) (wm12 hw) (wm38 hw) (by decide) (argsL := [(.ref b1), (.ref b6), (.int 5), (.int 1)]) (rest := []) (c_end_1 l Z a0 hw b1 b6 (5 : Int32) h136 n0 Z136 k0 k1 k2 k3 u 4 [(.int k0), (.int k1), (.int k2), (.int k3), (.int u)] A_b1 A_b6 (by decide) rfl) pd_4 rfl (by rw [hml]; rfl) (W := 0) rfl (by decide) (by decide) (by decide) (by decide) (hb hby at_247) rfl rfl fun T146 L146 X146 M146 e146 => ?_
        have N146 := Fr.app N145 M146
        by_cases hc250 : (own_b (k0 = u)) = (0 : Int32)
        ·skip
         refine Run.x_ifYes (q := 259) X146 hx (hb hby at_250) ((if0 _ _).trans (teq hc250).1) (by decide) (by decide) ?_
         refine Run.x_iconst (q := 260) X146 hx (hb hby at_259) (z := (0 : Int32)) rfl rfl ?_
         refine Run.x_istore (q := 262) X146 hx #[z0, z1, z2, z3, z4, z5, .val (.int 4), .val (.int 4), z8, z9, .val (.ref b1), .val (.int u), .val (.ref b6), .val (.int 5), .val (.int 4), .val (.int 0), .unset] (hb hby at_260) rfl rfl ?_
         exact JX T146 h136 _ _ X146 e146 N146 Z136 A_b1 (Eq.symm (((if_neg (own_beq hc175)).trans ((if_neg (own_beq hc200)).trans ((if_neg (own_beq hc225)).trans ((if_neg (own_beq hc250)).trans rfl))))))
        ·skip
         refine Run.x_ifNo (q := 253) X146 hx (hb hby at_250) ((if0 _ _).trans (feq hc250).1) rfl ?_
         refine Run.x_iconst (q := 254) X146 hx (hb hby at_253) (z := (1 : Int32)) rfl rfl ?_
         refine Run.x_istore (q := 256) X146 hx #[z0, z1, z2, z3, z4, z5, .val (.int 4), .val (.int 4), z8, z9, .val (.ref b1), .val (.int u), .val (.ref b6), .val (.int 5), .val (.int 4), .val (.int 1), .unset] (hb hby at_254) rfl rfl ?_
         refine Run.x_goto (q := 262) X146 hx (hb hby at_256) (by decide) (by decide) ?_
         exact JX T146 h136 _ _ X146 e146 N146 Z136 A_b1 (Eq.symm (((if_neg (own_beq hc175)).trans ((if_neg (own_beq hc200)).trans ((if_neg (own_beq hc225)).trans (if_pos (own_bne hc250)))))))
       ·skip
        refine Run.x_ifNo (q := 228) X145 hx (hb hby at_225) ((if0 _ _).trans (feq hc225).1) rfl ?_
        refine Run.x_iconst (q := 229) X145 hx (hb hby at_228) (z := (2 : Int32)) rfl rfl ?_
        refine Run.x_istore (q := 231) X145 hx #[z0, z1, z2, z3, z4, z5, .val (.int 4), .val (.int 4), z8, z9, .val (.ref b1), .val (.int u), .val (.ref b6), .val (.int 5), .val (.int 4), .val (.int 2), .unset] (hb hby at_229) rfl rfl ?_
        refine Run.x_goto (q := 262) X145 hx (hb hby at_231) (by decide) (by decide) ?_
        exact JX T145 h136 _ _ X145 e145 N145 Z136 A_b1 (Eq.symm (((if_neg (own_beq hc175)).trans ((if_neg (own_beq hc200)).trans (if_pos (own_bne hc225))))))
      ·skip
       refine Run.x_ifNo (q := 203) X144 hx (hb hby at_200) ((if0 _ _).trans (feq hc200).1) rfl ?_
       refine Run.x_iconst (q := 204) X144 hx (hb hby at_203) (z := (3 : Int32)) rfl rfl ?_
       refine Run.x_istore (q := 206) X144 hx #[z0, z1, z2, z3, z4, z5, .val (.int 4), .val (.int 4), z8, z9, .val (.ref b1), .val (.int u), .val (.ref b6), .val (.int 5), .val (.int 4), .val (.int 3), .unset] (hb hby at_204) rfl rfl ?_
       refine Run.x_goto (q := 262) X144 hx (hb hby at_206) (by decide) (by decide) ?_
       exact JX T144 h136 _ _ X144 e144 N144 Z136 A_b1 (Eq.symm (((if_neg (own_beq hc175)).trans (if_pos (own_bne hc200)))))
     ·skip
      refine Run.x_ifNo (q := 178) X143 hx (hb hby at_175) ((if0 _ _).trans (feq hc175).1) rfl ?_
      refine Run.x_iconst (q := 179) X143 hx (hb hby at_178) (z := (4 : Int32)) rfl rfl ?_
      refine Run.x_istore (q := 181) X143 hx #[z0, z1, z2, z3, z4, z5, .val (.int 4), .val (.int 4), z8, z9, .val (.ref b1), .val (.int u), .val (.ref b6), .val (.int 5), .val (.int 4), .val (.int 4), .unset] (hb hby at_179) rfl rfl ?_
      refine Run.x_goto (q := 262) X143 hx (hb hby at_181) (by decide) (by decide) ?_
      exact JX T143 h136 _ _ X143 e143 N143 Z136 A_b1 (Eq.symm ((if_pos (own_bne hc175))))
  exact J137 _ _ _ _ _ _ _ _
 refine Run.x_iload (q := 21) X0 hx (hb hby at_19) rfl rfl ?_
 refine Run.x_iconst (q := 22) X0 hx (hb hby at_21) (z := (4 : Int32)) rfl rfl ?_
 refine Run.x_iand (q := 23) X0 hx (hb hby at_22) rfl rfl ?_
 by_cases hc23 : (p5 &&& (4 : Int32)) = (0 : Int32)
 ·skip
  refine Run.x_ifYes (q := 32) X0 hx (hb hby at_23) ((if0 _ _).trans (teq hc23).1) (by decide) (by decide) ?_
  refine Run.st (B := T0.setTop (mkF m 35 #[.val (.int p1), .val (.int p2), .val (.long p3), .second, .val (.int p4), .val (.int p5), .val (.int mm), .val (.int ss), .unset, .unset, .unset, .unset, .unset, .unset, .unset, .unset, .unset] [(.long (3 : Int64))])) (fun t kt => X0.ldc2Long hx hown (mvT hZ (wm1 hw)) (g := (mkF m 32 #[.val (.int p1), .val (.int p2), .val (.long p3), .second, .val (.int p4), .val (.int p5), .val (.int mm), .val (.int ss), .unset, .unset, .unset, .unset, .unset, .unset, .unset, .unset, .unset] [])) rfl (hb hby at_32) _ kt) ?_
  exact J35 _
 ·skip
  refine Run.x_ifNo (q := 26) X0 hx (hb hby at_23) ((if0 _ _).trans (feq hc23).1) rfl ?_
  refine Run.st (B := T0.setTop (mkF m 29 #[.val (.int p1), .val (.int p2), .val (.long p3), .second, .val (.int p4), .val (.int p5), .val (.int mm), .val (.int ss), .unset, .unset, .unset, .unset, .unset, .unset, .unset, .unset, .unset] [(.long (65535 : Int64))])) (fun t kt => X0.ldc2Long hx hown (mvT hZ (wm40 hw)) (g := (mkF m 26 #[.val (.int p1), .val (.int p2), .val (.long p3), .second, .val (.int p4), .val (.int p5), .val (.int mm), .val (.int ss), .unset, .unset, .unset, .unset, .unset, .unset, .unset, .unset, .unset] [])) rfl (hb hby at_26) _ kt) ?_
  refine Run.x_goto (q := 35) X0 hx (hb hby at_29) (by decide) (by decide) ?_
  exact J35 _
set_option maxRecDepth 65536 in
set_option maxHeartbeats 40000000 in
theorem comes_1 {Post : Tables → Env → Array Value → State → Outcome → State → Prop} (hpost : ∀ tb e args s v u, (limb_1_1.after args s (.returned v) u = true ∧ limb_1_2.after args s (.returned v) u = true ∧ True) → FrameEnd s (.returned v) u (Jvm.fieldLocs frame_1_writes args s ++ Jvm.arrayLocs frame_1_arrays args s ++ Jvm.staticLocs frame_1_statics s) 24 192 → Post tb e args s (.returned v) u) :
    ArmFor flags0 classFile x code maxLocals ret World_1 tables_1 room_1 Calls_1 rest_1 Pre_1 Post := by
  intro l hfl _ _ p e ha hc hk s m args below hf hA hF happ hP
  obtain ⟨hcalls, hrest, hpre⟩ := hP
  obtain ⟨-, -, -, hnamed, -, -, -, hat⟩ := (Spec.applies_iff hf).mp happ
  obtain ⟨hg, hn⟩ := and_e (Cond.before_iff.mp (show (Jvm.Cond.and given_1 narrow_1).before args s = true from hpre))
  obtain ⟨g1, g2⟩ := and_e hg
  obtain ⟨g3, g4⟩ := and_e g2
  obtain ⟨g5, g6⟩ := and_e g4
  obtain ⟨g7, g8⟩ := and_e g6
  obtain ⟨g9, g10⟩ := and_e g8
  obtain ⟨w0, w1, w2, w3, w4, rfl⟩ : ∃ w0 w1 w2 w3 w4 : Value, args = #[w0, w1, w2, w3, w4] := by
    have hs : args.size = 5 := by simpa [Cond.value, given_1] using g1
    obtain ⟨L⟩ := args
    match L, hs with
    | [w0, w1, w2, w3, w4], _ => exact ⟨w0, w1, w2, w3, w4, rfl⟩
  have hw := fun d (hd : d ∈ tables_1) => atoms_spec (ws := Jvm.Cond.code x code maxLocals ret :: tables_1) hat d (List.mem_cons_of_mem _ hd)
  have hfit : Fit s := fun {y c} hc i hi => by
    obtain ⟨ha, rfl⟩ := Array.getElem?_eq_some_iff.mp hc
    have q := List.all_eq_true.mp ((Array.all_eq_true_iff_forall_mem.mp hF) _ (Array.getElem_mem ha)) i (List.mem_range.mpr hi)
    simpa [Array.getElem?_eq_getElem hi] using q
  obtain ⟨i0, ei0⟩ := is_v g3
  obtain rfl : w0 = (.int i0) := Option.some.inj ei0
  obtain ⟨i1, ei1⟩ := is_v g5
  obtain rfl : w1 = (.int i1) := Option.some.inj ei1
  obtain ⟨i2, ei2⟩ := isL_v g7
  obtain rfl : w2 = (.long i2) := Option.some.inj ei2
  obtain ⟨i3, ei3⟩ := is_v g9
  obtain rfl : w3 = (.int i3) := Option.some.inj ei3
  obtain ⟨i4, ei4⟩ := is_v g10
  obtain rfl : w4 = (.int i4) := Option.some.inj ei4
  obtain ⟨n, o, h1, h2, h3, _, L, rfl, ⟨rfl, N⟩, hq⟩ := c_law l s _ hw i0 i1 i2 i3 i4 s.heap s.heap.size (Nat.le_refl _)  tables_1 p e ha hc hk s m _ below hf ((Spec.applies_iff_loose hf).mp happ).1 ⟨rfl, State.Warmed39.refl s, rfl⟩ trivial
  refine ⟨n, _, h1, h2, h3, hpost _ _ _ _ _ _ ⟨Cond.after_iff.mpr rfl, Cond.after_iff.mpr (eq_i res_at (Term.int_eval (1)) rfl), trivial⟩ ⟨hq.1, hq.2.1, (hq.2.2.sift fun y hy => Or.inr (N y hy)).mono (by decide) (by decide)⟩⟩
theorem main_1_1 : Claimed_1_1 := comes_1 fun _ _ _ _ _ _ h hF => ⟨h.1, hF⟩
theorem main_1_2 : Claimed_1_2 := comes_1 fun _ _ _ _ _ _ h hF => ⟨h.2.1, hF⟩
end Jvm.Pilot.@@N@@
namespace Jvm.Pilot.@@N@@
open Jvm Jvm.ClassFile Sem Op Lib Jvm.Free Jvm.Stand Jvm.Pilot.@@N@@.Jvm.D
/-! MADE BY PROGRAM (witnessworld.py) out of the Statement's table words and the real class files: 13 classes; the members and pool entries that the words name. The judged class is class 1, her method 3. -/
namespace start1
open Jvm.ClassFile
def u (s : String) : CpInfo := .utf8 (stringToUtf16 s)
/-- a pool by its gaps: so many unusable entries, then the entry; so many at the end -/
def gap : Nat → List CpInfo → List CpInfo
  | 0, r => r
  | n + 1, r => .unusable :: gap n r
def poolList (es : List (Nat × CpInfo)) (last : Nat) : List CpInfo := es.foldr (fun e r => gap e.1 (e.2 :: r)) (gap last [])
def pool (es : List (Nat × CpInfo)) (last : Nat) : Array CpInfo := ⟨poolList es last⟩
def fileOf (pool : Array CpInfo) (this : Nat) (attrs : Array Attribute := #[]) (ms : Array MethodInfo := #[]) (fl : Nat := 33) (sup : Nat := 0) (ifs : Array Nat := #[]) (fds : Array FieldInfo := #[]) : ClassFile where
  minorVersion := 0
  majorVersion := 65
  constantPool := pool
  accessFlags := fl
  thisClass := this
  superClass := sup
  interfaces := ifs
  fields := fds
  methods := ms
  attributes := attrs
def plain (name : String) (sup : Option ClassId) : Class where
  name := name
  kind := .ordinary
  loader := none
  accessFlags := 33
  super := sup
  interfaces := #[]
  cf := none
  fields := #[]
  methods := #[]
  instanceTypes := #[]
  staticTypes := #[]
  resolved := #[]
  callSites := []
  init := .initialized
  statics := none
  mirror := none

def pool0 : Array CpInfo := pool [(5, u "<init>"), (0, u "()V"), (1, .class_ 10), (1, u "java/lang/Object")] 113

def k0c0 : Code := { maxStack := 0, maxLocals := 1, code := object_method_1_code, exceptionTable := #[], attributes := #[] }
def k0m0 : Method := { name := "<init>", desc := "()V", sig := { parameters := [], returnType := none }, accessFlags := 1, code := some k0c0 }
/-- java/lang/Object -/
def k0 : Class := { plain "java/lang/Object" none with
  accessFlags := 33
  interfaces := #[]
  cf := some (fileOf pool0 8 #[] #[{ accessFlags := 1, nameIndex := 5, descriptorIndex := 6, attributes := #[] }] 33 0 #[] #[])
  fields := #[]
  methods := #[k0m0]
  instanceTypes := #[]
  staticTypes := #[]
  resolved := Array.replicate 124 none
  statics := none }

def pool1 : Array CpInfo := pool [(2, .class_ 4), (1, u "java/lang/Object"), (0, u "<init>"), (0, u "()V"), (0, .integer 2147483647), (0, .long 65535), (1, .long 3), (1, .methodref 13 14), (0, .class_ 15), (0, .nameAndType 16 17), (0, u "java/lang/Math"), (0, u "min"), (0, u "(II)I"), (0, .methodref 19 20), (0, .class_ 21), (0, .nameAndType 22 23), (0, u "needlewise/kmp/SparseAutomatonNextPinLaw"), (0, u "ends"), (0, u "([C[CII)Z"), (0, .class_ 25), (0, u "needlewise/kmp/SparseAutomaton"), (0, .methodref 19 27), (0, .nameAndType 28 29), (0, u "pattern"), (0, u "([CI)[C"), (0, .methodref 24 31), (0, .nameAndType 5 32), (0, u "([C)V"), (0, .methodref 24 34), (0, .nameAndType 35 36), (0, u "next"), (0, u "(IC)I"), (3, u "law"), (0, u "(IIJII)Z")] 4

def k1m0 : Method := { name := "<init>", desc := "()V", sig := { parameters := [], returnType := none }, accessFlags := 2, code := none }
def k1c1 : Code := { maxStack := 4, maxLocals := 4, code := method_2_code, exceptionTable := #[], attributes := #[] }
def k1m1 : Method := { name := "ends", desc := "([C[CII)Z", sig := { parameters := [(.array .char), (.array .char), .int, .int], returnType := some .boolean }, accessFlags := 10, code := some k1c1 }
def k1c2 : Code := { maxStack := 5, maxLocals := 2, code := method_3_code, exceptionTable := #[], attributes := #[] }
def k1m2 : Method := { name := "pattern", desc := "([CI)[C", sig := { parameters := [(.array .char), .int], returnType := some (.array .char) }, accessFlags := 10, code := some k1c2 }
def k1c3 : Code := { maxStack := 6, maxLocals := 17, code := code, exceptionTable := #[], attributes := #[] }
def k1m3 : Method := { name := "law", desc := "(IIJII)Z", sig := { parameters := [.int, .int, .long, .int, .int], returnType := some .boolean }, accessFlags := 9, code := some k1c3 }
/-- needlewise/kmp/SparseAutomatonNextPinLaw -/
def k1 : Class := { plain "needlewise/kmp/SparseAutomatonNextPinLaw" (some 0) with
  accessFlags := 49
  interfaces := #[]
  cf := some (fileOf pool1 19 #[] #[{ accessFlags := 2, nameIndex := 5, descriptorIndex := 6, attributes := #[] }, { accessFlags := 10, nameIndex := 22, descriptorIndex := 23, attributes := #[] }, { accessFlags := 10, nameIndex := 28, descriptorIndex := 29, attributes := #[] }, { accessFlags := 9, nameIndex := 40, descriptorIndex := 41, attributes := #[] }] 49 2 #[] #[])
  fields := #[]
  methods := #[k1m0, k1m1, k1m2, k1m3]
  instanceTypes := #[]
  staticTypes := #[]
  resolved := Array.replicate 46 none
  statics := none }

def pool2 : Array CpInfo := pool [(1, .class_ 2), (0, u "java/lang/Math"), (1, .class_ 6), (1, u "java/lang/Object"), (0, u "<init>"), (0, u "()V"), (89, .class_ 100), (1, u "java/lang/Math$RandomNumberGeneratorHolder"), (71, u "negativeZeroFloatBits"), (0, u "J"), (2, u "negativeZeroDoubleBits"), (24, u "min"), (43, u "$assertionsDisabled"), (0, u "Z"), (88, u "(II)I"), (2, u "twoToTheDoubleScaleDown"), (0, u "D"), (4, u "twoToTheDoubleScaleUp"), (9, u "E"), (3, u "PI"), (2, u "TAU"), (2, u "DEGREES_TO_RADIANS"), (0, u "RADIANS_TO_DEGREES")] 94

def k2m0 : Method := { name := "<init>", desc := "()V", sig := { parameters := [], returnType := none }, accessFlags := 2, code := none }
def k2c1 : Code := { maxStack := 2, maxLocals := 2, code := jdk_29_method_69_code, exceptionTable := #[], attributes := #[] }
def k2m1 : Method := { name := "min", desc := "(II)I", sig := { parameters := [.int, .int], returnType := some .int }, accessFlags := 9, code := some k2c1 }
/-- java/lang/Math -/
def k2 : Class := { plain "java/lang/Math" (some 0) with
  accessFlags := 49
  interfaces := #[]
  cf := some (fileOf pool2 1 #[.nestMembers #[98]] #[{ accessFlags := 2, nameIndex := 7, descriptorIndex := 8, attributes := #[] }, { accessFlags := 9, nameIndex := 201, descriptorIndex := 335, attributes := #[] }] 49 4 #[] #[{ accessFlags := 25, nameIndex := 354, descriptorIndex := 339, attributes := #[] }, { accessFlags := 25, nameIndex := 358, descriptorIndex := 339, attributes := #[] }, { accessFlags := 25, nameIndex := 361, descriptorIndex := 339, attributes := #[] }, { accessFlags := 26, nameIndex := 364, descriptorIndex := 339, attributes := #[] }, { accessFlags := 26, nameIndex := 365, descriptorIndex := 339, attributes := #[] }, { accessFlags := 26, nameIndex := 172, descriptorIndex := 173, attributes := #[] }, { accessFlags := 26, nameIndex := 176, descriptorIndex := 173, attributes := #[] }, { accessFlags := 8, nameIndex := 344, descriptorIndex := 339, attributes := #[] }, { accessFlags := 8, nameIndex := 338, descriptorIndex := 339, attributes := #[] }, { accessFlags := 4120, nameIndex := 245, descriptorIndex := 246, attributes := #[] }])
  fields := #[{ name := "E", type := .double, accessFlags := 25, slot := 0, constantValue := 0 }, { name := "PI", type := .double, accessFlags := 25, slot := 1, constantValue := 0 }, { name := "TAU", type := .double, accessFlags := 25, slot := 2, constantValue := 0 }, { name := "DEGREES_TO_RADIANS", type := .double, accessFlags := 26, slot := 3, constantValue := 0 }, { name := "RADIANS_TO_DEGREES", type := .double, accessFlags := 26, slot := 4, constantValue := 0 }, { name := "negativeZeroFloatBits", type := .long, accessFlags := 26, slot := 5, constantValue := 0 }, { name := "negativeZeroDoubleBits", type := .long, accessFlags := 26, slot := 6, constantValue := 0 }, { name := "twoToTheDoubleScaleUp", type := .double, accessFlags := 8, slot := 7, constantValue := 0 }, { name := "twoToTheDoubleScaleDown", type := .double, accessFlags := 8, slot := 8, constantValue := 0 }, { name := "$assertionsDisabled", type := .boolean, accessFlags := 4120, slot := 9, constantValue := 0 }]
  methods := #[k2m0, k2m1]
  instanceTypes := #[]
  staticTypes := #[.double, .double, .double, .double, .double, .long, .long, .double, .double, .boolean]
  resolved := Array.replicate 460 none
  statics := none }

def pool3 : Array CpInfo := pool [(1, .class_ 2), (0, u "needlewise/kmp/Automaton"), (0, .class_ 4), (0, u "java/lang/Object")] 6

/-- needlewise/kmp/Automaton -/
def k3 : Class := { plain "needlewise/kmp/Automaton" (some 0) with
  accessFlags := 1536
  interfaces := #[]
  cf := some (fileOf pool3 1 #[] #[] 1536 3 #[] #[])
  fields := #[]
  methods := #[]
  instanceTypes := #[]
  staticTypes := #[]
  resolved := Array.replicate 11 none
  statics := none }

def pool4 : Array CpInfo := pool [(1, .methodref 2 3), (0, .class_ 4), (0, .nameAndType 5 6), (0, u "java/lang/Object"), (0, u "<init>"), (0, u "()V"), (0, .fieldref 8 9), (0, .class_ 10), (0, .nameAndType 11 12), (0, u "needlewise/kmp/SparseAutomaton"), (0, u "length"), (0, u "I"), (0, .fieldref 8 14), (0, .nameAndType 15 16), (0, u "forward"), (0, u "[I"), (0, .fieldref 8 18), (0, .nameAndType 19 16), (0, u "rows"), (0, .fieldref 8 21), (0, .nameAndType 22 23), (0, u "units"), (0, u "[C"), (0, .fieldref 8 25), (0, .nameAndType 26 16), (0, u "targets"), (0, .methodref 8 28), (0, .nameAndType 29 30), (0, u "next"), (0, u "(IC)I"), (1, .class_ 34), (1, u "needlewise/kmp/SparseAutomaton$Transitions"), (2, .class_ 38), (0, u "needlewise/kmp/Automaton"), (0, u "([C)V")] 13

def k4c0 : Code := { maxStack := 4, maxLocals := 6, code := prog_24_method_1_code, exceptionTable := #[], attributes := #[] }
def k4m0 : Method := { name := "<init>", desc := "([C)V", sig := { parameters := [(.array .char)], returnType := none }, accessFlags := 0, code := some k4c0 }
def k4c1 : Code := { maxStack := 4, maxLocals := 4, code := prog_24_method_3_code, exceptionTable := #[], attributes := #[] }
def k4m1 : Method := { name := "next", desc := "(IC)I", sig := { parameters := [.int, .char], returnType := some .int }, accessFlags := 1, code := some k4c1 }
/-- needlewise/kmp/SparseAutomaton -/
def k4 : Class := { plain "needlewise/kmp/SparseAutomaton" (some 0) with
  accessFlags := 48
  interfaces := #[3]
  cf := some (fileOf pool4 8 #[.nestMembers #[32]] #[{ accessFlags := 0, nameIndex := 5, descriptorIndex := 39, attributes := #[] }, { accessFlags := 1, nameIndex := 29, descriptorIndex := 30, attributes := #[] }] 48 2 #[37] #[{ accessFlags := 18, nameIndex := 11, descriptorIndex := 12, attributes := #[] }, { accessFlags := 18, nameIndex := 15, descriptorIndex := 16, attributes := #[] }, { accessFlags := 18, nameIndex := 19, descriptorIndex := 16, attributes := #[] }, { accessFlags := 18, nameIndex := 22, descriptorIndex := 23, attributes := #[] }, { accessFlags := 18, nameIndex := 26, descriptorIndex := 16, attributes := #[] }])
  fields := #[{ name := "length", type := .int, accessFlags := 18, slot := 0, constantValue := 0 }, { name := "forward", type := (.array .int), accessFlags := 18, slot := 1, constantValue := 0 }, { name := "rows", type := (.array .int), accessFlags := 18, slot := 2, constantValue := 0 }, { name := "units", type := (.array .char), accessFlags := 18, slot := 3, constantValue := 0 }, { name := "targets", type := (.array .int), accessFlags := 18, slot := 4, constantValue := 0 }]
  methods := #[k4m0, k4m1]
  instanceTypes := #[.int, (.array .int), (.array .int), (.array .char), (.array .int)]
  staticTypes := #[]
  resolved := Array.replicate 53 none
  statics := none }

def pool5 : Array CpInfo := pool [(1, u "java/lang/Cloneable"), (0, .class_ 1), (0, u "java/lang/Object"), (0, .class_ 3)] 3

/-- java/lang/Cloneable -/
def k5 : Class := { plain "java/lang/Cloneable" (some 0) with
  accessFlags := 1537
  interfaces := #[]
  cf := some (fileOf pool5 2 #[] #[] 1537 4 #[] #[])
  fields := #[]
  methods := #[]
  instanceTypes := #[]
  staticTypes := #[]
  resolved := Array.replicate 8 none
  statics := none }

def pool6 : Array CpInfo := pool [(1, u "java/io/Serializable"), (0, .class_ 1), (0, u "java/lang/Object"), (0, .class_ 3)] 3

/-- java/io/Serializable -/
def k6 : Class := { plain "java/io/Serializable" (some 0) with
  accessFlags := 1537
  interfaces := #[]
  cf := some (fileOf pool6 2 #[] #[] 1537 4 #[] #[])
  fields := #[]
  methods := #[]
  instanceTypes := #[]
  staticTypes := #[]
  resolved := Array.replicate 8 none
  statics := none }

/-- the primitive byte -/
def k7 : Class := { plain "byte" none with kind := .primitive 'B', accessFlags := 0x411 }
/-- [B -/
def k8 : Class := { plain "[B" (some 0) with kind := .array 7 .byte, interfaces := #[5, 6], accessFlags := 1041 }

/-- the primitive char -/
def k9 : Class := { plain "char" none with kind := .primitive 'C', accessFlags := 0x411 }
/-- [C -/
def k10 : Class := { plain "[C" (some 0) with kind := .array 9 .char, interfaces := #[5, 6], accessFlags := 1041 }

/-- the primitive int -/
def k11 : Class := { plain "int" none with kind := .primitive 'I', accessFlags := 0x411 }
/-- [I -/
def k12 : Class := { plain "[I" (some 0) with kind := .array 11 .int, interfaces := #[5, 6], accessFlags := 1041 }

def heap : Heap := #[]
def classes : Array Class := #[k0, k1, k2, k3, k4, k5, k6, k7, k8, k9, k10, k11, k12]
def interned : List (Array UInt16 × Addr) := []
def slotsUsed : Nat := 0
def theMethod : MethodId := ⟨1, 3⟩
def args0 : Array Value := #[.int 3, .int 2, .long 4295032833, .int 1, .int 4]
def aboutOver (below : List Frame) : State where
  vm := { classes := classes, interned := interned.toArray }
  heap := heap
  slotsUsed := slotsUsed
  threads := #[{ frames := .invoking theMethod args0 :: below }]
def below0 : List Frame := [.native { method := ⟨0, 0⟩, args := #[] }]
def about1 : State := aboutOver below0
def p0 : Program := .bare "" "" ""
def e0 : Env := launch0.env 0 0 0
theorem w_frames : about1.frames = Frame.invoking theMethod args0 :: below0 := rfl
set_option maxRecDepth 65536 in
theorem w_args : argsFit about1.vm theMethod args0 = true := by decide +kernel
set_option maxRecDepth 65536 in
theorem w_heap : heapFits about1 = true := by decide +kernel
set_option maxRecDepth 65536 in
theorem w_runnable : about1.curStatus? = some .runnable := by decide +kernel
set_option maxRecDepth 65536 in
theorem w_alone : about1.alone = true := by decide +kernel
set_option maxRecDepth 65536 in
theorem w_named : about1.methodNamed? x = some theMethod := by decide +kernel
set_option maxRecDepth 65536 in
theorem w_hears : about1.hears theMethod below0 = true := by decide +kernel
set_option maxRecDepth 65536 in
theorem w_ripe : about1.ripe theMethod args0 below0 = true := by decide +kernel
theorem w_running : about1.status = .running := rfl
set_option maxRecDepth 65536 in
theorem w_room : about1.hasRoom e0.platform room_1 = true :=
  launch0.hasRoom_least _ room_1 (by decide +kernel) (by decide +kernel) (by decide +kernel) (by decide +kernel) (by decide +kernel) (by decide +kernel)
theorem allAtoms_all (ts : List Jvm.Cond) (a : Array Jvm.Value) (st : Jvm.State) : (allAtoms ts).before a st = ts.all (fun c => c.before a st) := by
  induction ts with
  | nil => rfl
  | cons c t ih =>
    show (Jvm.Cond.and c (allAtoms t)).before a st = _
    rw [Jvm.Cond.before_and, ih, List.all_cons]
def words1 : List Jvm.Cond := Jvm.Cond.code x code maxLocals ret :: tables_1
/-- a 'code' word, met by the world's own term for the bytes: nothing is compared byte by byte -/
theorem code_word {y : MethodName} {bytes : ByteArray} {mx : Nat} {rt : Option FieldType} {a : Array Value} {s : State} {m : MethodId} {meth : Method} {c : Code} (h1 : s.methodNamed? y = some m) (h2 : s.vm.method? m = some meth) (h3 : meth.code = some c) (h4 : c.code = bytes)
    (h5 : (c.maxLocals == mx && c.exceptionTable.isEmpty && decide (c.maxStack ≤ mostOperands) && decide (meth.sig.returnType = rt) && !meth.locks && decide (parseMethodDescriptor y.desc = some meth.sig)) = true) : (Jvm.Cond.code y bytes mx rt).before a s = true := by
  simp only [Bool.and_eq_true, beq_iff_eq, Bool.not_eq_true', decide_eq_true_eq] at h5
  obtain ⟨⟨⟨⟨⟨g1, g2⟩, g3⟩, g4⟩, g5⟩, g6⟩ := h5
  simp [Cond.before, Cond.holds, Cond.value, h1, h2, h3, h4, g1, g2, g3, g4, g5, g6]
def isCode : Jvm.Cond → Bool
  | .code _ _ _ _ => true
  | _ => false
theorem all_split {L : List Jvm.Cond} {P : Jvm.Cond → Bool} (h1 : L.all (fun c => isCode c || P c) = true) (h2 : ∀ c ∈ L.filter isCode, P c = true) : L.all P = true := by
  refine List.all_eq_true.mpr fun c hc => ?_
  have h := List.all_eq_true.mp h1 c hc
  rcases Bool.eq_false_or_eq_true (isCode c) with hi | hi
  · exact h2 c (List.mem_filter.mpr ⟨hc, hi⟩)
  · simpa [hi] using h
set_option maxRecDepth 65536 in
theorem w_c0 : (Jvm.Cond.code x code maxLocals ret).before args0 about1 = true := code_word (m := ⟨1, 3⟩) (meth := k1m3) (c := k1c3) (by decide +kernel) rfl rfl rfl (by decide +kernel)
set_option maxRecDepth 65536 in
theorem w_c1 : (Jvm.Cond.code ({ cls := "java/lang/Math", name := "min", desc := "(II)I" } : Jvm.MethodName) jdk_29_method_69_code (2 : Nat) (Option.some Jvm.ClassFile.FieldType.int)).before args0 about1 = true := code_word (m := ⟨2, 1⟩) (meth := k2m1) (c := k2c1) (by decide +kernel) rfl rfl rfl (by decide +kernel)
set_option maxRecDepth 65536 in
theorem w_c2 : (Jvm.Cond.code ({ cls := "needlewise/kmp/SparseAutomatonNextPinLaw", name := "pattern", desc := "([CI)[C" } : Jvm.MethodName) method_3_code (2 : Nat) (Option.some (Jvm.ClassFile.FieldType.array Jvm.ClassFile.FieldType.char))).before args0 about1 = true := code_word (m := ⟨1, 2⟩) (meth := k1m2) (c := k1c2) (by decide +kernel) rfl rfl rfl (by decide +kernel)
set_option maxRecDepth 65536 in
theorem w_c3 : (Jvm.Cond.code ({ cls := "needlewise/kmp/SparseAutomaton", name := "<init>", desc := "([C)V" } : Jvm.MethodName) prog_24_method_1_code (6 : Nat) (Option.none : Option Jvm.ClassFile.FieldType)).before args0 about1 = true := code_word (m := ⟨4, 0⟩) (meth := k4m0) (c := k4c0) (by decide +kernel) rfl rfl rfl (by decide +kernel)
set_option maxRecDepth 65536 in
theorem w_c4 : (Jvm.Cond.code ({ cls := "java/lang/Object", name := "<init>", desc := "()V" } : Jvm.MethodName) object_method_1_code (1 : Nat) (Option.none : Option Jvm.ClassFile.FieldType)).before args0 about1 = true := code_word (m := ⟨0, 0⟩) (meth := k0m0) (c := k0c0) (by decide +kernel) rfl rfl rfl (by decide +kernel)
set_option maxRecDepth 65536 in
theorem w_c5 : (Jvm.Cond.code ({ cls := "needlewise/kmp/SparseAutomaton", name := "next", desc := "(IC)I" } : Jvm.MethodName) prog_24_method_3_code (4 : Nat) (Option.some Jvm.ClassFile.FieldType.int)).before args0 about1 = true := code_word (m := ⟨4, 1⟩) (meth := k4m1) (c := k4c1) (by decide +kernel) rfl rfl rfl (by decide +kernel)
set_option maxRecDepth 65536 in
theorem w_c6 : (Jvm.Cond.code ({ cls := "needlewise/kmp/SparseAutomatonNextPinLaw", name := "ends", desc := "([C[CII)Z" } : Jvm.MethodName) method_2_code (4 : Nat) (Option.some Jvm.ClassFile.FieldType.boolean)).before args0 about1 = true := code_word (m := ⟨1, 1⟩) (meth := k1m1) (c := k1c1) (by decide +kernel) rfl rfl rfl (by decide +kernel)
def codes1 : List Jvm.Cond := [Jvm.Cond.code x code maxLocals ret, Jvm.Cond.code ({ cls := "java/lang/Math", name := "min", desc := "(II)I" } : Jvm.MethodName) jdk_29_method_69_code (2 : Nat) (Option.some Jvm.ClassFile.FieldType.int), Jvm.Cond.code ({ cls := "needlewise/kmp/SparseAutomatonNextPinLaw", name := "pattern", desc := "([CI)[C" } : Jvm.MethodName) method_3_code (2 : Nat) (Option.some (Jvm.ClassFile.FieldType.array Jvm.ClassFile.FieldType.char)), Jvm.Cond.code ({ cls := "needlewise/kmp/SparseAutomaton", name := "<init>", desc := "([C)V" } : Jvm.MethodName) prog_24_method_1_code (6 : Nat) (Option.none : Option Jvm.ClassFile.FieldType), Jvm.Cond.code ({ cls := "java/lang/Object", name := "<init>", desc := "()V" } : Jvm.MethodName) object_method_1_code (1 : Nat) (Option.none : Option Jvm.ClassFile.FieldType), Jvm.Cond.code ({ cls := "needlewise/kmp/SparseAutomaton", name := "next", desc := "(IC)I" } : Jvm.MethodName) prog_24_method_3_code (4 : Nat) (Option.some Jvm.ClassFile.FieldType.int), Jvm.Cond.code ({ cls := "needlewise/kmp/SparseAutomatonNextPinLaw", name := "ends", desc := "([C[CII)Z" } : Jvm.MethodName) method_2_code (4 : Nat) (Option.some Jvm.ClassFile.FieldType.boolean)]
set_option maxRecDepth 65536 in
theorem codes_eq : words1.filter isCode = codes1 := rfl
theorem w_codes : ∀ c ∈ words1.filter isCode, c.before args0 about1 = true := by
  rw [codes_eq]
  intro c hc
  simp only [codes1, List.mem_cons, List.not_mem_nil, or_false] at hc
  rcases hc with rfl | rfl | rfl | rfl | rfl | rfl | rfl
  · exact w_c0
  · exact w_c1
  · exact w_c2
  · exact w_c3
  · exact w_c4
  · exact w_c5
  · exact w_c6
set_option maxRecDepth 65536 in
theorem w_t1 : (words1.take 24).all (fun c => isCode c || c.before args0 about1) = true := by decide +kernel
set_option maxRecDepth 65536 in
theorem w_t2 : (words1.drop 24).all (fun c => isCode c || c.before args0 about1) = true := by decide +kernel
theorem w_tables : (allAtoms (Jvm.Cond.code x code maxLocals ret :: tables_1)).before args0 about1 = true := by
  rw [allAtoms_all]
  show words1.all (fun c => c.before args0 about1) = true
  refine all_split ?_ w_codes
  rw [← List.take_append_drop 24 words1, List.all_append, w_t1, w_t2]
  rfl
set_option maxRecDepth 65536 in
theorem w_case : (Jvm.Cond.and given_1 narrow_1).before args0 about1 = true := by decide +kernel
theorem w_applies : (headSpec (Jvm.Cond.code x code maxLocals ret :: tables_1) room_1).applies x e0.platform about1 = true :=
  (Spec.applies_iff w_frames).mpr ⟨w_running, w_runnable, w_alone, w_named, w_hears, w_ripe, w_room, w_tables⟩
theorem atStart : AtStart classFile x code maxLocals ret World_1 tables_1 room_1 Calls_1 rest_1 Pre_1 launch0 p0 e0 about1 theMethod args0 below0 :=
  ⟨lists_1, trivial, launch0.admits_env _ _ _, launch0.least_env, fairChoices_fair.cas, fairChoices_fair.clock, w_frames, w_args, w_heap, w_applies, trivial, trivial, w_case⟩
end start1
theorem witness_1 : WitnessClaimed_1 := ⟨start1.p0, start1.e0, start1.about1, start1.theMethod, start1.args0, start1.below0, start1.atStart⟩
end Jvm.Pilot.@@N@@
