import JvmDerived
import JvmDerived.Pilot.@@N@@Statement
import JvmDerived.Pilot.@@N@@Code
set_option linter.unusedVariables false
set_option linter.unusedSimpArgs false
namespace Jvm.OwnRun
open Sem ClassFile Op Lib Jvm.Stand Jvm.Free Jvm.LawKit Jvm.RoadKit
/-- the run that stands at A comes to the end of this invocation, and Q holds there -/
def Run (p : Program) (e : Env) (below : List Frame) (s : State) (Q : Option Value → Heap → List Loc → Prop) (k n : Nat) (A : State) : Prop :=
  ∃ s₂ o, Steps p.tables e below A s₂ ∧ s₂.status = .running ∧ Ended s₂ below o ∧ ∃ v L, o = .returned v ∧ Q v s₂.heap L ∧ FrameEnd s o s₂ L k n
/-- the contract of a body at one heap and one row of arguments -/
def Ctr (l : Launch) (Z : State) (y : MethodName) (bytes : ByteArray) (ml : Nat) (ret : Option FieldType) (rm : Room) (as' : Array Value) (h0 : Heap) (Q : Option Value → Heap → List Loc → Prop) : Prop :=
  ∀ ws : List Jvm.Cond, MetFree l y (head1 (Jvm.Cond.code y bytes ml ret :: ws) rm) (fun a U => a = as' ∧ Z.Warmed39 U.vm ∧ U.heap = h0) (fun _ _ _ _ _ => True) (fun _ U o U' => ∃ v L, o = .returned v ∧ Q v U'.heap L ∧ FrameEnd U o U' L rm.cells rm.slots)
section Laws
variable {p : Program} {l : Launch} {e : Env} {R : Room} {s : State} {m : MethodId} {args : Array Value} {below : List Frame} {meth : Method} {c : Code} {T : State} {locs : List Loc} {cells slots : Nat} {Z : State} {a0 : Array Value} {h h' : Heap}
variable {Q Q' : Option Value → Heap → List Loc → Prop} {k n : Nat}
theorem Run.st {A B : State} (f : ∀ t, Steps p.tables e below B t → Steps p.tables e below A t) (r : Run p e below s Q k n B) : Run p e below s Q k n A := by
  obtain ⟨s₂, o, h1, r⟩ := r
  exact ⟨s₂, o, f _ h1, r⟩
theorem Ctr.of {y : MethodName} {bytes : ByteArray} {ml : Nat} {ret : Option FieldType} {rm : Room} {as' : Array Value} {h0 : Heap} {Ls : Array Slot} (hpl : plainFor y = true) (hef : ∀ m, entryFrame m as' ml = mkF m 0 Ls [])
    (body : ∀ (p : Program) (e : Env) (s : State) (m : MethodId) (below : List Frame) (meth : Method) (c : Code) (T : State), p.tables.exec = Jvm.exec → c.code = bytes → c.maxLocals = ml → s.vm.findClass y.cls = some m.cls → meth.name = y.name → meth.sig.returnType = ret → meth.locks = false → Z.Warmed39 s.vm → T.heap = h0 →
      Stand p l e rm s m as' below meth c T [] 0 0 → Run p e below s Q rm.cells rm.slots (T.setTop (mkF m 0 Ls []))) : Ctr l Z y bytes ml ret rm as' h0 Q := by
  intro ws
  refine MetFree.of_bodySF hpl hisR ?_
  intro p e s m args below meth c s₁ Bd hml0 hP hK
  obtain ⟨rfl, hZ, hh⟩ := hP
  have q := body p e s m below meth c s₁ Bd.exec Bd.bytes hml0 (findClass_of_methodNamed Bd.named) (name_of_methodNamed Bd.named Bd.method).1 Bd.returns Bd.notSynchronized hZ (by rw [← hh, Bd.state]; rfl) (Stand.of_body Bd)
  rw [hef]
  exact q
theorem Run.end_ (X : Stand p l e R s m args below meth c T locs cells slots) (hlk : meth.locks = false) (eT : T.heap = h) {v : Option Value} (hv : meth.sig.returnType = none → v = none) (hc : cells ≤ k) (hn : slots ≤ n) (hQ : Q v h locs) {A : State}
    (f : ∀ fs, (∀ (f : JFrame) (acts : List Action), f.method = m → f.locked = none → f.entered = [] → (doReturn e (T.setTop f) acts v).1 = T.setFrames fs) → Steps p.tables e below A (T.setFrames fs)) : Run p e below s Q k n A := by
  obtain ⟨fs, hr, hrun, hended, hW, hsame⟩ := X.leave (v := v) hv
  exact ⟨_, _, f fs hr, hrun, hended, _, _, rfl, by rw [show (T.setFrames fs).heap = h from eT]; exact hQ, ⟨_, rfl⟩, hW, hsame.mono hc hn⟩
theorem Run.retN (X : Stand p l e R s m args below meth c T locs cells slots) (hx : p.tables.exec = Jvm.exec) (hlk : meth.locks = false) (eT : T.heap = h) {t : FieldType} (hret : meth.sig.returnType = some t) (ht : t = .boolean ∨ t = .byte ∨ t = .char ∨ t = .short) {pc : Nat} {Ls : Array Slot} {z : Int32} {rest : List Value}
    {z' : Int32} (hz : nar t z = z') (hd : decode c.code pc = .ok (.ireturn, 1)) (hc : cells ≤ k) (hn : slots ≤ n) (hQ : Q (some (.int z')) h locs) : Run p e below s Q k n (T.setTop (mkF m pc Ls (.int z :: rest))) :=
  Run.end_ X hlk eT (v := some (.int (nar t z))) (fun q => by rw [hret] at q; cases q) hc hn (hz ▸ hQ) fun fs hr => RoadKit.retN X hx hret ht hd hr
theorem Run.retI (X : Stand p l e R s m args below meth c T locs cells slots) (hx : p.tables.exec = Jvm.exec) (hlk : meth.locks = false) (eT : T.heap = h) (hret : meth.sig.returnType = some .int) {pc : Nat} {Ls : Array Slot} {z : Int32} {rest : List Value}
    (hd : decode c.code pc = .ok (.ireturn, 1)) (hc : cells ≤ k) (hn : slots ≤ n) (hQ : Q (some (.int z)) h locs) : Run p e below s Q k n (T.setTop (mkF m pc Ls (.int z :: rest))) :=
  Run.end_ X hlk eT (v := some (.int z)) (fun q => by rw [hret] at q; cases q) hc hn hQ fun fs hr => RoadKit.retOut X hx hret rfl (Or.inl ⟨rfl, Or.inl rfl, z, rfl⟩) hd hr
theorem Run.retA (X : Stand p l e R s m args below meth c T locs cells slots) (hx : p.tables.exec = Jvm.exec) (hlk : meth.locks = false) (eT : T.heap = h) {t : FieldType} (hret : meth.sig.returnType = some t) (ht : t.isReference = true) {w : Value} (hw : w.isRef = true) (hnr : narrow t w = w) {pc : Nat} {Ls : Array Slot} {rest : List Value}
    (hd : decode c.code pc = .ok (.areturn, 1)) (hc : cells ≤ k) (hn : slots ≤ n) (hQ : Q (some w) h locs) : Run p e below s Q k n (T.setTop (mkF m pc Ls (w :: rest))) :=
  Run.end_ X hlk eT (v := some w) (fun q => by rw [hret] at q; cases q) hc hn hQ fun fs hr => RoadKit.retOut X hx hret hnr (Or.inr (Or.inr (Or.inr (Or.inr ⟨rfl, ht, hw⟩)))) hd hr
theorem Run.retV (X : Stand p l e R s m args below meth c T locs cells slots) (hx : p.tables.exec = Jvm.exec) (hlk : meth.locks = false) (eT : T.heap = h) (hret : meth.sig.returnType = none) {pc : Nat} {Ls : Array Slot}
    (hd : decode c.code pc = .ok (.return_, 1)) (hc : cells ≤ k) (hn : slots ≤ n) (hQ : Q none h locs) : Run p e below s Q k n (T.setTop (mkF m pc Ls [])) :=
  Run.end_ X hlk eT (v := none) (fun _ => rfl) hc hn hQ fun fs hr => X.returnOut hx hret hd hr
/-- a call's premises that are alike for every kind of call -/
theorem Ctr.back {y : MethodName} {bytes : ByteArray} {ml : Nat} {ret : Option FieldType} {rm : Room} {as' : Array Value} {len W : Nat} (K : Ctr l Z y bytes ml ret rm as' h Q') (hZ : Z.Warmed39 s.vm) (wc : (Jvm.Cond.code y bytes ml ret).before a0 Z = true) (wz : (Jvm.Cond.initialized y.cls).before a0 Z = true) (hf : rm.frames + 1 ≤ R.frames) (hl : W + (ml + 11) + rm.locals ≤ R.locals) :
    Back l R p e below s args y len W (fun A a => a = as' ∧ A.U.heap = h ∧ A.cells + rm.cells ≤ R.cells ∧ A.slots + rm.slots ≤ R.slots) (fun A _ v B => ∃ L, Q' v B.U.heap L ∧ B.locs = A.locs ++ L ∧ B.cells = A.cells + rm.cells ∧ B.slots = A.slots + rm.slots) := backOf (K []) hZ wc wz hf hl
theorem Run.callS (X : Stand p l e R s m args below meth c T locs cells slots) (hx : p.tables.exec = Jvm.exec) (hZ : Z.Warmed39 s.vm) (eT : T.heap = h) {own : String} {index : Nat} {y : MethodName} {bytes : ByteArray} {ml : Nat} {ret : Option FieldType} {rm : Room}
    (hown : s.vm.findClass own = some m.cls) (w1 : (Jvm.Cond.methodLink own index y).before a0 Z = true) (w2 : (Jvm.Cond.static y).before a0 Z = true) (w3 : (Jvm.Cond.initialized y.cls).before a0 Z = true) (w4 : (Jvm.Cond.code y bytes ml ret).before a0 Z = true)
    (hy : y.cls ≠ "java/lang/invoke/MethodHandle" ∧ y.cls ≠ "java/lang/invoke/VarHandle") {argsL rest : List Value} (K : Ctr l Z y bytes ml ret rm argsL.toArray h Q') {ps : List FieldType} {r : Option FieldType} (hpd : parseMethodDescriptor y.desc = some ⟨ps, r⟩) (hlen : argsL.length = ps.length)
    {pc : Nat} {Ls : Array Slot} (hsz : Ls.size = c.maxLocals) {W : Nat} (hW : (rest.map fun v => v.category).sum = W) (hf : rm.frames + 1 ≤ R.frames) (hl : W + (ml + 11) + rm.locals ≤ R.locals) (hc : cells + rm.cells ≤ R.cells) (hs : slots + rm.slots ≤ R.slots)
    (hd : decode c.code pc = .ok (.invokestatic index, 3)) {st : List Value} (hst : st = argsL.reverse ++ rest)
    (kk : ∀ (T' : State) (v : Option Value) (L : List Loc), Stand p l e R s m args below meth c T' (locs ++ L) (cells + rm.cells) (slots + rm.slots) → Q' v T'.heap L → Run p e below s Q k n (T'.setTop (mkF m (pc + 3) Ls (v.toList ++ rest)))) :
    Run p e below s Q k n (T.setTop (mkF m pc Ls st)) := by
  obtain ⟨v, _, ⟨T', L', k', n'⟩, -, X', ⟨L, hQ, l1, y1, z1⟩, st1⟩ := Jvm.LawKit.callS X hx (y := y) hown (mvT hZ w1) (mvT hZ w2) (mvT hZ w3) (mvT hZ w4) hy (K.back hZ w4 w3 hf hl) (g := mkF m pc Ls st) rfl hsz (argsL := argsL) (rest := rest) (lenOf hpd hlen) hst (by show 2 * 0 + _ ≤ _; rw [hW]; omega) hd (fun _ _ => ⟨rfl, eT, hc, hs⟩)
  dsimp only [Pt.U, Pt.locs, Pt.cells, Pt.slots] at X' l1 y1 z1 st1 hQ
  subst l1 y1 z1
  exact Run.st st1 (kk T' v L X' hQ)
theorem Run.callC (X : Stand p l e R s m args below meth c T locs cells slots) (hx : p.tables.exec = Jvm.exec) (hZ : Z.Warmed39 s.vm) (eT : T.heap = h) {own : String} {index : Nat} {y : MethodName} {bytes : ByteArray} {ml : Nat} {rm : Room}
    (hown : s.vm.findClass own = some m.cls) (hy1 : y.name = "<init>") (w1 : (Jvm.Cond.methodLink own index y).before a0 Z = true) (w2 : (Jvm.Cond.instanceMethod y).before a0 Z = true) (w3 : (Jvm.Cond.initialized y.cls).before a0 Z = true) (w4 : (Jvm.Cond.code y bytes ml none).before a0 Z = true)
    (hy : y.cls ≠ "java/lang/invoke/MethodHandle" ∧ y.cls ≠ "java/lang/invoke/VarHandle") {a : Addr} {argsL rest : List Value} (K : Ctr l Z y bytes ml none rm (.ref a :: argsL).toArray h Q') {ps : List FieldType} {r : Option FieldType} (hpd : parseMethodDescriptor y.desc = some ⟨ps, r⟩) (hlen : argsL.length = ps.length)
    {pc : Nat} {Ls : Array Slot} (hsz : Ls.size = c.maxLocals) {W : Nat} (hW : (rest.map fun v => v.category).sum = W) (hf : rm.frames + 1 ≤ R.frames) (hl : W + (ml + 11) + rm.locals ≤ R.locals) (hc : cells + rm.cells ≤ R.cells) (hs : slots + rm.slots ≤ R.slots)
    (hd : decode c.code pc = .ok (.invokespecial index, 3)) {st : List Value} (hst : st = argsL.reverse ++ .ref a :: rest)
    (kk : ∀ (T' : State) (v : Option Value) (L : List Loc), Stand p l e R s m args below meth c T' (locs ++ L) (cells + rm.cells) (slots + rm.slots) → Q' v T'.heap L → Run p e below s Q k n (T'.setTop (mkF m (pc + 3) Ls (v.toList ++ rest)))) :
    Run p e below s Q k n (T.setTop (mkF m pc Ls st)) := by
  obtain ⟨v, _, ⟨T', L', k', n'⟩, -, X', ⟨L, hQ, l1, y1, z1⟩, st1⟩ := X.specialBack hx (y := y) hy1 hown (mvT hZ w1) (mvT hZ w2) (mvT hZ w4) hy (K.back hZ w4 w3 hf hl) (g := mkF m pc Ls st) rfl hsz (Steps.refl _) (a := a) (argsL := argsL) (rest := rest) (lenOf hpd hlen) hst (by show 2 * 0 + _ ≤ _; rw [hW]; omega) hd (fun _ _ => ⟨rfl, eT, hc, hs⟩)
  dsimp only [Pt.U, Pt.locs, Pt.cells, Pt.slots] at X' l1 y1 z1 st1 hQ
  subst l1 y1 z1
  exact Run.st (fun t q => st1.trans q) (kk T' v L X' hQ)
/-- 'invokevirtual', the body that the receiver's class selects -/
theorem Run.callV (X : Stand p l e R s m args below meth c T locs cells slots) (hx : p.tables.exec = Jvm.exec) (hZ : Z.Warmed39 s.vm) (eT : T.heap = h) {own C : String} {index : Nat} {y z : MethodName} {bytes : ByteArray} {ml : Nat} {ret : Option FieldType} {rm : Room}
    (hown : s.vm.findClass own = some m.cls) (w1 : (Jvm.Cond.methodLink own index y).before a0 Z = true) (w2 : (Jvm.Cond.declares y).before a0 Z = true) (hnf : NotFace s y) (w5 : (Jvm.Cond.selects C y z).before a0 Z = true) (w6 : (Jvm.Cond.instanceMethod z).before a0 Z = true) (w3 : (Jvm.Cond.initialized z.cls).before a0 Z = true) (w4 : (Jvm.Cond.code z bytes ml ret).before a0 Z = true)
    (hy : y.cls ≠ "java/lang/invoke/MethodHandle" ∧ y.cls ≠ "java/lang/invoke/VarHandle") {a : Addr} (E : Exa Z h a C) {argsL rest : List Value} (K : Ctr l Z z bytes ml ret rm (.ref a :: argsL).toArray h Q') {ps : List FieldType} {r : Option FieldType} (hpd : parseMethodDescriptor y.desc = some ⟨ps, r⟩) (hlen : argsL.length = ps.length)
    {pc : Nat} {Ls : Array Slot} (hsz : Ls.size = c.maxLocals) {W : Nat} (hW : (rest.map fun v => v.category).sum = W) (hf : rm.frames + 1 ≤ R.frames) (hl : W + (ml + 11) + rm.locals ≤ R.locals) (hc : cells + rm.cells ≤ R.cells) (hs : slots + rm.slots ≤ R.slots)
    (hd : decode c.code pc = .ok (.invokevirtual index, 3)) {st : List Value} (hst : st = argsL.reverse ++ .ref a :: rest)
    (kk : ∀ (T' : State) (v : Option Value) (L : List Loc), Stand p l e R s m args below meth c T' (locs ++ L) (cells + rm.cells) (slots + rm.slots) → Q' v T'.heap L → Run p e below s Q k n (T'.setTop (mkF m (pc + 3) Ls (v.toList ++ rest)))) :
    Run p e below s Q k n (T.setTop (mkF m pc Ls st)) := by
  obtain ⟨cq, kq, qa, qb, qc⟩ := isOf hZ eT E
  obtain ⟨v, _, ⟨T', L', k', n'⟩, -, X', ⟨L, hQ, l1, y1, z1⟩, st1⟩ := X.virtualBack hx (y := y) (z := z) hown (mvT hZ w1) (mvT hZ w2) hnf (mvT hZ w5) (mvT hZ w6) hy (K.back hZ w4 w3 hf hl) qa qc (g := mkF m pc Ls st) rfl hsz (Steps.refl _) (argsL := argsL) (rest := rest) (lenOf hpd hlen) hst (by show 2 * 0 + _ ≤ _; rw [hW]; omega) hd (fun _ _ => ⟨rfl, eT, hc, hs⟩)
  dsimp only [Pt.U, Pt.locs, Pt.cells, Pt.slots] at X' l1 y1 z1 st1 hQ
  subst l1 y1 z1
  exact Run.st (fun t q => st1.trans q) (kk T' v L X' hQ)
theorem Run.init (X : Stand p l e R s m args below meth c T locs cells slots) (hx : p.tables.exec = Jvm.exec) (hZ : Z.Warmed39 s.vm) (eT : T.heap = h) {own : String} {idx : Nat} (hown : s.vm.findClass own = some m.cls) (w1 : (Jvm.Cond.methodLink own idx Lib.objectInit).before a0 Z = true) (w2 : (Jvm.Cond.instanceMethod Lib.objectInit).before a0 Z = true)
    (w3 : (Jvm.Cond.code Lib.objectInit ⟨#[0xb1]⟩ 1 none).before a0 Z = true) {pc : Nat} {Ls : Array Slot} (hsz : Ls.size = c.maxLocals) {a : Addr} {rest : List Value} (hd : decode c.code pc = .ok (.invokespecial idx, 3)) (hf : 1 ≤ R.frames) {W : Nat} (hW : (rest.map fun v => v.category).sum = W) (hl : W + 12 ≤ R.locals)
    (kk : ∀ (T' : State), Stand p l e R s m args below meth c T' locs cells slots → T'.heap = h → Run p e below s Q k n (T'.setTop (mkF m (pc + 3) Ls rest))) :
    Run p e below s Q k n (T.setTop (mkF m pc Ls (.ref a :: rest))) := by
  obtain ⟨T', X', e', st'⟩ := initO X hx hZ hown w1 w2 w3 eT (g := mkF m pc Ls (.ref a :: rest)) rfl hsz rfl hd hf (W := W) (by show 2 * 0 + _ ≤ _; rw [hW]; omega) hl
  exact Run.st st' (kk T' X' e')
theorem Run.x_iloadN (X : Stand p l e R s m args below meth c T locs cells slots) (hx : p.tables.exec = Jvm.exec) {pc q : Nat} {Ls : Array Slot} {S : List Value} {j : Fin 4} {v : Int32} (hd : decode c.code pc = .ok (.iload_n j, 1)) (hl : Ls[j.val]? = some (.val (.int v))) (hq : pc + 1 = q) (r : Run p e below s Q k n (T.setTop (mkF m q Ls (.int v :: S)))) : Run p e below s Q k n (T.setTop (mkF m pc Ls (S))) := by
  subst hq; exact Run.st (fun t kt => XS.iloadN X.here hx rfl hd hl kt) r
theorem Run.x_iload (X : Stand p l e R s m args below meth c T locs cells slots) (hx : p.tables.exec = Jvm.exec) {pc q : Nat} {Ls : Array Slot} {S : List Value} {j : Nat} {v : Int32} (hd : decode c.code pc = .ok (.iload j, 2)) (hl : Ls[j]? = some (.val (.int v))) (hq : pc + 2 = q) (r : Run p e below s Q k n (T.setTop (mkF m q Ls (.int v :: S)))) : Run p e below s Q k n (T.setTop (mkF m pc Ls (S))) := by
  subst hq; exact Run.st (fun t kt => XS.iload X.here hx rfl hd hl kt) r
theorem Run.x_aloadN (X : Stand p l e R s m args below meth c T locs cells slots) (hx : p.tables.exec = Jvm.exec) {pc q : Nat} {Ls : Array Slot} {S : List Value} {j : Fin 4} {v : Value} (hd : decode c.code pc = .ok (.aload_n j, 1)) (hl : Ls[j.val]? = some (.val v)) (hv : v.isRef = true) (hq : pc + 1 = q) (r : Run p e below s Q k n (T.setTop (mkF m q Ls (v :: S)))) : Run p e below s Q k n (T.setTop (mkF m pc Ls (S))) := by
  subst hq; exact Run.st (fun t kt => XS.aloadN X.here hx rfl hd hl hv kt) r
theorem Run.x_aload (X : Stand p l e R s m args below meth c T locs cells slots) (hx : p.tables.exec = Jvm.exec) {pc q : Nat} {Ls : Array Slot} {S : List Value} {j : Nat} {v : Value} (hd : decode c.code pc = .ok (.aload j, 2)) (hl : Ls[j]? = some (.val v)) (hv : v.isRef = true) (hq : pc + 2 = q) (r : Run p e below s Q k n (T.setTop (mkF m q Ls (v :: S)))) : Run p e below s Q k n (T.setTop (mkF m pc Ls (S))) := by
  subst hq; exact Run.st (fun t kt => XS.aload X.here hx rfl hd hl hv kt) r
theorem Run.x_istoreN (X : Stand p l e R s m args below meth c T locs cells slots) (hx : p.tables.exec = Jvm.exec) {pc q : Nat} {Ls : Array Slot} {S : List Value} {j : Fin 4} {v : Int32} (L' : Array Slot) (hd : decode c.code pc = .ok (.istore_n j, 1)) (hl : storeLocals Ls j.val (.int v) = some L') (hq : pc + 1 = q) (r : Run p e below s Q k n (T.setTop (mkF m q L' (S)))) : Run p e below s Q k n (T.setTop (mkF m pc Ls (.int v :: S))) := by
  subst hq; exact Run.st (fun t kt => XS.istoreN X.here hx rfl hd rfl hl kt) r
theorem Run.x_istore (X : Stand p l e R s m args below meth c T locs cells slots) (hx : p.tables.exec = Jvm.exec) {pc q : Nat} {Ls : Array Slot} {S : List Value} {j : Nat} {v : Int32} (L' : Array Slot) (hd : decode c.code pc = .ok (.istore j, 2)) (hl : storeLocals Ls j (.int v) = some L') (hq : pc + 2 = q) (r : Run p e below s Q k n (T.setTop (mkF m q L' (S)))) : Run p e below s Q k n (T.setTop (mkF m pc Ls (.int v :: S))) := by
  subst hq; exact Run.st (fun t kt => XS.istore X.here hx rfl hd rfl hl kt) r
theorem Run.x_astoreN (X : Stand p l e R s m args below meth c T locs cells slots) (hx : p.tables.exec = Jvm.exec) {pc q : Nat} {Ls : Array Slot} {S : List Value} {j : Fin 4} {v : Value} (L' : Array Slot) (hd : decode c.code pc = .ok (.astore_n j, 1)) (hv : v.isRef = true) (hl : storeLocals Ls j.val v = some L') (hq : pc + 1 = q) (r : Run p e below s Q k n (T.setTop (mkF m q L' (S)))) : Run p e below s Q k n (T.setTop (mkF m pc Ls (v :: S))) := by
  subst hq; exact Run.st (fun t kt => XS.astoreN X.here hx rfl hd rfl hv hl kt) r
theorem Run.x_astore (X : Stand p l e R s m args below meth c T locs cells slots) (hx : p.tables.exec = Jvm.exec) {pc q : Nat} {Ls : Array Slot} {S : List Value} {j : Nat} {v : Value} (L' : Array Slot) (hd : decode c.code pc = .ok (.astore j, 2)) (hv : v.isRef = true) (hl : storeLocals Ls j v = some L') (hq : pc + 2 = q) (r : Run p e below s Q k n (T.setTop (mkF m q L' (S)))) : Run p e below s Q k n (T.setTop (mkF m pc Ls (v :: S))) := by
  subst hq; exact Run.st (fun t kt => XS.astore X.here hx rfl hd rfl hv hl kt) r
theorem Run.x_iconst (X : Stand p l e R s m args below meth c T locs cells slots) (hx : p.tables.exec = Jvm.exec) {pc q : Nat} {Ls : Array Slot} {S : List Value} {i : Int} {z : Int32} (hd : decode c.code pc = .ok (.iconst i, 1)) (hz : Int32.ofInt i = z) (hq : pc + 1 = q) (r : Run p e below s Q k n (T.setTop (mkF m q Ls (.int z :: S)))) : Run p e below s Q k n (T.setTop (mkF m pc Ls (S))) := by
  subst hq; subst hz; exact Run.st (fun t kt => XS.iconst X.here hx rfl hd kt) r
theorem Run.x_bipush (X : Stand p l e R s m args below meth c T locs cells slots) (hx : p.tables.exec = Jvm.exec) {pc q : Nat} {Ls : Array Slot} {S : List Value} {i : Int} {z : Int32} (hd : decode c.code pc = .ok (.bipush i, 2)) (hz : (Int8.ofInt i).toInt32 = z) (hq : pc + 2 = q) (r : Run p e below s Q k n (T.setTop (mkF m q Ls (.int z :: S)))) : Run p e below s Q k n (T.setTop (mkF m pc Ls (S))) := by
  subst hq; subst hz; exact Run.st (fun t kt => XS.bipush X.here hx rfl hd kt) r
theorem Run.x_sipush (X : Stand p l e R s m args below meth c T locs cells slots) (hx : p.tables.exec = Jvm.exec) {pc q : Nat} {Ls : Array Slot} {S : List Value} {i : Int} {z : Int32} (hd : decode c.code pc = .ok (.sipush i, 3)) (hz : (Int16.ofInt i).toInt32 = z) (hq : pc + 3 = q) (r : Run p e below s Q k n (T.setTop (mkF m q Ls (.int z :: S)))) : Run p e below s Q k n (T.setTop (mkF m pc Ls (S))) := by
  subst hq; subst hz; exact Run.st (fun t kt => XS.sipush X.here hx rfl hd kt) r
theorem Run.x_iadd (X : Stand p l e R s m args below meth c T locs cells slots) (hx : p.tables.exec = Jvm.exec) {pc q : Nat} {Ls : Array Slot} {S : List Value} {x y z : Int32} (hd : decode c.code pc = .ok (.iadd, 1)) (hz : x + y = z) (hq : pc + 1 = q) (r : Run p e below s Q k n (T.setTop (mkF m q Ls (.int z :: S)))) : Run p e below s Q k n (T.setTop (mkF m pc Ls (.int y :: .int x :: S))) := by
  subst hq; subst hz; exact Run.st (fun t kt => XS.iadd X.here hx rfl hd rfl kt) r
theorem Run.x_isub (X : Stand p l e R s m args below meth c T locs cells slots) (hx : p.tables.exec = Jvm.exec) {pc q : Nat} {Ls : Array Slot} {S : List Value} {x y z : Int32} (hd : decode c.code pc = .ok (.isub, 1)) (hz : x - y = z) (hq : pc + 1 = q) (r : Run p e below s Q k n (T.setTop (mkF m q Ls (.int z :: S)))) : Run p e below s Q k n (T.setTop (mkF m pc Ls (.int y :: .int x :: S))) := by
  subst hq; subst hz; exact Run.st (fun t kt => XS.isub X.here hx rfl hd rfl kt) r
theorem Run.x_iand (X : Stand p l e R s m args below meth c T locs cells slots) (hx : p.tables.exec = Jvm.exec) {pc q : Nat} {Ls : Array Slot} {S : List Value} {x y z : Int32} (hd : decode c.code pc = .ok (.iand, 1)) (hz : x &&& y = z) (hq : pc + 1 = q) (r : Run p e below s Q k n (T.setTop (mkF m q Ls (.int z :: S)))) : Run p e below s Q k n (T.setTop (mkF m pc Ls (.int y :: .int x :: S))) := by
  subst hq; subst hz; exact Run.st (fun t kt => XS.iand X.here hx rfl hd rfl kt) r
theorem Run.x_ior (X : Stand p l e R s m args below meth c T locs cells slots) (hx : p.tables.exec = Jvm.exec) {pc q : Nat} {Ls : Array Slot} {S : List Value} {x y z : Int32} (hd : decode c.code pc = .ok (.ior, 1)) (hz : x ||| y = z) (hq : pc + 1 = q) (r : Run p e below s Q k n (T.setTop (mkF m q Ls (.int z :: S)))) : Run p e below s Q k n (T.setTop (mkF m pc Ls (.int y :: .int x :: S))) := by
  subst hq; subst hz; exact Run.st (fun t kt => XS.ior X.here hx rfl hd rfl kt) r
theorem Run.x_iushr (X : Stand p l e R s m args below meth c T locs cells slots) (hx : p.tables.exec = Jvm.exec) {pc q : Nat} {Ls : Array Slot} {S : List Value} {x y z : Int32} (hd : decode c.code pc = .ok (.iushr, 1)) (hz : (x.toUInt32 >>> (y &&& 31).toUInt32).toInt32 = z) (hq : pc + 1 = q) (r : Run p e below s Q k n (T.setTop (mkF m q Ls (.int z :: S)))) : Run p e below s Q k n (T.setTop (mkF m pc Ls (.int y :: .int x :: S))) := by
  subst hq; subst hz; exact Run.st (fun t kt => XS.iushr X.here hx rfl hd rfl kt) r
theorem Run.x_irem (X : Stand p l e R s m args below meth c T locs cells slots) (hx : p.tables.exec = Jvm.exec) {pc q : Nat} {Ls : Array Slot} {S : List Value} {x y z : Int32} (hd : decode c.code pc = .ok (.irem, 1)) (hy : y ≠ 0) (hz : x % y = z) (hq : pc + 1 = q) (r : Run p e below s Q k n (T.setTop (mkF m q Ls (.int z :: S)))) : Run p e below s Q k n (T.setTop (mkF m pc Ls (.int y :: .int x :: S))) := by
  subst hq; subst hz; exact Run.st (fun t kt => iremM (g := mkF m pc Ls (.int y :: .int x :: S)) X hx rfl hd rfl hy kt) r
theorem Run.x_iinc (X : Stand p l e R s m args below meth c T locs cells slots) (hx : p.tables.exec = Jvm.exec) {pc q : Nat} {Ls : Array Slot} {S : List Value} {j : Nat} {i : Int} {x z : Int32} (L' : Array Slot) (hd : decode c.code pc = .ok (.iinc j i, 3)) (hl : Ls[j]? = some (.val (.int x))) (hz : x + Int32.ofInt i = z) (hl' : storeLocals Ls j (.int z) = some L') (hq : pc + 3 = q) (r : Run p e below s Q k n (T.setTop (mkF m q L' (S)))) : Run p e below s Q k n (T.setTop (mkF m pc Ls (S))) := by
  subst hq; subst hz; exact Run.st (fun t kt => XS.iinc X.here hx rfl hd hl hl' kt) r
theorem Run.x_dup (X : Stand p l e R s m args below meth c T locs cells slots) (hx : p.tables.exec = Jvm.exec) {pc q : Nat} {Ls : Array Slot} {S : List Value} {v : Value} (hd : decode c.code pc = .ok (.dup, 1)) (hc : v.category = 1) (hq : pc + 1 = q) (r : Run p e below s Q k n (T.setTop (mkF m q Ls (v :: v :: S)))) : Run p e below s Q k n (T.setTop (mkF m pc Ls (v :: S))) := by
  subst hq; exact Run.st (fun t kt => XS.dup X.here hx rfl hd rfl hc kt) r
theorem Run.x_pop (X : Stand p l e R s m args below meth c T locs cells slots) (hx : p.tables.exec = Jvm.exec) {pc q : Nat} {Ls : Array Slot} {S : List Value} {v : Value} (hd : decode c.code pc = .ok (.pop, 1)) (hc : v.category = 1) (hq : pc + 1 = q) (r : Run p e below s Q k n (T.setTop (mkF m q Ls (S)))) : Run p e below s Q k n (T.setTop (mkF m pc Ls (v :: S))) := by
  subst hq; exact Run.st (fun t kt => XS.pop X.here hx rfl hd rfl hc kt) r
theorem Run.x_goto (X : Stand p l e R s m args below meth c T locs cells slots) (hx : p.tables.exec = Jvm.exec) {pc q : Nat} {Ls : Array Slot} {S : List Value}  {o : Int} (hd : decode c.code pc = .ok (.goto o, 3)) (ho : 0 ≤ (pc : Int) + o) (hq : ((pc : Int) + o).toNat = q) (r : Run p e below s Q k n (T.setTop (mkF m q Ls (S)))) : Run p e below s Q k n (T.setTop (mkF m pc Ls (S))) :=
  Run.st (fun t kt => XS.goto X.here hx rfl (pc0 := pc) (pc' := q) rfl hd ho hq kt) r
theorem Run.x_ifYes (X : Stand p l e R s m args below meth c T locs cells slots) (hx : p.tables.exec = Jvm.exec) {pc q : Nat} {Ls : Array Slot} {S : List Value} {cd : ClassFile.Cond} {x : Int32} {o : Int} (hd : decode c.code pc = .ok (.ifCond cd o, 3)) (hc : ifCond.holds cd x = true) (ho : 0 ≤ (pc : Int) + o) (hq : ((pc : Int) + o).toNat = q) (r : Run p e below s Q k n (T.setTop (mkF m q Ls (S)))) : Run p e below s Q k n (T.setTop (mkF m pc Ls (.int x :: S))) :=
  Run.st (fun t kt => XS.ifYes X.here hx rfl (pc0 := pc) (pc' := q) rfl hd rfl hc ho hq kt) r
theorem Run.x_icmpYes (X : Stand p l e R s m args below meth c T locs cells slots) (hx : p.tables.exec = Jvm.exec) {pc q : Nat} {Ls : Array Slot} {S : List Value} {cd : ClassFile.Cond} {x y : Int32} {o : Int} (hd : decode c.code pc = .ok (.if_icmp cd o, 3)) (hc : if_icmp.holds cd x y = true) (ho : 0 ≤ (pc : Int) + o) (hq : ((pc : Int) + o).toNat = q) (r : Run p e below s Q k n (T.setTop (mkF m q Ls (S)))) : Run p e below s Q k n (T.setTop (mkF m pc Ls (.int y :: .int x :: S))) :=
  Run.st (fun t kt => XS.icmpYes X.here hx rfl (pc0 := pc) (pc' := q) rfl hd rfl hc ho hq kt) r
theorem Run.x_ifNo (X : Stand p l e R s m args below meth c T locs cells slots) (hx : p.tables.exec = Jvm.exec) {pc q : Nat} {Ls : Array Slot} {S : List Value} {cd : ClassFile.Cond} {x : Int32} {o : Int} (hd : decode c.code pc = .ok (.ifCond cd o, 3)) (hc : ifCond.holds cd x = false) (hq : pc + 3 = q) (r : Run p e below s Q k n (T.setTop (mkF m q Ls (S)))) : Run p e below s Q k n (T.setTop (mkF m pc Ls (.int x :: S))) := by
  subst hq; exact Run.st (fun t kt => XS.ifNo X.here hx rfl hd rfl hc kt) r
theorem Run.x_icmpNo (X : Stand p l e R s m args below meth c T locs cells slots) (hx : p.tables.exec = Jvm.exec) {pc q : Nat} {Ls : Array Slot} {S : List Value} {cd : ClassFile.Cond} {x y : Int32} {o : Int} (hd : decode c.code pc = .ok (.if_icmp cd o, 3)) (hc : if_icmp.holds cd x y = false) (hq : pc + 3 = q) (r : Run p e below s Q k n (T.setTop (mkF m q Ls (S)))) : Run p e below s Q k n (T.setTop (mkF m pc Ls (.int y :: .int x :: S))) := by
  subst hq; exact Run.st (fun t kt => XS.icmpNo X.here hx rfl hd rfl hc kt) r
/-- an array and all that it holds -/
def Ars (Z : State) (h : Heap) (a : Addr) (ty : FieldType) (vs : List Value) : Prop := ∃ c : Cell, Arr Z h a c ty ∧ c.slots.toList = vs
variable {a b : Addr} {ty : FieldType} {vs : List Value} {v : Value} {sl : Nat} {ws : List Addr}
theorem Ars.lt (A : Ars Z h a ty vs) : a < h.size := by obtain ⟨c, A, -⟩ := A; exact A.lt
theorem Ars.ext (A : Ars Z h a ty vs) (E : Ext h h') : Ars Z h' a ty vs := by obtain ⟨c, A, r⟩ := A; exact ⟨c, A.ext E, r⟩
theorem Ars.other (A : Ars Z h b ty vs) (W : Wr h h' a sl v) (q : b ≠ a) : Ars Z h' b ty vs := by obtain ⟨c, A, r⟩ := A; exact ⟨c, A.other W q, r⟩
theorem Ars.keep (A : Ars Z h a ty vs) (K : Keep h h' ws) (q : a ∉ ws) : Ars Z h' a ty vs := by obtain ⟨c, A, r⟩ := A; exact ⟨c, ⟨K.2.1 a c A.1 q, A.2⟩, r⟩
theorem Ars.same (A : Ars Z h a ty vs) (W : Wr h h' a sl v) : Ars Z h' a ty (vs.set sl v) := by
  obtain ⟨c, A, r⟩ := A
  exact ⟨_, A.same W, by subst r; simp [Cell.setSlot]⟩
theorem Ars.new {k : ClassId} {z : Int32} (A : Arr Z h a (newA k ty z) ty) : Ars Z h a ty (List.replicate z.toNatClampNeg (defaultValue ty)) := ⟨_, A, by simp [newA]⟩
theorem in_of {c : Cell} {j : Int32} {i : Nat} (e : c.slots.toList = vs) (hj : j.toInt = i) (hi : i < vs.length) : ¬ (j < 0 ∨ c.slots.size ≤ j.toNatClampNeg) ∧ j.toNatClampNeg = i := by
  have e2 : j.toNatClampNeg = i := by show j.toInt.toNat = i; rw [hj]; rfl
  have e3 : c.slots.size = vs.length := by rw [← e]; simp
  refine ⟨?_, e2⟩
  rw [e2, e3, Int32.lt_iff_toInt_lt, hj]
  have : (0 : Int32).toInt = 0 := rfl
  omega
theorem at_of {c : Cell} {j : Int32} {i : Nat} (e : c.slots.toList = vs) (hj : j.toInt = i) (hi : vs[i]? = some v) : ¬ (j < 0 ∨ c.slots.size ≤ j.toNatClampNeg) ∧ c.slots[j.toNatClampNeg]? = some v := by
  obtain ⟨q, e2⟩ := in_of e hj (List.getElem?_eq_some_iff.mp hi).1
  refine ⟨q, ?_⟩
  rw [e2, ← hi, ← e]; simp
theorem Run.newP (X : Stand p l e R s m args below meth c T locs cells slots) (hx : p.tables.exec = Jvm.exec) (hZ : Z.Warmed39 s.vm) (eT : T.heap = h) {aty : ArrayType} (w : (Jvm.Cond.arrayClass (newarray.typeOf aty)).before a0 Z = true) {pc : Nat} {Ls : Array Slot} {z : Int32} {rest : List Value} (hd : decode c.code pc = .ok (.newarray aty, 2))
    {len : Nat} (hz : ¬ z < 0) (hlen : z.toNatClampNeg = len) {cap : Nat} (hcap : len ≤ cap) (hb : cap * 8 ≤ 536870912) (hc : cells + 1 ≤ R.cells) (hl : slots + cap ≤ R.slots)
    (kk : ∀ (T' : State) (h' : Heap) (b : Addr), b = h.size → Stand p l e R s m args below meth c T' locs (cells + 1) (slots + cap) → T'.heap = h' → Ext h h' → Ars Z h' b (newarray.typeOf aty) (List.replicate len (defaultValue (newarray.typeOf aty))) → Run p e below s Q k n (T'.setTop (mkF m (pc + 2) Ls (.ref b :: rest)))) :
    Run p e below s Q k n (T.setTop (mkF m pc Ls (.int z :: rest))) := by
  obtain ⟨T', h', k', X', e', E', A', st'⟩ := RoadKit.newP X hx hZ w eT (g := mkF m pc Ls (.int z :: rest)) rfl hd rfl hz (cap := cap) (by rw [hlen]; exact hcap) hb hc hl
  have A2 := Ars.new A'
  rw [hlen] at A2
  exact Run.st st' (kk T' h' _ rfl X' e' E' A2)
theorem Run.ldI (X : Stand p l e R s m args below meth c T locs cells slots) (hx : p.tables.exec = Jvm.exec) (hZ : Z.Warmed39 s.vm) (eT : T.heap = h) (A : Ars Z h a .int vs) {j : Int32} {i : Nat} (hj : j.toInt = i) (hi : vs[i]? = some v) {pc : Nat} {Ls : Array Slot} {rest : List Value} (hd : decode c.code pc = .ok (.iaload, 1))
    (r : Run p e below s Q k n (T.setTop (mkF m (pc + 1) Ls (v :: rest)))) : Run p e below s Q k n (T.setTop (mkF m pc Ls (.int j :: .ref a :: rest))) := by
  obtain ⟨cl, A, q⟩ := A
  obtain ⟨q1, q2⟩ := at_of q hj hi
  exact Run.st (fun t kt => X.iaload hx (j := j) (v := v) (by rw [eT]; exact A.1) (State.isArrayOf_alike hZ.alike A.2.1) A.2.2 q1 q2 (g := mkF m pc Ls (.int j :: .ref a :: rest)) rfl rfl hd _ kt) r
theorem Run.ldR (X : Stand p l e R s m args below meth c T locs cells slots) (hx : p.tables.exec = Jvm.exec) (hZ : Z.Warmed39 s.vm) (eT : T.heap = h) (A : Ars Z h a ty vs) {j : Int32} {i : Nat} (hj : j.toInt = i) (hi : vs[i]? = some v) (hty : ty.isReference = true) {pc : Nat} {Ls : Array Slot} {rest : List Value} (hd : decode c.code pc = .ok (.aaload, 1))
    (r : Run p e below s Q k n (T.setTop (mkF m (pc + 1) Ls (v :: rest)))) : Run p e below s Q k n (T.setTop (mkF m pc Ls (.int j :: .ref a :: rest))) := by
  obtain ⟨cl, A, q⟩ := A
  obtain ⟨q1, q2⟩ := at_of q hj hi
  exact Run.st (fun t kt => X.aaload hx (j := j) (v := v) (by rw [eT]; exact A.1) (State.isArrayOf_alike hZ.alike A.2.1) hty A.2.2 q1 q2 (g := mkF m pc Ls (.int j :: .ref a :: rest)) rfl rfl hd _ kt) r
theorem Run.alen (X : Stand p l e R s m args below meth c T locs cells slots) (hx : p.tables.exec = Jvm.exec) (hZ : Z.Warmed39 s.vm) (eT : T.heap = h) (A : Ars Z h a ty vs) {z : Int32} (hz : vs.length.toInt32 = z) {pc : Nat} {Ls : Array Slot} {rest : List Value} (hd : decode c.code pc = .ok (.arraylength, 1))
    (r : Run p e below s Q k n (T.setTop (mkF m (pc + 1) Ls (.int z :: rest)))) : Run p e below s Q k n (T.setTop (mkF m pc Ls (.ref a :: rest))) := by
  obtain ⟨cl, A, q⟩ := A
  have e1 : cl.slots.size.toInt32 = z := by rw [← hz, ← q]; simp
  rw [← e1] at r
  exact Run.st (fun t kt => X.arraylength hx (by rw [eT]; exact A.1) (State.isArrayOf_alike hZ.alike A.2.1) (g := mkF m pc Ls (.ref a :: rest)) rfl rfl hd _ kt) r
theorem Run.stI (X : Stand p l e R s m args below meth c T locs cells slots) (hx : p.tables.exec = Jvm.exec) (hZ : Z.Warmed39 s.vm) (eT : T.heap = h) (A : Ars Z h a .int vs) {j z : Int32} {i : Nat} (hj : j.toInt = i) (hi : i < vs.length) {pc : Nat} {Ls : Array Slot} {rest : List Value} (hd : decode c.code pc = .ok (.iastore, 1))
    (kk : ∀ (T' : State) (h' : Heap), Stand p l e R s m args below meth c T' (locs ++ [⟨a, i⟩]) cells slots → T'.heap = h' → Wr h h' a i (.int z) → Ars Z h' a .int (vs.set i (.int z)) → Run p e below s Q k n (T'.setTop (mkF m (pc + 1) Ls rest))) : Run p e below s Q k n (T.setTop (mkF m pc Ls (.int z :: .int j :: .ref a :: rest))) := by
  obtain ⟨cl, A1, q⟩ := id A
  obtain ⟨q1, q2⟩ := in_of q hj hi
  obtain ⟨T', h', X', e', W', st'⟩ := RoadKit.stI X hx hZ eT A1 (j := j) (x := z) q1 (g := mkF m pc Ls (.int z :: .int j :: .ref a :: rest)) rfl rfl hd
  rw [q2] at X' W'
  exact Run.st st' (kk T' h' X' e' W' (A.same W'))
end Laws
/-- what lies at a is no class's statics -/
def NSt (h : Heap) (a : Addr) : Prop := ∀ c : Cell, h[a]? = some c → c.vm.isStatics = false
theorem Exa_ns {Z : State} {h : Heap} {a : Addr} {C : String} (E : Exa Z h a C) : NSt h a := by
  obtain ⟨c, _, h1, -, -, h4, -⟩ := E
  intro c' q
  cases h1.symm.trans q
  exact h4
theorem Ars.ns {Z : State} {h : Heap} {a : Addr} {ty : FieldType} {vs : List Value} (A : Ars Z h a ty vs) : NSt h a := by
  obtain ⟨c, A, -⟩ := A
  intro c' q
  cases A.1.symm.trans q
  exact A.plain
theorem Sta_keep {Z : State} {h h' : Heap} {C n d : String} {v : Value} {ws : List Addr} (F : Sta Z h C n d v) (K : Keep h h' ws) (q : ∀ x ∈ ws, NSt h x) : Sta Z h' C n d v := by
  obtain ⟨cf, i, k, f, st, cell, h1, h2, h3, h4, h5, h6, h7⟩ := F
  refine ⟨cf, i, k, f, st, cell, h1, h2, h3, h4, K.2.1 _ _ h5 (fun hm => ?_), h6, h7⟩
  have := q st hm cell h5
  rw [h6] at this
  cases this
theorem nar_b01 {z : Int32} (hz : z = 0 ∨ z = 1) : nar .boolean z = z := by rcases hz with rfl | rfl <;> decide
theorem nar_b (x : Int32) : nar .byte x.toInt8.toInt32 = x.toInt8.toInt32 := by
  show x.toInt8.toInt32.toInt8.toInt32 = x.toInt8.toInt32
  simp
theorem nar_c (x : Int32) : nar .char x.toUInt32.toUInt16.toUInt32.toInt32 = x.toUInt32.toUInt16.toUInt32.toInt32 := by
  show x.toUInt32.toUInt16.toUInt32.toInt32.toUInt32.toUInt16.toUInt32.toInt32 = _
  have q : ∀ y : UInt16, y.toUInt32.toInt32.toUInt32.toUInt16 = y := fun y => by simp
  rw [q]
theorem ints_at (xs : List Int32) {i : Nat} (h : i < xs.length) : ∃ x, (xs.map Value.int)[i]? = some (.int x) := ⟨xs[i], by simp [h]⟩
/-- 1 or 0 -/
def own_b (c : Prop) [Decidable c] : Int32 := if c then 1 else 0
theorem own_b1 {c : Prop} [Decidable c] (h : c) : own_b c = 1 := if_pos h
theorem own_b0 {c : Prop} [Decidable c] (h : ¬ c) : own_b c = 0 := if_neg h
theorem own_b01 (c : Prop) [Decidable c] : own_b c = 0 ∨ own_b c = 1 := by unfold own_b; split <;> simp
theorem sub_w (a b : Int32) : (a.toInt64 - b.toInt64).toInt = a.toInt - b.toInt := by
  have h1 := c_lsub a.toInt64 b.toInt64
  have h2 := rng64 (a.toInt64 - b.toInt64)
  have h3 := rng32 a
  have h4 := rng32 b
  rw [c_i2l, c_i2l] at h1
  omega
theorem lt32 (a b : Int32) : a < b ↔ a.toInt < b.toInt := Int32.lt_iff_toInt_lt
theorem lt64 (a b : Int64) : a < b ↔ a.toInt < b.toInt := Int64.lt_iff_toInt_lt
theorem eq32 (a b : Int32) : a = b ↔ a.toInt = b.toInt := Int32.toInt_inj.symm
theorem eq64 (a b : Int64) : a = b ↔ a.toInt = b.toInt := Int64.toInt_inj.symm
/-- an int comes back, nothing is touched -/
def PureI (h0 : Heap) (n0 : Nat) (z : Int32) (v : Option Value) (h : Heap) (L : List Loc) : Prop := v = some (.int z) ∧ Fr n0 L ∧ h = h0
def PureJ (h0 : Heap) (n0 : Nat) (z : Int64) (v : Option Value) (h : Heap) (L : List Loc) : Prop := v = some (.long z) ∧ Fr n0 L ∧ h = h0
def PureR (h0 : Heap) (n0 : Nat) (z : Value) (v : Option Value) (h : Heap) (L : List Loc) : Prop := v = some z ∧ Fr n0 L ∧ h = h0
theorem PureI.mk {h0 : Heap} {n0 : Nat} {z z' : Int32} {L : List Loc} (e : z' = z) (N : Fr n0 L) : PureI h0 n0 z (some (.int z')) h0 L := ⟨by rw [e], N, rfl⟩
theorem PureJ.mk {h0 : Heap} {n0 : Nat} {z z' : Int64} {L : List Loc} (e : z' = z) (N : Fr n0 L) : PureJ h0 n0 z (some (.long z')) h0 L := ⟨by rw [e], N, rfl⟩
/-- the law's own end -/
def Tru (n0 : Nat) (v : Option Value) (h : Heap) (L : List Loc) : Prop := v = some (.int 1) ∧ Fr n0 L
end Jvm.OwnRun
namespace Jvm.OwnRun
open Sem ClassFile Op Lib Jvm.Stand Jvm.Free Jvm.LawKit Jvm.RoadKit
section Laws2
variable {p : Program} {l : Launch} {e : Env} {R : Room} {s : State} {m : MethodId} {args : Array Value} {below : List Frame} {meth : Method} {c : Code} {T : State} {locs : List Loc} {cells slots : Nat} {Z : State} {a0 : Array Value} {h h' : Heap}
variable {Q Q' : Option Value → Heap → List Loc → Prop} {k n : Nat}
variable {a b : Addr} {ty : FieldType} {vs : List Value} {v : Value} {sl : Nat} {ws : List Addr}
theorem Run.y_ldI (X : Stand p l e R s m args below meth c T locs cells slots) (hx : p.tables.exec = Jvm.exec) (hZ : Z.Warmed39 s.vm) (eT : T.heap = h) (A : Ars Z h a .int vs) {j : Int32} {i : Nat} (hj : j.toInt = i) (hi : vs[i]? = some v) {pc q : Nat} {Ls : Array Slot} {rest : List Value} (hd : decode c.code pc = .ok (.iaload, 1))
    (hq : pc + 1 = q) (r : Run p e below s Q k n (T.setTop (mkF m q Ls (v :: rest)))) : Run p e below s Q k n (T.setTop (mkF m pc Ls (.int j :: .ref a :: rest))) := by
  subst hq; exact Run.ldI X hx hZ eT A hj hi hd r
theorem Run.y_ldR (X : Stand p l e R s m args below meth c T locs cells slots) (hx : p.tables.exec = Jvm.exec) (hZ : Z.Warmed39 s.vm) (eT : T.heap = h) (A : Ars Z h a ty vs) {j : Int32} {i : Nat} (hj : j.toInt = i) (hi : vs[i]? = some v) (hty : ty.isReference = true) {pc q : Nat} {Ls : Array Slot} {rest : List Value} (hd : decode c.code pc = .ok (.aaload, 1))
    (hq : pc + 1 = q) (r : Run p e below s Q k n (T.setTop (mkF m q Ls (v :: rest)))) : Run p e below s Q k n (T.setTop (mkF m pc Ls (.int j :: .ref a :: rest))) := by
  subst hq; exact Run.ldR X hx hZ eT A hj hi hty hd r
theorem Run.y_alen (X : Stand p l e R s m args below meth c T locs cells slots) (hx : p.tables.exec = Jvm.exec) (hZ : Z.Warmed39 s.vm) (eT : T.heap = h) (A : Ars Z h a ty vs) {z : Int32} (hz : vs.length.toInt32 = z) {pc q : Nat} {Ls : Array Slot} {rest : List Value} (hd : decode c.code pc = .ok (.arraylength, 1))
    (hq : pc + 1 = q) (r : Run p e below s Q k n (T.setTop (mkF m q Ls (.int z :: rest)))) : Run p e below s Q k n (T.setTop (mkF m pc Ls (.ref a :: rest))) := by
  subst hq; exact Run.alen X hx hZ eT A hz hd r
theorem Run.y_stI (X : Stand p l e R s m args below meth c T locs cells slots) (hx : p.tables.exec = Jvm.exec) (hZ : Z.Warmed39 s.vm) (eT : T.heap = h) (A : Ars Z h a .int vs) {j z : Int32} {i : Nat} (hj : j.toInt = i) (hi : i < vs.length) {pc q : Nat} {Ls : Array Slot} {rest : List Value} (hd : decode c.code pc = .ok (.iastore, 1))
    (hq : pc + 1 = q) (kk : ∀ (T' : State) (h' : Heap), Stand p l e R s m args below meth c T' (locs ++ [⟨a, i⟩]) cells slots → T'.heap = h' → Wr h h' a i (.int z) → Ars Z h' a .int (vs.set i (.int z)) → Run p e below s Q k n (T'.setTop (mkF m q Ls rest))) : Run p e below s Q k n (T.setTop (mkF m pc Ls (.int z :: .int j :: .ref a :: rest))) := by
  subst hq; exact Run.stI X hx hZ eT A hj hi hd kk
theorem Run.y_getF (X : Stand p l e R s m args below meth c T locs cells slots) (hx : p.tables.exec = Jvm.exec) (hZ : Z.Warmed39 s.vm) (eT : T.heap = h) {own R0 O nf d host : String} {index : Nat} (hown : s.vm.findClass own = some m.cls) (w : (Jvm.Cond.fieldLink own index R0 nf d).before a0 Z = true ∨ (Jvm.Cond.fieldLinkNest own index R0 nf d host).before a0 Z = true) (via : Via Z R0 O nf d)
    (F : Fld Z h a O nf d v) {pc q : Nat} {Ls : Array Slot} {S : List Value} (hd : decode c.code pc = .ok (.getfield index, 3)) (hq : pc + 3 = q)
    (kk : ∀ (T' : State), Stand p l e R s m args below meth c T' locs cells slots → T'.heap = h → Run p e below s Q k n (T'.setTop (mkF m q Ls (v :: S)))) : Run p e below s Q k n (T.setTop (mkF m pc Ls (.ref a :: S))) := by
  subst hq
  obtain ⟨T', X', e', st'⟩ := getF X hx hZ hown w via eT F (g := mkF m pc Ls (.ref a :: S)) rfl rfl hd
  exact Run.st st' (kk T' X' e')
/-- the field's link and its class are the plain ones -/
theorem Run.z_getF (X : Stand p l e R s m args below meth c T locs cells slots) (hx : p.tables.exec = Jvm.exec) (hZ : Z.Warmed39 s.vm) (eT : T.heap = h) {own O nf d : String} {index : Nat} (hown : s.vm.findClass own = some m.cls) (w : (Jvm.Cond.fieldLink own index O nf d).before a0 Z = true)
    (F : Fld Z h a O nf d v) {pc q : Nat} {Ls : Array Slot} {S : List Value} (hd : decode c.code pc = .ok (.getfield index, 3)) (hq : pc + 3 = q)
    (kk : ∀ (T' : State), Stand p l e R s m args below meth c T' locs cells slots → T'.heap = h → Run p e below s Q k n (T'.setTop (mkF m q Ls (v :: S)))) : Run p e below s Q k n (T.setTop (mkF m pc Ls (.ref a :: S))) :=
  Run.y_getF X hx hZ eT hown (host := "") (Or.inl w) Via.refl F hd hq kk
theorem Run.callSI {n0 : Nat} {z0 : Int32} (X : Stand p l e R s m args below meth c T locs cells slots) (hx : p.tables.exec = Jvm.exec) (hZ : Z.Warmed39 s.vm) (eT : T.heap = h) {own : String} {index : Nat} {y : MethodName} {bytes : ByteArray} {ml : Nat} {ret : Option FieldType} {rm : Room}
    (hown : s.vm.findClass own = some m.cls) (w1 : (Jvm.Cond.methodLink own index y).before a0 Z = true) (w2 : (Jvm.Cond.static y).before a0 Z = true) (w3 : (Jvm.Cond.initialized y.cls).before a0 Z = true) (w4 : (Jvm.Cond.code y bytes ml ret).before a0 Z = true)
    (hy : y.cls ≠ "java/lang/invoke/MethodHandle" ∧ y.cls ≠ "java/lang/invoke/VarHandle") {argsL rest : List Value} (K : Ctr l Z y bytes ml ret rm argsL.toArray h (PureI h n0 z0)) {ps : List FieldType} {r : Option FieldType} (hpd : parseMethodDescriptor y.desc = some ⟨ps, r⟩) (hlen : argsL.length = ps.length)
    {pc q : Nat} {Ls : Array Slot} (hsz : Ls.size = c.maxLocals) {W : Nat} (hW : (rest.map fun v => v.category).sum = W) (hf : rm.frames + 1 ≤ R.frames) (hl : W + (ml + 11) + rm.locals ≤ R.locals) (hc : cells + rm.cells ≤ R.cells) (hs : slots + rm.slots ≤ R.slots)
    (hd : decode c.code pc = .ok (.invokestatic index, 3)) {st : List Value} (hst : st = argsL.reverse ++ rest)
    (hq : pc + 3 = q) (kk : ∀ (T' : State) (L : List Loc), Stand p l e R s m args below meth c T' (locs ++ L) (cells + rm.cells) (slots + rm.slots) → Fr n0 L → T'.heap = h → Run p e below s Q k n (T'.setTop (mkF m q Ls (.int z0 :: rest)))) :
    Run p e below s Q k n (T.setTop (mkF m pc Ls st)) := by
  subst hq
  exact Run.callS X hx hZ eT hown w1 w2 w3 w4 hy K hpd hlen hsz hW hf hl hc hs hd hst fun T' v L X' q => by obtain ⟨rfl, M, e⟩ := q; exact kk T' L X' M e
theorem Run.callVI {n0 : Nat} {z0 : Int32} (X : Stand p l e R s m args below meth c T locs cells slots) (hx : p.tables.exec = Jvm.exec) (hZ : Z.Warmed39 s.vm) (eT : T.heap = h) {own C : String} {index : Nat} {y z : MethodName} {bytes : ByteArray} {ml : Nat} {ret : Option FieldType} {rm : Room}
    (hown : s.vm.findClass own = some m.cls) (w1 : (Jvm.Cond.methodLink own index y).before a0 Z = true) (w2 : (Jvm.Cond.declares y).before a0 Z = true) (hnf : NotFace s y) (w5 : (Jvm.Cond.selects C y z).before a0 Z = true) (w6 : (Jvm.Cond.instanceMethod z).before a0 Z = true) (w3 : (Jvm.Cond.initialized z.cls).before a0 Z = true) (w4 : (Jvm.Cond.code z bytes ml ret).before a0 Z = true)
    (hy : y.cls ≠ "java/lang/invoke/MethodHandle" ∧ y.cls ≠ "java/lang/invoke/VarHandle") {a : Addr} (E : Exa Z h a C) {argsL rest : List Value} (K : Ctr l Z z bytes ml ret rm (.ref a :: argsL).toArray h (PureI h n0 z0)) {ps : List FieldType} {r : Option FieldType} (hpd : parseMethodDescriptor y.desc = some ⟨ps, r⟩) (hlen : argsL.length = ps.length)
    {pc q : Nat} {Ls : Array Slot} (hsz : Ls.size = c.maxLocals) {W : Nat} (hW : (rest.map fun v => v.category).sum = W) (hf : rm.frames + 1 ≤ R.frames) (hl : W + (ml + 11) + rm.locals ≤ R.locals) (hc : cells + rm.cells ≤ R.cells) (hs : slots + rm.slots ≤ R.slots)
    (hd : decode c.code pc = .ok (.invokevirtual index, 3)) {st : List Value} (hst : st = argsL.reverse ++ .ref a :: rest)
    (hq : pc + 3 = q) (kk : ∀ (T' : State) (L : List Loc), Stand p l e R s m args below meth c T' (locs ++ L) (cells + rm.cells) (slots + rm.slots) → Fr n0 L → T'.heap = h → Run p e below s Q k n (T'.setTop (mkF m q Ls (.int z0 :: rest)))) :
    Run p e below s Q k n (T.setTop (mkF m pc Ls st)) := by
  subst hq
  exact Run.callV X hx hZ eT hown w1 w2 hnf w5 w6 w3 w4 hy E K hpd hlen hsz hW hf hl hc hs hd hst fun T' v L X' q => by obtain ⟨rfl, M, e⟩ := q; exact kk T' L X' M e
end Laws2
end Jvm.OwnRun
namespace Jvm.Pilot.@@N@@
open Jvm Jvm.ClassFile Sem Op Lib Jvm.Free Jvm.Stand Jvm.LawKit Jvm.RoadKit Jvm.OwnRun Bundle Jvm.Pilot.@@N@@.Jvm.D
theorem own_ofn {i : Int32} {n : Nat} (h : i.toInt = n) (h' : n ≤ 100000) : (i + 1).toInt = (n + 1 : Nat) := by
 have q := c_iadd i 1
 have r := rng32 (i + 1)
 have : (1 : Int32).toInt = 1 := rfl
 omega
theorem own_rs {vs : List Value} {v : Value} {i k : Nat} (h : i + (k + 1) = vs.length) : (List.replicate i v ++ vs.drop i).set i v = List.replicate (i + 1) v ++ vs.drop (i + 1) := by
 rw [List.set_append, if_neg (by simp), List.length_replicate, Nat.sub_self, List.drop_eq_getElem_cons (by omega : i < vs.length), List.set_cons_zero, List.replicate_succ', List.append_assoc]
 rfl
theorem own_l32 {n : Nat} {z : Int32} (e : n.toInt32 = z) (h : n ≤ 100000) : z.toInt = n := by
 rw [← e]
 exact len_toInt (Nat.lt_of_le_of_lt h (by decide))
theorem d1_0 : decode jdk_65_method_103_code 0 = .ok (.iconst 0, 1) := by decide +kernel
theorem d1_1 : decode jdk_65_method_103_code 1 = .ok (.istore_n 2, 1) := by decide +kernel
theorem d1_2 : decode jdk_65_method_103_code 2 = .ok (.aload_n 0, 1) := by decide +kernel
theorem d1_3 : decode jdk_65_method_103_code 3 = .ok (.arraylength, 1) := by decide +kernel
theorem d1_4 : decode jdk_65_method_103_code 4 = .ok (.istore_n 3, 1) := by decide +kernel
theorem d1_5 : decode jdk_65_method_103_code 5 = .ok (.iload_n 2, 1) := by decide +kernel
theorem d1_6 : decode jdk_65_method_103_code 6 = .ok (.iload_n 3, 1) := by decide +kernel
theorem d1_7 : decode jdk_65_method_103_code 7 = .ok (.if_icmp .ge 13, 3) := by decide +kernel
theorem d1_10 : decode jdk_65_method_103_code 10 = .ok (.aload_n 0, 1) := by decide +kernel
theorem d1_11 : decode jdk_65_method_103_code 11 = .ok (.iload_n 2, 1) := by decide +kernel
theorem d1_12 : decode jdk_65_method_103_code 12 = .ok (.iload_n 1, 1) := by decide +kernel
theorem d1_13 : decode jdk_65_method_103_code 13 = .ok (.iastore, 1) := by decide +kernel
theorem d1_14 : decode jdk_65_method_103_code 14 = .ok (.iinc 2 1, 3) := by decide +kernel
theorem d1_17 : decode jdk_65_method_103_code 17 = .ok (.goto (-12), 3) := by decide +kernel
theorem d1_20 : decode jdk_65_method_103_code 20 = .ok (.return_, 1) := by decide +kernel
theorem pn_0 : plainName "java/util/Arrays" = true := by first | (simp [plainName, overriddenIn]; done) | decide +kernel
theorem ef_c_fill (m : MethodId) (arr : Addr) (z : Int32) : entryFrame m #[(.ref arr), (.int z)] 4 = mkF m 0 #[.val (.ref arr), .val (.int z), .unset, .unset] [] := by first | (simp [entryFrame, mkF, argsToLocals, Value.category]; done) | rfl
set_option maxRecDepth 65536 in
set_option maxHeartbeats 40000000 in
theorem c_fill (l : Launch) (Z : State) (a0 : Array Value) (hw : ∀ d ∈ tables_1, d.before a0 Z = true) (arr : Addr) (z : Int32) (h0 : Heap) (n0 : Nat) (Z0 : n0 ≤ h0.size) (vs : List Value) (A_arr : Ars Z h0 arr .int vs) (g_arr : n0 ≤ arr) (hl : vs.length ≤ 100000) :
  Ctr l Z (⟨"java/util/Arrays", "fill", "([II)V"⟩ : MethodName) jdk_65_method_103_code 4 none ({ frames := 0, cells := 0, slots := 0, locals := 0 } : Room) #[(.ref arr), (.int z)] h0 (fun v h L => v = none ∧ Fr n0 L ∧ Keep h0 h [arr] ∧ Ars Z h arr .int (List.replicate vs.length (.int z))) := by
 refine Ctr.of (plainFor_of_name pn_0) (fun m => ef_c_fill m arr z) ?_
 intro p e s m below meth c T0 hx hby hml hown hnm hret hlk hZ e0 X0
 have N0 := Fr.nil n0
 replace hown : s.vm.findClass "java/util/Arrays" = some m.cls := hown
 replace hml : c.maxLocals = 4 := hml
 have KP := Keep.refl h0 [arr]
 obtain ⟨ln, hln⟩ : ∃ y, vs.length.toInt32 = y := ⟨_, rfl⟩
 have hlz := own_l32 hln hl
 have loop : ∀ (k i : Nat) (T : State) (h : Heap) (lo : List Loc) (iv : Int32), iv.toInt = i → i + k = vs.length → Stand p l e ({ frames := 0, cells := 0, slots := 0, locals := 0 } : Room) s m #[(.ref arr), (.int z)] below meth c T lo 0 0 → T.heap = h → Fr n0 lo → n0 ≤ h.size → Keep h0 h [arr] → Ars Z h arr .int (List.replicate i (Value.int z) ++ vs.drop i) → Run p e below s (fun v h L => v = none ∧ Fr n0 L ∧ Keep h0 h [arr] ∧ Ars Z h arr .int (List.replicate vs.length (.int z))) ({ frames := 0, cells := 0, slots := 0, locals := 0 } : Room).cells ({ frames := 0, cells := 0, slots := 0, locals := 0 } : Room).slots (T.setTop (mkF m 5 #[.val (.ref arr), .val (.int z), .val (.int iv), .val (.int ln)] [])) := by
  intro k
  induction k with
  | zero =>
   intro i T h lo iv hiv hik X eT N ZP KP A_arr
   refine Run.x_iloadN (q := 6) X hx (hb hby d1_5) rfl rfl ?_
   refine Run.x_iloadN (q := 7) X hx (hb hby d1_6) rfl rfl ?_
   refine Run.x_icmpYes (q := 20) X hx (hb hby d1_7) (flt (by rw [lt32]; omega)).2.1 (by decide) (by decide) ?_
   refine Run.retV X hx hlk eT hret (hb hby d1_20) (by decide) (by decide) ?_
   have e9 : i = vs.length := by omega
   subst e9
   exact ⟨rfl, N, KP, by simpa using A_arr⟩
  | succ k ih =>
   intro i T h lo iv hiv hik X eT N ZP KP A_arr
   refine Run.x_iloadN (q := 6) X hx (hb hby d1_5) rfl rfl ?_
   refine Run.x_iloadN (q := 7) X hx (hb hby d1_6) rfl rfl ?_
   refine Run.x_icmpNo (q := 10) X hx (hb hby d1_7) (tlt (by rw [lt32]; omega)).2.1 rfl ?_
   refine Run.x_aloadN (q := 11) X hx (hb hby d1_10) rfl rfl rfl ?_
   refine Run.x_iloadN (q := 12) X hx (hb hby d1_11) rfl rfl ?_
   refine Run.x_iloadN (q := 13) X hx (hb hby d1_12) rfl rfl ?_
   refine Run.y_stI (q := 14) X hx hZ eT A_arr (i := i) hiv (by simp only [List.length_append, List.length_replicate, List.length_drop]; omega) (hb hby d1_13) rfl fun T1 h1 X1 e1 W1 A1 => ?_
   replace A_arr : Ars Z h1 arr .int ((List.replicate i (Value.int z) ++ vs.drop i).set i (Value.int z)) := A1
   replace KP := KP.wr W1 (Or.inl (by simp))
   have N1 := Fr.snoc X1 N g_arr
   have Z1 : n0 ≤ h1.size := Nat.le_trans ZP (Nat.le_of_eq W1.size.symm)
   refine Run.x_iinc (q := 17) X1 hx #[.val (.ref arr), .val (.int z), .val (.int (iv + (1 : Int32))), .val (.int ln)] (hb hby d1_14) rfl (z := (iv + (1 : Int32))) rfl rfl rfl ?_
   refine Run.x_goto (q := 5) X1 hx (hb hby d1_17) (by decide) (by decide) ?_
   exact ih (i + 1) _ _ _ _ (own_ofn hiv (by omega)) (by omega) X1 e1 N1 Z1 KP (by rw [own_rs hik] at A_arr; exact A_arr)
 refine Run.x_iconst (q := 1) X0 hx (hb hby d1_0) (z := (0 : Int32)) rfl rfl ?_
 refine Run.x_istoreN (q := 2) X0 hx #[.val (.ref arr), .val (.int z), .val (.int 0), .unset] (hb hby d1_1) rfl rfl ?_
 refine Run.x_aloadN (q := 3) X0 hx (hb hby d1_2) rfl rfl rfl ?_
 refine Run.y_alen (q := 4) X0 hx hZ e0 A_arr (z := ln) hln (hb hby d1_3) rfl ?_
 refine Run.x_istoreN (q := 5) X0 hx #[.val (.ref arr), .val (.int z), .val (.int 0), .val (.int ln)] (hb hby d1_4) rfl rfl ?_
 exact loop vs.length 0 _ _ _ _ rfl (by omega) X0 e0 N0 Z0 KP (by simpa using A_arr)
def own_row (f : Nat → Int32) : List Value := (List.range 64).map fun j => Value.int (f j)
def own_upd (f : Nat → Int32) (i : Nat) (x : Int32) : Nat → Int32 := fun j => if j = i then x else f j
def own_put (f : Nat → Int32) (a b : Nat) (x : Int32) : Nat → Int32 := fun i => if a ≤ i ∧ i < b then x else f i
def own_z (f : Nat → Int32) : Prop := ∀ i, i < 64 → f i = 0
theorem own_upd_self {f : Nat → Int32} {i : Nat} {x : Int32} : own_upd f i x i = x := if_pos rfl
theorem own_upd_ne {f : Nat → Int32} {i j : Nat} {x : Int32} (h : j ≠ i) : own_upd f i x j = f j := if_neg h
theorem own_put_in {f : Nat → Int32} {a b i : Nat} {x : Int32} (h : a ≤ i) (h' : i < b) : own_put f a b x i = x := if_pos ⟨h, h'⟩
theorem own_put_out {f : Nat → Int32} {a b i : Nat} {x : Int32} (h : ¬ (a ≤ i ∧ i < b)) : own_put f a b x i = f i := if_neg h
theorem own_put_nil {f : Nat → Int32} {a : Nat} {x : Int32} : own_put f a a x = f := funext fun i => own_put_out (by omega)
theorem own_row_at {f : Nat → Int32} {j : Nat} (h : j < 64) : (own_row f)[j]? = some (.int (f j)) := by simp [own_row, h]
theorem own_row_len {f : Nat → Int32} : (own_row f).length = 64 := by simp [own_row]
theorem own_put_at {f : Nat → Int32} {a t : Nat} {x : Int32} (h : t < 64) : (own_row (own_put f a t x))[t]? = some (.int (f t)) := by
 rw [own_row_at h, own_put_out (by omega)]
theorem own_row_set {f : Nat → Int32} {j : Nat} {x : Int32} (h : j < 64) : (own_row f).set j (.int x) = own_row (own_upd f j x) := by
 apply List.ext_getElem?
 intro k
 by_cases hk : k < 64
 ·by_cases e : j = k
  ·subst e
   rw [List.getElem?_set_self (by rw [own_row_len]; exact hk), own_row_at hk, own_upd_self]
  ·rw [List.getElem?_set_ne e, own_row_at hk, own_row_at hk, own_upd_ne (Ne.symm e)]
 ·rw [List.getElem?_eq_none (by rw [List.length_set, own_row_len]; omega), List.getElem?_eq_none (by rw [own_row_len]; omega)]
theorem own_put_set {f : Nat → Int32} {a t : Nat} {x : Int32} (h : t < 64) (h' : a ≤ t) : (own_row (own_put f a t x)).set t (.int x) = own_row (own_put f a (t + 1) x) := by
 rw [own_row_set h]
 congr 1
 funext i
 by_cases e : i = t
 ·subst e; rw [own_upd_self, own_put_in h' (by omega)]
 ·rw [own_upd_ne e]
  by_cases q : a ≤ i ∧ i < t
  ·rw [own_put_in q.1 q.2, own_put_in q.1 (by omega)]
  ·rw [own_put_out q, own_put_out (by omega)]
theorem own_rep (w : Int32) : List.replicate 64 (Value.int w) = own_row (fun _ => w) := by
 apply List.ext_getElem?
 intro k
 by_cases hk : k < 64
 ·rw [own_row_at hk, List.getElem?_replicate, if_pos hk]
 ·rw [List.getElem?_eq_none (by rw [List.length_replicate]; omega), List.getElem?_eq_none (by rw [own_row_len]; omega)]
theorem own_toR {Z : State} {h : Heap} {a : Addr} {f : Nat → Int32} {w : Int32} (A : Ars Z h a .int (List.replicate (own_row f).length (.int w))) : Ars Z h a .int (own_row (fun _ => w)) := by
 rw [own_row_len, own_rep] at A
 exact A
theorem own_zc {w : Int32} : own_z (fun _ => w) ↔ w = 0 := ⟨fun h => h 0 (by decide), fun h _ _ => h⟩
/-- the sheet's ranges -/
theorem own_c32 {c : Int32} (h : 0 ≤ c.toInt ∧ c.toInt ≤ 20) : ¬ (32 : Int32) < (c + (1 : Int32)) := by
 have q := c_iadd c 1
 have r := rng32 (c + 1)
 have e1 : (1 : Int32).toInt = 1 := rfl
 have e2 : (32 : Int32).toInt = 32 := rfl
 rw [lt32]
 omega
theorem own_c1 {c : Int32} {m : Int} (h : 0 ≤ c.toInt ∧ c.toInt ≤ m) (hm : m ≤ 100) : 0 ≤ (c + (1 : Int32)).toInt ∧ (c + (1 : Int32)).toInt ≤ m + 1 := by
 have q := c_iadd c 1
 have r := rng32 (c + 1)
 have e1 : (1 : Int32).toInt = 1 := rfl
 omega
theorem own_13 {x : Int32} (h : 0 ≤ x.toInt ∧ x.toInt ≤ 13) : ¬ (13 : Int32) < x := by
 have e2 : (13 : Int32).toInt = 13 := rfl
 rw [lt32]
 omega
theorem own_nn {x : Int32} (h : 0 ≤ x.toInt) : ¬ x < (0 : Int32) := by
 have e2 : (0 : Int32).toInt = 0 := rfl
 rw [lt32]
 omega
theorem own_pos {x : Int32} {a : Nat} (h : x.toInt = a) (h1 : 1 ≤ a) : (0 : Int32) < x := by
 have e2 : (0 : Int32).toInt = 0 := rfl
 rw [lt32]
 omega
theorem own_ne0 {x : Int32} {a : Nat} (h : x.toInt = a) (h1 : 1 ≤ a) : ¬ x = (0 : Int32) := by
 have e2 : (0 : Int32).toInt = 0 := rfl
 rw [eq32]
 omega
theorem own_lt64 {x : Int32} {a : Nat} (h : x.toInt = a) (h1 : a ≤ 63) : x < (64 : Int32) := by
 have e2 : (64 : Int32).toInt = 64 := rfl
 rw [lt32]
 omega
theorem own_d1 {x : Int32} (h : 0 ≤ x.toInt ∧ x.toInt ≤ 13) (q : ¬ x < (1 : Int32)) : 0 ≤ (x - (1 : Int32)).toInt ∧ (x - (1 : Int32)).toInt ≤ 13 := by
 have e2 : (1 : Int32).toInt = 1 := rfl
 rw [lt32] at q
 have s := c_isub x 1
 have r := rng32 (x - 1)
 omega
theorem own_d0 {x : Int32} (q : ¬ x < (1 : Int32)) : ¬ x = (0 : Int32) := fun h => by
 subst h
 exact q (by decide)
theorem own_mx {x y : Int32} (e : y = x) (h : 0 ≤ x.toInt) : (if y < (0 : Int32) then (0 : Int32) else y) = x := by
 subst e
 exact if_neg (own_nn h)
def own_e (c : Int32) : Int32 := (1 : Int32) + ((c &&& (63 : Int32)) % (63 : Int32))
def own_A (c : Int32) : Int32 := (((c.toUInt32 >>> ((6 : Int32) &&& 31).toUInt32).toInt32) &&& (65535 : Int32)) % (14 : Int32)
def own_B (c : Int32) : Int32 := (((c.toUInt32 >>> ((22 : Int32) &&& 31).toUInt32).toInt32) &&& (1023 : Int32)) % (14 : Int32)
theorem own_e_rg {c z : Int32} (h : own_e c = z) : ∃ E : Nat, z.toInt = E ∧ 1 ≤ E ∧ E ≤ 63 := by
 subst h
 have q := c_mask c 63 6 (by decide) (by decide)
 have r := (c_irem (c &&& 63) 63 63 (by decide)).1 (by rw [q]; omega)
 have s := c_iadd 1 ((c &&& 63) % 63)
 have t := rng32 (own_e c)
 have e1 : (1 : Int32).toInt = 1 := rfl
 show ∃ E : Nat, ((1 : Int32) + ((c &&& (63 : Int32)) % (63 : Int32))).toInt = E ∧ _
 refine ⟨((1 : Int32) + ((c &&& (63 : Int32)) % (63 : Int32))).toInt.toNat, ?_, ?_, ?_⟩ <;> (unfold own_e at t; omega)
theorem own_14 {y : Int32} {k : Nat} (m : Int32) (hm : (y &&& m).toInt = y.toInt % (2 ^ k : Nat)) : 0 ≤ ((y &&& m) % (14 : Int32)).toInt ∧ ((y &&& m) % (14 : Int32)).toInt ≤ 13 := by
 have p : (0 : Int) < (2 ^ k : Nat) := by exact_mod_cast Nat.two_pow_pos k
 have r := (c_irem (y &&& m) 14 14 (by decide)).1 (by rw [hm]; exact Int.emod_nonneg _ (by omega))
 omega
theorem own_A_rg {c z : Int32} (h : own_A c = z) : 0 ≤ z.toInt ∧ z.toInt ≤ 13 := by
 subst h
 exact own_14 (k := 16) _ (c_mask _ 65535 16 (by decide) (by decide))
theorem own_B_rg {c z : Int32} (h : own_B c = z) : 0 ≤ z.toInt ∧ z.toInt ≤ 13 := by
 subst h
 exact own_14 (k := 10) _ (c_mask _ 1023 10 (by decide) (by decide))
theorem own_d_rg {c z : Int32} (h : (c &&& (2147483647 : Int32)) % (14 : Int32) = z) : 0 ≤ z.toInt ∧ z.toInt ≤ 13 := by
 subst h
 exact own_14 (k := 31) _ (c_mask _ 2147483647 31 (by decide) (by decide))
def own_AA (ra bA : Int32) : Int32 := if ¬ ra = (0 : Int32) ∧ ¬ bA < (1 : Int32) then bA - (1 : Int32) else bA
def own_BB (tb ee bB : Int32) : Int32 := if ¬ tb = (0 : Int32) ∧ ee < (63 : Int32) then bB else -1
theorem own_AA0 {ra bA : Int32} (h : 0 ≤ bA.toInt ∧ bA.toInt ≤ 13) : own_AA ra bA = 0 ↔ bA = 0 ∨ (bA = 1 ∧ ¬ ra = 0) := by
 unfold own_AA
 have e1 : (1 : Int32).toInt = 1 := rfl
 have e0 : (0 : Int32).toInt = 0 := rfl
 have s := c_isub bA 1
 have r := rng32 (bA - 1)
 by_cases q : ¬ ra = (0 : Int32) ∧ ¬ bA < (1 : Int32)
 ·rw [if_pos q]
  have q2 := q.2
  rw [lt32] at q2
  simp only [eq32]
  rw [← eq32 ra 0]
  constructor
  ·intro h; exact Or.inr ⟨by omega, q.1⟩
  ·rintro (h | h)
   ·omega
   ·omega
 ·rw [if_neg q]
  constructor
  ·intro h; exact Or.inl h
  ·rintro (h | ⟨h, h'⟩)
   ·exact h
   ·exact absurd ⟨h', by rw [h]; decide⟩ q
theorem own_BB0 {tb ee bB : Int32} {E : Nat} (h : ee.toInt = E) (h' : E ≤ 63) : (ee = 63 ∨ own_BB tb ee bB = 0) ↔ (ee = 63 ∨ (¬ tb = 0 ∧ bB = 0)) := by
 by_cases q : ee = 63
 ·simp [q]
 ·have l : ee < (63 : Int32) := by
   have e1 : (63 : Int32).toInt = 63 := rfl
   rw [eq32] at q
   rw [lt32]
   omega
  unfold own_BB
  by_cases t : tb = 0
  ·simp [q, t]
  ·simp [q, t, l]
theorem own_zr {g : Nat → Int32} {D a b ee : Int32} {E : Nat} (hE : ee.toInt = E) (h1 : 1 ≤ E) (h2 : E ≤ 63) (g0 : g 0 = D) (gA : ∀ i, 1 ≤ i → i ≤ E → g i = a) (gB : ∀ i, E < i → i < 64 → g i = b) : own_z g ↔ D = 0 ∧ a = 0 ∧ (ee = 63 ∨ b = 0) := by
 have e63 : (63 : Int32).toInt = 63 := rfl
 constructor
 ·intro h
  refine ⟨by rw [← g0]; exact h 0 (by decide), by rw [← gA 1 (by omega) h1]; exact h 1 (by decide), ?_⟩
  by_cases q : E = 63
  ·exact Or.inl (by rw [eq32]; omega)
  ·exact Or.inr (by rw [← gB 63 (by omega) (by decide)]; exact h 63 (by decide))
 ·rintro ⟨h, h', h''⟩ i hi
  by_cases q0 : i = 0
  ·subst q0; rw [g0, h]
  ·by_cases q1 : i ≤ E
   ·rw [gA i (by omega) q1, h']
   ·rcases h'' with h'' | h''
    ·rw [eq32] at h''; omega
    ·rw [gB i (by omega) hi, h'']
/-- the sequential store: seen again, the two rows -/
def own_stp (q : Int32 × Int32 × Int32) (c : Int32) : Int32 × Int32 × Int32 := if c = 0 then (if q.2.1 = 0 then 1 else q.1, 0, q.2.2) else (if q.2.2 = 0 then 1 else q.1, q.2.1, 0)
theorem own_st0p {s u v : Int32} (h : u = (0 : Int32)) : own_stp (s, u, v) (0 : Int32) = (1, 0, v) := by simp [own_stp, h]
theorem own_st0n {s u v : Int32} (h : ¬ u = (0 : Int32)) : own_stp (s, u, v) (0 : Int32) = (s, 0, v) := by simp [own_stp, h]
theorem own_st1p {s u v : Int32} (h : v = (0 : Int32)) : own_stp (s, u, v) (1 : Int32) = (1, u, 0) := by simp [own_stp, h]
theorem own_st1n {s u v : Int32} (h : ¬ v = (0 : Int32)) : own_stp (s, u, v) (1 : Int32) = (s, u, 0) := by simp [own_stp, h]
theorem own_dr {es : List Int32} {i : Nat} (h : i < es.length) : ∃ ev, (es.map Value.int)[i]? = some (.int ev) ∧ es.drop i = ev :: es.drop (i + 1) ∧ ev ∈ es := ⟨es[i], by simp [h], by rw [List.drop_eq_getElem_cons h], List.getElem_mem h⟩
def own_n0 : List Int32 → Nat
 | [] => 0
 | e :: r => (if e = 0 then 1 else 0) + own_n0 r
def own_n1 : List Int32 → Nat
 | [] => 0
 | e :: r => (if e = 0 then 0 else 1) + own_n1 r
theorem own_n01 : ∀ es : List Int32, own_n0 es + own_n1 es = es.length
 | [] => rfl
 | e :: r => by
  have := own_n01 r
  rw [own_n0, own_n1, List.length_cons]
  split <;> omega
def own_inv (q : Int32 × Int32 × Int32) (z0 z1 : Nat) : Prop := (q.1 = 0 ∨ q.1 = 1) ∧ (q.1 = 0 ↔ z0 ≤ 1 ∧ z1 ≤ 1) ∧ (q.2.1 = 0 ↔ 1 ≤ z0) ∧ (q.2.2 = 0 ↔ 1 ≤ z1)
theorem own_inv0 : own_inv (0, -1, -1) 0 0 := by
 refine ⟨Or.inl rfl, by simp, ?_, ?_⟩
 ·simp
 ·simp
theorem own_inv1 {q : Int32 × Int32 × Int32} {z0 z1 : Nat} {e : Int32} (h : own_inv q z0 z1) : own_inv (own_stp q e) (z0 + if e = 0 then 1 else 0) (z1 + if e = 0 then 0 else 1) := by
 obtain ⟨s, u, v⟩ := q
 obtain ⟨h1, h2, h3, h4⟩ := h
 simp only at h1 h2 h3 h4
 unfold own_stp
 by_cases c : e = 0
 ·simp only [c, if_true]
  by_cases w : u = 0
  ·simp only [w, if_true]
   have := h3.mp w
   refine ⟨Or.inr rfl, ?_, ?_, ?_⟩
   ·simp; omega
   ·simp
   ·simpa using h4
  ·simp only [w, if_false]
   have : ¬ 1 ≤ z0 := fun q => w (h3.mpr q)
   refine ⟨h1, ?_, ?_, ?_⟩
   ·rw [h2]; omega
   ·simp
   ·simpa using h4
 ·simp only [c, if_false]
  by_cases w : v = 0
  ·simp only [w, if_true]
   have := h4.mp w
   refine ⟨Or.inr rfl, ?_, ?_, ?_⟩
   ·simp; omega
   ·simpa using h3
   ·simp
  ·simp only [w, if_false]
   have : ¬ 1 ≤ z1 := fun q => w (h4.mpr q)
   refine ⟨h1, ?_, ?_, ?_⟩
   ·rw [h2]; omega
   ·simpa using h3
   ·simp
theorem own_invs : ∀ (es : List Int32) (q : Int32 × Int32 × Int32) (z0 z1 : Nat), own_inv q z0 z1 → own_inv (es.foldl own_stp q) (z0 + own_n0 es) (z1 + own_n1 es)
 | [], q, z0, z1, h => h
 | e :: r, q, z0, z1, h => by
  have := own_invs r _ _ _ (own_inv1 (e := e) h)
  rw [List.foldl_cons, own_n0, own_n1]
  rw [Nat.add_assoc, Nat.add_assoc] at this
  exact this
def own_en (b j n : Int32) : Int32 := ((b.toUInt32 >>> (((2 : Int32) + j) &&& 31).toUInt32).toInt32 &&& (1 : Int32)) &&& (n - (1 : Int32))
def own_es (n b : Int32) : List Int32 := [own_en b 0 n, own_en b 1 n, own_en b 2 n].take (b &&& (3 : Int32)).toInt.toNat
def own_sm : List Int32 → Int32 → Int32
 | [], r => r
 | e :: t, r => own_sm t (r + e)
theorem own_en1 (b j : Int32) : own_en b j 1 = 0 := by
 have e : ((1 : Int32) - (1 : Int32)) = 0 := by decide
 unfold own_en
 rw [e]
 simp
theorem own_en2 (b j : Int32) : own_en b j 2 = 0 ∨ own_en b j 2 = 1 := by
 have e : ((2 : Int32) - (1 : Int32)) = 1 := by decide
 unfold own_en
 rw [e]
 have q := c_mask ((b.toUInt32 >>> (((2 : Int32) + j) &&& 31).toUInt32).toInt32 &&& (1 : Int32)) 1 1 (by decide) (by decide)
 simp only [eq32]
 have e0 : (0 : Int32).toInt = 0 ∧ (1 : Int32).toInt = 1 := by decide
 omega
theorem own_es_m1 (b : Int32) : ∀ e ∈ own_es 1 b, e = 0 := fun e h => by
 have h := List.mem_of_mem_take h
 simp only [List.mem_cons, List.not_mem_nil, or_false] at h
 rcases h with rfl | rfl | rfl <;> exact own_en1 _ _
theorem own_es_m2 (b : Int32) : ∀ e ∈ own_es 2 b, e = 0 ∨ e = 1 := fun e h => by
 have h := List.mem_of_mem_take h
 simp only [List.mem_cons, List.not_mem_nil, or_false] at h
 rcases h with rfl | rfl | rfl <;> exact own_en2 _ _
theorem own_3 {b v : Int32} (h : b &&& (3 : Int32) = v) : v = 0 ∨ v = 1 ∨ v = 2 ∨ v = 3 := by
 have q := c_mask b 3 2 (by decide) (by decide)
 rw [h] at q
 simp only [eq32]
 have : (0 : Int32).toInt = 0 ∧ (1 : Int32).toInt = 1 ∧ (2 : Int32).toInt = 2 ∧ (3 : Int32).toInt = 3 := by decide
 omega
theorem own_es_len (n b : Int32) : ((own_es n b).length : Int) = (b &&& (3 : Int32)).toInt ∧ (own_es n b).length ≤ 3 := by
 have q := c_mask b 3 2 (by decide) (by decide)
 unfold own_es
 rw [List.length_take]
 simp only [List.length_cons, List.length_nil]
 omega
theorem own_sm_n : ∀ (es : List Int32) (r : Int32), (∀ e ∈ es, e = 0 ∨ e = 1) → 0 ≤ r.toInt → r.toInt + es.length ≤ 1000 → (own_sm es r).toInt = r.toInt + own_n1 es
 | [], r, _, _, _ => by simp [own_sm, own_n1]
 | e :: t, r, h, h0, h1 => by
  rw [List.length_cons] at h1
  have s := c_iadd r e
  have g := rng32 (r + e)
  have e0 : (0 : Int32).toInt = 0 ∧ (1 : Int32).toInt = 1 := by decide
  rw [own_sm, own_n1]
  rcases h e (by simp) with rfl | rfl
  ·rw [own_sm_n t _ (fun x hx => h x (by simp [hx])) (by omega) (by omega)]
   simp only [if_true]
   omega
  ·rw [own_sm_n t _ (fun x hx => h x (by simp [hx])) (by omega) (by omega), if_neg (by decide)]
   omega
/-- one list more: the store, the total, the ones -/
def own_acc (q : Int32 × Int32 × Int32) (t o : Int32) (m : Nat) : Prop := ∃ z0 z1 : Nat, own_inv q z0 z1 ∧ t.toInt = (z0 + z1 : Nat) ∧ o.toInt = z1 ∧ z0 + z1 ≤ m
theorem own_acc0 : own_acc (0, -1, -1) 0 0 0 := ⟨0, 0, own_inv0, rfl, rfl, Nat.le_refl _⟩
theorem own_acc1 {q q' : Int32 × Int32 × Int32} {t o n b : Int32} {m : Nat} (h : own_acc q t o m) (hm : m ≤ 100) (he : ∀ e ∈ own_es n b, e = 0 ∨ e = 1) (hq : (own_es n b).foldl own_stp q = q') : own_acc q' (t + (b &&& (3 : Int32))) (o + own_sm (own_es n b) 0) (m + 3) := by
 obtain ⟨z0, z1, h1, h2, h3, h4⟩ := h
 subst hq
 have l := own_es_len n b
 have s := own_sm_n (own_es n b) 0 he (by decide) (by have : (0 : Int32).toInt = 0 := rfl; omega)
 have c := own_n01 (own_es n b)
 have a1 := c_iadd t (b &&& 3)
 have a2 := rng32 (t + (b &&& 3))
 have a3 := c_iadd o (own_sm (own_es n b) 0)
 have a4 := rng32 (o + own_sm (own_es n b) 0)
 have e0 : (0 : Int32).toInt = 0 := rfl
 refine ⟨z0 + own_n0 (own_es n b), z1 + own_n1 (own_es n b), own_invs _ _ _ _ h1, ?_, ?_, ?_⟩ <;> omega
theorem own_acc_s {s u v t o : Int32} {m : Nat} (h : own_acc (s, u, v) t o m) : s = 0 ∨ s = 1 := by
 obtain ⟨z0, z1, h1, -⟩ := h
 exact h1.1
theorem own_fin2 {s u v t o : Int32} {m : Nat} (h : own_acc (s, u, v) t o m) (hm : m ≤ 100) : (s = 0 ∧ own_z (fun _ => u) ∧ own_z (fun _ => v)) ↔ ((t - o) = (1 : Int32) ∧ o = (1 : Int32)) := by
 obtain ⟨z0, z1, ⟨-, h2, h3, h4⟩, h5, h6, h7⟩ := h
 simp only at h2 h3 h4
 have a1 := c_isub t o
 have a2 := rng32 (t - o)
 have e0 : (1 : Int32).toInt = 1 := rfl
 rw [own_zc, own_zc, h2, h3, h4, eq32, eq32]
 omega
theorem own_fin1 {s u v t o : Int32} {m : Nat} (h : own_acc (s, u, v) t o m) (hm : m ≤ 100) (ho : o = 0) : (s = 0 ∧ own_z (fun _ => u)) ↔ (t - o) = (1 : Int32) := by
 obtain ⟨z0, z1, ⟨-, h2, h3, h4⟩, h5, h6, h7⟩ := h
 simp only at h2 h3 h4
 subst ho
 have a1 := c_isub t 0
 have a2 := rng32 (t - 0)
 have e0 : (1 : Int32).toInt = 1 ∧ (0 : Int32).toInt = 0 := by decide
 rw [own_zc, h2, h3, eq32]
 omega
theorem own_sm0 {b o : Int32} (h : o = 0) : o + own_sm (own_es 1 b) 0 = 0 := by
 subst h
 have : ∀ es : List Int32, (∀ e ∈ es, e = 0) → own_sm es 0 = 0 := by
  intro es
  induction es with
  | nil => intro _; rfl
  | cons e t ih =>
   intro h
   rw [own_sm, h e (by simp)]
   exact ih fun x hx => h x (by simp [hx])
 rw [this _ (own_es_m1 b)]
 rfl
theorem own_arv {Z : State} {h : Heap} {a : Addr} {k : ClassId} {ty : FieldType} {n : Int32} {vs : List Value} {d : Value} (A : Arv Z h a k ty n vs d) (hl : vs.length = n.toNatClampNeg) : Ars Z h a ty vs := by
 obtain ⟨c, A, -, h2, -, h4, -⟩ := A
 refine ⟨c, A, ?_⟩
 apply List.ext_getElem?
 intro i
 by_cases hi : i < c.slots.size
 ·have := h4 i hi
  rw [Array.getElem?_toList, this, List.getD_eq_getElem?_getD, List.getElem?_eq_getElem (by omega : i < vs.length)]
  rfl
 ·rw [List.getElem?_eq_none (by rw [Array.length_toList]; omega), List.getElem?_eq_none (by omega)]
section Grid
variable {p : Program} {l : Launch} {e : Env} {R : Room} {s : State} {m : MethodId} {args : Array Value} {below : List Frame} {meth : Method} {c : Code} {T : State} {locs : List Loc} {cells slots : Nat} {Z : State} {a0 : Array Value} {h : Heap} {Q : Option Value → Heap → List Loc → Prop} {k n : Nat}
theorem own_grid1 (X : Stand p l e R s m args below meth c T locs cells slots) (hx : p.tables.exec = Jvm.exec) (hZ : Z.Warmed39 s.vm) (eT : T.heap = h) {own : String} {index : Nat} (hown : s.vm.findClass own = some m.cls) (w1 : (Jvm.Cond.classLink own index "[[I").before a0 Z = true) (w2 : (Jvm.Cond.arrayOver (.array .int)).before a0 Z = true) (w3 : (Jvm.Cond.arrayClass .int).before a0 Z = true)
  {pc q : Nat} {Ls : Array Slot} {rest : List Value} (hd : decode c.code pc = .ok (.multianewarray index 2, 4)) (hq : pc + 4 = q) (hc : cells + 2 ≤ R.cells) (hl : slots + 65 ≤ R.slots)
  (kk : ∀ (T' : State) (h' : Heap) (b r0 : Addr), h.size ≤ b → b < r0 → Stand p l e R s m args below meth c T' locs (cells + 2) (slots + 65) → T'.heap = h' → Ext h h' → Ars Z h' b (.array .int) [.ref r0] → Ars Z h' r0 .int (own_row (fun _ => 0)) → Run p e below s Q k n (T'.setTop (mkF m q Ls (.ref b :: rest)))) :
  Run p e below s Q k n (T.setTop (mkF m pc Ls (.int 64 :: .int 1 :: rest))) := by
 subst hq
 obtain ⟨T', h', cA, comp, X', e', E', V', -, -, I', st'⟩ := RoadKit.gridM X hx hZ hown (ty := .int) rfl rfl w1 w2 w3 eT (g := mkF m pc Ls (.int 64 :: .int 1 :: rest)) rfl hd (n := 1) (k := 64) rfl (by decide) (by decide) (xs := [h.size + 1]) (N := 1) (by decide) (by simp [List.range_succ]) (cap := 64) (by decide) (by decide) (by decide) rfl rfl hc hl
 have A0 := Ars.new (I' 0 (h.size + 1) rfl).1
 rw [show (64 : Int32).toNatClampNeg = 64 by decide, show defaultValue FieldType.int = .int 0 from rfl, own_rep] at A0
 exact Run.st st' (kk T' h' h.size (h.size + 1) (Nat.le_refl _) (Nat.lt_succ_self _) X' e' E' (own_arv V' (by rw [show (1 : Int32).toNatClampNeg = 1 by decide]; rfl)) A0)
theorem own_grid2 (X : Stand p l e R s m args below meth c T locs cells slots) (hx : p.tables.exec = Jvm.exec) (hZ : Z.Warmed39 s.vm) (eT : T.heap = h) {own : String} {index : Nat} (hown : s.vm.findClass own = some m.cls) (w1 : (Jvm.Cond.classLink own index "[[I").before a0 Z = true) (w2 : (Jvm.Cond.arrayOver (.array .int)).before a0 Z = true) (w3 : (Jvm.Cond.arrayClass .int).before a0 Z = true)
  {pc q : Nat} {Ls : Array Slot} {rest : List Value} (hd : decode c.code pc = .ok (.multianewarray index 2, 4)) (hq : pc + 4 = q) (hc : cells + 3 ≤ R.cells) (hl : slots + 130 ≤ R.slots)
  (kk : ∀ (T' : State) (h' : Heap) (b r0 r1 : Addr), h.size ≤ b → b < r0 → r0 < r1 → Stand p l e R s m args below meth c T' locs (cells + 3) (slots + 130) → T'.heap = h' → Ext h h' → Ars Z h' b (.array .int) [.ref r0, .ref r1] → Ars Z h' r0 .int (own_row (fun _ => 0)) → Ars Z h' r1 .int (own_row (fun _ => 0)) → Run p e below s Q k n (T'.setTop (mkF m q Ls (.ref b :: rest)))) :
  Run p e below s Q k n (T.setTop (mkF m pc Ls (.int 64 :: .int 2 :: rest))) := by
 subst hq
 obtain ⟨T', h', cA, comp, X', e', E', V', -, -, I', st'⟩ := RoadKit.gridM X hx hZ hown (ty := .int) rfl rfl w1 w2 w3 eT (g := mkF m pc Ls (.int 64 :: .int 2 :: rest)) rfl hd (n := 2) (k := 64) rfl (by decide) (by decide) (xs := [h.size + 1, h.size + 2]) (N := 2) (by decide) (by simp [List.range_succ]) (cap := 64) (by decide) (by decide) (by decide) rfl rfl hc hl
 have A0 := Ars.new (I' 0 (h.size + 1) rfl).1
 have A1 := Ars.new (I' 1 (h.size + 2) rfl).1
 rw [show (64 : Int32).toNatClampNeg = 64 by decide, show defaultValue FieldType.int = .int 0 from rfl, own_rep] at A0 A1
 exact Run.st st' (kk T' h' h.size (h.size + 1) (h.size + 2) (Nat.le_refl _) (Nat.lt_succ_self _) (Nat.lt_succ_self _) X' e' E' (own_arv V' (by rw [show (2 : Int32).toNatClampNeg = 2 by decide]; rfl)) A0 A1)
end Grid
theorem own_ln {es : List Int32} {y : Int32} (h : (es.map Value.int).length.toInt32 = y) (h' : es.length ≤ 100) : y.toInt = es.length := by
 rw [List.length_map] at h
 exact own_l32 h (by omega)
theorem own_t64 : (64 : Int32).toInt = 64 := rfl
theorem own_zs {f : Nat → Int32} {t : Nat} (h : ∀ i, i < t → f i = 0) (q : f t = (0 : Int32)) : ∀ i, i < t + 1 → f i = 0 := fun i hi => by
 by_cases e : i = t
 ·subst e; exact q
 ·exact h i (by omega)
theorem d2_0 : decode prog_41_method_1_code 0 = .ok (.aload_n 0, 1) := by decide +kernel
theorem d2_1 : decode prog_41_method_1_code 1 = .ok (.invokespecial 1, 3) := by decide +kernel
theorem d2_4 : decode prog_41_method_1_code 4 = .ok (.aload_n 0, 1) := by decide +kernel
theorem d2_5 : decode prog_41_method_1_code 5 = .ok (.iload_n 1, 1) := by decide +kernel
theorem d2_6 : decode prog_41_method_1_code 6 = .ok (.putfield 7, 3) := by decide +kernel
theorem d2_9 : decode prog_41_method_1_code 9 = .ok (.aload_n 0, 1) := by decide +kernel
theorem d2_10 : decode prog_41_method_1_code 10 = .ok (.iload_n 2, 1) := by decide +kernel
theorem d2_11 : decode prog_41_method_1_code 11 = .ok (.putfield 13, 3) := by decide +kernel
theorem d2_14 : decode prog_41_method_1_code 14 = .ok (.aload_n 0, 1) := by decide +kernel
theorem d2_15 : decode prog_41_method_1_code 15 = .ok (.iload_n 2, 1) := by decide +kernel
theorem d2_16 : decode prog_41_method_1_code 16 = .ok (.bipush 64, 2) := by decide +kernel
theorem d2_18 : decode prog_41_method_1_code 18 = .ok (.multianewarray 17 2, 4) := by decide +kernel
theorem d2_22 : decode prog_41_method_1_code 22 = .ok (.putfield 19, 3) := by decide +kernel
theorem d2_25 : decode prog_41_method_1_code 25 = .ok (.aload_n 0, 1) := by decide +kernel
theorem d2_26 : decode prog_41_method_1_code 26 = .ok (.getfield 19, 3) := by decide +kernel
theorem d2_29 : decode prog_41_method_1_code 29 = .ok (.astore_n 3, 1) := by decide +kernel
theorem d2_30 : decode prog_41_method_1_code 30 = .ok (.aload_n 3, 1) := by decide +kernel
theorem d2_31 : decode prog_41_method_1_code 31 = .ok (.arraylength, 1) := by decide +kernel
theorem d2_32 : decode prog_41_method_1_code 32 = .ok (.istore 4, 2) := by decide +kernel
theorem d2_34 : decode prog_41_method_1_code 34 = .ok (.iconst 0, 1) := by decide +kernel
theorem d2_35 : decode prog_41_method_1_code 35 = .ok (.istore 5, 2) := by decide +kernel
theorem d2_37 : decode prog_41_method_1_code 37 = .ok (.iload 5, 2) := by decide +kernel
theorem d2_39 : decode prog_41_method_1_code 39 = .ok (.iload 4, 2) := by decide +kernel
theorem d2_41 : decode prog_41_method_1_code 41 = .ok (.if_icmp .ge 21, 3) := by decide +kernel
theorem d2_44 : decode prog_41_method_1_code 44 = .ok (.aload_n 3, 1) := by decide +kernel
theorem d2_45 : decode prog_41_method_1_code 45 = .ok (.iload 5, 2) := by decide +kernel
theorem d2_47 : decode prog_41_method_1_code 47 = .ok (.aaload, 1) := by decide +kernel
theorem d2_48 : decode prog_41_method_1_code 48 = .ok (.astore 6, 2) := by decide +kernel
theorem d2_50 : decode prog_41_method_1_code 50 = .ok (.aload 6, 2) := by decide +kernel
theorem d2_52 : decode prog_41_method_1_code 52 = .ok (.iconst (-1), 1) := by decide +kernel
theorem d2_53 : decode prog_41_method_1_code 53 = .ok (.invokestatic 22, 3) := by decide +kernel
theorem d2_56 : decode prog_41_method_1_code 56 = .ok (.iinc 5 1, 3) := by decide +kernel
theorem d2_59 : decode prog_41_method_1_code 59 = .ok (.goto (-22), 3) := by decide +kernel
theorem d2_62 : decode prog_41_method_1_code 62 = .ok (.return_, 1) := by decide +kernel
theorem pn_1 : plainName "semblance/JpegScans" = true := by first | (simp [plainName, overriddenIn]; done) | decide +kernel
theorem ef_c_init_1_0 (m : MethodId) (this : Addr) : entryFrame m #[(.ref this), (.int 0), (.int 1)] 7 = mkF m 0 #[.val (.ref this), .val (.int 0), .val (.int 1), .unset, .unset, .unset, .unset] [] := by first | (simp [entryFrame, mkF, argsToLocals, Value.category]; done) | rfl
theorem wm6 {a0 : Array Value} {Z : State} (hw : ∀ d ∈ tables_1, d.before a0 Z = true) : (Jvm.Cond.methodLink "semblance/JpegScans" (1 : Nat) ({ cls := "java/lang/Object", name := "<init>", desc := "()V" } : Jvm.MethodName)).before a0 Z = true := hw _ (List.mem_of_getElem? (i := 6) rfl)
theorem wm8 {a0 : Array Value} {Z : State} (hw : ∀ d ∈ tables_1, d.before a0 Z = true) : (Jvm.Cond.code ({ cls := "java/lang/Object", name := "<init>", desc := "()V" } : Jvm.MethodName) object_method_1_code (1 : Nat) (Option.none : Option Jvm.ClassFile.FieldType)).before a0 Z = true := hw _ (List.mem_of_getElem? (i := 8) rfl)
theorem wm7 {a0 : Array Value} {Z : State} (hw : ∀ d ∈ tables_1, d.before a0 Z = true) : (Jvm.Cond.instanceMethod ({ cls := "java/lang/Object", name := "<init>", desc := "()V" } : Jvm.MethodName)).before a0 Z = true := hw _ (List.mem_of_getElem? (i := 7) rfl)
theorem wm9 {a0 : Array Value} {Z : State} (hw : ∀ d ∈ tables_1, d.before a0 Z = true) : (Jvm.Cond.fieldLink "semblance/JpegScans" (7 : Nat) "semblance/JpegScans" "progressive" "Z").before a0 Z = true := hw _ (List.mem_of_getElem? (i := 9) rfl)
theorem wm10 {a0 : Array Value} {Z : State} (hw : ∀ d ∈ tables_1, d.before a0 Z = true) : (Jvm.Cond.laysFinal "semblance/JpegScans" "semblance/JpegScans" "progressive" "Z").before a0 Z = true := hw _ (List.mem_of_getElem? (i := 10) rfl)
theorem wm1 {a0 : Array Value} {Z : State} (hw : ∀ d ∈ tables_1, d.before a0 Z = true) : (Jvm.Cond.instantiable "semblance/JpegScans" (5 : Nat)).before a0 Z = true := hw _ (List.mem_of_getElem? (i := 1) rfl)
theorem wm11 {a0 : Array Value} {Z : State} (hw : ∀ d ∈ tables_1, d.before a0 Z = true) : (Jvm.Cond.fieldLink "semblance/JpegScans" (13 : Nat) "semblance/JpegScans" "components" "I").before a0 Z = true := hw _ (List.mem_of_getElem? (i := 11) rfl)
theorem wm12 {a0 : Array Value} {Z : State} (hw : ∀ d ∈ tables_1, d.before a0 Z = true) : (Jvm.Cond.laysFinal "semblance/JpegScans" "semblance/JpegScans" "components" "I").before a0 Z = true := hw _ (List.mem_of_getElem? (i := 12) rfl)
theorem wm13 {a0 : Array Value} {Z : State} (hw : ∀ d ∈ tables_1, d.before a0 Z = true) : (Jvm.Cond.classLink "semblance/JpegScans" (17 : Nat) "[[I").before a0 Z = true := hw _ (List.mem_of_getElem? (i := 13) rfl)
theorem wm14 {a0 : Array Value} {Z : State} (hw : ∀ d ∈ tables_1, d.before a0 Z = true) : (Jvm.Cond.arrayOver (Jvm.ClassFile.FieldType.array Jvm.ClassFile.FieldType.int)).before a0 Z = true := hw _ (List.mem_of_getElem? (i := 14) rfl)
theorem wm15 {a0 : Array Value} {Z : State} (hw : ∀ d ∈ tables_1, d.before a0 Z = true) : (Jvm.Cond.arrayClass Jvm.ClassFile.FieldType.int).before a0 Z = true := hw _ (List.mem_of_getElem? (i := 15) rfl)
theorem wm16 {a0 : Array Value} {Z : State} (hw : ∀ d ∈ tables_1, d.before a0 Z = true) : (Jvm.Cond.fieldLink "semblance/JpegScans" (19 : Nat) "semblance/JpegScans" "sentTo" "[[I").before a0 Z = true := hw _ (List.mem_of_getElem? (i := 16) rfl)
theorem wm17 {a0 : Array Value} {Z : State} (hw : ∀ d ∈ tables_1, d.before a0 Z = true) : (Jvm.Cond.laysFinal "semblance/JpegScans" "semblance/JpegScans" "sentTo" "[[I").before a0 Z = true := hw _ (List.mem_of_getElem? (i := 17) rfl)
theorem wm18 {a0 : Array Value} {Z : State} (hw : ∀ d ∈ tables_1, d.before a0 Z = true) : (Jvm.Cond.methodLink "semblance/JpegScans" (22 : Nat) ({ cls := "java/util/Arrays", name := "fill", desc := "([II)V" } : Jvm.MethodName)).before a0 Z = true := hw _ (List.mem_of_getElem? (i := 18) rfl)
theorem wm21 {a0 : Array Value} {Z : State} (hw : ∀ d ∈ tables_1, d.before a0 Z = true) : (Jvm.Cond.code ({ cls := "java/util/Arrays", name := "fill", desc := "([II)V" } : Jvm.MethodName) jdk_65_method_103_code (4 : Nat) (Option.none : Option Jvm.ClassFile.FieldType)).before a0 Z = true := hw _ (List.mem_of_getElem? (i := 21) rfl)
theorem pd_0 : parseMethodDescriptor "([II)V" = some ⟨[(.array .int), .int], none⟩ := by decide +kernel
theorem wm19 {a0 : Array Value} {Z : State} (hw : ∀ d ∈ tables_1, d.before a0 Z = true) : (Jvm.Cond.static ({ cls := "java/util/Arrays", name := "fill", desc := "([II)V" } : Jvm.MethodName)).before a0 Z = true := hw _ (List.mem_of_getElem? (i := 19) rfl)
theorem wm20 {a0 : Array Value} {Z : State} (hw : ∀ d ∈ tables_1, d.before a0 Z = true) : (Jvm.Cond.initialized "java/util/Arrays").before a0 Z = true := hw _ (List.mem_of_getElem? (i := 20) rfl)
theorem wm40 {a0 : Array Value} {Z : State} (hw : ∀ d ∈ tables_1, d.before a0 Z = true) : (Jvm.Cond.lays "semblance/JpegScans" "semblance/JpegScans" "count" "I").before a0 Z = true := hw _ (List.mem_of_getElem? (i := 40) rfl)
theorem wm32 {a0 : Array Value} {Z : State} (hw : ∀ d ∈ tables_1, d.before a0 Z = true) : (Jvm.Cond.lays "semblance/JpegScans" "semblance/JpegScans" "sentAgain" "Z").before a0 Z = true := hw _ (List.mem_of_getElem? (i := 32) rfl)
set_option maxRecDepth 65536 in
set_option maxHeartbeats 40000000 in
theorem c_init_1_0 (l : Launch) (Z : State) (a0 : Array Value) (hw : ∀ d ∈ tables_1, d.before a0 Z = true) (this : Addr) (h0 : Heap) (n0 : Nat) (Z0 : n0 ≤ h0.size) (E_this : Exa Z h0 this "semblance/JpegScans") (F_this_progressive : Fld Z h0 this "semblance/JpegScans" "progressive" "Z" (.int 0)) (F_this_components : Fld Z h0 this "semblance/JpegScans" "components" "I" (.int 0)) (F_this_sentTo : Fld Z h0 this "semblance/JpegScans" "sentTo" "[[I" .null) (F_this_count : Fld Z h0 this "semblance/JpegScans" "count" "I" (.int 0)) (F_this_sentAgain : Fld Z h0 this "semblance/JpegScans" "sentAgain" "Z" (.int 0)) (g_this : n0 ≤ this) :
  Ctr l Z (⟨"semblance/JpegScans", "<init>", "(ZI)V"⟩ : MethodName) prog_41_method_1_code 7 none ({ frames := 1, cells := 2, slots := 65, locals := 15 } : Room) #[(.ref this), (.int 0), (.int 1)] h0 (fun v h L => ∃ gr r0 : Addr, v = none ∧ Fr n0 L ∧ Keep h0 h [this] ∧ h0.size ≤ gr ∧ gr < r0 ∧ Exa Z h this "semblance/JpegScans" ∧ Fld Z h this "semblance/JpegScans" "progressive" "Z" (.int 0) ∧ Fld Z h this "semblance/JpegScans" "components" "I" (.int 1) ∧ Fld Z h this "semblance/JpegScans" "sentTo" "[[I" (.ref gr) ∧ Fld Z h this "semblance/JpegScans" "count" "I" (.int 0) ∧ Fld Z h this "semblance/JpegScans" "sentAgain" "Z" (.int 0) ∧ Ars Z h gr (.array .int) [(.ref r0)] ∧ Ars Z h r0 .int (own_row (fun _ => (-1 : Int32)))) := by
 refine Ctr.of (plainFor_of_name pn_1) (fun m => ef_c_init_1_0 m this) ?_
 intro p e s m below meth c T0 hx hby hml hown hnm hret hlk hZ e0 X0
 have N0 := Fr.nil n0
 replace hown : s.vm.findClass "semblance/JpegScans" = some m.cls := hown
 replace hml : c.maxLocals = 7 := hml
 have KP := Keep.refl h0 [this]
 refine Run.x_aloadN (q := 1) X0 hx (hb hby d2_0) rfl rfl rfl ?_
 refine Run.init X0 hx hZ e0 hown (wm6 hw) (wm7 hw) (wm8 hw) (by rw [hml]; rfl) (hb hby d2_1) (by decide) (W := 0) rfl (by decide) ?_
 intro T1 X1 e1
 show Run p e below s _ _ _ (T1.setTop (mkF m 4 #[.val (.ref this), .val (.int 0), .val (.int 1), .unset, .unset, .unset, .unset] []))
 refine Run.x_aloadN (q := 5) X1 hx (hb hby d2_4) rfl rfl rfl ?_
 refine Run.x_iloadN (q := 6) X1 hx (hb hby d2_5) rfl rfl ?_
 obtain ⟨T2, h2, X2, e2, W2, st2⟩ := putFN X1 hx hZ hown (wm9 hw) Via.refl e1 F_this_progressive E_this (Or.inr ⟨(wm10 hw), rfl, hnm⟩) (wm1 hw) (ty := .boolean) (v' := (.int 0)) (by decide) rfl (by decide) (g := (mkF m 6 #[.val (.ref this), .val (.int 0), .val (.int 1), .unset, .unset, .unset, .unset] [(.int 0), (.ref this)])) rfl rfl (hb hby d2_6)
 replace F_this_progressive := F_this_progressive.same W2
 have Z2 : n0 ≤ h2.size := Nat.le_trans Z0 (Nat.le_of_eq W2.size.symm)
 replace KP := KP.wr W2 (Or.inl (by simp))
 have N2 := Fr.snoc X2 N0 g_this
 refine Run.st st2 ?_
 show Run p e below s _ _ _ (T2.setTop (mkF m 9 #[.val (.ref this), .val (.int 0), .val (.int 1), .unset, .unset, .unset, .unset] []))
 refine Run.x_aloadN (q := 10) X2 hx (hb hby d2_9) rfl rfl rfl ?_
 refine Run.x_iloadN (q := 11) X2 hx (hb hby d2_10) rfl rfl ?_
 replace F_this_components := F_this_components.other W2 (Or.inr (slot_ne (Or.inr (wm12 hw)) (Or.inr (wm10 hw)) (by decide) (t := .int) (t' := .boolean) (by decide) (by decide)))
 replace E_this := E_this.wr W2
 obtain ⟨T3, h3, X3, e3, W3, st3⟩ := putF X2 hx hZ hown (host := "") (Or.inl (wm11 hw)) Via.refl e2 F_this_components E_this (Or.inr ⟨(wm12 hw), rfl, hnm⟩) (wm1 hw) (ty := .int) (by decide) rfl rfl (g := (mkF m 11 #[.val (.ref this), .val (.int 0), .val (.int 1), .unset, .unset, .unset, .unset] [(.int 1), (.ref this)])) rfl rfl (hb hby d2_11)
 replace F_this_components := F_this_components.same W3
 have Z3 : n0 ≤ h3.size := Nat.le_trans Z2 (Nat.le_of_eq W3.size.symm)
 replace KP := KP.wr W3 (Or.inl (by simp))
 have N3 := Fr.snoc X3 N2 g_this
 refine Run.st st3 ?_
 show Run p e below s _ _ _ (T3.setTop (mkF m 14 #[.val (.ref this), .val (.int 0), .val (.int 1), .unset, .unset, .unset, .unset] []))
 refine Run.x_aloadN (q := 15) X3 hx (hb hby d2_14) rfl rfl rfl ?_
 refine Run.x_iloadN (q := 16) X3 hx (hb hby d2_15) rfl rfl ?_
 refine Run.x_bipush (q := 18) X3 hx (hb hby d2_16) (z := (64 : Int32)) rfl rfl ?_
 refine own_grid1 (q := 22) X3 hx hZ e3 hown (wm13 hw) (wm14 hw) (wm15 hw) (hb hby d2_18) rfl (by decide) (by decide) fun T4 h4 gr r0 G_gr lt0 X4 e4 E4 A_gr A_r0 => ?_
 have G_r0 := Nat.le_trans G_gr (Nat.le_of_lt lt0)
 have g_gr : n0 ≤ gr := Nat.le_trans Z3 G_gr
 replace E_this := E_this.wr W3
 have ne_this_gr : this ≠ gr := Nat.ne_of_lt (Nat.lt_of_lt_of_le E_this.lt G_gr)
 have sz_gr : h0.size ≤ gr := Nat.le_trans KP.1 G_gr
 have g_r0 : n0 ≤ r0 := Nat.le_trans Z3 G_r0
 have ne_this_r0 : this ≠ r0 := Nat.ne_of_lt (Nat.lt_of_lt_of_le E_this.lt G_r0)
 have sz_r0 : h0.size ≤ r0 := Nat.le_trans KP.1 G_r0
 have ne_gr_r0 : gr ≠ r0 := Nat.ne_of_lt lt0
 have Z4 : n0 ≤ h4.size := Nat.le_trans Z3 E4.1
 replace KP := KP.ext E4
 replace F_this_sentTo := ((F_this_sentTo.other W2 (Or.inr (slot_ne (Or.inr (wm17 hw)) (Or.inr (wm10 hw)) (by decide) (t := (.array (.array .int))) (t' := .boolean) (by decide) (by decide)))).other W3 (Or.inr (slot_ne (Or.inr (wm17 hw)) (Or.inr (wm12 hw)) (by decide) (t := (.array (.array .int))) (t' := .int) (by decide) (by decide)))).ext E4
 replace E_this := E_this.ext E4
 obtain ⟨T5, h5, X5, e5, W5, st5⟩ := putF X4 hx hZ hown (host := "") (Or.inl (wm16 hw)) Via.refl e4 F_this_sentTo E_this (Or.inr ⟨(wm17 hw), rfl, hnm⟩) (wm1 hw) (ty := (.array (.array .int))) (by decide) rfl rfl (g := (mkF m 22 #[.val (.ref this), .val (.int 0), .val (.int 1), .unset, .unset, .unset, .unset] [(.ref gr), (.ref this)])) rfl rfl (hb hby d2_22)
 replace F_this_sentTo := F_this_sentTo.same W5
 have Z5 : n0 ≤ h5.size := Nat.le_trans Z4 (Nat.le_of_eq W5.size.symm)
 replace KP := KP.wr W5 (Or.inl (by simp))
 have N5 := Fr.snoc X5 N3 g_this
 refine Run.st st5 ?_
 show Run p e below s _ _ _ (T5.setTop (mkF m 25 #[.val (.ref this), .val (.int 0), .val (.int 1), .unset, .unset, .unset, .unset] []))
 refine Run.x_aloadN (q := 26) X5 hx (hb hby d2_25) rfl rfl rfl ?_
 refine Run.z_getF (q := 29) X5 hx hZ e5 hown (wm16 hw) F_this_sentTo (hb hby d2_26) rfl fun T6 X6 e6 => ?_
 refine Run.x_astoreN (q := 30) X6 hx #[.val (.ref this), .val (.int 0), .val (.int 1), .val (.ref gr), .unset, .unset, .unset] (hb hby d2_29) rfl rfl rfl ?_
 refine Run.x_aloadN (q := 31) X6 hx (hb hby d2_30) rfl rfl rfl ?_
 replace A_gr := A_gr.other W5 (Ne.symm ne_this_gr)
 refine Run.y_alen (q := 32) X6 hx hZ e6 A_gr (z := (1 : Int32)) rfl (hb hby d2_31) rfl ?_
 refine Run.x_istore (q := 34) X6 hx #[.val (.ref this), .val (.int 0), .val (.int 1), .val (.ref gr), .val (.int 1), .unset, .unset] (hb hby d2_32) rfl rfl ?_
 refine Run.x_iconst (q := 35) X6 hx (hb hby d2_34) (z := (0 : Int32)) rfl rfl ?_
 refine Run.x_istore (q := 37) X6 hx #[.val (.ref this), .val (.int 0), .val (.int 1), .val (.ref gr), .val (.int 1), .val (.int 0), .unset] (hb hby d2_35) rfl rfl ?_
 refine Run.x_iload (q := 39) X6 hx (hb hby d2_37) rfl rfl ?_
 refine Run.x_iload (q := 41) X6 hx (hb hby d2_39) rfl rfl ?_
 refine Run.x_icmpNo (q := 44) X6 hx (hb hby d2_41) (tlt (by decide : (0 : Int32) < (1 : Int32))).2.1 rfl ?_
 refine Run.x_aloadN (q := 45) X6 hx (hb hby d2_44) rfl rfl rfl ?_
 refine Run.x_iload (q := 47) X6 hx (hb hby d2_45) rfl rfl ?_
 refine Run.y_ldR (q := 48) X6 hx hZ e6 A_gr (i := 0) (v := (.ref r0)) (by decide) rfl rfl (hb hby d2_47) rfl ?_
 refine Run.x_astore (q := 50) X6 hx #[.val (.ref this), .val (.int 0), .val (.int 1), .val (.ref gr), .val (.int 1), .val (.int 0), .val (.ref r0)] (hb hby d2_48) rfl rfl rfl ?_
 refine Run.x_aload (q := 52) X6 hx (hb hby d2_50) rfl rfl rfl ?_
 refine Run.x_iconst (q := 53) X6 hx (hb hby d2_52) (z := (-1 : Int32)) rfl rfl ?_
 replace A_r0 := A_r0.other W5 (Ne.symm ne_this_r0)
 refine Run.callS X6 hx hZ e6 (y := (⟨"java/util/Arrays", "fill", "([II)V"⟩ : MethodName)) hown (wm18 hw) (wm19 hw) (wm20 hw) (wm21 hw) (by decide) (argsL := [(.ref r0), (.int (-1))]) (rest := []) (c_fill l Z a0 hw r0 (-1 : Int32) h5 n0 Z5 (own_row (fun _ => 0)) A_r0 g_r0 (by rw [own_row_len]; decide)) pd_0 rfl (by rw [hml]; rfl) (W := 0) rfl (by decide) (by decide) (by decide) (by decide) (hb hby d2_53) rfl ?_
 intro T7 v7 L7 X7 q7
 obtain ⟨rfl, M7, K7, A7⟩ := q7
 have N7 := Fr.app N5 M7
 show Run p e below s _ _ _ (T7.setTop (mkF m 56 #[.val (.ref this), .val (.int 0), .val (.int 1), .val (.ref gr), .val (.int 1), .val (.int 0), .val (.ref r0)] []))
 have Z7 : n0 ≤ T7.heap.size := Nat.le_trans Z5 K7.1
 replace KP := KP.trans K7 (allS (Or.inr sz_r0) all0)
 replace A7 := own_toR A7
 refine Run.x_iinc (q := 59) X7 hx #[.val (.ref this), .val (.int 0), .val (.int 1), .val (.ref gr), .val (.int 1), .val (.int 1), .val (.ref r0)] (hb hby d2_56) rfl (z := (1 : Int32)) (by decide) rfl rfl ?_
 refine Run.x_goto (q := 37) X7 hx (hb hby d2_59) (by decide) (by decide) ?_
 refine Run.x_iload (q := 39) X7 hx (hb hby d2_37) rfl rfl ?_
 refine Run.x_iload (q := 41) X7 hx (hb hby d2_39) rfl rfl ?_
 refine Run.x_icmpYes (q := 62) X7 hx (hb hby d2_41) (flt (by decide : ¬ ((1 : Int32) < (1 : Int32)))).2.1 (by decide) (by decide) ?_
 replace E_this := (E_this.wr W5).keep K7
 replace F_this_progressive := (((F_this_progressive.other W3 (Or.inr (slot_ne (Or.inr (wm10 hw)) (Or.inr (wm12 hw)) (by decide) (t := .boolean) (t' := .int) (by decide) (by decide)))).ext E4).other W5 (Or.inr (slot_ne (Or.inr (wm10 hw)) (Or.inr (wm17 hw)) (by decide) (t := .boolean) (t' := (.array (.array .int))) (by decide) (by decide)))).keep K7 (ninS ne_this_r0 nin0)
 replace F_this_components := ((F_this_components.ext E4).other W5 (Or.inr (slot_ne (Or.inr (wm12 hw)) (Or.inr (wm17 hw)) (by decide) (t := .int) (t' := (.array (.array .int))) (by decide) (by decide)))).keep K7 (ninS ne_this_r0 nin0)
 replace F_this_sentTo := F_this_sentTo.keep K7 (ninS ne_this_r0 nin0)
 replace F_this_count := ((((F_this_count.other W2 (Or.inr (slot_ne (Or.inl (wm40 hw)) (Or.inr (wm10 hw)) (by decide) (t := .int) (t' := .boolean) (by decide) (by decide)))).other W3 (Or.inr (slot_ne (Or.inl (wm40 hw)) (Or.inr (wm12 hw)) (by decide) (t := .int) (t' := .int) (by decide) (by decide)))).ext E4).other W5 (Or.inr (slot_ne (Or.inl (wm40 hw)) (Or.inr (wm17 hw)) (by decide) (t := .int) (t' := (.array (.array .int))) (by decide) (by decide)))).keep K7 (ninS ne_this_r0 nin0)
 replace F_this_sentAgain := ((((F_this_sentAgain.other W2 (Or.inr (slot_ne (Or.inl (wm32 hw)) (Or.inr (wm10 hw)) (by decide) (t := .boolean) (t' := .boolean) (by decide) (by decide)))).other W3 (Or.inr (slot_ne (Or.inl (wm32 hw)) (Or.inr (wm12 hw)) (by decide) (t := .boolean) (t' := .int) (by decide) (by decide)))).ext E4).other W5 (Or.inr (slot_ne (Or.inl (wm32 hw)) (Or.inr (wm17 hw)) (by decide) (t := .boolean) (t' := (.array (.array .int))) (by decide) (by decide)))).keep K7 (ninS ne_this_r0 nin0)
 replace A_gr := A_gr.keep K7 (ninS ne_gr_r0 nin0)
 refine Run.retV X7 hx hlk rfl hret (hb hby d2_62) (by decide) (by decide) ?_
 exact ⟨gr, r0, rfl, N7, KP, sz_gr, lt0, E_this, F_this_progressive, F_this_components, F_this_sentTo, F_this_count, F_this_sentAgain, A_gr, A7⟩
theorem ef_c_init_1_1 (m : MethodId) (this : Addr) : entryFrame m #[(.ref this), (.int 1), (.int 1)] 7 = mkF m 0 #[.val (.ref this), .val (.int 1), .val (.int 1), .unset, .unset, .unset, .unset] [] := by first | (simp [entryFrame, mkF, argsToLocals, Value.category]; done) | rfl
set_option maxRecDepth 65536 in
set_option maxHeartbeats 40000000 in
theorem c_init_1_1 (l : Launch) (Z : State) (a0 : Array Value) (hw : ∀ d ∈ tables_1, d.before a0 Z = true) (this : Addr) (h0 : Heap) (n0 : Nat) (Z0 : n0 ≤ h0.size) (E_this : Exa Z h0 this "semblance/JpegScans") (F_this_progressive : Fld Z h0 this "semblance/JpegScans" "progressive" "Z" (.int 0)) (F_this_components : Fld Z h0 this "semblance/JpegScans" "components" "I" (.int 0)) (F_this_sentTo : Fld Z h0 this "semblance/JpegScans" "sentTo" "[[I" .null) (F_this_count : Fld Z h0 this "semblance/JpegScans" "count" "I" (.int 0)) (F_this_sentAgain : Fld Z h0 this "semblance/JpegScans" "sentAgain" "Z" (.int 0)) (g_this : n0 ≤ this) :
  Ctr l Z (⟨"semblance/JpegScans", "<init>", "(ZI)V"⟩ : MethodName) prog_41_method_1_code 7 none ({ frames := 1, cells := 2, slots := 65, locals := 15 } : Room) #[(.ref this), (.int 1), (.int 1)] h0 (fun v h L => ∃ gr r0 : Addr, v = none ∧ Fr n0 L ∧ Keep h0 h [this] ∧ h0.size ≤ gr ∧ gr < r0 ∧ Exa Z h this "semblance/JpegScans" ∧ Fld Z h this "semblance/JpegScans" "progressive" "Z" (.int 1) ∧ Fld Z h this "semblance/JpegScans" "components" "I" (.int 1) ∧ Fld Z h this "semblance/JpegScans" "sentTo" "[[I" (.ref gr) ∧ Fld Z h this "semblance/JpegScans" "count" "I" (.int 0) ∧ Fld Z h this "semblance/JpegScans" "sentAgain" "Z" (.int 0) ∧ Ars Z h gr (.array .int) [(.ref r0)] ∧ Ars Z h r0 .int (own_row (fun _ => (-1 : Int32)))) := by
 refine Ctr.of (plainFor_of_name pn_1) (fun m => ef_c_init_1_1 m this) ?_
 intro p e s m below meth c T0 hx hby hml hown hnm hret hlk hZ e0 X0
 have N0 := Fr.nil n0
 replace hown : s.vm.findClass "semblance/JpegScans" = some m.cls := hown
 replace hml : c.maxLocals = 7 := hml
 have KP := Keep.refl h0 [this]
 refine Run.x_aloadN (q := 1) X0 hx (hb hby d2_0) rfl rfl rfl ?_
 refine Run.init X0 hx hZ e0 hown (wm6 hw) (wm7 hw) (wm8 hw) (by rw [hml]; rfl) (hb hby d2_1) (by decide) (W := 0) rfl (by decide) ?_
 intro T1 X1 e1
 show Run p e below s _ _ _ (T1.setTop (mkF m 4 #[.val (.ref this), .val (.int 1), .val (.int 1), .unset, .unset, .unset, .unset] []))
 refine Run.x_aloadN (q := 5) X1 hx (hb hby d2_4) rfl rfl rfl ?_
 refine Run.x_iloadN (q := 6) X1 hx (hb hby d2_5) rfl rfl ?_
 obtain ⟨T2, h2, X2, e2, W2, st2⟩ := putFN X1 hx hZ hown (wm9 hw) Via.refl e1 F_this_progressive E_this (Or.inr ⟨(wm10 hw), rfl, hnm⟩) (wm1 hw) (ty := .boolean) (v' := (.int 1)) (by decide) rfl (by decide) (g := (mkF m 6 #[.val (.ref this), .val (.int 1), .val (.int 1), .unset, .unset, .unset, .unset] [(.int 1), (.ref this)])) rfl rfl (hb hby d2_6)
 replace F_this_progressive := F_this_progressive.same W2
 have Z2 : n0 ≤ h2.size := Nat.le_trans Z0 (Nat.le_of_eq W2.size.symm)
 replace KP := KP.wr W2 (Or.inl (by simp))
 have N2 := Fr.snoc X2 N0 g_this
 refine Run.st st2 ?_
 show Run p e below s _ _ _ (T2.setTop (mkF m 9 #[.val (.ref this), .val (.int 1), .val (.int 1), .unset, .unset, .unset, .unset] []))
 refine Run.x_aloadN (q := 10) X2 hx (hb hby d2_9) rfl rfl rfl ?_
 refine Run.x_iloadN (q := 11) X2 hx (hb hby d2_10) rfl rfl ?_
 replace F_this_components := F_this_components.other W2 (Or.inr (slot_ne (Or.inr (wm12 hw)) (Or.inr (wm10 hw)) (by decide) (t := .int) (t' := .boolean) (by decide) (by decide)))
 replace E_this := E_this.wr W2
 obtain ⟨T3, h3, X3, e3, W3, st3⟩ := putF X2 hx hZ hown (host := "") (Or.inl (wm11 hw)) Via.refl e2 F_this_components E_this (Or.inr ⟨(wm12 hw), rfl, hnm⟩) (wm1 hw) (ty := .int) (by decide) rfl rfl (g := (mkF m 11 #[.val (.ref this), .val (.int 1), .val (.int 1), .unset, .unset, .unset, .unset] [(.int 1), (.ref this)])) rfl rfl (hb hby d2_11)
 replace F_this_components := F_this_components.same W3
 have Z3 : n0 ≤ h3.size := Nat.le_trans Z2 (Nat.le_of_eq W3.size.symm)
 replace KP := KP.wr W3 (Or.inl (by simp))
 have N3 := Fr.snoc X3 N2 g_this
 refine Run.st st3 ?_
 show Run p e below s _ _ _ (T3.setTop (mkF m 14 #[.val (.ref this), .val (.int 1), .val (.int 1), .unset, .unset, .unset, .unset] []))
 refine Run.x_aloadN (q := 15) X3 hx (hb hby d2_14) rfl rfl rfl ?_
 refine Run.x_iloadN (q := 16) X3 hx (hb hby d2_15) rfl rfl ?_
 refine Run.x_bipush (q := 18) X3 hx (hb hby d2_16) (z := (64 : Int32)) rfl rfl ?_
 refine own_grid1 (q := 22) X3 hx hZ e3 hown (wm13 hw) (wm14 hw) (wm15 hw) (hb hby d2_18) rfl (by decide) (by decide) fun T4 h4 gr r0 G_gr lt0 X4 e4 E4 A_gr A_r0 => ?_
 have G_r0 := Nat.le_trans G_gr (Nat.le_of_lt lt0)
 have g_gr : n0 ≤ gr := Nat.le_trans Z3 G_gr
 replace E_this := E_this.wr W3
 have ne_this_gr : this ≠ gr := Nat.ne_of_lt (Nat.lt_of_lt_of_le E_this.lt G_gr)
 have sz_gr : h0.size ≤ gr := Nat.le_trans KP.1 G_gr
 have g_r0 : n0 ≤ r0 := Nat.le_trans Z3 G_r0
 have ne_this_r0 : this ≠ r0 := Nat.ne_of_lt (Nat.lt_of_lt_of_le E_this.lt G_r0)
 have sz_r0 : h0.size ≤ r0 := Nat.le_trans KP.1 G_r0
 have ne_gr_r0 : gr ≠ r0 := Nat.ne_of_lt lt0
 have Z4 : n0 ≤ h4.size := Nat.le_trans Z3 E4.1
 replace KP := KP.ext E4
 replace F_this_sentTo := ((F_this_sentTo.other W2 (Or.inr (slot_ne (Or.inr (wm17 hw)) (Or.inr (wm10 hw)) (by decide) (t := (.array (.array .int))) (t' := .boolean) (by decide) (by decide)))).other W3 (Or.inr (slot_ne (Or.inr (wm17 hw)) (Or.inr (wm12 hw)) (by decide) (t := (.array (.array .int))) (t' := .int) (by decide) (by decide)))).ext E4
 replace E_this := E_this.ext E4
 obtain ⟨T5, h5, X5, e5, W5, st5⟩ := putF X4 hx hZ hown (host := "") (Or.inl (wm16 hw)) Via.refl e4 F_this_sentTo E_this (Or.inr ⟨(wm17 hw), rfl, hnm⟩) (wm1 hw) (ty := (.array (.array .int))) (by decide) rfl rfl (g := (mkF m 22 #[.val (.ref this), .val (.int 1), .val (.int 1), .unset, .unset, .unset, .unset] [(.ref gr), (.ref this)])) rfl rfl (hb hby d2_22)
 replace F_this_sentTo := F_this_sentTo.same W5
 have Z5 : n0 ≤ h5.size := Nat.le_trans Z4 (Nat.le_of_eq W5.size.symm)
 replace KP := KP.wr W5 (Or.inl (by simp))
 have N5 := Fr.snoc X5 N3 g_this
 refine Run.st st5 ?_
 show Run p e below s _ _ _ (T5.setTop (mkF m 25 #[.val (.ref this), .val (.int 1), .val (.int 1), .unset, .unset, .unset, .unset] []))
 refine Run.x_aloadN (q := 26) X5 hx (hb hby d2_25) rfl rfl rfl ?_
 refine Run.z_getF (q := 29) X5 hx hZ e5 hown (wm16 hw) F_this_sentTo (hb hby d2_26) rfl fun T6 X6 e6 => ?_
 refine Run.x_astoreN (q := 30) X6 hx #[.val (.ref this), .val (.int 1), .val (.int 1), .val (.ref gr), .unset, .unset, .unset] (hb hby d2_29) rfl rfl rfl ?_
 refine Run.x_aloadN (q := 31) X6 hx (hb hby d2_30) rfl rfl rfl ?_
 replace A_gr := A_gr.other W5 (Ne.symm ne_this_gr)
 refine Run.y_alen (q := 32) X6 hx hZ e6 A_gr (z := (1 : Int32)) rfl (hb hby d2_31) rfl ?_
 refine Run.x_istore (q := 34) X6 hx #[.val (.ref this), .val (.int 1), .val (.int 1), .val (.ref gr), .val (.int 1), .unset, .unset] (hb hby d2_32) rfl rfl ?_
 refine Run.x_iconst (q := 35) X6 hx (hb hby d2_34) (z := (0 : Int32)) rfl rfl ?_
 refine Run.x_istore (q := 37) X6 hx #[.val (.ref this), .val (.int 1), .val (.int 1), .val (.ref gr), .val (.int 1), .val (.int 0), .unset] (hb hby d2_35) rfl rfl ?_
 refine Run.x_iload (q := 39) X6 hx (hb hby d2_37) rfl rfl ?_
 refine Run.x_iload (q := 41) X6 hx (hb hby d2_39) rfl rfl ?_
 refine Run.x_icmpNo (q := 44) X6 hx (hb hby d2_41) (tlt (by decide : (0 : Int32) < (1 : Int32))).2.1 rfl ?_
 refine Run.x_aloadN (q := 45) X6 hx (hb hby d2_44) rfl rfl rfl ?_
 refine Run.x_iload (q := 47) X6 hx (hb hby d2_45) rfl rfl ?_
 refine Run.y_ldR (q := 48) X6 hx hZ e6 A_gr (i := 0) (v := (.ref r0)) (by decide) rfl rfl (hb hby d2_47) rfl ?_
 refine Run.x_astore (q := 50) X6 hx #[.val (.ref this), .val (.int 1), .val (.int 1), .val (.ref gr), .val (.int 1), .val (.int 0), .val (.ref r0)] (hb hby d2_48) rfl rfl rfl ?_
 refine Run.x_aload (q := 52) X6 hx (hb hby d2_50) rfl rfl rfl ?_
 refine Run.x_iconst (q := 53) X6 hx (hb hby d2_52) (z := (-1 : Int32)) rfl rfl ?_
 replace A_r0 := A_r0.other W5 (Ne.symm ne_this_r0)
 refine Run.callS X6 hx hZ e6 (y := (⟨"java/util/Arrays", "fill", "([II)V"⟩ : MethodName)) hown (wm18 hw) (wm19 hw) (wm20 hw) (wm21 hw) (by decide) (argsL := [(.ref r0), (.int (-1))]) (rest := []) (c_fill l Z a0 hw r0 (-1 : Int32) h5 n0 Z5 (own_row (fun _ => 0)) A_r0 g_r0 (by rw [own_row_len]; decide)) pd_0 rfl (by rw [hml]; rfl) (W := 0) rfl (by decide) (by decide) (by decide) (by decide) (hb hby d2_53) rfl ?_
 intro T7 v7 L7 X7 q7
 obtain ⟨rfl, M7, K7, A7⟩ := q7
 have N7 := Fr.app N5 M7
 show Run p e below s _ _ _ (T7.setTop (mkF m 56 #[.val (.ref this), .val (.int 1), .val (.int 1), .val (.ref gr), .val (.int 1), .val (.int 0), .val (.ref r0)] []))
 have Z7 : n0 ≤ T7.heap.size := Nat.le_trans Z5 K7.1
 replace KP := KP.trans K7 (allS (Or.inr sz_r0) all0)
 replace A7 := own_toR A7
 refine Run.x_iinc (q := 59) X7 hx #[.val (.ref this), .val (.int 1), .val (.int 1), .val (.ref gr), .val (.int 1), .val (.int 1), .val (.ref r0)] (hb hby d2_56) rfl (z := (1 : Int32)) (by decide) rfl rfl ?_
 refine Run.x_goto (q := 37) X7 hx (hb hby d2_59) (by decide) (by decide) ?_
 refine Run.x_iload (q := 39) X7 hx (hb hby d2_37) rfl rfl ?_
 refine Run.x_iload (q := 41) X7 hx (hb hby d2_39) rfl rfl ?_
 refine Run.x_icmpYes (q := 62) X7 hx (hb hby d2_41) (flt (by decide : ¬ ((1 : Int32) < (1 : Int32)))).2.1 (by decide) (by decide) ?_
 replace E_this := (E_this.wr W5).keep K7
 replace F_this_progressive := (((F_this_progressive.other W3 (Or.inr (slot_ne (Or.inr (wm10 hw)) (Or.inr (wm12 hw)) (by decide) (t := .boolean) (t' := .int) (by decide) (by decide)))).ext E4).other W5 (Or.inr (slot_ne (Or.inr (wm10 hw)) (Or.inr (wm17 hw)) (by decide) (t := .boolean) (t' := (.array (.array .int))) (by decide) (by decide)))).keep K7 (ninS ne_this_r0 nin0)
 replace F_this_components := ((F_this_components.ext E4).other W5 (Or.inr (slot_ne (Or.inr (wm12 hw)) (Or.inr (wm17 hw)) (by decide) (t := .int) (t' := (.array (.array .int))) (by decide) (by decide)))).keep K7 (ninS ne_this_r0 nin0)
 replace F_this_sentTo := F_this_sentTo.keep K7 (ninS ne_this_r0 nin0)
 replace F_this_count := ((((F_this_count.other W2 (Or.inr (slot_ne (Or.inl (wm40 hw)) (Or.inr (wm10 hw)) (by decide) (t := .int) (t' := .boolean) (by decide) (by decide)))).other W3 (Or.inr (slot_ne (Or.inl (wm40 hw)) (Or.inr (wm12 hw)) (by decide) (t := .int) (t' := .int) (by decide) (by decide)))).ext E4).other W5 (Or.inr (slot_ne (Or.inl (wm40 hw)) (Or.inr (wm17 hw)) (by decide) (t := .int) (t' := (.array (.array .int))) (by decide) (by decide)))).keep K7 (ninS ne_this_r0 nin0)
 replace F_this_sentAgain := ((((F_this_sentAgain.other W2 (Or.inr (slot_ne (Or.inl (wm32 hw)) (Or.inr (wm10 hw)) (by decide) (t := .boolean) (t' := .boolean) (by decide) (by decide)))).other W3 (Or.inr (slot_ne (Or.inl (wm32 hw)) (Or.inr (wm12 hw)) (by decide) (t := .boolean) (t' := .int) (by decide) (by decide)))).ext E4).other W5 (Or.inr (slot_ne (Or.inl (wm32 hw)) (Or.inr (wm17 hw)) (by decide) (t := .boolean) (t' := (.array (.array .int))) (by decide) (by decide)))).keep K7 (ninS ne_this_r0 nin0)
 replace A_gr := A_gr.keep K7 (ninS ne_gr_r0 nin0)
 refine Run.retV X7 hx hlk rfl hret (hb hby d2_62) (by decide) (by decide) ?_
 exact ⟨gr, r0, rfl, N7, KP, sz_gr, lt0, E_this, F_this_progressive, F_this_components, F_this_sentTo, F_this_count, F_this_sentAgain, A_gr, A7⟩
theorem ef_c_init_2_0 (m : MethodId) (this : Addr) : entryFrame m #[(.ref this), (.int 0), (.int 2)] 7 = mkF m 0 #[.val (.ref this), .val (.int 0), .val (.int 2), .unset, .unset, .unset, .unset] [] := by first | (simp [entryFrame, mkF, argsToLocals, Value.category]; done) | rfl
set_option maxRecDepth 65536 in
set_option maxHeartbeats 40000000 in
theorem c_init_2_0 (l : Launch) (Z : State) (a0 : Array Value) (hw : ∀ d ∈ tables_1, d.before a0 Z = true) (this : Addr) (h0 : Heap) (n0 : Nat) (Z0 : n0 ≤ h0.size) (E_this : Exa Z h0 this "semblance/JpegScans") (F_this_progressive : Fld Z h0 this "semblance/JpegScans" "progressive" "Z" (.int 0)) (F_this_components : Fld Z h0 this "semblance/JpegScans" "components" "I" (.int 0)) (F_this_sentTo : Fld Z h0 this "semblance/JpegScans" "sentTo" "[[I" .null) (F_this_count : Fld Z h0 this "semblance/JpegScans" "count" "I" (.int 0)) (F_this_sentAgain : Fld Z h0 this "semblance/JpegScans" "sentAgain" "Z" (.int 0)) (g_this : n0 ≤ this) :
  Ctr l Z (⟨"semblance/JpegScans", "<init>", "(ZI)V"⟩ : MethodName) prog_41_method_1_code 7 none ({ frames := 1, cells := 3, slots := 130, locals := 15 } : Room) #[(.ref this), (.int 0), (.int 2)] h0 (fun v h L => ∃ gr r0 r1 : Addr, v = none ∧ Fr n0 L ∧ Keep h0 h [this] ∧ h0.size ≤ gr ∧ gr < r0 ∧ r0 < r1 ∧ Exa Z h this "semblance/JpegScans" ∧ Fld Z h this "semblance/JpegScans" "progressive" "Z" (.int 0) ∧ Fld Z h this "semblance/JpegScans" "components" "I" (.int 2) ∧ Fld Z h this "semblance/JpegScans" "sentTo" "[[I" (.ref gr) ∧ Fld Z h this "semblance/JpegScans" "count" "I" (.int 0) ∧ Fld Z h this "semblance/JpegScans" "sentAgain" "Z" (.int 0) ∧ Ars Z h gr (.array .int) [(.ref r0), (.ref r1)] ∧ Ars Z h r0 .int (own_row (fun _ => (-1 : Int32))) ∧ Ars Z h r1 .int (own_row (fun _ => (-1 : Int32)))) := by
 refine Ctr.of (plainFor_of_name pn_1) (fun m => ef_c_init_2_0 m this) ?_
 intro p e s m below meth c T0 hx hby hml hown hnm hret hlk hZ e0 X0
 have N0 := Fr.nil n0
 replace hown : s.vm.findClass "semblance/JpegScans" = some m.cls := hown
 replace hml : c.maxLocals = 7 := hml
 have KP := Keep.refl h0 [this]
 refine Run.x_aloadN (q := 1) X0 hx (hb hby d2_0) rfl rfl rfl ?_
 refine Run.init X0 hx hZ e0 hown (wm6 hw) (wm7 hw) (wm8 hw) (by rw [hml]; rfl) (hb hby d2_1) (by decide) (W := 0) rfl (by decide) ?_
 intro T1 X1 e1
 show Run p e below s _ _ _ (T1.setTop (mkF m 4 #[.val (.ref this), .val (.int 0), .val (.int 2), .unset, .unset, .unset, .unset] []))
 refine Run.x_aloadN (q := 5) X1 hx (hb hby d2_4) rfl rfl rfl ?_
 refine Run.x_iloadN (q := 6) X1 hx (hb hby d2_5) rfl rfl ?_
 obtain ⟨T2, h2, X2, e2, W2, st2⟩ := putFN X1 hx hZ hown (wm9 hw) Via.refl e1 F_this_progressive E_this (Or.inr ⟨(wm10 hw), rfl, hnm⟩) (wm1 hw) (ty := .boolean) (v' := (.int 0)) (by decide) rfl (by decide) (g := (mkF m 6 #[.val (.ref this), .val (.int 0), .val (.int 2), .unset, .unset, .unset, .unset] [(.int 0), (.ref this)])) rfl rfl (hb hby d2_6)
 replace F_this_progressive := F_this_progressive.same W2
 have Z2 : n0 ≤ h2.size := Nat.le_trans Z0 (Nat.le_of_eq W2.size.symm)
 replace KP := KP.wr W2 (Or.inl (by simp))
 have N2 := Fr.snoc X2 N0 g_this
 refine Run.st st2 ?_
 show Run p e below s _ _ _ (T2.setTop (mkF m 9 #[.val (.ref this), .val (.int 0), .val (.int 2), .unset, .unset, .unset, .unset] []))
 refine Run.x_aloadN (q := 10) X2 hx (hb hby d2_9) rfl rfl rfl ?_
 refine Run.x_iloadN (q := 11) X2 hx (hb hby d2_10) rfl rfl ?_
 replace F_this_components := F_this_components.other W2 (Or.inr (slot_ne (Or.inr (wm12 hw)) (Or.inr (wm10 hw)) (by decide) (t := .int) (t' := .boolean) (by decide) (by decide)))
 replace E_this := E_this.wr W2
 obtain ⟨T3, h3, X3, e3, W3, st3⟩ := putF X2 hx hZ hown (host := "") (Or.inl (wm11 hw)) Via.refl e2 F_this_components E_this (Or.inr ⟨(wm12 hw), rfl, hnm⟩) (wm1 hw) (ty := .int) (by decide) rfl rfl (g := (mkF m 11 #[.val (.ref this), .val (.int 0), .val (.int 2), .unset, .unset, .unset, .unset] [(.int 2), (.ref this)])) rfl rfl (hb hby d2_11)
 replace F_this_components := F_this_components.same W3
 have Z3 : n0 ≤ h3.size := Nat.le_trans Z2 (Nat.le_of_eq W3.size.symm)
 replace KP := KP.wr W3 (Or.inl (by simp))
 have N3 := Fr.snoc X3 N2 g_this
 refine Run.st st3 ?_
 show Run p e below s _ _ _ (T3.setTop (mkF m 14 #[.val (.ref this), .val (.int 0), .val (.int 2), .unset, .unset, .unset, .unset] []))
 refine Run.x_aloadN (q := 15) X3 hx (hb hby d2_14) rfl rfl rfl ?_
 refine Run.x_iloadN (q := 16) X3 hx (hb hby d2_15) rfl rfl ?_
 refine Run.x_bipush (q := 18) X3 hx (hb hby d2_16) (z := (64 : Int32)) rfl rfl ?_
 refine own_grid2 (q := 22) X3 hx hZ e3 hown (wm13 hw) (wm14 hw) (wm15 hw) (hb hby d2_18) rfl (by decide) (by decide) fun T4 h4 gr r0 r1 G_gr lt0 lt1 X4 e4 E4 A_gr A_r0 A_r1 => ?_
 have G_r0 := Nat.le_trans G_gr (Nat.le_of_lt lt0)
 have G_r1 := Nat.le_trans G_r0 (Nat.le_of_lt lt1)
 have g_gr : n0 ≤ gr := Nat.le_trans Z3 G_gr
 replace E_this := E_this.wr W3
 have ne_this_gr : this ≠ gr := Nat.ne_of_lt (Nat.lt_of_lt_of_le E_this.lt G_gr)
 have sz_gr : h0.size ≤ gr := Nat.le_trans KP.1 G_gr
 have g_r0 : n0 ≤ r0 := Nat.le_trans Z3 G_r0
 have ne_this_r0 : this ≠ r0 := Nat.ne_of_lt (Nat.lt_of_lt_of_le E_this.lt G_r0)
 have sz_r0 : h0.size ≤ r0 := Nat.le_trans KP.1 G_r0
 have g_r1 : n0 ≤ r1 := Nat.le_trans Z3 G_r1
 have ne_this_r1 : this ≠ r1 := Nat.ne_of_lt (Nat.lt_of_lt_of_le E_this.lt G_r1)
 have sz_r1 : h0.size ≤ r1 := Nat.le_trans KP.1 G_r1
 have ne_gr_r0 : gr ≠ r0 := Nat.ne_of_lt lt0
 have ne_r0_r1 : r0 ≠ r1 := Nat.ne_of_lt lt1
 have ne_gr_r1 : gr ≠ r1 := Nat.ne_of_lt (Nat.lt_trans lt0 lt1)
 have Z4 : n0 ≤ h4.size := Nat.le_trans Z3 E4.1
 replace KP := KP.ext E4
 replace F_this_sentTo := ((F_this_sentTo.other W2 (Or.inr (slot_ne (Or.inr (wm17 hw)) (Or.inr (wm10 hw)) (by decide) (t := (.array (.array .int))) (t' := .boolean) (by decide) (by decide)))).other W3 (Or.inr (slot_ne (Or.inr (wm17 hw)) (Or.inr (wm12 hw)) (by decide) (t := (.array (.array .int))) (t' := .int) (by decide) (by decide)))).ext E4
 replace E_this := E_this.ext E4
 obtain ⟨T5, h5, X5, e5, W5, st5⟩ := putF X4 hx hZ hown (host := "") (Or.inl (wm16 hw)) Via.refl e4 F_this_sentTo E_this (Or.inr ⟨(wm17 hw), rfl, hnm⟩) (wm1 hw) (ty := (.array (.array .int))) (by decide) rfl rfl (g := (mkF m 22 #[.val (.ref this), .val (.int 0), .val (.int 2), .unset, .unset, .unset, .unset] [(.ref gr), (.ref this)])) rfl rfl (hb hby d2_22)
 replace F_this_sentTo := F_this_sentTo.same W5
 have Z5 : n0 ≤ h5.size := Nat.le_trans Z4 (Nat.le_of_eq W5.size.symm)
 replace KP := KP.wr W5 (Or.inl (by simp))
 have N5 := Fr.snoc X5 N3 g_this
 refine Run.st st5 ?_
 show Run p e below s _ _ _ (T5.setTop (mkF m 25 #[.val (.ref this), .val (.int 0), .val (.int 2), .unset, .unset, .unset, .unset] []))
 refine Run.x_aloadN (q := 26) X5 hx (hb hby d2_25) rfl rfl rfl ?_
 refine Run.z_getF (q := 29) X5 hx hZ e5 hown (wm16 hw) F_this_sentTo (hb hby d2_26) rfl fun T6 X6 e6 => ?_
 refine Run.x_astoreN (q := 30) X6 hx #[.val (.ref this), .val (.int 0), .val (.int 2), .val (.ref gr), .unset, .unset, .unset] (hb hby d2_29) rfl rfl rfl ?_
 refine Run.x_aloadN (q := 31) X6 hx (hb hby d2_30) rfl rfl rfl ?_
 replace A_gr := A_gr.other W5 (Ne.symm ne_this_gr)
 refine Run.y_alen (q := 32) X6 hx hZ e6 A_gr (z := (2 : Int32)) rfl (hb hby d2_31) rfl ?_
 refine Run.x_istore (q := 34) X6 hx #[.val (.ref this), .val (.int 0), .val (.int 2), .val (.ref gr), .val (.int 2), .unset, .unset] (hb hby d2_32) rfl rfl ?_
 refine Run.x_iconst (q := 35) X6 hx (hb hby d2_34) (z := (0 : Int32)) rfl rfl ?_
 refine Run.x_istore (q := 37) X6 hx #[.val (.ref this), .val (.int 0), .val (.int 2), .val (.ref gr), .val (.int 2), .val (.int 0), .unset] (hb hby d2_35) rfl rfl ?_
 refine Run.x_iload (q := 39) X6 hx (hb hby d2_37) rfl rfl ?_
 refine Run.x_iload (q := 41) X6 hx (hb hby d2_39) rfl rfl ?_
 refine Run.x_icmpNo (q := 44) X6 hx (hb hby d2_41) (tlt (by decide : (0 : Int32) < (2 : Int32))).2.1 rfl ?_
 refine Run.x_aloadN (q := 45) X6 hx (hb hby d2_44) rfl rfl rfl ?_
 refine Run.x_iload (q := 47) X6 hx (hb hby d2_45) rfl rfl ?_
 refine Run.y_ldR (q := 48) X6 hx hZ e6 A_gr (i := 0) (v := (.ref r0)) (by decide) rfl rfl (hb hby d2_47) rfl ?_
 refine Run.x_astore (q := 50) X6 hx #[.val (.ref this), .val (.int 0), .val (.int 2), .val (.ref gr), .val (.int 2), .val (.int 0), .val (.ref r0)] (hb hby d2_48) rfl rfl rfl ?_
 refine Run.x_aload (q := 52) X6 hx (hb hby d2_50) rfl rfl rfl ?_
 refine Run.x_iconst (q := 53) X6 hx (hb hby d2_52) (z := (-1 : Int32)) rfl rfl ?_
 replace A_r0 := A_r0.other W5 (Ne.symm ne_this_r0)
 refine Run.callS X6 hx hZ e6 (y := (⟨"java/util/Arrays", "fill", "([II)V"⟩ : MethodName)) hown (wm18 hw) (wm19 hw) (wm20 hw) (wm21 hw) (by decide) (argsL := [(.ref r0), (.int (-1))]) (rest := []) (c_fill l Z a0 hw r0 (-1 : Int32) h5 n0 Z5 (own_row (fun _ => 0)) A_r0 g_r0 (by rw [own_row_len]; decide)) pd_0 rfl (by rw [hml]; rfl) (W := 0) rfl (by decide) (by decide) (by decide) (by decide) (hb hby d2_53) rfl ?_
 intro T7 v7 L7 X7 q7
 obtain ⟨rfl, M7, K7, A7⟩ := q7
 have N7 := Fr.app N5 M7
 show Run p e below s _ _ _ (T7.setTop (mkF m 56 #[.val (.ref this), .val (.int 0), .val (.int 2), .val (.ref gr), .val (.int 2), .val (.int 0), .val (.ref r0)] []))
 have Z7 : n0 ≤ T7.heap.size := Nat.le_trans Z5 K7.1
 replace KP := KP.trans K7 (allS (Or.inr sz_r0) all0)
 replace A7 := own_toR A7
 refine Run.x_iinc (q := 59) X7 hx #[.val (.ref this), .val (.int 0), .val (.int 2), .val (.ref gr), .val (.int 2), .val (.int 1), .val (.ref r0)] (hb hby d2_56) rfl (z := (1 : Int32)) (by decide) rfl rfl ?_
 refine Run.x_goto (q := 37) X7 hx (hb hby d2_59) (by decide) (by decide) ?_
 refine Run.x_iload (q := 39) X7 hx (hb hby d2_37) rfl rfl ?_
 refine Run.x_iload (q := 41) X7 hx (hb hby d2_39) rfl rfl ?_
 refine Run.x_icmpNo (q := 44) X7 hx (hb hby d2_41) (tlt (by decide : (1 : Int32) < (2 : Int32))).2.1 rfl ?_
 refine Run.x_aloadN (q := 45) X7 hx (hb hby d2_44) rfl rfl rfl ?_
 refine Run.x_iload (q := 47) X7 hx (hb hby d2_45) rfl rfl ?_
 replace A_gr := A_gr.keep K7 (ninS ne_gr_r0 nin0)
 refine Run.y_ldR (q := 48) X7 hx hZ rfl A_gr (i := 1) (v := (.ref r1)) (by decide) rfl rfl (hb hby d2_47) rfl ?_
 refine Run.x_astore (q := 50) X7 hx #[.val (.ref this), .val (.int 0), .val (.int 2), .val (.ref gr), .val (.int 2), .val (.int 1), .val (.ref r1)] (hb hby d2_48) rfl rfl rfl ?_
 refine Run.x_aload (q := 52) X7 hx (hb hby d2_50) rfl rfl rfl ?_
 refine Run.x_iconst (q := 53) X7 hx (hb hby d2_52) (z := (-1 : Int32)) rfl rfl ?_
 replace A_r1 := (A_r1.other W5 (Ne.symm ne_this_r1)).keep K7 (ninS (Ne.symm ne_r0_r1) nin0)
 refine Run.callS X7 hx hZ rfl (y := (⟨"java/util/Arrays", "fill", "([II)V"⟩ : MethodName)) hown (wm18 hw) (wm19 hw) (wm20 hw) (wm21 hw) (by decide) (argsL := [(.ref r1), (.int (-1))]) (rest := []) (c_fill l Z a0 hw r1 (-1 : Int32) T7.heap n0 Z7 (own_row (fun _ => 0)) A_r1 g_r1 (by rw [own_row_len]; decide)) pd_0 rfl (by rw [hml]; rfl) (W := 0) rfl (by decide) (by decide) (by decide) (by decide) (hb hby d2_53) rfl ?_
 intro T8 v8 L8 X8 q8
 obtain ⟨rfl, M8, K8, A8⟩ := q8
 have N8 := Fr.app N7 M8
 show Run p e below s _ _ _ (T8.setTop (mkF m 56 #[.val (.ref this), .val (.int 0), .val (.int 2), .val (.ref gr), .val (.int 2), .val (.int 1), .val (.ref r1)] []))
 have Z8 : n0 ≤ T8.heap.size := Nat.le_trans Z7 K8.1
 replace KP := KP.trans K8 (allS (Or.inr sz_r1) all0)
 replace A8 := own_toR A8
 refine Run.x_iinc (q := 59) X8 hx #[.val (.ref this), .val (.int 0), .val (.int 2), .val (.ref gr), .val (.int 2), .val (.int 2), .val (.ref r1)] (hb hby d2_56) rfl (z := (2 : Int32)) (by decide) rfl rfl ?_
 refine Run.x_goto (q := 37) X8 hx (hb hby d2_59) (by decide) (by decide) ?_
 refine Run.x_iload (q := 39) X8 hx (hb hby d2_37) rfl rfl ?_
 refine Run.x_iload (q := 41) X8 hx (hb hby d2_39) rfl rfl ?_
 refine Run.x_icmpYes (q := 62) X8 hx (hb hby d2_41) (flt (by decide : ¬ ((2 : Int32) < (2 : Int32)))).2.1 (by decide) (by decide) ?_
 replace E_this := ((E_this.wr W5).keep K7).keep K8
 replace F_this_progressive := ((((F_this_progressive.other W3 (Or.inr (slot_ne (Or.inr (wm10 hw)) (Or.inr (wm12 hw)) (by decide) (t := .boolean) (t' := .int) (by decide) (by decide)))).ext E4).other W5 (Or.inr (slot_ne (Or.inr (wm10 hw)) (Or.inr (wm17 hw)) (by decide) (t := .boolean) (t' := (.array (.array .int))) (by decide) (by decide)))).keep K7 (ninS ne_this_r0 nin0)).keep K8 (ninS ne_this_r1 nin0)
 replace F_this_components := (((F_this_components.ext E4).other W5 (Or.inr (slot_ne (Or.inr (wm12 hw)) (Or.inr (wm17 hw)) (by decide) (t := .int) (t' := (.array (.array .int))) (by decide) (by decide)))).keep K7 (ninS ne_this_r0 nin0)).keep K8 (ninS ne_this_r1 nin0)
 replace F_this_sentTo := (F_this_sentTo.keep K7 (ninS ne_this_r0 nin0)).keep K8 (ninS ne_this_r1 nin0)
 replace F_this_count := (((((F_this_count.other W2 (Or.inr (slot_ne (Or.inl (wm40 hw)) (Or.inr (wm10 hw)) (by decide) (t := .int) (t' := .boolean) (by decide) (by decide)))).other W3 (Or.inr (slot_ne (Or.inl (wm40 hw)) (Or.inr (wm12 hw)) (by decide) (t := .int) (t' := .int) (by decide) (by decide)))).ext E4).other W5 (Or.inr (slot_ne (Or.inl (wm40 hw)) (Or.inr (wm17 hw)) (by decide) (t := .int) (t' := (.array (.array .int))) (by decide) (by decide)))).keep K7 (ninS ne_this_r0 nin0)).keep K8 (ninS ne_this_r1 nin0)
 replace F_this_sentAgain := (((((F_this_sentAgain.other W2 (Or.inr (slot_ne (Or.inl (wm32 hw)) (Or.inr (wm10 hw)) (by decide) (t := .boolean) (t' := .boolean) (by decide) (by decide)))).other W3 (Or.inr (slot_ne (Or.inl (wm32 hw)) (Or.inr (wm12 hw)) (by decide) (t := .boolean) (t' := .int) (by decide) (by decide)))).ext E4).other W5 (Or.inr (slot_ne (Or.inl (wm32 hw)) (Or.inr (wm17 hw)) (by decide) (t := .boolean) (t' := (.array (.array .int))) (by decide) (by decide)))).keep K7 (ninS ne_this_r0 nin0)).keep K8 (ninS ne_this_r1 nin0)
 replace A_gr := A_gr.keep K8 (ninS ne_gr_r1 nin0)
 replace A7 := A7.keep K8 (ninS ne_r0_r1 nin0)
 refine Run.retV X8 hx hlk rfl hret (hb hby d2_62) (by decide) (by decide) ?_
 exact ⟨gr, r0, r1, rfl, N8, KP, sz_gr, lt0, lt1, E_this, F_this_progressive, F_this_components, F_this_sentTo, F_this_count, F_this_sentAgain, A_gr, A7, A8⟩
theorem ef_c_init_2_1 (m : MethodId) (this : Addr) : entryFrame m #[(.ref this), (.int 1), (.int 2)] 7 = mkF m 0 #[.val (.ref this), .val (.int 1), .val (.int 2), .unset, .unset, .unset, .unset] [] := by first | (simp [entryFrame, mkF, argsToLocals, Value.category]; done) | rfl
set_option maxRecDepth 65536 in
set_option maxHeartbeats 40000000 in
theorem c_init_2_1 (l : Launch) (Z : State) (a0 : Array Value) (hw : ∀ d ∈ tables_1, d.before a0 Z = true) (this : Addr) (h0 : Heap) (n0 : Nat) (Z0 : n0 ≤ h0.size) (E_this : Exa Z h0 this "semblance/JpegScans") (F_this_progressive : Fld Z h0 this "semblance/JpegScans" "progressive" "Z" (.int 0)) (F_this_components : Fld Z h0 this "semblance/JpegScans" "components" "I" (.int 0)) (F_this_sentTo : Fld Z h0 this "semblance/JpegScans" "sentTo" "[[I" .null) (F_this_count : Fld Z h0 this "semblance/JpegScans" "count" "I" (.int 0)) (F_this_sentAgain : Fld Z h0 this "semblance/JpegScans" "sentAgain" "Z" (.int 0)) (g_this : n0 ≤ this) :
  Ctr l Z (⟨"semblance/JpegScans", "<init>", "(ZI)V"⟩ : MethodName) prog_41_method_1_code 7 none ({ frames := 1, cells := 3, slots := 130, locals := 15 } : Room) #[(.ref this), (.int 1), (.int 2)] h0 (fun v h L => ∃ gr r0 r1 : Addr, v = none ∧ Fr n0 L ∧ Keep h0 h [this] ∧ h0.size ≤ gr ∧ gr < r0 ∧ r0 < r1 ∧ Exa Z h this "semblance/JpegScans" ∧ Fld Z h this "semblance/JpegScans" "progressive" "Z" (.int 1) ∧ Fld Z h this "semblance/JpegScans" "components" "I" (.int 2) ∧ Fld Z h this "semblance/JpegScans" "sentTo" "[[I" (.ref gr) ∧ Fld Z h this "semblance/JpegScans" "count" "I" (.int 0) ∧ Fld Z h this "semblance/JpegScans" "sentAgain" "Z" (.int 0) ∧ Ars Z h gr (.array .int) [(.ref r0), (.ref r1)] ∧ Ars Z h r0 .int (own_row (fun _ => (-1 : Int32))) ∧ Ars Z h r1 .int (own_row (fun _ => (-1 : Int32)))) := by
 refine Ctr.of (plainFor_of_name pn_1) (fun m => ef_c_init_2_1 m this) ?_
 intro p e s m below meth c T0 hx hby hml hown hnm hret hlk hZ e0 X0
 have N0 := Fr.nil n0
 replace hown : s.vm.findClass "semblance/JpegScans" = some m.cls := hown
 replace hml : c.maxLocals = 7 := hml
 have KP := Keep.refl h0 [this]
 refine Run.x_aloadN (q := 1) X0 hx (hb hby d2_0) rfl rfl rfl ?_
 refine Run.init X0 hx hZ e0 hown (wm6 hw) (wm7 hw) (wm8 hw) (by rw [hml]; rfl) (hb hby d2_1) (by decide) (W := 0) rfl (by decide) ?_
 intro T1 X1 e1
 show Run p e below s _ _ _ (T1.setTop (mkF m 4 #[.val (.ref this), .val (.int 1), .val (.int 2), .unset, .unset, .unset, .unset] []))
 refine Run.x_aloadN (q := 5) X1 hx (hb hby d2_4) rfl rfl rfl ?_
 refine Run.x_iloadN (q := 6) X1 hx (hb hby d2_5) rfl rfl ?_
 obtain ⟨T2, h2, X2, e2, W2, st2⟩ := putFN X1 hx hZ hown (wm9 hw) Via.refl e1 F_this_progressive E_this (Or.inr ⟨(wm10 hw), rfl, hnm⟩) (wm1 hw) (ty := .boolean) (v' := (.int 1)) (by decide) rfl (by decide) (g := (mkF m 6 #[.val (.ref this), .val (.int 1), .val (.int 2), .unset, .unset, .unset, .unset] [(.int 1), (.ref this)])) rfl rfl (hb hby d2_6)
 replace F_this_progressive := F_this_progressive.same W2
 have Z2 : n0 ≤ h2.size := Nat.le_trans Z0 (Nat.le_of_eq W2.size.symm)
 replace KP := KP.wr W2 (Or.inl (by simp))
 have N2 := Fr.snoc X2 N0 g_this
 refine Run.st st2 ?_
 show Run p e below s _ _ _ (T2.setTop (mkF m 9 #[.val (.ref this), .val (.int 1), .val (.int 2), .unset, .unset, .unset, .unset] []))
 refine Run.x_aloadN (q := 10) X2 hx (hb hby d2_9) rfl rfl rfl ?_
 refine Run.x_iloadN (q := 11) X2 hx (hb hby d2_10) rfl rfl ?_
 replace F_this_components := F_this_components.other W2 (Or.inr (slot_ne (Or.inr (wm12 hw)) (Or.inr (wm10 hw)) (by decide) (t := .int) (t' := .boolean) (by decide) (by decide)))
 replace E_this := E_this.wr W2
 obtain ⟨T3, h3, X3, e3, W3, st3⟩ := putF X2 hx hZ hown (host := "") (Or.inl (wm11 hw)) Via.refl e2 F_this_components E_this (Or.inr ⟨(wm12 hw), rfl, hnm⟩) (wm1 hw) (ty := .int) (by decide) rfl rfl (g := (mkF m 11 #[.val (.ref this), .val (.int 1), .val (.int 2), .unset, .unset, .unset, .unset] [(.int 2), (.ref this)])) rfl rfl (hb hby d2_11)
 replace F_this_components := F_this_components.same W3
 have Z3 : n0 ≤ h3.size := Nat.le_trans Z2 (Nat.le_of_eq W3.size.symm)
 replace KP := KP.wr W3 (Or.inl (by simp))
 have N3 := Fr.snoc X3 N2 g_this
 refine Run.st st3 ?_
 show Run p e below s _ _ _ (T3.setTop (mkF m 14 #[.val (.ref this), .val (.int 1), .val (.int 2), .unset, .unset, .unset, .unset] []))
 refine Run.x_aloadN (q := 15) X3 hx (hb hby d2_14) rfl rfl rfl ?_
 refine Run.x_iloadN (q := 16) X3 hx (hb hby d2_15) rfl rfl ?_
 refine Run.x_bipush (q := 18) X3 hx (hb hby d2_16) (z := (64 : Int32)) rfl rfl ?_
 refine own_grid2 (q := 22) X3 hx hZ e3 hown (wm13 hw) (wm14 hw) (wm15 hw) (hb hby d2_18) rfl (by decide) (by decide) fun T4 h4 gr r0 r1 G_gr lt0 lt1 X4 e4 E4 A_gr A_r0 A_r1 => ?_
 have G_r0 := Nat.le_trans G_gr (Nat.le_of_lt lt0)
 have G_r1 := Nat.le_trans G_r0 (Nat.le_of_lt lt1)
 have g_gr : n0 ≤ gr := Nat.le_trans Z3 G_gr
 replace E_this := E_this.wr W3
 have ne_this_gr : this ≠ gr := Nat.ne_of_lt (Nat.lt_of_lt_of_le E_this.lt G_gr)
 have sz_gr : h0.size ≤ gr := Nat.le_trans KP.1 G_gr
 have g_r0 : n0 ≤ r0 := Nat.le_trans Z3 G_r0
 have ne_this_r0 : this ≠ r0 := Nat.ne_of_lt (Nat.lt_of_lt_of_le E_this.lt G_r0)
 have sz_r0 : h0.size ≤ r0 := Nat.le_trans KP.1 G_r0
 have g_r1 : n0 ≤ r1 := Nat.le_trans Z3 G_r1
 have ne_this_r1 : this ≠ r1 := Nat.ne_of_lt (Nat.lt_of_lt_of_le E_this.lt G_r1)
 have sz_r1 : h0.size ≤ r1 := Nat.le_trans KP.1 G_r1
 have ne_gr_r0 : gr ≠ r0 := Nat.ne_of_lt lt0
 have ne_r0_r1 : r0 ≠ r1 := Nat.ne_of_lt lt1
 have ne_gr_r1 : gr ≠ r1 := Nat.ne_of_lt (Nat.lt_trans lt0 lt1)
 have Z4 : n0 ≤ h4.size := Nat.le_trans Z3 E4.1
 replace KP := KP.ext E4
 replace F_this_sentTo := ((F_this_sentTo.other W2 (Or.inr (slot_ne (Or.inr (wm17 hw)) (Or.inr (wm10 hw)) (by decide) (t := (.array (.array .int))) (t' := .boolean) (by decide) (by decide)))).other W3 (Or.inr (slot_ne (Or.inr (wm17 hw)) (Or.inr (wm12 hw)) (by decide) (t := (.array (.array .int))) (t' := .int) (by decide) (by decide)))).ext E4
 replace E_this := E_this.ext E4
 obtain ⟨T5, h5, X5, e5, W5, st5⟩ := putF X4 hx hZ hown (host := "") (Or.inl (wm16 hw)) Via.refl e4 F_this_sentTo E_this (Or.inr ⟨(wm17 hw), rfl, hnm⟩) (wm1 hw) (ty := (.array (.array .int))) (by decide) rfl rfl (g := (mkF m 22 #[.val (.ref this), .val (.int 1), .val (.int 2), .unset, .unset, .unset, .unset] [(.ref gr), (.ref this)])) rfl rfl (hb hby d2_22)
 replace F_this_sentTo := F_this_sentTo.same W5
 have Z5 : n0 ≤ h5.size := Nat.le_trans Z4 (Nat.le_of_eq W5.size.symm)
 replace KP := KP.wr W5 (Or.inl (by simp))
 have N5 := Fr.snoc X5 N3 g_this
 refine Run.st st5 ?_
 show Run p e below s _ _ _ (T5.setTop (mkF m 25 #[.val (.ref this), .val (.int 1), .val (.int 2), .unset, .unset, .unset, .unset] []))
 refine Run.x_aloadN (q := 26) X5 hx (hb hby d2_25) rfl rfl rfl ?_
 refine Run.z_getF (q := 29) X5 hx hZ e5 hown (wm16 hw) F_this_sentTo (hb hby d2_26) rfl fun T6 X6 e6 => ?_
 refine Run.x_astoreN (q := 30) X6 hx #[.val (.ref this), .val (.int 1), .val (.int 2), .val (.ref gr), .unset, .unset, .unset] (hb hby d2_29) rfl rfl rfl ?_
 refine Run.x_aloadN (q := 31) X6 hx (hb hby d2_30) rfl rfl rfl ?_
 replace A_gr := A_gr.other W5 (Ne.symm ne_this_gr)
 refine Run.y_alen (q := 32) X6 hx hZ e6 A_gr (z := (2 : Int32)) rfl (hb hby d2_31) rfl ?_
 refine Run.x_istore (q := 34) X6 hx #[.val (.ref this), .val (.int 1), .val (.int 2), .val (.ref gr), .val (.int 2), .unset, .unset] (hb hby d2_32) rfl rfl ?_
 refine Run.x_iconst (q := 35) X6 hx (hb hby d2_34) (z := (0 : Int32)) rfl rfl ?_
 refine Run.x_istore (q := 37) X6 hx #[.val (.ref this), .val (.int 1), .val (.int 2), .val (.ref gr), .val (.int 2), .val (.int 0), .unset] (hb hby d2_35) rfl rfl ?_
 refine Run.x_iload (q := 39) X6 hx (hb hby d2_37) rfl rfl ?_
 refine Run.x_iload (q := 41) X6 hx (hb hby d2_39) rfl rfl ?_
 refine Run.x_icmpNo (q := 44) X6 hx (hb hby d2_41) (tlt (by decide : (0 : Int32) < (2 : Int32))).2.1 rfl ?_
 refine Run.x_aloadN (q := 45) X6 hx (hb hby d2_44) rfl rfl rfl ?_
 refine Run.x_iload (q := 47) X6 hx (hb hby d2_45) rfl rfl ?_
 refine Run.y_ldR (q := 48) X6 hx hZ e6 A_gr (i := 0) (v := (.ref r0)) (by decide) rfl rfl (hb hby d2_47) rfl ?_
 refine Run.x_astore (q := 50) X6 hx #[.val (.ref this), .val (.int 1), .val (.int 2), .val (.ref gr), .val (.int 2), .val (.int 0), .val (.ref r0)] (hb hby d2_48) rfl rfl rfl ?_
 refine Run.x_aload (q := 52) X6 hx (hb hby d2_50) rfl rfl rfl ?_
 refine Run.x_iconst (q := 53) X6 hx (hb hby d2_52) (z := (-1 : Int32)) rfl rfl ?_
 replace A_r0 := A_r0.other W5 (Ne.symm ne_this_r0)
 refine Run.callS X6 hx hZ e6 (y := (⟨"java/util/Arrays", "fill", "([II)V"⟩ : MethodName)) hown (wm18 hw) (wm19 hw) (wm20 hw) (wm21 hw) (by decide) (argsL := [(.ref r0), (.int (-1))]) (rest := []) (c_fill l Z a0 hw r0 (-1 : Int32) h5 n0 Z5 (own_row (fun _ => 0)) A_r0 g_r0 (by rw [own_row_len]; decide)) pd_0 rfl (by rw [hml]; rfl) (W := 0) rfl (by decide) (by decide) (by decide) (by decide) (hb hby d2_53) rfl ?_
 intro T7 v7 L7 X7 q7
 obtain ⟨rfl, M7, K7, A7⟩ := q7
 have N7 := Fr.app N5 M7
 show Run p e below s _ _ _ (T7.setTop (mkF m 56 #[.val (.ref this), .val (.int 1), .val (.int 2), .val (.ref gr), .val (.int 2), .val (.int 0), .val (.ref r0)] []))
 have Z7 : n0 ≤ T7.heap.size := Nat.le_trans Z5 K7.1
 replace KP := KP.trans K7 (allS (Or.inr sz_r0) all0)
 replace A7 := own_toR A7
 refine Run.x_iinc (q := 59) X7 hx #[.val (.ref this), .val (.int 1), .val (.int 2), .val (.ref gr), .val (.int 2), .val (.int 1), .val (.ref r0)] (hb hby d2_56) rfl (z := (1 : Int32)) (by decide) rfl rfl ?_
 refine Run.x_goto (q := 37) X7 hx (hb hby d2_59) (by decide) (by decide) ?_
 refine Run.x_iload (q := 39) X7 hx (hb hby d2_37) rfl rfl ?_
 refine Run.x_iload (q := 41) X7 hx (hb hby d2_39) rfl rfl ?_
 refine Run.x_icmpNo (q := 44) X7 hx (hb hby d2_41) (tlt (by decide : (1 : Int32) < (2 : Int32))).2.1 rfl ?_
 refine Run.x_aloadN (q := 45) X7 hx (hb hby d2_44) rfl rfl rfl ?_
 refine Run.x_iload (q := 47) X7 hx (hb hby d2_45) rfl rfl ?_
 replace A_gr := A_gr.keep K7 (ninS ne_gr_r0 nin0)
 refine Run.y_ldR (q := 48) X7 hx hZ rfl A_gr (i := 1) (v := (.ref r1)) (by decide) rfl rfl (hb hby d2_47) rfl ?_
 refine Run.x_astore (q := 50) X7 hx #[.val (.ref this), .val (.int 1), .val (.int 2), .val (.ref gr), .val (.int 2), .val (.int 1), .val (.ref r1)] (hb hby d2_48) rfl rfl rfl ?_
 refine Run.x_aload (q := 52) X7 hx (hb hby d2_50) rfl rfl rfl ?_
 refine Run.x_iconst (q := 53) X7 hx (hb hby d2_52) (z := (-1 : Int32)) rfl rfl ?_
 replace A_r1 := (A_r1.other W5 (Ne.symm ne_this_r1)).keep K7 (ninS (Ne.symm ne_r0_r1) nin0)
 refine Run.callS X7 hx hZ rfl (y := (⟨"java/util/Arrays", "fill", "([II)V"⟩ : MethodName)) hown (wm18 hw) (wm19 hw) (wm20 hw) (wm21 hw) (by decide) (argsL := [(.ref r1), (.int (-1))]) (rest := []) (c_fill l Z a0 hw r1 (-1 : Int32) T7.heap n0 Z7 (own_row (fun _ => 0)) A_r1 g_r1 (by rw [own_row_len]; decide)) pd_0 rfl (by rw [hml]; rfl) (W := 0) rfl (by decide) (by decide) (by decide) (by decide) (hb hby d2_53) rfl ?_
 intro T8 v8 L8 X8 q8
 obtain ⟨rfl, M8, K8, A8⟩ := q8
 have N8 := Fr.app N7 M8
 show Run p e below s _ _ _ (T8.setTop (mkF m 56 #[.val (.ref this), .val (.int 1), .val (.int 2), .val (.ref gr), .val (.int 2), .val (.int 1), .val (.ref r1)] []))
 have Z8 : n0 ≤ T8.heap.size := Nat.le_trans Z7 K8.1
 replace KP := KP.trans K8 (allS (Or.inr sz_r1) all0)
 replace A8 := own_toR A8
 refine Run.x_iinc (q := 59) X8 hx #[.val (.ref this), .val (.int 1), .val (.int 2), .val (.ref gr), .val (.int 2), .val (.int 2), .val (.ref r1)] (hb hby d2_56) rfl (z := (2 : Int32)) (by decide) rfl rfl ?_
 refine Run.x_goto (q := 37) X8 hx (hb hby d2_59) (by decide) (by decide) ?_
 refine Run.x_iload (q := 39) X8 hx (hb hby d2_37) rfl rfl ?_
 refine Run.x_iload (q := 41) X8 hx (hb hby d2_39) rfl rfl ?_
 refine Run.x_icmpYes (q := 62) X8 hx (hb hby d2_41) (flt (by decide : ¬ ((2 : Int32) < (2 : Int32)))).2.1 (by decide) (by decide) ?_
 replace E_this := ((E_this.wr W5).keep K7).keep K8
 replace F_this_progressive := ((((F_this_progressive.other W3 (Or.inr (slot_ne (Or.inr (wm10 hw)) (Or.inr (wm12 hw)) (by decide) (t := .boolean) (t' := .int) (by decide) (by decide)))).ext E4).other W5 (Or.inr (slot_ne (Or.inr (wm10 hw)) (Or.inr (wm17 hw)) (by decide) (t := .boolean) (t' := (.array (.array .int))) (by decide) (by decide)))).keep K7 (ninS ne_this_r0 nin0)).keep K8 (ninS ne_this_r1 nin0)
 replace F_this_components := (((F_this_components.ext E4).other W5 (Or.inr (slot_ne (Or.inr (wm12 hw)) (Or.inr (wm17 hw)) (by decide) (t := .int) (t' := (.array (.array .int))) (by decide) (by decide)))).keep K7 (ninS ne_this_r0 nin0)).keep K8 (ninS ne_this_r1 nin0)
 replace F_this_sentTo := (F_this_sentTo.keep K7 (ninS ne_this_r0 nin0)).keep K8 (ninS ne_this_r1 nin0)
 replace F_this_count := (((((F_this_count.other W2 (Or.inr (slot_ne (Or.inl (wm40 hw)) (Or.inr (wm10 hw)) (by decide) (t := .int) (t' := .boolean) (by decide) (by decide)))).other W3 (Or.inr (slot_ne (Or.inl (wm40 hw)) (Or.inr (wm12 hw)) (by decide) (t := .int) (t' := .int) (by decide) (by decide)))).ext E4).other W5 (Or.inr (slot_ne (Or.inl (wm40 hw)) (Or.inr (wm17 hw)) (by decide) (t := .int) (t' := (.array (.array .int))) (by decide) (by decide)))).keep K7 (ninS ne_this_r0 nin0)).keep K8 (ninS ne_this_r1 nin0)
 replace F_this_sentAgain := (((((F_this_sentAgain.other W2 (Or.inr (slot_ne (Or.inl (wm32 hw)) (Or.inr (wm10 hw)) (by decide) (t := .boolean) (t' := .boolean) (by decide) (by decide)))).other W3 (Or.inr (slot_ne (Or.inl (wm32 hw)) (Or.inr (wm12 hw)) (by decide) (t := .boolean) (t' := .int) (by decide) (by decide)))).ext E4).other W5 (Or.inr (slot_ne (Or.inl (wm32 hw)) (Or.inr (wm17 hw)) (by decide) (t := .boolean) (t' := (.array (.array .int))) (by decide) (by decide)))).keep K7 (ninS ne_this_r0 nin0)).keep K8 (ninS ne_this_r1 nin0)
 replace A_gr := A_gr.keep K8 (ninS ne_gr_r1 nin0)
 replace A7 := A7.keep K8 (ninS ne_r0_r1 nin0)
 refine Run.retV X8 hx hlk rfl hret (hb hby d2_62) (by decide) (by decide) ?_
 exact ⟨gr, r0, r1, rfl, N8, KP, sz_gr, lt0, lt1, E_this, F_this_progressive, F_this_components, F_this_sentTo, F_this_count, F_this_sentAgain, A_gr, A7, A8⟩
theorem d3_0 : decode jdk_29_method_65_code 0 = .ok (.iload_n 0, 1) := by decide +kernel
theorem d3_1 : decode jdk_29_method_65_code 1 = .ok (.iload_n 1, 1) := by decide +kernel
theorem d3_2 : decode jdk_29_method_65_code 2 = .ok (.if_icmp .lt 7, 3) := by decide +kernel
theorem d3_5 : decode jdk_29_method_65_code 5 = .ok (.iload_n 0, 1) := by decide +kernel
theorem d3_6 : decode jdk_29_method_65_code 6 = .ok (.goto 4, 3) := by decide +kernel
theorem d3_9 : decode jdk_29_method_65_code 9 = .ok (.iload_n 1, 1) := by decide +kernel
theorem d3_10 : decode jdk_29_method_65_code 10 = .ok (.ireturn, 1) := by decide +kernel
theorem ef_c_max (m : MethodId) (x : Int32) (y : Int32) : entryFrame m #[(.int x), (.int y)] 2 = mkF m 0 #[.val (.int x), .val (.int y)] [] := by first | (simp [entryFrame, mkF, argsToLocals, Value.category]; done) | rfl
set_option maxRecDepth 65536 in
set_option maxHeartbeats 40000000 in
theorem c_max (l : Launch) (Z : State) (a0 : Array Value) (hw : ∀ d ∈ tables_1, d.before a0 Z = true) (x : Int32) (y : Int32) (h0 : Heap) (n0 : Nat) (Z0 : n0 ≤ h0.size) (z : Int32) (hz : (if x < y then y else x) = z) :
  Ctr l Z (⟨"java/lang/Math", "max", "(II)I"⟩ : MethodName) jdk_29_method_65_code 2 (some .int) ({ frames := 0, cells := 0, slots := 0, locals := 0 } : Room) #[(.int x), (.int y)] h0 (PureI h0 n0 z) := by
 refine Ctr.of (Jvm.Free.JP.mathPlain rfl (by decide +kernel)) (fun m => ef_c_max m x y) ?_
 intro p e s m below meth c T0 hx hby hml hown hnm hret hlk hZ e0 X0
 have N0 := Fr.nil n0
 replace hown : s.vm.findClass "java/lang/Math" = some m.cls := hown
 replace hml : c.maxLocals = 2 := hml
 refine Run.x_iloadN (q := 1) X0 hx (hb hby d3_0) rfl rfl ?_
 refine Run.x_iloadN (q := 2) X0 hx (hb hby d3_1) rfl rfl ?_
 by_cases hc2 : x < y
 ·skip
  refine Run.x_icmpYes (q := 9) X0 hx (hb hby d3_2) (tlt hc2).1 (by decide) (by decide) ?_
  refine Run.x_iloadN (q := 10) X0 hx (hb hby d3_9) rfl rfl ?_
  refine Run.retI X0 hx hlk e0 hret (hb hby d3_10) (by decide) (by decide) ?_
  exact PureI.mk (by exact (if_pos hc2).symm.trans hz) N0
 ·skip
  refine Run.x_icmpNo (q := 5) X0 hx (hb hby d3_2) (flt hc2).1 rfl ?_
  refine Run.x_iloadN (q := 6) X0 hx (hb hby d3_5) rfl rfl ?_
  refine Run.x_goto (q := 10) X0 hx (hb hby d3_6) (by decide) (by decide) ?_
  refine Run.retI X0 hx hlk e0 hret (hb hby d3_10) (by decide) (by decide) ?_
  exact PureI.mk (by exact (if_neg hc2).symm.trans hz) N0
theorem d4_0 : decode prog_41_method_2_code 0 = .ok (.aload_n 0, 1) := by decide +kernel
theorem d4_1 : decode prog_41_method_2_code 1 = .ok (.dup, 1) := by decide +kernel
theorem d4_2 : decode prog_41_method_2_code 2 = .ok (.getfield 28, 3) := by decide +kernel
theorem d4_5 : decode prog_41_method_2_code 5 = .ok (.iconst 1, 1) := by decide +kernel
theorem d4_6 : decode prog_41_method_2_code 6 = .ok (.iadd, 1) := by decide +kernel
theorem d4_7 : decode prog_41_method_2_code 7 = .ok (.putfield 28, 3) := by decide +kernel
theorem d4_10 : decode prog_41_method_2_code 10 = .ok (.aload_n 0, 1) := by decide +kernel
theorem d4_11 : decode prog_41_method_2_code 11 = .ok (.getfield 28, 3) := by decide +kernel
theorem d4_14 : decode prog_41_method_2_code 14 = .ok (.bipush 32, 2) := by decide +kernel
theorem d4_16 : decode prog_41_method_2_code 16 = .ok (.if_icmp .le 13, 3) := by decide +kernel
theorem d4_19 : decode prog_41_method_2_code 19 = .ok (.new 31, 3) := by decide +kernel
theorem d4_22 : decode prog_41_method_2_code 22 = .ok (.dup, 1) := by decide +kernel
theorem d4_23 : decode prog_41_method_2_code 23 = .ok (.ldc 33, 2) := by decide +kernel
theorem d4_25 : decode prog_41_method_2_code 25 = .ok (.invokespecial 35, 3) := by decide +kernel
theorem d4_28 : decode prog_41_method_2_code 28 = .ok (.athrow, 1) := by decide +kernel
theorem d4_29 : decode prog_41_method_2_code 29 = .ok (.aload_n 0, 1) := by decide +kernel
theorem d4_30 : decode prog_41_method_2_code 30 = .ok (.getfield 7, 3) := by decide +kernel
theorem d4_33 : decode prog_41_method_2_code 33 = .ok (.ifCond .ne 94, 3) := by decide +kernel
theorem d4_36 : decode prog_41_method_2_code 36 = .ok (.aload_n 1, 1) := by decide +kernel
theorem d4_37 : decode prog_41_method_2_code 37 = .ok (.astore 6, 2) := by decide +kernel
theorem d4_39 : decode prog_41_method_2_code 39 = .ok (.aload 6, 2) := by decide +kernel
theorem d4_41 : decode prog_41_method_2_code 41 = .ok (.arraylength, 1) := by decide +kernel
theorem d4_42 : decode prog_41_method_2_code 42 = .ok (.istore 7, 2) := by decide +kernel
theorem d4_44 : decode prog_41_method_2_code 44 = .ok (.iconst 0, 1) := by decide +kernel
theorem d4_45 : decode prog_41_method_2_code 45 = .ok (.istore 8, 2) := by decide +kernel
theorem d4_47 : decode prog_41_method_2_code 47 = .ok (.iload 8, 2) := by decide +kernel
theorem d4_49 : decode prog_41_method_2_code 49 = .ok (.iload 7, 2) := by decide +kernel
theorem d4_51 : decode prog_41_method_2_code 51 = .ok (.if_icmp .ge 53, 3) := by decide +kernel
theorem d4_54 : decode prog_41_method_2_code 54 = .ok (.aload 6, 2) := by decide +kernel
theorem d4_56 : decode prog_41_method_2_code 56 = .ok (.iload 8, 2) := by decide +kernel
theorem d4_58 : decode prog_41_method_2_code 58 = .ok (.iaload, 1) := by decide +kernel
theorem d4_59 : decode prog_41_method_2_code 59 = .ok (.istore 9, 2) := by decide +kernel
theorem d4_61 : decode prog_41_method_2_code 61 = .ok (.aload_n 0, 1) := by decide +kernel
theorem d4_62 : decode prog_41_method_2_code 62 = .ok (.dup, 1) := by decide +kernel
theorem d4_63 : decode prog_41_method_2_code 63 = .ok (.getfield 38, 3) := by decide +kernel
theorem d4_66 : decode prog_41_method_2_code 66 = .ok (.aload_n 0, 1) := by decide +kernel
theorem d4_67 : decode prog_41_method_2_code 67 = .ok (.getfield 19, 3) := by decide +kernel
theorem d4_70 : decode prog_41_method_2_code 70 = .ok (.iload 9, 2) := by decide +kernel
theorem d4_72 : decode prog_41_method_2_code 72 = .ok (.aaload, 1) := by decide +kernel
theorem d4_73 : decode prog_41_method_2_code 73 = .ok (.iconst 0, 1) := by decide +kernel
theorem d4_74 : decode prog_41_method_2_code 74 = .ok (.iaload, 1) := by decide +kernel
theorem d4_75 : decode prog_41_method_2_code 75 = .ok (.ifCond .ne 7, 3) := by decide +kernel
theorem d4_78 : decode prog_41_method_2_code 78 = .ok (.iconst 1, 1) := by decide +kernel
theorem d4_79 : decode prog_41_method_2_code 79 = .ok (.goto 4, 3) := by decide +kernel
theorem d4_82 : decode prog_41_method_2_code 82 = .ok (.iconst 0, 1) := by decide +kernel
theorem d4_83 : decode prog_41_method_2_code 83 = .ok (.ior, 1) := by decide +kernel
theorem d4_84 : decode prog_41_method_2_code 84 = .ok (.putfield 38, 3) := by decide +kernel
theorem d4_87 : decode prog_41_method_2_code 87 = .ok (.aload_n 0, 1) := by decide +kernel
theorem d4_88 : decode prog_41_method_2_code 88 = .ok (.getfield 19, 3) := by decide +kernel
theorem d4_91 : decode prog_41_method_2_code 91 = .ok (.iload 9, 2) := by decide +kernel
theorem d4_93 : decode prog_41_method_2_code 93 = .ok (.aaload, 1) := by decide +kernel
theorem d4_94 : decode prog_41_method_2_code 94 = .ok (.iconst 0, 1) := by decide +kernel
theorem d4_95 : decode prog_41_method_2_code 95 = .ok (.invokestatic 22, 3) := by decide +kernel
theorem d4_98 : decode prog_41_method_2_code 98 = .ok (.iinc 8 1, 3) := by decide +kernel
theorem d4_101 : decode prog_41_method_2_code 101 = .ok (.goto (-54), 3) := by decide +kernel
theorem d4_104 : decode prog_41_method_2_code 104 = .ok (.aload_n 0, 1) := by decide +kernel
theorem d4_105 : decode prog_41_method_2_code 105 = .ok (.getfield 28, 3) := by decide +kernel
theorem d4_108 : decode prog_41_method_2_code 108 = .ok (.iconst 1, 1) := by decide +kernel
theorem d4_109 : decode prog_41_method_2_code 109 = .ok (.if_icmp .gt 12, 3) := by decide +kernel
theorem d4_112 : decode prog_41_method_2_code 112 = .ok (.aload_n 1, 1) := by decide +kernel
theorem d4_113 : decode prog_41_method_2_code 113 = .ok (.arraylength, 1) := by decide +kernel
theorem d4_114 : decode prog_41_method_2_code 114 = .ok (.aload_n 0, 1) := by decide +kernel
theorem d4_115 : decode prog_41_method_2_code 115 = .ok (.getfield 13, 3) := by decide +kernel
theorem d4_118 : decode prog_41_method_2_code 118 = .ok (.if_icmp .ge 7, 3) := by decide +kernel
theorem d4_121 : decode prog_41_method_2_code 121 = .ok (.iconst 1, 1) := by decide +kernel
theorem d4_122 : decode prog_41_method_2_code 122 = .ok (.goto 4, 3) := by decide +kernel
theorem d4_125 : decode prog_41_method_2_code 125 = .ok (.iconst 0, 1) := by decide +kernel
theorem d4_126 : decode prog_41_method_2_code 126 = .ok (.ireturn, 1) := by decide +kernel
theorem d4_127 : decode prog_41_method_2_code 127 = .ok (.iload_n 2, 1) := by decide +kernel
theorem d4_128 : decode prog_41_method_2_code 128 = .ok (.ifCond .ne 15, 3) := by decide +kernel
theorem d4_131 : decode prog_41_method_2_code 131 = .ok (.iload_n 3, 1) := by decide +kernel
theorem d4_132 : decode prog_41_method_2_code 132 = .ok (.ifCond .ne 7, 3) := by decide +kernel
theorem d4_135 : decode prog_41_method_2_code 135 = .ok (.iconst 1, 1) := by decide +kernel
theorem d4_136 : decode prog_41_method_2_code 136 = .ok (.goto 29, 3) := by decide +kernel
theorem d4_139 : decode prog_41_method_2_code 139 = .ok (.iconst 0, 1) := by decide +kernel
theorem d4_140 : decode prog_41_method_2_code 140 = .ok (.goto 25, 3) := by decide +kernel
theorem d4_143 : decode prog_41_method_2_code 143 = .ok (.iload_n 2, 1) := by decide +kernel
theorem d4_144 : decode prog_41_method_2_code 144 = .ok (.iload_n 3, 1) := by decide +kernel
theorem d4_145 : decode prog_41_method_2_code 145 = .ok (.if_icmp .gt 19, 3) := by decide +kernel
theorem d4_148 : decode prog_41_method_2_code 148 = .ok (.iload_n 3, 1) := by decide +kernel
theorem d4_149 : decode prog_41_method_2_code 149 = .ok (.bipush 64, 2) := by decide +kernel
theorem d4_151 : decode prog_41_method_2_code 151 = .ok (.if_icmp .ge 13, 3) := by decide +kernel
theorem d4_154 : decode prog_41_method_2_code 154 = .ok (.aload_n 1, 1) := by decide +kernel
theorem d4_155 : decode prog_41_method_2_code 155 = .ok (.arraylength, 1) := by decide +kernel
theorem d4_156 : decode prog_41_method_2_code 156 = .ok (.iconst 1, 1) := by decide +kernel
theorem d4_157 : decode prog_41_method_2_code 157 = .ok (.if_icmp .ne 7, 3) := by decide +kernel
theorem d4_160 : decode prog_41_method_2_code 160 = .ok (.iconst 1, 1) := by decide +kernel
theorem d4_161 : decode prog_41_method_2_code 161 = .ok (.goto 4, 3) := by decide +kernel
theorem d4_164 : decode prog_41_method_2_code 164 = .ok (.iconst 0, 1) := by decide +kernel
theorem d4_165 : decode prog_41_method_2_code 165 = .ok (.istore 6, 2) := by decide +kernel
theorem d4_167 : decode prog_41_method_2_code 167 = .ok (.iload 6, 2) := by decide +kernel
theorem d4_169 : decode prog_41_method_2_code 169 = .ok (.ifCond .eq 24, 3) := by decide +kernel
theorem d4_172 : decode prog_41_method_2_code 172 = .ok (.iload 4, 2) := by decide +kernel
theorem d4_174 : decode prog_41_method_2_code 174 = .ok (.ifCond .eq 12, 3) := by decide +kernel
theorem d4_177 : decode prog_41_method_2_code 177 = .ok (.iload 5, 2) := by decide +kernel
theorem d4_179 : decode prog_41_method_2_code 179 = .ok (.iload 4, 2) := by decide +kernel
theorem d4_181 : decode prog_41_method_2_code 181 = .ok (.iconst 1, 1) := by decide +kernel
theorem d4_182 : decode prog_41_method_2_code 182 = .ok (.isub, 1) := by decide +kernel
theorem d4_183 : decode prog_41_method_2_code 183 = .ok (.if_icmp .ne 10, 3) := by decide +kernel
theorem d4_186 : decode prog_41_method_2_code 186 = .ok (.iload 5, 2) := by decide +kernel
theorem d4_188 : decode prog_41_method_2_code 188 = .ok (.bipush 13, 2) := by decide +kernel
theorem d4_190 : decode prog_41_method_2_code 190 = .ok (.if_icmp .le 26, 3) := by decide +kernel
theorem d4_193 : decode prog_41_method_2_code 193 = .ok (.new 31, 3) := by decide +kernel
theorem d4_196 : decode prog_41_method_2_code 196 = .ok (.dup, 1) := by decide +kernel
theorem d4_197 : decode prog_41_method_2_code 197 = .ok (.aload_n 0, 1) := by decide +kernel
theorem d4_198 : decode prog_41_method_2_code 198 = .ok (.getfield 28, 3) := by decide +kernel
theorem d4_201 : decode prog_41_method_2_code 201 = .ok (.iload_n 2, 1) := by decide +kernel
theorem d4_202 : decode prog_41_method_2_code 202 = .ok (.iload_n 3, 1) := by decide +kernel
theorem d4_203 : decode prog_41_method_2_code 203 = .ok (.iload 4, 2) := by decide +kernel
theorem d4_205 : decode prog_41_method_2_code 205 = .ok (.iload 5, 2) := by decide +kernel
theorem d4_207 : decode prog_41_method_2_code 207 = .ok (.invokedynamic 41, 5) := by decide +kernel
theorem d4_212 : decode prog_41_method_2_code 212 = .ok (.invokespecial 35, 3) := by decide +kernel
theorem d4_215 : decode prog_41_method_2_code 215 = .ok (.athrow, 1) := by decide +kernel
theorem d4_216 : decode prog_41_method_2_code 216 = .ok (.aload_n 1, 1) := by decide +kernel
theorem d4_217 : decode prog_41_method_2_code 217 = .ok (.astore 7, 2) := by decide +kernel
theorem d4_219 : decode prog_41_method_2_code 219 = .ok (.aload 7, 2) := by decide +kernel
theorem d4_221 : decode prog_41_method_2_code 221 = .ok (.arraylength, 1) := by decide +kernel
theorem d4_222 : decode prog_41_method_2_code 222 = .ok (.istore 8, 2) := by decide +kernel
theorem d4_224 : decode prog_41_method_2_code 224 = .ok (.iconst 0, 1) := by decide +kernel
theorem d4_225 : decode prog_41_method_2_code 225 = .ok (.istore 9, 2) := by decide +kernel
theorem d4_227 : decode prog_41_method_2_code 227 = .ok (.iload 9, 2) := by decide +kernel
theorem d4_229 : decode prog_41_method_2_code 229 = .ok (.iload 8, 2) := by decide +kernel
theorem d4_231 : decode prog_41_method_2_code 231 = .ok (.if_icmp .ge 89, 3) := by decide +kernel
theorem d4_234 : decode prog_41_method_2_code 234 = .ok (.aload 7, 2) := by decide +kernel
theorem d4_236 : decode prog_41_method_2_code 236 = .ok (.iload 9, 2) := by decide +kernel
theorem d4_238 : decode prog_41_method_2_code 238 = .ok (.iaload, 1) := by decide +kernel
theorem d4_239 : decode prog_41_method_2_code 239 = .ok (.istore 10, 2) := by decide +kernel
theorem d4_241 : decode prog_41_method_2_code 241 = .ok (.aload_n 0, 1) := by decide +kernel
theorem d4_242 : decode prog_41_method_2_code 242 = .ok (.getfield 19, 3) := by decide +kernel
theorem d4_245 : decode prog_41_method_2_code 245 = .ok (.iload 10, 2) := by decide +kernel
theorem d4_247 : decode prog_41_method_2_code 247 = .ok (.aaload, 1) := by decide +kernel
theorem d4_248 : decode prog_41_method_2_code 248 = .ok (.astore 11, 2) := by decide +kernel
theorem d4_250 : decode prog_41_method_2_code 250 = .ok (.iload_n 2, 1) := by decide +kernel
theorem d4_251 : decode prog_41_method_2_code 251 = .ok (.ifCond .le 18, 3) := by decide +kernel
theorem d4_254 : decode prog_41_method_2_code 254 = .ok (.aload 11, 2) := by decide +kernel
theorem d4_256 : decode prog_41_method_2_code 256 = .ok (.iconst 0, 1) := by decide +kernel
theorem d4_257 : decode prog_41_method_2_code 257 = .ok (.iaload, 1) := by decide +kernel
theorem d4_258 : decode prog_41_method_2_code 258 = .ok (.ifCond .ge 11, 3) := by decide +kernel
theorem d4_261 : decode prog_41_method_2_code 261 = .ok (.aload_n 0, 1) := by decide +kernel
theorem d4_262 : decode prog_41_method_2_code 262 = .ok (.iload 10, 2) := by decide +kernel
theorem d4_264 : decode prog_41_method_2_code 264 = .ok (.iconst 0, 1) := by decide +kernel
theorem d4_265 : decode prog_41_method_2_code 265 = .ok (.invokevirtual 45, 3) := by decide +kernel
theorem d4_268 : decode prog_41_method_2_code 268 = .ok (.athrow, 1) := by decide +kernel
theorem d4_269 : decode prog_41_method_2_code 269 = .ok (.iload_n 2, 1) := by decide +kernel
theorem d4_270 : decode prog_41_method_2_code 270 = .ok (.istore 12, 2) := by decide +kernel
theorem d4_272 : decode prog_41_method_2_code 272 = .ok (.iload 12, 2) := by decide +kernel
theorem d4_274 : decode prog_41_method_2_code 274 = .ok (.iload_n 3, 1) := by decide +kernel
theorem d4_275 : decode prog_41_method_2_code 275 = .ok (.if_icmp .gt 39, 3) := by decide +kernel
theorem d4_278 : decode prog_41_method_2_code 278 = .ok (.iload 4, 2) := by decide +kernel
theorem d4_280 : decode prog_41_method_2_code 280 = .ok (.aload 11, 2) := by decide +kernel
theorem d4_282 : decode prog_41_method_2_code 282 = .ok (.iload 12, 2) := by decide +kernel
theorem d4_284 : decode prog_41_method_2_code 284 = .ok (.iaload, 1) := by decide +kernel
theorem d4_285 : decode prog_41_method_2_code 285 = .ok (.iconst 0, 1) := by decide +kernel
theorem d4_286 : decode prog_41_method_2_code 286 = .ok (.invokestatic 49, 3) := by decide +kernel
theorem d4_289 : decode prog_41_method_2_code 289 = .ok (.if_icmp .eq 12, 3) := by decide +kernel
theorem d4_292 : decode prog_41_method_2_code 292 = .ok (.aload_n 0, 1) := by decide +kernel
theorem d4_293 : decode prog_41_method_2_code 293 = .ok (.iload 10, 2) := by decide +kernel
theorem d4_295 : decode prog_41_method_2_code 295 = .ok (.iload 12, 2) := by decide +kernel
theorem d4_297 : decode prog_41_method_2_code 297 = .ok (.invokevirtual 45, 3) := by decide +kernel
theorem d4_300 : decode prog_41_method_2_code 300 = .ok (.athrow, 1) := by decide +kernel
theorem d4_301 : decode prog_41_method_2_code 301 = .ok (.aload 11, 2) := by decide +kernel
theorem d4_303 : decode prog_41_method_2_code 303 = .ok (.iload 12, 2) := by decide +kernel
theorem d4_305 : decode prog_41_method_2_code 305 = .ok (.iload 5, 2) := by decide +kernel
theorem d4_307 : decode prog_41_method_2_code 307 = .ok (.iastore, 1) := by decide +kernel
theorem d4_308 : decode prog_41_method_2_code 308 = .ok (.iinc 12 1, 3) := by decide +kernel
theorem d4_311 : decode prog_41_method_2_code 311 = .ok (.goto (-39), 3) := by decide +kernel
theorem d4_314 : decode prog_41_method_2_code 314 = .ok (.iinc 9 1, 3) := by decide +kernel
theorem d4_317 : decode prog_41_method_2_code 317 = .ok (.goto (-90), 3) := by decide +kernel
theorem d4_320 : decode prog_41_method_2_code 320 = .ok (.iconst 1, 1) := by decide +kernel
theorem d4_321 : decode prog_41_method_2_code 321 = .ok (.ireturn, 1) := by decide +kernel
theorem ef_c_ts_1 (m : MethodId) (this : Addr) (cs : Addr) : entryFrame m #[(.ref this), (.ref cs), (.int 0), (.int 0), (.int 0), (.int 0)] 13 = mkF m 0 #[.val (.ref this), .val (.ref cs), .val (.int 0), .val (.int 0), .val (.int 0), .val (.int 0), .unset, .unset, .unset, .unset, .unset, .unset, .unset] [] := by first | (simp [entryFrame, mkF, argsToLocals, Value.category]; done) | rfl
theorem wm39 {a0 : Array Value} {Z : State} (hw : ∀ d ∈ tables_1, d.before a0 Z = true) : (Jvm.Cond.fieldLink "semblance/JpegScans" (28 : Nat) "semblance/JpegScans" "count" "I").before a0 Z = true := hw _ (List.mem_of_getElem? (i := 39) rfl)
theorem wm31 {a0 : Array Value} {Z : State} (hw : ∀ d ∈ tables_1, d.before a0 Z = true) : (Jvm.Cond.fieldLink "semblance/JpegScans" (38 : Nat) "semblance/JpegScans" "sentAgain" "Z").before a0 Z = true := hw _ (List.mem_of_getElem? (i := 31) rfl)
set_option maxRecDepth 65536 in
set_option maxHeartbeats 40000000 in
theorem c_ts_1 (l : Launch) (Z : State) (a0 : Array Value) (hw : ∀ d ∈ tables_1, d.before a0 Z = true) (this : Addr) (cs : Addr) (h0 : Heap) (n0 : Nat) (Z0 : n0 ≤ h0.size) (gr : Addr) (r0 : Addr) (cnt : Int32) (sa : Int32) (w0 : Int32) (w1 : Int32) (sF : Int32) (F0 : Int32) (F1 : Int32) (es : List Int32) (E_this : Exa Z h0 this "semblance/JpegScans") (F_this_progressive : Fld Z h0 this "semblance/JpegScans" "progressive" "Z" (.int 0)) (F_this_components : Fld Z h0 this "semblance/JpegScans" "components" "I" (.int 1)) (F_this_sentTo : Fld Z h0 this "semblance/JpegScans" "sentTo" "[[I" (.ref gr)) (F_this_count : Fld Z h0 this "semblance/JpegScans" "count" "I" (.int cnt)) (F_this_sentAgain : Fld Z h0 this "semblance/JpegScans" "sentAgain" "Z" (.int sa)) (A_gr : Ars Z h0 gr (.array .int) [(.ref r0)]) (A_r0 : Ars Z h0 r0 .int (own_row (fun _ => w0))) (A_cs : Ars Z h0 cs .int (es.map Value.int)) (g_this : n0 ≤ this) (g_r0 : n0 ≤ r0) (ne_this_gr : this ≠ gr) (ne_this_r0 : this ≠ r0) (ne_this_cs : this ≠ cs) (ne_gr_r0 : gr ≠ r0) (ne_gr_cs : gr ≠ cs) (ne_r0_cs : r0 ≠ cs) (hcnt : 0 ≤ cnt.toInt ∧ cnt.toInt ≤ 20) (hsa : sa = 0 ∨ sa = 1) (hes : ∀ e ∈ es, e = 0) (hlen : es.length ≤ 100) (hF : es.foldl own_stp (sa, w0, w1) = (sF, F0, F1)) :
  Ctr l Z (⟨"semblance/JpegScans", "take", "([IIIII)Z"⟩ : MethodName) prog_41_method_2_code 13 (some .boolean) ({ frames := 1, cells := 0, slots := 0, locals := 15 } : Room) #[(.ref this), (.ref cs), (.int 0), (.int 0), (.int 0), (.int 0)] h0 (fun v h L => ∃ b : Int32, v = some (.int b) ∧ Fr n0 L ∧ Keep h0 h [this, r0] ∧ Exa Z h this "semblance/JpegScans" ∧ Fld Z h this "semblance/JpegScans" "progressive" "Z" (.int 0) ∧ Fld Z h this "semblance/JpegScans" "components" "I" (.int 1) ∧ Fld Z h this "semblance/JpegScans" "sentTo" "[[I" (.ref gr) ∧ Fld Z h this "semblance/JpegScans" "count" "I" (.int (cnt + (1 : Int32))) ∧ Fld Z h this "semblance/JpegScans" "sentAgain" "Z" (.int sF) ∧ Ars Z h r0 .int (own_row (fun _ => F0))) := by
 refine Ctr.of (plainFor_of_name pn_1) (fun m => ef_c_ts_1 m this cs) ?_
 intro p e s m below meth c T0 hx hby hml hown hnm hret hlk hZ e0 X0
 have N0 := Fr.nil n0
 replace hown : s.vm.findClass "semblance/JpegScans" = some m.cls := hown
 replace hml : c.maxLocals = 13 := hml
 have KP := Keep.refl h0 [this, r0]
 obtain ⟨ln, hln⟩ : ∃ y, (es.map Value.int).length.toInt32 = y := ⟨_, rfl⟩
 have hlz := own_ln hln hlen
 refine Run.x_aloadN (q := 1) X0 hx (hb hby d4_0) rfl rfl rfl ?_
 refine Run.x_dup (q := 2) X0 hx (hb hby d4_1) rfl rfl ?_
 refine Run.z_getF (q := 5) X0 hx hZ e0 hown (wm39 hw) F_this_count (hb hby d4_2) rfl fun T1 X1 e1 => ?_
 refine Run.x_iconst (q := 6) X1 hx (hb hby d4_5) (z := (1 : Int32)) rfl rfl ?_
 refine Run.x_iadd (q := 7) X1 hx (hb hby d4_6) rfl rfl ?_
 obtain ⟨T2, h2, X2, e2, W2, st2⟩ := putF X1 hx hZ hown (host := "") (Or.inl (wm39 hw)) Via.refl e1 F_this_count E_this (Or.inl (wm40 hw)) (wm1 hw) (ty := .int) (by decide) rfl rfl (g := (mkF m 7 #[.val (.ref this), .val (.ref cs), .val (.int 0), .val (.int 0), .val (.int 0), .val (.int 0), .unset, .unset, .unset, .unset, .unset, .unset, .unset] [(.int (cnt + (1 : Int32))), (.ref this)])) rfl rfl (hb hby d4_7)
 replace F_this_count := F_this_count.same W2
 have Z2 : n0 ≤ h2.size := Nat.le_trans Z0 (Nat.le_of_eq W2.size.symm)
 replace KP := KP.wr W2 (Or.inl (by simp))
 have N2 := Fr.snoc X2 N0 g_this
 refine Run.st st2 ?_
 show Run p e below s _ _ _ (T2.setTop (mkF m 10 #[.val (.ref this), .val (.ref cs), .val (.int 0), .val (.int 0), .val (.int 0), .val (.int 0), .unset, .unset, .unset, .unset, .unset, .unset, .unset] []))
 refine Run.x_aloadN (q := 11) X2 hx (hb hby d4_10) rfl rfl rfl ?_
 refine Run.z_getF (q := 14) X2 hx hZ e2 hown (wm39 hw) F_this_count (hb hby d4_11) rfl fun T3 X3 e3 => ?_
 refine Run.x_bipush (q := 16) X3 hx (hb hby d4_14) (z := (32 : Int32)) rfl rfl ?_
 refine Run.x_icmpYes (q := 29) X3 hx (hb hby d4_16) (flt (own_c32 hcnt)).2.2.2 (by decide) (by decide) ?_
 refine Run.x_aloadN (q := 30) X3 hx (hb hby d4_29) rfl rfl rfl ?_
 replace F_this_progressive := F_this_progressive.other W2 (Or.inr (slot_ne (Or.inr (wm10 hw)) (Or.inl (wm40 hw)) (by decide) (t := .boolean) (t' := .int) (by decide) (by decide)))
 refine Run.z_getF (q := 33) X3 hx hZ e3 hown (wm9 hw) F_this_progressive (hb hby d4_30) rfl fun T4 X4 e4 => ?_
 refine Run.x_ifNo (q := 36) X4 hx (hb hby d4_33) ((if0 _ _).trans (teq (by decide : (0 : Int32) = (0 : Int32))).2) rfl ?_
 refine Run.x_aloadN (q := 37) X4 hx (hb hby d4_36) rfl rfl rfl ?_
 refine Run.x_astore (q := 39) X4 hx #[.val (.ref this), .val (.ref cs), .val (.int 0), .val (.int 0), .val (.int 0), .val (.int 0), .val (.ref cs), .unset, .unset, .unset, .unset, .unset, .unset] (hb hby d4_37) rfl rfl rfl ?_
 refine Run.x_aload (q := 41) X4 hx (hb hby d4_39) rfl rfl rfl ?_
 replace A_cs := A_cs.other W2 (Ne.symm ne_this_cs)
 refine Run.y_alen (q := 42) X4 hx hZ e4 A_cs (z := ln) hln (hb hby d4_41) rfl ?_
 refine Run.x_istore (q := 44) X4 hx #[.val (.ref this), .val (.ref cs), .val (.int 0), .val (.int 0), .val (.int 0), .val (.int 0), .val (.ref cs), .val (.int ln), .unset, .unset, .unset, .unset, .unset] (hb hby d4_42) rfl rfl ?_
 refine Run.x_iconst (q := 45) X4 hx (hb hby d4_44) (z := (0 : Int32)) rfl rfl ?_
 refine Run.x_istore (q := 47) X4 hx #[.val (.ref this), .val (.ref cs), .val (.int 0), .val (.int 0), .val (.int 0), .val (.int 0), .val (.ref cs), .val (.int ln), .val (.int 0), .unset, .unset, .unset, .unset] (hb hby d4_45) rfl rfl ?_
 have loop : ∀ (k : Nat) (i : Nat) (iv : Int32) (z9 : Slot) (sa : Int32) (w0 : Int32) (w1 : Int32) (T5 : State) (h5 : Heap) (lo5 : List Loc), Stand p l e ({ frames := 1, cells := 0, slots := 0, locals := 15 } : Room) s m #[(.ref this), (.ref cs), (.int 0), (.int 0), (.int 0), (.int 0)] below meth c T5 lo5 0 0 → T5.heap = h5 → Fr n0 lo5 → n0 ≤ h5.size → Keep h0 h5 [this, r0] → Exa Z h5 this "semblance/JpegScans" → Fld Z h5 this "semblance/JpegScans" "progressive" "Z" (.int 0) → Fld Z h5 this "semblance/JpegScans" "components" "I" (.int 1) → Fld Z h5 this "semblance/JpegScans" "sentTo" "[[I" (.ref gr) → Fld Z h5 this "semblance/JpegScans" "count" "I" (.int (cnt + (1 : Int32))) → Fld Z h5 this "semblance/JpegScans" "sentAgain" "Z" (.int sa) → Ars Z h5 gr (.array .int) [(.ref r0)] → Ars Z h5 r0 .int (own_row (fun _ => w0)) → Ars Z h5 cs .int (es.map Value.int) → (iv.toInt = i) → (i + k = es.length) → (sa = 0 ∨ sa = 1) → ((es.drop i).foldl own_stp (sa, w0, w1) = (sF, F0, F1)) → (z9 = .unset ∨ ∃ x : Int32, z9 = .val (.int x)) → Run p e below s (fun v h L => ∃ b : Int32, v = some (.int b) ∧ Fr n0 L ∧ Keep h0 h [this, r0] ∧ Exa Z h this "semblance/JpegScans" ∧ Fld Z h this "semblance/JpegScans" "progressive" "Z" (.int 0) ∧ Fld Z h this "semblance/JpegScans" "components" "I" (.int 1) ∧ Fld Z h this "semblance/JpegScans" "sentTo" "[[I" (.ref gr) ∧ Fld Z h this "semblance/JpegScans" "count" "I" (.int (cnt + (1 : Int32))) ∧ Fld Z h this "semblance/JpegScans" "sentAgain" "Z" (.int sF) ∧ Ars Z h r0 .int (own_row (fun _ => F0))) ({ frames := 1, cells := 0, slots := 0, locals := 15 } : Room).cells ({ frames := 1, cells := 0, slots := 0, locals := 15 } : Room).slots (T5.setTop (mkF m 47 #[.val (.ref this), .val (.ref cs), .val (.int 0), .val (.int 0), .val (.int 0), .val (.int 0), .val (.ref cs), .val (.int ln), .val (.int iv), z9, .unset, .unset, .unset] [])) := by
  intro k
  induction k with
  | zero =>
   intro i iv z9 sa w0 w1 T5 h5 lo5 X5 e5 N5 Z5 KP Ethis_5 Fprogressive_5 Fcomponents_5 FsentTo_5 Fcount_5 FsentAgain_5 Agr_5 Ar0_5 Acs_5 hiv hik hsa hf hz9
   have e9 : i = es.length := by omega
   subst e9
   rw [List.drop_length] at hf
   obtain ⟨rfl, rfl, rfl⟩ : sa = sF ∧ w0 = F0 ∧ w1 = F1 := by simpa using hf
   refine Run.x_iload (q := 49) X5 hx (hb hby d4_47) rfl rfl ?_
   refine Run.x_iload (q := 51) X5 hx (hb hby d4_49) rfl rfl ?_
   refine Run.x_icmpYes (q := 104) X5 hx (hb hby d4_51) (flt (by rw [lt32]; omega)).2.1 (by decide) (by decide) ?_
   refine Run.x_aloadN (q := 105) X5 hx (hb hby d4_104) rfl rfl rfl ?_
   refine Run.z_getF (q := 108) X5 hx hZ e5 hown (wm39 hw) Fcount_5 (hb hby d4_105) rfl fun T6 X6 e6 => ?_
   refine Run.x_iconst (q := 109) X6 hx (hb hby d4_108) (z := (1 : Int32)) rfl rfl ?_
   by_cases hc109 : (1 : Int32) < (cnt + (1 : Int32))
   ·skip
    refine Run.x_icmpYes (q := 121) X6 hx (hb hby d4_109) (tlt hc109).2.2.1 (by decide) (by decide) ?_
    refine Run.x_iconst (q := 122) X6 hx (hb hby d4_121) (z := (1 : Int32)) rfl rfl ?_
    refine Run.x_goto (q := 126) X6 hx (hb hby d4_122) (by decide) (by decide) ?_
    refine Run.retN X6 hx hlk e6 (t := .boolean) hret (by simp) (z' := (1 : Int32)) (by decide) (hb hby d4_126) (by decide) (by decide) ?_
    exact ⟨_, rfl, N5, KP, Ethis_5, Fprogressive_5, Fcomponents_5, FsentTo_5, Fcount_5, FsentAgain_5, Ar0_5⟩
   ·skip
    refine Run.x_icmpNo (q := 112) X6 hx (hb hby d4_109) (flt hc109).2.2.1 rfl ?_
    refine Run.x_aloadN (q := 113) X6 hx (hb hby d4_112) rfl rfl rfl ?_
    refine Run.y_alen (q := 114) X6 hx hZ e6 Acs_5 (z := ln) hln (hb hby d4_113) rfl ?_
    refine Run.x_aloadN (q := 115) X6 hx (hb hby d4_114) rfl rfl rfl ?_
    refine Run.z_getF (q := 118) X6 hx hZ e6 hown (wm11 hw) Fcomponents_5 (hb hby d4_115) rfl fun T7 X7 e7 => ?_
    by_cases hc118 : ln < (1 : Int32)
    ·skip
     refine Run.x_icmpNo (q := 121) X7 hx (hb hby d4_118) (tlt hc118).2.1 rfl ?_
     refine Run.x_iconst (q := 122) X7 hx (hb hby d4_121) (z := (1 : Int32)) rfl rfl ?_
     refine Run.x_goto (q := 126) X7 hx (hb hby d4_122) (by decide) (by decide) ?_
     refine Run.retN X7 hx hlk e7 (t := .boolean) hret (by simp) (z' := (1 : Int32)) (by decide) (hb hby d4_126) (by decide) (by decide) ?_
     exact ⟨_, rfl, N5, KP, Ethis_5, Fprogressive_5, Fcomponents_5, FsentTo_5, Fcount_5, FsentAgain_5, Ar0_5⟩
    ·skip
     refine Run.x_icmpYes (q := 125) X7 hx (hb hby d4_118) (flt hc118).2.1 (by decide) (by decide) ?_
     refine Run.x_iconst (q := 126) X7 hx (hb hby d4_125) (z := (0 : Int32)) rfl rfl ?_
     refine Run.retN X7 hx hlk e7 (t := .boolean) hret (by simp) (z' := (0 : Int32)) (by decide) (hb hby d4_126) (by decide) (by decide) ?_
     exact ⟨_, rfl, N5, KP, Ethis_5, Fprogressive_5, Fcomponents_5, FsentTo_5, Fcount_5, FsentAgain_5, Ar0_5⟩
  | succ k ih =>
   intro i iv z9 sa w0 w1 T5 h5 lo5 X5 e5 N5 Z5 KP Ethis_5 Fprogressive_5 Fcomponents_5 FsentTo_5 Fcount_5 FsentAgain_5 Agr_5 Ar0_5 Acs_5 hiv hik hsa hf hz9
   obtain ⟨ev, hev, hdr, hem⟩ := own_dr (show i < es.length by omega)
   rw [hdr, List.foldl_cons] at hf
   rcases hes ev hem with rfl
   ·skip
    show Run p e below s _ _ _ (T5.setTop (mkF m 47 #[.val (.ref this), .val (.ref cs), .val (.int 0), .val (.int 0), .val (.int 0), .val (.int 0), .val (.ref cs), .val (.int ln), .val (.int iv), z9, .unset, .unset, .unset] []))
    have hsa' := hsa
    rcases hsa with rfl | rfl
    ·skip
     show Run p e below s _ _ _ (T5.setTop (mkF m 47 #[.val (.ref this), .val (.ref cs), .val (.int 0), .val (.int 0), .val (.int 0), .val (.int 0), .val (.ref cs), .val (.int ln), .val (.int iv), z9, .unset, .unset, .unset] []))
     refine Run.x_iload (q := 49) X5 hx (hb hby d4_47) rfl rfl ?_
     refine Run.x_iload (q := 51) X5 hx (hb hby d4_49) rfl rfl ?_
     refine Run.x_icmpNo (q := 54) X5 hx (hb hby d4_51) (tlt (by rw [lt32]; omega)).2.1 rfl ?_
     refine Run.x_aload (q := 56) X5 hx (hb hby d4_54) rfl rfl rfl ?_
     refine Run.x_iload (q := 58) X5 hx (hb hby d4_56) rfl rfl ?_
     refine Run.y_ldI (q := 59) X5 hx hZ e5 Acs_5 (i := i) (v := (.int 0)) hiv hev (hb hby d4_58) rfl ?_
     refine Run.x_istore (q := 61) X5 hx #[.val (.ref this), .val (.ref cs), .val (.int 0), .val (.int 0), .val (.int 0), .val (.int 0), .val (.ref cs), .val (.int ln), .val (.int iv), .val (.int 0), .unset, .unset, .unset] (hb hby d4_59) (by rcases hz9 with rfl | ⟨x, rfl⟩ <;> rfl) rfl ?_
     refine Run.x_aloadN (q := 62) X5 hx (hb hby d4_61) rfl rfl rfl ?_
     refine Run.x_dup (q := 63) X5 hx (hb hby d4_62) rfl rfl ?_
     refine Run.z_getF (q := 66) X5 hx hZ e5 hown (wm31 hw) FsentAgain_5 (hb hby d4_63) rfl fun T8 X8 e8 => ?_
     refine Run.x_aloadN (q := 67) X8 hx (hb hby d4_66) rfl rfl rfl ?_
     refine Run.z_getF (q := 70) X8 hx hZ e8 hown (wm16 hw) FsentTo_5 (hb hby d4_67) rfl fun T9 X9 e9 => ?_
     refine Run.x_iload (q := 72) X9 hx (hb hby d4_70) rfl rfl ?_
     refine Run.y_ldR (q := 73) X9 hx hZ e9 Agr_5 (i := 0) (v := (.ref r0)) (by decide) rfl rfl (hb hby d4_72) rfl ?_
     refine Run.x_iconst (q := 74) X9 hx (hb hby d4_73) (z := (0 : Int32)) rfl rfl ?_
     refine Run.y_ldI (q := 75) X9 hx hZ e9 Ar0_5 (i := 0) (v := (.int w0)) (by decide) (own_row_at (by decide)) (hb hby d4_74) rfl ?_
     by_cases hc75 : w0 = (0 : Int32)
     ·skip
      refine Run.x_ifNo (q := 78) X9 hx (hb hby d4_75) ((if0 _ _).trans (teq hc75).2) rfl ?_
      refine Run.x_iconst (q := 79) X9 hx (hb hby d4_78) (z := (1 : Int32)) rfl rfl ?_
      refine Run.x_goto (q := 83) X9 hx (hb hby d4_79) (by decide) (by decide) ?_
      refine Run.x_ior (q := 84) X9 hx (hb hby d4_83) (z := (1 : Int32)) (by decide) rfl ?_
      obtain ⟨T10, h10, X10, e10, W10, st10⟩ := putFN X9 hx hZ hown (wm31 hw) Via.refl e9 FsentAgain_5 Ethis_5 (Or.inl (wm32 hw)) (wm1 hw) (ty := .boolean) (v' := (.int 1)) (by decide) rfl (by decide) (g := (mkF m 84 #[.val (.ref this), .val (.ref cs), .val (.int 0), .val (.int 0), .val (.int 0), .val (.int 0), .val (.ref cs), .val (.int ln), .val (.int iv), .val (.int 0), .unset, .unset, .unset] [(.int 1), (.ref this)])) rfl rfl (hb hby d4_84)
      replace FsentAgain_5 := FsentAgain_5.same W10
      have Z10 : n0 ≤ h10.size := Nat.le_trans Z5 (Nat.le_of_eq W10.size.symm)
      replace KP := KP.wr W10 (Or.inl (by simp))
      have N10 := Fr.snoc X10 N5 g_this
      refine Run.st st10 ?_
      show Run p e below s _ _ _ (T10.setTop (mkF m 87 #[.val (.ref this), .val (.ref cs), .val (.int 0), .val (.int 0), .val (.int 0), .val (.int 0), .val (.ref cs), .val (.int ln), .val (.int iv), .val (.int 0), .unset, .unset, .unset] []))
      refine Run.x_aloadN (q := 88) X10 hx (hb hby d4_87) rfl rfl rfl ?_
      replace FsentTo_5 := FsentTo_5.other W10 (Or.inr (slot_ne (Or.inr (wm17 hw)) (Or.inl (wm32 hw)) (by decide) (t := (.array (.array .int))) (t' := .boolean) (by decide) (by decide)))
      refine Run.z_getF (q := 91) X10 hx hZ e10 hown (wm16 hw) FsentTo_5 (hb hby d4_88) rfl fun T11 X11 e11 => ?_
      refine Run.x_iload (q := 93) X11 hx (hb hby d4_91) rfl rfl ?_
      replace Agr_5 := Agr_5.other W10 (Ne.symm ne_this_gr)
      refine Run.y_ldR (q := 94) X11 hx hZ e11 Agr_5 (i := 0) (v := (.ref r0)) (by decide) rfl rfl (hb hby d4_93) rfl ?_
      refine Run.x_iconst (q := 95) X11 hx (hb hby d4_94) (z := (0 : Int32)) rfl rfl ?_
      replace Ar0_5 := Ar0_5.other W10 (Ne.symm ne_this_r0)
      refine Run.callS X11 hx hZ e11 (y := (⟨"java/util/Arrays", "fill", "([II)V"⟩ : MethodName)) hown (wm18 hw) (wm19 hw) (wm20 hw) (wm21 hw) (by decide) (argsL := [(.ref r0), (.int 0)]) (rest := []) (c_fill l Z a0 hw r0 (0 : Int32) h10 n0 Z10 (own_row (fun _ => w0)) Ar0_5 g_r0 (by rw [own_row_len]; decide)) pd_0 rfl (by rw [hml]; rfl) (W := 0) rfl (by decide) (by decide) (by decide) (by decide) (hb hby d4_95) rfl ?_
      intro T12 v12 L12 X12 q12
      obtain ⟨rfl, M12, K12, A12⟩ := q12
      have N12 := Fr.app N10 M12
      show Run p e below s _ _ _ (T12.setTop (mkF m 98 #[.val (.ref this), .val (.ref cs), .val (.int 0), .val (.int 0), .val (.int 0), .val (.int 0), .val (.ref cs), .val (.int ln), .val (.int iv), .val (.int 0), .unset, .unset, .unset] []))
      have Z12 : n0 ≤ T12.heap.size := Nat.le_trans Z10 K12.1
      replace KP := KP.trans K12 (allS (Or.inl (by simp)) all0)
      replace A12 := own_toR A12
      refine Run.x_iinc (q := 101) X12 hx #[.val (.ref this), .val (.ref cs), .val (.int 0), .val (.int 0), .val (.int 0), .val (.int 0), .val (.ref cs), .val (.int ln), .val (.int (iv + (1 : Int32))), .val (.int 0), .unset, .unset, .unset] (hb hby d4_98) rfl (z := (iv + (1 : Int32))) rfl rfl rfl ?_
      refine Run.x_goto (q := 47) X12 hx (hb hby d4_101) (by decide) (by decide) ?_
      replace Ethis_5 := (Ethis_5.wr W10).keep K12
      replace Fprogressive_5 := (Fprogressive_5.other W10 (Or.inr (slot_ne (Or.inr (wm10 hw)) (Or.inl (wm32 hw)) (by decide) (t := .boolean) (t' := .boolean) (by decide) (by decide)))).keep K12 (ninS ne_this_r0 nin0)
      replace Fcomponents_5 := (Fcomponents_5.other W10 (Or.inr (slot_ne (Or.inr (wm12 hw)) (Or.inl (wm32 hw)) (by decide) (t := .int) (t' := .boolean) (by decide) (by decide)))).keep K12 (ninS ne_this_r0 nin0)
      replace FsentTo_5 := FsentTo_5.keep K12 (ninS ne_this_r0 nin0)
      replace Fcount_5 := (Fcount_5.other W10 (Or.inr (slot_ne (Or.inl (wm40 hw)) (Or.inl (wm32 hw)) (by decide) (t := .int) (t' := .boolean) (by decide) (by decide)))).keep K12 (ninS ne_this_r0 nin0)
      replace FsentAgain_5 := FsentAgain_5.keep K12 (ninS ne_this_r0 nin0)
      replace Agr_5 := Agr_5.keep K12 (ninS ne_gr_r0 nin0)
      replace Acs_5 := (Acs_5.other W10 (Ne.symm ne_this_cs)).keep K12 (ninS (Ne.symm ne_r0_cs) nin0)
      exact ih (i + 1) _ _ (1 : Int32) (0 : Int32) w1 T12 _ _ X12 rfl N12 Z12 KP Ethis_5 Fprogressive_5 Fcomponents_5 FsentTo_5 Fcount_5 FsentAgain_5 Agr_5 A12 Acs_5 (own_ofn hiv (by omega)) (by omega) (Or.inr rfl) (by rw [own_st0p hc75] at hf; exact hf) (Or.inr ⟨_, rfl⟩)
     ·skip
      refine Run.x_ifYes (q := 82) X9 hx (hb hby d4_75) ((if0 _ _).trans (feq hc75).2) (by decide) (by decide) ?_
      refine Run.x_iconst (q := 83) X9 hx (hb hby d4_82) (z := (0 : Int32)) rfl rfl ?_
      refine Run.x_ior (q := 84) X9 hx (hb hby d4_83) (z := (0 : Int32)) (by decide) rfl ?_
      obtain ⟨T13, h13, X13, e13, W13, st13⟩ := putFN X9 hx hZ hown (wm31 hw) Via.refl e9 FsentAgain_5 Ethis_5 (Or.inl (wm32 hw)) (wm1 hw) (ty := .boolean) (v' := (.int 0)) (by decide) rfl (by decide) (g := (mkF m 84 #[.val (.ref this), .val (.ref cs), .val (.int 0), .val (.int 0), .val (.int 0), .val (.int 0), .val (.ref cs), .val (.int ln), .val (.int iv), .val (.int 0), .unset, .unset, .unset] [(.int 0), (.ref this)])) rfl rfl (hb hby d4_84)
      replace FsentAgain_5 := FsentAgain_5.same W13
      have Z13 : n0 ≤ h13.size := Nat.le_trans Z5 (Nat.le_of_eq W13.size.symm)
      replace KP := KP.wr W13 (Or.inl (by simp))
      have N13 := Fr.snoc X13 N5 g_this
      refine Run.st st13 ?_
      show Run p e below s _ _ _ (T13.setTop (mkF m 87 #[.val (.ref this), .val (.ref cs), .val (.int 0), .val (.int 0), .val (.int 0), .val (.int 0), .val (.ref cs), .val (.int ln), .val (.int iv), .val (.int 0), .unset, .unset, .unset] []))
      refine Run.x_aloadN (q := 88) X13 hx (hb hby d4_87) rfl rfl rfl ?_
      replace FsentTo_5 := FsentTo_5.other W13 (Or.inr (slot_ne (Or.inr (wm17 hw)) (Or.inl (wm32 hw)) (by decide) (t := (.array (.array .int))) (t' := .boolean) (by decide) (by decide)))
      refine Run.z_getF (q := 91) X13 hx hZ e13 hown (wm16 hw) FsentTo_5 (hb hby d4_88) rfl fun T14 X14 e14 => ?_
      refine Run.x_iload (q := 93) X14 hx (hb hby d4_91) rfl rfl ?_
      replace Agr_5 := Agr_5.other W13 (Ne.symm ne_this_gr)
      refine Run.y_ldR (q := 94) X14 hx hZ e14 Agr_5 (i := 0) (v := (.ref r0)) (by decide) rfl rfl (hb hby d4_93) rfl ?_
      refine Run.x_iconst (q := 95) X14 hx (hb hby d4_94) (z := (0 : Int32)) rfl rfl ?_
      replace Ar0_5 := Ar0_5.other W13 (Ne.symm ne_this_r0)
      refine Run.callS X14 hx hZ e14 (y := (⟨"java/util/Arrays", "fill", "([II)V"⟩ : MethodName)) hown (wm18 hw) (wm19 hw) (wm20 hw) (wm21 hw) (by decide) (argsL := [(.ref r0), (.int 0)]) (rest := []) (c_fill l Z a0 hw r0 (0 : Int32) h13 n0 Z13 (own_row (fun _ => w0)) Ar0_5 g_r0 (by rw [own_row_len]; decide)) pd_0 rfl (by rw [hml]; rfl) (W := 0) rfl (by decide) (by decide) (by decide) (by decide) (hb hby d4_95) rfl ?_
      intro T15 v15 L15 X15 q15
      obtain ⟨rfl, M15, K15, A15⟩ := q15
      have N15 := Fr.app N13 M15
      show Run p e below s _ _ _ (T15.setTop (mkF m 98 #[.val (.ref this), .val (.ref cs), .val (.int 0), .val (.int 0), .val (.int 0), .val (.int 0), .val (.ref cs), .val (.int ln), .val (.int iv), .val (.int 0), .unset, .unset, .unset] []))
      have Z15 : n0 ≤ T15.heap.size := Nat.le_trans Z13 K15.1
      replace KP := KP.trans K15 (allS (Or.inl (by simp)) all0)
      replace A15 := own_toR A15
      refine Run.x_iinc (q := 101) X15 hx #[.val (.ref this), .val (.ref cs), .val (.int 0), .val (.int 0), .val (.int 0), .val (.int 0), .val (.ref cs), .val (.int ln), .val (.int (iv + (1 : Int32))), .val (.int 0), .unset, .unset, .unset] (hb hby d4_98) rfl (z := (iv + (1 : Int32))) rfl rfl rfl ?_
      refine Run.x_goto (q := 47) X15 hx (hb hby d4_101) (by decide) (by decide) ?_
      replace Ethis_5 := (Ethis_5.wr W13).keep K15
      replace Fprogressive_5 := (Fprogressive_5.other W13 (Or.inr (slot_ne (Or.inr (wm10 hw)) (Or.inl (wm32 hw)) (by decide) (t := .boolean) (t' := .boolean) (by decide) (by decide)))).keep K15 (ninS ne_this_r0 nin0)
      replace Fcomponents_5 := (Fcomponents_5.other W13 (Or.inr (slot_ne (Or.inr (wm12 hw)) (Or.inl (wm32 hw)) (by decide) (t := .int) (t' := .boolean) (by decide) (by decide)))).keep K15 (ninS ne_this_r0 nin0)
      replace FsentTo_5 := FsentTo_5.keep K15 (ninS ne_this_r0 nin0)
      replace Fcount_5 := (Fcount_5.other W13 (Or.inr (slot_ne (Or.inl (wm40 hw)) (Or.inl (wm32 hw)) (by decide) (t := .int) (t' := .boolean) (by decide) (by decide)))).keep K15 (ninS ne_this_r0 nin0)
      replace FsentAgain_5 := FsentAgain_5.keep K15 (ninS ne_this_r0 nin0)
      replace Agr_5 := Agr_5.keep K15 (ninS ne_gr_r0 nin0)
      replace Acs_5 := (Acs_5.other W13 (Ne.symm ne_this_cs)).keep K15 (ninS (Ne.symm ne_r0_cs) nin0)
      exact ih (i + 1) _ _ (0 : Int32) (0 : Int32) w1 T15 _ _ X15 rfl N15 Z15 KP Ethis_5 Fprogressive_5 Fcomponents_5 FsentTo_5 Fcount_5 FsentAgain_5 Agr_5 A15 Acs_5 (own_ofn hiv (by omega)) (by omega) (Or.inl rfl) (by rw [own_st0n hc75] at hf; exact hf) (Or.inr ⟨_, rfl⟩)
    ·skip
     show Run p e below s _ _ _ (T5.setTop (mkF m 47 #[.val (.ref this), .val (.ref cs), .val (.int 0), .val (.int 0), .val (.int 0), .val (.int 0), .val (.ref cs), .val (.int ln), .val (.int iv), z9, .unset, .unset, .unset] []))
     refine Run.x_iload (q := 49) X5 hx (hb hby d4_47) rfl rfl ?_
     refine Run.x_iload (q := 51) X5 hx (hb hby d4_49) rfl rfl ?_
     refine Run.x_icmpNo (q := 54) X5 hx (hb hby d4_51) (tlt (by rw [lt32]; omega)).2.1 rfl ?_
     refine Run.x_aload (q := 56) X5 hx (hb hby d4_54) rfl rfl rfl ?_
     refine Run.x_iload (q := 58) X5 hx (hb hby d4_56) rfl rfl ?_
     refine Run.y_ldI (q := 59) X5 hx hZ e5 Acs_5 (i := i) (v := (.int 0)) hiv hev (hb hby d4_58) rfl ?_
     refine Run.x_istore (q := 61) X5 hx #[.val (.ref this), .val (.ref cs), .val (.int 0), .val (.int 0), .val (.int 0), .val (.int 0), .val (.ref cs), .val (.int ln), .val (.int iv), .val (.int 0), .unset, .unset, .unset] (hb hby d4_59) (by rcases hz9 with rfl | ⟨x, rfl⟩ <;> rfl) rfl ?_
     refine Run.x_aloadN (q := 62) X5 hx (hb hby d4_61) rfl rfl rfl ?_
     refine Run.x_dup (q := 63) X5 hx (hb hby d4_62) rfl rfl ?_
     refine Run.z_getF (q := 66) X5 hx hZ e5 hown (wm31 hw) FsentAgain_5 (hb hby d4_63) rfl fun T16 X16 e16 => ?_
     refine Run.x_aloadN (q := 67) X16 hx (hb hby d4_66) rfl rfl rfl ?_
     refine Run.z_getF (q := 70) X16 hx hZ e16 hown (wm16 hw) FsentTo_5 (hb hby d4_67) rfl fun T17 X17 e17 => ?_
     refine Run.x_iload (q := 72) X17 hx (hb hby d4_70) rfl rfl ?_
     refine Run.y_ldR (q := 73) X17 hx hZ e17 Agr_5 (i := 0) (v := (.ref r0)) (by decide) rfl rfl (hb hby d4_72) rfl ?_
     refine Run.x_iconst (q := 74) X17 hx (hb hby d4_73) (z := (0 : Int32)) rfl rfl ?_
     refine Run.y_ldI (q := 75) X17 hx hZ e17 Ar0_5 (i := 0) (v := (.int w0)) (by decide) (own_row_at (by decide)) (hb hby d4_74) rfl ?_
     by_cases hc75 : w0 = (0 : Int32)
     ·skip
      refine Run.x_ifNo (q := 78) X17 hx (hb hby d4_75) ((if0 _ _).trans (teq hc75).2) rfl ?_
      refine Run.x_iconst (q := 79) X17 hx (hb hby d4_78) (z := (1 : Int32)) rfl rfl ?_
      refine Run.x_goto (q := 83) X17 hx (hb hby d4_79) (by decide) (by decide) ?_
      refine Run.x_ior (q := 84) X17 hx (hb hby d4_83) (z := (1 : Int32)) (by decide) rfl ?_
      obtain ⟨T18, h18, X18, e18, W18, st18⟩ := putFN X17 hx hZ hown (wm31 hw) Via.refl e17 FsentAgain_5 Ethis_5 (Or.inl (wm32 hw)) (wm1 hw) (ty := .boolean) (v' := (.int 1)) (by decide) rfl (by decide) (g := (mkF m 84 #[.val (.ref this), .val (.ref cs), .val (.int 0), .val (.int 0), .val (.int 0), .val (.int 0), .val (.ref cs), .val (.int ln), .val (.int iv), .val (.int 0), .unset, .unset, .unset] [(.int 1), (.ref this)])) rfl rfl (hb hby d4_84)
      replace FsentAgain_5 := FsentAgain_5.same W18
      have Z18 : n0 ≤ h18.size := Nat.le_trans Z5 (Nat.le_of_eq W18.size.symm)
      replace KP := KP.wr W18 (Or.inl (by simp))
      have N18 := Fr.snoc X18 N5 g_this
      refine Run.st st18 ?_
      show Run p e below s _ _ _ (T18.setTop (mkF m 87 #[.val (.ref this), .val (.ref cs), .val (.int 0), .val (.int 0), .val (.int 0), .val (.int 0), .val (.ref cs), .val (.int ln), .val (.int iv), .val (.int 0), .unset, .unset, .unset] []))
      refine Run.x_aloadN (q := 88) X18 hx (hb hby d4_87) rfl rfl rfl ?_
      replace FsentTo_5 := FsentTo_5.other W18 (Or.inr (slot_ne (Or.inr (wm17 hw)) (Or.inl (wm32 hw)) (by decide) (t := (.array (.array .int))) (t' := .boolean) (by decide) (by decide)))
      refine Run.z_getF (q := 91) X18 hx hZ e18 hown (wm16 hw) FsentTo_5 (hb hby d4_88) rfl fun T19 X19 e19 => ?_
      refine Run.x_iload (q := 93) X19 hx (hb hby d4_91) rfl rfl ?_
      replace Agr_5 := Agr_5.other W18 (Ne.symm ne_this_gr)
      refine Run.y_ldR (q := 94) X19 hx hZ e19 Agr_5 (i := 0) (v := (.ref r0)) (by decide) rfl rfl (hb hby d4_93) rfl ?_
      refine Run.x_iconst (q := 95) X19 hx (hb hby d4_94) (z := (0 : Int32)) rfl rfl ?_
      replace Ar0_5 := Ar0_5.other W18 (Ne.symm ne_this_r0)
      refine Run.callS X19 hx hZ e19 (y := (⟨"java/util/Arrays", "fill", "([II)V"⟩ : MethodName)) hown (wm18 hw) (wm19 hw) (wm20 hw) (wm21 hw) (by decide) (argsL := [(.ref r0), (.int 0)]) (rest := []) (c_fill l Z a0 hw r0 (0 : Int32) h18 n0 Z18 (own_row (fun _ => w0)) Ar0_5 g_r0 (by rw [own_row_len]; decide)) pd_0 rfl (by rw [hml]; rfl) (W := 0) rfl (by decide) (by decide) (by decide) (by decide) (hb hby d4_95) rfl ?_
      intro T20 v20 L20 X20 q20
      obtain ⟨rfl, M20, K20, A20⟩ := q20
      have N20 := Fr.app N18 M20
      show Run p e below s _ _ _ (T20.setTop (mkF m 98 #[.val (.ref this), .val (.ref cs), .val (.int 0), .val (.int 0), .val (.int 0), .val (.int 0), .val (.ref cs), .val (.int ln), .val (.int iv), .val (.int 0), .unset, .unset, .unset] []))
      have Z20 : n0 ≤ T20.heap.size := Nat.le_trans Z18 K20.1
      replace KP := KP.trans K20 (allS (Or.inl (by simp)) all0)
      replace A20 := own_toR A20
      refine Run.x_iinc (q := 101) X20 hx #[.val (.ref this), .val (.ref cs), .val (.int 0), .val (.int 0), .val (.int 0), .val (.int 0), .val (.ref cs), .val (.int ln), .val (.int (iv + (1 : Int32))), .val (.int 0), .unset, .unset, .unset] (hb hby d4_98) rfl (z := (iv + (1 : Int32))) rfl rfl rfl ?_
      refine Run.x_goto (q := 47) X20 hx (hb hby d4_101) (by decide) (by decide) ?_
      replace Ethis_5 := (Ethis_5.wr W18).keep K20
      replace Fprogressive_5 := (Fprogressive_5.other W18 (Or.inr (slot_ne (Or.inr (wm10 hw)) (Or.inl (wm32 hw)) (by decide) (t := .boolean) (t' := .boolean) (by decide) (by decide)))).keep K20 (ninS ne_this_r0 nin0)
      replace Fcomponents_5 := (Fcomponents_5.other W18 (Or.inr (slot_ne (Or.inr (wm12 hw)) (Or.inl (wm32 hw)) (by decide) (t := .int) (t' := .boolean) (by decide) (by decide)))).keep K20 (ninS ne_this_r0 nin0)
      replace FsentTo_5 := FsentTo_5.keep K20 (ninS ne_this_r0 nin0)
      replace Fcount_5 := (Fcount_5.other W18 (Or.inr (slot_ne (Or.inl (wm40 hw)) (Or.inl (wm32 hw)) (by decide) (t := .int) (t' := .boolean) (by decide) (by decide)))).keep K20 (ninS ne_this_r0 nin0)
      replace FsentAgain_5 := FsentAgain_5.keep K20 (ninS ne_this_r0 nin0)
      replace Agr_5 := Agr_5.keep K20 (ninS ne_gr_r0 nin0)
      replace Acs_5 := (Acs_5.other W18 (Ne.symm ne_this_cs)).keep K20 (ninS (Ne.symm ne_r0_cs) nin0)
      exact ih (i + 1) _ _ (1 : Int32) (0 : Int32) w1 T20 _ _ X20 rfl N20 Z20 KP Ethis_5 Fprogressive_5 Fcomponents_5 FsentTo_5 Fcount_5 FsentAgain_5 Agr_5 A20 Acs_5 (own_ofn hiv (by omega)) (by omega) (Or.inr rfl) (by rw [own_st0p hc75] at hf; exact hf) (Or.inr ⟨_, rfl⟩)
     ·skip
      refine Run.x_ifYes (q := 82) X17 hx (hb hby d4_75) ((if0 _ _).trans (feq hc75).2) (by decide) (by decide) ?_
      refine Run.x_iconst (q := 83) X17 hx (hb hby d4_82) (z := (0 : Int32)) rfl rfl ?_
      refine Run.x_ior (q := 84) X17 hx (hb hby d4_83) (z := (1 : Int32)) (by decide) rfl ?_
      obtain ⟨T21, h21, X21, e21, W21, st21⟩ := putFN X17 hx hZ hown (wm31 hw) Via.refl e17 FsentAgain_5 Ethis_5 (Or.inl (wm32 hw)) (wm1 hw) (ty := .boolean) (v' := (.int 1)) (by decide) rfl (by decide) (g := (mkF m 84 #[.val (.ref this), .val (.ref cs), .val (.int 0), .val (.int 0), .val (.int 0), .val (.int 0), .val (.ref cs), .val (.int ln), .val (.int iv), .val (.int 0), .unset, .unset, .unset] [(.int 1), (.ref this)])) rfl rfl (hb hby d4_84)
      replace FsentAgain_5 := FsentAgain_5.same W21
      have Z21 : n0 ≤ h21.size := Nat.le_trans Z5 (Nat.le_of_eq W21.size.symm)
      replace KP := KP.wr W21 (Or.inl (by simp))
      have N21 := Fr.snoc X21 N5 g_this
      refine Run.st st21 ?_
      show Run p e below s _ _ _ (T21.setTop (mkF m 87 #[.val (.ref this), .val (.ref cs), .val (.int 0), .val (.int 0), .val (.int 0), .val (.int 0), .val (.ref cs), .val (.int ln), .val (.int iv), .val (.int 0), .unset, .unset, .unset] []))
      refine Run.x_aloadN (q := 88) X21 hx (hb hby d4_87) rfl rfl rfl ?_
      replace FsentTo_5 := FsentTo_5.other W21 (Or.inr (slot_ne (Or.inr (wm17 hw)) (Or.inl (wm32 hw)) (by decide) (t := (.array (.array .int))) (t' := .boolean) (by decide) (by decide)))
      refine Run.z_getF (q := 91) X21 hx hZ e21 hown (wm16 hw) FsentTo_5 (hb hby d4_88) rfl fun T22 X22 e22 => ?_
      refine Run.x_iload (q := 93) X22 hx (hb hby d4_91) rfl rfl ?_
      replace Agr_5 := Agr_5.other W21 (Ne.symm ne_this_gr)
      refine Run.y_ldR (q := 94) X22 hx hZ e22 Agr_5 (i := 0) (v := (.ref r0)) (by decide) rfl rfl (hb hby d4_93) rfl ?_
      refine Run.x_iconst (q := 95) X22 hx (hb hby d4_94) (z := (0 : Int32)) rfl rfl ?_
      replace Ar0_5 := Ar0_5.other W21 (Ne.symm ne_this_r0)
      refine Run.callS X22 hx hZ e22 (y := (⟨"java/util/Arrays", "fill", "([II)V"⟩ : MethodName)) hown (wm18 hw) (wm19 hw) (wm20 hw) (wm21 hw) (by decide) (argsL := [(.ref r0), (.int 0)]) (rest := []) (c_fill l Z a0 hw r0 (0 : Int32) h21 n0 Z21 (own_row (fun _ => w0)) Ar0_5 g_r0 (by rw [own_row_len]; decide)) pd_0 rfl (by rw [hml]; rfl) (W := 0) rfl (by decide) (by decide) (by decide) (by decide) (hb hby d4_95) rfl ?_
      intro T23 v23 L23 X23 q23
      obtain ⟨rfl, M23, K23, A23⟩ := q23
      have N23 := Fr.app N21 M23
      show Run p e below s _ _ _ (T23.setTop (mkF m 98 #[.val (.ref this), .val (.ref cs), .val (.int 0), .val (.int 0), .val (.int 0), .val (.int 0), .val (.ref cs), .val (.int ln), .val (.int iv), .val (.int 0), .unset, .unset, .unset] []))
      have Z23 : n0 ≤ T23.heap.size := Nat.le_trans Z21 K23.1
      replace KP := KP.trans K23 (allS (Or.inl (by simp)) all0)
      replace A23 := own_toR A23
      refine Run.x_iinc (q := 101) X23 hx #[.val (.ref this), .val (.ref cs), .val (.int 0), .val (.int 0), .val (.int 0), .val (.int 0), .val (.ref cs), .val (.int ln), .val (.int (iv + (1 : Int32))), .val (.int 0), .unset, .unset, .unset] (hb hby d4_98) rfl (z := (iv + (1 : Int32))) rfl rfl rfl ?_
      refine Run.x_goto (q := 47) X23 hx (hb hby d4_101) (by decide) (by decide) ?_
      replace Ethis_5 := (Ethis_5.wr W21).keep K23
      replace Fprogressive_5 := (Fprogressive_5.other W21 (Or.inr (slot_ne (Or.inr (wm10 hw)) (Or.inl (wm32 hw)) (by decide) (t := .boolean) (t' := .boolean) (by decide) (by decide)))).keep K23 (ninS ne_this_r0 nin0)
      replace Fcomponents_5 := (Fcomponents_5.other W21 (Or.inr (slot_ne (Or.inr (wm12 hw)) (Or.inl (wm32 hw)) (by decide) (t := .int) (t' := .boolean) (by decide) (by decide)))).keep K23 (ninS ne_this_r0 nin0)
      replace FsentTo_5 := FsentTo_5.keep K23 (ninS ne_this_r0 nin0)
      replace Fcount_5 := (Fcount_5.other W21 (Or.inr (slot_ne (Or.inl (wm40 hw)) (Or.inl (wm32 hw)) (by decide) (t := .int) (t' := .boolean) (by decide) (by decide)))).keep K23 (ninS ne_this_r0 nin0)
      replace FsentAgain_5 := FsentAgain_5.keep K23 (ninS ne_this_r0 nin0)
      replace Agr_5 := Agr_5.keep K23 (ninS ne_gr_r0 nin0)
      replace Acs_5 := (Acs_5.other W21 (Ne.symm ne_this_cs)).keep K23 (ninS (Ne.symm ne_r0_cs) nin0)
      exact ih (i + 1) _ _ (1 : Int32) (0 : Int32) w1 T23 _ _ X23 rfl N23 Z23 KP Ethis_5 Fprogressive_5 Fcomponents_5 FsentTo_5 Fcount_5 FsentAgain_5 Agr_5 A23 Acs_5 (own_ofn hiv (by omega)) (by omega) (Or.inr rfl) (by rw [own_st0n hc75] at hf; exact hf) (Or.inr ⟨_, rfl⟩)
 replace E_this := E_this.wr W2
 replace F_this_components := F_this_components.other W2 (Or.inr (slot_ne (Or.inr (wm12 hw)) (Or.inl (wm40 hw)) (by decide) (t := .int) (t' := .int) (by decide) (by decide)))
 replace F_this_sentTo := F_this_sentTo.other W2 (Or.inr (slot_ne (Or.inr (wm17 hw)) (Or.inl (wm40 hw)) (by decide) (t := (.array (.array .int))) (t' := .int) (by decide) (by decide)))
 replace F_this_sentAgain := F_this_sentAgain.other W2 (Or.inr (slot_ne (Or.inl (wm32 hw)) (Or.inl (wm40 hw)) (by decide) (t := .boolean) (t' := .int) (by decide) (by decide)))
 replace A_gr := A_gr.other W2 (Ne.symm ne_this_gr)
 replace A_r0 := A_r0.other W2 (Ne.symm ne_this_r0)
 exact loop es.length 0 _ _ sa w0 w1 T4 h2 _ X4 e4 N2 Z2 KP E_this F_this_progressive F_this_components F_this_sentTo F_this_count F_this_sentAgain A_gr A_r0 A_cs (by decide) (by omega) hsa (by rw [List.drop_zero]; exact hF) (Or.inl rfl)
theorem ef_c_ts_2 (m : MethodId) (this : Addr) (cs : Addr) : entryFrame m #[(.ref this), (.ref cs), (.int 0), (.int 0), (.int 0), (.int 0)] 13 = mkF m 0 #[.val (.ref this), .val (.ref cs), .val (.int 0), .val (.int 0), .val (.int 0), .val (.int 0), .unset, .unset, .unset, .unset, .unset, .unset, .unset] [] := by first | (simp [entryFrame, mkF, argsToLocals, Value.category]; done) | rfl
set_option maxRecDepth 65536 in
set_option maxHeartbeats 40000000 in
theorem c_ts_2 (l : Launch) (Z : State) (a0 : Array Value) (hw : ∀ d ∈ tables_1, d.before a0 Z = true) (this : Addr) (cs : Addr) (h0 : Heap) (n0 : Nat) (Z0 : n0 ≤ h0.size) (gr : Addr) (r0 : Addr) (r1 : Addr) (cnt : Int32) (sa : Int32) (w0 : Int32) (w1 : Int32) (sF : Int32) (F0 : Int32) (F1 : Int32) (es : List Int32) (E_this : Exa Z h0 this "semblance/JpegScans") (F_this_progressive : Fld Z h0 this "semblance/JpegScans" "progressive" "Z" (.int 0)) (F_this_components : Fld Z h0 this "semblance/JpegScans" "components" "I" (.int 2)) (F_this_sentTo : Fld Z h0 this "semblance/JpegScans" "sentTo" "[[I" (.ref gr)) (F_this_count : Fld Z h0 this "semblance/JpegScans" "count" "I" (.int cnt)) (F_this_sentAgain : Fld Z h0 this "semblance/JpegScans" "sentAgain" "Z" (.int sa)) (A_gr : Ars Z h0 gr (.array .int) [(.ref r0), (.ref r1)]) (A_r0 : Ars Z h0 r0 .int (own_row (fun _ => w0))) (A_r1 : Ars Z h0 r1 .int (own_row (fun _ => w1))) (A_cs : Ars Z h0 cs .int (es.map Value.int)) (g_this : n0 ≤ this) (g_r0 : n0 ≤ r0) (g_r1 : n0 ≤ r1) (ne_this_gr : this ≠ gr) (ne_this_r0 : this ≠ r0) (ne_this_r1 : this ≠ r1) (ne_this_cs : this ≠ cs) (ne_gr_r0 : gr ≠ r0) (ne_gr_r1 : gr ≠ r1) (ne_gr_cs : gr ≠ cs) (ne_r0_r1 : r0 ≠ r1) (ne_r0_cs : r0 ≠ cs) (ne_r1_cs : r1 ≠ cs) (hcnt : 0 ≤ cnt.toInt ∧ cnt.toInt ≤ 20) (hsa : sa = 0 ∨ sa = 1) (hes : ∀ e ∈ es, e = 0 ∨ e = 1) (hlen : es.length ≤ 100) (hF : es.foldl own_stp (sa, w0, w1) = (sF, F0, F1)) :
  Ctr l Z (⟨"semblance/JpegScans", "take", "([IIIII)Z"⟩ : MethodName) prog_41_method_2_code 13 (some .boolean) ({ frames := 1, cells := 0, slots := 0, locals := 15 } : Room) #[(.ref this), (.ref cs), (.int 0), (.int 0), (.int 0), (.int 0)] h0 (fun v h L => ∃ b : Int32, v = some (.int b) ∧ Fr n0 L ∧ Keep h0 h [this, r0, r1] ∧ Exa Z h this "semblance/JpegScans" ∧ Fld Z h this "semblance/JpegScans" "progressive" "Z" (.int 0) ∧ Fld Z h this "semblance/JpegScans" "components" "I" (.int 2) ∧ Fld Z h this "semblance/JpegScans" "sentTo" "[[I" (.ref gr) ∧ Fld Z h this "semblance/JpegScans" "count" "I" (.int (cnt + (1 : Int32))) ∧ Fld Z h this "semblance/JpegScans" "sentAgain" "Z" (.int sF) ∧ Ars Z h r0 .int (own_row (fun _ => F0)) ∧ Ars Z h r1 .int (own_row (fun _ => F1))) := by
 refine Ctr.of (plainFor_of_name pn_1) (fun m => ef_c_ts_2 m this cs) ?_
 intro p e s m below meth c T0 hx hby hml hown hnm hret hlk hZ e0 X0
 have N0 := Fr.nil n0
 replace hown : s.vm.findClass "semblance/JpegScans" = some m.cls := hown
 replace hml : c.maxLocals = 13 := hml
 have KP := Keep.refl h0 [this, r0, r1]
 obtain ⟨ln, hln⟩ : ∃ y, (es.map Value.int).length.toInt32 = y := ⟨_, rfl⟩
 have hlz := own_ln hln hlen
 refine Run.x_aloadN (q := 1) X0 hx (hb hby d4_0) rfl rfl rfl ?_
 refine Run.x_dup (q := 2) X0 hx (hb hby d4_1) rfl rfl ?_
 refine Run.z_getF (q := 5) X0 hx hZ e0 hown (wm39 hw) F_this_count (hb hby d4_2) rfl fun T1 X1 e1 => ?_
 refine Run.x_iconst (q := 6) X1 hx (hb hby d4_5) (z := (1 : Int32)) rfl rfl ?_
 refine Run.x_iadd (q := 7) X1 hx (hb hby d4_6) rfl rfl ?_
 obtain ⟨T2, h2, X2, e2, W2, st2⟩ := putF X1 hx hZ hown (host := "") (Or.inl (wm39 hw)) Via.refl e1 F_this_count E_this (Or.inl (wm40 hw)) (wm1 hw) (ty := .int) (by decide) rfl rfl (g := (mkF m 7 #[.val (.ref this), .val (.ref cs), .val (.int 0), .val (.int 0), .val (.int 0), .val (.int 0), .unset, .unset, .unset, .unset, .unset, .unset, .unset] [(.int (cnt + (1 : Int32))), (.ref this)])) rfl rfl (hb hby d4_7)
 replace F_this_count := F_this_count.same W2
 have Z2 : n0 ≤ h2.size := Nat.le_trans Z0 (Nat.le_of_eq W2.size.symm)
 replace KP := KP.wr W2 (Or.inl (by simp))
 have N2 := Fr.snoc X2 N0 g_this
 refine Run.st st2 ?_
 show Run p e below s _ _ _ (T2.setTop (mkF m 10 #[.val (.ref this), .val (.ref cs), .val (.int 0), .val (.int 0), .val (.int 0), .val (.int 0), .unset, .unset, .unset, .unset, .unset, .unset, .unset] []))
 refine Run.x_aloadN (q := 11) X2 hx (hb hby d4_10) rfl rfl rfl ?_
 refine Run.z_getF (q := 14) X2 hx hZ e2 hown (wm39 hw) F_this_count (hb hby d4_11) rfl fun T3 X3 e3 => ?_
 refine Run.x_bipush (q := 16) X3 hx (hb hby d4_14) (z := (32 : Int32)) rfl rfl ?_
 refine Run.x_icmpYes (q := 29) X3 hx (hb hby d4_16) (flt (own_c32 hcnt)).2.2.2 (by decide) (by decide) ?_
 refine Run.x_aloadN (q := 30) X3 hx (hb hby d4_29) rfl rfl rfl ?_
 replace F_this_progressive := F_this_progressive.other W2 (Or.inr (slot_ne (Or.inr (wm10 hw)) (Or.inl (wm40 hw)) (by decide) (t := .boolean) (t' := .int) (by decide) (by decide)))
 refine Run.z_getF (q := 33) X3 hx hZ e3 hown (wm9 hw) F_this_progressive (hb hby d4_30) rfl fun T4 X4 e4 => ?_
 refine Run.x_ifNo (q := 36) X4 hx (hb hby d4_33) ((if0 _ _).trans (teq (by decide : (0 : Int32) = (0 : Int32))).2) rfl ?_
 refine Run.x_aloadN (q := 37) X4 hx (hb hby d4_36) rfl rfl rfl ?_
 refine Run.x_astore (q := 39) X4 hx #[.val (.ref this), .val (.ref cs), .val (.int 0), .val (.int 0), .val (.int 0), .val (.int 0), .val (.ref cs), .unset, .unset, .unset, .unset, .unset, .unset] (hb hby d4_37) rfl rfl rfl ?_
 refine Run.x_aload (q := 41) X4 hx (hb hby d4_39) rfl rfl rfl ?_
 replace A_cs := A_cs.other W2 (Ne.symm ne_this_cs)
 refine Run.y_alen (q := 42) X4 hx hZ e4 A_cs (z := ln) hln (hb hby d4_41) rfl ?_
 refine Run.x_istore (q := 44) X4 hx #[.val (.ref this), .val (.ref cs), .val (.int 0), .val (.int 0), .val (.int 0), .val (.int 0), .val (.ref cs), .val (.int ln), .unset, .unset, .unset, .unset, .unset] (hb hby d4_42) rfl rfl ?_
 refine Run.x_iconst (q := 45) X4 hx (hb hby d4_44) (z := (0 : Int32)) rfl rfl ?_
 refine Run.x_istore (q := 47) X4 hx #[.val (.ref this), .val (.ref cs), .val (.int 0), .val (.int 0), .val (.int 0), .val (.int 0), .val (.ref cs), .val (.int ln), .val (.int 0), .unset, .unset, .unset, .unset] (hb hby d4_45) rfl rfl ?_
 have loop : ∀ (k : Nat) (i : Nat) (iv : Int32) (z9 : Slot) (sa : Int32) (w0 : Int32) (w1 : Int32) (T5 : State) (h5 : Heap) (lo5 : List Loc), Stand p l e ({ frames := 1, cells := 0, slots := 0, locals := 15 } : Room) s m #[(.ref this), (.ref cs), (.int 0), (.int 0), (.int 0), (.int 0)] below meth c T5 lo5 0 0 → T5.heap = h5 → Fr n0 lo5 → n0 ≤ h5.size → Keep h0 h5 [this, r0, r1] → Exa Z h5 this "semblance/JpegScans" → Fld Z h5 this "semblance/JpegScans" "progressive" "Z" (.int 0) → Fld Z h5 this "semblance/JpegScans" "components" "I" (.int 2) → Fld Z h5 this "semblance/JpegScans" "sentTo" "[[I" (.ref gr) → Fld Z h5 this "semblance/JpegScans" "count" "I" (.int (cnt + (1 : Int32))) → Fld Z h5 this "semblance/JpegScans" "sentAgain" "Z" (.int sa) → Ars Z h5 gr (.array .int) [(.ref r0), (.ref r1)] → Ars Z h5 r0 .int (own_row (fun _ => w0)) → Ars Z h5 r1 .int (own_row (fun _ => w1)) → Ars Z h5 cs .int (es.map Value.int) → (iv.toInt = i) → (i + k = es.length) → (sa = 0 ∨ sa = 1) → ((es.drop i).foldl own_stp (sa, w0, w1) = (sF, F0, F1)) → (z9 = .unset ∨ ∃ x : Int32, z9 = .val (.int x)) → Run p e below s (fun v h L => ∃ b : Int32, v = some (.int b) ∧ Fr n0 L ∧ Keep h0 h [this, r0, r1] ∧ Exa Z h this "semblance/JpegScans" ∧ Fld Z h this "semblance/JpegScans" "progressive" "Z" (.int 0) ∧ Fld Z h this "semblance/JpegScans" "components" "I" (.int 2) ∧ Fld Z h this "semblance/JpegScans" "sentTo" "[[I" (.ref gr) ∧ Fld Z h this "semblance/JpegScans" "count" "I" (.int (cnt + (1 : Int32))) ∧ Fld Z h this "semblance/JpegScans" "sentAgain" "Z" (.int sF) ∧ Ars Z h r0 .int (own_row (fun _ => F0)) ∧ Ars Z h r1 .int (own_row (fun _ => F1))) ({ frames := 1, cells := 0, slots := 0, locals := 15 } : Room).cells ({ frames := 1, cells := 0, slots := 0, locals := 15 } : Room).slots (T5.setTop (mkF m 47 #[.val (.ref this), .val (.ref cs), .val (.int 0), .val (.int 0), .val (.int 0), .val (.int 0), .val (.ref cs), .val (.int ln), .val (.int iv), z9, .unset, .unset, .unset] [])) := by
  intro k
  induction k with
  | zero =>
   intro i iv z9 sa w0 w1 T5 h5 lo5 X5 e5 N5 Z5 KP Ethis_5 Fprogressive_5 Fcomponents_5 FsentTo_5 Fcount_5 FsentAgain_5 Agr_5 Ar0_5 Ar1_5 Acs_5 hiv hik hsa hf hz9
   have e9 : i = es.length := by omega
   subst e9
   rw [List.drop_length] at hf
   obtain ⟨rfl, rfl, rfl⟩ : sa = sF ∧ w0 = F0 ∧ w1 = F1 := by simpa using hf
   refine Run.x_iload (q := 49) X5 hx (hb hby d4_47) rfl rfl ?_
   refine Run.x_iload (q := 51) X5 hx (hb hby d4_49) rfl rfl ?_
   refine Run.x_icmpYes (q := 104) X5 hx (hb hby d4_51) (flt (by rw [lt32]; omega)).2.1 (by decide) (by decide) ?_
   refine Run.x_aloadN (q := 105) X5 hx (hb hby d4_104) rfl rfl rfl ?_
   refine Run.z_getF (q := 108) X5 hx hZ e5 hown (wm39 hw) Fcount_5 (hb hby d4_105) rfl fun T6 X6 e6 => ?_
   refine Run.x_iconst (q := 109) X6 hx (hb hby d4_108) (z := (1 : Int32)) rfl rfl ?_
   by_cases hc109 : (1 : Int32) < (cnt + (1 : Int32))
   ·skip
    refine Run.x_icmpYes (q := 121) X6 hx (hb hby d4_109) (tlt hc109).2.2.1 (by decide) (by decide) ?_
    refine Run.x_iconst (q := 122) X6 hx (hb hby d4_121) (z := (1 : Int32)) rfl rfl ?_
    refine Run.x_goto (q := 126) X6 hx (hb hby d4_122) (by decide) (by decide) ?_
    refine Run.retN X6 hx hlk e6 (t := .boolean) hret (by simp) (z' := (1 : Int32)) (by decide) (hb hby d4_126) (by decide) (by decide) ?_
    exact ⟨_, rfl, N5, KP, Ethis_5, Fprogressive_5, Fcomponents_5, FsentTo_5, Fcount_5, FsentAgain_5, Ar0_5, Ar1_5⟩
   ·skip
    refine Run.x_icmpNo (q := 112) X6 hx (hb hby d4_109) (flt hc109).2.2.1 rfl ?_
    refine Run.x_aloadN (q := 113) X6 hx (hb hby d4_112) rfl rfl rfl ?_
    refine Run.y_alen (q := 114) X6 hx hZ e6 Acs_5 (z := ln) hln (hb hby d4_113) rfl ?_
    refine Run.x_aloadN (q := 115) X6 hx (hb hby d4_114) rfl rfl rfl ?_
    refine Run.z_getF (q := 118) X6 hx hZ e6 hown (wm11 hw) Fcomponents_5 (hb hby d4_115) rfl fun T7 X7 e7 => ?_
    by_cases hc118 : ln < (2 : Int32)
    ·skip
     refine Run.x_icmpNo (q := 121) X7 hx (hb hby d4_118) (tlt hc118).2.1 rfl ?_
     refine Run.x_iconst (q := 122) X7 hx (hb hby d4_121) (z := (1 : Int32)) rfl rfl ?_
     refine Run.x_goto (q := 126) X7 hx (hb hby d4_122) (by decide) (by decide) ?_
     refine Run.retN X7 hx hlk e7 (t := .boolean) hret (by simp) (z' := (1 : Int32)) (by decide) (hb hby d4_126) (by decide) (by decide) ?_
     exact ⟨_, rfl, N5, KP, Ethis_5, Fprogressive_5, Fcomponents_5, FsentTo_5, Fcount_5, FsentAgain_5, Ar0_5, Ar1_5⟩
    ·skip
     refine Run.x_icmpYes (q := 125) X7 hx (hb hby d4_118) (flt hc118).2.1 (by decide) (by decide) ?_
     refine Run.x_iconst (q := 126) X7 hx (hb hby d4_125) (z := (0 : Int32)) rfl rfl ?_
     refine Run.retN X7 hx hlk e7 (t := .boolean) hret (by simp) (z' := (0 : Int32)) (by decide) (hb hby d4_126) (by decide) (by decide) ?_
     exact ⟨_, rfl, N5, KP, Ethis_5, Fprogressive_5, Fcomponents_5, FsentTo_5, Fcount_5, FsentAgain_5, Ar0_5, Ar1_5⟩
  | succ k ih =>
   intro i iv z9 sa w0 w1 T5 h5 lo5 X5 e5 N5 Z5 KP Ethis_5 Fprogressive_5 Fcomponents_5 FsentTo_5 Fcount_5 FsentAgain_5 Agr_5 Ar0_5 Ar1_5 Acs_5 hiv hik hsa hf hz9
   obtain ⟨ev, hev, hdr, hem⟩ := own_dr (show i < es.length by omega)
   rw [hdr, List.foldl_cons] at hf
   rcases hes ev hem with rfl | rfl
   ·skip
    show Run p e below s _ _ _ (T5.setTop (mkF m 47 #[.val (.ref this), .val (.ref cs), .val (.int 0), .val (.int 0), .val (.int 0), .val (.int 0), .val (.ref cs), .val (.int ln), .val (.int iv), z9, .unset, .unset, .unset] []))
    have hsa' := hsa
    rcases hsa with rfl | rfl
    ·skip
     show Run p e below s _ _ _ (T5.setTop (mkF m 47 #[.val (.ref this), .val (.ref cs), .val (.int 0), .val (.int 0), .val (.int 0), .val (.int 0), .val (.ref cs), .val (.int ln), .val (.int iv), z9, .unset, .unset, .unset] []))
     refine Run.x_iload (q := 49) X5 hx (hb hby d4_47) rfl rfl ?_
     refine Run.x_iload (q := 51) X5 hx (hb hby d4_49) rfl rfl ?_
     refine Run.x_icmpNo (q := 54) X5 hx (hb hby d4_51) (tlt (by rw [lt32]; omega)).2.1 rfl ?_
     refine Run.x_aload (q := 56) X5 hx (hb hby d4_54) rfl rfl rfl ?_
     refine Run.x_iload (q := 58) X5 hx (hb hby d4_56) rfl rfl ?_
     refine Run.y_ldI (q := 59) X5 hx hZ e5 Acs_5 (i := i) (v := (.int 0)) hiv hev (hb hby d4_58) rfl ?_
     refine Run.x_istore (q := 61) X5 hx #[.val (.ref this), .val (.ref cs), .val (.int 0), .val (.int 0), .val (.int 0), .val (.int 0), .val (.ref cs), .val (.int ln), .val (.int iv), .val (.int 0), .unset, .unset, .unset] (hb hby d4_59) (by rcases hz9 with rfl | ⟨x, rfl⟩ <;> rfl) rfl ?_
     refine Run.x_aloadN (q := 62) X5 hx (hb hby d4_61) rfl rfl rfl ?_
     refine Run.x_dup (q := 63) X5 hx (hb hby d4_62) rfl rfl ?_
     refine Run.z_getF (q := 66) X5 hx hZ e5 hown (wm31 hw) FsentAgain_5 (hb hby d4_63) rfl fun T8 X8 e8 => ?_
     refine Run.x_aloadN (q := 67) X8 hx (hb hby d4_66) rfl rfl rfl ?_
     refine Run.z_getF (q := 70) X8 hx hZ e8 hown (wm16 hw) FsentTo_5 (hb hby d4_67) rfl fun T9 X9 e9 => ?_
     refine Run.x_iload (q := 72) X9 hx (hb hby d4_70) rfl rfl ?_
     refine Run.y_ldR (q := 73) X9 hx hZ e9 Agr_5 (i := 0) (v := (.ref r0)) (by decide) rfl rfl (hb hby d4_72) rfl ?_
     refine Run.x_iconst (q := 74) X9 hx (hb hby d4_73) (z := (0 : Int32)) rfl rfl ?_
     refine Run.y_ldI (q := 75) X9 hx hZ e9 Ar0_5 (i := 0) (v := (.int w0)) (by decide) (own_row_at (by decide)) (hb hby d4_74) rfl ?_
     by_cases hc75 : w0 = (0 : Int32)
     ·skip
      refine Run.x_ifNo (q := 78) X9 hx (hb hby d4_75) ((if0 _ _).trans (teq hc75).2) rfl ?_
      refine Run.x_iconst (q := 79) X9 hx (hb hby d4_78) (z := (1 : Int32)) rfl rfl ?_
      refine Run.x_goto (q := 83) X9 hx (hb hby d4_79) (by decide) (by decide) ?_
      refine Run.x_ior (q := 84) X9 hx (hb hby d4_83) (z := (1 : Int32)) (by decide) rfl ?_
      obtain ⟨T10, h10, X10, e10, W10, st10⟩ := putFN X9 hx hZ hown (wm31 hw) Via.refl e9 FsentAgain_5 Ethis_5 (Or.inl (wm32 hw)) (wm1 hw) (ty := .boolean) (v' := (.int 1)) (by decide) rfl (by decide) (g := (mkF m 84 #[.val (.ref this), .val (.ref cs), .val (.int 0), .val (.int 0), .val (.int 0), .val (.int 0), .val (.ref cs), .val (.int ln), .val (.int iv), .val (.int 0), .unset, .unset, .unset] [(.int 1), (.ref this)])) rfl rfl (hb hby d4_84)
      replace FsentAgain_5 := FsentAgain_5.same W10
      have Z10 : n0 ≤ h10.size := Nat.le_trans Z5 (Nat.le_of_eq W10.size.symm)
      replace KP := KP.wr W10 (Or.inl (by simp))
      have N10 := Fr.snoc X10 N5 g_this
      refine Run.st st10 ?_
      show Run p e below s _ _ _ (T10.setTop (mkF m 87 #[.val (.ref this), .val (.ref cs), .val (.int 0), .val (.int 0), .val (.int 0), .val (.int 0), .val (.ref cs), .val (.int ln), .val (.int iv), .val (.int 0), .unset, .unset, .unset] []))
      refine Run.x_aloadN (q := 88) X10 hx (hb hby d4_87) rfl rfl rfl ?_
      replace FsentTo_5 := FsentTo_5.other W10 (Or.inr (slot_ne (Or.inr (wm17 hw)) (Or.inl (wm32 hw)) (by decide) (t := (.array (.array .int))) (t' := .boolean) (by decide) (by decide)))
      refine Run.z_getF (q := 91) X10 hx hZ e10 hown (wm16 hw) FsentTo_5 (hb hby d4_88) rfl fun T11 X11 e11 => ?_
      refine Run.x_iload (q := 93) X11 hx (hb hby d4_91) rfl rfl ?_
      replace Agr_5 := Agr_5.other W10 (Ne.symm ne_this_gr)
      refine Run.y_ldR (q := 94) X11 hx hZ e11 Agr_5 (i := 0) (v := (.ref r0)) (by decide) rfl rfl (hb hby d4_93) rfl ?_
      refine Run.x_iconst (q := 95) X11 hx (hb hby d4_94) (z := (0 : Int32)) rfl rfl ?_
      replace Ar0_5 := Ar0_5.other W10 (Ne.symm ne_this_r0)
      refine Run.callS X11 hx hZ e11 (y := (⟨"java/util/Arrays", "fill", "([II)V"⟩ : MethodName)) hown (wm18 hw) (wm19 hw) (wm20 hw) (wm21 hw) (by decide) (argsL := [(.ref r0), (.int 0)]) (rest := []) (c_fill l Z a0 hw r0 (0 : Int32) h10 n0 Z10 (own_row (fun _ => w0)) Ar0_5 g_r0 (by rw [own_row_len]; decide)) pd_0 rfl (by rw [hml]; rfl) (W := 0) rfl (by decide) (by decide) (by decide) (by decide) (hb hby d4_95) rfl ?_
      intro T12 v12 L12 X12 q12
      obtain ⟨rfl, M12, K12, A12⟩ := q12
      have N12 := Fr.app N10 M12
      show Run p e below s _ _ _ (T12.setTop (mkF m 98 #[.val (.ref this), .val (.ref cs), .val (.int 0), .val (.int 0), .val (.int 0), .val (.int 0), .val (.ref cs), .val (.int ln), .val (.int iv), .val (.int 0), .unset, .unset, .unset] []))
      have Z12 : n0 ≤ T12.heap.size := Nat.le_trans Z10 K12.1
      replace KP := KP.trans K12 (allS (Or.inl (by simp)) all0)
      replace A12 := own_toR A12
      refine Run.x_iinc (q := 101) X12 hx #[.val (.ref this), .val (.ref cs), .val (.int 0), .val (.int 0), .val (.int 0), .val (.int 0), .val (.ref cs), .val (.int ln), .val (.int (iv + (1 : Int32))), .val (.int 0), .unset, .unset, .unset] (hb hby d4_98) rfl (z := (iv + (1 : Int32))) rfl rfl rfl ?_
      refine Run.x_goto (q := 47) X12 hx (hb hby d4_101) (by decide) (by decide) ?_
      replace Ethis_5 := (Ethis_5.wr W10).keep K12
      replace Fprogressive_5 := (Fprogressive_5.other W10 (Or.inr (slot_ne (Or.inr (wm10 hw)) (Or.inl (wm32 hw)) (by decide) (t := .boolean) (t' := .boolean) (by decide) (by decide)))).keep K12 (ninS ne_this_r0 nin0)
      replace Fcomponents_5 := (Fcomponents_5.other W10 (Or.inr (slot_ne (Or.inr (wm12 hw)) (Or.inl (wm32 hw)) (by decide) (t := .int) (t' := .boolean) (by decide) (by decide)))).keep K12 (ninS ne_this_r0 nin0)
      replace FsentTo_5 := FsentTo_5.keep K12 (ninS ne_this_r0 nin0)
      replace Fcount_5 := (Fcount_5.other W10 (Or.inr (slot_ne (Or.inl (wm40 hw)) (Or.inl (wm32 hw)) (by decide) (t := .int) (t' := .boolean) (by decide) (by decide)))).keep K12 (ninS ne_this_r0 nin0)
      replace FsentAgain_5 := FsentAgain_5.keep K12 (ninS ne_this_r0 nin0)
      replace Agr_5 := Agr_5.keep K12 (ninS ne_gr_r0 nin0)
      replace Ar1_5 := (Ar1_5.other W10 (Ne.symm ne_this_r1)).keep K12 (ninS (Ne.symm ne_r0_r1) nin0)
      replace Acs_5 := (Acs_5.other W10 (Ne.symm ne_this_cs)).keep K12 (ninS (Ne.symm ne_r0_cs) nin0)
      exact ih (i + 1) _ _ (1 : Int32) (0 : Int32) w1 T12 _ _ X12 rfl N12 Z12 KP Ethis_5 Fprogressive_5 Fcomponents_5 FsentTo_5 Fcount_5 FsentAgain_5 Agr_5 A12 Ar1_5 Acs_5 (own_ofn hiv (by omega)) (by omega) (Or.inr rfl) (by rw [own_st0p hc75] at hf; exact hf) (Or.inr ⟨_, rfl⟩)
     ·skip
      refine Run.x_ifYes (q := 82) X9 hx (hb hby d4_75) ((if0 _ _).trans (feq hc75).2) (by decide) (by decide) ?_
      refine Run.x_iconst (q := 83) X9 hx (hb hby d4_82) (z := (0 : Int32)) rfl rfl ?_
      refine Run.x_ior (q := 84) X9 hx (hb hby d4_83) (z := (0 : Int32)) (by decide) rfl ?_
      obtain ⟨T13, h13, X13, e13, W13, st13⟩ := putFN X9 hx hZ hown (wm31 hw) Via.refl e9 FsentAgain_5 Ethis_5 (Or.inl (wm32 hw)) (wm1 hw) (ty := .boolean) (v' := (.int 0)) (by decide) rfl (by decide) (g := (mkF m 84 #[.val (.ref this), .val (.ref cs), .val (.int 0), .val (.int 0), .val (.int 0), .val (.int 0), .val (.ref cs), .val (.int ln), .val (.int iv), .val (.int 0), .unset, .unset, .unset] [(.int 0), (.ref this)])) rfl rfl (hb hby d4_84)
      replace FsentAgain_5 := FsentAgain_5.same W13
      have Z13 : n0 ≤ h13.size := Nat.le_trans Z5 (Nat.le_of_eq W13.size.symm)
      replace KP := KP.wr W13 (Or.inl (by simp))
      have N13 := Fr.snoc X13 N5 g_this
      refine Run.st st13 ?_
      show Run p e below s _ _ _ (T13.setTop (mkF m 87 #[.val (.ref this), .val (.ref cs), .val (.int 0), .val (.int 0), .val (.int 0), .val (.int 0), .val (.ref cs), .val (.int ln), .val (.int iv), .val (.int 0), .unset, .unset, .unset] []))
      refine Run.x_aloadN (q := 88) X13 hx (hb hby d4_87) rfl rfl rfl ?_
      replace FsentTo_5 := FsentTo_5.other W13 (Or.inr (slot_ne (Or.inr (wm17 hw)) (Or.inl (wm32 hw)) (by decide) (t := (.array (.array .int))) (t' := .boolean) (by decide) (by decide)))
      refine Run.z_getF (q := 91) X13 hx hZ e13 hown (wm16 hw) FsentTo_5 (hb hby d4_88) rfl fun T14 X14 e14 => ?_
      refine Run.x_iload (q := 93) X14 hx (hb hby d4_91) rfl rfl ?_
      replace Agr_5 := Agr_5.other W13 (Ne.symm ne_this_gr)
      refine Run.y_ldR (q := 94) X14 hx hZ e14 Agr_5 (i := 0) (v := (.ref r0)) (by decide) rfl rfl (hb hby d4_93) rfl ?_
      refine Run.x_iconst (q := 95) X14 hx (hb hby d4_94) (z := (0 : Int32)) rfl rfl ?_
      replace Ar0_5 := Ar0_5.other W13 (Ne.symm ne_this_r0)
      refine Run.callS X14 hx hZ e14 (y := (⟨"java/util/Arrays", "fill", "([II)V"⟩ : MethodName)) hown (wm18 hw) (wm19 hw) (wm20 hw) (wm21 hw) (by decide) (argsL := [(.ref r0), (.int 0)]) (rest := []) (c_fill l Z a0 hw r0 (0 : Int32) h13 n0 Z13 (own_row (fun _ => w0)) Ar0_5 g_r0 (by rw [own_row_len]; decide)) pd_0 rfl (by rw [hml]; rfl) (W := 0) rfl (by decide) (by decide) (by decide) (by decide) (hb hby d4_95) rfl ?_
      intro T15 v15 L15 X15 q15
      obtain ⟨rfl, M15, K15, A15⟩ := q15
      have N15 := Fr.app N13 M15
      show Run p e below s _ _ _ (T15.setTop (mkF m 98 #[.val (.ref this), .val (.ref cs), .val (.int 0), .val (.int 0), .val (.int 0), .val (.int 0), .val (.ref cs), .val (.int ln), .val (.int iv), .val (.int 0), .unset, .unset, .unset] []))
      have Z15 : n0 ≤ T15.heap.size := Nat.le_trans Z13 K15.1
      replace KP := KP.trans K15 (allS (Or.inl (by simp)) all0)
      replace A15 := own_toR A15
      refine Run.x_iinc (q := 101) X15 hx #[.val (.ref this), .val (.ref cs), .val (.int 0), .val (.int 0), .val (.int 0), .val (.int 0), .val (.ref cs), .val (.int ln), .val (.int (iv + (1 : Int32))), .val (.int 0), .unset, .unset, .unset] (hb hby d4_98) rfl (z := (iv + (1 : Int32))) rfl rfl rfl ?_
      refine Run.x_goto (q := 47) X15 hx (hb hby d4_101) (by decide) (by decide) ?_
      replace Ethis_5 := (Ethis_5.wr W13).keep K15
      replace Fprogressive_5 := (Fprogressive_5.other W13 (Or.inr (slot_ne (Or.inr (wm10 hw)) (Or.inl (wm32 hw)) (by decide) (t := .boolean) (t' := .boolean) (by decide) (by decide)))).keep K15 (ninS ne_this_r0 nin0)
      replace Fcomponents_5 := (Fcomponents_5.other W13 (Or.inr (slot_ne (Or.inr (wm12 hw)) (Or.inl (wm32 hw)) (by decide) (t := .int) (t' := .boolean) (by decide) (by decide)))).keep K15 (ninS ne_this_r0 nin0)
      replace FsentTo_5 := FsentTo_5.keep K15 (ninS ne_this_r0 nin0)
      replace Fcount_5 := (Fcount_5.other W13 (Or.inr (slot_ne (Or.inl (wm40 hw)) (Or.inl (wm32 hw)) (by decide) (t := .int) (t' := .boolean) (by decide) (by decide)))).keep K15 (ninS ne_this_r0 nin0)
      replace FsentAgain_5 := FsentAgain_5.keep K15 (ninS ne_this_r0 nin0)
      replace Agr_5 := Agr_5.keep K15 (ninS ne_gr_r0 nin0)
      replace Ar1_5 := (Ar1_5.other W13 (Ne.symm ne_this_r1)).keep K15 (ninS (Ne.symm ne_r0_r1) nin0)
      replace Acs_5 := (Acs_5.other W13 (Ne.symm ne_this_cs)).keep K15 (ninS (Ne.symm ne_r0_cs) nin0)
      exact ih (i + 1) _ _ (0 : Int32) (0 : Int32) w1 T15 _ _ X15 rfl N15 Z15 KP Ethis_5 Fprogressive_5 Fcomponents_5 FsentTo_5 Fcount_5 FsentAgain_5 Agr_5 A15 Ar1_5 Acs_5 (own_ofn hiv (by omega)) (by omega) (Or.inl rfl) (by rw [own_st0n hc75] at hf; exact hf) (Or.inr ⟨_, rfl⟩)
    ·skip
     show Run p e below s _ _ _ (T5.setTop (mkF m 47 #[.val (.ref this), .val (.ref cs), .val (.int 0), .val (.int 0), .val (.int 0), .val (.int 0), .val (.ref cs), .val (.int ln), .val (.int iv), z9, .unset, .unset, .unset] []))
     refine Run.x_iload (q := 49) X5 hx (hb hby d4_47) rfl rfl ?_
     refine Run.x_iload (q := 51) X5 hx (hb hby d4_49) rfl rfl ?_
     refine Run.x_icmpNo (q := 54) X5 hx (hb hby d4_51) (tlt (by rw [lt32]; omega)).2.1 rfl ?_
     refine Run.x_aload (q := 56) X5 hx (hb hby d4_54) rfl rfl rfl ?_
     refine Run.x_iload (q := 58) X5 hx (hb hby d4_56) rfl rfl ?_
     refine Run.y_ldI (q := 59) X5 hx hZ e5 Acs_5 (i := i) (v := (.int 0)) hiv hev (hb hby d4_58) rfl ?_
     refine Run.x_istore (q := 61) X5 hx #[.val (.ref this), .val (.ref cs), .val (.int 0), .val (.int 0), .val (.int 0), .val (.int 0), .val (.ref cs), .val (.int ln), .val (.int iv), .val (.int 0), .unset, .unset, .unset] (hb hby d4_59) (by rcases hz9 with rfl | ⟨x, rfl⟩ <;> rfl) rfl ?_
     refine Run.x_aloadN (q := 62) X5 hx (hb hby d4_61) rfl rfl rfl ?_
     refine Run.x_dup (q := 63) X5 hx (hb hby d4_62) rfl rfl ?_
     refine Run.z_getF (q := 66) X5 hx hZ e5 hown (wm31 hw) FsentAgain_5 (hb hby d4_63) rfl fun T16 X16 e16 => ?_
     refine Run.x_aloadN (q := 67) X16 hx (hb hby d4_66) rfl rfl rfl ?_
     refine Run.z_getF (q := 70) X16 hx hZ e16 hown (wm16 hw) FsentTo_5 (hb hby d4_67) rfl fun T17 X17 e17 => ?_
     refine Run.x_iload (q := 72) X17 hx (hb hby d4_70) rfl rfl ?_
     refine Run.y_ldR (q := 73) X17 hx hZ e17 Agr_5 (i := 0) (v := (.ref r0)) (by decide) rfl rfl (hb hby d4_72) rfl ?_
     refine Run.x_iconst (q := 74) X17 hx (hb hby d4_73) (z := (0 : Int32)) rfl rfl ?_
     refine Run.y_ldI (q := 75) X17 hx hZ e17 Ar0_5 (i := 0) (v := (.int w0)) (by decide) (own_row_at (by decide)) (hb hby d4_74) rfl ?_
     by_cases hc75 : w0 = (0 : Int32)
     ·skip
      refine Run.x_ifNo (q := 78) X17 hx (hb hby d4_75) ((if0 _ _).trans (teq hc75).2) rfl ?_
      refine Run.x_iconst (q := 79) X17 hx (hb hby d4_78) (z := (1 : Int32)) rfl rfl ?_
      refine Run.x_goto (q := 83) X17 hx (hb hby d4_79) (by decide) (by decide) ?_
      refine Run.x_ior (q := 84) X17 hx (hb hby d4_83) (z := (1 : Int32)) (by decide) rfl ?_
      obtain ⟨T18, h18, X18, e18, W18, st18⟩ := putFN X17 hx hZ hown (wm31 hw) Via.refl e17 FsentAgain_5 Ethis_5 (Or.inl (wm32 hw)) (wm1 hw) (ty := .boolean) (v' := (.int 1)) (by decide) rfl (by decide) (g := (mkF m 84 #[.val (.ref this), .val (.ref cs), .val (.int 0), .val (.int 0), .val (.int 0), .val (.int 0), .val (.ref cs), .val (.int ln), .val (.int iv), .val (.int 0), .unset, .unset, .unset] [(.int 1), (.ref this)])) rfl rfl (hb hby d4_84)
      replace FsentAgain_5 := FsentAgain_5.same W18
      have Z18 : n0 ≤ h18.size := Nat.le_trans Z5 (Nat.le_of_eq W18.size.symm)
      replace KP := KP.wr W18 (Or.inl (by simp))
      have N18 := Fr.snoc X18 N5 g_this
      refine Run.st st18 ?_
      show Run p e below s _ _ _ (T18.setTop (mkF m 87 #[.val (.ref this), .val (.ref cs), .val (.int 0), .val (.int 0), .val (.int 0), .val (.int 0), .val (.ref cs), .val (.int ln), .val (.int iv), .val (.int 0), .unset, .unset, .unset] []))
      refine Run.x_aloadN (q := 88) X18 hx (hb hby d4_87) rfl rfl rfl ?_
      replace FsentTo_5 := FsentTo_5.other W18 (Or.inr (slot_ne (Or.inr (wm17 hw)) (Or.inl (wm32 hw)) (by decide) (t := (.array (.array .int))) (t' := .boolean) (by decide) (by decide)))
      refine Run.z_getF (q := 91) X18 hx hZ e18 hown (wm16 hw) FsentTo_5 (hb hby d4_88) rfl fun T19 X19 e19 => ?_
      refine Run.x_iload (q := 93) X19 hx (hb hby d4_91) rfl rfl ?_
      replace Agr_5 := Agr_5.other W18 (Ne.symm ne_this_gr)
      refine Run.y_ldR (q := 94) X19 hx hZ e19 Agr_5 (i := 0) (v := (.ref r0)) (by decide) rfl rfl (hb hby d4_93) rfl ?_
      refine Run.x_iconst (q := 95) X19 hx (hb hby d4_94) (z := (0 : Int32)) rfl rfl ?_
      replace Ar0_5 := Ar0_5.other W18 (Ne.symm ne_this_r0)
      refine Run.callS X19 hx hZ e19 (y := (⟨"java/util/Arrays", "fill", "([II)V"⟩ : MethodName)) hown (wm18 hw) (wm19 hw) (wm20 hw) (wm21 hw) (by decide) (argsL := [(.ref r0), (.int 0)]) (rest := []) (c_fill l Z a0 hw r0 (0 : Int32) h18 n0 Z18 (own_row (fun _ => w0)) Ar0_5 g_r0 (by rw [own_row_len]; decide)) pd_0 rfl (by rw [hml]; rfl) (W := 0) rfl (by decide) (by decide) (by decide) (by decide) (hb hby d4_95) rfl ?_
      intro T20 v20 L20 X20 q20
      obtain ⟨rfl, M20, K20, A20⟩ := q20
      have N20 := Fr.app N18 M20
      show Run p e below s _ _ _ (T20.setTop (mkF m 98 #[.val (.ref this), .val (.ref cs), .val (.int 0), .val (.int 0), .val (.int 0), .val (.int 0), .val (.ref cs), .val (.int ln), .val (.int iv), .val (.int 0), .unset, .unset, .unset] []))
      have Z20 : n0 ≤ T20.heap.size := Nat.le_trans Z18 K20.1
      replace KP := KP.trans K20 (allS (Or.inl (by simp)) all0)
      replace A20 := own_toR A20
      refine Run.x_iinc (q := 101) X20 hx #[.val (.ref this), .val (.ref cs), .val (.int 0), .val (.int 0), .val (.int 0), .val (.int 0), .val (.ref cs), .val (.int ln), .val (.int (iv + (1 : Int32))), .val (.int 0), .unset, .unset, .unset] (hb hby d4_98) rfl (z := (iv + (1 : Int32))) rfl rfl rfl ?_
      refine Run.x_goto (q := 47) X20 hx (hb hby d4_101) (by decide) (by decide) ?_
      replace Ethis_5 := (Ethis_5.wr W18).keep K20
      replace Fprogressive_5 := (Fprogressive_5.other W18 (Or.inr (slot_ne (Or.inr (wm10 hw)) (Or.inl (wm32 hw)) (by decide) (t := .boolean) (t' := .boolean) (by decide) (by decide)))).keep K20 (ninS ne_this_r0 nin0)
      replace Fcomponents_5 := (Fcomponents_5.other W18 (Or.inr (slot_ne (Or.inr (wm12 hw)) (Or.inl (wm32 hw)) (by decide) (t := .int) (t' := .boolean) (by decide) (by decide)))).keep K20 (ninS ne_this_r0 nin0)
      replace FsentTo_5 := FsentTo_5.keep K20 (ninS ne_this_r0 nin0)
      replace Fcount_5 := (Fcount_5.other W18 (Or.inr (slot_ne (Or.inl (wm40 hw)) (Or.inl (wm32 hw)) (by decide) (t := .int) (t' := .boolean) (by decide) (by decide)))).keep K20 (ninS ne_this_r0 nin0)
      replace FsentAgain_5 := FsentAgain_5.keep K20 (ninS ne_this_r0 nin0)
      replace Agr_5 := Agr_5.keep K20 (ninS ne_gr_r0 nin0)
      replace Ar1_5 := (Ar1_5.other W18 (Ne.symm ne_this_r1)).keep K20 (ninS (Ne.symm ne_r0_r1) nin0)
      replace Acs_5 := (Acs_5.other W18 (Ne.symm ne_this_cs)).keep K20 (ninS (Ne.symm ne_r0_cs) nin0)
      exact ih (i + 1) _ _ (1 : Int32) (0 : Int32) w1 T20 _ _ X20 rfl N20 Z20 KP Ethis_5 Fprogressive_5 Fcomponents_5 FsentTo_5 Fcount_5 FsentAgain_5 Agr_5 A20 Ar1_5 Acs_5 (own_ofn hiv (by omega)) (by omega) (Or.inr rfl) (by rw [own_st0p hc75] at hf; exact hf) (Or.inr ⟨_, rfl⟩)
     ·skip
      refine Run.x_ifYes (q := 82) X17 hx (hb hby d4_75) ((if0 _ _).trans (feq hc75).2) (by decide) (by decide) ?_
      refine Run.x_iconst (q := 83) X17 hx (hb hby d4_82) (z := (0 : Int32)) rfl rfl ?_
      refine Run.x_ior (q := 84) X17 hx (hb hby d4_83) (z := (1 : Int32)) (by decide) rfl ?_
      obtain ⟨T21, h21, X21, e21, W21, st21⟩ := putFN X17 hx hZ hown (wm31 hw) Via.refl e17 FsentAgain_5 Ethis_5 (Or.inl (wm32 hw)) (wm1 hw) (ty := .boolean) (v' := (.int 1)) (by decide) rfl (by decide) (g := (mkF m 84 #[.val (.ref this), .val (.ref cs), .val (.int 0), .val (.int 0), .val (.int 0), .val (.int 0), .val (.ref cs), .val (.int ln), .val (.int iv), .val (.int 0), .unset, .unset, .unset] [(.int 1), (.ref this)])) rfl rfl (hb hby d4_84)
      replace FsentAgain_5 := FsentAgain_5.same W21
      have Z21 : n0 ≤ h21.size := Nat.le_trans Z5 (Nat.le_of_eq W21.size.symm)
      replace KP := KP.wr W21 (Or.inl (by simp))
      have N21 := Fr.snoc X21 N5 g_this
      refine Run.st st21 ?_
      show Run p e below s _ _ _ (T21.setTop (mkF m 87 #[.val (.ref this), .val (.ref cs), .val (.int 0), .val (.int 0), .val (.int 0), .val (.int 0), .val (.ref cs), .val (.int ln), .val (.int iv), .val (.int 0), .unset, .unset, .unset] []))
      refine Run.x_aloadN (q := 88) X21 hx (hb hby d4_87) rfl rfl rfl ?_
      replace FsentTo_5 := FsentTo_5.other W21 (Or.inr (slot_ne (Or.inr (wm17 hw)) (Or.inl (wm32 hw)) (by decide) (t := (.array (.array .int))) (t' := .boolean) (by decide) (by decide)))
      refine Run.z_getF (q := 91) X21 hx hZ e21 hown (wm16 hw) FsentTo_5 (hb hby d4_88) rfl fun T22 X22 e22 => ?_
      refine Run.x_iload (q := 93) X22 hx (hb hby d4_91) rfl rfl ?_
      replace Agr_5 := Agr_5.other W21 (Ne.symm ne_this_gr)
      refine Run.y_ldR (q := 94) X22 hx hZ e22 Agr_5 (i := 0) (v := (.ref r0)) (by decide) rfl rfl (hb hby d4_93) rfl ?_
      refine Run.x_iconst (q := 95) X22 hx (hb hby d4_94) (z := (0 : Int32)) rfl rfl ?_
      replace Ar0_5 := Ar0_5.other W21 (Ne.symm ne_this_r0)
      refine Run.callS X22 hx hZ e22 (y := (⟨"java/util/Arrays", "fill", "([II)V"⟩ : MethodName)) hown (wm18 hw) (wm19 hw) (wm20 hw) (wm21 hw) (by decide) (argsL := [(.ref r0), (.int 0)]) (rest := []) (c_fill l Z a0 hw r0 (0 : Int32) h21 n0 Z21 (own_row (fun _ => w0)) Ar0_5 g_r0 (by rw [own_row_len]; decide)) pd_0 rfl (by rw [hml]; rfl) (W := 0) rfl (by decide) (by decide) (by decide) (by decide) (hb hby d4_95) rfl ?_
      intro T23 v23 L23 X23 q23
      obtain ⟨rfl, M23, K23, A23⟩ := q23
      have N23 := Fr.app N21 M23
      show Run p e below s _ _ _ (T23.setTop (mkF m 98 #[.val (.ref this), .val (.ref cs), .val (.int 0), .val (.int 0), .val (.int 0), .val (.int 0), .val (.ref cs), .val (.int ln), .val (.int iv), .val (.int 0), .unset, .unset, .unset] []))
      have Z23 : n0 ≤ T23.heap.size := Nat.le_trans Z21 K23.1
      replace KP := KP.trans K23 (allS (Or.inl (by simp)) all0)
      replace A23 := own_toR A23
      refine Run.x_iinc (q := 101) X23 hx #[.val (.ref this), .val (.ref cs), .val (.int 0), .val (.int 0), .val (.int 0), .val (.int 0), .val (.ref cs), .val (.int ln), .val (.int (iv + (1 : Int32))), .val (.int 0), .unset, .unset, .unset] (hb hby d4_98) rfl (z := (iv + (1 : Int32))) rfl rfl rfl ?_
      refine Run.x_goto (q := 47) X23 hx (hb hby d4_101) (by decide) (by decide) ?_
      replace Ethis_5 := (Ethis_5.wr W21).keep K23
      replace Fprogressive_5 := (Fprogressive_5.other W21 (Or.inr (slot_ne (Or.inr (wm10 hw)) (Or.inl (wm32 hw)) (by decide) (t := .boolean) (t' := .boolean) (by decide) (by decide)))).keep K23 (ninS ne_this_r0 nin0)
      replace Fcomponents_5 := (Fcomponents_5.other W21 (Or.inr (slot_ne (Or.inr (wm12 hw)) (Or.inl (wm32 hw)) (by decide) (t := .int) (t' := .boolean) (by decide) (by decide)))).keep K23 (ninS ne_this_r0 nin0)
      replace FsentTo_5 := FsentTo_5.keep K23 (ninS ne_this_r0 nin0)
      replace Fcount_5 := (Fcount_5.other W21 (Or.inr (slot_ne (Or.inl (wm40 hw)) (Or.inl (wm32 hw)) (by decide) (t := .int) (t' := .boolean) (by decide) (by decide)))).keep K23 (ninS ne_this_r0 nin0)
      replace FsentAgain_5 := FsentAgain_5.keep K23 (ninS ne_this_r0 nin0)
      replace Agr_5 := Agr_5.keep K23 (ninS ne_gr_r0 nin0)
      replace Ar1_5 := (Ar1_5.other W21 (Ne.symm ne_this_r1)).keep K23 (ninS (Ne.symm ne_r0_r1) nin0)
      replace Acs_5 := (Acs_5.other W21 (Ne.symm ne_this_cs)).keep K23 (ninS (Ne.symm ne_r0_cs) nin0)
      exact ih (i + 1) _ _ (1 : Int32) (0 : Int32) w1 T23 _ _ X23 rfl N23 Z23 KP Ethis_5 Fprogressive_5 Fcomponents_5 FsentTo_5 Fcount_5 FsentAgain_5 Agr_5 A23 Ar1_5 Acs_5 (own_ofn hiv (by omega)) (by omega) (Or.inr rfl) (by rw [own_st0n hc75] at hf; exact hf) (Or.inr ⟨_, rfl⟩)
   ·skip
    show Run p e below s _ _ _ (T5.setTop (mkF m 47 #[.val (.ref this), .val (.ref cs), .val (.int 0), .val (.int 0), .val (.int 0), .val (.int 0), .val (.ref cs), .val (.int ln), .val (.int iv), z9, .unset, .unset, .unset] []))
    have hsa' := hsa
    rcases hsa with rfl | rfl
    ·skip
     show Run p e below s _ _ _ (T5.setTop (mkF m 47 #[.val (.ref this), .val (.ref cs), .val (.int 0), .val (.int 0), .val (.int 0), .val (.int 0), .val (.ref cs), .val (.int ln), .val (.int iv), z9, .unset, .unset, .unset] []))
     refine Run.x_iload (q := 49) X5 hx (hb hby d4_47) rfl rfl ?_
     refine Run.x_iload (q := 51) X5 hx (hb hby d4_49) rfl rfl ?_
     refine Run.x_icmpNo (q := 54) X5 hx (hb hby d4_51) (tlt (by rw [lt32]; omega)).2.1 rfl ?_
     refine Run.x_aload (q := 56) X5 hx (hb hby d4_54) rfl rfl rfl ?_
     refine Run.x_iload (q := 58) X5 hx (hb hby d4_56) rfl rfl ?_
     refine Run.y_ldI (q := 59) X5 hx hZ e5 Acs_5 (i := i) (v := (.int 1)) hiv hev (hb hby d4_58) rfl ?_
     refine Run.x_istore (q := 61) X5 hx #[.val (.ref this), .val (.ref cs), .val (.int 0), .val (.int 0), .val (.int 0), .val (.int 0), .val (.ref cs), .val (.int ln), .val (.int iv), .val (.int 1), .unset, .unset, .unset] (hb hby d4_59) (by rcases hz9 with rfl | ⟨x, rfl⟩ <;> rfl) rfl ?_
     refine Run.x_aloadN (q := 62) X5 hx (hb hby d4_61) rfl rfl rfl ?_
     refine Run.x_dup (q := 63) X5 hx (hb hby d4_62) rfl rfl ?_
     refine Run.z_getF (q := 66) X5 hx hZ e5 hown (wm31 hw) FsentAgain_5 (hb hby d4_63) rfl fun T24 X24 e24 => ?_
     refine Run.x_aloadN (q := 67) X24 hx (hb hby d4_66) rfl rfl rfl ?_
     refine Run.z_getF (q := 70) X24 hx hZ e24 hown (wm16 hw) FsentTo_5 (hb hby d4_67) rfl fun T25 X25 e25 => ?_
     refine Run.x_iload (q := 72) X25 hx (hb hby d4_70) rfl rfl ?_
     refine Run.y_ldR (q := 73) X25 hx hZ e25 Agr_5 (i := 1) (v := (.ref r1)) (by decide) rfl rfl (hb hby d4_72) rfl ?_
     refine Run.x_iconst (q := 74) X25 hx (hb hby d4_73) (z := (0 : Int32)) rfl rfl ?_
     refine Run.y_ldI (q := 75) X25 hx hZ e25 Ar1_5 (i := 0) (v := (.int w1)) (by decide) (own_row_at (by decide)) (hb hby d4_74) rfl ?_
     by_cases hc75 : w1 = (0 : Int32)
     ·skip
      refine Run.x_ifNo (q := 78) X25 hx (hb hby d4_75) ((if0 _ _).trans (teq hc75).2) rfl ?_
      refine Run.x_iconst (q := 79) X25 hx (hb hby d4_78) (z := (1 : Int32)) rfl rfl ?_
      refine Run.x_goto (q := 83) X25 hx (hb hby d4_79) (by decide) (by decide) ?_
      refine Run.x_ior (q := 84) X25 hx (hb hby d4_83) (z := (1 : Int32)) (by decide) rfl ?_
      obtain ⟨T26, h26, X26, e26, W26, st26⟩ := putFN X25 hx hZ hown (wm31 hw) Via.refl e25 FsentAgain_5 Ethis_5 (Or.inl (wm32 hw)) (wm1 hw) (ty := .boolean) (v' := (.int 1)) (by decide) rfl (by decide) (g := (mkF m 84 #[.val (.ref this), .val (.ref cs), .val (.int 0), .val (.int 0), .val (.int 0), .val (.int 0), .val (.ref cs), .val (.int ln), .val (.int iv), .val (.int 1), .unset, .unset, .unset] [(.int 1), (.ref this)])) rfl rfl (hb hby d4_84)
      replace FsentAgain_5 := FsentAgain_5.same W26
      have Z26 : n0 ≤ h26.size := Nat.le_trans Z5 (Nat.le_of_eq W26.size.symm)
      replace KP := KP.wr W26 (Or.inl (by simp))
      have N26 := Fr.snoc X26 N5 g_this
      refine Run.st st26 ?_
      show Run p e below s _ _ _ (T26.setTop (mkF m 87 #[.val (.ref this), .val (.ref cs), .val (.int 0), .val (.int 0), .val (.int 0), .val (.int 0), .val (.ref cs), .val (.int ln), .val (.int iv), .val (.int 1), .unset, .unset, .unset] []))
      refine Run.x_aloadN (q := 88) X26 hx (hb hby d4_87) rfl rfl rfl ?_
      replace FsentTo_5 := FsentTo_5.other W26 (Or.inr (slot_ne (Or.inr (wm17 hw)) (Or.inl (wm32 hw)) (by decide) (t := (.array (.array .int))) (t' := .boolean) (by decide) (by decide)))
      refine Run.z_getF (q := 91) X26 hx hZ e26 hown (wm16 hw) FsentTo_5 (hb hby d4_88) rfl fun T27 X27 e27 => ?_
      refine Run.x_iload (q := 93) X27 hx (hb hby d4_91) rfl rfl ?_
      replace Agr_5 := Agr_5.other W26 (Ne.symm ne_this_gr)
      refine Run.y_ldR (q := 94) X27 hx hZ e27 Agr_5 (i := 1) (v := (.ref r1)) (by decide) rfl rfl (hb hby d4_93) rfl ?_
      refine Run.x_iconst (q := 95) X27 hx (hb hby d4_94) (z := (0 : Int32)) rfl rfl ?_
      replace Ar1_5 := Ar1_5.other W26 (Ne.symm ne_this_r1)
      refine Run.callS X27 hx hZ e27 (y := (⟨"java/util/Arrays", "fill", "([II)V"⟩ : MethodName)) hown (wm18 hw) (wm19 hw) (wm20 hw) (wm21 hw) (by decide) (argsL := [(.ref r1), (.int 0)]) (rest := []) (c_fill l Z a0 hw r1 (0 : Int32) h26 n0 Z26 (own_row (fun _ => w1)) Ar1_5 g_r1 (by rw [own_row_len]; decide)) pd_0 rfl (by rw [hml]; rfl) (W := 0) rfl (by decide) (by decide) (by decide) (by decide) (hb hby d4_95) rfl ?_
      intro T28 v28 L28 X28 q28
      obtain ⟨rfl, M28, K28, A28⟩ := q28
      have N28 := Fr.app N26 M28
      show Run p e below s _ _ _ (T28.setTop (mkF m 98 #[.val (.ref this), .val (.ref cs), .val (.int 0), .val (.int 0), .val (.int 0), .val (.int 0), .val (.ref cs), .val (.int ln), .val (.int iv), .val (.int 1), .unset, .unset, .unset] []))
      have Z28 : n0 ≤ T28.heap.size := Nat.le_trans Z26 K28.1
      replace KP := KP.trans K28 (allS (Or.inl (by simp)) all0)
      replace A28 := own_toR A28
      refine Run.x_iinc (q := 101) X28 hx #[.val (.ref this), .val (.ref cs), .val (.int 0), .val (.int 0), .val (.int 0), .val (.int 0), .val (.ref cs), .val (.int ln), .val (.int (iv + (1 : Int32))), .val (.int 1), .unset, .unset, .unset] (hb hby d4_98) rfl (z := (iv + (1 : Int32))) rfl rfl rfl ?_
      refine Run.x_goto (q := 47) X28 hx (hb hby d4_101) (by decide) (by decide) ?_
      replace Ethis_5 := (Ethis_5.wr W26).keep K28
      replace Fprogressive_5 := (Fprogressive_5.other W26 (Or.inr (slot_ne (Or.inr (wm10 hw)) (Or.inl (wm32 hw)) (by decide) (t := .boolean) (t' := .boolean) (by decide) (by decide)))).keep K28 (ninS ne_this_r1 nin0)
      replace Fcomponents_5 := (Fcomponents_5.other W26 (Or.inr (slot_ne (Or.inr (wm12 hw)) (Or.inl (wm32 hw)) (by decide) (t := .int) (t' := .boolean) (by decide) (by decide)))).keep K28 (ninS ne_this_r1 nin0)
      replace FsentTo_5 := FsentTo_5.keep K28 (ninS ne_this_r1 nin0)
      replace Fcount_5 := (Fcount_5.other W26 (Or.inr (slot_ne (Or.inl (wm40 hw)) (Or.inl (wm32 hw)) (by decide) (t := .int) (t' := .boolean) (by decide) (by decide)))).keep K28 (ninS ne_this_r1 nin0)
      replace FsentAgain_5 := FsentAgain_5.keep K28 (ninS ne_this_r1 nin0)
      replace Agr_5 := Agr_5.keep K28 (ninS ne_gr_r1 nin0)
      replace Ar0_5 := (Ar0_5.other W26 (Ne.symm ne_this_r0)).keep K28 (ninS ne_r0_r1 nin0)
      replace Acs_5 := (Acs_5.other W26 (Ne.symm ne_this_cs)).keep K28 (ninS (Ne.symm ne_r1_cs) nin0)
      exact ih (i + 1) _ _ (1 : Int32) w0 (0 : Int32) T28 _ _ X28 rfl N28 Z28 KP Ethis_5 Fprogressive_5 Fcomponents_5 FsentTo_5 Fcount_5 FsentAgain_5 Agr_5 Ar0_5 A28 Acs_5 (own_ofn hiv (by omega)) (by omega) (Or.inr rfl) (by rw [own_st1p hc75] at hf; exact hf) (Or.inr ⟨_, rfl⟩)
     ·skip
      refine Run.x_ifYes (q := 82) X25 hx (hb hby d4_75) ((if0 _ _).trans (feq hc75).2) (by decide) (by decide) ?_
      refine Run.x_iconst (q := 83) X25 hx (hb hby d4_82) (z := (0 : Int32)) rfl rfl ?_
      refine Run.x_ior (q := 84) X25 hx (hb hby d4_83) (z := (0 : Int32)) (by decide) rfl ?_
      obtain ⟨T29, h29, X29, e29, W29, st29⟩ := putFN X25 hx hZ hown (wm31 hw) Via.refl e25 FsentAgain_5 Ethis_5 (Or.inl (wm32 hw)) (wm1 hw) (ty := .boolean) (v' := (.int 0)) (by decide) rfl (by decide) (g := (mkF m 84 #[.val (.ref this), .val (.ref cs), .val (.int 0), .val (.int 0), .val (.int 0), .val (.int 0), .val (.ref cs), .val (.int ln), .val (.int iv), .val (.int 1), .unset, .unset, .unset] [(.int 0), (.ref this)])) rfl rfl (hb hby d4_84)
      replace FsentAgain_5 := FsentAgain_5.same W29
      have Z29 : n0 ≤ h29.size := Nat.le_trans Z5 (Nat.le_of_eq W29.size.symm)
      replace KP := KP.wr W29 (Or.inl (by simp))
      have N29 := Fr.snoc X29 N5 g_this
      refine Run.st st29 ?_
      show Run p e below s _ _ _ (T29.setTop (mkF m 87 #[.val (.ref this), .val (.ref cs), .val (.int 0), .val (.int 0), .val (.int 0), .val (.int 0), .val (.ref cs), .val (.int ln), .val (.int iv), .val (.int 1), .unset, .unset, .unset] []))
      refine Run.x_aloadN (q := 88) X29 hx (hb hby d4_87) rfl rfl rfl ?_
      replace FsentTo_5 := FsentTo_5.other W29 (Or.inr (slot_ne (Or.inr (wm17 hw)) (Or.inl (wm32 hw)) (by decide) (t := (.array (.array .int))) (t' := .boolean) (by decide) (by decide)))
      refine Run.z_getF (q := 91) X29 hx hZ e29 hown (wm16 hw) FsentTo_5 (hb hby d4_88) rfl fun T30 X30 e30 => ?_
      refine Run.x_iload (q := 93) X30 hx (hb hby d4_91) rfl rfl ?_
      replace Agr_5 := Agr_5.other W29 (Ne.symm ne_this_gr)
      refine Run.y_ldR (q := 94) X30 hx hZ e30 Agr_5 (i := 1) (v := (.ref r1)) (by decide) rfl rfl (hb hby d4_93) rfl ?_
      refine Run.x_iconst (q := 95) X30 hx (hb hby d4_94) (z := (0 : Int32)) rfl rfl ?_
      replace Ar1_5 := Ar1_5.other W29 (Ne.symm ne_this_r1)
      refine Run.callS X30 hx hZ e30 (y := (⟨"java/util/Arrays", "fill", "([II)V"⟩ : MethodName)) hown (wm18 hw) (wm19 hw) (wm20 hw) (wm21 hw) (by decide) (argsL := [(.ref r1), (.int 0)]) (rest := []) (c_fill l Z a0 hw r1 (0 : Int32) h29 n0 Z29 (own_row (fun _ => w1)) Ar1_5 g_r1 (by rw [own_row_len]; decide)) pd_0 rfl (by rw [hml]; rfl) (W := 0) rfl (by decide) (by decide) (by decide) (by decide) (hb hby d4_95) rfl ?_
      intro T31 v31 L31 X31 q31
      obtain ⟨rfl, M31, K31, A31⟩ := q31
      have N31 := Fr.app N29 M31
      show Run p e below s _ _ _ (T31.setTop (mkF m 98 #[.val (.ref this), .val (.ref cs), .val (.int 0), .val (.int 0), .val (.int 0), .val (.int 0), .val (.ref cs), .val (.int ln), .val (.int iv), .val (.int 1), .unset, .unset, .unset] []))
      have Z31 : n0 ≤ T31.heap.size := Nat.le_trans Z29 K31.1
      replace KP := KP.trans K31 (allS (Or.inl (by simp)) all0)
      replace A31 := own_toR A31
      refine Run.x_iinc (q := 101) X31 hx #[.val (.ref this), .val (.ref cs), .val (.int 0), .val (.int 0), .val (.int 0), .val (.int 0), .val (.ref cs), .val (.int ln), .val (.int (iv + (1 : Int32))), .val (.int 1), .unset, .unset, .unset] (hb hby d4_98) rfl (z := (iv + (1 : Int32))) rfl rfl rfl ?_
      refine Run.x_goto (q := 47) X31 hx (hb hby d4_101) (by decide) (by decide) ?_
      replace Ethis_5 := (Ethis_5.wr W29).keep K31
      replace Fprogressive_5 := (Fprogressive_5.other W29 (Or.inr (slot_ne (Or.inr (wm10 hw)) (Or.inl (wm32 hw)) (by decide) (t := .boolean) (t' := .boolean) (by decide) (by decide)))).keep K31 (ninS ne_this_r1 nin0)
      replace Fcomponents_5 := (Fcomponents_5.other W29 (Or.inr (slot_ne (Or.inr (wm12 hw)) (Or.inl (wm32 hw)) (by decide) (t := .int) (t' := .boolean) (by decide) (by decide)))).keep K31 (ninS ne_this_r1 nin0)
      replace FsentTo_5 := FsentTo_5.keep K31 (ninS ne_this_r1 nin0)
      replace Fcount_5 := (Fcount_5.other W29 (Or.inr (slot_ne (Or.inl (wm40 hw)) (Or.inl (wm32 hw)) (by decide) (t := .int) (t' := .boolean) (by decide) (by decide)))).keep K31 (ninS ne_this_r1 nin0)
      replace FsentAgain_5 := FsentAgain_5.keep K31 (ninS ne_this_r1 nin0)
      replace Agr_5 := Agr_5.keep K31 (ninS ne_gr_r1 nin0)
      replace Ar0_5 := (Ar0_5.other W29 (Ne.symm ne_this_r0)).keep K31 (ninS ne_r0_r1 nin0)
      replace Acs_5 := (Acs_5.other W29 (Ne.symm ne_this_cs)).keep K31 (ninS (Ne.symm ne_r1_cs) nin0)
      exact ih (i + 1) _ _ (0 : Int32) w0 (0 : Int32) T31 _ _ X31 rfl N31 Z31 KP Ethis_5 Fprogressive_5 Fcomponents_5 FsentTo_5 Fcount_5 FsentAgain_5 Agr_5 Ar0_5 A31 Acs_5 (own_ofn hiv (by omega)) (by omega) (Or.inl rfl) (by rw [own_st1n hc75] at hf; exact hf) (Or.inr ⟨_, rfl⟩)
    ·skip
     show Run p e below s _ _ _ (T5.setTop (mkF m 47 #[.val (.ref this), .val (.ref cs), .val (.int 0), .val (.int 0), .val (.int 0), .val (.int 0), .val (.ref cs), .val (.int ln), .val (.int iv), z9, .unset, .unset, .unset] []))
     refine Run.x_iload (q := 49) X5 hx (hb hby d4_47) rfl rfl ?_
     refine Run.x_iload (q := 51) X5 hx (hb hby d4_49) rfl rfl ?_
     refine Run.x_icmpNo (q := 54) X5 hx (hb hby d4_51) (tlt (by rw [lt32]; omega)).2.1 rfl ?_
     refine Run.x_aload (q := 56) X5 hx (hb hby d4_54) rfl rfl rfl ?_
     refine Run.x_iload (q := 58) X5 hx (hb hby d4_56) rfl rfl ?_
     refine Run.y_ldI (q := 59) X5 hx hZ e5 Acs_5 (i := i) (v := (.int 1)) hiv hev (hb hby d4_58) rfl ?_
     refine Run.x_istore (q := 61) X5 hx #[.val (.ref this), .val (.ref cs), .val (.int 0), .val (.int 0), .val (.int 0), .val (.int 0), .val (.ref cs), .val (.int ln), .val (.int iv), .val (.int 1), .unset, .unset, .unset] (hb hby d4_59) (by rcases hz9 with rfl | ⟨x, rfl⟩ <;> rfl) rfl ?_
     refine Run.x_aloadN (q := 62) X5 hx (hb hby d4_61) rfl rfl rfl ?_
     refine Run.x_dup (q := 63) X5 hx (hb hby d4_62) rfl rfl ?_
     refine Run.z_getF (q := 66) X5 hx hZ e5 hown (wm31 hw) FsentAgain_5 (hb hby d4_63) rfl fun T32 X32 e32 => ?_
     refine Run.x_aloadN (q := 67) X32 hx (hb hby d4_66) rfl rfl rfl ?_
     refine Run.z_getF (q := 70) X32 hx hZ e32 hown (wm16 hw) FsentTo_5 (hb hby d4_67) rfl fun T33 X33 e33 => ?_
     refine Run.x_iload (q := 72) X33 hx (hb hby d4_70) rfl rfl ?_
     refine Run.y_ldR (q := 73) X33 hx hZ e33 Agr_5 (i := 1) (v := (.ref r1)) (by decide) rfl rfl (hb hby d4_72) rfl ?_
     refine Run.x_iconst (q := 74) X33 hx (hb hby d4_73) (z := (0 : Int32)) rfl rfl ?_
     refine Run.y_ldI (q := 75) X33 hx hZ e33 Ar1_5 (i := 0) (v := (.int w1)) (by decide) (own_row_at (by decide)) (hb hby d4_74) rfl ?_
     by_cases hc75 : w1 = (0 : Int32)
     ·skip
      refine Run.x_ifNo (q := 78) X33 hx (hb hby d4_75) ((if0 _ _).trans (teq hc75).2) rfl ?_
      refine Run.x_iconst (q := 79) X33 hx (hb hby d4_78) (z := (1 : Int32)) rfl rfl ?_
      refine Run.x_goto (q := 83) X33 hx (hb hby d4_79) (by decide) (by decide) ?_
      refine Run.x_ior (q := 84) X33 hx (hb hby d4_83) (z := (1 : Int32)) (by decide) rfl ?_
      obtain ⟨T34, h34, X34, e34, W34, st34⟩ := putFN X33 hx hZ hown (wm31 hw) Via.refl e33 FsentAgain_5 Ethis_5 (Or.inl (wm32 hw)) (wm1 hw) (ty := .boolean) (v' := (.int 1)) (by decide) rfl (by decide) (g := (mkF m 84 #[.val (.ref this), .val (.ref cs), .val (.int 0), .val (.int 0), .val (.int 0), .val (.int 0), .val (.ref cs), .val (.int ln), .val (.int iv), .val (.int 1), .unset, .unset, .unset] [(.int 1), (.ref this)])) rfl rfl (hb hby d4_84)
      replace FsentAgain_5 := FsentAgain_5.same W34
      have Z34 : n0 ≤ h34.size := Nat.le_trans Z5 (Nat.le_of_eq W34.size.symm)
      replace KP := KP.wr W34 (Or.inl (by simp))
      have N34 := Fr.snoc X34 N5 g_this
      refine Run.st st34 ?_
      show Run p e below s _ _ _ (T34.setTop (mkF m 87 #[.val (.ref this), .val (.ref cs), .val (.int 0), .val (.int 0), .val (.int 0), .val (.int 0), .val (.ref cs), .val (.int ln), .val (.int iv), .val (.int 1), .unset, .unset, .unset] []))
      refine Run.x_aloadN (q := 88) X34 hx (hb hby d4_87) rfl rfl rfl ?_
      replace FsentTo_5 := FsentTo_5.other W34 (Or.inr (slot_ne (Or.inr (wm17 hw)) (Or.inl (wm32 hw)) (by decide) (t := (.array (.array .int))) (t' := .boolean) (by decide) (by decide)))
      refine Run.z_getF (q := 91) X34 hx hZ e34 hown (wm16 hw) FsentTo_5 (hb hby d4_88) rfl fun T35 X35 e35 => ?_
      refine Run.x_iload (q := 93) X35 hx (hb hby d4_91) rfl rfl ?_
      replace Agr_5 := Agr_5.other W34 (Ne.symm ne_this_gr)
      refine Run.y_ldR (q := 94) X35 hx hZ e35 Agr_5 (i := 1) (v := (.ref r1)) (by decide) rfl rfl (hb hby d4_93) rfl ?_
      refine Run.x_iconst (q := 95) X35 hx (hb hby d4_94) (z := (0 : Int32)) rfl rfl ?_
      replace Ar1_5 := Ar1_5.other W34 (Ne.symm ne_this_r1)
      refine Run.callS X35 hx hZ e35 (y := (⟨"java/util/Arrays", "fill", "([II)V"⟩ : MethodName)) hown (wm18 hw) (wm19 hw) (wm20 hw) (wm21 hw) (by decide) (argsL := [(.ref r1), (.int 0)]) (rest := []) (c_fill l Z a0 hw r1 (0 : Int32) h34 n0 Z34 (own_row (fun _ => w1)) Ar1_5 g_r1 (by rw [own_row_len]; decide)) pd_0 rfl (by rw [hml]; rfl) (W := 0) rfl (by decide) (by decide) (by decide) (by decide) (hb hby d4_95) rfl ?_
      intro T36 v36 L36 X36 q36
      obtain ⟨rfl, M36, K36, A36⟩ := q36
      have N36 := Fr.app N34 M36
      show Run p e below s _ _ _ (T36.setTop (mkF m 98 #[.val (.ref this), .val (.ref cs), .val (.int 0), .val (.int 0), .val (.int 0), .val (.int 0), .val (.ref cs), .val (.int ln), .val (.int iv), .val (.int 1), .unset, .unset, .unset] []))
      have Z36 : n0 ≤ T36.heap.size := Nat.le_trans Z34 K36.1
      replace KP := KP.trans K36 (allS (Or.inl (by simp)) all0)
      replace A36 := own_toR A36
      refine Run.x_iinc (q := 101) X36 hx #[.val (.ref this), .val (.ref cs), .val (.int 0), .val (.int 0), .val (.int 0), .val (.int 0), .val (.ref cs), .val (.int ln), .val (.int (iv + (1 : Int32))), .val (.int 1), .unset, .unset, .unset] (hb hby d4_98) rfl (z := (iv + (1 : Int32))) rfl rfl rfl ?_
      refine Run.x_goto (q := 47) X36 hx (hb hby d4_101) (by decide) (by decide) ?_
      replace Ethis_5 := (Ethis_5.wr W34).keep K36
      replace Fprogressive_5 := (Fprogressive_5.other W34 (Or.inr (slot_ne (Or.inr (wm10 hw)) (Or.inl (wm32 hw)) (by decide) (t := .boolean) (t' := .boolean) (by decide) (by decide)))).keep K36 (ninS ne_this_r1 nin0)
      replace Fcomponents_5 := (Fcomponents_5.other W34 (Or.inr (slot_ne (Or.inr (wm12 hw)) (Or.inl (wm32 hw)) (by decide) (t := .int) (t' := .boolean) (by decide) (by decide)))).keep K36 (ninS ne_this_r1 nin0)
      replace FsentTo_5 := FsentTo_5.keep K36 (ninS ne_this_r1 nin0)
      replace Fcount_5 := (Fcount_5.other W34 (Or.inr (slot_ne (Or.inl (wm40 hw)) (Or.inl (wm32 hw)) (by decide) (t := .int) (t' := .boolean) (by decide) (by decide)))).keep K36 (ninS ne_this_r1 nin0)
      replace FsentAgain_5 := FsentAgain_5.keep K36 (ninS ne_this_r1 nin0)
      replace Agr_5 := Agr_5.keep K36 (ninS ne_gr_r1 nin0)
      replace Ar0_5 := (Ar0_5.other W34 (Ne.symm ne_this_r0)).keep K36 (ninS ne_r0_r1 nin0)
      replace Acs_5 := (Acs_5.other W34 (Ne.symm ne_this_cs)).keep K36 (ninS (Ne.symm ne_r1_cs) nin0)
      exact ih (i + 1) _ _ (1 : Int32) w0 (0 : Int32) T36 _ _ X36 rfl N36 Z36 KP Ethis_5 Fprogressive_5 Fcomponents_5 FsentTo_5 Fcount_5 FsentAgain_5 Agr_5 Ar0_5 A36 Acs_5 (own_ofn hiv (by omega)) (by omega) (Or.inr rfl) (by rw [own_st1p hc75] at hf; exact hf) (Or.inr ⟨_, rfl⟩)
     ·skip
      refine Run.x_ifYes (q := 82) X33 hx (hb hby d4_75) ((if0 _ _).trans (feq hc75).2) (by decide) (by decide) ?_
      refine Run.x_iconst (q := 83) X33 hx (hb hby d4_82) (z := (0 : Int32)) rfl rfl ?_
      refine Run.x_ior (q := 84) X33 hx (hb hby d4_83) (z := (1 : Int32)) (by decide) rfl ?_
      obtain ⟨T37, h37, X37, e37, W37, st37⟩ := putFN X33 hx hZ hown (wm31 hw) Via.refl e33 FsentAgain_5 Ethis_5 (Or.inl (wm32 hw)) (wm1 hw) (ty := .boolean) (v' := (.int 1)) (by decide) rfl (by decide) (g := (mkF m 84 #[.val (.ref this), .val (.ref cs), .val (.int 0), .val (.int 0), .val (.int 0), .val (.int 0), .val (.ref cs), .val (.int ln), .val (.int iv), .val (.int 1), .unset, .unset, .unset] [(.int 1), (.ref this)])) rfl rfl (hb hby d4_84)
      replace FsentAgain_5 := FsentAgain_5.same W37
      have Z37 : n0 ≤ h37.size := Nat.le_trans Z5 (Nat.le_of_eq W37.size.symm)
      replace KP := KP.wr W37 (Or.inl (by simp))
      have N37 := Fr.snoc X37 N5 g_this
      refine Run.st st37 ?_
      show Run p e below s _ _ _ (T37.setTop (mkF m 87 #[.val (.ref this), .val (.ref cs), .val (.int 0), .val (.int 0), .val (.int 0), .val (.int 0), .val (.ref cs), .val (.int ln), .val (.int iv), .val (.int 1), .unset, .unset, .unset] []))
      refine Run.x_aloadN (q := 88) X37 hx (hb hby d4_87) rfl rfl rfl ?_
      replace FsentTo_5 := FsentTo_5.other W37 (Or.inr (slot_ne (Or.inr (wm17 hw)) (Or.inl (wm32 hw)) (by decide) (t := (.array (.array .int))) (t' := .boolean) (by decide) (by decide)))
      refine Run.z_getF (q := 91) X37 hx hZ e37 hown (wm16 hw) FsentTo_5 (hb hby d4_88) rfl fun T38 X38 e38 => ?_
      refine Run.x_iload (q := 93) X38 hx (hb hby d4_91) rfl rfl ?_
      replace Agr_5 := Agr_5.other W37 (Ne.symm ne_this_gr)
      refine Run.y_ldR (q := 94) X38 hx hZ e38 Agr_5 (i := 1) (v := (.ref r1)) (by decide) rfl rfl (hb hby d4_93) rfl ?_
      refine Run.x_iconst (q := 95) X38 hx (hb hby d4_94) (z := (0 : Int32)) rfl rfl ?_
      replace Ar1_5 := Ar1_5.other W37 (Ne.symm ne_this_r1)
      refine Run.callS X38 hx hZ e38 (y := (⟨"java/util/Arrays", "fill", "([II)V"⟩ : MethodName)) hown (wm18 hw) (wm19 hw) (wm20 hw) (wm21 hw) (by decide) (argsL := [(.ref r1), (.int 0)]) (rest := []) (c_fill l Z a0 hw r1 (0 : Int32) h37 n0 Z37 (own_row (fun _ => w1)) Ar1_5 g_r1 (by rw [own_row_len]; decide)) pd_0 rfl (by rw [hml]; rfl) (W := 0) rfl (by decide) (by decide) (by decide) (by decide) (hb hby d4_95) rfl ?_
      intro T39 v39 L39 X39 q39
      obtain ⟨rfl, M39, K39, A39⟩ := q39
      have N39 := Fr.app N37 M39
      show Run p e below s _ _ _ (T39.setTop (mkF m 98 #[.val (.ref this), .val (.ref cs), .val (.int 0), .val (.int 0), .val (.int 0), .val (.int 0), .val (.ref cs), .val (.int ln), .val (.int iv), .val (.int 1), .unset, .unset, .unset] []))
      have Z39 : n0 ≤ T39.heap.size := Nat.le_trans Z37 K39.1
      replace KP := KP.trans K39 (allS (Or.inl (by simp)) all0)
      replace A39 := own_toR A39
      refine Run.x_iinc (q := 101) X39 hx #[.val (.ref this), .val (.ref cs), .val (.int 0), .val (.int 0), .val (.int 0), .val (.int 0), .val (.ref cs), .val (.int ln), .val (.int (iv + (1 : Int32))), .val (.int 1), .unset, .unset, .unset] (hb hby d4_98) rfl (z := (iv + (1 : Int32))) rfl rfl rfl ?_
      refine Run.x_goto (q := 47) X39 hx (hb hby d4_101) (by decide) (by decide) ?_
      replace Ethis_5 := (Ethis_5.wr W37).keep K39
      replace Fprogressive_5 := (Fprogressive_5.other W37 (Or.inr (slot_ne (Or.inr (wm10 hw)) (Or.inl (wm32 hw)) (by decide) (t := .boolean) (t' := .boolean) (by decide) (by decide)))).keep K39 (ninS ne_this_r1 nin0)
      replace Fcomponents_5 := (Fcomponents_5.other W37 (Or.inr (slot_ne (Or.inr (wm12 hw)) (Or.inl (wm32 hw)) (by decide) (t := .int) (t' := .boolean) (by decide) (by decide)))).keep K39 (ninS ne_this_r1 nin0)
      replace FsentTo_5 := FsentTo_5.keep K39 (ninS ne_this_r1 nin0)
      replace Fcount_5 := (Fcount_5.other W37 (Or.inr (slot_ne (Or.inl (wm40 hw)) (Or.inl (wm32 hw)) (by decide) (t := .int) (t' := .boolean) (by decide) (by decide)))).keep K39 (ninS ne_this_r1 nin0)
      replace FsentAgain_5 := FsentAgain_5.keep K39 (ninS ne_this_r1 nin0)
      replace Agr_5 := Agr_5.keep K39 (ninS ne_gr_r1 nin0)
      replace Ar0_5 := (Ar0_5.other W37 (Ne.symm ne_this_r0)).keep K39 (ninS ne_r0_r1 nin0)
      replace Acs_5 := (Acs_5.other W37 (Ne.symm ne_this_cs)).keep K39 (ninS (Ne.symm ne_r1_cs) nin0)
      exact ih (i + 1) _ _ (1 : Int32) w0 (0 : Int32) T39 _ _ X39 rfl N39 Z39 KP Ethis_5 Fprogressive_5 Fcomponents_5 FsentTo_5 Fcount_5 FsentAgain_5 Agr_5 Ar0_5 A39 Acs_5 (own_ofn hiv (by omega)) (by omega) (Or.inr rfl) (by rw [own_st1n hc75] at hf; exact hf) (Or.inr ⟨_, rfl⟩)
 replace E_this := E_this.wr W2
 replace F_this_components := F_this_components.other W2 (Or.inr (slot_ne (Or.inr (wm12 hw)) (Or.inl (wm40 hw)) (by decide) (t := .int) (t' := .int) (by decide) (by decide)))
 replace F_this_sentTo := F_this_sentTo.other W2 (Or.inr (slot_ne (Or.inr (wm17 hw)) (Or.inl (wm40 hw)) (by decide) (t := (.array (.array .int))) (t' := .int) (by decide) (by decide)))
 replace F_this_sentAgain := F_this_sentAgain.other W2 (Or.inr (slot_ne (Or.inl (wm32 hw)) (Or.inl (wm40 hw)) (by decide) (t := .boolean) (t' := .int) (by decide) (by decide)))
 replace A_gr := A_gr.other W2 (Ne.symm ne_this_gr)
 replace A_r0 := A_r0.other W2 (Ne.symm ne_this_r0)
 replace A_r1 := A_r1.other W2 (Ne.symm ne_this_r1)
 exact loop es.length 0 _ _ sa w0 w1 T4 h2 _ X4 e4 N2 Z2 KP E_this F_this_progressive F_this_components F_this_sentTo F_this_count F_this_sentAgain A_gr A_r0 A_r1 A_cs (by decide) (by omega) hsa (by rw [List.drop_zero]; exact hF) (Or.inl rfl)
theorem ef_c_dc_1_0 (m : MethodId) (this : Addr) (cs : Addr) (low : Int32) : entryFrame m #[(.ref this), (.ref cs), (.int 0), (.int 0), (.int 0), (.int low)] 13 = mkF m 0 #[.val (.ref this), .val (.ref cs), .val (.int 0), .val (.int 0), .val (.int 0), .val (.int low), .unset, .unset, .unset, .unset, .unset, .unset, .unset] [] := by first | (simp [entryFrame, mkF, argsToLocals, Value.category]; done) | rfl
theorem wm41 {a0 : Array Value} {Z : State} (hw : ∀ d ∈ tables_1, d.before a0 Z = true) : (Jvm.Cond.methodLink "semblance/JpegScans" (49 : Nat) ({ cls := "java/lang/Math", name := "max", desc := "(II)I" } : Jvm.MethodName)).before a0 Z = true := hw _ (List.mem_of_getElem? (i := 41) rfl)
theorem wm44 {a0 : Array Value} {Z : State} (hw : ∀ d ∈ tables_1, d.before a0 Z = true) : (Jvm.Cond.code ({ cls := "java/lang/Math", name := "max", desc := "(II)I" } : Jvm.MethodName) jdk_29_method_65_code (2 : Nat) (Option.some Jvm.ClassFile.FieldType.int)).before a0 Z = true := hw _ (List.mem_of_getElem? (i := 44) rfl)
theorem pd_1 : parseMethodDescriptor "(II)I" = some ⟨[.int, .int], some .int⟩ := by decide +kernel
theorem wm42 {a0 : Array Value} {Z : State} (hw : ∀ d ∈ tables_1, d.before a0 Z = true) : (Jvm.Cond.static ({ cls := "java/lang/Math", name := "max", desc := "(II)I" } : Jvm.MethodName)).before a0 Z = true := hw _ (List.mem_of_getElem? (i := 42) rfl)
theorem wm43 {a0 : Array Value} {Z : State} (hw : ∀ d ∈ tables_1, d.before a0 Z = true) : (Jvm.Cond.initialized "java/lang/Math").before a0 Z = true := hw _ (List.mem_of_getElem? (i := 43) rfl)
set_option maxRecDepth 65536 in
set_option maxHeartbeats 40000000 in
theorem c_dc_1_0 (l : Launch) (Z : State) (a0 : Array Value) (hw : ∀ d ∈ tables_1, d.before a0 Z = true) (this : Addr) (cs : Addr) (low : Int32) (h0 : Heap) (n0 : Nat) (Z0 : n0 ≤ h0.size) (gr : Addr) (r0 : Addr) (cnt : Int32) (sa : Int32) (f0 : Nat → Int32) (E_this : Exa Z h0 this "semblance/JpegScans") (F_this_progressive : Fld Z h0 this "semblance/JpegScans" "progressive" "Z" (.int 1)) (F_this_components : Fld Z h0 this "semblance/JpegScans" "components" "I" (.int 1)) (F_this_sentTo : Fld Z h0 this "semblance/JpegScans" "sentTo" "[[I" (.ref gr)) (F_this_count : Fld Z h0 this "semblance/JpegScans" "count" "I" (.int cnt)) (F_this_sentAgain : Fld Z h0 this "semblance/JpegScans" "sentAgain" "Z" (.int sa)) (A_gr : Ars Z h0 gr (.array .int) [(.ref r0)]) (A_r0 : Ars Z h0 r0 .int (own_row f0)) (A_cs : Ars Z h0 cs .int [(.int 0)]) (g_this : n0 ≤ this) (g_r0 : n0 ≤ r0) (ne_this_gr : this ≠ gr) (ne_this_r0 : this ≠ r0) (ne_this_cs : this ≠ cs) (ne_gr_r0 : gr ≠ r0) (ne_gr_cs : gr ≠ cs) (ne_r0_cs : r0 ≠ cs) (hcnt : 0 ≤ cnt.toInt ∧ cnt.toInt ≤ 20) (hl : 0 ≤ low.toInt ∧ low.toInt ≤ 13) (hm0 : (if (f0 0) < (0 : Int32) then (0 : Int32) else (f0 0)) = (0 : Int32)) :
  Ctr l Z (⟨"semblance/JpegScans", "take", "([IIIII)Z"⟩ : MethodName) prog_41_method_2_code 13 (some .boolean) ({ frames := 1, cells := 0, slots := 0, locals := 14 } : Room) #[(.ref this), (.ref cs), (.int 0), (.int 0), (.int 0), (.int low)] h0 (fun v h L => ∃ b : Int32, v = some (.int b) ∧ Fr n0 L ∧ Keep h0 h [this, r0] ∧ Exa Z h this "semblance/JpegScans" ∧ Fld Z h this "semblance/JpegScans" "progressive" "Z" (.int 1) ∧ Fld Z h this "semblance/JpegScans" "components" "I" (.int 1) ∧ Fld Z h this "semblance/JpegScans" "sentTo" "[[I" (.ref gr) ∧ Fld Z h this "semblance/JpegScans" "count" "I" (.int (cnt + (1 : Int32))) ∧ Fld Z h this "semblance/JpegScans" "sentAgain" "Z" (.int sa) ∧ Ars Z h r0 .int (own_row (own_upd f0 0 low))) := by
 refine Ctr.of (plainFor_of_name pn_1) (fun m => ef_c_dc_1_0 m this cs low) ?_
 intro p e s m below meth c T0 hx hby hml hown hnm hret hlk hZ e0 X0
 have N0 := Fr.nil n0
 replace hown : s.vm.findClass "semblance/JpegScans" = some m.cls := hown
 replace hml : c.maxLocals = 13 := hml
 have KP := Keep.refl h0 [this, r0]
 refine Run.x_aloadN (q := 1) X0 hx (hb hby d4_0) rfl rfl rfl ?_
 refine Run.x_dup (q := 2) X0 hx (hb hby d4_1) rfl rfl ?_
 refine Run.z_getF (q := 5) X0 hx hZ e0 hown (wm39 hw) F_this_count (hb hby d4_2) rfl fun T1 X1 e1 => ?_
 refine Run.x_iconst (q := 6) X1 hx (hb hby d4_5) (z := (1 : Int32)) rfl rfl ?_
 refine Run.x_iadd (q := 7) X1 hx (hb hby d4_6) rfl rfl ?_
 obtain ⟨T2, h2, X2, e2, W2, st2⟩ := putF X1 hx hZ hown (host := "") (Or.inl (wm39 hw)) Via.refl e1 F_this_count E_this (Or.inl (wm40 hw)) (wm1 hw) (ty := .int) (by decide) rfl rfl (g := (mkF m 7 #[.val (.ref this), .val (.ref cs), .val (.int 0), .val (.int 0), .val (.int 0), .val (.int low), .unset, .unset, .unset, .unset, .unset, .unset, .unset] [(.int (cnt + (1 : Int32))), (.ref this)])) rfl rfl (hb hby d4_7)
 replace F_this_count := F_this_count.same W2
 have Z2 : n0 ≤ h2.size := Nat.le_trans Z0 (Nat.le_of_eq W2.size.symm)
 replace KP := KP.wr W2 (Or.inl (by simp))
 have N2 := Fr.snoc X2 N0 g_this
 refine Run.st st2 ?_
 show Run p e below s _ _ _ (T2.setTop (mkF m 10 #[.val (.ref this), .val (.ref cs), .val (.int 0), .val (.int 0), .val (.int 0), .val (.int low), .unset, .unset, .unset, .unset, .unset, .unset, .unset] []))
 refine Run.x_aloadN (q := 11) X2 hx (hb hby d4_10) rfl rfl rfl ?_
 refine Run.z_getF (q := 14) X2 hx hZ e2 hown (wm39 hw) F_this_count (hb hby d4_11) rfl fun T3 X3 e3 => ?_
 refine Run.x_bipush (q := 16) X3 hx (hb hby d4_14) (z := (32 : Int32)) rfl rfl ?_
 refine Run.x_icmpYes (q := 29) X3 hx (hb hby d4_16) (flt (own_c32 hcnt)).2.2.2 (by decide) (by decide) ?_
 refine Run.x_aloadN (q := 30) X3 hx (hb hby d4_29) rfl rfl rfl ?_
 replace F_this_progressive := F_this_progressive.other W2 (Or.inr (slot_ne (Or.inr (wm10 hw)) (Or.inl (wm40 hw)) (by decide) (t := .boolean) (t' := .int) (by decide) (by decide)))
 refine Run.z_getF (q := 33) X3 hx hZ e3 hown (wm9 hw) F_this_progressive (hb hby d4_30) rfl fun T4 X4 e4 => ?_
 refine Run.x_ifYes (q := 127) X4 hx (hb hby d4_33) ((if0 _ _).trans (feq (by decide : ¬ ((1 : Int32) = (0 : Int32)))).2) (by decide) (by decide) ?_
 refine Run.x_iloadN (q := 128) X4 hx (hb hby d4_127) rfl rfl ?_
 refine Run.x_ifNo (q := 131) X4 hx (hb hby d4_128) ((if0 _ _).trans (teq (by decide : (0 : Int32) = (0 : Int32))).2) rfl ?_
 refine Run.x_iloadN (q := 132) X4 hx (hb hby d4_131) rfl rfl ?_
 refine Run.x_ifNo (q := 135) X4 hx (hb hby d4_132) ((if0 _ _).trans (teq (by decide : (0 : Int32) = (0 : Int32))).2) rfl ?_
 refine Run.x_iconst (q := 136) X4 hx (hb hby d4_135) (z := (1 : Int32)) rfl rfl ?_
 refine Run.x_goto (q := 165) X4 hx (hb hby d4_136) (by decide) (by decide) ?_
 refine Run.x_istore (q := 167) X4 hx #[.val (.ref this), .val (.ref cs), .val (.int 0), .val (.int 0), .val (.int 0), .val (.int low), .val (.int 1), .unset, .unset, .unset, .unset, .unset, .unset] (hb hby d4_165) rfl rfl ?_
 refine Run.x_iload (q := 169) X4 hx (hb hby d4_167) rfl rfl ?_
 refine Run.x_ifNo (q := 172) X4 hx (hb hby d4_169) ((if0 _ _).trans (feq (by decide : ¬ ((1 : Int32) = (0 : Int32)))).1) rfl ?_
 refine Run.x_iload (q := 174) X4 hx (hb hby d4_172) rfl rfl ?_
 refine Run.x_ifYes (q := 186) X4 hx (hb hby d4_174) ((if0 _ _).trans (teq (by decide : (0 : Int32) = (0 : Int32))).1) (by decide) (by decide) ?_
 refine Run.x_iload (q := 188) X4 hx (hb hby d4_186) rfl rfl ?_
 refine Run.x_bipush (q := 190) X4 hx (hb hby d4_188) (z := (13 : Int32)) rfl rfl ?_
 refine Run.x_icmpYes (q := 216) X4 hx (hb hby d4_190) (flt (own_13 hl)).2.2.2 (by decide) (by decide) ?_
 refine Run.x_aloadN (q := 217) X4 hx (hb hby d4_216) rfl rfl rfl ?_
 refine Run.x_astore (q := 219) X4 hx #[.val (.ref this), .val (.ref cs), .val (.int 0), .val (.int 0), .val (.int 0), .val (.int low), .val (.int 1), .val (.ref cs), .unset, .unset, .unset, .unset, .unset] (hb hby d4_217) rfl rfl rfl ?_
 refine Run.x_aload (q := 221) X4 hx (hb hby d4_219) rfl rfl rfl ?_
 replace A_cs := A_cs.other W2 (Ne.symm ne_this_cs)
 refine Run.y_alen (q := 222) X4 hx hZ e4 A_cs (z := (1 : Int32)) (by decide) (hb hby d4_221) rfl ?_
 refine Run.x_istore (q := 224) X4 hx #[.val (.ref this), .val (.ref cs), .val (.int 0), .val (.int 0), .val (.int 0), .val (.int low), .val (.int 1), .val (.ref cs), .val (.int 1), .unset, .unset, .unset, .unset] (hb hby d4_222) rfl rfl ?_
 refine Run.x_iconst (q := 225) X4 hx (hb hby d4_224) (z := (0 : Int32)) rfl rfl ?_
 refine Run.x_istore (q := 227) X4 hx #[.val (.ref this), .val (.ref cs), .val (.int 0), .val (.int 0), .val (.int 0), .val (.int low), .val (.int 1), .val (.ref cs), .val (.int 1), .val (.int 0), .unset, .unset, .unset] (hb hby d4_225) rfl rfl ?_
 refine Run.x_iload (q := 229) X4 hx (hb hby d4_227) rfl rfl ?_
 refine Run.x_iload (q := 231) X4 hx (hb hby d4_229) rfl rfl ?_
 refine Run.x_icmpNo (q := 234) X4 hx (hb hby d4_231) (tlt (by decide : (0 : Int32) < (1 : Int32))).2.1 rfl ?_
 refine Run.x_aload (q := 236) X4 hx (hb hby d4_234) rfl rfl rfl ?_
 refine Run.x_iload (q := 238) X4 hx (hb hby d4_236) rfl rfl ?_
 refine Run.y_ldI (q := 239) X4 hx hZ e4 A_cs (i := 0) (v := (.int 0)) (by decide) rfl (hb hby d4_238) rfl ?_
 refine Run.x_istore (q := 241) X4 hx #[.val (.ref this), .val (.ref cs), .val (.int 0), .val (.int 0), .val (.int 0), .val (.int low), .val (.int 1), .val (.ref cs), .val (.int 1), .val (.int 0), .val (.int 0), .unset, .unset] (hb hby d4_239) rfl rfl ?_
 refine Run.x_aloadN (q := 242) X4 hx (hb hby d4_241) rfl rfl rfl ?_
 replace F_this_sentTo := F_this_sentTo.other W2 (Or.inr (slot_ne (Or.inr (wm17 hw)) (Or.inl (wm40 hw)) (by decide) (t := (.array (.array .int))) (t' := .int) (by decide) (by decide)))
 refine Run.z_getF (q := 245) X4 hx hZ e4 hown (wm16 hw) F_this_sentTo (hb hby d4_242) rfl fun T5 X5 e5 => ?_
 refine Run.x_iload (q := 247) X5 hx (hb hby d4_245) rfl rfl ?_
 replace A_gr := A_gr.other W2 (Ne.symm ne_this_gr)
 refine Run.y_ldR (q := 248) X5 hx hZ e5 A_gr (i := 0) (v := (.ref r0)) (by decide) rfl rfl (hb hby d4_247) rfl ?_
 refine Run.x_astore (q := 250) X5 hx #[.val (.ref this), .val (.ref cs), .val (.int 0), .val (.int 0), .val (.int 0), .val (.int low), .val (.int 1), .val (.ref cs), .val (.int 1), .val (.int 0), .val (.int 0), .val (.ref r0), .unset] (hb hby d4_248) rfl rfl rfl ?_
 refine Run.x_iloadN (q := 251) X5 hx (hb hby d4_250) rfl rfl ?_
 refine Run.x_ifYes (q := 269) X5 hx (hb hby d4_251) ((if0 _ _).trans (flt (by decide : ¬ ((0 : Int32) < (0 : Int32)))).2.2.2) (by decide) (by decide) ?_
 refine Run.x_iloadN (q := 270) X5 hx (hb hby d4_269) rfl rfl ?_
 refine Run.x_istore (q := 272) X5 hx #[.val (.ref this), .val (.ref cs), .val (.int 0), .val (.int 0), .val (.int 0), .val (.int low), .val (.int 1), .val (.ref cs), .val (.int 1), .val (.int 0), .val (.int 0), .val (.ref r0), .val (.int 0)] (hb hby d4_270) rfl rfl ?_
 refine Run.x_iload (q := 274) X5 hx (hb hby d4_272) rfl rfl ?_
 refine Run.x_iloadN (q := 275) X5 hx (hb hby d4_274) rfl rfl ?_
 refine Run.x_icmpNo (q := 278) X5 hx (hb hby d4_275) (flt (by decide : ¬ ((0 : Int32) < (0 : Int32)))).2.2.1 rfl ?_
 refine Run.x_iload (q := 280) X5 hx (hb hby d4_278) rfl rfl ?_
 refine Run.x_aload (q := 282) X5 hx (hb hby d4_280) rfl rfl rfl ?_
 refine Run.x_iload (q := 284) X5 hx (hb hby d4_282) rfl rfl ?_
 replace A_r0 := A_r0.other W2 (Ne.symm ne_this_r0)
 refine Run.y_ldI (q := 285) X5 hx hZ e5 A_r0 (i := 0) (v := (.int (f0 0))) (by decide) (own_row_at (by decide)) (hb hby d4_284) rfl ?_
 refine Run.x_iconst (q := 286) X5 hx (hb hby d4_285) (z := (0 : Int32)) rfl rfl ?_
 refine Run.callSI (q := 289) X5 hx hZ e5 (y := (⟨"java/lang/Math", "max", "(II)I"⟩ : MethodName)) hown (wm41 hw) (wm42 hw) (wm43 hw) (wm44 hw) (by decide) (argsL := [(.int (f0 0)), (.int 0)]) (rest := [(.int 0)]) (c_max l Z a0 hw (f0 0) (0 : Int32) h2 n0 Z2 (0 : Int32) hm0) pd_1 rfl (by rw [hml]; rfl) (W := 1) rfl (by decide) (by decide) (by decide) (by decide) (hb hby d4_286) rfl rfl fun T6 L6 X6 M6 e6 => ?_
 have N6 := Fr.app N2 M6
 refine Run.x_icmpYes (q := 301) X6 hx (hb hby d4_289) (teq (by decide : (0 : Int32) = (0 : Int32))).1 (by decide) (by decide) ?_
 refine Run.x_aload (q := 303) X6 hx (hb hby d4_301) rfl rfl rfl ?_
 refine Run.x_iload (q := 305) X6 hx (hb hby d4_303) rfl rfl ?_
 refine Run.x_iload (q := 307) X6 hx (hb hby d4_305) rfl rfl ?_
 refine Run.y_stI (q := 308) X6 hx hZ e6 A_r0 (i := 0) (by decide) (by rw [own_row_len]; decide) (hb hby d4_307) rfl fun T7 h7 X7 e7 W7 A7 => ?_
 replace A_r0 : Ars Z h7 r0 .int ((own_row f0).set 0 (Value.int low)) := A7
 replace KP := KP.wr W7 (Or.inl (by simp))
 have N7 := Fr.snoc X7 N6 g_r0
 have Z7 : n0 ≤ h7.size := Nat.le_trans Z2 (Nat.le_of_eq W7.size.symm)
 replace A_r0 : Ars Z h7 r0 .int (own_row (own_upd f0 0 low)) := by rw [← own_row_set (by decide)]; exact A_r0
 refine Run.x_iinc (q := 311) X7 hx #[.val (.ref this), .val (.ref cs), .val (.int 0), .val (.int 0), .val (.int 0), .val (.int low), .val (.int 1), .val (.ref cs), .val (.int 1), .val (.int 0), .val (.int 0), .val (.ref r0), .val (.int 1)] (hb hby d4_308) rfl (z := (1 : Int32)) (by decide) rfl rfl ?_
 refine Run.x_goto (q := 272) X7 hx (hb hby d4_311) (by decide) (by decide) ?_
 refine Run.x_iload (q := 274) X7 hx (hb hby d4_272) rfl rfl ?_
 refine Run.x_iloadN (q := 275) X7 hx (hb hby d4_274) rfl rfl ?_
 refine Run.x_icmpYes (q := 314) X7 hx (hb hby d4_275) (tlt (by decide : (0 : Int32) < (1 : Int32))).2.2.1 (by decide) (by decide) ?_
 refine Run.x_iinc (q := 317) X7 hx #[.val (.ref this), .val (.ref cs), .val (.int 0), .val (.int 0), .val (.int 0), .val (.int low), .val (.int 1), .val (.ref cs), .val (.int 1), .val (.int 1), .val (.int 0), .val (.ref r0), .val (.int 1)] (hb hby d4_314) rfl (z := (1 : Int32)) (by decide) rfl rfl ?_
 refine Run.x_goto (q := 227) X7 hx (hb hby d4_317) (by decide) (by decide) ?_
 refine Run.x_iload (q := 229) X7 hx (hb hby d4_227) rfl rfl ?_
 refine Run.x_iload (q := 231) X7 hx (hb hby d4_229) rfl rfl ?_
 refine Run.x_icmpYes (q := 320) X7 hx (hb hby d4_231) (flt (by decide : ¬ ((1 : Int32) < (1 : Int32)))).2.1 (by decide) (by decide) ?_
 refine Run.x_iconst (q := 321) X7 hx (hb hby d4_320) (z := (1 : Int32)) rfl rfl ?_
 replace E_this := (E_this.wr W2).wr W7
 replace F_this_progressive := F_this_progressive.other W7 (Or.inl ne_this_r0)
 replace F_this_components := (F_this_components.other W2 (Or.inr (slot_ne (Or.inr (wm12 hw)) (Or.inl (wm40 hw)) (by decide) (t := .int) (t' := .int) (by decide) (by decide)))).other W7 (Or.inl ne_this_r0)
 replace F_this_sentTo := F_this_sentTo.other W7 (Or.inl ne_this_r0)
 replace F_this_count := F_this_count.other W7 (Or.inl ne_this_r0)
 replace F_this_sentAgain := (F_this_sentAgain.other W2 (Or.inr (slot_ne (Or.inl (wm32 hw)) (Or.inl (wm40 hw)) (by decide) (t := .boolean) (t' := .int) (by decide) (by decide)))).other W7 (Or.inl ne_this_r0)
 replace A_gr := A_gr.other W7 ne_gr_r0
 replace A_cs := A_cs.other W7 (Ne.symm ne_r0_cs)
 refine Run.retN X7 hx hlk e7 (t := .boolean) hret (by simp) (z' := (1 : Int32)) (by decide) (hb hby d4_321) (by decide) (by decide) ?_
 exact ⟨_, rfl, N7, KP, E_this, F_this_progressive, F_this_components, F_this_sentTo, F_this_count, F_this_sentAgain, A_r0⟩
theorem ef_c_dc_1_1 (m : MethodId) (this : Addr) (cs : Addr) (hi : Int32) (low : Int32) : entryFrame m #[(.ref this), (.ref cs), (.int 0), (.int 0), (.int hi), (.int low)] 13 = mkF m 0 #[.val (.ref this), .val (.ref cs), .val (.int 0), .val (.int 0), .val (.int hi), .val (.int low), .unset, .unset, .unset, .unset, .unset, .unset, .unset] [] := by first | (simp [entryFrame, mkF, argsToLocals, Value.category]; done) | rfl
set_option maxRecDepth 65536 in
set_option maxHeartbeats 40000000 in
theorem c_dc_1_1 (l : Launch) (Z : State) (a0 : Array Value) (hw : ∀ d ∈ tables_1, d.before a0 Z = true) (this : Addr) (cs : Addr) (hi : Int32) (low : Int32) (h0 : Heap) (n0 : Nat) (Z0 : n0 ≤ h0.size) (gr : Addr) (r0 : Addr) (cnt : Int32) (sa : Int32) (f0 : Nat → Int32) (E_this : Exa Z h0 this "semblance/JpegScans") (F_this_progressive : Fld Z h0 this "semblance/JpegScans" "progressive" "Z" (.int 1)) (F_this_components : Fld Z h0 this "semblance/JpegScans" "components" "I" (.int 1)) (F_this_sentTo : Fld Z h0 this "semblance/JpegScans" "sentTo" "[[I" (.ref gr)) (F_this_count : Fld Z h0 this "semblance/JpegScans" "count" "I" (.int cnt)) (F_this_sentAgain : Fld Z h0 this "semblance/JpegScans" "sentAgain" "Z" (.int sa)) (A_gr : Ars Z h0 gr (.array .int) [(.ref r0)]) (A_r0 : Ars Z h0 r0 .int (own_row f0)) (A_cs : Ars Z h0 cs .int [(.int 0)]) (g_this : n0 ≤ this) (g_r0 : n0 ≤ r0) (ne_this_gr : this ≠ gr) (ne_this_r0 : this ≠ r0) (ne_this_cs : this ≠ cs) (ne_gr_r0 : gr ≠ r0) (ne_gr_cs : gr ≠ cs) (ne_r0_cs : r0 ≠ cs) (hcnt : 0 ≤ cnt.toInt ∧ cnt.toInt ≤ 20) (hl : 0 ≤ low.toInt ∧ low.toInt ≤ 13) (hm0 : (if (f0 0) < (0 : Int32) then (0 : Int32) else (f0 0)) = hi) (hh : ¬ hi = (0 : Int32)) (hlo : low = (hi - (1 : Int32))) :
  Ctr l Z (⟨"semblance/JpegScans", "take", "([IIIII)Z"⟩ : MethodName) prog_41_method_2_code 13 (some .boolean) ({ frames := 1, cells := 0, slots := 0, locals := 14 } : Room) #[(.ref this), (.ref cs), (.int 0), (.int 0), (.int hi), (.int low)] h0 (fun v h L => ∃ b : Int32, v = some (.int b) ∧ Fr n0 L ∧ Keep h0 h [this, r0] ∧ Exa Z h this "semblance/JpegScans" ∧ Fld Z h this "semblance/JpegScans" "progressive" "Z" (.int 1) ∧ Fld Z h this "semblance/JpegScans" "components" "I" (.int 1) ∧ Fld Z h this "semblance/JpegScans" "sentTo" "[[I" (.ref gr) ∧ Fld Z h this "semblance/JpegScans" "count" "I" (.int (cnt + (1 : Int32))) ∧ Fld Z h this "semblance/JpegScans" "sentAgain" "Z" (.int sa) ∧ Ars Z h r0 .int (own_row (own_upd f0 0 low))) := by
 refine Ctr.of (plainFor_of_name pn_1) (fun m => ef_c_dc_1_1 m this cs hi low) ?_
 intro p e s m below meth c T0 hx hby hml hown hnm hret hlk hZ e0 X0
 have N0 := Fr.nil n0
 replace hown : s.vm.findClass "semblance/JpegScans" = some m.cls := hown
 replace hml : c.maxLocals = 13 := hml
 have KP := Keep.refl h0 [this, r0]
 refine Run.x_aloadN (q := 1) X0 hx (hb hby d4_0) rfl rfl rfl ?_
 refine Run.x_dup (q := 2) X0 hx (hb hby d4_1) rfl rfl ?_
 refine Run.z_getF (q := 5) X0 hx hZ e0 hown (wm39 hw) F_this_count (hb hby d4_2) rfl fun T1 X1 e1 => ?_
 refine Run.x_iconst (q := 6) X1 hx (hb hby d4_5) (z := (1 : Int32)) rfl rfl ?_
 refine Run.x_iadd (q := 7) X1 hx (hb hby d4_6) rfl rfl ?_
 obtain ⟨T2, h2, X2, e2, W2, st2⟩ := putF X1 hx hZ hown (host := "") (Or.inl (wm39 hw)) Via.refl e1 F_this_count E_this (Or.inl (wm40 hw)) (wm1 hw) (ty := .int) (by decide) rfl rfl (g := (mkF m 7 #[.val (.ref this), .val (.ref cs), .val (.int 0), .val (.int 0), .val (.int hi), .val (.int low), .unset, .unset, .unset, .unset, .unset, .unset, .unset] [(.int (cnt + (1 : Int32))), (.ref this)])) rfl rfl (hb hby d4_7)
 replace F_this_count := F_this_count.same W2
 have Z2 : n0 ≤ h2.size := Nat.le_trans Z0 (Nat.le_of_eq W2.size.symm)
 replace KP := KP.wr W2 (Or.inl (by simp))
 have N2 := Fr.snoc X2 N0 g_this
 refine Run.st st2 ?_
 show Run p e below s _ _ _ (T2.setTop (mkF m 10 #[.val (.ref this), .val (.ref cs), .val (.int 0), .val (.int 0), .val (.int hi), .val (.int low), .unset, .unset, .unset, .unset, .unset, .unset, .unset] []))
 refine Run.x_aloadN (q := 11) X2 hx (hb hby d4_10) rfl rfl rfl ?_
 refine Run.z_getF (q := 14) X2 hx hZ e2 hown (wm39 hw) F_this_count (hb hby d4_11) rfl fun T3 X3 e3 => ?_
 refine Run.x_bipush (q := 16) X3 hx (hb hby d4_14) (z := (32 : Int32)) rfl rfl ?_
 refine Run.x_icmpYes (q := 29) X3 hx (hb hby d4_16) (flt (own_c32 hcnt)).2.2.2 (by decide) (by decide) ?_
 refine Run.x_aloadN (q := 30) X3 hx (hb hby d4_29) rfl rfl rfl ?_
 replace F_this_progressive := F_this_progressive.other W2 (Or.inr (slot_ne (Or.inr (wm10 hw)) (Or.inl (wm40 hw)) (by decide) (t := .boolean) (t' := .int) (by decide) (by decide)))
 refine Run.z_getF (q := 33) X3 hx hZ e3 hown (wm9 hw) F_this_progressive (hb hby d4_30) rfl fun T4 X4 e4 => ?_
 refine Run.x_ifYes (q := 127) X4 hx (hb hby d4_33) ((if0 _ _).trans (feq (by decide : ¬ ((1 : Int32) = (0 : Int32)))).2) (by decide) (by decide) ?_
 refine Run.x_iloadN (q := 128) X4 hx (hb hby d4_127) rfl rfl ?_
 refine Run.x_ifNo (q := 131) X4 hx (hb hby d4_128) ((if0 _ _).trans (teq (by decide : (0 : Int32) = (0 : Int32))).2) rfl ?_
 refine Run.x_iloadN (q := 132) X4 hx (hb hby d4_131) rfl rfl ?_
 refine Run.x_ifNo (q := 135) X4 hx (hb hby d4_132) ((if0 _ _).trans (teq (by decide : (0 : Int32) = (0 : Int32))).2) rfl ?_
 refine Run.x_iconst (q := 136) X4 hx (hb hby d4_135) (z := (1 : Int32)) rfl rfl ?_
 refine Run.x_goto (q := 165) X4 hx (hb hby d4_136) (by decide) (by decide) ?_
 refine Run.x_istore (q := 167) X4 hx #[.val (.ref this), .val (.ref cs), .val (.int 0), .val (.int 0), .val (.int hi), .val (.int low), .val (.int 1), .unset, .unset, .unset, .unset, .unset, .unset] (hb hby d4_165) rfl rfl ?_
 refine Run.x_iload (q := 169) X4 hx (hb hby d4_167) rfl rfl ?_
 refine Run.x_ifNo (q := 172) X4 hx (hb hby d4_169) ((if0 _ _).trans (feq (by decide : ¬ ((1 : Int32) = (0 : Int32)))).1) rfl ?_
 refine Run.x_iload (q := 174) X4 hx (hb hby d4_172) rfl rfl ?_
 refine Run.x_ifNo (q := 177) X4 hx (hb hby d4_174) ((if0 _ _).trans (feq hh).1) rfl ?_
 refine Run.x_iload (q := 179) X4 hx (hb hby d4_177) rfl rfl ?_
 refine Run.x_iload (q := 181) X4 hx (hb hby d4_179) rfl rfl ?_
 refine Run.x_iconst (q := 182) X4 hx (hb hby d4_181) (z := (1 : Int32)) rfl rfl ?_
 refine Run.x_isub (q := 183) X4 hx (hb hby d4_182) rfl rfl ?_
 refine Run.x_icmpNo (q := 186) X4 hx (hb hby d4_183) (teq hlo).2 rfl ?_
 refine Run.x_iload (q := 188) X4 hx (hb hby d4_186) rfl rfl ?_
 refine Run.x_bipush (q := 190) X4 hx (hb hby d4_188) (z := (13 : Int32)) rfl rfl ?_
 refine Run.x_icmpYes (q := 216) X4 hx (hb hby d4_190) (flt (own_13 hl)).2.2.2 (by decide) (by decide) ?_
 refine Run.x_aloadN (q := 217) X4 hx (hb hby d4_216) rfl rfl rfl ?_
 refine Run.x_astore (q := 219) X4 hx #[.val (.ref this), .val (.ref cs), .val (.int 0), .val (.int 0), .val (.int hi), .val (.int low), .val (.int 1), .val (.ref cs), .unset, .unset, .unset, .unset, .unset] (hb hby d4_217) rfl rfl rfl ?_
 refine Run.x_aload (q := 221) X4 hx (hb hby d4_219) rfl rfl rfl ?_
 replace A_cs := A_cs.other W2 (Ne.symm ne_this_cs)
 refine Run.y_alen (q := 222) X4 hx hZ e4 A_cs (z := (1 : Int32)) (by decide) (hb hby d4_221) rfl ?_
 refine Run.x_istore (q := 224) X4 hx #[.val (.ref this), .val (.ref cs), .val (.int 0), .val (.int 0), .val (.int hi), .val (.int low), .val (.int 1), .val (.ref cs), .val (.int 1), .unset, .unset, .unset, .unset] (hb hby d4_222) rfl rfl ?_
 refine Run.x_iconst (q := 225) X4 hx (hb hby d4_224) (z := (0 : Int32)) rfl rfl ?_
 refine Run.x_istore (q := 227) X4 hx #[.val (.ref this), .val (.ref cs), .val (.int 0), .val (.int 0), .val (.int hi), .val (.int low), .val (.int 1), .val (.ref cs), .val (.int 1), .val (.int 0), .unset, .unset, .unset] (hb hby d4_225) rfl rfl ?_
 refine Run.x_iload (q := 229) X4 hx (hb hby d4_227) rfl rfl ?_
 refine Run.x_iload (q := 231) X4 hx (hb hby d4_229) rfl rfl ?_
 refine Run.x_icmpNo (q := 234) X4 hx (hb hby d4_231) (tlt (by decide : (0 : Int32) < (1 : Int32))).2.1 rfl ?_
 refine Run.x_aload (q := 236) X4 hx (hb hby d4_234) rfl rfl rfl ?_
 refine Run.x_iload (q := 238) X4 hx (hb hby d4_236) rfl rfl ?_
 refine Run.y_ldI (q := 239) X4 hx hZ e4 A_cs (i := 0) (v := (.int 0)) (by decide) rfl (hb hby d4_238) rfl ?_
 refine Run.x_istore (q := 241) X4 hx #[.val (.ref this), .val (.ref cs), .val (.int 0), .val (.int 0), .val (.int hi), .val (.int low), .val (.int 1), .val (.ref cs), .val (.int 1), .val (.int 0), .val (.int 0), .unset, .unset] (hb hby d4_239) rfl rfl ?_
 refine Run.x_aloadN (q := 242) X4 hx (hb hby d4_241) rfl rfl rfl ?_
 replace F_this_sentTo := F_this_sentTo.other W2 (Or.inr (slot_ne (Or.inr (wm17 hw)) (Or.inl (wm40 hw)) (by decide) (t := (.array (.array .int))) (t' := .int) (by decide) (by decide)))
 refine Run.z_getF (q := 245) X4 hx hZ e4 hown (wm16 hw) F_this_sentTo (hb hby d4_242) rfl fun T5 X5 e5 => ?_
 refine Run.x_iload (q := 247) X5 hx (hb hby d4_245) rfl rfl ?_
 replace A_gr := A_gr.other W2 (Ne.symm ne_this_gr)
 refine Run.y_ldR (q := 248) X5 hx hZ e5 A_gr (i := 0) (v := (.ref r0)) (by decide) rfl rfl (hb hby d4_247) rfl ?_
 refine Run.x_astore (q := 250) X5 hx #[.val (.ref this), .val (.ref cs), .val (.int 0), .val (.int 0), .val (.int hi), .val (.int low), .val (.int 1), .val (.ref cs), .val (.int 1), .val (.int 0), .val (.int 0), .val (.ref r0), .unset] (hb hby d4_248) rfl rfl rfl ?_
 refine Run.x_iloadN (q := 251) X5 hx (hb hby d4_250) rfl rfl ?_
 refine Run.x_ifYes (q := 269) X5 hx (hb hby d4_251) ((if0 _ _).trans (flt (by decide : ¬ ((0 : Int32) < (0 : Int32)))).2.2.2) (by decide) (by decide) ?_
 refine Run.x_iloadN (q := 270) X5 hx (hb hby d4_269) rfl rfl ?_
 refine Run.x_istore (q := 272) X5 hx #[.val (.ref this), .val (.ref cs), .val (.int 0), .val (.int 0), .val (.int hi), .val (.int low), .val (.int 1), .val (.ref cs), .val (.int 1), .val (.int 0), .val (.int 0), .val (.ref r0), .val (.int 0)] (hb hby d4_270) rfl rfl ?_
 refine Run.x_iload (q := 274) X5 hx (hb hby d4_272) rfl rfl ?_
 refine Run.x_iloadN (q := 275) X5 hx (hb hby d4_274) rfl rfl ?_
 refine Run.x_icmpNo (q := 278) X5 hx (hb hby d4_275) (flt (by decide : ¬ ((0 : Int32) < (0 : Int32)))).2.2.1 rfl ?_
 refine Run.x_iload (q := 280) X5 hx (hb hby d4_278) rfl rfl ?_
 refine Run.x_aload (q := 282) X5 hx (hb hby d4_280) rfl rfl rfl ?_
 refine Run.x_iload (q := 284) X5 hx (hb hby d4_282) rfl rfl ?_
 replace A_r0 := A_r0.other W2 (Ne.symm ne_this_r0)
 refine Run.y_ldI (q := 285) X5 hx hZ e5 A_r0 (i := 0) (v := (.int (f0 0))) (by decide) (own_row_at (by decide)) (hb hby d4_284) rfl ?_
 refine Run.x_iconst (q := 286) X5 hx (hb hby d4_285) (z := (0 : Int32)) rfl rfl ?_
 refine Run.callSI (q := 289) X5 hx hZ e5 (y := (⟨"java/lang/Math", "max", "(II)I"⟩ : MethodName)) hown (wm41 hw) (wm42 hw) (wm43 hw) (wm44 hw) (by decide) (argsL := [(.int (f0 0)), (.int 0)]) (rest := [(.int hi)]) (c_max l Z a0 hw (f0 0) (0 : Int32) h2 n0 Z2 hi hm0) pd_1 rfl (by rw [hml]; rfl) (W := 1) rfl (by decide) (by decide) (by decide) (by decide) (hb hby d4_286) rfl rfl fun T6 L6 X6 M6 e6 => ?_
 have N6 := Fr.app N2 M6
 refine Run.x_icmpYes (q := 301) X6 hx (hb hby d4_289) (teq rfl).1 (by decide) (by decide) ?_
 refine Run.x_aload (q := 303) X6 hx (hb hby d4_301) rfl rfl rfl ?_
 refine Run.x_iload (q := 305) X6 hx (hb hby d4_303) rfl rfl ?_
 refine Run.x_iload (q := 307) X6 hx (hb hby d4_305) rfl rfl ?_
 refine Run.y_stI (q := 308) X6 hx hZ e6 A_r0 (i := 0) (by decide) (by rw [own_row_len]; decide) (hb hby d4_307) rfl fun T7 h7 X7 e7 W7 A7 => ?_
 replace A_r0 : Ars Z h7 r0 .int ((own_row f0).set 0 (Value.int low)) := A7
 replace KP := KP.wr W7 (Or.inl (by simp))
 have N7 := Fr.snoc X7 N6 g_r0
 have Z7 : n0 ≤ h7.size := Nat.le_trans Z2 (Nat.le_of_eq W7.size.symm)
 replace A_r0 : Ars Z h7 r0 .int (own_row (own_upd f0 0 low)) := by rw [← own_row_set (by decide)]; exact A_r0
 refine Run.x_iinc (q := 311) X7 hx #[.val (.ref this), .val (.ref cs), .val (.int 0), .val (.int 0), .val (.int hi), .val (.int low), .val (.int 1), .val (.ref cs), .val (.int 1), .val (.int 0), .val (.int 0), .val (.ref r0), .val (.int 1)] (hb hby d4_308) rfl (z := (1 : Int32)) (by decide) rfl rfl ?_
 refine Run.x_goto (q := 272) X7 hx (hb hby d4_311) (by decide) (by decide) ?_
 refine Run.x_iload (q := 274) X7 hx (hb hby d4_272) rfl rfl ?_
 refine Run.x_iloadN (q := 275) X7 hx (hb hby d4_274) rfl rfl ?_
 refine Run.x_icmpYes (q := 314) X7 hx (hb hby d4_275) (tlt (by decide : (0 : Int32) < (1 : Int32))).2.2.1 (by decide) (by decide) ?_
 refine Run.x_iinc (q := 317) X7 hx #[.val (.ref this), .val (.ref cs), .val (.int 0), .val (.int 0), .val (.int hi), .val (.int low), .val (.int 1), .val (.ref cs), .val (.int 1), .val (.int 1), .val (.int 0), .val (.ref r0), .val (.int 1)] (hb hby d4_314) rfl (z := (1 : Int32)) (by decide) rfl rfl ?_
 refine Run.x_goto (q := 227) X7 hx (hb hby d4_317) (by decide) (by decide) ?_
 refine Run.x_iload (q := 229) X7 hx (hb hby d4_227) rfl rfl ?_
 refine Run.x_iload (q := 231) X7 hx (hb hby d4_229) rfl rfl ?_
 refine Run.x_icmpYes (q := 320) X7 hx (hb hby d4_231) (flt (by decide : ¬ ((1 : Int32) < (1 : Int32)))).2.1 (by decide) (by decide) ?_
 refine Run.x_iconst (q := 321) X7 hx (hb hby d4_320) (z := (1 : Int32)) rfl rfl ?_
 replace E_this := (E_this.wr W2).wr W7
 replace F_this_progressive := F_this_progressive.other W7 (Or.inl ne_this_r0)
 replace F_this_components := (F_this_components.other W2 (Or.inr (slot_ne (Or.inr (wm12 hw)) (Or.inl (wm40 hw)) (by decide) (t := .int) (t' := .int) (by decide) (by decide)))).other W7 (Or.inl ne_this_r0)
 replace F_this_sentTo := F_this_sentTo.other W7 (Or.inl ne_this_r0)
 replace F_this_count := F_this_count.other W7 (Or.inl ne_this_r0)
 replace F_this_sentAgain := (F_this_sentAgain.other W2 (Or.inr (slot_ne (Or.inl (wm32 hw)) (Or.inl (wm40 hw)) (by decide) (t := .boolean) (t' := .int) (by decide) (by decide)))).other W7 (Or.inl ne_this_r0)
 replace A_gr := A_gr.other W7 ne_gr_r0
 replace A_cs := A_cs.other W7 (Ne.symm ne_r0_cs)
 refine Run.retN X7 hx hlk e7 (t := .boolean) hret (by simp) (z' := (1 : Int32)) (by decide) (hb hby d4_321) (by decide) (by decide) ?_
 exact ⟨_, rfl, N7, KP, E_this, F_this_progressive, F_this_components, F_this_sentTo, F_this_count, F_this_sentAgain, A_r0⟩
theorem ef_c_dc_2_0 (m : MethodId) (this : Addr) (cs : Addr) (low : Int32) : entryFrame m #[(.ref this), (.ref cs), (.int 0), (.int 0), (.int 0), (.int low)] 13 = mkF m 0 #[.val (.ref this), .val (.ref cs), .val (.int 0), .val (.int 0), .val (.int 0), .val (.int low), .unset, .unset, .unset, .unset, .unset, .unset, .unset] [] := by first | (simp [entryFrame, mkF, argsToLocals, Value.category]; done) | rfl
set_option maxRecDepth 65536 in
set_option maxHeartbeats 40000000 in
theorem c_dc_2_0 (l : Launch) (Z : State) (a0 : Array Value) (hw : ∀ d ∈ tables_1, d.before a0 Z = true) (this : Addr) (cs : Addr) (low : Int32) (h0 : Heap) (n0 : Nat) (Z0 : n0 ≤ h0.size) (gr : Addr) (r0 : Addr) (r1 : Addr) (cnt : Int32) (sa : Int32) (f0 : Nat → Int32) (f1 : Nat → Int32) (E_this : Exa Z h0 this "semblance/JpegScans") (F_this_progressive : Fld Z h0 this "semblance/JpegScans" "progressive" "Z" (.int 1)) (F_this_components : Fld Z h0 this "semblance/JpegScans" "components" "I" (.int 2)) (F_this_sentTo : Fld Z h0 this "semblance/JpegScans" "sentTo" "[[I" (.ref gr)) (F_this_count : Fld Z h0 this "semblance/JpegScans" "count" "I" (.int cnt)) (F_this_sentAgain : Fld Z h0 this "semblance/JpegScans" "sentAgain" "Z" (.int sa)) (A_gr : Ars Z h0 gr (.array .int) [(.ref r0), (.ref r1)]) (A_r0 : Ars Z h0 r0 .int (own_row f0)) (A_r1 : Ars Z h0 r1 .int (own_row f1)) (A_cs : Ars Z h0 cs .int [(.int 0), (.int 1)]) (g_this : n0 ≤ this) (g_r0 : n0 ≤ r0) (g_r1 : n0 ≤ r1) (ne_this_gr : this ≠ gr) (ne_this_r0 : this ≠ r0) (ne_this_r1 : this ≠ r1) (ne_this_cs : this ≠ cs) (ne_gr_r0 : gr ≠ r0) (ne_gr_r1 : gr ≠ r1) (ne_gr_cs : gr ≠ cs) (ne_r0_r1 : r0 ≠ r1) (ne_r0_cs : r0 ≠ cs) (ne_r1_cs : r1 ≠ cs) (hcnt : 0 ≤ cnt.toInt ∧ cnt.toInt ≤ 20) (hl : 0 ≤ low.toInt ∧ low.toInt ≤ 13) (hm0 : (if (f0 0) < (0 : Int32) then (0 : Int32) else (f0 0)) = (0 : Int32)) (hm1 : (if (f1 0) < (0 : Int32) then (0 : Int32) else (f1 0)) = (0 : Int32)) :
  Ctr l Z (⟨"semblance/JpegScans", "take", "([IIIII)Z"⟩ : MethodName) prog_41_method_2_code 13 (some .boolean) ({ frames := 1, cells := 0, slots := 0, locals := 14 } : Room) #[(.ref this), (.ref cs), (.int 0), (.int 0), (.int 0), (.int low)] h0 (fun v h L => ∃ b : Int32, v = some (.int b) ∧ Fr n0 L ∧ Keep h0 h [this, r0, r1] ∧ Exa Z h this "semblance/JpegScans" ∧ Fld Z h this "semblance/JpegScans" "progressive" "Z" (.int 1) ∧ Fld Z h this "semblance/JpegScans" "components" "I" (.int 2) ∧ Fld Z h this "semblance/JpegScans" "sentTo" "[[I" (.ref gr) ∧ Fld Z h this "semblance/JpegScans" "count" "I" (.int (cnt + (1 : Int32))) ∧ Fld Z h this "semblance/JpegScans" "sentAgain" "Z" (.int sa) ∧ Ars Z h r0 .int (own_row (own_upd f0 0 low)) ∧ Ars Z h r1 .int (own_row (own_upd f1 0 low))) := by
 refine Ctr.of (plainFor_of_name pn_1) (fun m => ef_c_dc_2_0 m this cs low) ?_
 intro p e s m below meth c T0 hx hby hml hown hnm hret hlk hZ e0 X0
 have N0 := Fr.nil n0
 replace hown : s.vm.findClass "semblance/JpegScans" = some m.cls := hown
 replace hml : c.maxLocals = 13 := hml
 have KP := Keep.refl h0 [this, r0, r1]
 refine Run.x_aloadN (q := 1) X0 hx (hb hby d4_0) rfl rfl rfl ?_
 refine Run.x_dup (q := 2) X0 hx (hb hby d4_1) rfl rfl ?_
 refine Run.z_getF (q := 5) X0 hx hZ e0 hown (wm39 hw) F_this_count (hb hby d4_2) rfl fun T1 X1 e1 => ?_
 refine Run.x_iconst (q := 6) X1 hx (hb hby d4_5) (z := (1 : Int32)) rfl rfl ?_
 refine Run.x_iadd (q := 7) X1 hx (hb hby d4_6) rfl rfl ?_
 obtain ⟨T2, h2, X2, e2, W2, st2⟩ := putF X1 hx hZ hown (host := "") (Or.inl (wm39 hw)) Via.refl e1 F_this_count E_this (Or.inl (wm40 hw)) (wm1 hw) (ty := .int) (by decide) rfl rfl (g := (mkF m 7 #[.val (.ref this), .val (.ref cs), .val (.int 0), .val (.int 0), .val (.int 0), .val (.int low), .unset, .unset, .unset, .unset, .unset, .unset, .unset] [(.int (cnt + (1 : Int32))), (.ref this)])) rfl rfl (hb hby d4_7)
 replace F_this_count := F_this_count.same W2
 have Z2 : n0 ≤ h2.size := Nat.le_trans Z0 (Nat.le_of_eq W2.size.symm)
 replace KP := KP.wr W2 (Or.inl (by simp))
 have N2 := Fr.snoc X2 N0 g_this
 refine Run.st st2 ?_
 show Run p e below s _ _ _ (T2.setTop (mkF m 10 #[.val (.ref this), .val (.ref cs), .val (.int 0), .val (.int 0), .val (.int 0), .val (.int low), .unset, .unset, .unset, .unset, .unset, .unset, .unset] []))
 refine Run.x_aloadN (q := 11) X2 hx (hb hby d4_10) rfl rfl rfl ?_
 refine Run.z_getF (q := 14) X2 hx hZ e2 hown (wm39 hw) F_this_count (hb hby d4_11) rfl fun T3 X3 e3 => ?_
 refine Run.x_bipush (q := 16) X3 hx (hb hby d4_14) (z := (32 : Int32)) rfl rfl ?_
 refine Run.x_icmpYes (q := 29) X3 hx (hb hby d4_16) (flt (own_c32 hcnt)).2.2.2 (by decide) (by decide) ?_
 refine Run.x_aloadN (q := 30) X3 hx (hb hby d4_29) rfl rfl rfl ?_
 replace F_this_progressive := F_this_progressive.other W2 (Or.inr (slot_ne (Or.inr (wm10 hw)) (Or.inl (wm40 hw)) (by decide) (t := .boolean) (t' := .int) (by decide) (by decide)))
 refine Run.z_getF (q := 33) X3 hx hZ e3 hown (wm9 hw) F_this_progressive (hb hby d4_30) rfl fun T4 X4 e4 => ?_
 refine Run.x_ifYes (q := 127) X4 hx (hb hby d4_33) ((if0 _ _).trans (feq (by decide : ¬ ((1 : Int32) = (0 : Int32)))).2) (by decide) (by decide) ?_
 refine Run.x_iloadN (q := 128) X4 hx (hb hby d4_127) rfl rfl ?_
 refine Run.x_ifNo (q := 131) X4 hx (hb hby d4_128) ((if0 _ _).trans (teq (by decide : (0 : Int32) = (0 : Int32))).2) rfl ?_
 refine Run.x_iloadN (q := 132) X4 hx (hb hby d4_131) rfl rfl ?_
 refine Run.x_ifNo (q := 135) X4 hx (hb hby d4_132) ((if0 _ _).trans (teq (by decide : (0 : Int32) = (0 : Int32))).2) rfl ?_
 refine Run.x_iconst (q := 136) X4 hx (hb hby d4_135) (z := (1 : Int32)) rfl rfl ?_
 refine Run.x_goto (q := 165) X4 hx (hb hby d4_136) (by decide) (by decide) ?_
 refine Run.x_istore (q := 167) X4 hx #[.val (.ref this), .val (.ref cs), .val (.int 0), .val (.int 0), .val (.int 0), .val (.int low), .val (.int 1), .unset, .unset, .unset, .unset, .unset, .unset] (hb hby d4_165) rfl rfl ?_
 refine Run.x_iload (q := 169) X4 hx (hb hby d4_167) rfl rfl ?_
 refine Run.x_ifNo (q := 172) X4 hx (hb hby d4_169) ((if0 _ _).trans (feq (by decide : ¬ ((1 : Int32) = (0 : Int32)))).1) rfl ?_
 refine Run.x_iload (q := 174) X4 hx (hb hby d4_172) rfl rfl ?_
 refine Run.x_ifYes (q := 186) X4 hx (hb hby d4_174) ((if0 _ _).trans (teq (by decide : (0 : Int32) = (0 : Int32))).1) (by decide) (by decide) ?_
 refine Run.x_iload (q := 188) X4 hx (hb hby d4_186) rfl rfl ?_
 refine Run.x_bipush (q := 190) X4 hx (hb hby d4_188) (z := (13 : Int32)) rfl rfl ?_
 refine Run.x_icmpYes (q := 216) X4 hx (hb hby d4_190) (flt (own_13 hl)).2.2.2 (by decide) (by decide) ?_
 refine Run.x_aloadN (q := 217) X4 hx (hb hby d4_216) rfl rfl rfl ?_
 refine Run.x_astore (q := 219) X4 hx #[.val (.ref this), .val (.ref cs), .val (.int 0), .val (.int 0), .val (.int 0), .val (.int low), .val (.int 1), .val (.ref cs), .unset, .unset, .unset, .unset, .unset] (hb hby d4_217) rfl rfl rfl ?_
 refine Run.x_aload (q := 221) X4 hx (hb hby d4_219) rfl rfl rfl ?_
 replace A_cs := A_cs.other W2 (Ne.symm ne_this_cs)
 refine Run.y_alen (q := 222) X4 hx hZ e4 A_cs (z := (2 : Int32)) (by decide) (hb hby d4_221) rfl ?_
 refine Run.x_istore (q := 224) X4 hx #[.val (.ref this), .val (.ref cs), .val (.int 0), .val (.int 0), .val (.int 0), .val (.int low), .val (.int 1), .val (.ref cs), .val (.int 2), .unset, .unset, .unset, .unset] (hb hby d4_222) rfl rfl ?_
 refine Run.x_iconst (q := 225) X4 hx (hb hby d4_224) (z := (0 : Int32)) rfl rfl ?_
 refine Run.x_istore (q := 227) X4 hx #[.val (.ref this), .val (.ref cs), .val (.int 0), .val (.int 0), .val (.int 0), .val (.int low), .val (.int 1), .val (.ref cs), .val (.int 2), .val (.int 0), .unset, .unset, .unset] (hb hby d4_225) rfl rfl ?_
 refine Run.x_iload (q := 229) X4 hx (hb hby d4_227) rfl rfl ?_
 refine Run.x_iload (q := 231) X4 hx (hb hby d4_229) rfl rfl ?_
 refine Run.x_icmpNo (q := 234) X4 hx (hb hby d4_231) (tlt (by decide : (0 : Int32) < (2 : Int32))).2.1 rfl ?_
 refine Run.x_aload (q := 236) X4 hx (hb hby d4_234) rfl rfl rfl ?_
 refine Run.x_iload (q := 238) X4 hx (hb hby d4_236) rfl rfl ?_
 refine Run.y_ldI (q := 239) X4 hx hZ e4 A_cs (i := 0) (v := (.int 0)) (by decide) rfl (hb hby d4_238) rfl ?_
 refine Run.x_istore (q := 241) X4 hx #[.val (.ref this), .val (.ref cs), .val (.int 0), .val (.int 0), .val (.int 0), .val (.int low), .val (.int 1), .val (.ref cs), .val (.int 2), .val (.int 0), .val (.int 0), .unset, .unset] (hb hby d4_239) rfl rfl ?_
 refine Run.x_aloadN (q := 242) X4 hx (hb hby d4_241) rfl rfl rfl ?_
 replace F_this_sentTo := F_this_sentTo.other W2 (Or.inr (slot_ne (Or.inr (wm17 hw)) (Or.inl (wm40 hw)) (by decide) (t := (.array (.array .int))) (t' := .int) (by decide) (by decide)))
 refine Run.z_getF (q := 245) X4 hx hZ e4 hown (wm16 hw) F_this_sentTo (hb hby d4_242) rfl fun T5 X5 e5 => ?_
 refine Run.x_iload (q := 247) X5 hx (hb hby d4_245) rfl rfl ?_
 replace A_gr := A_gr.other W2 (Ne.symm ne_this_gr)
 refine Run.y_ldR (q := 248) X5 hx hZ e5 A_gr (i := 0) (v := (.ref r0)) (by decide) rfl rfl (hb hby d4_247) rfl ?_
 refine Run.x_astore (q := 250) X5 hx #[.val (.ref this), .val (.ref cs), .val (.int 0), .val (.int 0), .val (.int 0), .val (.int low), .val (.int 1), .val (.ref cs), .val (.int 2), .val (.int 0), .val (.int 0), .val (.ref r0), .unset] (hb hby d4_248) rfl rfl rfl ?_
 refine Run.x_iloadN (q := 251) X5 hx (hb hby d4_250) rfl rfl ?_
 refine Run.x_ifYes (q := 269) X5 hx (hb hby d4_251) ((if0 _ _).trans (flt (by decide : ¬ ((0 : Int32) < (0 : Int32)))).2.2.2) (by decide) (by decide) ?_
 refine Run.x_iloadN (q := 270) X5 hx (hb hby d4_269) rfl rfl ?_
 refine Run.x_istore (q := 272) X5 hx #[.val (.ref this), .val (.ref cs), .val (.int 0), .val (.int 0), .val (.int 0), .val (.int low), .val (.int 1), .val (.ref cs), .val (.int 2), .val (.int 0), .val (.int 0), .val (.ref r0), .val (.int 0)] (hb hby d4_270) rfl rfl ?_
 refine Run.x_iload (q := 274) X5 hx (hb hby d4_272) rfl rfl ?_
 refine Run.x_iloadN (q := 275) X5 hx (hb hby d4_274) rfl rfl ?_
 refine Run.x_icmpNo (q := 278) X5 hx (hb hby d4_275) (flt (by decide : ¬ ((0 : Int32) < (0 : Int32)))).2.2.1 rfl ?_
 refine Run.x_iload (q := 280) X5 hx (hb hby d4_278) rfl rfl ?_
 refine Run.x_aload (q := 282) X5 hx (hb hby d4_280) rfl rfl rfl ?_
 refine Run.x_iload (q := 284) X5 hx (hb hby d4_282) rfl rfl ?_
 replace A_r0 := A_r0.other W2 (Ne.symm ne_this_r0)
 refine Run.y_ldI (q := 285) X5 hx hZ e5 A_r0 (i := 0) (v := (.int (f0 0))) (by decide) (own_row_at (by decide)) (hb hby d4_284) rfl ?_
 refine Run.x_iconst (q := 286) X5 hx (hb hby d4_285) (z := (0 : Int32)) rfl rfl ?_
 refine Run.callSI (q := 289) X5 hx hZ e5 (y := (⟨"java/lang/Math", "max", "(II)I"⟩ : MethodName)) hown (wm41 hw) (wm42 hw) (wm43 hw) (wm44 hw) (by decide) (argsL := [(.int (f0 0)), (.int 0)]) (rest := [(.int 0)]) (c_max l Z a0 hw (f0 0) (0 : Int32) h2 n0 Z2 (0 : Int32) hm0) pd_1 rfl (by rw [hml]; rfl) (W := 1) rfl (by decide) (by decide) (by decide) (by decide) (hb hby d4_286) rfl rfl fun T6 L6 X6 M6 e6 => ?_
 have N6 := Fr.app N2 M6
 refine Run.x_icmpYes (q := 301) X6 hx (hb hby d4_289) (teq (by decide : (0 : Int32) = (0 : Int32))).1 (by decide) (by decide) ?_
 refine Run.x_aload (q := 303) X6 hx (hb hby d4_301) rfl rfl rfl ?_
 refine Run.x_iload (q := 305) X6 hx (hb hby d4_303) rfl rfl ?_
 refine Run.x_iload (q := 307) X6 hx (hb hby d4_305) rfl rfl ?_
 refine Run.y_stI (q := 308) X6 hx hZ e6 A_r0 (i := 0) (by decide) (by rw [own_row_len]; decide) (hb hby d4_307) rfl fun T7 h7 X7 e7 W7 A7 => ?_
 replace A_r0 : Ars Z h7 r0 .int ((own_row f0).set 0 (Value.int low)) := A7
 replace KP := KP.wr W7 (Or.inl (by simp))
 have N7 := Fr.snoc X7 N6 g_r0
 have Z7 : n0 ≤ h7.size := Nat.le_trans Z2 (Nat.le_of_eq W7.size.symm)
 replace A_r0 : Ars Z h7 r0 .int (own_row (own_upd f0 0 low)) := by rw [← own_row_set (by decide)]; exact A_r0
 refine Run.x_iinc (q := 311) X7 hx #[.val (.ref this), .val (.ref cs), .val (.int 0), .val (.int 0), .val (.int 0), .val (.int low), .val (.int 1), .val (.ref cs), .val (.int 2), .val (.int 0), .val (.int 0), .val (.ref r0), .val (.int 1)] (hb hby d4_308) rfl (z := (1 : Int32)) (by decide) rfl rfl ?_
 refine Run.x_goto (q := 272) X7 hx (hb hby d4_311) (by decide) (by decide) ?_
 refine Run.x_iload (q := 274) X7 hx (hb hby d4_272) rfl rfl ?_
 refine Run.x_iloadN (q := 275) X7 hx (hb hby d4_274) rfl rfl ?_
 refine Run.x_icmpYes (q := 314) X7 hx (hb hby d4_275) (tlt (by decide : (0 : Int32) < (1 : Int32))).2.2.1 (by decide) (by decide) ?_
 refine Run.x_iinc (q := 317) X7 hx #[.val (.ref this), .val (.ref cs), .val (.int 0), .val (.int 0), .val (.int 0), .val (.int low), .val (.int 1), .val (.ref cs), .val (.int 2), .val (.int 1), .val (.int 0), .val (.ref r0), .val (.int 1)] (hb hby d4_314) rfl (z := (1 : Int32)) (by decide) rfl rfl ?_
 refine Run.x_goto (q := 227) X7 hx (hb hby d4_317) (by decide) (by decide) ?_
 refine Run.x_iload (q := 229) X7 hx (hb hby d4_227) rfl rfl ?_
 refine Run.x_iload (q := 231) X7 hx (hb hby d4_229) rfl rfl ?_
 refine Run.x_icmpNo (q := 234) X7 hx (hb hby d4_231) (tlt (by decide : (1 : Int32) < (2 : Int32))).2.1 rfl ?_
 refine Run.x_aload (q := 236) X7 hx (hb hby d4_234) rfl rfl rfl ?_
 refine Run.x_iload (q := 238) X7 hx (hb hby d4_236) rfl rfl ?_
 replace A_cs := A_cs.other W7 (Ne.symm ne_r0_cs)
 refine Run.y_ldI (q := 239) X7 hx hZ e7 A_cs (i := 1) (v := (.int 1)) (by decide) rfl (hb hby d4_238) rfl ?_
 refine Run.x_istore (q := 241) X7 hx #[.val (.ref this), .val (.ref cs), .val (.int 0), .val (.int 0), .val (.int 0), .val (.int low), .val (.int 1), .val (.ref cs), .val (.int 2), .val (.int 1), .val (.int 1), .val (.ref r0), .val (.int 1)] (hb hby d4_239) rfl rfl ?_
 refine Run.x_aloadN (q := 242) X7 hx (hb hby d4_241) rfl rfl rfl ?_
 replace F_this_sentTo := F_this_sentTo.other W7 (Or.inl ne_this_r0)
 refine Run.z_getF (q := 245) X7 hx hZ e7 hown (wm16 hw) F_this_sentTo (hb hby d4_242) rfl fun T8 X8 e8 => ?_
 refine Run.x_iload (q := 247) X8 hx (hb hby d4_245) rfl rfl ?_
 replace A_gr := A_gr.other W7 ne_gr_r0
 refine Run.y_ldR (q := 248) X8 hx hZ e8 A_gr (i := 1) (v := (.ref r1)) (by decide) rfl rfl (hb hby d4_247) rfl ?_
 refine Run.x_astore (q := 250) X8 hx #[.val (.ref this), .val (.ref cs), .val (.int 0), .val (.int 0), .val (.int 0), .val (.int low), .val (.int 1), .val (.ref cs), .val (.int 2), .val (.int 1), .val (.int 1), .val (.ref r1), .val (.int 1)] (hb hby d4_248) rfl rfl rfl ?_
 refine Run.x_iloadN (q := 251) X8 hx (hb hby d4_250) rfl rfl ?_
 refine Run.x_ifYes (q := 269) X8 hx (hb hby d4_251) ((if0 _ _).trans (flt (by decide : ¬ ((0 : Int32) < (0 : Int32)))).2.2.2) (by decide) (by decide) ?_
 refine Run.x_iloadN (q := 270) X8 hx (hb hby d4_269) rfl rfl ?_
 refine Run.x_istore (q := 272) X8 hx #[.val (.ref this), .val (.ref cs), .val (.int 0), .val (.int 0), .val (.int 0), .val (.int low), .val (.int 1), .val (.ref cs), .val (.int 2), .val (.int 1), .val (.int 1), .val (.ref r1), .val (.int 0)] (hb hby d4_270) rfl rfl ?_
 refine Run.x_iload (q := 274) X8 hx (hb hby d4_272) rfl rfl ?_
 refine Run.x_iloadN (q := 275) X8 hx (hb hby d4_274) rfl rfl ?_
 refine Run.x_icmpNo (q := 278) X8 hx (hb hby d4_275) (flt (by decide : ¬ ((0 : Int32) < (0 : Int32)))).2.2.1 rfl ?_
 refine Run.x_iload (q := 280) X8 hx (hb hby d4_278) rfl rfl ?_
 refine Run.x_aload (q := 282) X8 hx (hb hby d4_280) rfl rfl rfl ?_
 refine Run.x_iload (q := 284) X8 hx (hb hby d4_282) rfl rfl ?_
 replace A_r1 := (A_r1.other W2 (Ne.symm ne_this_r1)).other W7 (Ne.symm ne_r0_r1)
 refine Run.y_ldI (q := 285) X8 hx hZ e8 A_r1 (i := 0) (v := (.int (f1 0))) (by decide) (own_row_at (by decide)) (hb hby d4_284) rfl ?_
 refine Run.x_iconst (q := 286) X8 hx (hb hby d4_285) (z := (0 : Int32)) rfl rfl ?_
 refine Run.callSI (q := 289) X8 hx hZ e8 (y := (⟨"java/lang/Math", "max", "(II)I"⟩ : MethodName)) hown (wm41 hw) (wm42 hw) (wm43 hw) (wm44 hw) (by decide) (argsL := [(.int (f1 0)), (.int 0)]) (rest := [(.int 0)]) (c_max l Z a0 hw (f1 0) (0 : Int32) h7 n0 Z7 (0 : Int32) hm1) pd_1 rfl (by rw [hml]; rfl) (W := 1) rfl (by decide) (by decide) (by decide) (by decide) (hb hby d4_286) rfl rfl fun T9 L9 X9 M9 e9 => ?_
 have N9 := Fr.app N7 M9
 refine Run.x_icmpYes (q := 301) X9 hx (hb hby d4_289) (teq (by decide : (0 : Int32) = (0 : Int32))).1 (by decide) (by decide) ?_
 refine Run.x_aload (q := 303) X9 hx (hb hby d4_301) rfl rfl rfl ?_
 refine Run.x_iload (q := 305) X9 hx (hb hby d4_303) rfl rfl ?_
 refine Run.x_iload (q := 307) X9 hx (hb hby d4_305) rfl rfl ?_
 refine Run.y_stI (q := 308) X9 hx hZ e9 A_r1 (i := 0) (by decide) (by rw [own_row_len]; decide) (hb hby d4_307) rfl fun T10 h10 X10 e10 W10 A10 => ?_
 replace A_r1 : Ars Z h10 r1 .int ((own_row f1).set 0 (Value.int low)) := A10
 replace KP := KP.wr W10 (Or.inl (by simp))
 have N10 := Fr.snoc X10 N9 g_r1
 have Z10 : n0 ≤ h10.size := Nat.le_trans Z7 (Nat.le_of_eq W10.size.symm)
 replace A_r1 : Ars Z h10 r1 .int (own_row (own_upd f1 0 low)) := by rw [← own_row_set (by decide)]; exact A_r1
 refine Run.x_iinc (q := 311) X10 hx #[.val (.ref this), .val (.ref cs), .val (.int 0), .val (.int 0), .val (.int 0), .val (.int low), .val (.int 1), .val (.ref cs), .val (.int 2), .val (.int 1), .val (.int 1), .val (.ref r1), .val (.int 1)] (hb hby d4_308) rfl (z := (1 : Int32)) (by decide) rfl rfl ?_
 refine Run.x_goto (q := 272) X10 hx (hb hby d4_311) (by decide) (by decide) ?_
 refine Run.x_iload (q := 274) X10 hx (hb hby d4_272) rfl rfl ?_
 refine Run.x_iloadN (q := 275) X10 hx (hb hby d4_274) rfl rfl ?_
 refine Run.x_icmpYes (q := 314) X10 hx (hb hby d4_275) (tlt (by decide : (0 : Int32) < (1 : Int32))).2.2.1 (by decide) (by decide) ?_
 refine Run.x_iinc (q := 317) X10 hx #[.val (.ref this), .val (.ref cs), .val (.int 0), .val (.int 0), .val (.int 0), .val (.int low), .val (.int 1), .val (.ref cs), .val (.int 2), .val (.int 2), .val (.int 1), .val (.ref r1), .val (.int 1)] (hb hby d4_314) rfl (z := (2 : Int32)) (by decide) rfl rfl ?_
 refine Run.x_goto (q := 227) X10 hx (hb hby d4_317) (by decide) (by decide) ?_
 refine Run.x_iload (q := 229) X10 hx (hb hby d4_227) rfl rfl ?_
 refine Run.x_iload (q := 231) X10 hx (hb hby d4_229) rfl rfl ?_
 refine Run.x_icmpYes (q := 320) X10 hx (hb hby d4_231) (flt (by decide : ¬ ((2 : Int32) < (2 : Int32)))).2.1 (by decide) (by decide) ?_
 refine Run.x_iconst (q := 321) X10 hx (hb hby d4_320) (z := (1 : Int32)) rfl rfl ?_
 replace E_this := ((E_this.wr W2).wr W7).wr W10
 replace F_this_progressive := (F_this_progressive.other W7 (Or.inl ne_this_r0)).other W10 (Or.inl ne_this_r1)
 replace F_this_components := ((F_this_components.other W2 (Or.inr (slot_ne (Or.inr (wm12 hw)) (Or.inl (wm40 hw)) (by decide) (t := .int) (t' := .int) (by decide) (by decide)))).other W7 (Or.inl ne_this_r0)).other W10 (Or.inl ne_this_r1)
 replace F_this_sentTo := F_this_sentTo.other W10 (Or.inl ne_this_r1)
 replace F_this_count := (F_this_count.other W7 (Or.inl ne_this_r0)).other W10 (Or.inl ne_this_r1)
 replace F_this_sentAgain := ((F_this_sentAgain.other W2 (Or.inr (slot_ne (Or.inl (wm32 hw)) (Or.inl (wm40 hw)) (by decide) (t := .boolean) (t' := .int) (by decide) (by decide)))).other W7 (Or.inl ne_this_r0)).other W10 (Or.inl ne_this_r1)
 replace A_gr := A_gr.other W10 ne_gr_r1
 replace A_r0 := A_r0.other W10 ne_r0_r1
 replace A_cs := A_cs.other W10 (Ne.symm ne_r1_cs)
 refine Run.retN X10 hx hlk e10 (t := .boolean) hret (by simp) (z' := (1 : Int32)) (by decide) (hb hby d4_321) (by decide) (by decide) ?_
 exact ⟨_, rfl, N10, KP, E_this, F_this_progressive, F_this_components, F_this_sentTo, F_this_count, F_this_sentAgain, A_r0, A_r1⟩
theorem ef_c_dc_2_1 (m : MethodId) (this : Addr) (cs : Addr) (hi : Int32) (low : Int32) : entryFrame m #[(.ref this), (.ref cs), (.int 0), (.int 0), (.int hi), (.int low)] 13 = mkF m 0 #[.val (.ref this), .val (.ref cs), .val (.int 0), .val (.int 0), .val (.int hi), .val (.int low), .unset, .unset, .unset, .unset, .unset, .unset, .unset] [] := by first | (simp [entryFrame, mkF, argsToLocals, Value.category]; done) | rfl
set_option maxRecDepth 65536 in
set_option maxHeartbeats 40000000 in
theorem c_dc_2_1 (l : Launch) (Z : State) (a0 : Array Value) (hw : ∀ d ∈ tables_1, d.before a0 Z = true) (this : Addr) (cs : Addr) (hi : Int32) (low : Int32) (h0 : Heap) (n0 : Nat) (Z0 : n0 ≤ h0.size) (gr : Addr) (r0 : Addr) (r1 : Addr) (cnt : Int32) (sa : Int32) (f0 : Nat → Int32) (f1 : Nat → Int32) (E_this : Exa Z h0 this "semblance/JpegScans") (F_this_progressive : Fld Z h0 this "semblance/JpegScans" "progressive" "Z" (.int 1)) (F_this_components : Fld Z h0 this "semblance/JpegScans" "components" "I" (.int 2)) (F_this_sentTo : Fld Z h0 this "semblance/JpegScans" "sentTo" "[[I" (.ref gr)) (F_this_count : Fld Z h0 this "semblance/JpegScans" "count" "I" (.int cnt)) (F_this_sentAgain : Fld Z h0 this "semblance/JpegScans" "sentAgain" "Z" (.int sa)) (A_gr : Ars Z h0 gr (.array .int) [(.ref r0), (.ref r1)]) (A_r0 : Ars Z h0 r0 .int (own_row f0)) (A_r1 : Ars Z h0 r1 .int (own_row f1)) (A_cs : Ars Z h0 cs .int [(.int 0), (.int 1)]) (g_this : n0 ≤ this) (g_r0 : n0 ≤ r0) (g_r1 : n0 ≤ r1) (ne_this_gr : this ≠ gr) (ne_this_r0 : this ≠ r0) (ne_this_r1 : this ≠ r1) (ne_this_cs : this ≠ cs) (ne_gr_r0 : gr ≠ r0) (ne_gr_r1 : gr ≠ r1) (ne_gr_cs : gr ≠ cs) (ne_r0_r1 : r0 ≠ r1) (ne_r0_cs : r0 ≠ cs) (ne_r1_cs : r1 ≠ cs) (hcnt : 0 ≤ cnt.toInt ∧ cnt.toInt ≤ 20) (hl : 0 ≤ low.toInt ∧ low.toInt ≤ 13) (hm0 : (if (f0 0) < (0 : Int32) then (0 : Int32) else (f0 0)) = hi) (hm1 : (if (f1 0) < (0 : Int32) then (0 : Int32) else (f1 0)) = hi) (hh : ¬ hi = (0 : Int32)) (hlo : low = (hi - (1 : Int32))) :
  Ctr l Z (⟨"semblance/JpegScans", "take", "([IIIII)Z"⟩ : MethodName) prog_41_method_2_code 13 (some .boolean) ({ frames := 1, cells := 0, slots := 0, locals := 14 } : Room) #[(.ref this), (.ref cs), (.int 0), (.int 0), (.int hi), (.int low)] h0 (fun v h L => ∃ b : Int32, v = some (.int b) ∧ Fr n0 L ∧ Keep h0 h [this, r0, r1] ∧ Exa Z h this "semblance/JpegScans" ∧ Fld Z h this "semblance/JpegScans" "progressive" "Z" (.int 1) ∧ Fld Z h this "semblance/JpegScans" "components" "I" (.int 2) ∧ Fld Z h this "semblance/JpegScans" "sentTo" "[[I" (.ref gr) ∧ Fld Z h this "semblance/JpegScans" "count" "I" (.int (cnt + (1 : Int32))) ∧ Fld Z h this "semblance/JpegScans" "sentAgain" "Z" (.int sa) ∧ Ars Z h r0 .int (own_row (own_upd f0 0 low)) ∧ Ars Z h r1 .int (own_row (own_upd f1 0 low))) := by
 refine Ctr.of (plainFor_of_name pn_1) (fun m => ef_c_dc_2_1 m this cs hi low) ?_
 intro p e s m below meth c T0 hx hby hml hown hnm hret hlk hZ e0 X0
 have N0 := Fr.nil n0
 replace hown : s.vm.findClass "semblance/JpegScans" = some m.cls := hown
 replace hml : c.maxLocals = 13 := hml
 have KP := Keep.refl h0 [this, r0, r1]
 refine Run.x_aloadN (q := 1) X0 hx (hb hby d4_0) rfl rfl rfl ?_
 refine Run.x_dup (q := 2) X0 hx (hb hby d4_1) rfl rfl ?_
 refine Run.z_getF (q := 5) X0 hx hZ e0 hown (wm39 hw) F_this_count (hb hby d4_2) rfl fun T1 X1 e1 => ?_
 refine Run.x_iconst (q := 6) X1 hx (hb hby d4_5) (z := (1 : Int32)) rfl rfl ?_
 refine Run.x_iadd (q := 7) X1 hx (hb hby d4_6) rfl rfl ?_
 obtain ⟨T2, h2, X2, e2, W2, st2⟩ := putF X1 hx hZ hown (host := "") (Or.inl (wm39 hw)) Via.refl e1 F_this_count E_this (Or.inl (wm40 hw)) (wm1 hw) (ty := .int) (by decide) rfl rfl (g := (mkF m 7 #[.val (.ref this), .val (.ref cs), .val (.int 0), .val (.int 0), .val (.int hi), .val (.int low), .unset, .unset, .unset, .unset, .unset, .unset, .unset] [(.int (cnt + (1 : Int32))), (.ref this)])) rfl rfl (hb hby d4_7)
 replace F_this_count := F_this_count.same W2
 have Z2 : n0 ≤ h2.size := Nat.le_trans Z0 (Nat.le_of_eq W2.size.symm)
 replace KP := KP.wr W2 (Or.inl (by simp))
 have N2 := Fr.snoc X2 N0 g_this
 refine Run.st st2 ?_
 show Run p e below s _ _ _ (T2.setTop (mkF m 10 #[.val (.ref this), .val (.ref cs), .val (.int 0), .val (.int 0), .val (.int hi), .val (.int low), .unset, .unset, .unset, .unset, .unset, .unset, .unset] []))
 refine Run.x_aloadN (q := 11) X2 hx (hb hby d4_10) rfl rfl rfl ?_
 refine Run.z_getF (q := 14) X2 hx hZ e2 hown (wm39 hw) F_this_count (hb hby d4_11) rfl fun T3 X3 e3 => ?_
 refine Run.x_bipush (q := 16) X3 hx (hb hby d4_14) (z := (32 : Int32)) rfl rfl ?_
 refine Run.x_icmpYes (q := 29) X3 hx (hb hby d4_16) (flt (own_c32 hcnt)).2.2.2 (by decide) (by decide) ?_
 refine Run.x_aloadN (q := 30) X3 hx (hb hby d4_29) rfl rfl rfl ?_
 replace F_this_progressive := F_this_progressive.other W2 (Or.inr (slot_ne (Or.inr (wm10 hw)) (Or.inl (wm40 hw)) (by decide) (t := .boolean) (t' := .int) (by decide) (by decide)))
 refine Run.z_getF (q := 33) X3 hx hZ e3 hown (wm9 hw) F_this_progressive (hb hby d4_30) rfl fun T4 X4 e4 => ?_
 refine Run.x_ifYes (q := 127) X4 hx (hb hby d4_33) ((if0 _ _).trans (feq (by decide : ¬ ((1 : Int32) = (0 : Int32)))).2) (by decide) (by decide) ?_
 refine Run.x_iloadN (q := 128) X4 hx (hb hby d4_127) rfl rfl ?_
 refine Run.x_ifNo (q := 131) X4 hx (hb hby d4_128) ((if0 _ _).trans (teq (by decide : (0 : Int32) = (0 : Int32))).2) rfl ?_
 refine Run.x_iloadN (q := 132) X4 hx (hb hby d4_131) rfl rfl ?_
 refine Run.x_ifNo (q := 135) X4 hx (hb hby d4_132) ((if0 _ _).trans (teq (by decide : (0 : Int32) = (0 : Int32))).2) rfl ?_
 refine Run.x_iconst (q := 136) X4 hx (hb hby d4_135) (z := (1 : Int32)) rfl rfl ?_
 refine Run.x_goto (q := 165) X4 hx (hb hby d4_136) (by decide) (by decide) ?_
 refine Run.x_istore (q := 167) X4 hx #[.val (.ref this), .val (.ref cs), .val (.int 0), .val (.int 0), .val (.int hi), .val (.int low), .val (.int 1), .unset, .unset, .unset, .unset, .unset, .unset] (hb hby d4_165) rfl rfl ?_
 refine Run.x_iload (q := 169) X4 hx (hb hby d4_167) rfl rfl ?_
 refine Run.x_ifNo (q := 172) X4 hx (hb hby d4_169) ((if0 _ _).trans (feq (by decide : ¬ ((1 : Int32) = (0 : Int32)))).1) rfl ?_
 refine Run.x_iload (q := 174) X4 hx (hb hby d4_172) rfl rfl ?_
 refine Run.x_ifNo (q := 177) X4 hx (hb hby d4_174) ((if0 _ _).trans (feq hh).1) rfl ?_
 refine Run.x_iload (q := 179) X4 hx (hb hby d4_177) rfl rfl ?_
 refine Run.x_iload (q := 181) X4 hx (hb hby d4_179) rfl rfl ?_
 refine Run.x_iconst (q := 182) X4 hx (hb hby d4_181) (z := (1 : Int32)) rfl rfl ?_
 refine Run.x_isub (q := 183) X4 hx (hb hby d4_182) rfl rfl ?_
 refine Run.x_icmpNo (q := 186) X4 hx (hb hby d4_183) (teq hlo).2 rfl ?_
 refine Run.x_iload (q := 188) X4 hx (hb hby d4_186) rfl rfl ?_
 refine Run.x_bipush (q := 190) X4 hx (hb hby d4_188) (z := (13 : Int32)) rfl rfl ?_
 refine Run.x_icmpYes (q := 216) X4 hx (hb hby d4_190) (flt (own_13 hl)).2.2.2 (by decide) (by decide) ?_
 refine Run.x_aloadN (q := 217) X4 hx (hb hby d4_216) rfl rfl rfl ?_
 refine Run.x_astore (q := 219) X4 hx #[.val (.ref this), .val (.ref cs), .val (.int 0), .val (.int 0), .val (.int hi), .val (.int low), .val (.int 1), .val (.ref cs), .unset, .unset, .unset, .unset, .unset] (hb hby d4_217) rfl rfl rfl ?_
 refine Run.x_aload (q := 221) X4 hx (hb hby d4_219) rfl rfl rfl ?_
 replace A_cs := A_cs.other W2 (Ne.symm ne_this_cs)
 refine Run.y_alen (q := 222) X4 hx hZ e4 A_cs (z := (2 : Int32)) (by decide) (hb hby d4_221) rfl ?_
 refine Run.x_istore (q := 224) X4 hx #[.val (.ref this), .val (.ref cs), .val (.int 0), .val (.int 0), .val (.int hi), .val (.int low), .val (.int 1), .val (.ref cs), .val (.int 2), .unset, .unset, .unset, .unset] (hb hby d4_222) rfl rfl ?_
 refine Run.x_iconst (q := 225) X4 hx (hb hby d4_224) (z := (0 : Int32)) rfl rfl ?_
 refine Run.x_istore (q := 227) X4 hx #[.val (.ref this), .val (.ref cs), .val (.int 0), .val (.int 0), .val (.int hi), .val (.int low), .val (.int 1), .val (.ref cs), .val (.int 2), .val (.int 0), .unset, .unset, .unset] (hb hby d4_225) rfl rfl ?_
 refine Run.x_iload (q := 229) X4 hx (hb hby d4_227) rfl rfl ?_
 refine Run.x_iload (q := 231) X4 hx (hb hby d4_229) rfl rfl ?_
 refine Run.x_icmpNo (q := 234) X4 hx (hb hby d4_231) (tlt (by decide : (0 : Int32) < (2 : Int32))).2.1 rfl ?_
 refine Run.x_aload (q := 236) X4 hx (hb hby d4_234) rfl rfl rfl ?_
 refine Run.x_iload (q := 238) X4 hx (hb hby d4_236) rfl rfl ?_
 refine Run.y_ldI (q := 239) X4 hx hZ e4 A_cs (i := 0) (v := (.int 0)) (by decide) rfl (hb hby d4_238) rfl ?_
 refine Run.x_istore (q := 241) X4 hx #[.val (.ref this), .val (.ref cs), .val (.int 0), .val (.int 0), .val (.int hi), .val (.int low), .val (.int 1), .val (.ref cs), .val (.int 2), .val (.int 0), .val (.int 0), .unset, .unset] (hb hby d4_239) rfl rfl ?_
 refine Run.x_aloadN (q := 242) X4 hx (hb hby d4_241) rfl rfl rfl ?_
 replace F_this_sentTo := F_this_sentTo.other W2 (Or.inr (slot_ne (Or.inr (wm17 hw)) (Or.inl (wm40 hw)) (by decide) (t := (.array (.array .int))) (t' := .int) (by decide) (by decide)))
 refine Run.z_getF (q := 245) X4 hx hZ e4 hown (wm16 hw) F_this_sentTo (hb hby d4_242) rfl fun T5 X5 e5 => ?_
 refine Run.x_iload (q := 247) X5 hx (hb hby d4_245) rfl rfl ?_
 replace A_gr := A_gr.other W2 (Ne.symm ne_this_gr)
 refine Run.y_ldR (q := 248) X5 hx hZ e5 A_gr (i := 0) (v := (.ref r0)) (by decide) rfl rfl (hb hby d4_247) rfl ?_
 refine Run.x_astore (q := 250) X5 hx #[.val (.ref this), .val (.ref cs), .val (.int 0), .val (.int 0), .val (.int hi), .val (.int low), .val (.int 1), .val (.ref cs), .val (.int 2), .val (.int 0), .val (.int 0), .val (.ref r0), .unset] (hb hby d4_248) rfl rfl rfl ?_
 refine Run.x_iloadN (q := 251) X5 hx (hb hby d4_250) rfl rfl ?_
 refine Run.x_ifYes (q := 269) X5 hx (hb hby d4_251) ((if0 _ _).trans (flt (by decide : ¬ ((0 : Int32) < (0 : Int32)))).2.2.2) (by decide) (by decide) ?_
 refine Run.x_iloadN (q := 270) X5 hx (hb hby d4_269) rfl rfl ?_
 refine Run.x_istore (q := 272) X5 hx #[.val (.ref this), .val (.ref cs), .val (.int 0), .val (.int 0), .val (.int hi), .val (.int low), .val (.int 1), .val (.ref cs), .val (.int 2), .val (.int 0), .val (.int 0), .val (.ref r0), .val (.int 0)] (hb hby d4_270) rfl rfl ?_
 refine Run.x_iload (q := 274) X5 hx (hb hby d4_272) rfl rfl ?_
 refine Run.x_iloadN (q := 275) X5 hx (hb hby d4_274) rfl rfl ?_
 refine Run.x_icmpNo (q := 278) X5 hx (hb hby d4_275) (flt (by decide : ¬ ((0 : Int32) < (0 : Int32)))).2.2.1 rfl ?_
 refine Run.x_iload (q := 280) X5 hx (hb hby d4_278) rfl rfl ?_
 refine Run.x_aload (q := 282) X5 hx (hb hby d4_280) rfl rfl rfl ?_
 refine Run.x_iload (q := 284) X5 hx (hb hby d4_282) rfl rfl ?_
 replace A_r0 := A_r0.other W2 (Ne.symm ne_this_r0)
 refine Run.y_ldI (q := 285) X5 hx hZ e5 A_r0 (i := 0) (v := (.int (f0 0))) (by decide) (own_row_at (by decide)) (hb hby d4_284) rfl ?_
 refine Run.x_iconst (q := 286) X5 hx (hb hby d4_285) (z := (0 : Int32)) rfl rfl ?_
 refine Run.callSI (q := 289) X5 hx hZ e5 (y := (⟨"java/lang/Math", "max", "(II)I"⟩ : MethodName)) hown (wm41 hw) (wm42 hw) (wm43 hw) (wm44 hw) (by decide) (argsL := [(.int (f0 0)), (.int 0)]) (rest := [(.int hi)]) (c_max l Z a0 hw (f0 0) (0 : Int32) h2 n0 Z2 hi hm0) pd_1 rfl (by rw [hml]; rfl) (W := 1) rfl (by decide) (by decide) (by decide) (by decide) (hb hby d4_286) rfl rfl fun T6 L6 X6 M6 e6 => ?_
 have N6 := Fr.app N2 M6
 refine Run.x_icmpYes (q := 301) X6 hx (hb hby d4_289) (teq rfl).1 (by decide) (by decide) ?_
 refine Run.x_aload (q := 303) X6 hx (hb hby d4_301) rfl rfl rfl ?_
 refine Run.x_iload (q := 305) X6 hx (hb hby d4_303) rfl rfl ?_
 refine Run.x_iload (q := 307) X6 hx (hb hby d4_305) rfl rfl ?_
 refine Run.y_stI (q := 308) X6 hx hZ e6 A_r0 (i := 0) (by decide) (by rw [own_row_len]; decide) (hb hby d4_307) rfl fun T7 h7 X7 e7 W7 A7 => ?_
 replace A_r0 : Ars Z h7 r0 .int ((own_row f0).set 0 (Value.int low)) := A7
 replace KP := KP.wr W7 (Or.inl (by simp))
 have N7 := Fr.snoc X7 N6 g_r0
 have Z7 : n0 ≤ h7.size := Nat.le_trans Z2 (Nat.le_of_eq W7.size.symm)
 replace A_r0 : Ars Z h7 r0 .int (own_row (own_upd f0 0 low)) := by rw [← own_row_set (by decide)]; exact A_r0
 refine Run.x_iinc (q := 311) X7 hx #[.val (.ref this), .val (.ref cs), .val (.int 0), .val (.int 0), .val (.int hi), .val (.int low), .val (.int 1), .val (.ref cs), .val (.int 2), .val (.int 0), .val (.int 0), .val (.ref r0), .val (.int 1)] (hb hby d4_308) rfl (z := (1 : Int32)) (by decide) rfl rfl ?_
 refine Run.x_goto (q := 272) X7 hx (hb hby d4_311) (by decide) (by decide) ?_
 refine Run.x_iload (q := 274) X7 hx (hb hby d4_272) rfl rfl ?_
 refine Run.x_iloadN (q := 275) X7 hx (hb hby d4_274) rfl rfl ?_
 refine Run.x_icmpYes (q := 314) X7 hx (hb hby d4_275) (tlt (by decide : (0 : Int32) < (1 : Int32))).2.2.1 (by decide) (by decide) ?_
 refine Run.x_iinc (q := 317) X7 hx #[.val (.ref this), .val (.ref cs), .val (.int 0), .val (.int 0), .val (.int hi), .val (.int low), .val (.int 1), .val (.ref cs), .val (.int 2), .val (.int 1), .val (.int 0), .val (.ref r0), .val (.int 1)] (hb hby d4_314) rfl (z := (1 : Int32)) (by decide) rfl rfl ?_
 refine Run.x_goto (q := 227) X7 hx (hb hby d4_317) (by decide) (by decide) ?_
 refine Run.x_iload (q := 229) X7 hx (hb hby d4_227) rfl rfl ?_
 refine Run.x_iload (q := 231) X7 hx (hb hby d4_229) rfl rfl ?_
 refine Run.x_icmpNo (q := 234) X7 hx (hb hby d4_231) (tlt (by decide : (1 : Int32) < (2 : Int32))).2.1 rfl ?_
 refine Run.x_aload (q := 236) X7 hx (hb hby d4_234) rfl rfl rfl ?_
 refine Run.x_iload (q := 238) X7 hx (hb hby d4_236) rfl rfl ?_
 replace A_cs := A_cs.other W7 (Ne.symm ne_r0_cs)
 refine Run.y_ldI (q := 239) X7 hx hZ e7 A_cs (i := 1) (v := (.int 1)) (by decide) rfl (hb hby d4_238) rfl ?_
 refine Run.x_istore (q := 241) X7 hx #[.val (.ref this), .val (.ref cs), .val (.int 0), .val (.int 0), .val (.int hi), .val (.int low), .val (.int 1), .val (.ref cs), .val (.int 2), .val (.int 1), .val (.int 1), .val (.ref r0), .val (.int 1)] (hb hby d4_239) rfl rfl ?_
 refine Run.x_aloadN (q := 242) X7 hx (hb hby d4_241) rfl rfl rfl ?_
 replace F_this_sentTo := F_this_sentTo.other W7 (Or.inl ne_this_r0)
 refine Run.z_getF (q := 245) X7 hx hZ e7 hown (wm16 hw) F_this_sentTo (hb hby d4_242) rfl fun T8 X8 e8 => ?_
 refine Run.x_iload (q := 247) X8 hx (hb hby d4_245) rfl rfl ?_
 replace A_gr := A_gr.other W7 ne_gr_r0
 refine Run.y_ldR (q := 248) X8 hx hZ e8 A_gr (i := 1) (v := (.ref r1)) (by decide) rfl rfl (hb hby d4_247) rfl ?_
 refine Run.x_astore (q := 250) X8 hx #[.val (.ref this), .val (.ref cs), .val (.int 0), .val (.int 0), .val (.int hi), .val (.int low), .val (.int 1), .val (.ref cs), .val (.int 2), .val (.int 1), .val (.int 1), .val (.ref r1), .val (.int 1)] (hb hby d4_248) rfl rfl rfl ?_
 refine Run.x_iloadN (q := 251) X8 hx (hb hby d4_250) rfl rfl ?_
 refine Run.x_ifYes (q := 269) X8 hx (hb hby d4_251) ((if0 _ _).trans (flt (by decide : ¬ ((0 : Int32) < (0 : Int32)))).2.2.2) (by decide) (by decide) ?_
 refine Run.x_iloadN (q := 270) X8 hx (hb hby d4_269) rfl rfl ?_
 refine Run.x_istore (q := 272) X8 hx #[.val (.ref this), .val (.ref cs), .val (.int 0), .val (.int 0), .val (.int hi), .val (.int low), .val (.int 1), .val (.ref cs), .val (.int 2), .val (.int 1), .val (.int 1), .val (.ref r1), .val (.int 0)] (hb hby d4_270) rfl rfl ?_
 refine Run.x_iload (q := 274) X8 hx (hb hby d4_272) rfl rfl ?_
 refine Run.x_iloadN (q := 275) X8 hx (hb hby d4_274) rfl rfl ?_
 refine Run.x_icmpNo (q := 278) X8 hx (hb hby d4_275) (flt (by decide : ¬ ((0 : Int32) < (0 : Int32)))).2.2.1 rfl ?_
 refine Run.x_iload (q := 280) X8 hx (hb hby d4_278) rfl rfl ?_
 refine Run.x_aload (q := 282) X8 hx (hb hby d4_280) rfl rfl rfl ?_
 refine Run.x_iload (q := 284) X8 hx (hb hby d4_282) rfl rfl ?_
 replace A_r1 := (A_r1.other W2 (Ne.symm ne_this_r1)).other W7 (Ne.symm ne_r0_r1)
 refine Run.y_ldI (q := 285) X8 hx hZ e8 A_r1 (i := 0) (v := (.int (f1 0))) (by decide) (own_row_at (by decide)) (hb hby d4_284) rfl ?_
 refine Run.x_iconst (q := 286) X8 hx (hb hby d4_285) (z := (0 : Int32)) rfl rfl ?_
 refine Run.callSI (q := 289) X8 hx hZ e8 (y := (⟨"java/lang/Math", "max", "(II)I"⟩ : MethodName)) hown (wm41 hw) (wm42 hw) (wm43 hw) (wm44 hw) (by decide) (argsL := [(.int (f1 0)), (.int 0)]) (rest := [(.int hi)]) (c_max l Z a0 hw (f1 0) (0 : Int32) h7 n0 Z7 hi hm1) pd_1 rfl (by rw [hml]; rfl) (W := 1) rfl (by decide) (by decide) (by decide) (by decide) (hb hby d4_286) rfl rfl fun T9 L9 X9 M9 e9 => ?_
 have N9 := Fr.app N7 M9
 refine Run.x_icmpYes (q := 301) X9 hx (hb hby d4_289) (teq rfl).1 (by decide) (by decide) ?_
 refine Run.x_aload (q := 303) X9 hx (hb hby d4_301) rfl rfl rfl ?_
 refine Run.x_iload (q := 305) X9 hx (hb hby d4_303) rfl rfl ?_
 refine Run.x_iload (q := 307) X9 hx (hb hby d4_305) rfl rfl ?_
 refine Run.y_stI (q := 308) X9 hx hZ e9 A_r1 (i := 0) (by decide) (by rw [own_row_len]; decide) (hb hby d4_307) rfl fun T10 h10 X10 e10 W10 A10 => ?_
 replace A_r1 : Ars Z h10 r1 .int ((own_row f1).set 0 (Value.int low)) := A10
 replace KP := KP.wr W10 (Or.inl (by simp))
 have N10 := Fr.snoc X10 N9 g_r1
 have Z10 : n0 ≤ h10.size := Nat.le_trans Z7 (Nat.le_of_eq W10.size.symm)
 replace A_r1 : Ars Z h10 r1 .int (own_row (own_upd f1 0 low)) := by rw [← own_row_set (by decide)]; exact A_r1
 refine Run.x_iinc (q := 311) X10 hx #[.val (.ref this), .val (.ref cs), .val (.int 0), .val (.int 0), .val (.int hi), .val (.int low), .val (.int 1), .val (.ref cs), .val (.int 2), .val (.int 1), .val (.int 1), .val (.ref r1), .val (.int 1)] (hb hby d4_308) rfl (z := (1 : Int32)) (by decide) rfl rfl ?_
 refine Run.x_goto (q := 272) X10 hx (hb hby d4_311) (by decide) (by decide) ?_
 refine Run.x_iload (q := 274) X10 hx (hb hby d4_272) rfl rfl ?_
 refine Run.x_iloadN (q := 275) X10 hx (hb hby d4_274) rfl rfl ?_
 refine Run.x_icmpYes (q := 314) X10 hx (hb hby d4_275) (tlt (by decide : (0 : Int32) < (1 : Int32))).2.2.1 (by decide) (by decide) ?_
 refine Run.x_iinc (q := 317) X10 hx #[.val (.ref this), .val (.ref cs), .val (.int 0), .val (.int 0), .val (.int hi), .val (.int low), .val (.int 1), .val (.ref cs), .val (.int 2), .val (.int 2), .val (.int 1), .val (.ref r1), .val (.int 1)] (hb hby d4_314) rfl (z := (2 : Int32)) (by decide) rfl rfl ?_
 refine Run.x_goto (q := 227) X10 hx (hb hby d4_317) (by decide) (by decide) ?_
 refine Run.x_iload (q := 229) X10 hx (hb hby d4_227) rfl rfl ?_
 refine Run.x_iload (q := 231) X10 hx (hb hby d4_229) rfl rfl ?_
 refine Run.x_icmpYes (q := 320) X10 hx (hb hby d4_231) (flt (by decide : ¬ ((2 : Int32) < (2 : Int32)))).2.1 (by decide) (by decide) ?_
 refine Run.x_iconst (q := 321) X10 hx (hb hby d4_320) (z := (1 : Int32)) rfl rfl ?_
 replace E_this := ((E_this.wr W2).wr W7).wr W10
 replace F_this_progressive := (F_this_progressive.other W7 (Or.inl ne_this_r0)).other W10 (Or.inl ne_this_r1)
 replace F_this_components := ((F_this_components.other W2 (Or.inr (slot_ne (Or.inr (wm12 hw)) (Or.inl (wm40 hw)) (by decide) (t := .int) (t' := .int) (by decide) (by decide)))).other W7 (Or.inl ne_this_r0)).other W10 (Or.inl ne_this_r1)
 replace F_this_sentTo := F_this_sentTo.other W10 (Or.inl ne_this_r1)
 replace F_this_count := (F_this_count.other W7 (Or.inl ne_this_r0)).other W10 (Or.inl ne_this_r1)
 replace F_this_sentAgain := ((F_this_sentAgain.other W2 (Or.inr (slot_ne (Or.inl (wm32 hw)) (Or.inl (wm40 hw)) (by decide) (t := .boolean) (t' := .int) (by decide) (by decide)))).other W7 (Or.inl ne_this_r0)).other W10 (Or.inl ne_this_r1)
 replace A_gr := A_gr.other W10 ne_gr_r1
 replace A_r0 := A_r0.other W10 ne_r0_r1
 replace A_cs := A_cs.other W10 (Ne.symm ne_r1_cs)
 refine Run.retN X10 hx hlk e10 (t := .boolean) hret (by simp) (z' := (1 : Int32)) (by decide) (hb hby d4_321) (by decide) (by decide) ?_
 exact ⟨_, rfl, N10, KP, E_this, F_this_progressive, F_this_components, F_this_sentTo, F_this_count, F_this_sentAgain, A_r0, A_r1⟩
theorem ef_c_ac_1_0_0 (m : MethodId) (this : Addr) (cs : Addr) (av : Int32) (ev : Int32) (low : Int32) : entryFrame m #[(.ref this), (.ref cs), (.int av), (.int ev), (.int 0), (.int low)] 13 = mkF m 0 #[.val (.ref this), .val (.ref cs), .val (.int av), .val (.int ev), .val (.int 0), .val (.int low), .unset, .unset, .unset, .unset, .unset, .unset, .unset] [] := by first | (simp [entryFrame, mkF, argsToLocals, Value.category]; done) | rfl
set_option maxRecDepth 65536 in
set_option maxHeartbeats 40000000 in
theorem c_ac_1_0_0 (l : Launch) (Z : State) (a0 : Array Value) (hw : ∀ d ∈ tables_1, d.before a0 Z = true) (this : Addr) (cs : Addr) (av : Int32) (ev : Int32) (low : Int32) (h0 : Heap) (n0 : Nat) (Z0 : n0 ≤ h0.size) (gr : Addr) (r0 : Addr) (cnt : Int32) (sa : Int32) (f0 : Nat → Int32) (sA : Nat) (se : Nat) (E_this : Exa Z h0 this "semblance/JpegScans") (F_this_progressive : Fld Z h0 this "semblance/JpegScans" "progressive" "Z" (.int 1)) (F_this_components : Fld Z h0 this "semblance/JpegScans" "components" "I" (.int 1)) (F_this_sentTo : Fld Z h0 this "semblance/JpegScans" "sentTo" "[[I" (.ref gr)) (F_this_count : Fld Z h0 this "semblance/JpegScans" "count" "I" (.int cnt)) (F_this_sentAgain : Fld Z h0 this "semblance/JpegScans" "sentAgain" "Z" (.int sa)) (A_gr : Ars Z h0 gr (.array .int) [(.ref r0)]) (A_r0 : Ars Z h0 r0 .int (own_row f0)) (A_cs : Ars Z h0 cs .int [(.int 0)]) (g_this : n0 ≤ this) (g_r0 : n0 ≤ r0) (ne_this_gr : this ≠ gr) (ne_this_r0 : this ≠ r0) (ne_this_cs : this ≠ cs) (ne_gr_r0 : gr ≠ r0) (ne_gr_cs : gr ≠ cs) (ne_r0_cs : r0 ≠ cs) (hcnt : 0 ≤ cnt.toInt ∧ cnt.toInt ≤ 20) (hl : 0 ≤ low.toInt ∧ low.toInt ≤ 13) (hav : av.toInt = sA) (hev : ev.toInt = se) (h1 : 1 ≤ sA) (h2 : sA ≤ se) (h3 : se ≤ 63) (h00 : 0 ≤ (f0 0).toInt) (hmx : ∀ i, sA ≤ i → i ≤ se → (if (f0 i) < (0 : Int32) then (0 : Int32) else (f0 i)) = (0 : Int32)) :
  Ctr l Z (⟨"semblance/JpegScans", "take", "([IIIII)Z"⟩ : MethodName) prog_41_method_2_code 13 (some .boolean) ({ frames := 1, cells := 0, slots := 0, locals := 14 } : Room) #[(.ref this), (.ref cs), (.int av), (.int ev), (.int 0), (.int low)] h0 (fun v h L => ∃ b : Int32, v = some (.int b) ∧ Fr n0 L ∧ Keep h0 h [this, r0] ∧ Exa Z h this "semblance/JpegScans" ∧ Fld Z h this "semblance/JpegScans" "progressive" "Z" (.int 1) ∧ Fld Z h this "semblance/JpegScans" "components" "I" (.int 1) ∧ Fld Z h this "semblance/JpegScans" "sentTo" "[[I" (.ref gr) ∧ Fld Z h this "semblance/JpegScans" "count" "I" (.int (cnt + (1 : Int32))) ∧ Fld Z h this "semblance/JpegScans" "sentAgain" "Z" (.int sa) ∧ Ars Z h r0 .int (own_row (own_put f0 sA (se + 1) low))) := by
 refine Ctr.of (plainFor_of_name pn_1) (fun m => ef_c_ac_1_0_0 m this cs av ev low) ?_
 intro p e s m below meth c T0 hx hby hml hown hnm hret hlk hZ e0 X0
 have N0 := Fr.nil n0
 replace hown : s.vm.findClass "semblance/JpegScans" = some m.cls := hown
 replace hml : c.maxLocals = 13 := hml
 have KP := Keep.refl h0 [this, r0]
 refine Run.x_aloadN (q := 1) X0 hx (hb hby d4_0) rfl rfl rfl ?_
 refine Run.x_dup (q := 2) X0 hx (hb hby d4_1) rfl rfl ?_
 refine Run.z_getF (q := 5) X0 hx hZ e0 hown (wm39 hw) F_this_count (hb hby d4_2) rfl fun T1 X1 e1 => ?_
 refine Run.x_iconst (q := 6) X1 hx (hb hby d4_5) (z := (1 : Int32)) rfl rfl ?_
 refine Run.x_iadd (q := 7) X1 hx (hb hby d4_6) rfl rfl ?_
 obtain ⟨T2, h2, X2, e2, W2, st2⟩ := putF X1 hx hZ hown (host := "") (Or.inl (wm39 hw)) Via.refl e1 F_this_count E_this (Or.inl (wm40 hw)) (wm1 hw) (ty := .int) (by decide) rfl rfl (g := (mkF m 7 #[.val (.ref this), .val (.ref cs), .val (.int av), .val (.int ev), .val (.int 0), .val (.int low), .unset, .unset, .unset, .unset, .unset, .unset, .unset] [(.int (cnt + (1 : Int32))), (.ref this)])) rfl rfl (hb hby d4_7)
 replace F_this_count := F_this_count.same W2
 have Z2 : n0 ≤ h2.size := Nat.le_trans Z0 (Nat.le_of_eq W2.size.symm)
 replace KP := KP.wr W2 (Or.inl (by simp))
 have N2 := Fr.snoc X2 N0 g_this
 refine Run.st st2 ?_
 show Run p e below s _ _ _ (T2.setTop (mkF m 10 #[.val (.ref this), .val (.ref cs), .val (.int av), .val (.int ev), .val (.int 0), .val (.int low), .unset, .unset, .unset, .unset, .unset, .unset, .unset] []))
 refine Run.x_aloadN (q := 11) X2 hx (hb hby d4_10) rfl rfl rfl ?_
 refine Run.z_getF (q := 14) X2 hx hZ e2 hown (wm39 hw) F_this_count (hb hby d4_11) rfl fun T3 X3 e3 => ?_
 refine Run.x_bipush (q := 16) X3 hx (hb hby d4_14) (z := (32 : Int32)) rfl rfl ?_
 refine Run.x_icmpYes (q := 29) X3 hx (hb hby d4_16) (flt (own_c32 hcnt)).2.2.2 (by decide) (by decide) ?_
 refine Run.x_aloadN (q := 30) X3 hx (hb hby d4_29) rfl rfl rfl ?_
 replace F_this_progressive := F_this_progressive.other W2 (Or.inr (slot_ne (Or.inr (wm10 hw)) (Or.inl (wm40 hw)) (by decide) (t := .boolean) (t' := .int) (by decide) (by decide)))
 refine Run.z_getF (q := 33) X3 hx hZ e3 hown (wm9 hw) F_this_progressive (hb hby d4_30) rfl fun T4 X4 e4 => ?_
 refine Run.x_ifYes (q := 127) X4 hx (hb hby d4_33) ((if0 _ _).trans (feq (by decide : ¬ ((1 : Int32) = (0 : Int32)))).2) (by decide) (by decide) ?_
 refine Run.x_iloadN (q := 128) X4 hx (hb hby d4_127) rfl rfl ?_
 refine Run.x_ifYes (q := 143) X4 hx (hb hby d4_128) ((if0 _ _).trans (feq (own_ne0 hav h1)).2) (by decide) (by decide) ?_
 refine Run.x_iloadN (q := 144) X4 hx (hb hby d4_143) rfl rfl ?_
 refine Run.x_iloadN (q := 145) X4 hx (hb hby d4_144) rfl rfl ?_
 refine Run.x_icmpNo (q := 148) X4 hx (hb hby d4_145) (flt (by rw [lt32]; omega)).2.2.1 rfl ?_
 refine Run.x_iloadN (q := 149) X4 hx (hb hby d4_148) rfl rfl ?_
 refine Run.x_bipush (q := 151) X4 hx (hb hby d4_149) (z := (64 : Int32)) rfl rfl ?_
 refine Run.x_icmpNo (q := 154) X4 hx (hb hby d4_151) (tlt (own_lt64 hev h3)).2.1 rfl ?_
 refine Run.x_aloadN (q := 155) X4 hx (hb hby d4_154) rfl rfl rfl ?_
 replace A_cs := A_cs.other W2 (Ne.symm ne_this_cs)
 refine Run.y_alen (q := 156) X4 hx hZ e4 A_cs (z := (1 : Int32)) (by decide) (hb hby d4_155) rfl ?_
 refine Run.x_iconst (q := 157) X4 hx (hb hby d4_156) (z := (1 : Int32)) rfl rfl ?_
 refine Run.x_icmpNo (q := 160) X4 hx (hb hby d4_157) (teq (by decide : (1 : Int32) = (1 : Int32))).2 rfl ?_
 refine Run.x_iconst (q := 161) X4 hx (hb hby d4_160) (z := (1 : Int32)) rfl rfl ?_
 refine Run.x_goto (q := 165) X4 hx (hb hby d4_161) (by decide) (by decide) ?_
 refine Run.x_istore (q := 167) X4 hx #[.val (.ref this), .val (.ref cs), .val (.int av), .val (.int ev), .val (.int 0), .val (.int low), .val (.int 1), .unset, .unset, .unset, .unset, .unset, .unset] (hb hby d4_165) rfl rfl ?_
 refine Run.x_iload (q := 169) X4 hx (hb hby d4_167) rfl rfl ?_
 refine Run.x_ifNo (q := 172) X4 hx (hb hby d4_169) ((if0 _ _).trans (feq (by decide : ¬ ((1 : Int32) = (0 : Int32)))).1) rfl ?_
 refine Run.x_iload (q := 174) X4 hx (hb hby d4_172) rfl rfl ?_
 refine Run.x_ifYes (q := 186) X4 hx (hb hby d4_174) ((if0 _ _).trans (teq (by decide : (0 : Int32) = (0 : Int32))).1) (by decide) (by decide) ?_
 refine Run.x_iload (q := 188) X4 hx (hb hby d4_186) rfl rfl ?_
 refine Run.x_bipush (q := 190) X4 hx (hb hby d4_188) (z := (13 : Int32)) rfl rfl ?_
 refine Run.x_icmpYes (q := 216) X4 hx (hb hby d4_190) (flt (own_13 hl)).2.2.2 (by decide) (by decide) ?_
 refine Run.x_aloadN (q := 217) X4 hx (hb hby d4_216) rfl rfl rfl ?_
 refine Run.x_astore (q := 219) X4 hx #[.val (.ref this), .val (.ref cs), .val (.int av), .val (.int ev), .val (.int 0), .val (.int low), .val (.int 1), .val (.ref cs), .unset, .unset, .unset, .unset, .unset] (hb hby d4_217) rfl rfl rfl ?_
 refine Run.x_aload (q := 221) X4 hx (hb hby d4_219) rfl rfl rfl ?_
 refine Run.y_alen (q := 222) X4 hx hZ e4 A_cs (z := (1 : Int32)) (by decide) (hb hby d4_221) rfl ?_
 refine Run.x_istore (q := 224) X4 hx #[.val (.ref this), .val (.ref cs), .val (.int av), .val (.int ev), .val (.int 0), .val (.int low), .val (.int 1), .val (.ref cs), .val (.int 1), .unset, .unset, .unset, .unset] (hb hby d4_222) rfl rfl ?_
 refine Run.x_iconst (q := 225) X4 hx (hb hby d4_224) (z := (0 : Int32)) rfl rfl ?_
 refine Run.x_istore (q := 227) X4 hx #[.val (.ref this), .val (.ref cs), .val (.int av), .val (.int ev), .val (.int 0), .val (.int low), .val (.int 1), .val (.ref cs), .val (.int 1), .val (.int 0), .unset, .unset, .unset] (hb hby d4_225) rfl rfl ?_
 refine Run.x_iload (q := 229) X4 hx (hb hby d4_227) rfl rfl ?_
 refine Run.x_iload (q := 231) X4 hx (hb hby d4_229) rfl rfl ?_
 refine Run.x_icmpNo (q := 234) X4 hx (hb hby d4_231) (tlt (by decide : (0 : Int32) < (1 : Int32))).2.1 rfl ?_
 refine Run.x_aload (q := 236) X4 hx (hb hby d4_234) rfl rfl rfl ?_
 refine Run.x_iload (q := 238) X4 hx (hb hby d4_236) rfl rfl ?_
 refine Run.y_ldI (q := 239) X4 hx hZ e4 A_cs (i := 0) (v := (.int 0)) (by decide) rfl (hb hby d4_238) rfl ?_
 refine Run.x_istore (q := 241) X4 hx #[.val (.ref this), .val (.ref cs), .val (.int av), .val (.int ev), .val (.int 0), .val (.int low), .val (.int 1), .val (.ref cs), .val (.int 1), .val (.int 0), .val (.int 0), .unset, .unset] (hb hby d4_239) rfl rfl ?_
 refine Run.x_aloadN (q := 242) X4 hx (hb hby d4_241) rfl rfl rfl ?_
 replace F_this_sentTo := F_this_sentTo.other W2 (Or.inr (slot_ne (Or.inr (wm17 hw)) (Or.inl (wm40 hw)) (by decide) (t := (.array (.array .int))) (t' := .int) (by decide) (by decide)))
 refine Run.z_getF (q := 245) X4 hx hZ e4 hown (wm16 hw) F_this_sentTo (hb hby d4_242) rfl fun T5 X5 e5 => ?_
 refine Run.x_iload (q := 247) X5 hx (hb hby d4_245) rfl rfl ?_
 replace A_gr := A_gr.other W2 (Ne.symm ne_this_gr)
 refine Run.y_ldR (q := 248) X5 hx hZ e5 A_gr (i := 0) (v := (.ref r0)) (by decide) rfl rfl (hb hby d4_247) rfl ?_
 refine Run.x_astore (q := 250) X5 hx #[.val (.ref this), .val (.ref cs), .val (.int av), .val (.int ev), .val (.int 0), .val (.int low), .val (.int 1), .val (.ref cs), .val (.int 1), .val (.int 0), .val (.int 0), .val (.ref r0), .unset] (hb hby d4_248) rfl rfl rfl ?_
 refine Run.x_iloadN (q := 251) X5 hx (hb hby d4_250) rfl rfl ?_
 refine Run.x_ifNo (q := 254) X5 hx (hb hby d4_251) ((if0 _ _).trans (tlt (own_pos hav h1)).2.2.2) rfl ?_
 refine Run.x_aload (q := 256) X5 hx (hb hby d4_254) rfl rfl rfl ?_
 refine Run.x_iconst (q := 257) X5 hx (hb hby d4_256) (z := (0 : Int32)) rfl rfl ?_
 replace A_r0 := A_r0.other W2 (Ne.symm ne_this_r0)
 refine Run.y_ldI (q := 258) X5 hx hZ e5 A_r0 (i := 0) (v := (.int (f0 0))) (by decide) (own_row_at (by decide)) (hb hby d4_257) rfl ?_
 refine Run.x_ifYes (q := 269) X5 hx (hb hby d4_258) ((if0 _ _).trans (flt (own_nn h00)).2.1) (by decide) (by decide) ?_
 refine Run.x_iloadN (q := 270) X5 hx (hb hby d4_269) rfl rfl ?_
 refine Run.x_istore (q := 272) X5 hx #[.val (.ref this), .val (.ref cs), .val (.int av), .val (.int ev), .val (.int 0), .val (.int low), .val (.int 1), .val (.ref cs), .val (.int 1), .val (.int 0), .val (.int 0), .val (.ref r0), .val (.int av)] (hb hby d4_270) rfl rfl ?_
 have loop : ∀ (k : Nat) (t : Nat) (tv : Int32) (T6 : State) (h6 : Heap) (lo6 : List Loc), Stand p l e ({ frames := 1, cells := 0, slots := 0, locals := 14 } : Room) s m #[(.ref this), (.ref cs), (.int av), (.int ev), (.int 0), (.int low)] below meth c T6 lo6 0 0 → T6.heap = h6 → Fr n0 lo6 → n0 ≤ h6.size → Keep h0 h6 [this, r0] → Exa Z h6 this "semblance/JpegScans" → Fld Z h6 this "semblance/JpegScans" "progressive" "Z" (.int 1) → Fld Z h6 this "semblance/JpegScans" "components" "I" (.int 1) → Fld Z h6 this "semblance/JpegScans" "sentTo" "[[I" (.ref gr) → Fld Z h6 this "semblance/JpegScans" "count" "I" (.int (cnt + (1 : Int32))) → Fld Z h6 this "semblance/JpegScans" "sentAgain" "Z" (.int sa) → Ars Z h6 gr (.array .int) [(.ref r0)] → Ars Z h6 r0 .int (own_row (own_put f0 sA t low)) → Ars Z h6 cs .int [(.int 0)] → (tv.toInt = t) → (t + k = se + 1) → (sA ≤ t) → Run p e below s (fun v h L => ∃ b : Int32, v = some (.int b) ∧ Fr n0 L ∧ Keep h0 h [this, r0] ∧ Exa Z h this "semblance/JpegScans" ∧ Fld Z h this "semblance/JpegScans" "progressive" "Z" (.int 1) ∧ Fld Z h this "semblance/JpegScans" "components" "I" (.int 1) ∧ Fld Z h this "semblance/JpegScans" "sentTo" "[[I" (.ref gr) ∧ Fld Z h this "semblance/JpegScans" "count" "I" (.int (cnt + (1 : Int32))) ∧ Fld Z h this "semblance/JpegScans" "sentAgain" "Z" (.int sa) ∧ Ars Z h r0 .int (own_row (own_put f0 sA (se + 1) low))) ({ frames := 1, cells := 0, slots := 0, locals := 14 } : Room).cells ({ frames := 1, cells := 0, slots := 0, locals := 14 } : Room).slots (T6.setTop (mkF m 272 #[.val (.ref this), .val (.ref cs), .val (.int av), .val (.int ev), .val (.int 0), .val (.int low), .val (.int 1), .val (.ref cs), .val (.int 1), .val (.int 0), .val (.int 0), .val (.ref r0), .val (.int tv)] [])) := by
  intro k
  induction k with
  | zero =>
   intro t tv T6 h6 lo6 X6 e6 N6 Z6 KP Ethis_6 Fprogressive_6 Fcomponents_6 FsentTo_6 Fcount_6 FsentAgain_6 Agr_6 Ar0_6 Acs_6 htv hk hst
   have e9 : t = se + 1 := by omega
   subst e9
   refine Run.x_iload (q := 274) X6 hx (hb hby d4_272) rfl rfl ?_
   refine Run.x_iloadN (q := 275) X6 hx (hb hby d4_274) rfl rfl ?_
   refine Run.x_icmpYes (q := 314) X6 hx (hb hby d4_275) (tlt (by rw [lt32]; omega)).2.2.1 (by decide) (by decide) ?_
   refine Run.x_iinc (q := 317) X6 hx #[.val (.ref this), .val (.ref cs), .val (.int av), .val (.int ev), .val (.int 0), .val (.int low), .val (.int 1), .val (.ref cs), .val (.int 1), .val (.int 1), .val (.int 0), .val (.ref r0), .val (.int tv)] (hb hby d4_314) rfl (z := (1 : Int32)) (by decide) rfl rfl ?_
   refine Run.x_goto (q := 227) X6 hx (hb hby d4_317) (by decide) (by decide) ?_
   refine Run.x_iload (q := 229) X6 hx (hb hby d4_227) rfl rfl ?_
   refine Run.x_iload (q := 231) X6 hx (hb hby d4_229) rfl rfl ?_
   refine Run.x_icmpYes (q := 320) X6 hx (hb hby d4_231) (flt (by decide : ¬ ((1 : Int32) < (1 : Int32)))).2.1 (by decide) (by decide) ?_
   refine Run.x_iconst (q := 321) X6 hx (hb hby d4_320) (z := (1 : Int32)) rfl rfl ?_
   refine Run.retN X6 hx hlk e6 (t := .boolean) hret (by simp) (z' := (1 : Int32)) (by decide) (hb hby d4_321) (by decide) (by decide) ?_
   exact ⟨_, rfl, N6, KP, Ethis_6, Fprogressive_6, Fcomponents_6, FsentTo_6, Fcount_6, FsentAgain_6, Ar0_6⟩
  | succ k ih =>
   intro t tv T6 h6 lo6 X6 e6 N6 Z6 KP Ethis_6 Fprogressive_6 Fcomponents_6 FsentTo_6 Fcount_6 FsentAgain_6 Agr_6 Ar0_6 Acs_6 htv hk hst
   refine Run.x_iload (q := 274) X6 hx (hb hby d4_272) rfl rfl ?_
   refine Run.x_iloadN (q := 275) X6 hx (hb hby d4_274) rfl rfl ?_
   refine Run.x_icmpNo (q := 278) X6 hx (hb hby d4_275) (flt (by rw [lt32]; omega)).2.2.1 rfl ?_
   refine Run.x_iload (q := 280) X6 hx (hb hby d4_278) rfl rfl ?_
   refine Run.x_aload (q := 282) X6 hx (hb hby d4_280) rfl rfl rfl ?_
   refine Run.x_iload (q := 284) X6 hx (hb hby d4_282) rfl rfl ?_
   refine Run.y_ldI (q := 285) X6 hx hZ e6 Ar0_6 (i := t) (v := (.int (f0 t))) htv (own_put_at (by omega)) (hb hby d4_284) rfl ?_
   refine Run.x_iconst (q := 286) X6 hx (hb hby d4_285) (z := (0 : Int32)) rfl rfl ?_
   refine Run.callSI (q := 289) X6 hx hZ e6 (y := (⟨"java/lang/Math", "max", "(II)I"⟩ : MethodName)) hown (wm41 hw) (wm42 hw) (wm43 hw) (wm44 hw) (by decide) (argsL := [(.int (f0 t)), (.int 0)]) (rest := [(.int 0)]) (c_max l Z a0 hw (f0 t) (0 : Int32) h6 n0 Z6 (0 : Int32) (hmx t (by omega) (by omega))) pd_1 rfl (by rw [hml]; rfl) (W := 1) rfl (by decide) (by decide) (by decide) (by decide) (hb hby d4_286) rfl rfl fun T7 L7 X7 M7 e7 => ?_
   have N7 := Fr.app N6 M7
   refine Run.x_icmpYes (q := 301) X7 hx (hb hby d4_289) (teq (by decide : (0 : Int32) = (0 : Int32))).1 (by decide) (by decide) ?_
   refine Run.x_aload (q := 303) X7 hx (hb hby d4_301) rfl rfl rfl ?_
   refine Run.x_iload (q := 305) X7 hx (hb hby d4_303) rfl rfl ?_
   refine Run.x_iload (q := 307) X7 hx (hb hby d4_305) rfl rfl ?_
   refine Run.y_stI (q := 308) X7 hx hZ e7 Ar0_6 (i := t) htv (by rw [own_row_len]; omega) (hb hby d4_307) rfl fun T8 h8 X8 e8 W8 A8 => ?_
   replace Ar0_6 : Ars Z h8 r0 .int ((own_row (own_put f0 sA t low)).set t (Value.int low)) := A8
   replace KP := KP.wr W8 (Or.inl (by simp))
   have N8 := Fr.snoc X8 N7 g_r0
   have Z8 : n0 ≤ h8.size := Nat.le_trans Z6 (Nat.le_of_eq W8.size.symm)
   refine Run.x_iinc (q := 311) X8 hx #[.val (.ref this), .val (.ref cs), .val (.int av), .val (.int ev), .val (.int 0), .val (.int low), .val (.int 1), .val (.ref cs), .val (.int 1), .val (.int 0), .val (.int 0), .val (.ref r0), .val (.int (tv + (1 : Int32)))] (hb hby d4_308) rfl (z := (tv + (1 : Int32))) rfl rfl rfl ?_
   refine Run.x_goto (q := 272) X8 hx (hb hby d4_311) (by decide) (by decide) ?_
   replace Ethis_6 := Ethis_6.wr W8
   replace Fprogressive_6 := Fprogressive_6.other W8 (Or.inl ne_this_r0)
   replace Fcomponents_6 := Fcomponents_6.other W8 (Or.inl ne_this_r0)
   replace FsentTo_6 := FsentTo_6.other W8 (Or.inl ne_this_r0)
   replace Fcount_6 := Fcount_6.other W8 (Or.inl ne_this_r0)
   replace FsentAgain_6 := FsentAgain_6.other W8 (Or.inl ne_this_r0)
   replace Agr_6 := Agr_6.other W8 ne_gr_r0
   replace Acs_6 := Acs_6.other W8 (Ne.symm ne_r0_cs)
   exact ih (t + 1) _ T8 h8 _ X8 e8 N8 Z8 KP Ethis_6 Fprogressive_6 Fcomponents_6 FsentTo_6 Fcount_6 FsentAgain_6 Agr_6 (by rw [← own_put_set (by omega) hst]; exact Ar0_6) Acs_6 (own_ofn htv (by omega)) (by omega) (by omega)
 replace E_this := E_this.wr W2
 replace F_this_components := F_this_components.other W2 (Or.inr (slot_ne (Or.inr (wm12 hw)) (Or.inl (wm40 hw)) (by decide) (t := .int) (t' := .int) (by decide) (by decide)))
 replace F_this_sentAgain := F_this_sentAgain.other W2 (Or.inr (slot_ne (Or.inl (wm32 hw)) (Or.inl (wm40 hw)) (by decide) (t := .boolean) (t' := .int) (by decide) (by decide)))
 exact loop (se + 1 - sA) sA _ T5 h2 _ X5 e5 N2 Z2 KP E_this F_this_progressive F_this_components F_this_sentTo F_this_count F_this_sentAgain A_gr (by rw [own_put_nil]; exact A_r0) A_cs hav (by omega) (Nat.le_refl _)
theorem ef_c_ac_1_0_1 (m : MethodId) (this : Addr) (cs : Addr) (av : Int32) (ev : Int32) (hi : Int32) (low : Int32) : entryFrame m #[(.ref this), (.ref cs), (.int av), (.int ev), (.int hi), (.int low)] 13 = mkF m 0 #[.val (.ref this), .val (.ref cs), .val (.int av), .val (.int ev), .val (.int hi), .val (.int low), .unset, .unset, .unset, .unset, .unset, .unset, .unset] [] := by first | (simp [entryFrame, mkF, argsToLocals, Value.category]; done) | rfl
set_option maxRecDepth 65536 in
set_option maxHeartbeats 40000000 in
theorem c_ac_1_0_1 (l : Launch) (Z : State) (a0 : Array Value) (hw : ∀ d ∈ tables_1, d.before a0 Z = true) (this : Addr) (cs : Addr) (av : Int32) (ev : Int32) (hi : Int32) (low : Int32) (h0 : Heap) (n0 : Nat) (Z0 : n0 ≤ h0.size) (gr : Addr) (r0 : Addr) (cnt : Int32) (sa : Int32) (f0 : Nat → Int32) (sA : Nat) (se : Nat) (E_this : Exa Z h0 this "semblance/JpegScans") (F_this_progressive : Fld Z h0 this "semblance/JpegScans" "progressive" "Z" (.int 1)) (F_this_components : Fld Z h0 this "semblance/JpegScans" "components" "I" (.int 1)) (F_this_sentTo : Fld Z h0 this "semblance/JpegScans" "sentTo" "[[I" (.ref gr)) (F_this_count : Fld Z h0 this "semblance/JpegScans" "count" "I" (.int cnt)) (F_this_sentAgain : Fld Z h0 this "semblance/JpegScans" "sentAgain" "Z" (.int sa)) (A_gr : Ars Z h0 gr (.array .int) [(.ref r0)]) (A_r0 : Ars Z h0 r0 .int (own_row f0)) (A_cs : Ars Z h0 cs .int [(.int 0)]) (g_this : n0 ≤ this) (g_r0 : n0 ≤ r0) (ne_this_gr : this ≠ gr) (ne_this_r0 : this ≠ r0) (ne_this_cs : this ≠ cs) (ne_gr_r0 : gr ≠ r0) (ne_gr_cs : gr ≠ cs) (ne_r0_cs : r0 ≠ cs) (hcnt : 0 ≤ cnt.toInt ∧ cnt.toInt ≤ 20) (hl : 0 ≤ low.toInt ∧ low.toInt ≤ 13) (hav : av.toInt = sA) (hev : ev.toInt = se) (h1 : 1 ≤ sA) (h2 : sA ≤ se) (h3 : se ≤ 63) (h00 : 0 ≤ (f0 0).toInt) (hmx : ∀ i, sA ≤ i → i ≤ se → (if (f0 i) < (0 : Int32) then (0 : Int32) else (f0 i)) = hi) (hh : ¬ hi = (0 : Int32)) (hlo : low = (hi - (1 : Int32))) :
  Ctr l Z (⟨"semblance/JpegScans", "take", "([IIIII)Z"⟩ : MethodName) prog_41_method_2_code 13 (some .boolean) ({ frames := 1, cells := 0, slots := 0, locals := 14 } : Room) #[(.ref this), (.ref cs), (.int av), (.int ev), (.int hi), (.int low)] h0 (fun v h L => ∃ b : Int32, v = some (.int b) ∧ Fr n0 L ∧ Keep h0 h [this, r0] ∧ Exa Z h this "semblance/JpegScans" ∧ Fld Z h this "semblance/JpegScans" "progressive" "Z" (.int 1) ∧ Fld Z h this "semblance/JpegScans" "components" "I" (.int 1) ∧ Fld Z h this "semblance/JpegScans" "sentTo" "[[I" (.ref gr) ∧ Fld Z h this "semblance/JpegScans" "count" "I" (.int (cnt + (1 : Int32))) ∧ Fld Z h this "semblance/JpegScans" "sentAgain" "Z" (.int sa) ∧ Ars Z h r0 .int (own_row (own_put f0 sA (se + 1) low))) := by
 refine Ctr.of (plainFor_of_name pn_1) (fun m => ef_c_ac_1_0_1 m this cs av ev hi low) ?_
 intro p e s m below meth c T0 hx hby hml hown hnm hret hlk hZ e0 X0
 have N0 := Fr.nil n0
 replace hown : s.vm.findClass "semblance/JpegScans" = some m.cls := hown
 replace hml : c.maxLocals = 13 := hml
 have KP := Keep.refl h0 [this, r0]
 refine Run.x_aloadN (q := 1) X0 hx (hb hby d4_0) rfl rfl rfl ?_
 refine Run.x_dup (q := 2) X0 hx (hb hby d4_1) rfl rfl ?_
 refine Run.z_getF (q := 5) X0 hx hZ e0 hown (wm39 hw) F_this_count (hb hby d4_2) rfl fun T1 X1 e1 => ?_
 refine Run.x_iconst (q := 6) X1 hx (hb hby d4_5) (z := (1 : Int32)) rfl rfl ?_
 refine Run.x_iadd (q := 7) X1 hx (hb hby d4_6) rfl rfl ?_
 obtain ⟨T2, h2, X2, e2, W2, st2⟩ := putF X1 hx hZ hown (host := "") (Or.inl (wm39 hw)) Via.refl e1 F_this_count E_this (Or.inl (wm40 hw)) (wm1 hw) (ty := .int) (by decide) rfl rfl (g := (mkF m 7 #[.val (.ref this), .val (.ref cs), .val (.int av), .val (.int ev), .val (.int hi), .val (.int low), .unset, .unset, .unset, .unset, .unset, .unset, .unset] [(.int (cnt + (1 : Int32))), (.ref this)])) rfl rfl (hb hby d4_7)
 replace F_this_count := F_this_count.same W2
 have Z2 : n0 ≤ h2.size := Nat.le_trans Z0 (Nat.le_of_eq W2.size.symm)
 replace KP := KP.wr W2 (Or.inl (by simp))
 have N2 := Fr.snoc X2 N0 g_this
 refine Run.st st2 ?_
 show Run p e below s _ _ _ (T2.setTop (mkF m 10 #[.val (.ref this), .val (.ref cs), .val (.int av), .val (.int ev), .val (.int hi), .val (.int low), .unset, .unset, .unset, .unset, .unset, .unset, .unset] []))
 refine Run.x_aloadN (q := 11) X2 hx (hb hby d4_10) rfl rfl rfl ?_
 refine Run.z_getF (q := 14) X2 hx hZ e2 hown (wm39 hw) F_this_count (hb hby d4_11) rfl fun T3 X3 e3 => ?_
 refine Run.x_bipush (q := 16) X3 hx (hb hby d4_14) (z := (32 : Int32)) rfl rfl ?_
 refine Run.x_icmpYes (q := 29) X3 hx (hb hby d4_16) (flt (own_c32 hcnt)).2.2.2 (by decide) (by decide) ?_
 refine Run.x_aloadN (q := 30) X3 hx (hb hby d4_29) rfl rfl rfl ?_
 replace F_this_progressive := F_this_progressive.other W2 (Or.inr (slot_ne (Or.inr (wm10 hw)) (Or.inl (wm40 hw)) (by decide) (t := .boolean) (t' := .int) (by decide) (by decide)))
 refine Run.z_getF (q := 33) X3 hx hZ e3 hown (wm9 hw) F_this_progressive (hb hby d4_30) rfl fun T4 X4 e4 => ?_
 refine Run.x_ifYes (q := 127) X4 hx (hb hby d4_33) ((if0 _ _).trans (feq (by decide : ¬ ((1 : Int32) = (0 : Int32)))).2) (by decide) (by decide) ?_
 refine Run.x_iloadN (q := 128) X4 hx (hb hby d4_127) rfl rfl ?_
 refine Run.x_ifYes (q := 143) X4 hx (hb hby d4_128) ((if0 _ _).trans (feq (own_ne0 hav h1)).2) (by decide) (by decide) ?_
 refine Run.x_iloadN (q := 144) X4 hx (hb hby d4_143) rfl rfl ?_
 refine Run.x_iloadN (q := 145) X4 hx (hb hby d4_144) rfl rfl ?_
 refine Run.x_icmpNo (q := 148) X4 hx (hb hby d4_145) (flt (by rw [lt32]; omega)).2.2.1 rfl ?_
 refine Run.x_iloadN (q := 149) X4 hx (hb hby d4_148) rfl rfl ?_
 refine Run.x_bipush (q := 151) X4 hx (hb hby d4_149) (z := (64 : Int32)) rfl rfl ?_
 refine Run.x_icmpNo (q := 154) X4 hx (hb hby d4_151) (tlt (own_lt64 hev h3)).2.1 rfl ?_
 refine Run.x_aloadN (q := 155) X4 hx (hb hby d4_154) rfl rfl rfl ?_
 replace A_cs := A_cs.other W2 (Ne.symm ne_this_cs)
 refine Run.y_alen (q := 156) X4 hx hZ e4 A_cs (z := (1 : Int32)) (by decide) (hb hby d4_155) rfl ?_
 refine Run.x_iconst (q := 157) X4 hx (hb hby d4_156) (z := (1 : Int32)) rfl rfl ?_
 refine Run.x_icmpNo (q := 160) X4 hx (hb hby d4_157) (teq (by decide : (1 : Int32) = (1 : Int32))).2 rfl ?_
 refine Run.x_iconst (q := 161) X4 hx (hb hby d4_160) (z := (1 : Int32)) rfl rfl ?_
 refine Run.x_goto (q := 165) X4 hx (hb hby d4_161) (by decide) (by decide) ?_
 refine Run.x_istore (q := 167) X4 hx #[.val (.ref this), .val (.ref cs), .val (.int av), .val (.int ev), .val (.int hi), .val (.int low), .val (.int 1), .unset, .unset, .unset, .unset, .unset, .unset] (hb hby d4_165) rfl rfl ?_
 refine Run.x_iload (q := 169) X4 hx (hb hby d4_167) rfl rfl ?_
 refine Run.x_ifNo (q := 172) X4 hx (hb hby d4_169) ((if0 _ _).trans (feq (by decide : ¬ ((1 : Int32) = (0 : Int32)))).1) rfl ?_
 refine Run.x_iload (q := 174) X4 hx (hb hby d4_172) rfl rfl ?_
 refine Run.x_ifNo (q := 177) X4 hx (hb hby d4_174) ((if0 _ _).trans (feq hh).1) rfl ?_
 refine Run.x_iload (q := 179) X4 hx (hb hby d4_177) rfl rfl ?_
 refine Run.x_iload (q := 181) X4 hx (hb hby d4_179) rfl rfl ?_
 refine Run.x_iconst (q := 182) X4 hx (hb hby d4_181) (z := (1 : Int32)) rfl rfl ?_
 refine Run.x_isub (q := 183) X4 hx (hb hby d4_182) rfl rfl ?_
 refine Run.x_icmpNo (q := 186) X4 hx (hb hby d4_183) (teq hlo).2 rfl ?_
 refine Run.x_iload (q := 188) X4 hx (hb hby d4_186) rfl rfl ?_
 refine Run.x_bipush (q := 190) X4 hx (hb hby d4_188) (z := (13 : Int32)) rfl rfl ?_
 refine Run.x_icmpYes (q := 216) X4 hx (hb hby d4_190) (flt (own_13 hl)).2.2.2 (by decide) (by decide) ?_
 refine Run.x_aloadN (q := 217) X4 hx (hb hby d4_216) rfl rfl rfl ?_
 refine Run.x_astore (q := 219) X4 hx #[.val (.ref this), .val (.ref cs), .val (.int av), .val (.int ev), .val (.int hi), .val (.int low), .val (.int 1), .val (.ref cs), .unset, .unset, .unset, .unset, .unset] (hb hby d4_217) rfl rfl rfl ?_
 refine Run.x_aload (q := 221) X4 hx (hb hby d4_219) rfl rfl rfl ?_
 refine Run.y_alen (q := 222) X4 hx hZ e4 A_cs (z := (1 : Int32)) (by decide) (hb hby d4_221) rfl ?_
 refine Run.x_istore (q := 224) X4 hx #[.val (.ref this), .val (.ref cs), .val (.int av), .val (.int ev), .val (.int hi), .val (.int low), .val (.int 1), .val (.ref cs), .val (.int 1), .unset, .unset, .unset, .unset] (hb hby d4_222) rfl rfl ?_
 refine Run.x_iconst (q := 225) X4 hx (hb hby d4_224) (z := (0 : Int32)) rfl rfl ?_
 refine Run.x_istore (q := 227) X4 hx #[.val (.ref this), .val (.ref cs), .val (.int av), .val (.int ev), .val (.int hi), .val (.int low), .val (.int 1), .val (.ref cs), .val (.int 1), .val (.int 0), .unset, .unset, .unset] (hb hby d4_225) rfl rfl ?_
 refine Run.x_iload (q := 229) X4 hx (hb hby d4_227) rfl rfl ?_
 refine Run.x_iload (q := 231) X4 hx (hb hby d4_229) rfl rfl ?_
 refine Run.x_icmpNo (q := 234) X4 hx (hb hby d4_231) (tlt (by decide : (0 : Int32) < (1 : Int32))).2.1 rfl ?_
 refine Run.x_aload (q := 236) X4 hx (hb hby d4_234) rfl rfl rfl ?_
 refine Run.x_iload (q := 238) X4 hx (hb hby d4_236) rfl rfl ?_
 refine Run.y_ldI (q := 239) X4 hx hZ e4 A_cs (i := 0) (v := (.int 0)) (by decide) rfl (hb hby d4_238) rfl ?_
 refine Run.x_istore (q := 241) X4 hx #[.val (.ref this), .val (.ref cs), .val (.int av), .val (.int ev), .val (.int hi), .val (.int low), .val (.int 1), .val (.ref cs), .val (.int 1), .val (.int 0), .val (.int 0), .unset, .unset] (hb hby d4_239) rfl rfl ?_
 refine Run.x_aloadN (q := 242) X4 hx (hb hby d4_241) rfl rfl rfl ?_
 replace F_this_sentTo := F_this_sentTo.other W2 (Or.inr (slot_ne (Or.inr (wm17 hw)) (Or.inl (wm40 hw)) (by decide) (t := (.array (.array .int))) (t' := .int) (by decide) (by decide)))
 refine Run.z_getF (q := 245) X4 hx hZ e4 hown (wm16 hw) F_this_sentTo (hb hby d4_242) rfl fun T5 X5 e5 => ?_
 refine Run.x_iload (q := 247) X5 hx (hb hby d4_245) rfl rfl ?_
 replace A_gr := A_gr.other W2 (Ne.symm ne_this_gr)
 refine Run.y_ldR (q := 248) X5 hx hZ e5 A_gr (i := 0) (v := (.ref r0)) (by decide) rfl rfl (hb hby d4_247) rfl ?_
 refine Run.x_astore (q := 250) X5 hx #[.val (.ref this), .val (.ref cs), .val (.int av), .val (.int ev), .val (.int hi), .val (.int low), .val (.int 1), .val (.ref cs), .val (.int 1), .val (.int 0), .val (.int 0), .val (.ref r0), .unset] (hb hby d4_248) rfl rfl rfl ?_
 refine Run.x_iloadN (q := 251) X5 hx (hb hby d4_250) rfl rfl ?_
 refine Run.x_ifNo (q := 254) X5 hx (hb hby d4_251) ((if0 _ _).trans (tlt (own_pos hav h1)).2.2.2) rfl ?_
 refine Run.x_aload (q := 256) X5 hx (hb hby d4_254) rfl rfl rfl ?_
 refine Run.x_iconst (q := 257) X5 hx (hb hby d4_256) (z := (0 : Int32)) rfl rfl ?_
 replace A_r0 := A_r0.other W2 (Ne.symm ne_this_r0)
 refine Run.y_ldI (q := 258) X5 hx hZ e5 A_r0 (i := 0) (v := (.int (f0 0))) (by decide) (own_row_at (by decide)) (hb hby d4_257) rfl ?_
 refine Run.x_ifYes (q := 269) X5 hx (hb hby d4_258) ((if0 _ _).trans (flt (own_nn h00)).2.1) (by decide) (by decide) ?_
 refine Run.x_iloadN (q := 270) X5 hx (hb hby d4_269) rfl rfl ?_
 refine Run.x_istore (q := 272) X5 hx #[.val (.ref this), .val (.ref cs), .val (.int av), .val (.int ev), .val (.int hi), .val (.int low), .val (.int 1), .val (.ref cs), .val (.int 1), .val (.int 0), .val (.int 0), .val (.ref r0), .val (.int av)] (hb hby d4_270) rfl rfl ?_
 have loop : ∀ (k : Nat) (t : Nat) (tv : Int32) (T6 : State) (h6 : Heap) (lo6 : List Loc), Stand p l e ({ frames := 1, cells := 0, slots := 0, locals := 14 } : Room) s m #[(.ref this), (.ref cs), (.int av), (.int ev), (.int hi), (.int low)] below meth c T6 lo6 0 0 → T6.heap = h6 → Fr n0 lo6 → n0 ≤ h6.size → Keep h0 h6 [this, r0] → Exa Z h6 this "semblance/JpegScans" → Fld Z h6 this "semblance/JpegScans" "progressive" "Z" (.int 1) → Fld Z h6 this "semblance/JpegScans" "components" "I" (.int 1) → Fld Z h6 this "semblance/JpegScans" "sentTo" "[[I" (.ref gr) → Fld Z h6 this "semblance/JpegScans" "count" "I" (.int (cnt + (1 : Int32))) → Fld Z h6 this "semblance/JpegScans" "sentAgain" "Z" (.int sa) → Ars Z h6 gr (.array .int) [(.ref r0)] → Ars Z h6 r0 .int (own_row (own_put f0 sA t low)) → Ars Z h6 cs .int [(.int 0)] → (tv.toInt = t) → (t + k = se + 1) → (sA ≤ t) → Run p e below s (fun v h L => ∃ b : Int32, v = some (.int b) ∧ Fr n0 L ∧ Keep h0 h [this, r0] ∧ Exa Z h this "semblance/JpegScans" ∧ Fld Z h this "semblance/JpegScans" "progressive" "Z" (.int 1) ∧ Fld Z h this "semblance/JpegScans" "components" "I" (.int 1) ∧ Fld Z h this "semblance/JpegScans" "sentTo" "[[I" (.ref gr) ∧ Fld Z h this "semblance/JpegScans" "count" "I" (.int (cnt + (1 : Int32))) ∧ Fld Z h this "semblance/JpegScans" "sentAgain" "Z" (.int sa) ∧ Ars Z h r0 .int (own_row (own_put f0 sA (se + 1) low))) ({ frames := 1, cells := 0, slots := 0, locals := 14 } : Room).cells ({ frames := 1, cells := 0, slots := 0, locals := 14 } : Room).slots (T6.setTop (mkF m 272 #[.val (.ref this), .val (.ref cs), .val (.int av), .val (.int ev), .val (.int hi), .val (.int low), .val (.int 1), .val (.ref cs), .val (.int 1), .val (.int 0), .val (.int 0), .val (.ref r0), .val (.int tv)] [])) := by
  intro k
  induction k with
  | zero =>
   intro t tv T6 h6 lo6 X6 e6 N6 Z6 KP Ethis_6 Fprogressive_6 Fcomponents_6 FsentTo_6 Fcount_6 FsentAgain_6 Agr_6 Ar0_6 Acs_6 htv hk hst
   have e9 : t = se + 1 := by omega
   subst e9
   refine Run.x_iload (q := 274) X6 hx (hb hby d4_272) rfl rfl ?_
   refine Run.x_iloadN (q := 275) X6 hx (hb hby d4_274) rfl rfl ?_
   refine Run.x_icmpYes (q := 314) X6 hx (hb hby d4_275) (tlt (by rw [lt32]; omega)).2.2.1 (by decide) (by decide) ?_
   refine Run.x_iinc (q := 317) X6 hx #[.val (.ref this), .val (.ref cs), .val (.int av), .val (.int ev), .val (.int hi), .val (.int low), .val (.int 1), .val (.ref cs), .val (.int 1), .val (.int 1), .val (.int 0), .val (.ref r0), .val (.int tv)] (hb hby d4_314) rfl (z := (1 : Int32)) (by decide) rfl rfl ?_
   refine Run.x_goto (q := 227) X6 hx (hb hby d4_317) (by decide) (by decide) ?_
   refine Run.x_iload (q := 229) X6 hx (hb hby d4_227) rfl rfl ?_
   refine Run.x_iload (q := 231) X6 hx (hb hby d4_229) rfl rfl ?_
   refine Run.x_icmpYes (q := 320) X6 hx (hb hby d4_231) (flt (by decide : ¬ ((1 : Int32) < (1 : Int32)))).2.1 (by decide) (by decide) ?_
   refine Run.x_iconst (q := 321) X6 hx (hb hby d4_320) (z := (1 : Int32)) rfl rfl ?_
   refine Run.retN X6 hx hlk e6 (t := .boolean) hret (by simp) (z' := (1 : Int32)) (by decide) (hb hby d4_321) (by decide) (by decide) ?_
   exact ⟨_, rfl, N6, KP, Ethis_6, Fprogressive_6, Fcomponents_6, FsentTo_6, Fcount_6, FsentAgain_6, Ar0_6⟩
  | succ k ih =>
   intro t tv T6 h6 lo6 X6 e6 N6 Z6 KP Ethis_6 Fprogressive_6 Fcomponents_6 FsentTo_6 Fcount_6 FsentAgain_6 Agr_6 Ar0_6 Acs_6 htv hk hst
   refine Run.x_iload (q := 274) X6 hx (hb hby d4_272) rfl rfl ?_
   refine Run.x_iloadN (q := 275) X6 hx (hb hby d4_274) rfl rfl ?_
   refine Run.x_icmpNo (q := 278) X6 hx (hb hby d4_275) (flt (by rw [lt32]; omega)).2.2.1 rfl ?_
   refine Run.x_iload (q := 280) X6 hx (hb hby d4_278) rfl rfl ?_
   refine Run.x_aload (q := 282) X6 hx (hb hby d4_280) rfl rfl rfl ?_
   refine Run.x_iload (q := 284) X6 hx (hb hby d4_282) rfl rfl ?_
   refine Run.y_ldI (q := 285) X6 hx hZ e6 Ar0_6 (i := t) (v := (.int (f0 t))) htv (own_put_at (by omega)) (hb hby d4_284) rfl ?_
   refine Run.x_iconst (q := 286) X6 hx (hb hby d4_285) (z := (0 : Int32)) rfl rfl ?_
   refine Run.callSI (q := 289) X6 hx hZ e6 (y := (⟨"java/lang/Math", "max", "(II)I"⟩ : MethodName)) hown (wm41 hw) (wm42 hw) (wm43 hw) (wm44 hw) (by decide) (argsL := [(.int (f0 t)), (.int 0)]) (rest := [(.int hi)]) (c_max l Z a0 hw (f0 t) (0 : Int32) h6 n0 Z6 hi (hmx t (by omega) (by omega))) pd_1 rfl (by rw [hml]; rfl) (W := 1) rfl (by decide) (by decide) (by decide) (by decide) (hb hby d4_286) rfl rfl fun T7 L7 X7 M7 e7 => ?_
   have N7 := Fr.app N6 M7
   refine Run.x_icmpYes (q := 301) X7 hx (hb hby d4_289) (teq rfl).1 (by decide) (by decide) ?_
   refine Run.x_aload (q := 303) X7 hx (hb hby d4_301) rfl rfl rfl ?_
   refine Run.x_iload (q := 305) X7 hx (hb hby d4_303) rfl rfl ?_
   refine Run.x_iload (q := 307) X7 hx (hb hby d4_305) rfl rfl ?_
   refine Run.y_stI (q := 308) X7 hx hZ e7 Ar0_6 (i := t) htv (by rw [own_row_len]; omega) (hb hby d4_307) rfl fun T8 h8 X8 e8 W8 A8 => ?_
   replace Ar0_6 : Ars Z h8 r0 .int ((own_row (own_put f0 sA t low)).set t (Value.int low)) := A8
   replace KP := KP.wr W8 (Or.inl (by simp))
   have N8 := Fr.snoc X8 N7 g_r0
   have Z8 : n0 ≤ h8.size := Nat.le_trans Z6 (Nat.le_of_eq W8.size.symm)
   refine Run.x_iinc (q := 311) X8 hx #[.val (.ref this), .val (.ref cs), .val (.int av), .val (.int ev), .val (.int hi), .val (.int low), .val (.int 1), .val (.ref cs), .val (.int 1), .val (.int 0), .val (.int 0), .val (.ref r0), .val (.int (tv + (1 : Int32)))] (hb hby d4_308) rfl (z := (tv + (1 : Int32))) rfl rfl rfl ?_
   refine Run.x_goto (q := 272) X8 hx (hb hby d4_311) (by decide) (by decide) ?_
   replace Ethis_6 := Ethis_6.wr W8
   replace Fprogressive_6 := Fprogressive_6.other W8 (Or.inl ne_this_r0)
   replace Fcomponents_6 := Fcomponents_6.other W8 (Or.inl ne_this_r0)
   replace FsentTo_6 := FsentTo_6.other W8 (Or.inl ne_this_r0)
   replace Fcount_6 := Fcount_6.other W8 (Or.inl ne_this_r0)
   replace FsentAgain_6 := FsentAgain_6.other W8 (Or.inl ne_this_r0)
   replace Agr_6 := Agr_6.other W8 ne_gr_r0
   replace Acs_6 := Acs_6.other W8 (Ne.symm ne_r0_cs)
   exact ih (t + 1) _ T8 h8 _ X8 e8 N8 Z8 KP Ethis_6 Fprogressive_6 Fcomponents_6 FsentTo_6 Fcount_6 FsentAgain_6 Agr_6 (by rw [← own_put_set (by omega) hst]; exact Ar0_6) Acs_6 (own_ofn htv (by omega)) (by omega) (by omega)
 replace E_this := E_this.wr W2
 replace F_this_components := F_this_components.other W2 (Or.inr (slot_ne (Or.inr (wm12 hw)) (Or.inl (wm40 hw)) (by decide) (t := .int) (t' := .int) (by decide) (by decide)))
 replace F_this_sentAgain := F_this_sentAgain.other W2 (Or.inr (slot_ne (Or.inl (wm32 hw)) (Or.inl (wm40 hw)) (by decide) (t := .boolean) (t' := .int) (by decide) (by decide)))
 exact loop (se + 1 - sA) sA _ T5 h2 _ X5 e5 N2 Z2 KP E_this F_this_progressive F_this_components F_this_sentTo F_this_count F_this_sentAgain A_gr (by rw [own_put_nil]; exact A_r0) A_cs hav (by omega) (Nat.le_refl _)
theorem ef_c_ac_2_0_0 (m : MethodId) (this : Addr) (cs : Addr) (av : Int32) (ev : Int32) (low : Int32) : entryFrame m #[(.ref this), (.ref cs), (.int av), (.int ev), (.int 0), (.int low)] 13 = mkF m 0 #[.val (.ref this), .val (.ref cs), .val (.int av), .val (.int ev), .val (.int 0), .val (.int low), .unset, .unset, .unset, .unset, .unset, .unset, .unset] [] := by first | (simp [entryFrame, mkF, argsToLocals, Value.category]; done) | rfl
set_option maxRecDepth 65536 in
set_option maxHeartbeats 40000000 in
theorem c_ac_2_0_0 (l : Launch) (Z : State) (a0 : Array Value) (hw : ∀ d ∈ tables_1, d.before a0 Z = true) (this : Addr) (cs : Addr) (av : Int32) (ev : Int32) (low : Int32) (h0 : Heap) (n0 : Nat) (Z0 : n0 ≤ h0.size) (gr : Addr) (r0 : Addr) (r1 : Addr) (cnt : Int32) (sa : Int32) (f0 : Nat → Int32) (f1 : Nat → Int32) (sA : Nat) (se : Nat) (E_this : Exa Z h0 this "semblance/JpegScans") (F_this_progressive : Fld Z h0 this "semblance/JpegScans" "progressive" "Z" (.int 1)) (F_this_components : Fld Z h0 this "semblance/JpegScans" "components" "I" (.int 2)) (F_this_sentTo : Fld Z h0 this "semblance/JpegScans" "sentTo" "[[I" (.ref gr)) (F_this_count : Fld Z h0 this "semblance/JpegScans" "count" "I" (.int cnt)) (F_this_sentAgain : Fld Z h0 this "semblance/JpegScans" "sentAgain" "Z" (.int sa)) (A_gr : Ars Z h0 gr (.array .int) [(.ref r0), (.ref r1)]) (A_r0 : Ars Z h0 r0 .int (own_row f0)) (A_r1 : Ars Z h0 r1 .int (own_row f1)) (A_cs : Ars Z h0 cs .int [(.int 0)]) (g_this : n0 ≤ this) (g_r0 : n0 ≤ r0) (ne_this_gr : this ≠ gr) (ne_this_r0 : this ≠ r0) (ne_this_r1 : this ≠ r1) (ne_this_cs : this ≠ cs) (ne_gr_r0 : gr ≠ r0) (ne_gr_r1 : gr ≠ r1) (ne_gr_cs : gr ≠ cs) (ne_r0_r1 : r0 ≠ r1) (ne_r0_cs : r0 ≠ cs) (ne_r1_cs : r1 ≠ cs) (hcnt : 0 ≤ cnt.toInt ∧ cnt.toInt ≤ 20) (hl : 0 ≤ low.toInt ∧ low.toInt ≤ 13) (hav : av.toInt = sA) (hev : ev.toInt = se) (h1 : 1 ≤ sA) (h2 : sA ≤ se) (h3 : se ≤ 63) (h00 : 0 ≤ (f0 0).toInt) (hmx : ∀ i, sA ≤ i → i ≤ se → (if (f0 i) < (0 : Int32) then (0 : Int32) else (f0 i)) = (0 : Int32)) :
  Ctr l Z (⟨"semblance/JpegScans", "take", "([IIIII)Z"⟩ : MethodName) prog_41_method_2_code 13 (some .boolean) ({ frames := 1, cells := 0, slots := 0, locals := 14 } : Room) #[(.ref this), (.ref cs), (.int av), (.int ev), (.int 0), (.int low)] h0 (fun v h L => ∃ b : Int32, v = some (.int b) ∧ Fr n0 L ∧ Keep h0 h [this, r0] ∧ Exa Z h this "semblance/JpegScans" ∧ Fld Z h this "semblance/JpegScans" "progressive" "Z" (.int 1) ∧ Fld Z h this "semblance/JpegScans" "components" "I" (.int 2) ∧ Fld Z h this "semblance/JpegScans" "sentTo" "[[I" (.ref gr) ∧ Fld Z h this "semblance/JpegScans" "count" "I" (.int (cnt + (1 : Int32))) ∧ Fld Z h this "semblance/JpegScans" "sentAgain" "Z" (.int sa) ∧ Ars Z h r0 .int (own_row (own_put f0 sA (se + 1) low))) := by
 refine Ctr.of (plainFor_of_name pn_1) (fun m => ef_c_ac_2_0_0 m this cs av ev low) ?_
 intro p e s m below meth c T0 hx hby hml hown hnm hret hlk hZ e0 X0
 have N0 := Fr.nil n0
 replace hown : s.vm.findClass "semblance/JpegScans" = some m.cls := hown
 replace hml : c.maxLocals = 13 := hml
 have KP := Keep.refl h0 [this, r0]
 refine Run.x_aloadN (q := 1) X0 hx (hb hby d4_0) rfl rfl rfl ?_
 refine Run.x_dup (q := 2) X0 hx (hb hby d4_1) rfl rfl ?_
 refine Run.z_getF (q := 5) X0 hx hZ e0 hown (wm39 hw) F_this_count (hb hby d4_2) rfl fun T1 X1 e1 => ?_
 refine Run.x_iconst (q := 6) X1 hx (hb hby d4_5) (z := (1 : Int32)) rfl rfl ?_
 refine Run.x_iadd (q := 7) X1 hx (hb hby d4_6) rfl rfl ?_
 obtain ⟨T2, h2, X2, e2, W2, st2⟩ := putF X1 hx hZ hown (host := "") (Or.inl (wm39 hw)) Via.refl e1 F_this_count E_this (Or.inl (wm40 hw)) (wm1 hw) (ty := .int) (by decide) rfl rfl (g := (mkF m 7 #[.val (.ref this), .val (.ref cs), .val (.int av), .val (.int ev), .val (.int 0), .val (.int low), .unset, .unset, .unset, .unset, .unset, .unset, .unset] [(.int (cnt + (1 : Int32))), (.ref this)])) rfl rfl (hb hby d4_7)
 replace F_this_count := F_this_count.same W2
 have Z2 : n0 ≤ h2.size := Nat.le_trans Z0 (Nat.le_of_eq W2.size.symm)
 replace KP := KP.wr W2 (Or.inl (by simp))
 have N2 := Fr.snoc X2 N0 g_this
 refine Run.st st2 ?_
 show Run p e below s _ _ _ (T2.setTop (mkF m 10 #[.val (.ref this), .val (.ref cs), .val (.int av), .val (.int ev), .val (.int 0), .val (.int low), .unset, .unset, .unset, .unset, .unset, .unset, .unset] []))
 refine Run.x_aloadN (q := 11) X2 hx (hb hby d4_10) rfl rfl rfl ?_
 refine Run.z_getF (q := 14) X2 hx hZ e2 hown (wm39 hw) F_this_count (hb hby d4_11) rfl fun T3 X3 e3 => ?_
 refine Run.x_bipush (q := 16) X3 hx (hb hby d4_14) (z := (32 : Int32)) rfl rfl ?_
 refine Run.x_icmpYes (q := 29) X3 hx (hb hby d4_16) (flt (own_c32 hcnt)).2.2.2 (by decide) (by decide) ?_
 refine Run.x_aloadN (q := 30) X3 hx (hb hby d4_29) rfl rfl rfl ?_
 replace F_this_progressive := F_this_progressive.other W2 (Or.inr (slot_ne (Or.inr (wm10 hw)) (Or.inl (wm40 hw)) (by decide) (t := .boolean) (t' := .int) (by decide) (by decide)))
 refine Run.z_getF (q := 33) X3 hx hZ e3 hown (wm9 hw) F_this_progressive (hb hby d4_30) rfl fun T4 X4 e4 => ?_
 refine Run.x_ifYes (q := 127) X4 hx (hb hby d4_33) ((if0 _ _).trans (feq (by decide : ¬ ((1 : Int32) = (0 : Int32)))).2) (by decide) (by decide) ?_
 refine Run.x_iloadN (q := 128) X4 hx (hb hby d4_127) rfl rfl ?_
 refine Run.x_ifYes (q := 143) X4 hx (hb hby d4_128) ((if0 _ _).trans (feq (own_ne0 hav h1)).2) (by decide) (by decide) ?_
 refine Run.x_iloadN (q := 144) X4 hx (hb hby d4_143) rfl rfl ?_
 refine Run.x_iloadN (q := 145) X4 hx (hb hby d4_144) rfl rfl ?_
 refine Run.x_icmpNo (q := 148) X4 hx (hb hby d4_145) (flt (by rw [lt32]; omega)).2.2.1 rfl ?_
 refine Run.x_iloadN (q := 149) X4 hx (hb hby d4_148) rfl rfl ?_
 refine Run.x_bipush (q := 151) X4 hx (hb hby d4_149) (z := (64 : Int32)) rfl rfl ?_
 refine Run.x_icmpNo (q := 154) X4 hx (hb hby d4_151) (tlt (own_lt64 hev h3)).2.1 rfl ?_
 refine Run.x_aloadN (q := 155) X4 hx (hb hby d4_154) rfl rfl rfl ?_
 replace A_cs := A_cs.other W2 (Ne.symm ne_this_cs)
 refine Run.y_alen (q := 156) X4 hx hZ e4 A_cs (z := (1 : Int32)) (by decide) (hb hby d4_155) rfl ?_
 refine Run.x_iconst (q := 157) X4 hx (hb hby d4_156) (z := (1 : Int32)) rfl rfl ?_
 refine Run.x_icmpNo (q := 160) X4 hx (hb hby d4_157) (teq (by decide : (1 : Int32) = (1 : Int32))).2 rfl ?_
 refine Run.x_iconst (q := 161) X4 hx (hb hby d4_160) (z := (1 : Int32)) rfl rfl ?_
 refine Run.x_goto (q := 165) X4 hx (hb hby d4_161) (by decide) (by decide) ?_
 refine Run.x_istore (q := 167) X4 hx #[.val (.ref this), .val (.ref cs), .val (.int av), .val (.int ev), .val (.int 0), .val (.int low), .val (.int 1), .unset, .unset, .unset, .unset, .unset, .unset] (hb hby d4_165) rfl rfl ?_
 refine Run.x_iload (q := 169) X4 hx (hb hby d4_167) rfl rfl ?_
 refine Run.x_ifNo (q := 172) X4 hx (hb hby d4_169) ((if0 _ _).trans (feq (by decide : ¬ ((1 : Int32) = (0 : Int32)))).1) rfl ?_
 refine Run.x_iload (q := 174) X4 hx (hb hby d4_172) rfl rfl ?_
 refine Run.x_ifYes (q := 186) X4 hx (hb hby d4_174) ((if0 _ _).trans (teq (by decide : (0 : Int32) = (0 : Int32))).1) (by decide) (by decide) ?_
 refine Run.x_iload (q := 188) X4 hx (hb hby d4_186) rfl rfl ?_
 refine Run.x_bipush (q := 190) X4 hx (hb hby d4_188) (z := (13 : Int32)) rfl rfl ?_
 refine Run.x_icmpYes (q := 216) X4 hx (hb hby d4_190) (flt (own_13 hl)).2.2.2 (by decide) (by decide) ?_
 refine Run.x_aloadN (q := 217) X4 hx (hb hby d4_216) rfl rfl rfl ?_
 refine Run.x_astore (q := 219) X4 hx #[.val (.ref this), .val (.ref cs), .val (.int av), .val (.int ev), .val (.int 0), .val (.int low), .val (.int 1), .val (.ref cs), .unset, .unset, .unset, .unset, .unset] (hb hby d4_217) rfl rfl rfl ?_
 refine Run.x_aload (q := 221) X4 hx (hb hby d4_219) rfl rfl rfl ?_
 refine Run.y_alen (q := 222) X4 hx hZ e4 A_cs (z := (1 : Int32)) (by decide) (hb hby d4_221) rfl ?_
 refine Run.x_istore (q := 224) X4 hx #[.val (.ref this), .val (.ref cs), .val (.int av), .val (.int ev), .val (.int 0), .val (.int low), .val (.int 1), .val (.ref cs), .val (.int 1), .unset, .unset, .unset, .unset] (hb hby d4_222) rfl rfl ?_
 refine Run.x_iconst (q := 225) X4 hx (hb hby d4_224) (z := (0 : Int32)) rfl rfl ?_
 refine Run.x_istore (q := 227) X4 hx #[.val (.ref this), .val (.ref cs), .val (.int av), .val (.int ev), .val (.int 0), .val (.int low), .val (.int 1), .val (.ref cs), .val (.int 1), .val (.int 0), .unset, .unset, .unset] (hb hby d4_225) rfl rfl ?_
 refine Run.x_iload (q := 229) X4 hx (hb hby d4_227) rfl rfl ?_
 refine Run.x_iload (q := 231) X4 hx (hb hby d4_229) rfl rfl ?_
 refine Run.x_icmpNo (q := 234) X4 hx (hb hby d4_231) (tlt (by decide : (0 : Int32) < (1 : Int32))).2.1 rfl ?_
 refine Run.x_aload (q := 236) X4 hx (hb hby d4_234) rfl rfl rfl ?_
 refine Run.x_iload (q := 238) X4 hx (hb hby d4_236) rfl rfl ?_
 refine Run.y_ldI (q := 239) X4 hx hZ e4 A_cs (i := 0) (v := (.int 0)) (by decide) rfl (hb hby d4_238) rfl ?_
 refine Run.x_istore (q := 241) X4 hx #[.val (.ref this), .val (.ref cs), .val (.int av), .val (.int ev), .val (.int 0), .val (.int low), .val (.int 1), .val (.ref cs), .val (.int 1), .val (.int 0), .val (.int 0), .unset, .unset] (hb hby d4_239) rfl rfl ?_
 refine Run.x_aloadN (q := 242) X4 hx (hb hby d4_241) rfl rfl rfl ?_
 replace F_this_sentTo := F_this_sentTo.other W2 (Or.inr (slot_ne (Or.inr (wm17 hw)) (Or.inl (wm40 hw)) (by decide) (t := (.array (.array .int))) (t' := .int) (by decide) (by decide)))
 refine Run.z_getF (q := 245) X4 hx hZ e4 hown (wm16 hw) F_this_sentTo (hb hby d4_242) rfl fun T5 X5 e5 => ?_
 refine Run.x_iload (q := 247) X5 hx (hb hby d4_245) rfl rfl ?_
 replace A_gr := A_gr.other W2 (Ne.symm ne_this_gr)
 refine Run.y_ldR (q := 248) X5 hx hZ e5 A_gr (i := 0) (v := (.ref r0)) (by decide) rfl rfl (hb hby d4_247) rfl ?_
 refine Run.x_astore (q := 250) X5 hx #[.val (.ref this), .val (.ref cs), .val (.int av), .val (.int ev), .val (.int 0), .val (.int low), .val (.int 1), .val (.ref cs), .val (.int 1), .val (.int 0), .val (.int 0), .val (.ref r0), .unset] (hb hby d4_248) rfl rfl rfl ?_
 refine Run.x_iloadN (q := 251) X5 hx (hb hby d4_250) rfl rfl ?_
 refine Run.x_ifNo (q := 254) X5 hx (hb hby d4_251) ((if0 _ _).trans (tlt (own_pos hav h1)).2.2.2) rfl ?_
 refine Run.x_aload (q := 256) X5 hx (hb hby d4_254) rfl rfl rfl ?_
 refine Run.x_iconst (q := 257) X5 hx (hb hby d4_256) (z := (0 : Int32)) rfl rfl ?_
 replace A_r0 := A_r0.other W2 (Ne.symm ne_this_r0)
 refine Run.y_ldI (q := 258) X5 hx hZ e5 A_r0 (i := 0) (v := (.int (f0 0))) (by decide) (own_row_at (by decide)) (hb hby d4_257) rfl ?_
 refine Run.x_ifYes (q := 269) X5 hx (hb hby d4_258) ((if0 _ _).trans (flt (own_nn h00)).2.1) (by decide) (by decide) ?_
 refine Run.x_iloadN (q := 270) X5 hx (hb hby d4_269) rfl rfl ?_
 refine Run.x_istore (q := 272) X5 hx #[.val (.ref this), .val (.ref cs), .val (.int av), .val (.int ev), .val (.int 0), .val (.int low), .val (.int 1), .val (.ref cs), .val (.int 1), .val (.int 0), .val (.int 0), .val (.ref r0), .val (.int av)] (hb hby d4_270) rfl rfl ?_
 have loop : ∀ (k : Nat) (t : Nat) (tv : Int32) (T6 : State) (h6 : Heap) (lo6 : List Loc), Stand p l e ({ frames := 1, cells := 0, slots := 0, locals := 14 } : Room) s m #[(.ref this), (.ref cs), (.int av), (.int ev), (.int 0), (.int low)] below meth c T6 lo6 0 0 → T6.heap = h6 → Fr n0 lo6 → n0 ≤ h6.size → Keep h0 h6 [this, r0] → Exa Z h6 this "semblance/JpegScans" → Fld Z h6 this "semblance/JpegScans" "progressive" "Z" (.int 1) → Fld Z h6 this "semblance/JpegScans" "components" "I" (.int 2) → Fld Z h6 this "semblance/JpegScans" "sentTo" "[[I" (.ref gr) → Fld Z h6 this "semblance/JpegScans" "count" "I" (.int (cnt + (1 : Int32))) → Fld Z h6 this "semblance/JpegScans" "sentAgain" "Z" (.int sa) → Ars Z h6 gr (.array .int) [(.ref r0), (.ref r1)] → Ars Z h6 r0 .int (own_row (own_put f0 sA t low)) → Ars Z h6 r1 .int (own_row f1) → Ars Z h6 cs .int [(.int 0)] → (tv.toInt = t) → (t + k = se + 1) → (sA ≤ t) → Run p e below s (fun v h L => ∃ b : Int32, v = some (.int b) ∧ Fr n0 L ∧ Keep h0 h [this, r0] ∧ Exa Z h this "semblance/JpegScans" ∧ Fld Z h this "semblance/JpegScans" "progressive" "Z" (.int 1) ∧ Fld Z h this "semblance/JpegScans" "components" "I" (.int 2) ∧ Fld Z h this "semblance/JpegScans" "sentTo" "[[I" (.ref gr) ∧ Fld Z h this "semblance/JpegScans" "count" "I" (.int (cnt + (1 : Int32))) ∧ Fld Z h this "semblance/JpegScans" "sentAgain" "Z" (.int sa) ∧ Ars Z h r0 .int (own_row (own_put f0 sA (se + 1) low))) ({ frames := 1, cells := 0, slots := 0, locals := 14 } : Room).cells ({ frames := 1, cells := 0, slots := 0, locals := 14 } : Room).slots (T6.setTop (mkF m 272 #[.val (.ref this), .val (.ref cs), .val (.int av), .val (.int ev), .val (.int 0), .val (.int low), .val (.int 1), .val (.ref cs), .val (.int 1), .val (.int 0), .val (.int 0), .val (.ref r0), .val (.int tv)] [])) := by
  intro k
  induction k with
  | zero =>
   intro t tv T6 h6 lo6 X6 e6 N6 Z6 KP Ethis_6 Fprogressive_6 Fcomponents_6 FsentTo_6 Fcount_6 FsentAgain_6 Agr_6 Ar0_6 Ar1_6 Acs_6 htv hk hst
   have e9 : t = se + 1 := by omega
   subst e9
   refine Run.x_iload (q := 274) X6 hx (hb hby d4_272) rfl rfl ?_
   refine Run.x_iloadN (q := 275) X6 hx (hb hby d4_274) rfl rfl ?_
   refine Run.x_icmpYes (q := 314) X6 hx (hb hby d4_275) (tlt (by rw [lt32]; omega)).2.2.1 (by decide) (by decide) ?_
   refine Run.x_iinc (q := 317) X6 hx #[.val (.ref this), .val (.ref cs), .val (.int av), .val (.int ev), .val (.int 0), .val (.int low), .val (.int 1), .val (.ref cs), .val (.int 1), .val (.int 1), .val (.int 0), .val (.ref r0), .val (.int tv)] (hb hby d4_314) rfl (z := (1 : Int32)) (by decide) rfl rfl ?_
   refine Run.x_goto (q := 227) X6 hx (hb hby d4_317) (by decide) (by decide) ?_
   refine Run.x_iload (q := 229) X6 hx (hb hby d4_227) rfl rfl ?_
   refine Run.x_iload (q := 231) X6 hx (hb hby d4_229) rfl rfl ?_
   refine Run.x_icmpYes (q := 320) X6 hx (hb hby d4_231) (flt (by decide : ¬ ((1 : Int32) < (1 : Int32)))).2.1 (by decide) (by decide) ?_
   refine Run.x_iconst (q := 321) X6 hx (hb hby d4_320) (z := (1 : Int32)) rfl rfl ?_
   refine Run.retN X6 hx hlk e6 (t := .boolean) hret (by simp) (z' := (1 : Int32)) (by decide) (hb hby d4_321) (by decide) (by decide) ?_
   exact ⟨_, rfl, N6, KP, Ethis_6, Fprogressive_6, Fcomponents_6, FsentTo_6, Fcount_6, FsentAgain_6, Ar0_6⟩
  | succ k ih =>
   intro t tv T6 h6 lo6 X6 e6 N6 Z6 KP Ethis_6 Fprogressive_6 Fcomponents_6 FsentTo_6 Fcount_6 FsentAgain_6 Agr_6 Ar0_6 Ar1_6 Acs_6 htv hk hst
   refine Run.x_iload (q := 274) X6 hx (hb hby d4_272) rfl rfl ?_
   refine Run.x_iloadN (q := 275) X6 hx (hb hby d4_274) rfl rfl ?_
   refine Run.x_icmpNo (q := 278) X6 hx (hb hby d4_275) (flt (by rw [lt32]; omega)).2.2.1 rfl ?_
   refine Run.x_iload (q := 280) X6 hx (hb hby d4_278) rfl rfl ?_
   refine Run.x_aload (q := 282) X6 hx (hb hby d4_280) rfl rfl rfl ?_
   refine Run.x_iload (q := 284) X6 hx (hb hby d4_282) rfl rfl ?_
   refine Run.y_ldI (q := 285) X6 hx hZ e6 Ar0_6 (i := t) (v := (.int (f0 t))) htv (own_put_at (by omega)) (hb hby d4_284) rfl ?_
   refine Run.x_iconst (q := 286) X6 hx (hb hby d4_285) (z := (0 : Int32)) rfl rfl ?_
   refine Run.callSI (q := 289) X6 hx hZ e6 (y := (⟨"java/lang/Math", "max", "(II)I"⟩ : MethodName)) hown (wm41 hw) (wm42 hw) (wm43 hw) (wm44 hw) (by decide) (argsL := [(.int (f0 t)), (.int 0)]) (rest := [(.int 0)]) (c_max l Z a0 hw (f0 t) (0 : Int32) h6 n0 Z6 (0 : Int32) (hmx t (by omega) (by omega))) pd_1 rfl (by rw [hml]; rfl) (W := 1) rfl (by decide) (by decide) (by decide) (by decide) (hb hby d4_286) rfl rfl fun T7 L7 X7 M7 e7 => ?_
   have N7 := Fr.app N6 M7
   refine Run.x_icmpYes (q := 301) X7 hx (hb hby d4_289) (teq (by decide : (0 : Int32) = (0 : Int32))).1 (by decide) (by decide) ?_
   refine Run.x_aload (q := 303) X7 hx (hb hby d4_301) rfl rfl rfl ?_
   refine Run.x_iload (q := 305) X7 hx (hb hby d4_303) rfl rfl ?_
   refine Run.x_iload (q := 307) X7 hx (hb hby d4_305) rfl rfl ?_
   refine Run.y_stI (q := 308) X7 hx hZ e7 Ar0_6 (i := t) htv (by rw [own_row_len]; omega) (hb hby d4_307) rfl fun T8 h8 X8 e8 W8 A8 => ?_
   replace Ar0_6 : Ars Z h8 r0 .int ((own_row (own_put f0 sA t low)).set t (Value.int low)) := A8
   replace KP := KP.wr W8 (Or.inl (by simp))
   have N8 := Fr.snoc X8 N7 g_r0
   have Z8 : n0 ≤ h8.size := Nat.le_trans Z6 (Nat.le_of_eq W8.size.symm)
   refine Run.x_iinc (q := 311) X8 hx #[.val (.ref this), .val (.ref cs), .val (.int av), .val (.int ev), .val (.int 0), .val (.int low), .val (.int 1), .val (.ref cs), .val (.int 1), .val (.int 0), .val (.int 0), .val (.ref r0), .val (.int (tv + (1 : Int32)))] (hb hby d4_308) rfl (z := (tv + (1 : Int32))) rfl rfl rfl ?_
   refine Run.x_goto (q := 272) X8 hx (hb hby d4_311) (by decide) (by decide) ?_
   replace Ethis_6 := Ethis_6.wr W8
   replace Fprogressive_6 := Fprogressive_6.other W8 (Or.inl ne_this_r0)
   replace Fcomponents_6 := Fcomponents_6.other W8 (Or.inl ne_this_r0)
   replace FsentTo_6 := FsentTo_6.other W8 (Or.inl ne_this_r0)
   replace Fcount_6 := Fcount_6.other W8 (Or.inl ne_this_r0)
   replace FsentAgain_6 := FsentAgain_6.other W8 (Or.inl ne_this_r0)
   replace Agr_6 := Agr_6.other W8 ne_gr_r0
   replace Ar1_6 := Ar1_6.other W8 (Ne.symm ne_r0_r1)
   replace Acs_6 := Acs_6.other W8 (Ne.symm ne_r0_cs)
   exact ih (t + 1) _ T8 h8 _ X8 e8 N8 Z8 KP Ethis_6 Fprogressive_6 Fcomponents_6 FsentTo_6 Fcount_6 FsentAgain_6 Agr_6 (by rw [← own_put_set (by omega) hst]; exact Ar0_6) Ar1_6 Acs_6 (own_ofn htv (by omega)) (by omega) (by omega)
 replace E_this := E_this.wr W2
 replace F_this_components := F_this_components.other W2 (Or.inr (slot_ne (Or.inr (wm12 hw)) (Or.inl (wm40 hw)) (by decide) (t := .int) (t' := .int) (by decide) (by decide)))
 replace F_this_sentAgain := F_this_sentAgain.other W2 (Or.inr (slot_ne (Or.inl (wm32 hw)) (Or.inl (wm40 hw)) (by decide) (t := .boolean) (t' := .int) (by decide) (by decide)))
 replace A_r1 := A_r1.other W2 (Ne.symm ne_this_r1)
 exact loop (se + 1 - sA) sA _ T5 h2 _ X5 e5 N2 Z2 KP E_this F_this_progressive F_this_components F_this_sentTo F_this_count F_this_sentAgain A_gr (by rw [own_put_nil]; exact A_r0) A_r1 A_cs hav (by omega) (Nat.le_refl _)
theorem ef_c_ac_2_0_1 (m : MethodId) (this : Addr) (cs : Addr) (av : Int32) (ev : Int32) (hi : Int32) (low : Int32) : entryFrame m #[(.ref this), (.ref cs), (.int av), (.int ev), (.int hi), (.int low)] 13 = mkF m 0 #[.val (.ref this), .val (.ref cs), .val (.int av), .val (.int ev), .val (.int hi), .val (.int low), .unset, .unset, .unset, .unset, .unset, .unset, .unset] [] := by first | (simp [entryFrame, mkF, argsToLocals, Value.category]; done) | rfl
set_option maxRecDepth 65536 in
set_option maxHeartbeats 40000000 in
theorem c_ac_2_0_1 (l : Launch) (Z : State) (a0 : Array Value) (hw : ∀ d ∈ tables_1, d.before a0 Z = true) (this : Addr) (cs : Addr) (av : Int32) (ev : Int32) (hi : Int32) (low : Int32) (h0 : Heap) (n0 : Nat) (Z0 : n0 ≤ h0.size) (gr : Addr) (r0 : Addr) (r1 : Addr) (cnt : Int32) (sa : Int32) (f0 : Nat → Int32) (f1 : Nat → Int32) (sA : Nat) (se : Nat) (E_this : Exa Z h0 this "semblance/JpegScans") (F_this_progressive : Fld Z h0 this "semblance/JpegScans" "progressive" "Z" (.int 1)) (F_this_components : Fld Z h0 this "semblance/JpegScans" "components" "I" (.int 2)) (F_this_sentTo : Fld Z h0 this "semblance/JpegScans" "sentTo" "[[I" (.ref gr)) (F_this_count : Fld Z h0 this "semblance/JpegScans" "count" "I" (.int cnt)) (F_this_sentAgain : Fld Z h0 this "semblance/JpegScans" "sentAgain" "Z" (.int sa)) (A_gr : Ars Z h0 gr (.array .int) [(.ref r0), (.ref r1)]) (A_r0 : Ars Z h0 r0 .int (own_row f0)) (A_r1 : Ars Z h0 r1 .int (own_row f1)) (A_cs : Ars Z h0 cs .int [(.int 0)]) (g_this : n0 ≤ this) (g_r0 : n0 ≤ r0) (ne_this_gr : this ≠ gr) (ne_this_r0 : this ≠ r0) (ne_this_r1 : this ≠ r1) (ne_this_cs : this ≠ cs) (ne_gr_r0 : gr ≠ r0) (ne_gr_r1 : gr ≠ r1) (ne_gr_cs : gr ≠ cs) (ne_r0_r1 : r0 ≠ r1) (ne_r0_cs : r0 ≠ cs) (ne_r1_cs : r1 ≠ cs) (hcnt : 0 ≤ cnt.toInt ∧ cnt.toInt ≤ 20) (hl : 0 ≤ low.toInt ∧ low.toInt ≤ 13) (hav : av.toInt = sA) (hev : ev.toInt = se) (h1 : 1 ≤ sA) (h2 : sA ≤ se) (h3 : se ≤ 63) (h00 : 0 ≤ (f0 0).toInt) (hmx : ∀ i, sA ≤ i → i ≤ se → (if (f0 i) < (0 : Int32) then (0 : Int32) else (f0 i)) = hi) (hh : ¬ hi = (0 : Int32)) (hlo : low = (hi - (1 : Int32))) :
  Ctr l Z (⟨"semblance/JpegScans", "take", "([IIIII)Z"⟩ : MethodName) prog_41_method_2_code 13 (some .boolean) ({ frames := 1, cells := 0, slots := 0, locals := 14 } : Room) #[(.ref this), (.ref cs), (.int av), (.int ev), (.int hi), (.int low)] h0 (fun v h L => ∃ b : Int32, v = some (.int b) ∧ Fr n0 L ∧ Keep h0 h [this, r0] ∧ Exa Z h this "semblance/JpegScans" ∧ Fld Z h this "semblance/JpegScans" "progressive" "Z" (.int 1) ∧ Fld Z h this "semblance/JpegScans" "components" "I" (.int 2) ∧ Fld Z h this "semblance/JpegScans" "sentTo" "[[I" (.ref gr) ∧ Fld Z h this "semblance/JpegScans" "count" "I" (.int (cnt + (1 : Int32))) ∧ Fld Z h this "semblance/JpegScans" "sentAgain" "Z" (.int sa) ∧ Ars Z h r0 .int (own_row (own_put f0 sA (se + 1) low))) := by
 refine Ctr.of (plainFor_of_name pn_1) (fun m => ef_c_ac_2_0_1 m this cs av ev hi low) ?_
 intro p e s m below meth c T0 hx hby hml hown hnm hret hlk hZ e0 X0
 have N0 := Fr.nil n0
 replace hown : s.vm.findClass "semblance/JpegScans" = some m.cls := hown
 replace hml : c.maxLocals = 13 := hml
 have KP := Keep.refl h0 [this, r0]
 refine Run.x_aloadN (q := 1) X0 hx (hb hby d4_0) rfl rfl rfl ?_
 refine Run.x_dup (q := 2) X0 hx (hb hby d4_1) rfl rfl ?_
 refine Run.z_getF (q := 5) X0 hx hZ e0 hown (wm39 hw) F_this_count (hb hby d4_2) rfl fun T1 X1 e1 => ?_
 refine Run.x_iconst (q := 6) X1 hx (hb hby d4_5) (z := (1 : Int32)) rfl rfl ?_
 refine Run.x_iadd (q := 7) X1 hx (hb hby d4_6) rfl rfl ?_
 obtain ⟨T2, h2, X2, e2, W2, st2⟩ := putF X1 hx hZ hown (host := "") (Or.inl (wm39 hw)) Via.refl e1 F_this_count E_this (Or.inl (wm40 hw)) (wm1 hw) (ty := .int) (by decide) rfl rfl (g := (mkF m 7 #[.val (.ref this), .val (.ref cs), .val (.int av), .val (.int ev), .val (.int hi), .val (.int low), .unset, .unset, .unset, .unset, .unset, .unset, .unset] [(.int (cnt + (1 : Int32))), (.ref this)])) rfl rfl (hb hby d4_7)
 replace F_this_count := F_this_count.same W2
 have Z2 : n0 ≤ h2.size := Nat.le_trans Z0 (Nat.le_of_eq W2.size.symm)
 replace KP := KP.wr W2 (Or.inl (by simp))
 have N2 := Fr.snoc X2 N0 g_this
 refine Run.st st2 ?_
 show Run p e below s _ _ _ (T2.setTop (mkF m 10 #[.val (.ref this), .val (.ref cs), .val (.int av), .val (.int ev), .val (.int hi), .val (.int low), .unset, .unset, .unset, .unset, .unset, .unset, .unset] []))
 refine Run.x_aloadN (q := 11) X2 hx (hb hby d4_10) rfl rfl rfl ?_
 refine Run.z_getF (q := 14) X2 hx hZ e2 hown (wm39 hw) F_this_count (hb hby d4_11) rfl fun T3 X3 e3 => ?_
 refine Run.x_bipush (q := 16) X3 hx (hb hby d4_14) (z := (32 : Int32)) rfl rfl ?_
 refine Run.x_icmpYes (q := 29) X3 hx (hb hby d4_16) (flt (own_c32 hcnt)).2.2.2 (by decide) (by decide) ?_
 refine Run.x_aloadN (q := 30) X3 hx (hb hby d4_29) rfl rfl rfl ?_
 replace F_this_progressive := F_this_progressive.other W2 (Or.inr (slot_ne (Or.inr (wm10 hw)) (Or.inl (wm40 hw)) (by decide) (t := .boolean) (t' := .int) (by decide) (by decide)))
 refine Run.z_getF (q := 33) X3 hx hZ e3 hown (wm9 hw) F_this_progressive (hb hby d4_30) rfl fun T4 X4 e4 => ?_
 refine Run.x_ifYes (q := 127) X4 hx (hb hby d4_33) ((if0 _ _).trans (feq (by decide : ¬ ((1 : Int32) = (0 : Int32)))).2) (by decide) (by decide) ?_
 refine Run.x_iloadN (q := 128) X4 hx (hb hby d4_127) rfl rfl ?_
 refine Run.x_ifYes (q := 143) X4 hx (hb hby d4_128) ((if0 _ _).trans (feq (own_ne0 hav h1)).2) (by decide) (by decide) ?_
 refine Run.x_iloadN (q := 144) X4 hx (hb hby d4_143) rfl rfl ?_
 refine Run.x_iloadN (q := 145) X4 hx (hb hby d4_144) rfl rfl ?_
 refine Run.x_icmpNo (q := 148) X4 hx (hb hby d4_145) (flt (by rw [lt32]; omega)).2.2.1 rfl ?_
 refine Run.x_iloadN (q := 149) X4 hx (hb hby d4_148) rfl rfl ?_
 refine Run.x_bipush (q := 151) X4 hx (hb hby d4_149) (z := (64 : Int32)) rfl rfl ?_
 refine Run.x_icmpNo (q := 154) X4 hx (hb hby d4_151) (tlt (own_lt64 hev h3)).2.1 rfl ?_
 refine Run.x_aloadN (q := 155) X4 hx (hb hby d4_154) rfl rfl rfl ?_
 replace A_cs := A_cs.other W2 (Ne.symm ne_this_cs)
 refine Run.y_alen (q := 156) X4 hx hZ e4 A_cs (z := (1 : Int32)) (by decide) (hb hby d4_155) rfl ?_
 refine Run.x_iconst (q := 157) X4 hx (hb hby d4_156) (z := (1 : Int32)) rfl rfl ?_
 refine Run.x_icmpNo (q := 160) X4 hx (hb hby d4_157) (teq (by decide : (1 : Int32) = (1 : Int32))).2 rfl ?_
 refine Run.x_iconst (q := 161) X4 hx (hb hby d4_160) (z := (1 : Int32)) rfl rfl ?_
 refine Run.x_goto (q := 165) X4 hx (hb hby d4_161) (by decide) (by decide) ?_
 refine Run.x_istore (q := 167) X4 hx #[.val (.ref this), .val (.ref cs), .val (.int av), .val (.int ev), .val (.int hi), .val (.int low), .val (.int 1), .unset, .unset, .unset, .unset, .unset, .unset] (hb hby d4_165) rfl rfl ?_
 refine Run.x_iload (q := 169) X4 hx (hb hby d4_167) rfl rfl ?_
 refine Run.x_ifNo (q := 172) X4 hx (hb hby d4_169) ((if0 _ _).trans (feq (by decide : ¬ ((1 : Int32) = (0 : Int32)))).1) rfl ?_
 refine Run.x_iload (q := 174) X4 hx (hb hby d4_172) rfl rfl ?_
 refine Run.x_ifNo (q := 177) X4 hx (hb hby d4_174) ((if0 _ _).trans (feq hh).1) rfl ?_
 refine Run.x_iload (q := 179) X4 hx (hb hby d4_177) rfl rfl ?_
 refine Run.x_iload (q := 181) X4 hx (hb hby d4_179) rfl rfl ?_
 refine Run.x_iconst (q := 182) X4 hx (hb hby d4_181) (z := (1 : Int32)) rfl rfl ?_
 refine Run.x_isub (q := 183) X4 hx (hb hby d4_182) rfl rfl ?_
 refine Run.x_icmpNo (q := 186) X4 hx (hb hby d4_183) (teq hlo).2 rfl ?_
 refine Run.x_iload (q := 188) X4 hx (hb hby d4_186) rfl rfl ?_
 refine Run.x_bipush (q := 190) X4 hx (hb hby d4_188) (z := (13 : Int32)) rfl rfl ?_
 refine Run.x_icmpYes (q := 216) X4 hx (hb hby d4_190) (flt (own_13 hl)).2.2.2 (by decide) (by decide) ?_
 refine Run.x_aloadN (q := 217) X4 hx (hb hby d4_216) rfl rfl rfl ?_
 refine Run.x_astore (q := 219) X4 hx #[.val (.ref this), .val (.ref cs), .val (.int av), .val (.int ev), .val (.int hi), .val (.int low), .val (.int 1), .val (.ref cs), .unset, .unset, .unset, .unset, .unset] (hb hby d4_217) rfl rfl rfl ?_
 refine Run.x_aload (q := 221) X4 hx (hb hby d4_219) rfl rfl rfl ?_
 refine Run.y_alen (q := 222) X4 hx hZ e4 A_cs (z := (1 : Int32)) (by decide) (hb hby d4_221) rfl ?_
 refine Run.x_istore (q := 224) X4 hx #[.val (.ref this), .val (.ref cs), .val (.int av), .val (.int ev), .val (.int hi), .val (.int low), .val (.int 1), .val (.ref cs), .val (.int 1), .unset, .unset, .unset, .unset] (hb hby d4_222) rfl rfl ?_
 refine Run.x_iconst (q := 225) X4 hx (hb hby d4_224) (z := (0 : Int32)) rfl rfl ?_
 refine Run.x_istore (q := 227) X4 hx #[.val (.ref this), .val (.ref cs), .val (.int av), .val (.int ev), .val (.int hi), .val (.int low), .val (.int 1), .val (.ref cs), .val (.int 1), .val (.int 0), .unset, .unset, .unset] (hb hby d4_225) rfl rfl ?_
 refine Run.x_iload (q := 229) X4 hx (hb hby d4_227) rfl rfl ?_
 refine Run.x_iload (q := 231) X4 hx (hb hby d4_229) rfl rfl ?_
 refine Run.x_icmpNo (q := 234) X4 hx (hb hby d4_231) (tlt (by decide : (0 : Int32) < (1 : Int32))).2.1 rfl ?_
 refine Run.x_aload (q := 236) X4 hx (hb hby d4_234) rfl rfl rfl ?_
 refine Run.x_iload (q := 238) X4 hx (hb hby d4_236) rfl rfl ?_
 refine Run.y_ldI (q := 239) X4 hx hZ e4 A_cs (i := 0) (v := (.int 0)) (by decide) rfl (hb hby d4_238) rfl ?_
 refine Run.x_istore (q := 241) X4 hx #[.val (.ref this), .val (.ref cs), .val (.int av), .val (.int ev), .val (.int hi), .val (.int low), .val (.int 1), .val (.ref cs), .val (.int 1), .val (.int 0), .val (.int 0), .unset, .unset] (hb hby d4_239) rfl rfl ?_
 refine Run.x_aloadN (q := 242) X4 hx (hb hby d4_241) rfl rfl rfl ?_
 replace F_this_sentTo := F_this_sentTo.other W2 (Or.inr (slot_ne (Or.inr (wm17 hw)) (Or.inl (wm40 hw)) (by decide) (t := (.array (.array .int))) (t' := .int) (by decide) (by decide)))
 refine Run.z_getF (q := 245) X4 hx hZ e4 hown (wm16 hw) F_this_sentTo (hb hby d4_242) rfl fun T5 X5 e5 => ?_
 refine Run.x_iload (q := 247) X5 hx (hb hby d4_245) rfl rfl ?_
 replace A_gr := A_gr.other W2 (Ne.symm ne_this_gr)
 refine Run.y_ldR (q := 248) X5 hx hZ e5 A_gr (i := 0) (v := (.ref r0)) (by decide) rfl rfl (hb hby d4_247) rfl ?_
 refine Run.x_astore (q := 250) X5 hx #[.val (.ref this), .val (.ref cs), .val (.int av), .val (.int ev), .val (.int hi), .val (.int low), .val (.int 1), .val (.ref cs), .val (.int 1), .val (.int 0), .val (.int 0), .val (.ref r0), .unset] (hb hby d4_248) rfl rfl rfl ?_
 refine Run.x_iloadN (q := 251) X5 hx (hb hby d4_250) rfl rfl ?_
 refine Run.x_ifNo (q := 254) X5 hx (hb hby d4_251) ((if0 _ _).trans (tlt (own_pos hav h1)).2.2.2) rfl ?_
 refine Run.x_aload (q := 256) X5 hx (hb hby d4_254) rfl rfl rfl ?_
 refine Run.x_iconst (q := 257) X5 hx (hb hby d4_256) (z := (0 : Int32)) rfl rfl ?_
 replace A_r0 := A_r0.other W2 (Ne.symm ne_this_r0)
 refine Run.y_ldI (q := 258) X5 hx hZ e5 A_r0 (i := 0) (v := (.int (f0 0))) (by decide) (own_row_at (by decide)) (hb hby d4_257) rfl ?_
 refine Run.x_ifYes (q := 269) X5 hx (hb hby d4_258) ((if0 _ _).trans (flt (own_nn h00)).2.1) (by decide) (by decide) ?_
 refine Run.x_iloadN (q := 270) X5 hx (hb hby d4_269) rfl rfl ?_
 refine Run.x_istore (q := 272) X5 hx #[.val (.ref this), .val (.ref cs), .val (.int av), .val (.int ev), .val (.int hi), .val (.int low), .val (.int 1), .val (.ref cs), .val (.int 1), .val (.int 0), .val (.int 0), .val (.ref r0), .val (.int av)] (hb hby d4_270) rfl rfl ?_
 have loop : ∀ (k : Nat) (t : Nat) (tv : Int32) (T6 : State) (h6 : Heap) (lo6 : List Loc), Stand p l e ({ frames := 1, cells := 0, slots := 0, locals := 14 } : Room) s m #[(.ref this), (.ref cs), (.int av), (.int ev), (.int hi), (.int low)] below meth c T6 lo6 0 0 → T6.heap = h6 → Fr n0 lo6 → n0 ≤ h6.size → Keep h0 h6 [this, r0] → Exa Z h6 this "semblance/JpegScans" → Fld Z h6 this "semblance/JpegScans" "progressive" "Z" (.int 1) → Fld Z h6 this "semblance/JpegScans" "components" "I" (.int 2) → Fld Z h6 this "semblance/JpegScans" "sentTo" "[[I" (.ref gr) → Fld Z h6 this "semblance/JpegScans" "count" "I" (.int (cnt + (1 : Int32))) → Fld Z h6 this "semblance/JpegScans" "sentAgain" "Z" (.int sa) → Ars Z h6 gr (.array .int) [(.ref r0), (.ref r1)] → Ars Z h6 r0 .int (own_row (own_put f0 sA t low)) → Ars Z h6 r1 .int (own_row f1) → Ars Z h6 cs .int [(.int 0)] → (tv.toInt = t) → (t + k = se + 1) → (sA ≤ t) → Run p e below s (fun v h L => ∃ b : Int32, v = some (.int b) ∧ Fr n0 L ∧ Keep h0 h [this, r0] ∧ Exa Z h this "semblance/JpegScans" ∧ Fld Z h this "semblance/JpegScans" "progressive" "Z" (.int 1) ∧ Fld Z h this "semblance/JpegScans" "components" "I" (.int 2) ∧ Fld Z h this "semblance/JpegScans" "sentTo" "[[I" (.ref gr) ∧ Fld Z h this "semblance/JpegScans" "count" "I" (.int (cnt + (1 : Int32))) ∧ Fld Z h this "semblance/JpegScans" "sentAgain" "Z" (.int sa) ∧ Ars Z h r0 .int (own_row (own_put f0 sA (se + 1) low))) ({ frames := 1, cells := 0, slots := 0, locals := 14 } : Room).cells ({ frames := 1, cells := 0, slots := 0, locals := 14 } : Room).slots (T6.setTop (mkF m 272 #[.val (.ref this), .val (.ref cs), .val (.int av), .val (.int ev), .val (.int hi), .val (.int low), .val (.int 1), .val (.ref cs), .val (.int 1), .val (.int 0), .val (.int 0), .val (.ref r0), .val (.int tv)] [])) := by
  intro k
  induction k with
  | zero =>
   intro t tv T6 h6 lo6 X6 e6 N6 Z6 KP Ethis_6 Fprogressive_6 Fcomponents_6 FsentTo_6 Fcount_6 FsentAgain_6 Agr_6 Ar0_6 Ar1_6 Acs_6 htv hk hst
   have e9 : t = se + 1 := by omega
   subst e9
   refine Run.x_iload (q := 274) X6 hx (hb hby d4_272) rfl rfl ?_
   refine Run.x_iloadN (q := 275) X6 hx (hb hby d4_274) rfl rfl ?_
   refine Run.x_icmpYes (q := 314) X6 hx (hb hby d4_275) (tlt (by rw [lt32]; omega)).2.2.1 (by decide) (by decide) ?_
   refine Run.x_iinc (q := 317) X6 hx #[.val (.ref this), .val (.ref cs), .val (.int av), .val (.int ev), .val (.int hi), .val (.int low), .val (.int 1), .val (.ref cs), .val (.int 1), .val (.int 1), .val (.int 0), .val (.ref r0), .val (.int tv)] (hb hby d4_314) rfl (z := (1 : Int32)) (by decide) rfl rfl ?_
   refine Run.x_goto (q := 227) X6 hx (hb hby d4_317) (by decide) (by decide) ?_
   refine Run.x_iload (q := 229) X6 hx (hb hby d4_227) rfl rfl ?_
   refine Run.x_iload (q := 231) X6 hx (hb hby d4_229) rfl rfl ?_
   refine Run.x_icmpYes (q := 320) X6 hx (hb hby d4_231) (flt (by decide : ¬ ((1 : Int32) < (1 : Int32)))).2.1 (by decide) (by decide) ?_
   refine Run.x_iconst (q := 321) X6 hx (hb hby d4_320) (z := (1 : Int32)) rfl rfl ?_
   refine Run.retN X6 hx hlk e6 (t := .boolean) hret (by simp) (z' := (1 : Int32)) (by decide) (hb hby d4_321) (by decide) (by decide) ?_
   exact ⟨_, rfl, N6, KP, Ethis_6, Fprogressive_6, Fcomponents_6, FsentTo_6, Fcount_6, FsentAgain_6, Ar0_6⟩
  | succ k ih =>
   intro t tv T6 h6 lo6 X6 e6 N6 Z6 KP Ethis_6 Fprogressive_6 Fcomponents_6 FsentTo_6 Fcount_6 FsentAgain_6 Agr_6 Ar0_6 Ar1_6 Acs_6 htv hk hst
   refine Run.x_iload (q := 274) X6 hx (hb hby d4_272) rfl rfl ?_
   refine Run.x_iloadN (q := 275) X6 hx (hb hby d4_274) rfl rfl ?_
   refine Run.x_icmpNo (q := 278) X6 hx (hb hby d4_275) (flt (by rw [lt32]; omega)).2.2.1 rfl ?_
   refine Run.x_iload (q := 280) X6 hx (hb hby d4_278) rfl rfl ?_
   refine Run.x_aload (q := 282) X6 hx (hb hby d4_280) rfl rfl rfl ?_
   refine Run.x_iload (q := 284) X6 hx (hb hby d4_282) rfl rfl ?_
   refine Run.y_ldI (q := 285) X6 hx hZ e6 Ar0_6 (i := t) (v := (.int (f0 t))) htv (own_put_at (by omega)) (hb hby d4_284) rfl ?_
   refine Run.x_iconst (q := 286) X6 hx (hb hby d4_285) (z := (0 : Int32)) rfl rfl ?_
   refine Run.callSI (q := 289) X6 hx hZ e6 (y := (⟨"java/lang/Math", "max", "(II)I"⟩ : MethodName)) hown (wm41 hw) (wm42 hw) (wm43 hw) (wm44 hw) (by decide) (argsL := [(.int (f0 t)), (.int 0)]) (rest := [(.int hi)]) (c_max l Z a0 hw (f0 t) (0 : Int32) h6 n0 Z6 hi (hmx t (by omega) (by omega))) pd_1 rfl (by rw [hml]; rfl) (W := 1) rfl (by decide) (by decide) (by decide) (by decide) (hb hby d4_286) rfl rfl fun T7 L7 X7 M7 e7 => ?_
   have N7 := Fr.app N6 M7
   refine Run.x_icmpYes (q := 301) X7 hx (hb hby d4_289) (teq rfl).1 (by decide) (by decide) ?_
   refine Run.x_aload (q := 303) X7 hx (hb hby d4_301) rfl rfl rfl ?_
   refine Run.x_iload (q := 305) X7 hx (hb hby d4_303) rfl rfl ?_
   refine Run.x_iload (q := 307) X7 hx (hb hby d4_305) rfl rfl ?_
   refine Run.y_stI (q := 308) X7 hx hZ e7 Ar0_6 (i := t) htv (by rw [own_row_len]; omega) (hb hby d4_307) rfl fun T8 h8 X8 e8 W8 A8 => ?_
   replace Ar0_6 : Ars Z h8 r0 .int ((own_row (own_put f0 sA t low)).set t (Value.int low)) := A8
   replace KP := KP.wr W8 (Or.inl (by simp))
   have N8 := Fr.snoc X8 N7 g_r0
   have Z8 : n0 ≤ h8.size := Nat.le_trans Z6 (Nat.le_of_eq W8.size.symm)
   refine Run.x_iinc (q := 311) X8 hx #[.val (.ref this), .val (.ref cs), .val (.int av), .val (.int ev), .val (.int hi), .val (.int low), .val (.int 1), .val (.ref cs), .val (.int 1), .val (.int 0), .val (.int 0), .val (.ref r0), .val (.int (tv + (1 : Int32)))] (hb hby d4_308) rfl (z := (tv + (1 : Int32))) rfl rfl rfl ?_
   refine Run.x_goto (q := 272) X8 hx (hb hby d4_311) (by decide) (by decide) ?_
   replace Ethis_6 := Ethis_6.wr W8
   replace Fprogressive_6 := Fprogressive_6.other W8 (Or.inl ne_this_r0)
   replace Fcomponents_6 := Fcomponents_6.other W8 (Or.inl ne_this_r0)
   replace FsentTo_6 := FsentTo_6.other W8 (Or.inl ne_this_r0)
   replace Fcount_6 := Fcount_6.other W8 (Or.inl ne_this_r0)
   replace FsentAgain_6 := FsentAgain_6.other W8 (Or.inl ne_this_r0)
   replace Agr_6 := Agr_6.other W8 ne_gr_r0
   replace Ar1_6 := Ar1_6.other W8 (Ne.symm ne_r0_r1)
   replace Acs_6 := Acs_6.other W8 (Ne.symm ne_r0_cs)
   exact ih (t + 1) _ T8 h8 _ X8 e8 N8 Z8 KP Ethis_6 Fprogressive_6 Fcomponents_6 FsentTo_6 Fcount_6 FsentAgain_6 Agr_6 (by rw [← own_put_set (by omega) hst]; exact Ar0_6) Ar1_6 Acs_6 (own_ofn htv (by omega)) (by omega) (by omega)
 replace E_this := E_this.wr W2
 replace F_this_components := F_this_components.other W2 (Or.inr (slot_ne (Or.inr (wm12 hw)) (Or.inl (wm40 hw)) (by decide) (t := .int) (t' := .int) (by decide) (by decide)))
 replace F_this_sentAgain := F_this_sentAgain.other W2 (Or.inr (slot_ne (Or.inl (wm32 hw)) (Or.inl (wm40 hw)) (by decide) (t := .boolean) (t' := .int) (by decide) (by decide)))
 replace A_r1 := A_r1.other W2 (Ne.symm ne_this_r1)
 exact loop (se + 1 - sA) sA _ T5 h2 _ X5 e5 N2 Z2 KP E_this F_this_progressive F_this_components F_this_sentTo F_this_count F_this_sentAgain A_gr (by rw [own_put_nil]; exact A_r0) A_r1 A_cs hav (by omega) (Nat.le_refl _)
theorem ef_c_ac_2_1_0 (m : MethodId) (this : Addr) (cs : Addr) (av : Int32) (ev : Int32) (low : Int32) : entryFrame m #[(.ref this), (.ref cs), (.int av), (.int ev), (.int 0), (.int low)] 13 = mkF m 0 #[.val (.ref this), .val (.ref cs), .val (.int av), .val (.int ev), .val (.int 0), .val (.int low), .unset, .unset, .unset, .unset, .unset, .unset, .unset] [] := by first | (simp [entryFrame, mkF, argsToLocals, Value.category]; done) | rfl
set_option maxRecDepth 65536 in
set_option maxHeartbeats 40000000 in
theorem c_ac_2_1_0 (l : Launch) (Z : State) (a0 : Array Value) (hw : ∀ d ∈ tables_1, d.before a0 Z = true) (this : Addr) (cs : Addr) (av : Int32) (ev : Int32) (low : Int32) (h0 : Heap) (n0 : Nat) (Z0 : n0 ≤ h0.size) (gr : Addr) (r0 : Addr) (r1 : Addr) (cnt : Int32) (sa : Int32) (f0 : Nat → Int32) (f1 : Nat → Int32) (sA : Nat) (se : Nat) (E_this : Exa Z h0 this "semblance/JpegScans") (F_this_progressive : Fld Z h0 this "semblance/JpegScans" "progressive" "Z" (.int 1)) (F_this_components : Fld Z h0 this "semblance/JpegScans" "components" "I" (.int 2)) (F_this_sentTo : Fld Z h0 this "semblance/JpegScans" "sentTo" "[[I" (.ref gr)) (F_this_count : Fld Z h0 this "semblance/JpegScans" "count" "I" (.int cnt)) (F_this_sentAgain : Fld Z h0 this "semblance/JpegScans" "sentAgain" "Z" (.int sa)) (A_gr : Ars Z h0 gr (.array .int) [(.ref r0), (.ref r1)]) (A_r0 : Ars Z h0 r0 .int (own_row f0)) (A_r1 : Ars Z h0 r1 .int (own_row f1)) (A_cs : Ars Z h0 cs .int [(.int 1)]) (g_this : n0 ≤ this) (g_r1 : n0 ≤ r1) (ne_this_gr : this ≠ gr) (ne_this_r0 : this ≠ r0) (ne_this_r1 : this ≠ r1) (ne_this_cs : this ≠ cs) (ne_gr_r0 : gr ≠ r0) (ne_gr_r1 : gr ≠ r1) (ne_gr_cs : gr ≠ cs) (ne_r0_r1 : r0 ≠ r1) (ne_r0_cs : r0 ≠ cs) (ne_r1_cs : r1 ≠ cs) (hcnt : 0 ≤ cnt.toInt ∧ cnt.toInt ≤ 20) (hl : 0 ≤ low.toInt ∧ low.toInt ≤ 13) (hav : av.toInt = sA) (hev : ev.toInt = se) (h1 : 1 ≤ sA) (h2 : sA ≤ se) (h3 : se ≤ 63) (h00 : 0 ≤ (f1 0).toInt) (hmx : ∀ i, sA ≤ i → i ≤ se → (if (f1 i) < (0 : Int32) then (0 : Int32) else (f1 i)) = (0 : Int32)) :
  Ctr l Z (⟨"semblance/JpegScans", "take", "([IIIII)Z"⟩ : MethodName) prog_41_method_2_code 13 (some .boolean) ({ frames := 1, cells := 0, slots := 0, locals := 14 } : Room) #[(.ref this), (.ref cs), (.int av), (.int ev), (.int 0), (.int low)] h0 (fun v h L => ∃ b : Int32, v = some (.int b) ∧ Fr n0 L ∧ Keep h0 h [this, r1] ∧ Exa Z h this "semblance/JpegScans" ∧ Fld Z h this "semblance/JpegScans" "progressive" "Z" (.int 1) ∧ Fld Z h this "semblance/JpegScans" "components" "I" (.int 2) ∧ Fld Z h this "semblance/JpegScans" "sentTo" "[[I" (.ref gr) ∧ Fld Z h this "semblance/JpegScans" "count" "I" (.int (cnt + (1 : Int32))) ∧ Fld Z h this "semblance/JpegScans" "sentAgain" "Z" (.int sa) ∧ Ars Z h r1 .int (own_row (own_put f1 sA (se + 1) low))) := by
 refine Ctr.of (plainFor_of_name pn_1) (fun m => ef_c_ac_2_1_0 m this cs av ev low) ?_
 intro p e s m below meth c T0 hx hby hml hown hnm hret hlk hZ e0 X0
 have N0 := Fr.nil n0
 replace hown : s.vm.findClass "semblance/JpegScans" = some m.cls := hown
 replace hml : c.maxLocals = 13 := hml
 have KP := Keep.refl h0 [this, r1]
 refine Run.x_aloadN (q := 1) X0 hx (hb hby d4_0) rfl rfl rfl ?_
 refine Run.x_dup (q := 2) X0 hx (hb hby d4_1) rfl rfl ?_
 refine Run.z_getF (q := 5) X0 hx hZ e0 hown (wm39 hw) F_this_count (hb hby d4_2) rfl fun T1 X1 e1 => ?_
 refine Run.x_iconst (q := 6) X1 hx (hb hby d4_5) (z := (1 : Int32)) rfl rfl ?_
 refine Run.x_iadd (q := 7) X1 hx (hb hby d4_6) rfl rfl ?_
 obtain ⟨T2, h2, X2, e2, W2, st2⟩ := putF X1 hx hZ hown (host := "") (Or.inl (wm39 hw)) Via.refl e1 F_this_count E_this (Or.inl (wm40 hw)) (wm1 hw) (ty := .int) (by decide) rfl rfl (g := (mkF m 7 #[.val (.ref this), .val (.ref cs), .val (.int av), .val (.int ev), .val (.int 0), .val (.int low), .unset, .unset, .unset, .unset, .unset, .unset, .unset] [(.int (cnt + (1 : Int32))), (.ref this)])) rfl rfl (hb hby d4_7)
 replace F_this_count := F_this_count.same W2
 have Z2 : n0 ≤ h2.size := Nat.le_trans Z0 (Nat.le_of_eq W2.size.symm)
 replace KP := KP.wr W2 (Or.inl (by simp))
 have N2 := Fr.snoc X2 N0 g_this
 refine Run.st st2 ?_
 show Run p e below s _ _ _ (T2.setTop (mkF m 10 #[.val (.ref this), .val (.ref cs), .val (.int av), .val (.int ev), .val (.int 0), .val (.int low), .unset, .unset, .unset, .unset, .unset, .unset, .unset] []))
 refine Run.x_aloadN (q := 11) X2 hx (hb hby d4_10) rfl rfl rfl ?_
 refine Run.z_getF (q := 14) X2 hx hZ e2 hown (wm39 hw) F_this_count (hb hby d4_11) rfl fun T3 X3 e3 => ?_
 refine Run.x_bipush (q := 16) X3 hx (hb hby d4_14) (z := (32 : Int32)) rfl rfl ?_
 refine Run.x_icmpYes (q := 29) X3 hx (hb hby d4_16) (flt (own_c32 hcnt)).2.2.2 (by decide) (by decide) ?_
 refine Run.x_aloadN (q := 30) X3 hx (hb hby d4_29) rfl rfl rfl ?_
 replace F_this_progressive := F_this_progressive.other W2 (Or.inr (slot_ne (Or.inr (wm10 hw)) (Or.inl (wm40 hw)) (by decide) (t := .boolean) (t' := .int) (by decide) (by decide)))
 refine Run.z_getF (q := 33) X3 hx hZ e3 hown (wm9 hw) F_this_progressive (hb hby d4_30) rfl fun T4 X4 e4 => ?_
 refine Run.x_ifYes (q := 127) X4 hx (hb hby d4_33) ((if0 _ _).trans (feq (by decide : ¬ ((1 : Int32) = (0 : Int32)))).2) (by decide) (by decide) ?_
 refine Run.x_iloadN (q := 128) X4 hx (hb hby d4_127) rfl rfl ?_
 refine Run.x_ifYes (q := 143) X4 hx (hb hby d4_128) ((if0 _ _).trans (feq (own_ne0 hav h1)).2) (by decide) (by decide) ?_
 refine Run.x_iloadN (q := 144) X4 hx (hb hby d4_143) rfl rfl ?_
 refine Run.x_iloadN (q := 145) X4 hx (hb hby d4_144) rfl rfl ?_
 refine Run.x_icmpNo (q := 148) X4 hx (hb hby d4_145) (flt (by rw [lt32]; omega)).2.2.1 rfl ?_
 refine Run.x_iloadN (q := 149) X4 hx (hb hby d4_148) rfl rfl ?_
 refine Run.x_bipush (q := 151) X4 hx (hb hby d4_149) (z := (64 : Int32)) rfl rfl ?_
 refine Run.x_icmpNo (q := 154) X4 hx (hb hby d4_151) (tlt (own_lt64 hev h3)).2.1 rfl ?_
 refine Run.x_aloadN (q := 155) X4 hx (hb hby d4_154) rfl rfl rfl ?_
 replace A_cs := A_cs.other W2 (Ne.symm ne_this_cs)
 refine Run.y_alen (q := 156) X4 hx hZ e4 A_cs (z := (1 : Int32)) (by decide) (hb hby d4_155) rfl ?_
 refine Run.x_iconst (q := 157) X4 hx (hb hby d4_156) (z := (1 : Int32)) rfl rfl ?_
 refine Run.x_icmpNo (q := 160) X4 hx (hb hby d4_157) (teq (by decide : (1 : Int32) = (1 : Int32))).2 rfl ?_
 refine Run.x_iconst (q := 161) X4 hx (hb hby d4_160) (z := (1 : Int32)) rfl rfl ?_
 refine Run.x_goto (q := 165) X4 hx (hb hby d4_161) (by decide) (by decide) ?_
 refine Run.x_istore (q := 167) X4 hx #[.val (.ref this), .val (.ref cs), .val (.int av), .val (.int ev), .val (.int 0), .val (.int low), .val (.int 1), .unset, .unset, .unset, .unset, .unset, .unset] (hb hby d4_165) rfl rfl ?_
 refine Run.x_iload (q := 169) X4 hx (hb hby d4_167) rfl rfl ?_
 refine Run.x_ifNo (q := 172) X4 hx (hb hby d4_169) ((if0 _ _).trans (feq (by decide : ¬ ((1 : Int32) = (0 : Int32)))).1) rfl ?_
 refine Run.x_iload (q := 174) X4 hx (hb hby d4_172) rfl rfl ?_
 refine Run.x_ifYes (q := 186) X4 hx (hb hby d4_174) ((if0 _ _).trans (teq (by decide : (0 : Int32) = (0 : Int32))).1) (by decide) (by decide) ?_
 refine Run.x_iload (q := 188) X4 hx (hb hby d4_186) rfl rfl ?_
 refine Run.x_bipush (q := 190) X4 hx (hb hby d4_188) (z := (13 : Int32)) rfl rfl ?_
 refine Run.x_icmpYes (q := 216) X4 hx (hb hby d4_190) (flt (own_13 hl)).2.2.2 (by decide) (by decide) ?_
 refine Run.x_aloadN (q := 217) X4 hx (hb hby d4_216) rfl rfl rfl ?_
 refine Run.x_astore (q := 219) X4 hx #[.val (.ref this), .val (.ref cs), .val (.int av), .val (.int ev), .val (.int 0), .val (.int low), .val (.int 1), .val (.ref cs), .unset, .unset, .unset, .unset, .unset] (hb hby d4_217) rfl rfl rfl ?_
 refine Run.x_aload (q := 221) X4 hx (hb hby d4_219) rfl rfl rfl ?_
 refine Run.y_alen (q := 222) X4 hx hZ e4 A_cs (z := (1 : Int32)) (by decide) (hb hby d4_221) rfl ?_
 refine Run.x_istore (q := 224) X4 hx #[.val (.ref this), .val (.ref cs), .val (.int av), .val (.int ev), .val (.int 0), .val (.int low), .val (.int 1), .val (.ref cs), .val (.int 1), .unset, .unset, .unset, .unset] (hb hby d4_222) rfl rfl ?_
 refine Run.x_iconst (q := 225) X4 hx (hb hby d4_224) (z := (0 : Int32)) rfl rfl ?_
 refine Run.x_istore (q := 227) X4 hx #[.val (.ref this), .val (.ref cs), .val (.int av), .val (.int ev), .val (.int 0), .val (.int low), .val (.int 1), .val (.ref cs), .val (.int 1), .val (.int 0), .unset, .unset, .unset] (hb hby d4_225) rfl rfl ?_
 refine Run.x_iload (q := 229) X4 hx (hb hby d4_227) rfl rfl ?_
 refine Run.x_iload (q := 231) X4 hx (hb hby d4_229) rfl rfl ?_
 refine Run.x_icmpNo (q := 234) X4 hx (hb hby d4_231) (tlt (by decide : (0 : Int32) < (1 : Int32))).2.1 rfl ?_
 refine Run.x_aload (q := 236) X4 hx (hb hby d4_234) rfl rfl rfl ?_
 refine Run.x_iload (q := 238) X4 hx (hb hby d4_236) rfl rfl ?_
 refine Run.y_ldI (q := 239) X4 hx hZ e4 A_cs (i := 0) (v := (.int 1)) (by decide) rfl (hb hby d4_238) rfl ?_
 refine Run.x_istore (q := 241) X4 hx #[.val (.ref this), .val (.ref cs), .val (.int av), .val (.int ev), .val (.int 0), .val (.int low), .val (.int 1), .val (.ref cs), .val (.int 1), .val (.int 0), .val (.int 1), .unset, .unset] (hb hby d4_239) rfl rfl ?_
 refine Run.x_aloadN (q := 242) X4 hx (hb hby d4_241) rfl rfl rfl ?_
 replace F_this_sentTo := F_this_sentTo.other W2 (Or.inr (slot_ne (Or.inr (wm17 hw)) (Or.inl (wm40 hw)) (by decide) (t := (.array (.array .int))) (t' := .int) (by decide) (by decide)))
 refine Run.z_getF (q := 245) X4 hx hZ e4 hown (wm16 hw) F_this_sentTo (hb hby d4_242) rfl fun T5 X5 e5 => ?_
 refine Run.x_iload (q := 247) X5 hx (hb hby d4_245) rfl rfl ?_
 replace A_gr := A_gr.other W2 (Ne.symm ne_this_gr)
 refine Run.y_ldR (q := 248) X5 hx hZ e5 A_gr (i := 1) (v := (.ref r1)) (by decide) rfl rfl (hb hby d4_247) rfl ?_
 refine Run.x_astore (q := 250) X5 hx #[.val (.ref this), .val (.ref cs), .val (.int av), .val (.int ev), .val (.int 0), .val (.int low), .val (.int 1), .val (.ref cs), .val (.int 1), .val (.int 0), .val (.int 1), .val (.ref r1), .unset] (hb hby d4_248) rfl rfl rfl ?_
 refine Run.x_iloadN (q := 251) X5 hx (hb hby d4_250) rfl rfl ?_
 refine Run.x_ifNo (q := 254) X5 hx (hb hby d4_251) ((if0 _ _).trans (tlt (own_pos hav h1)).2.2.2) rfl ?_
 refine Run.x_aload (q := 256) X5 hx (hb hby d4_254) rfl rfl rfl ?_
 refine Run.x_iconst (q := 257) X5 hx (hb hby d4_256) (z := (0 : Int32)) rfl rfl ?_
 replace A_r1 := A_r1.other W2 (Ne.symm ne_this_r1)
 refine Run.y_ldI (q := 258) X5 hx hZ e5 A_r1 (i := 0) (v := (.int (f1 0))) (by decide) (own_row_at (by decide)) (hb hby d4_257) rfl ?_
 refine Run.x_ifYes (q := 269) X5 hx (hb hby d4_258) ((if0 _ _).trans (flt (own_nn h00)).2.1) (by decide) (by decide) ?_
 refine Run.x_iloadN (q := 270) X5 hx (hb hby d4_269) rfl rfl ?_
 refine Run.x_istore (q := 272) X5 hx #[.val (.ref this), .val (.ref cs), .val (.int av), .val (.int ev), .val (.int 0), .val (.int low), .val (.int 1), .val (.ref cs), .val (.int 1), .val (.int 0), .val (.int 1), .val (.ref r1), .val (.int av)] (hb hby d4_270) rfl rfl ?_
 have loop : ∀ (k : Nat) (t : Nat) (tv : Int32) (T6 : State) (h6 : Heap) (lo6 : List Loc), Stand p l e ({ frames := 1, cells := 0, slots := 0, locals := 14 } : Room) s m #[(.ref this), (.ref cs), (.int av), (.int ev), (.int 0), (.int low)] below meth c T6 lo6 0 0 → T6.heap = h6 → Fr n0 lo6 → n0 ≤ h6.size → Keep h0 h6 [this, r1] → Exa Z h6 this "semblance/JpegScans" → Fld Z h6 this "semblance/JpegScans" "progressive" "Z" (.int 1) → Fld Z h6 this "semblance/JpegScans" "components" "I" (.int 2) → Fld Z h6 this "semblance/JpegScans" "sentTo" "[[I" (.ref gr) → Fld Z h6 this "semblance/JpegScans" "count" "I" (.int (cnt + (1 : Int32))) → Fld Z h6 this "semblance/JpegScans" "sentAgain" "Z" (.int sa) → Ars Z h6 gr (.array .int) [(.ref r0), (.ref r1)] → Ars Z h6 r0 .int (own_row f0) → Ars Z h6 r1 .int (own_row (own_put f1 sA t low)) → Ars Z h6 cs .int [(.int 1)] → (tv.toInt = t) → (t + k = se + 1) → (sA ≤ t) → Run p e below s (fun v h L => ∃ b : Int32, v = some (.int b) ∧ Fr n0 L ∧ Keep h0 h [this, r1] ∧ Exa Z h this "semblance/JpegScans" ∧ Fld Z h this "semblance/JpegScans" "progressive" "Z" (.int 1) ∧ Fld Z h this "semblance/JpegScans" "components" "I" (.int 2) ∧ Fld Z h this "semblance/JpegScans" "sentTo" "[[I" (.ref gr) ∧ Fld Z h this "semblance/JpegScans" "count" "I" (.int (cnt + (1 : Int32))) ∧ Fld Z h this "semblance/JpegScans" "sentAgain" "Z" (.int sa) ∧ Ars Z h r1 .int (own_row (own_put f1 sA (se + 1) low))) ({ frames := 1, cells := 0, slots := 0, locals := 14 } : Room).cells ({ frames := 1, cells := 0, slots := 0, locals := 14 } : Room).slots (T6.setTop (mkF m 272 #[.val (.ref this), .val (.ref cs), .val (.int av), .val (.int ev), .val (.int 0), .val (.int low), .val (.int 1), .val (.ref cs), .val (.int 1), .val (.int 0), .val (.int 1), .val (.ref r1), .val (.int tv)] [])) := by
  intro k
  induction k with
  | zero =>
   intro t tv T6 h6 lo6 X6 e6 N6 Z6 KP Ethis_6 Fprogressive_6 Fcomponents_6 FsentTo_6 Fcount_6 FsentAgain_6 Agr_6 Ar0_6 Ar1_6 Acs_6 htv hk hst
   have e9 : t = se + 1 := by omega
   subst e9
   refine Run.x_iload (q := 274) X6 hx (hb hby d4_272) rfl rfl ?_
   refine Run.x_iloadN (q := 275) X6 hx (hb hby d4_274) rfl rfl ?_
   refine Run.x_icmpYes (q := 314) X6 hx (hb hby d4_275) (tlt (by rw [lt32]; omega)).2.2.1 (by decide) (by decide) ?_
   refine Run.x_iinc (q := 317) X6 hx #[.val (.ref this), .val (.ref cs), .val (.int av), .val (.int ev), .val (.int 0), .val (.int low), .val (.int 1), .val (.ref cs), .val (.int 1), .val (.int 1), .val (.int 1), .val (.ref r1), .val (.int tv)] (hb hby d4_314) rfl (z := (1 : Int32)) (by decide) rfl rfl ?_
   refine Run.x_goto (q := 227) X6 hx (hb hby d4_317) (by decide) (by decide) ?_
   refine Run.x_iload (q := 229) X6 hx (hb hby d4_227) rfl rfl ?_
   refine Run.x_iload (q := 231) X6 hx (hb hby d4_229) rfl rfl ?_
   refine Run.x_icmpYes (q := 320) X6 hx (hb hby d4_231) (flt (by decide : ¬ ((1 : Int32) < (1 : Int32)))).2.1 (by decide) (by decide) ?_
   refine Run.x_iconst (q := 321) X6 hx (hb hby d4_320) (z := (1 : Int32)) rfl rfl ?_
   refine Run.retN X6 hx hlk e6 (t := .boolean) hret (by simp) (z' := (1 : Int32)) (by decide) (hb hby d4_321) (by decide) (by decide) ?_
   exact ⟨_, rfl, N6, KP, Ethis_6, Fprogressive_6, Fcomponents_6, FsentTo_6, Fcount_6, FsentAgain_6, Ar1_6⟩
  | succ k ih =>
   intro t tv T6 h6 lo6 X6 e6 N6 Z6 KP Ethis_6 Fprogressive_6 Fcomponents_6 FsentTo_6 Fcount_6 FsentAgain_6 Agr_6 Ar0_6 Ar1_6 Acs_6 htv hk hst
   refine Run.x_iload (q := 274) X6 hx (hb hby d4_272) rfl rfl ?_
   refine Run.x_iloadN (q := 275) X6 hx (hb hby d4_274) rfl rfl ?_
   refine Run.x_icmpNo (q := 278) X6 hx (hb hby d4_275) (flt (by rw [lt32]; omega)).2.2.1 rfl ?_
   refine Run.x_iload (q := 280) X6 hx (hb hby d4_278) rfl rfl ?_
   refine Run.x_aload (q := 282) X6 hx (hb hby d4_280) rfl rfl rfl ?_
   refine Run.x_iload (q := 284) X6 hx (hb hby d4_282) rfl rfl ?_
   refine Run.y_ldI (q := 285) X6 hx hZ e6 Ar1_6 (i := t) (v := (.int (f1 t))) htv (own_put_at (by omega)) (hb hby d4_284) rfl ?_
   refine Run.x_iconst (q := 286) X6 hx (hb hby d4_285) (z := (0 : Int32)) rfl rfl ?_
   refine Run.callSI (q := 289) X6 hx hZ e6 (y := (⟨"java/lang/Math", "max", "(II)I"⟩ : MethodName)) hown (wm41 hw) (wm42 hw) (wm43 hw) (wm44 hw) (by decide) (argsL := [(.int (f1 t)), (.int 0)]) (rest := [(.int 0)]) (c_max l Z a0 hw (f1 t) (0 : Int32) h6 n0 Z6 (0 : Int32) (hmx t (by omega) (by omega))) pd_1 rfl (by rw [hml]; rfl) (W := 1) rfl (by decide) (by decide) (by decide) (by decide) (hb hby d4_286) rfl rfl fun T7 L7 X7 M7 e7 => ?_
   have N7 := Fr.app N6 M7
   refine Run.x_icmpYes (q := 301) X7 hx (hb hby d4_289) (teq (by decide : (0 : Int32) = (0 : Int32))).1 (by decide) (by decide) ?_
   refine Run.x_aload (q := 303) X7 hx (hb hby d4_301) rfl rfl rfl ?_
   refine Run.x_iload (q := 305) X7 hx (hb hby d4_303) rfl rfl ?_
   refine Run.x_iload (q := 307) X7 hx (hb hby d4_305) rfl rfl ?_
   refine Run.y_stI (q := 308) X7 hx hZ e7 Ar1_6 (i := t) htv (by rw [own_row_len]; omega) (hb hby d4_307) rfl fun T8 h8 X8 e8 W8 A8 => ?_
   replace Ar1_6 : Ars Z h8 r1 .int ((own_row (own_put f1 sA t low)).set t (Value.int low)) := A8
   replace KP := KP.wr W8 (Or.inl (by simp))
   have N8 := Fr.snoc X8 N7 g_r1
   have Z8 : n0 ≤ h8.size := Nat.le_trans Z6 (Nat.le_of_eq W8.size.symm)
   refine Run.x_iinc (q := 311) X8 hx #[.val (.ref this), .val (.ref cs), .val (.int av), .val (.int ev), .val (.int 0), .val (.int low), .val (.int 1), .val (.ref cs), .val (.int 1), .val (.int 0), .val (.int 1), .val (.ref r1), .val (.int (tv + (1 : Int32)))] (hb hby d4_308) rfl (z := (tv + (1 : Int32))) rfl rfl rfl ?_
   refine Run.x_goto (q := 272) X8 hx (hb hby d4_311) (by decide) (by decide) ?_
   replace Ethis_6 := Ethis_6.wr W8
   replace Fprogressive_6 := Fprogressive_6.other W8 (Or.inl ne_this_r1)
   replace Fcomponents_6 := Fcomponents_6.other W8 (Or.inl ne_this_r1)
   replace FsentTo_6 := FsentTo_6.other W8 (Or.inl ne_this_r1)
   replace Fcount_6 := Fcount_6.other W8 (Or.inl ne_this_r1)
   replace FsentAgain_6 := FsentAgain_6.other W8 (Or.inl ne_this_r1)
   replace Agr_6 := Agr_6.other W8 ne_gr_r1
   replace Ar0_6 := Ar0_6.other W8 ne_r0_r1
   replace Acs_6 := Acs_6.other W8 (Ne.symm ne_r1_cs)
   exact ih (t + 1) _ T8 h8 _ X8 e8 N8 Z8 KP Ethis_6 Fprogressive_6 Fcomponents_6 FsentTo_6 Fcount_6 FsentAgain_6 Agr_6 Ar0_6 (by rw [← own_put_set (by omega) hst]; exact Ar1_6) Acs_6 (own_ofn htv (by omega)) (by omega) (by omega)
 replace E_this := E_this.wr W2
 replace F_this_components := F_this_components.other W2 (Or.inr (slot_ne (Or.inr (wm12 hw)) (Or.inl (wm40 hw)) (by decide) (t := .int) (t' := .int) (by decide) (by decide)))
 replace F_this_sentAgain := F_this_sentAgain.other W2 (Or.inr (slot_ne (Or.inl (wm32 hw)) (Or.inl (wm40 hw)) (by decide) (t := .boolean) (t' := .int) (by decide) (by decide)))
 replace A_r0 := A_r0.other W2 (Ne.symm ne_this_r0)
 exact loop (se + 1 - sA) sA _ T5 h2 _ X5 e5 N2 Z2 KP E_this F_this_progressive F_this_components F_this_sentTo F_this_count F_this_sentAgain A_gr A_r0 (by rw [own_put_nil]; exact A_r1) A_cs hav (by omega) (Nat.le_refl _)
theorem ef_c_ac_2_1_1 (m : MethodId) (this : Addr) (cs : Addr) (av : Int32) (ev : Int32) (hi : Int32) (low : Int32) : entryFrame m #[(.ref this), (.ref cs), (.int av), (.int ev), (.int hi), (.int low)] 13 = mkF m 0 #[.val (.ref this), .val (.ref cs), .val (.int av), .val (.int ev), .val (.int hi), .val (.int low), .unset, .unset, .unset, .unset, .unset, .unset, .unset] [] := by first | (simp [entryFrame, mkF, argsToLocals, Value.category]; done) | rfl
set_option maxRecDepth 65536 in
set_option maxHeartbeats 40000000 in
theorem c_ac_2_1_1 (l : Launch) (Z : State) (a0 : Array Value) (hw : ∀ d ∈ tables_1, d.before a0 Z = true) (this : Addr) (cs : Addr) (av : Int32) (ev : Int32) (hi : Int32) (low : Int32) (h0 : Heap) (n0 : Nat) (Z0 : n0 ≤ h0.size) (gr : Addr) (r0 : Addr) (r1 : Addr) (cnt : Int32) (sa : Int32) (f0 : Nat → Int32) (f1 : Nat → Int32) (sA : Nat) (se : Nat) (E_this : Exa Z h0 this "semblance/JpegScans") (F_this_progressive : Fld Z h0 this "semblance/JpegScans" "progressive" "Z" (.int 1)) (F_this_components : Fld Z h0 this "semblance/JpegScans" "components" "I" (.int 2)) (F_this_sentTo : Fld Z h0 this "semblance/JpegScans" "sentTo" "[[I" (.ref gr)) (F_this_count : Fld Z h0 this "semblance/JpegScans" "count" "I" (.int cnt)) (F_this_sentAgain : Fld Z h0 this "semblance/JpegScans" "sentAgain" "Z" (.int sa)) (A_gr : Ars Z h0 gr (.array .int) [(.ref r0), (.ref r1)]) (A_r0 : Ars Z h0 r0 .int (own_row f0)) (A_r1 : Ars Z h0 r1 .int (own_row f1)) (A_cs : Ars Z h0 cs .int [(.int 1)]) (g_this : n0 ≤ this) (g_r1 : n0 ≤ r1) (ne_this_gr : this ≠ gr) (ne_this_r0 : this ≠ r0) (ne_this_r1 : this ≠ r1) (ne_this_cs : this ≠ cs) (ne_gr_r0 : gr ≠ r0) (ne_gr_r1 : gr ≠ r1) (ne_gr_cs : gr ≠ cs) (ne_r0_r1 : r0 ≠ r1) (ne_r0_cs : r0 ≠ cs) (ne_r1_cs : r1 ≠ cs) (hcnt : 0 ≤ cnt.toInt ∧ cnt.toInt ≤ 20) (hl : 0 ≤ low.toInt ∧ low.toInt ≤ 13) (hav : av.toInt = sA) (hev : ev.toInt = se) (h1 : 1 ≤ sA) (h2 : sA ≤ se) (h3 : se ≤ 63) (h00 : 0 ≤ (f1 0).toInt) (hmx : ∀ i, sA ≤ i → i ≤ se → (if (f1 i) < (0 : Int32) then (0 : Int32) else (f1 i)) = hi) (hh : ¬ hi = (0 : Int32)) (hlo : low = (hi - (1 : Int32))) :
  Ctr l Z (⟨"semblance/JpegScans", "take", "([IIIII)Z"⟩ : MethodName) prog_41_method_2_code 13 (some .boolean) ({ frames := 1, cells := 0, slots := 0, locals := 14 } : Room) #[(.ref this), (.ref cs), (.int av), (.int ev), (.int hi), (.int low)] h0 (fun v h L => ∃ b : Int32, v = some (.int b) ∧ Fr n0 L ∧ Keep h0 h [this, r1] ∧ Exa Z h this "semblance/JpegScans" ∧ Fld Z h this "semblance/JpegScans" "progressive" "Z" (.int 1) ∧ Fld Z h this "semblance/JpegScans" "components" "I" (.int 2) ∧ Fld Z h this "semblance/JpegScans" "sentTo" "[[I" (.ref gr) ∧ Fld Z h this "semblance/JpegScans" "count" "I" (.int (cnt + (1 : Int32))) ∧ Fld Z h this "semblance/JpegScans" "sentAgain" "Z" (.int sa) ∧ Ars Z h r1 .int (own_row (own_put f1 sA (se + 1) low))) := by
 refine Ctr.of (plainFor_of_name pn_1) (fun m => ef_c_ac_2_1_1 m this cs av ev hi low) ?_
 intro p e s m below meth c T0 hx hby hml hown hnm hret hlk hZ e0 X0
 have N0 := Fr.nil n0
 replace hown : s.vm.findClass "semblance/JpegScans" = some m.cls := hown
 replace hml : c.maxLocals = 13 := hml
 have KP := Keep.refl h0 [this, r1]
 refine Run.x_aloadN (q := 1) X0 hx (hb hby d4_0) rfl rfl rfl ?_
 refine Run.x_dup (q := 2) X0 hx (hb hby d4_1) rfl rfl ?_
 refine Run.z_getF (q := 5) X0 hx hZ e0 hown (wm39 hw) F_this_count (hb hby d4_2) rfl fun T1 X1 e1 => ?_
 refine Run.x_iconst (q := 6) X1 hx (hb hby d4_5) (z := (1 : Int32)) rfl rfl ?_
 refine Run.x_iadd (q := 7) X1 hx (hb hby d4_6) rfl rfl ?_
 obtain ⟨T2, h2, X2, e2, W2, st2⟩ := putF X1 hx hZ hown (host := "") (Or.inl (wm39 hw)) Via.refl e1 F_this_count E_this (Or.inl (wm40 hw)) (wm1 hw) (ty := .int) (by decide) rfl rfl (g := (mkF m 7 #[.val (.ref this), .val (.ref cs), .val (.int av), .val (.int ev), .val (.int hi), .val (.int low), .unset, .unset, .unset, .unset, .unset, .unset, .unset] [(.int (cnt + (1 : Int32))), (.ref this)])) rfl rfl (hb hby d4_7)
 replace F_this_count := F_this_count.same W2
 have Z2 : n0 ≤ h2.size := Nat.le_trans Z0 (Nat.le_of_eq W2.size.symm)
 replace KP := KP.wr W2 (Or.inl (by simp))
 have N2 := Fr.snoc X2 N0 g_this
 refine Run.st st2 ?_
 show Run p e below s _ _ _ (T2.setTop (mkF m 10 #[.val (.ref this), .val (.ref cs), .val (.int av), .val (.int ev), .val (.int hi), .val (.int low), .unset, .unset, .unset, .unset, .unset, .unset, .unset] []))
 refine Run.x_aloadN (q := 11) X2 hx (hb hby d4_10) rfl rfl rfl ?_
 refine Run.z_getF (q := 14) X2 hx hZ e2 hown (wm39 hw) F_this_count (hb hby d4_11) rfl fun T3 X3 e3 => ?_
 refine Run.x_bipush (q := 16) X3 hx (hb hby d4_14) (z := (32 : Int32)) rfl rfl ?_
 refine Run.x_icmpYes (q := 29) X3 hx (hb hby d4_16) (flt (own_c32 hcnt)).2.2.2 (by decide) (by decide) ?_
 refine Run.x_aloadN (q := 30) X3 hx (hb hby d4_29) rfl rfl rfl ?_
 replace F_this_progressive := F_this_progressive.other W2 (Or.inr (slot_ne (Or.inr (wm10 hw)) (Or.inl (wm40 hw)) (by decide) (t := .boolean) (t' := .int) (by decide) (by decide)))
 refine Run.z_getF (q := 33) X3 hx hZ e3 hown (wm9 hw) F_this_progressive (hb hby d4_30) rfl fun T4 X4 e4 => ?_
 refine Run.x_ifYes (q := 127) X4 hx (hb hby d4_33) ((if0 _ _).trans (feq (by decide : ¬ ((1 : Int32) = (0 : Int32)))).2) (by decide) (by decide) ?_
 refine Run.x_iloadN (q := 128) X4 hx (hb hby d4_127) rfl rfl ?_
 refine Run.x_ifYes (q := 143) X4 hx (hb hby d4_128) ((if0 _ _).trans (feq (own_ne0 hav h1)).2) (by decide) (by decide) ?_
 refine Run.x_iloadN (q := 144) X4 hx (hb hby d4_143) rfl rfl ?_
 refine Run.x_iloadN (q := 145) X4 hx (hb hby d4_144) rfl rfl ?_
 refine Run.x_icmpNo (q := 148) X4 hx (hb hby d4_145) (flt (by rw [lt32]; omega)).2.2.1 rfl ?_
 refine Run.x_iloadN (q := 149) X4 hx (hb hby d4_148) rfl rfl ?_
 refine Run.x_bipush (q := 151) X4 hx (hb hby d4_149) (z := (64 : Int32)) rfl rfl ?_
 refine Run.x_icmpNo (q := 154) X4 hx (hb hby d4_151) (tlt (own_lt64 hev h3)).2.1 rfl ?_
 refine Run.x_aloadN (q := 155) X4 hx (hb hby d4_154) rfl rfl rfl ?_
 replace A_cs := A_cs.other W2 (Ne.symm ne_this_cs)
 refine Run.y_alen (q := 156) X4 hx hZ e4 A_cs (z := (1 : Int32)) (by decide) (hb hby d4_155) rfl ?_
 refine Run.x_iconst (q := 157) X4 hx (hb hby d4_156) (z := (1 : Int32)) rfl rfl ?_
 refine Run.x_icmpNo (q := 160) X4 hx (hb hby d4_157) (teq (by decide : (1 : Int32) = (1 : Int32))).2 rfl ?_
 refine Run.x_iconst (q := 161) X4 hx (hb hby d4_160) (z := (1 : Int32)) rfl rfl ?_
 refine Run.x_goto (q := 165) X4 hx (hb hby d4_161) (by decide) (by decide) ?_
 refine Run.x_istore (q := 167) X4 hx #[.val (.ref this), .val (.ref cs), .val (.int av), .val (.int ev), .val (.int hi), .val (.int low), .val (.int 1), .unset, .unset, .unset, .unset, .unset, .unset] (hb hby d4_165) rfl rfl ?_
 refine Run.x_iload (q := 169) X4 hx (hb hby d4_167) rfl rfl ?_
 refine Run.x_ifNo (q := 172) X4 hx (hb hby d4_169) ((if0 _ _).trans (feq (by decide : ¬ ((1 : Int32) = (0 : Int32)))).1) rfl ?_
 refine Run.x_iload (q := 174) X4 hx (hb hby d4_172) rfl rfl ?_
 refine Run.x_ifNo (q := 177) X4 hx (hb hby d4_174) ((if0 _ _).trans (feq hh).1) rfl ?_
 refine Run.x_iload (q := 179) X4 hx (hb hby d4_177) rfl rfl ?_
 refine Run.x_iload (q := 181) X4 hx (hb hby d4_179) rfl rfl ?_
 refine Run.x_iconst (q := 182) X4 hx (hb hby d4_181) (z := (1 : Int32)) rfl rfl ?_
 refine Run.x_isub (q := 183) X4 hx (hb hby d4_182) rfl rfl ?_
 refine Run.x_icmpNo (q := 186) X4 hx (hb hby d4_183) (teq hlo).2 rfl ?_
 refine Run.x_iload (q := 188) X4 hx (hb hby d4_186) rfl rfl ?_
 refine Run.x_bipush (q := 190) X4 hx (hb hby d4_188) (z := (13 : Int32)) rfl rfl ?_
 refine Run.x_icmpYes (q := 216) X4 hx (hb hby d4_190) (flt (own_13 hl)).2.2.2 (by decide) (by decide) ?_
 refine Run.x_aloadN (q := 217) X4 hx (hb hby d4_216) rfl rfl rfl ?_
 refine Run.x_astore (q := 219) X4 hx #[.val (.ref this), .val (.ref cs), .val (.int av), .val (.int ev), .val (.int hi), .val (.int low), .val (.int 1), .val (.ref cs), .unset, .unset, .unset, .unset, .unset] (hb hby d4_217) rfl rfl rfl ?_
 refine Run.x_aload (q := 221) X4 hx (hb hby d4_219) rfl rfl rfl ?_
 refine Run.y_alen (q := 222) X4 hx hZ e4 A_cs (z := (1 : Int32)) (by decide) (hb hby d4_221) rfl ?_
 refine Run.x_istore (q := 224) X4 hx #[.val (.ref this), .val (.ref cs), .val (.int av), .val (.int ev), .val (.int hi), .val (.int low), .val (.int 1), .val (.ref cs), .val (.int 1), .unset, .unset, .unset, .unset] (hb hby d4_222) rfl rfl ?_
 refine Run.x_iconst (q := 225) X4 hx (hb hby d4_224) (z := (0 : Int32)) rfl rfl ?_
 refine Run.x_istore (q := 227) X4 hx #[.val (.ref this), .val (.ref cs), .val (.int av), .val (.int ev), .val (.int hi), .val (.int low), .val (.int 1), .val (.ref cs), .val (.int 1), .val (.int 0), .unset, .unset, .unset] (hb hby d4_225) rfl rfl ?_
 refine Run.x_iload (q := 229) X4 hx (hb hby d4_227) rfl rfl ?_
 refine Run.x_iload (q := 231) X4 hx (hb hby d4_229) rfl rfl ?_
 refine Run.x_icmpNo (q := 234) X4 hx (hb hby d4_231) (tlt (by decide : (0 : Int32) < (1 : Int32))).2.1 rfl ?_
 refine Run.x_aload (q := 236) X4 hx (hb hby d4_234) rfl rfl rfl ?_
 refine Run.x_iload (q := 238) X4 hx (hb hby d4_236) rfl rfl ?_
 refine Run.y_ldI (q := 239) X4 hx hZ e4 A_cs (i := 0) (v := (.int 1)) (by decide) rfl (hb hby d4_238) rfl ?_
 refine Run.x_istore (q := 241) X4 hx #[.val (.ref this), .val (.ref cs), .val (.int av), .val (.int ev), .val (.int hi), .val (.int low), .val (.int 1), .val (.ref cs), .val (.int 1), .val (.int 0), .val (.int 1), .unset, .unset] (hb hby d4_239) rfl rfl ?_
 refine Run.x_aloadN (q := 242) X4 hx (hb hby d4_241) rfl rfl rfl ?_
 replace F_this_sentTo := F_this_sentTo.other W2 (Or.inr (slot_ne (Or.inr (wm17 hw)) (Or.inl (wm40 hw)) (by decide) (t := (.array (.array .int))) (t' := .int) (by decide) (by decide)))
 refine Run.z_getF (q := 245) X4 hx hZ e4 hown (wm16 hw) F_this_sentTo (hb hby d4_242) rfl fun T5 X5 e5 => ?_
 refine Run.x_iload (q := 247) X5 hx (hb hby d4_245) rfl rfl ?_
 replace A_gr := A_gr.other W2 (Ne.symm ne_this_gr)
 refine Run.y_ldR (q := 248) X5 hx hZ e5 A_gr (i := 1) (v := (.ref r1)) (by decide) rfl rfl (hb hby d4_247) rfl ?_
 refine Run.x_astore (q := 250) X5 hx #[.val (.ref this), .val (.ref cs), .val (.int av), .val (.int ev), .val (.int hi), .val (.int low), .val (.int 1), .val (.ref cs), .val (.int 1), .val (.int 0), .val (.int 1), .val (.ref r1), .unset] (hb hby d4_248) rfl rfl rfl ?_
 refine Run.x_iloadN (q := 251) X5 hx (hb hby d4_250) rfl rfl ?_
 refine Run.x_ifNo (q := 254) X5 hx (hb hby d4_251) ((if0 _ _).trans (tlt (own_pos hav h1)).2.2.2) rfl ?_
 refine Run.x_aload (q := 256) X5 hx (hb hby d4_254) rfl rfl rfl ?_
 refine Run.x_iconst (q := 257) X5 hx (hb hby d4_256) (z := (0 : Int32)) rfl rfl ?_
 replace A_r1 := A_r1.other W2 (Ne.symm ne_this_r1)
 refine Run.y_ldI (q := 258) X5 hx hZ e5 A_r1 (i := 0) (v := (.int (f1 0))) (by decide) (own_row_at (by decide)) (hb hby d4_257) rfl ?_
 refine Run.x_ifYes (q := 269) X5 hx (hb hby d4_258) ((if0 _ _).trans (flt (own_nn h00)).2.1) (by decide) (by decide) ?_
 refine Run.x_iloadN (q := 270) X5 hx (hb hby d4_269) rfl rfl ?_
 refine Run.x_istore (q := 272) X5 hx #[.val (.ref this), .val (.ref cs), .val (.int av), .val (.int ev), .val (.int hi), .val (.int low), .val (.int 1), .val (.ref cs), .val (.int 1), .val (.int 0), .val (.int 1), .val (.ref r1), .val (.int av)] (hb hby d4_270) rfl rfl ?_
 have loop : ∀ (k : Nat) (t : Nat) (tv : Int32) (T6 : State) (h6 : Heap) (lo6 : List Loc), Stand p l e ({ frames := 1, cells := 0, slots := 0, locals := 14 } : Room) s m #[(.ref this), (.ref cs), (.int av), (.int ev), (.int hi), (.int low)] below meth c T6 lo6 0 0 → T6.heap = h6 → Fr n0 lo6 → n0 ≤ h6.size → Keep h0 h6 [this, r1] → Exa Z h6 this "semblance/JpegScans" → Fld Z h6 this "semblance/JpegScans" "progressive" "Z" (.int 1) → Fld Z h6 this "semblance/JpegScans" "components" "I" (.int 2) → Fld Z h6 this "semblance/JpegScans" "sentTo" "[[I" (.ref gr) → Fld Z h6 this "semblance/JpegScans" "count" "I" (.int (cnt + (1 : Int32))) → Fld Z h6 this "semblance/JpegScans" "sentAgain" "Z" (.int sa) → Ars Z h6 gr (.array .int) [(.ref r0), (.ref r1)] → Ars Z h6 r0 .int (own_row f0) → Ars Z h6 r1 .int (own_row (own_put f1 sA t low)) → Ars Z h6 cs .int [(.int 1)] → (tv.toInt = t) → (t + k = se + 1) → (sA ≤ t) → Run p e below s (fun v h L => ∃ b : Int32, v = some (.int b) ∧ Fr n0 L ∧ Keep h0 h [this, r1] ∧ Exa Z h this "semblance/JpegScans" ∧ Fld Z h this "semblance/JpegScans" "progressive" "Z" (.int 1) ∧ Fld Z h this "semblance/JpegScans" "components" "I" (.int 2) ∧ Fld Z h this "semblance/JpegScans" "sentTo" "[[I" (.ref gr) ∧ Fld Z h this "semblance/JpegScans" "count" "I" (.int (cnt + (1 : Int32))) ∧ Fld Z h this "semblance/JpegScans" "sentAgain" "Z" (.int sa) ∧ Ars Z h r1 .int (own_row (own_put f1 sA (se + 1) low))) ({ frames := 1, cells := 0, slots := 0, locals := 14 } : Room).cells ({ frames := 1, cells := 0, slots := 0, locals := 14 } : Room).slots (T6.setTop (mkF m 272 #[.val (.ref this), .val (.ref cs), .val (.int av), .val (.int ev), .val (.int hi), .val (.int low), .val (.int 1), .val (.ref cs), .val (.int 1), .val (.int 0), .val (.int 1), .val (.ref r1), .val (.int tv)] [])) := by
  intro k
  induction k with
  | zero =>
   intro t tv T6 h6 lo6 X6 e6 N6 Z6 KP Ethis_6 Fprogressive_6 Fcomponents_6 FsentTo_6 Fcount_6 FsentAgain_6 Agr_6 Ar0_6 Ar1_6 Acs_6 htv hk hst
   have e9 : t = se + 1 := by omega
   subst e9
   refine Run.x_iload (q := 274) X6 hx (hb hby d4_272) rfl rfl ?_
   refine Run.x_iloadN (q := 275) X6 hx (hb hby d4_274) rfl rfl ?_
   refine Run.x_icmpYes (q := 314) X6 hx (hb hby d4_275) (tlt (by rw [lt32]; omega)).2.2.1 (by decide) (by decide) ?_
   refine Run.x_iinc (q := 317) X6 hx #[.val (.ref this), .val (.ref cs), .val (.int av), .val (.int ev), .val (.int hi), .val (.int low), .val (.int 1), .val (.ref cs), .val (.int 1), .val (.int 1), .val (.int 1), .val (.ref r1), .val (.int tv)] (hb hby d4_314) rfl (z := (1 : Int32)) (by decide) rfl rfl ?_
   refine Run.x_goto (q := 227) X6 hx (hb hby d4_317) (by decide) (by decide) ?_
   refine Run.x_iload (q := 229) X6 hx (hb hby d4_227) rfl rfl ?_
   refine Run.x_iload (q := 231) X6 hx (hb hby d4_229) rfl rfl ?_
   refine Run.x_icmpYes (q := 320) X6 hx (hb hby d4_231) (flt (by decide : ¬ ((1 : Int32) < (1 : Int32)))).2.1 (by decide) (by decide) ?_
   refine Run.x_iconst (q := 321) X6 hx (hb hby d4_320) (z := (1 : Int32)) rfl rfl ?_
   refine Run.retN X6 hx hlk e6 (t := .boolean) hret (by simp) (z' := (1 : Int32)) (by decide) (hb hby d4_321) (by decide) (by decide) ?_
   exact ⟨_, rfl, N6, KP, Ethis_6, Fprogressive_6, Fcomponents_6, FsentTo_6, Fcount_6, FsentAgain_6, Ar1_6⟩
  | succ k ih =>
   intro t tv T6 h6 lo6 X6 e6 N6 Z6 KP Ethis_6 Fprogressive_6 Fcomponents_6 FsentTo_6 Fcount_6 FsentAgain_6 Agr_6 Ar0_6 Ar1_6 Acs_6 htv hk hst
   refine Run.x_iload (q := 274) X6 hx (hb hby d4_272) rfl rfl ?_
   refine Run.x_iloadN (q := 275) X6 hx (hb hby d4_274) rfl rfl ?_
   refine Run.x_icmpNo (q := 278) X6 hx (hb hby d4_275) (flt (by rw [lt32]; omega)).2.2.1 rfl ?_
   refine Run.x_iload (q := 280) X6 hx (hb hby d4_278) rfl rfl ?_
   refine Run.x_aload (q := 282) X6 hx (hb hby d4_280) rfl rfl rfl ?_
   refine Run.x_iload (q := 284) X6 hx (hb hby d4_282) rfl rfl ?_
   refine Run.y_ldI (q := 285) X6 hx hZ e6 Ar1_6 (i := t) (v := (.int (f1 t))) htv (own_put_at (by omega)) (hb hby d4_284) rfl ?_
   refine Run.x_iconst (q := 286) X6 hx (hb hby d4_285) (z := (0 : Int32)) rfl rfl ?_
   refine Run.callSI (q := 289) X6 hx hZ e6 (y := (⟨"java/lang/Math", "max", "(II)I"⟩ : MethodName)) hown (wm41 hw) (wm42 hw) (wm43 hw) (wm44 hw) (by decide) (argsL := [(.int (f1 t)), (.int 0)]) (rest := [(.int hi)]) (c_max l Z a0 hw (f1 t) (0 : Int32) h6 n0 Z6 hi (hmx t (by omega) (by omega))) pd_1 rfl (by rw [hml]; rfl) (W := 1) rfl (by decide) (by decide) (by decide) (by decide) (hb hby d4_286) rfl rfl fun T7 L7 X7 M7 e7 => ?_
   have N7 := Fr.app N6 M7
   refine Run.x_icmpYes (q := 301) X7 hx (hb hby d4_289) (teq rfl).1 (by decide) (by decide) ?_
   refine Run.x_aload (q := 303) X7 hx (hb hby d4_301) rfl rfl rfl ?_
   refine Run.x_iload (q := 305) X7 hx (hb hby d4_303) rfl rfl ?_
   refine Run.x_iload (q := 307) X7 hx (hb hby d4_305) rfl rfl ?_
   refine Run.y_stI (q := 308) X7 hx hZ e7 Ar1_6 (i := t) htv (by rw [own_row_len]; omega) (hb hby d4_307) rfl fun T8 h8 X8 e8 W8 A8 => ?_
   replace Ar1_6 : Ars Z h8 r1 .int ((own_row (own_put f1 sA t low)).set t (Value.int low)) := A8
   replace KP := KP.wr W8 (Or.inl (by simp))
   have N8 := Fr.snoc X8 N7 g_r1
   have Z8 : n0 ≤ h8.size := Nat.le_trans Z6 (Nat.le_of_eq W8.size.symm)
   refine Run.x_iinc (q := 311) X8 hx #[.val (.ref this), .val (.ref cs), .val (.int av), .val (.int ev), .val (.int hi), .val (.int low), .val (.int 1), .val (.ref cs), .val (.int 1), .val (.int 0), .val (.int 1), .val (.ref r1), .val (.int (tv + (1 : Int32)))] (hb hby d4_308) rfl (z := (tv + (1 : Int32))) rfl rfl rfl ?_
   refine Run.x_goto (q := 272) X8 hx (hb hby d4_311) (by decide) (by decide) ?_
   replace Ethis_6 := Ethis_6.wr W8
   replace Fprogressive_6 := Fprogressive_6.other W8 (Or.inl ne_this_r1)
   replace Fcomponents_6 := Fcomponents_6.other W8 (Or.inl ne_this_r1)
   replace FsentTo_6 := FsentTo_6.other W8 (Or.inl ne_this_r1)
   replace Fcount_6 := Fcount_6.other W8 (Or.inl ne_this_r1)
   replace FsentAgain_6 := FsentAgain_6.other W8 (Or.inl ne_this_r1)
   replace Agr_6 := Agr_6.other W8 ne_gr_r1
   replace Ar0_6 := Ar0_6.other W8 ne_r0_r1
   replace Acs_6 := Acs_6.other W8 (Ne.symm ne_r1_cs)
   exact ih (t + 1) _ T8 h8 _ X8 e8 N8 Z8 KP Ethis_6 Fprogressive_6 Fcomponents_6 FsentTo_6 Fcount_6 FsentAgain_6 Agr_6 Ar0_6 (by rw [← own_put_set (by omega) hst]; exact Ar1_6) Acs_6 (own_ofn htv (by omega)) (by omega) (by omega)
 replace E_this := E_this.wr W2
 replace F_this_components := F_this_components.other W2 (Or.inr (slot_ne (Or.inr (wm12 hw)) (Or.inl (wm40 hw)) (by decide) (t := .int) (t' := .int) (by decide) (by decide)))
 replace F_this_sentAgain := F_this_sentAgain.other W2 (Or.inr (slot_ne (Or.inl (wm32 hw)) (Or.inl (wm40 hw)) (by decide) (t := .boolean) (t' := .int) (by decide) (by decide)))
 replace A_r0 := A_r0.other W2 (Ne.symm ne_this_r0)
 exact loop (se + 1 - sA) sA _ T5 h2 _ X5 e5 N2 Z2 KP E_this F_this_progressive F_this_components F_this_sentTo F_this_count F_this_sentAgain A_gr A_r0 (by rw [own_put_nil]; exact A_r1) A_cs hav (by omega) (Nat.le_refl _)
theorem d5_0 : decode method_6_code 0 = .ok (.iconst 1, 1) := by decide +kernel
theorem d5_1 : decode method_6_code 1 = .ok (.iload_n 0, 1) := by decide +kernel
theorem d5_2 : decode method_6_code 2 = .ok (.bipush 63, 2) := by decide +kernel
theorem d5_4 : decode method_6_code 4 = .ok (.iand, 1) := by decide +kernel
theorem d5_5 : decode method_6_code 5 = .ok (.bipush 63, 2) := by decide +kernel
theorem d5_7 : decode method_6_code 7 = .ok (.irem, 1) := by decide +kernel
theorem d5_8 : decode method_6_code 8 = .ok (.iadd, 1) := by decide +kernel
theorem d5_9 : decode method_6_code 9 = .ok (.ireturn, 1) := by decide +kernel
theorem pn_2 : plainName "semblance/JpegScansCompletePinLaw" = true := by first | (simp [plainName, overriddenIn]; done) | decide +kernel
theorem ef_c_endm (m : MethodId) (c0 : Int32) : entryFrame m #[(.int c0)] 1 = mkF m 0 #[.val (.int c0)] [] := by first | (simp [entryFrame, mkF, argsToLocals, Value.category]; done) | rfl
set_option maxRecDepth 65536 in
set_option maxHeartbeats 40000000 in
theorem c_endm (l : Launch) (Z : State) (a0 : Array Value) (hw : ∀ d ∈ tables_1, d.before a0 Z = true) (c0 : Int32) (h0 : Heap) (n0 : Nat) (Z0 : n0 ≤ h0.size) (z : Int32) (hz : own_e c0 = z) :
  Ctr l Z (⟨"semblance/JpegScansCompletePinLaw", "end", "(I)I"⟩ : MethodName) method_6_code 1 (some .int) ({ frames := 0, cells := 0, slots := 0, locals := 0 } : Room) #[(.int c0)] h0 (PureI h0 n0 z) := by
 refine Ctr.of (plainFor_of_name pn_2) (fun m => ef_c_endm m c0) ?_
 intro p e s m below meth c T0 hx hby hml hown hnm hret hlk hZ e0 X0
 have N0 := Fr.nil n0
 replace hown : s.vm.findClass "semblance/JpegScansCompletePinLaw" = some m.cls := hown
 replace hml : c.maxLocals = 1 := hml
 refine Run.x_iconst (q := 1) X0 hx (hb hby d5_0) (z := (1 : Int32)) rfl rfl ?_
 refine Run.x_iloadN (q := 2) X0 hx (hb hby d5_1) rfl rfl ?_
 refine Run.x_bipush (q := 4) X0 hx (hb hby d5_2) (z := (63 : Int32)) rfl rfl ?_
 refine Run.x_iand (q := 5) X0 hx (hb hby d5_4) rfl rfl ?_
 refine Run.x_bipush (q := 7) X0 hx (hb hby d5_5) (z := (63 : Int32)) rfl rfl ?_
 refine Run.x_irem (q := 8) X0 hx (hb hby d5_7) (by decide) rfl rfl ?_
 refine Run.x_iadd (q := 9) X0 hx (hb hby d5_8) rfl rfl ?_
 refine Run.retI X0 hx hlk e0 hret (hb hby d5_9) (by decide) (by decide) ?_
 exact PureI.mk (by exact hz) N0
theorem d6_0 : decode method_7_code 0 = .ok (.iload_n 0, 1) := by decide +kernel
theorem d6_1 : decode method_7_code 1 = .ok (.bipush 6, 2) := by decide +kernel
theorem d6_3 : decode method_7_code 3 = .ok (.iushr, 1) := by decide +kernel
theorem d6_4 : decode method_7_code 4 = .ok (.ldc 43, 2) := by decide +kernel
theorem d6_6 : decode method_7_code 6 = .ok (.iand, 1) := by decide +kernel
theorem d6_7 : decode method_7_code 7 = .ok (.bipush 14, 2) := by decide +kernel
theorem d6_9 : decode method_7_code 9 = .ok (.irem, 1) := by decide +kernel
theorem d6_10 : decode method_7_code 10 = .ok (.ireturn, 1) := by decide +kernel
theorem ef_c_bitA (m : MethodId) (c0 : Int32) : entryFrame m #[(.int c0)] 1 = mkF m 0 #[.val (.int c0)] [] := by first | (simp [entryFrame, mkF, argsToLocals, Value.category]; done) | rfl
theorem wm54 {a0 : Array Value} {Z : State} (hw : ∀ d ∈ tables_1, d.before a0 Z = true) : (Jvm.Cond.constant "semblance/JpegScansCompletePinLaw" (43 : Nat) (65535 : Int32)).before a0 Z = true := hw _ (List.mem_of_getElem? (i := 54) rfl)
set_option maxRecDepth 65536 in
set_option maxHeartbeats 40000000 in
theorem c_bitA (l : Launch) (Z : State) (a0 : Array Value) (hw : ∀ d ∈ tables_1, d.before a0 Z = true) (c0 : Int32) (h0 : Heap) (n0 : Nat) (Z0 : n0 ≤ h0.size) (z : Int32) (hz : own_A c0 = z) :
  Ctr l Z (⟨"semblance/JpegScansCompletePinLaw", "bitA", "(I)I"⟩ : MethodName) method_7_code 1 (some .int) ({ frames := 0, cells := 0, slots := 0, locals := 0 } : Room) #[(.int c0)] h0 (PureI h0 n0 z) := by
 refine Ctr.of (plainFor_of_name pn_2) (fun m => ef_c_bitA m c0) ?_
 intro p e s m below meth c T0 hx hby hml hown hnm hret hlk hZ e0 X0
 have N0 := Fr.nil n0
 replace hown : s.vm.findClass "semblance/JpegScansCompletePinLaw" = some m.cls := hown
 replace hml : c.maxLocals = 1 := hml
 refine Run.x_iloadN (q := 1) X0 hx (hb hby d6_0) rfl rfl ?_
 refine Run.x_bipush (q := 3) X0 hx (hb hby d6_1) (z := (6 : Int32)) rfl rfl ?_
 refine Run.x_iushr (q := 4) X0 hx (hb hby d6_3) rfl rfl ?_
 refine Run.st (B := T0.setTop (mkF m 6 #[.val (.int c0)] [(.int 65535), (.int ((c0.toUInt32 >>> ((6 : Int32) &&& 31).toUInt32).toInt32))])) (fun t kt => X0.ldcInt hx hown (mvT hZ (wm54 hw)) (g := (mkF m 4 #[.val (.int c0)] [(.int ((c0.toUInt32 >>> ((6 : Int32) &&& 31).toUInt32).toInt32))])) rfl (hb hby d6_4) _ kt) ?_
 refine Run.x_iand (q := 7) X0 hx (hb hby d6_6) rfl rfl ?_
 refine Run.x_bipush (q := 9) X0 hx (hb hby d6_7) (z := (14 : Int32)) rfl rfl ?_
 refine Run.x_irem (q := 10) X0 hx (hb hby d6_9) (by decide) rfl rfl ?_
 refine Run.retI X0 hx hlk e0 hret (hb hby d6_10) (by decide) (by decide) ?_
 exact PureI.mk (by exact hz) N0
theorem d7_0 : decode method_8_code 0 = .ok (.iload_n 0, 1) := by decide +kernel
theorem d7_1 : decode method_8_code 1 = .ok (.bipush 22, 2) := by decide +kernel
theorem d7_3 : decode method_8_code 3 = .ok (.iushr, 1) := by decide +kernel
theorem d7_4 : decode method_8_code 4 = .ok (.sipush 1023, 3) := by decide +kernel
theorem d7_7 : decode method_8_code 7 = .ok (.iand, 1) := by decide +kernel
theorem d7_8 : decode method_8_code 8 = .ok (.bipush 14, 2) := by decide +kernel
theorem d7_10 : decode method_8_code 10 = .ok (.irem, 1) := by decide +kernel
theorem d7_11 : decode method_8_code 11 = .ok (.ireturn, 1) := by decide +kernel
theorem ef_c_bitB (m : MethodId) (c0 : Int32) : entryFrame m #[(.int c0)] 1 = mkF m 0 #[.val (.int c0)] [] := by first | (simp [entryFrame, mkF, argsToLocals, Value.category]; done) | rfl
set_option maxRecDepth 65536 in
set_option maxHeartbeats 40000000 in
theorem c_bitB (l : Launch) (Z : State) (a0 : Array Value) (hw : ∀ d ∈ tables_1, d.before a0 Z = true) (c0 : Int32) (h0 : Heap) (n0 : Nat) (Z0 : n0 ≤ h0.size) (z : Int32) (hz : own_B c0 = z) :
  Ctr l Z (⟨"semblance/JpegScansCompletePinLaw", "bitB", "(I)I"⟩ : MethodName) method_8_code 1 (some .int) ({ frames := 0, cells := 0, slots := 0, locals := 0 } : Room) #[(.int c0)] h0 (PureI h0 n0 z) := by
 refine Ctr.of (plainFor_of_name pn_2) (fun m => ef_c_bitB m c0) ?_
 intro p e s m below meth c T0 hx hby hml hown hnm hret hlk hZ e0 X0
 have N0 := Fr.nil n0
 replace hown : s.vm.findClass "semblance/JpegScansCompletePinLaw" = some m.cls := hown
 replace hml : c.maxLocals = 1 := hml
 refine Run.x_iloadN (q := 1) X0 hx (hb hby d7_0) rfl rfl ?_
 refine Run.x_bipush (q := 3) X0 hx (hb hby d7_1) (z := (22 : Int32)) rfl rfl ?_
 refine Run.x_iushr (q := 4) X0 hx (hb hby d7_3) rfl rfl ?_
 refine Run.x_sipush (q := 7) X0 hx (hb hby d7_4) (z := (1023 : Int32)) rfl rfl ?_
 refine Run.x_iand (q := 8) X0 hx (hb hby d7_7) rfl rfl ?_
 refine Run.x_bipush (q := 10) X0 hx (hb hby d7_8) (z := (14 : Int32)) rfl rfl ?_
 refine Run.x_irem (q := 11) X0 hx (hb hby d7_10) (by decide) rfl rfl ?_
 refine Run.retI X0 hx hlk e0 hret (hb hby d7_11) (by decide) (by decide) ?_
 exact PureI.mk (by exact hz) N0
theorem own_cle {c : Int32} {m m' : Int} (h : 0 ≤ c.toInt ∧ c.toInt ≤ m) (q : m ≤ m') : 0 ≤ c.toInt ∧ c.toInt ≤ m' := ⟨h.1, Int.le_trans h.2 q⟩
theorem own_e63 {e : Int32} {E : Nat} (h : e.toInt = E) (q : e < (63 : Int32)) : E + 1 ≤ 63 := by
 rw [lt32] at q
 have e1 : (63 : Int32).toInt = 63 := rfl
 omega
theorem d8_0 : decode method_9_code 0 = .ok (.iload_n 2, 1) := by decide +kernel
theorem d8_1 : decode method_9_code 1 = .ok (.invokestatic 44, 3) := by decide +kernel
theorem d8_4 : decode method_9_code 4 = .ok (.istore 5, 2) := by decide +kernel
theorem d8_6 : decode method_9_code 6 = .ok (.iload_n 2, 1) := by decide +kernel
theorem d8_7 : decode method_9_code 7 = .ok (.invokestatic 48, 3) := by decide +kernel
theorem d8_10 : decode method_9_code 10 = .ok (.istore 6, 2) := by decide +kernel
theorem d8_12 : decode method_9_code 12 = .ok (.iload_n 2, 1) := by decide +kernel
theorem d8_13 : decode method_9_code 13 = .ok (.invokestatic 51, 3) := by decide +kernel
theorem d8_16 : decode method_9_code 16 = .ok (.istore 7, 2) := by decide +kernel
theorem d8_18 : decode method_9_code 18 = .ok (.aload_n 0, 1) := by decide +kernel
theorem d8_19 : decode method_9_code 19 = .ok (.aload_n 1, 1) := by decide +kernel
theorem d8_20 : decode method_9_code 20 = .ok (.iconst 1, 1) := by decide +kernel
theorem d8_21 : decode method_9_code 21 = .ok (.iload 5, 2) := by decide +kernel
theorem d8_23 : decode method_9_code 23 = .ok (.iconst 0, 1) := by decide +kernel
theorem d8_24 : decode method_9_code 24 = .ok (.iload 6, 2) := by decide +kernel
theorem d8_26 : decode method_9_code 26 = .ok (.invokevirtual 18, 3) := by decide +kernel
theorem d8_29 : decode method_9_code 29 = .ok (.pop, 1) := by decide +kernel
theorem d8_30 : decode method_9_code 30 = .ok (.iload_n 3, 1) := by decide +kernel
theorem d8_31 : decode method_9_code 31 = .ok (.ifCond .eq 24, 3) := by decide +kernel
theorem d8_34 : decode method_9_code 34 = .ok (.iload 6, 2) := by decide +kernel
theorem d8_36 : decode method_9_code 36 = .ok (.iconst 1, 1) := by decide +kernel
theorem d8_37 : decode method_9_code 37 = .ok (.if_icmp .lt 18, 3) := by decide +kernel
theorem d8_40 : decode method_9_code 40 = .ok (.aload_n 0, 1) := by decide +kernel
theorem d8_41 : decode method_9_code 41 = .ok (.aload_n 1, 1) := by decide +kernel
theorem d8_42 : decode method_9_code 42 = .ok (.iconst 1, 1) := by decide +kernel
theorem d8_43 : decode method_9_code 43 = .ok (.iload 5, 2) := by decide +kernel
theorem d8_45 : decode method_9_code 45 = .ok (.iload 6, 2) := by decide +kernel
theorem d8_47 : decode method_9_code 47 = .ok (.iload 6, 2) := by decide +kernel
theorem d8_49 : decode method_9_code 49 = .ok (.iconst 1, 1) := by decide +kernel
theorem d8_50 : decode method_9_code 50 = .ok (.isub, 1) := by decide +kernel
theorem d8_51 : decode method_9_code 51 = .ok (.invokevirtual 18, 3) := by decide +kernel
theorem d8_54 : decode method_9_code 54 = .ok (.pop, 1) := by decide +kernel
theorem d8_55 : decode method_9_code 55 = .ok (.iload 4, 2) := by decide +kernel
theorem d8_57 : decode method_9_code 57 = .ok (.ifCond .eq 25, 3) := by decide +kernel
theorem d8_60 : decode method_9_code 60 = .ok (.iload 5, 2) := by decide +kernel
theorem d8_62 : decode method_9_code 62 = .ok (.bipush 63, 2) := by decide +kernel
theorem d8_64 : decode method_9_code 64 = .ok (.if_icmp .ge 18, 3) := by decide +kernel
theorem d8_67 : decode method_9_code 67 = .ok (.aload_n 0, 1) := by decide +kernel
theorem d8_68 : decode method_9_code 68 = .ok (.aload_n 1, 1) := by decide +kernel
theorem d8_69 : decode method_9_code 69 = .ok (.iload 5, 2) := by decide +kernel
theorem d8_71 : decode method_9_code 71 = .ok (.iconst 1, 1) := by decide +kernel
theorem d8_72 : decode method_9_code 72 = .ok (.iadd, 1) := by decide +kernel
theorem d8_73 : decode method_9_code 73 = .ok (.bipush 63, 2) := by decide +kernel
theorem d8_75 : decode method_9_code 75 = .ok (.iconst 0, 1) := by decide +kernel
theorem d8_76 : decode method_9_code 76 = .ok (.iload 7, 2) := by decide +kernel
theorem d8_78 : decode method_9_code 78 = .ok (.invokevirtual 18, 3) := by decide +kernel
theorem d8_81 : decode method_9_code 81 = .ok (.pop, 1) := by decide +kernel
theorem d8_82 : decode method_9_code 82 = .ok (.return_, 1) := by decide +kernel
theorem ef_c_send_1_0 (m : MethodId) (this : Addr) (cs : Addr) (comp : Int32) (ra : Int32) (tb : Int32) : entryFrame m #[(.ref this), (.ref cs), (.int comp), (.int ra), (.int tb)] 8 = mkF m 0 #[.val (.ref this), .val (.ref cs), .val (.int comp), .val (.int ra), .val (.int tb), .unset, .unset, .unset] [] := by first | (simp [entryFrame, mkF, argsToLocals, Value.category]; done) | rfl
theorem wm48 {a0 : Array Value} {Z : State} (hw : ∀ d ∈ tables_1, d.before a0 Z = true) : (Jvm.Cond.methodLink "semblance/JpegScansCompletePinLaw" (44 : Nat) ({ cls := "semblance/JpegScansCompletePinLaw", name := "end", desc := "(I)I" } : Jvm.MethodName)).before a0 Z = true := hw _ (List.mem_of_getElem? (i := 48) rfl)
theorem wm50 {a0 : Array Value} {Z : State} (hw : ∀ d ∈ tables_1, d.before a0 Z = true) : (Jvm.Cond.code ({ cls := "semblance/JpegScansCompletePinLaw", name := "end", desc := "(I)I" } : Jvm.MethodName) method_6_code (1 : Nat) (Option.some Jvm.ClassFile.FieldType.int)).before a0 Z = true := hw _ (List.mem_of_getElem? (i := 50) rfl)
theorem pd_2 : parseMethodDescriptor "(I)I" = some ⟨[.int], some .int⟩ := by decide +kernel
theorem wm49 {a0 : Array Value} {Z : State} (hw : ∀ d ∈ tables_1, d.before a0 Z = true) : (Jvm.Cond.static ({ cls := "semblance/JpegScansCompletePinLaw", name := "end", desc := "(I)I" } : Jvm.MethodName)).before a0 Z = true := hw _ (List.mem_of_getElem? (i := 49) rfl)
theorem wm24 {a0 : Array Value} {Z : State} (hw : ∀ d ∈ tables_1, d.before a0 Z = true) : (Jvm.Cond.initialized "semblance/JpegScansCompletePinLaw").before a0 Z = true := hw _ (List.mem_of_getElem? (i := 24) rfl)
theorem wm51 {a0 : Array Value} {Z : State} (hw : ∀ d ∈ tables_1, d.before a0 Z = true) : (Jvm.Cond.methodLink "semblance/JpegScansCompletePinLaw" (48 : Nat) ({ cls := "semblance/JpegScansCompletePinLaw", name := "bitA", desc := "(I)I" } : Jvm.MethodName)).before a0 Z = true := hw _ (List.mem_of_getElem? (i := 51) rfl)
theorem wm53 {a0 : Array Value} {Z : State} (hw : ∀ d ∈ tables_1, d.before a0 Z = true) : (Jvm.Cond.code ({ cls := "semblance/JpegScansCompletePinLaw", name := "bitA", desc := "(I)I" } : Jvm.MethodName) method_7_code (1 : Nat) (Option.some Jvm.ClassFile.FieldType.int)).before a0 Z = true := hw _ (List.mem_of_getElem? (i := 53) rfl)
theorem wm52 {a0 : Array Value} {Z : State} (hw : ∀ d ∈ tables_1, d.before a0 Z = true) : (Jvm.Cond.static ({ cls := "semblance/JpegScansCompletePinLaw", name := "bitA", desc := "(I)I" } : Jvm.MethodName)).before a0 Z = true := hw _ (List.mem_of_getElem? (i := 52) rfl)
theorem wm55 {a0 : Array Value} {Z : State} (hw : ∀ d ∈ tables_1, d.before a0 Z = true) : (Jvm.Cond.methodLink "semblance/JpegScansCompletePinLaw" (51 : Nat) ({ cls := "semblance/JpegScansCompletePinLaw", name := "bitB", desc := "(I)I" } : Jvm.MethodName)).before a0 Z = true := hw _ (List.mem_of_getElem? (i := 55) rfl)
theorem wm57 {a0 : Array Value} {Z : State} (hw : ∀ d ∈ tables_1, d.before a0 Z = true) : (Jvm.Cond.code ({ cls := "semblance/JpegScansCompletePinLaw", name := "bitB", desc := "(I)I" } : Jvm.MethodName) method_8_code (1 : Nat) (Option.some Jvm.ClassFile.FieldType.int)).before a0 Z = true := hw _ (List.mem_of_getElem? (i := 57) rfl)
theorem wm56 {a0 : Array Value} {Z : State} (hw : ∀ d ∈ tables_1, d.before a0 Z = true) : (Jvm.Cond.static ({ cls := "semblance/JpegScansCompletePinLaw", name := "bitB", desc := "(I)I" } : Jvm.MethodName)).before a0 Z = true := hw _ (List.mem_of_getElem? (i := 56) rfl)
theorem wm34 {a0 : Array Value} {Z : State} (hw : ∀ d ∈ tables_1, d.before a0 Z = true) : (Jvm.Cond.methodLink "semblance/JpegScansCompletePinLaw" (18 : Nat) ({ cls := "semblance/JpegScans", name := "take", desc := "([IIIII)Z" } : Jvm.MethodName)).before a0 Z = true := hw _ (List.mem_of_getElem? (i := 34) rfl)
theorem wm38 {a0 : Array Value} {Z : State} (hw : ∀ d ∈ tables_1, d.before a0 Z = true) : (Jvm.Cond.code ({ cls := "semblance/JpegScans", name := "take", desc := "([IIIII)Z" } : Jvm.MethodName) prog_41_method_2_code (13 : Nat) (Option.some Jvm.ClassFile.FieldType.boolean)).before a0 Z = true := hw _ (List.mem_of_getElem? (i := 38) rfl)
theorem pd_3 : parseMethodDescriptor "([IIIII)Z" = some ⟨[(.array .int), .int, .int, .int, .int], some .boolean⟩ := by decide +kernel
theorem wm37 {a0 : Array Value} {Z : State} (hw : ∀ d ∈ tables_1, d.before a0 Z = true) : (Jvm.Cond.selects "semblance/JpegScans" ({ cls := "semblance/JpegScans", name := "take", desc := "([IIIII)Z" } : Jvm.MethodName) ({ cls := "semblance/JpegScans", name := "take", desc := "([IIIII)Z" } : Jvm.MethodName)).before a0 Z = true := hw _ (List.mem_of_getElem? (i := 37) rfl)
theorem wm35 {a0 : Array Value} {Z : State} (hw : ∀ d ∈ tables_1, d.before a0 Z = true) : (Jvm.Cond.declares ({ cls := "semblance/JpegScans", name := "take", desc := "([IIIII)Z" } : Jvm.MethodName)).before a0 Z = true := hw _ (List.mem_of_getElem? (i := 35) rfl)
theorem wm36 {a0 : Array Value} {Z : State} (hw : ∀ d ∈ tables_1, d.before a0 Z = true) : (Jvm.Cond.instanceMethod ({ cls := "semblance/JpegScans", name := "take", desc := "([IIIII)Z" } : Jvm.MethodName)).before a0 Z = true := hw _ (List.mem_of_getElem? (i := 36) rfl)
theorem wm2 {a0 : Array Value} {Z : State} (hw : ∀ d ∈ tables_1, d.before a0 Z = true) : (Jvm.Cond.initialized "semblance/JpegScans").before a0 Z = true := hw _ (List.mem_of_getElem? (i := 2) rfl)
set_option maxRecDepth 65536 in
set_option maxHeartbeats 40000000 in
theorem c_send_1_0 (l : Launch) (Z : State) (a0 : Array Value) (hw : ∀ d ∈ tables_1, d.before a0 Z = true) (this : Addr) (cs : Addr) (comp : Int32) (ra : Int32) (tb : Int32) (h0 : Heap) (n0 : Nat) (Z0 : n0 ≤ h0.size) (gr : Addr) (r0 : Addr) (cnt : Int32) (sa : Int32) (f0 : Nat → Int32) (ee : Int32) (bA : Int32) (bB : Int32) (E : Nat) (E_this : Exa Z h0 this "semblance/JpegScans") (F_this_progressive : Fld Z h0 this "semblance/JpegScans" "progressive" "Z" (.int 1)) (F_this_components : Fld Z h0 this "semblance/JpegScans" "components" "I" (.int 1)) (F_this_sentTo : Fld Z h0 this "semblance/JpegScans" "sentTo" "[[I" (.ref gr)) (F_this_count : Fld Z h0 this "semblance/JpegScans" "count" "I" (.int cnt)) (F_this_sentAgain : Fld Z h0 this "semblance/JpegScans" "sentAgain" "Z" (.int sa)) (A_gr : Ars Z h0 gr (.array .int) [(.ref r0)]) (A_r0 : Ars Z h0 r0 .int (own_row f0)) (A_cs : Ars Z h0 cs .int [(.int 0)]) (g_this : n0 ≤ this) (g_r0 : n0 ≤ r0) (ne_this_gr : this ≠ gr) (ne_this_r0 : this ≠ r0) (ne_this_cs : this ≠ cs) (ne_gr_r0 : gr ≠ r0) (ne_gr_cs : gr ≠ cs) (ne_r0_cs : r0 ≠ cs) (hcnt : 0 ≤ cnt.toInt ∧ cnt.toInt ≤ 4) (hee : own_e comp = ee) (hbA : own_A comp = bA) (hbB : own_B comp = bB) (hE : ee.toInt = E) (hE1 : 1 ≤ E) (hE2 : E ≤ 63) (h00 : 0 ≤ (f0 0).toInt) (hm1 : ∀ i, 1 ≤ i → i < 64 → f0 i = -1) :
  Ctr l Z (⟨"semblance/JpegScansCompletePinLaw", "send", "(Lsemblance/JpegScans;[IIZZ)V"⟩ : MethodName) method_9_code 8 none ({ frames := 2, cells := 0, slots := 0, locals := 38 } : Room) #[(.ref this), (.ref cs), (.int comp), (.int ra), (.int tb)] h0 (fun v h L => ∃ (g : Nat → Int32) (ct : Int32), v = none ∧ Fr n0 L ∧ Keep h0 h [this, r0] ∧ (0 ≤ ct.toInt ∧ ct.toInt ≤ 7) ∧ g 0 = f0 0 ∧ (∀ i, 1 ≤ i → i ≤ E → g i = own_AA ra bA) ∧ (∀ i, E < i → i < 64 → g i = own_BB tb ee bB) ∧ Exa Z h this "semblance/JpegScans" ∧ Fld Z h this "semblance/JpegScans" "progressive" "Z" (.int 1) ∧ Fld Z h this "semblance/JpegScans" "components" "I" (.int 1) ∧ Fld Z h this "semblance/JpegScans" "sentTo" "[[I" (.ref gr) ∧ Fld Z h this "semblance/JpegScans" "count" "I" (.int ct) ∧ Fld Z h this "semblance/JpegScans" "sentAgain" "Z" (.int sa) ∧ Ars Z h r0 .int (own_row g)) := by
 refine Ctr.of (plainFor_of_name pn_2) (fun m => ef_c_send_1_0 m this cs comp ra tb) ?_
 intro p e s m below meth c T0 hx hby hml hown hnm hret hlk hZ e0 X0
 have N0 := Fr.nil n0
 replace hown : s.vm.findClass "semblance/JpegScansCompletePinLaw" = some m.cls := hown
 replace hml : c.maxLocals = 8 := hml
 have KP := Keep.refl h0 [this, r0]
 have rA := own_A_rg hbA
 have rB := own_B_rg hbB
 have hc12 : 0 ≤ (cnt + (1 : Int32)).toInt ∧ (cnt + (1 : Int32)).toInt ≤ 5 := own_cle (own_c1 hcnt (by decide)) (by decide)
 refine Run.x_iloadN (q := 1) X0 hx (hb hby d8_0) rfl rfl ?_
 refine Run.callSI (q := 4) X0 hx hZ e0 (y := (⟨"semblance/JpegScansCompletePinLaw", "end", "(I)I"⟩ : MethodName)) hown (wm48 hw) (wm49 hw) (wm24 hw) (wm50 hw) (by decide) (argsL := [(.int comp)]) (rest := []) (c_endm l Z a0 hw comp h0 n0 Z0 ee hee) pd_2 rfl (by rw [hml]; rfl) (W := 0) rfl (by decide) (by decide) (by decide) (by decide) (hb hby d8_1) rfl rfl fun T1 L1 X1 M1 e1 => ?_
 have N1 := Fr.app N0 M1
 refine Run.x_istore (q := 6) X1 hx #[.val (.ref this), .val (.ref cs), .val (.int comp), .val (.int ra), .val (.int tb), .val (.int ee), .unset, .unset] (hb hby d8_4) rfl rfl ?_
 refine Run.x_iloadN (q := 7) X1 hx (hb hby d8_6) rfl rfl ?_
 refine Run.callSI (q := 10) X1 hx hZ e1 (y := (⟨"semblance/JpegScansCompletePinLaw", "bitA", "(I)I"⟩ : MethodName)) hown (wm51 hw) (wm52 hw) (wm24 hw) (wm53 hw) (by decide) (argsL := [(.int comp)]) (rest := []) (c_bitA l Z a0 hw comp h0 n0 Z0 bA hbA) pd_2 rfl (by rw [hml]; rfl) (W := 0) rfl (by decide) (by decide) (by decide) (by decide) (hb hby d8_7) rfl rfl fun T2 L2 X2 M2 e2 => ?_
 have N2 := Fr.app N1 M2
 refine Run.x_istore (q := 12) X2 hx #[.val (.ref this), .val (.ref cs), .val (.int comp), .val (.int ra), .val (.int tb), .val (.int ee), .val (.int bA), .unset] (hb hby d8_10) rfl rfl ?_
 refine Run.x_iloadN (q := 13) X2 hx (hb hby d8_12) rfl rfl ?_
 refine Run.callSI (q := 16) X2 hx hZ e2 (y := (⟨"semblance/JpegScansCompletePinLaw", "bitB", "(I)I"⟩ : MethodName)) hown (wm55 hw) (wm56 hw) (wm24 hw) (wm57 hw) (by decide) (argsL := [(.int comp)]) (rest := []) (c_bitB l Z a0 hw comp h0 n0 Z0 bB hbB) pd_2 rfl (by rw [hml]; rfl) (W := 0) rfl (by decide) (by decide) (by decide) (by decide) (hb hby d8_13) rfl rfl fun T3 L3 X3 M3 e3 => ?_
 have N3 := Fr.app N2 M3
 refine Run.x_istore (q := 18) X3 hx #[.val (.ref this), .val (.ref cs), .val (.int comp), .val (.int ra), .val (.int tb), .val (.int ee), .val (.int bA), .val (.int bB)] (hb hby d8_16) rfl rfl ?_
 refine Run.x_aloadN (q := 19) X3 hx (hb hby d8_18) rfl rfl rfl ?_
 refine Run.x_aloadN (q := 20) X3 hx (hb hby d8_19) rfl rfl rfl ?_
 refine Run.x_iconst (q := 21) X3 hx (hb hby d8_20) (z := (1 : Int32)) rfl rfl ?_
 refine Run.x_iload (q := 23) X3 hx (hb hby d8_21) rfl rfl ?_
 refine Run.x_iconst (q := 24) X3 hx (hb hby d8_23) (z := (0 : Int32)) rfl rfl ?_
 refine Run.x_iload (q := 26) X3 hx (hb hby d8_24) rfl rfl ?_
 refine Run.callV X3 hx hZ e3 (y := (⟨"semblance/JpegScans", "take", "([IIIII)Z"⟩ : MethodName)) (z := (⟨"semblance/JpegScans", "take", "([IIIII)Z"⟩ : MethodName)) hown (wm34 hw) (wm35 hw) (notFace_of_selects (args := #[]) (mvT hZ (wm37 hw))) (wm37 hw) (wm36 hw) (wm2 hw) (wm38 hw) (by decide) (a := this) E_this (argsL := [(.ref cs), (.int 1), (.int ee), (.int 0), (.int bA)]) (rest := []) (c_ac_1_0_0 l Z a0 hw this cs (1 : Int32) ee bA h0 n0 Z0 gr r0 cnt sa f0 1 E E_this F_this_progressive F_this_components F_this_sentTo F_this_count F_this_sentAgain A_gr A_r0 A_cs g_this g_r0 ne_this_gr ne_this_r0 ne_this_cs ne_gr_r0 ne_gr_cs ne_r0_cs (own_cle hcnt (by decide)) rA (by decide) hE (by decide) hE1 hE2 h00 (fun i q1 q2 => by rw [hm1 i q1 (by omega)]; decide)) pd_3 rfl (by rw [hml]; rfl) (W := 0) rfl (by decide) (by decide) (by decide) (by decide) (hb hby d8_26) rfl ?_
 intro T4 v4 L4 X4 q4
 obtain ⟨bb4, rfl, M4, K4, E4, F04, F14, F24, F34, F44, Ar0_4⟩ := q4
 have N4 := Fr.app N3 M4
 show Run p e below s _ _ _ (T4.setTop (mkF m 29 #[.val (.ref this), .val (.ref cs), .val (.int comp), .val (.int ra), .val (.int tb), .val (.int ee), .val (.int bA), .val (.int bB)] [(.int bb4)]))
 have Z4 : n0 ≤ T4.heap.size := Nat.le_trans Z0 K4.1
 replace KP := KP.trans K4 (allS (Or.inl (by simp)) (allS (Or.inl (by simp)) all0))
 refine Run.x_pop (q := 30) X4 hx (hb hby d8_29) rfl rfl ?_
 replace A_gr := A_gr.keep K4 (ninS (Ne.symm ne_this_gr) (ninS ne_gr_r0 nin0))
 replace A_cs := A_cs.keep K4 (ninS (Ne.symm ne_this_cs) (ninS (Ne.symm ne_r0_cs) nin0))
 have JG : ∀ (T5 : State) (h5 : Heap) (lo5 : List Loc) (g : Nat → Int32) (ct : Int32), Stand p l e ({ frames := 2, cells := 0, slots := 0, locals := 38 } : Room) s m #[(.ref this), (.ref cs), (.int comp), (.int ra), (.int tb)] below meth c T5 lo5 0 0 → T5.heap = h5 → Fr n0 lo5 → n0 ≤ h5.size → Keep h0 h5 [this, r0] → Exa Z h5 this "semblance/JpegScans" → Ars Z h5 gr (.array .int) [(.ref r0)] → Ars Z h5 cs .int [(.int 0)] → Fld Z h5 this "semblance/JpegScans" "progressive" "Z" (.int 1) → Fld Z h5 this "semblance/JpegScans" "components" "I" (.int 1) → Fld Z h5 this "semblance/JpegScans" "sentTo" "[[I" (.ref gr) → Fld Z h5 this "semblance/JpegScans" "count" "I" (.int ct) → Fld Z h5 this "semblance/JpegScans" "sentAgain" "Z" (.int sa) → Ars Z h5 r0 .int (own_row g) → (g 0 = f0 0) → (∀ i, 1 ≤ i → i ≤ E → g i = own_AA ra bA) → (∀ i, E < i → i < 64 → g i = -1) → (0 ≤ ct.toInt ∧ ct.toInt ≤ 6) → Run p e below s (fun v h L => ∃ (g : Nat → Int32) (ct : Int32), v = none ∧ Fr n0 L ∧ Keep h0 h [this, r0] ∧ (0 ≤ ct.toInt ∧ ct.toInt ≤ 7) ∧ g 0 = f0 0 ∧ (∀ i, 1 ≤ i → i ≤ E → g i = own_AA ra bA) ∧ (∀ i, E < i → i < 64 → g i = own_BB tb ee bB) ∧ Exa Z h this "semblance/JpegScans" ∧ Fld Z h this "semblance/JpegScans" "progressive" "Z" (.int 1) ∧ Fld Z h this "semblance/JpegScans" "components" "I" (.int 1) ∧ Fld Z h this "semblance/JpegScans" "sentTo" "[[I" (.ref gr) ∧ Fld Z h this "semblance/JpegScans" "count" "I" (.int ct) ∧ Fld Z h this "semblance/JpegScans" "sentAgain" "Z" (.int sa) ∧ Ars Z h r0 .int (own_row g)) ({ frames := 2, cells := 0, slots := 0, locals := 38 } : Room).cells ({ frames := 2, cells := 0, slots := 0, locals := 38 } : Room).slots (T5.setTop (mkF m 55 #[.val (.ref this), .val (.ref cs), .val (.int comp), .val (.int ra), .val (.int tb), .val (.int ee), .val (.int bA), .val (.int bB)] [])) := by
  intro T5 h5 lo5 g ct X5 e5 N5 Z5 KP E4 A_gr A_cs F04 F14 F24 F_ct F44 A_g hg0 hgA hgB hct
  refine Run.x_iload (q := 57) X5 hx (hb hby d8_55) rfl rfl ?_
  by_cases hc57 : tb = (0 : Int32)
  ·skip
   refine Run.x_ifYes (q := 82) X5 hx (hb hby d8_57) ((if0 _ _).trans (teq hc57).1) (by decide) (by decide) ?_
   refine Run.retV X5 hx hlk e5 hret (hb hby d8_82) (by decide) (by decide) ?_
   exact ⟨g, ct, rfl, N5, KP, (own_cle hct (by decide)), hg0, hgA, (fun i q1 q2 => (hgB i q1 q2).trans (if_neg (fun q => q.1 hc57)).symm), E4, F04, F14, F24, F_ct, F44, A_g⟩
  ·skip
   refine Run.x_ifNo (q := 60) X5 hx (hb hby d8_57) ((if0 _ _).trans (feq hc57).1) rfl ?_
   refine Run.x_iload (q := 62) X5 hx (hb hby d8_60) rfl rfl ?_
   refine Run.x_bipush (q := 64) X5 hx (hb hby d8_62) (z := (63 : Int32)) rfl rfl ?_
   by_cases hc64 : ee < (63 : Int32)
   ·skip
    refine Run.x_icmpNo (q := 67) X5 hx (hb hby d8_64) (tlt hc64).2.1 rfl ?_
    refine Run.x_aloadN (q := 68) X5 hx (hb hby d8_67) rfl rfl rfl ?_
    refine Run.x_aloadN (q := 69) X5 hx (hb hby d8_68) rfl rfl rfl ?_
    refine Run.x_iload (q := 71) X5 hx (hb hby d8_69) rfl rfl ?_
    refine Run.x_iconst (q := 72) X5 hx (hb hby d8_71) (z := (1 : Int32)) rfl rfl ?_
    refine Run.x_iadd (q := 73) X5 hx (hb hby d8_72) rfl rfl ?_
    refine Run.x_bipush (q := 75) X5 hx (hb hby d8_73) (z := (63 : Int32)) rfl rfl ?_
    refine Run.x_iconst (q := 76) X5 hx (hb hby d8_75) (z := (0 : Int32)) rfl rfl ?_
    refine Run.x_iload (q := 78) X5 hx (hb hby d8_76) rfl rfl ?_
    refine Run.callV X5 hx hZ e5 (y := (⟨"semblance/JpegScans", "take", "([IIIII)Z"⟩ : MethodName)) (z := (⟨"semblance/JpegScans", "take", "([IIIII)Z"⟩ : MethodName)) hown (wm34 hw) (wm35 hw) (notFace_of_selects (args := #[]) (mvT hZ (wm37 hw))) (wm37 hw) (wm36 hw) (wm2 hw) (wm38 hw) (by decide) (a := this) E4 (argsL := [(.ref cs), (.int (ee + (1 : Int32))), (.int 63), (.int 0), (.int bB)]) (rest := []) (c_ac_1_0_0 l Z a0 hw this cs (ee + (1 : Int32)) (63 : Int32) bB h5 n0 Z5 gr r0 ct sa g (E + 1) 63 E4 F04 F14 F24 F_ct F44 A_gr A_g A_cs g_this g_r0 ne_this_gr ne_this_r0 ne_this_cs ne_gr_r0 ne_gr_cs ne_r0_cs (own_cle hct (by decide)) rB (own_ofn hE (by omega)) (by decide) (by omega) (own_e63 hE hc64) (by decide) (by rw [hg0]; exact h00) (fun i q1 q2 => by rw [hgB i (by omega) (by omega)]; decide)) pd_3 rfl (by rw [hml]; rfl) (W := 0) rfl (by decide) (by decide) (by decide) (by decide) (hb hby d8_78) rfl ?_
    intro T6 v6 L6 X6 q6
    obtain ⟨bb6, rfl, M6, K6, E6, F06, F16, F26, F36, F46, Ar0_6⟩ := q6
    have N6 := Fr.app N5 M6
    show Run p e below s _ _ _ (T6.setTop (mkF m 81 #[.val (.ref this), .val (.ref cs), .val (.int comp), .val (.int ra), .val (.int tb), .val (.int ee), .val (.int bA), .val (.int bB)] [(.int bb6)]))
    have Z6 : n0 ≤ T6.heap.size := Nat.le_trans Z5 K6.1
    replace KP := KP.trans K6 (allS (Or.inl (by simp)) (allS (Or.inl (by simp)) all0))
    refine Run.x_pop (q := 82) X6 hx (hb hby d8_81) rfl rfl ?_
    replace A_gr := A_gr.keep K6 (ninS (Ne.symm ne_this_gr) (ninS ne_gr_r0 nin0))
    replace A_cs := A_cs.keep K6 (ninS (Ne.symm ne_this_cs) (ninS (Ne.symm ne_r0_cs) nin0))
    refine Run.retV X6 hx hlk rfl hret (hb hby d8_82) (by decide) (by decide) ?_
    exact ⟨(own_put g (E + 1) (63 + 1) bB), (ct + (1 : Int32)), rfl, N6, KP, (own_cle (own_c1 hct (by decide)) (by decide)), (by rw [own_put_out (by omega)]; exact hg0), (fun i q1 q2 => by rw [own_put_out (by omega)]; exact hgA i q1 q2), (fun i q1 q2 => by rw [own_put_in (by omega) (by omega)]; exact (if_pos ⟨hc57, hc64⟩).symm), E6, F06, F16, F26, F36, F46, Ar0_6⟩
   ·skip
    refine Run.x_icmpYes (q := 82) X5 hx (hb hby d8_64) (flt hc64).2.1 (by decide) (by decide) ?_
    refine Run.retV X5 hx hlk e5 hret (hb hby d8_82) (by decide) (by decide) ?_
    exact ⟨g, ct, rfl, N5, KP, (own_cle hct (by decide)), hg0, hgA, (fun i q1 q2 => (hgB i q1 q2).trans (if_neg (fun q => hc64 q.2)).symm), E4, F04, F14, F24, F_ct, F44, A_g⟩
 refine Run.x_iloadN (q := 31) X4 hx (hb hby d8_30) rfl rfl ?_
 by_cases hc31 : ra = (0 : Int32)
 ·skip
  refine Run.x_ifYes (q := 55) X4 hx (hb hby d8_31) ((if0 _ _).trans (teq hc31).1) (by decide) (by decide) ?_
  exact JG T4 _ _ (own_put f0 1 (E + 1) bA) (cnt + (1 : Int32)) X4 rfl N4 Z4 KP E4 A_gr A_cs F04 F14 F24 F34 F44 Ar0_4 (by rw [own_put_out (by omega)]) (fun i q1 q2 => by rw [own_put_in q1 (by omega)]; exact (if_neg (fun q => q.1 hc31)).symm) (fun i q1 q2 => by rw [own_put_out (by omega)]; exact hm1 i (by omega) q2) (own_cle hc12 (by decide))
 ·skip
  refine Run.x_ifNo (q := 34) X4 hx (hb hby d8_31) ((if0 _ _).trans (feq hc31).1) rfl ?_
  refine Run.x_iload (q := 36) X4 hx (hb hby d8_34) rfl rfl ?_
  refine Run.x_iconst (q := 37) X4 hx (hb hby d8_36) (z := (1 : Int32)) rfl rfl ?_
  by_cases hc37 : bA < (1 : Int32)
  ·skip
   refine Run.x_icmpYes (q := 55) X4 hx (hb hby d8_37) (tlt hc37).1 (by decide) (by decide) ?_
   exact JG T4 _ _ (own_put f0 1 (E + 1) bA) (cnt + (1 : Int32)) X4 rfl N4 Z4 KP E4 A_gr A_cs F04 F14 F24 F34 F44 Ar0_4 (by rw [own_put_out (by omega)]) (fun i q1 q2 => by rw [own_put_in q1 (by omega)]; exact (if_neg (fun q => q.2 hc37)).symm) (fun i q1 q2 => by rw [own_put_out (by omega)]; exact hm1 i (by omega) q2) (own_cle hc12 (by decide))
  ·skip
   refine Run.x_icmpNo (q := 40) X4 hx (hb hby d8_37) (flt hc37).1 rfl ?_
   refine Run.x_aloadN (q := 41) X4 hx (hb hby d8_40) rfl rfl rfl ?_
   refine Run.x_aloadN (q := 42) X4 hx (hb hby d8_41) rfl rfl rfl ?_
   refine Run.x_iconst (q := 43) X4 hx (hb hby d8_42) (z := (1 : Int32)) rfl rfl ?_
   refine Run.x_iload (q := 45) X4 hx (hb hby d8_43) rfl rfl ?_
   refine Run.x_iload (q := 47) X4 hx (hb hby d8_45) rfl rfl ?_
   refine Run.x_iload (q := 49) X4 hx (hb hby d8_47) rfl rfl ?_
   refine Run.x_iconst (q := 50) X4 hx (hb hby d8_49) (z := (1 : Int32)) rfl rfl ?_
   refine Run.x_isub (q := 51) X4 hx (hb hby d8_50) rfl rfl ?_
   refine Run.callV X4 hx hZ rfl (y := (⟨"semblance/JpegScans", "take", "([IIIII)Z"⟩ : MethodName)) (z := (⟨"semblance/JpegScans", "take", "([IIIII)Z"⟩ : MethodName)) hown (wm34 hw) (wm35 hw) (notFace_of_selects (args := #[]) (mvT hZ (wm37 hw))) (wm37 hw) (wm36 hw) (wm2 hw) (wm38 hw) (by decide) (a := this) E4 (argsL := [(.ref cs), (.int 1), (.int ee), (.int bA), (.int (bA - (1 : Int32)))]) (rest := []) (c_ac_1_0_1 l Z a0 hw this cs (1 : Int32) ee bA (bA - (1 : Int32)) T4.heap n0 Z4 gr r0 (cnt + (1 : Int32)) sa (own_put f0 1 (E + 1) bA) 1 E E4 F04 F14 F24 F34 F44 A_gr Ar0_4 A_cs g_this g_r0 ne_this_gr ne_this_r0 ne_this_cs ne_gr_r0 ne_gr_cs ne_r0_cs (own_cle hc12 (by decide)) (own_d1 rA hc37) (by decide) hE (by decide) hE1 hE2 (by rw [own_put_out (by omega)]; exact h00) (fun i q1 q2 => own_mx (own_put_in q1 (by omega)) rA.1) (own_d0 hc37) rfl) pd_3 rfl (by rw [hml]; rfl) (W := 0) rfl (by decide) (by decide) (by decide) (by decide) (hb hby d8_51) rfl ?_
   intro T7 v7 L7 X7 q7
   obtain ⟨bb7, rfl, M7, K7, E7, F07, F17, F27, F37, F47, Ar0_7⟩ := q7
   have N7 := Fr.app N4 M7
   show Run p e below s _ _ _ (T7.setTop (mkF m 54 #[.val (.ref this), .val (.ref cs), .val (.int comp), .val (.int ra), .val (.int tb), .val (.int ee), .val (.int bA), .val (.int bB)] [(.int bb7)]))
   have Z7 : n0 ≤ T7.heap.size := Nat.le_trans Z4 K7.1
   replace KP := KP.trans K7 (allS (Or.inl (by simp)) (allS (Or.inl (by simp)) all0))
   refine Run.x_pop (q := 55) X7 hx (hb hby d8_54) rfl rfl ?_
   replace A_gr := A_gr.keep K7 (ninS (Ne.symm ne_this_gr) (ninS ne_gr_r0 nin0))
   replace A_cs := A_cs.keep K7 (ninS (Ne.symm ne_this_cs) (ninS (Ne.symm ne_r0_cs) nin0))
   exact JG T7 _ _ (own_put (own_put f0 1 (E + 1) bA) 1 (E + 1) (bA - (1 : Int32))) ((cnt + (1 : Int32)) + (1 : Int32)) X7 rfl N7 Z7 KP E7 A_gr A_cs F07 F17 F27 F37 F47 Ar0_7 (by rw [own_put_out (by omega), own_put_out (by omega)]) (fun i q1 q2 => by rw [own_put_in q1 (by omega)]; exact (if_pos ⟨hc31, hc37⟩).symm) (fun i q1 q2 => by rw [own_put_out (by omega), own_put_out (by omega)]; exact hm1 i (by omega) q2) (own_cle (own_c1 hc12 (by decide)) (by decide))
theorem ef_c_send_2_0 (m : MethodId) (this : Addr) (cs : Addr) (comp : Int32) (ra : Int32) (tb : Int32) : entryFrame m #[(.ref this), (.ref cs), (.int comp), (.int ra), (.int tb)] 8 = mkF m 0 #[.val (.ref this), .val (.ref cs), .val (.int comp), .val (.int ra), .val (.int tb), .unset, .unset, .unset] [] := by first | (simp [entryFrame, mkF, argsToLocals, Value.category]; done) | rfl
set_option maxRecDepth 65536 in
set_option maxHeartbeats 40000000 in
theorem c_send_2_0 (l : Launch) (Z : State) (a0 : Array Value) (hw : ∀ d ∈ tables_1, d.before a0 Z = true) (this : Addr) (cs : Addr) (comp : Int32) (ra : Int32) (tb : Int32) (h0 : Heap) (n0 : Nat) (Z0 : n0 ≤ h0.size) (gr : Addr) (r0 : Addr) (r1 : Addr) (cnt : Int32) (sa : Int32) (f0 : Nat → Int32) (f1 : Nat → Int32) (ee : Int32) (bA : Int32) (bB : Int32) (E : Nat) (E_this : Exa Z h0 this "semblance/JpegScans") (F_this_progressive : Fld Z h0 this "semblance/JpegScans" "progressive" "Z" (.int 1)) (F_this_components : Fld Z h0 this "semblance/JpegScans" "components" "I" (.int 2)) (F_this_sentTo : Fld Z h0 this "semblance/JpegScans" "sentTo" "[[I" (.ref gr)) (F_this_count : Fld Z h0 this "semblance/JpegScans" "count" "I" (.int cnt)) (F_this_sentAgain : Fld Z h0 this "semblance/JpegScans" "sentAgain" "Z" (.int sa)) (A_gr : Ars Z h0 gr (.array .int) [(.ref r0), (.ref r1)]) (A_r0 : Ars Z h0 r0 .int (own_row f0)) (A_r1 : Ars Z h0 r1 .int (own_row f1)) (A_cs : Ars Z h0 cs .int [(.int 0)]) (g_this : n0 ≤ this) (g_r0 : n0 ≤ r0) (ne_this_gr : this ≠ gr) (ne_this_r0 : this ≠ r0) (ne_this_r1 : this ≠ r1) (ne_this_cs : this ≠ cs) (ne_gr_r0 : gr ≠ r0) (ne_gr_r1 : gr ≠ r1) (ne_gr_cs : gr ≠ cs) (ne_r0_r1 : r0 ≠ r1) (ne_r0_cs : r0 ≠ cs) (ne_r1_cs : r1 ≠ cs) (hcnt : 0 ≤ cnt.toInt ∧ cnt.toInt ≤ 4) (hee : own_e comp = ee) (hbA : own_A comp = bA) (hbB : own_B comp = bB) (hE : ee.toInt = E) (hE1 : 1 ≤ E) (hE2 : E ≤ 63) (h00 : 0 ≤ (f0 0).toInt) (hm1 : ∀ i, 1 ≤ i → i < 64 → f0 i = -1) :
  Ctr l Z (⟨"semblance/JpegScansCompletePinLaw", "send", "(Lsemblance/JpegScans;[IIZZ)V"⟩ : MethodName) method_9_code 8 none ({ frames := 2, cells := 0, slots := 0, locals := 38 } : Room) #[(.ref this), (.ref cs), (.int comp), (.int ra), (.int tb)] h0 (fun v h L => ∃ (g : Nat → Int32) (ct : Int32), v = none ∧ Fr n0 L ∧ Keep h0 h [this, r0] ∧ (0 ≤ ct.toInt ∧ ct.toInt ≤ 7) ∧ g 0 = f0 0 ∧ (∀ i, 1 ≤ i → i ≤ E → g i = own_AA ra bA) ∧ (∀ i, E < i → i < 64 → g i = own_BB tb ee bB) ∧ Exa Z h this "semblance/JpegScans" ∧ Fld Z h this "semblance/JpegScans" "progressive" "Z" (.int 1) ∧ Fld Z h this "semblance/JpegScans" "components" "I" (.int 2) ∧ Fld Z h this "semblance/JpegScans" "sentTo" "[[I" (.ref gr) ∧ Fld Z h this "semblance/JpegScans" "count" "I" (.int ct) ∧ Fld Z h this "semblance/JpegScans" "sentAgain" "Z" (.int sa) ∧ Ars Z h r0 .int (own_row g)) := by
 refine Ctr.of (plainFor_of_name pn_2) (fun m => ef_c_send_2_0 m this cs comp ra tb) ?_
 intro p e s m below meth c T0 hx hby hml hown hnm hret hlk hZ e0 X0
 have N0 := Fr.nil n0
 replace hown : s.vm.findClass "semblance/JpegScansCompletePinLaw" = some m.cls := hown
 replace hml : c.maxLocals = 8 := hml
 have KP := Keep.refl h0 [this, r0]
 have rA := own_A_rg hbA
 have rB := own_B_rg hbB
 have hc12 : 0 ≤ (cnt + (1 : Int32)).toInt ∧ (cnt + (1 : Int32)).toInt ≤ 5 := own_cle (own_c1 hcnt (by decide)) (by decide)
 refine Run.x_iloadN (q := 1) X0 hx (hb hby d8_0) rfl rfl ?_
 refine Run.callSI (q := 4) X0 hx hZ e0 (y := (⟨"semblance/JpegScansCompletePinLaw", "end", "(I)I"⟩ : MethodName)) hown (wm48 hw) (wm49 hw) (wm24 hw) (wm50 hw) (by decide) (argsL := [(.int comp)]) (rest := []) (c_endm l Z a0 hw comp h0 n0 Z0 ee hee) pd_2 rfl (by rw [hml]; rfl) (W := 0) rfl (by decide) (by decide) (by decide) (by decide) (hb hby d8_1) rfl rfl fun T1 L1 X1 M1 e1 => ?_
 have N1 := Fr.app N0 M1
 refine Run.x_istore (q := 6) X1 hx #[.val (.ref this), .val (.ref cs), .val (.int comp), .val (.int ra), .val (.int tb), .val (.int ee), .unset, .unset] (hb hby d8_4) rfl rfl ?_
 refine Run.x_iloadN (q := 7) X1 hx (hb hby d8_6) rfl rfl ?_
 refine Run.callSI (q := 10) X1 hx hZ e1 (y := (⟨"semblance/JpegScansCompletePinLaw", "bitA", "(I)I"⟩ : MethodName)) hown (wm51 hw) (wm52 hw) (wm24 hw) (wm53 hw) (by decide) (argsL := [(.int comp)]) (rest := []) (c_bitA l Z a0 hw comp h0 n0 Z0 bA hbA) pd_2 rfl (by rw [hml]; rfl) (W := 0) rfl (by decide) (by decide) (by decide) (by decide) (hb hby d8_7) rfl rfl fun T2 L2 X2 M2 e2 => ?_
 have N2 := Fr.app N1 M2
 refine Run.x_istore (q := 12) X2 hx #[.val (.ref this), .val (.ref cs), .val (.int comp), .val (.int ra), .val (.int tb), .val (.int ee), .val (.int bA), .unset] (hb hby d8_10) rfl rfl ?_
 refine Run.x_iloadN (q := 13) X2 hx (hb hby d8_12) rfl rfl ?_
 refine Run.callSI (q := 16) X2 hx hZ e2 (y := (⟨"semblance/JpegScansCompletePinLaw", "bitB", "(I)I"⟩ : MethodName)) hown (wm55 hw) (wm56 hw) (wm24 hw) (wm57 hw) (by decide) (argsL := [(.int comp)]) (rest := []) (c_bitB l Z a0 hw comp h0 n0 Z0 bB hbB) pd_2 rfl (by rw [hml]; rfl) (W := 0) rfl (by decide) (by decide) (by decide) (by decide) (hb hby d8_13) rfl rfl fun T3 L3 X3 M3 e3 => ?_
 have N3 := Fr.app N2 M3
 refine Run.x_istore (q := 18) X3 hx #[.val (.ref this), .val (.ref cs), .val (.int comp), .val (.int ra), .val (.int tb), .val (.int ee), .val (.int bA), .val (.int bB)] (hb hby d8_16) rfl rfl ?_
 refine Run.x_aloadN (q := 19) X3 hx (hb hby d8_18) rfl rfl rfl ?_
 refine Run.x_aloadN (q := 20) X3 hx (hb hby d8_19) rfl rfl rfl ?_
 refine Run.x_iconst (q := 21) X3 hx (hb hby d8_20) (z := (1 : Int32)) rfl rfl ?_
 refine Run.x_iload (q := 23) X3 hx (hb hby d8_21) rfl rfl ?_
 refine Run.x_iconst (q := 24) X3 hx (hb hby d8_23) (z := (0 : Int32)) rfl rfl ?_
 refine Run.x_iload (q := 26) X3 hx (hb hby d8_24) rfl rfl ?_
 refine Run.callV X3 hx hZ e3 (y := (⟨"semblance/JpegScans", "take", "([IIIII)Z"⟩ : MethodName)) (z := (⟨"semblance/JpegScans", "take", "([IIIII)Z"⟩ : MethodName)) hown (wm34 hw) (wm35 hw) (notFace_of_selects (args := #[]) (mvT hZ (wm37 hw))) (wm37 hw) (wm36 hw) (wm2 hw) (wm38 hw) (by decide) (a := this) E_this (argsL := [(.ref cs), (.int 1), (.int ee), (.int 0), (.int bA)]) (rest := []) (c_ac_2_0_0 l Z a0 hw this cs (1 : Int32) ee bA h0 n0 Z0 gr r0 r1 cnt sa f0 f1 1 E E_this F_this_progressive F_this_components F_this_sentTo F_this_count F_this_sentAgain A_gr A_r0 A_r1 A_cs g_this g_r0 ne_this_gr ne_this_r0 ne_this_r1 ne_this_cs ne_gr_r0 ne_gr_r1 ne_gr_cs ne_r0_r1 ne_r0_cs ne_r1_cs (own_cle hcnt (by decide)) rA (by decide) hE (by decide) hE1 hE2 h00 (fun i q1 q2 => by rw [hm1 i q1 (by omega)]; decide)) pd_3 rfl (by rw [hml]; rfl) (W := 0) rfl (by decide) (by decide) (by decide) (by decide) (hb hby d8_26) rfl ?_
 intro T4 v4 L4 X4 q4
 obtain ⟨bb4, rfl, M4, K4, E4, F04, F14, F24, F34, F44, Ar0_4⟩ := q4
 have N4 := Fr.app N3 M4
 show Run p e below s _ _ _ (T4.setTop (mkF m 29 #[.val (.ref this), .val (.ref cs), .val (.int comp), .val (.int ra), .val (.int tb), .val (.int ee), .val (.int bA), .val (.int bB)] [(.int bb4)]))
 have Z4 : n0 ≤ T4.heap.size := Nat.le_trans Z0 K4.1
 replace KP := KP.trans K4 (allS (Or.inl (by simp)) (allS (Or.inl (by simp)) all0))
 refine Run.x_pop (q := 30) X4 hx (hb hby d8_29) rfl rfl ?_
 replace A_gr := A_gr.keep K4 (ninS (Ne.symm ne_this_gr) (ninS ne_gr_r0 nin0))
 replace A_r1 := A_r1.keep K4 (ninS (Ne.symm ne_this_r1) (ninS (Ne.symm ne_r0_r1) nin0))
 replace A_cs := A_cs.keep K4 (ninS (Ne.symm ne_this_cs) (ninS (Ne.symm ne_r0_cs) nin0))
 have JG : ∀ (T5 : State) (h5 : Heap) (lo5 : List Loc) (g : Nat → Int32) (ct : Int32), Stand p l e ({ frames := 2, cells := 0, slots := 0, locals := 38 } : Room) s m #[(.ref this), (.ref cs), (.int comp), (.int ra), (.int tb)] below meth c T5 lo5 0 0 → T5.heap = h5 → Fr n0 lo5 → n0 ≤ h5.size → Keep h0 h5 [this, r0] → Exa Z h5 this "semblance/JpegScans" → Ars Z h5 gr (.array .int) [(.ref r0), (.ref r1)] → Ars Z h5 r1 .int (own_row f1) → Ars Z h5 cs .int [(.int 0)] → Fld Z h5 this "semblance/JpegScans" "progressive" "Z" (.int 1) → Fld Z h5 this "semblance/JpegScans" "components" "I" (.int 2) → Fld Z h5 this "semblance/JpegScans" "sentTo" "[[I" (.ref gr) → Fld Z h5 this "semblance/JpegScans" "count" "I" (.int ct) → Fld Z h5 this "semblance/JpegScans" "sentAgain" "Z" (.int sa) → Ars Z h5 r0 .int (own_row g) → (g 0 = f0 0) → (∀ i, 1 ≤ i → i ≤ E → g i = own_AA ra bA) → (∀ i, E < i → i < 64 → g i = -1) → (0 ≤ ct.toInt ∧ ct.toInt ≤ 6) → Run p e below s (fun v h L => ∃ (g : Nat → Int32) (ct : Int32), v = none ∧ Fr n0 L ∧ Keep h0 h [this, r0] ∧ (0 ≤ ct.toInt ∧ ct.toInt ≤ 7) ∧ g 0 = f0 0 ∧ (∀ i, 1 ≤ i → i ≤ E → g i = own_AA ra bA) ∧ (∀ i, E < i → i < 64 → g i = own_BB tb ee bB) ∧ Exa Z h this "semblance/JpegScans" ∧ Fld Z h this "semblance/JpegScans" "progressive" "Z" (.int 1) ∧ Fld Z h this "semblance/JpegScans" "components" "I" (.int 2) ∧ Fld Z h this "semblance/JpegScans" "sentTo" "[[I" (.ref gr) ∧ Fld Z h this "semblance/JpegScans" "count" "I" (.int ct) ∧ Fld Z h this "semblance/JpegScans" "sentAgain" "Z" (.int sa) ∧ Ars Z h r0 .int (own_row g)) ({ frames := 2, cells := 0, slots := 0, locals := 38 } : Room).cells ({ frames := 2, cells := 0, slots := 0, locals := 38 } : Room).slots (T5.setTop (mkF m 55 #[.val (.ref this), .val (.ref cs), .val (.int comp), .val (.int ra), .val (.int tb), .val (.int ee), .val (.int bA), .val (.int bB)] [])) := by
  intro T5 h5 lo5 g ct X5 e5 N5 Z5 KP E4 A_gr A_r1 A_cs F04 F14 F24 F_ct F44 A_g hg0 hgA hgB hct
  refine Run.x_iload (q := 57) X5 hx (hb hby d8_55) rfl rfl ?_
  by_cases hc57 : tb = (0 : Int32)
  ·skip
   refine Run.x_ifYes (q := 82) X5 hx (hb hby d8_57) ((if0 _ _).trans (teq hc57).1) (by decide) (by decide) ?_
   refine Run.retV X5 hx hlk e5 hret (hb hby d8_82) (by decide) (by decide) ?_
   exact ⟨g, ct, rfl, N5, KP, (own_cle hct (by decide)), hg0, hgA, (fun i q1 q2 => (hgB i q1 q2).trans (if_neg (fun q => q.1 hc57)).symm), E4, F04, F14, F24, F_ct, F44, A_g⟩
  ·skip
   refine Run.x_ifNo (q := 60) X5 hx (hb hby d8_57) ((if0 _ _).trans (feq hc57).1) rfl ?_
   refine Run.x_iload (q := 62) X5 hx (hb hby d8_60) rfl rfl ?_
   refine Run.x_bipush (q := 64) X5 hx (hb hby d8_62) (z := (63 : Int32)) rfl rfl ?_
   by_cases hc64 : ee < (63 : Int32)
   ·skip
    refine Run.x_icmpNo (q := 67) X5 hx (hb hby d8_64) (tlt hc64).2.1 rfl ?_
    refine Run.x_aloadN (q := 68) X5 hx (hb hby d8_67) rfl rfl rfl ?_
    refine Run.x_aloadN (q := 69) X5 hx (hb hby d8_68) rfl rfl rfl ?_
    refine Run.x_iload (q := 71) X5 hx (hb hby d8_69) rfl rfl ?_
    refine Run.x_iconst (q := 72) X5 hx (hb hby d8_71) (z := (1 : Int32)) rfl rfl ?_
    refine Run.x_iadd (q := 73) X5 hx (hb hby d8_72) rfl rfl ?_
    refine Run.x_bipush (q := 75) X5 hx (hb hby d8_73) (z := (63 : Int32)) rfl rfl ?_
    refine Run.x_iconst (q := 76) X5 hx (hb hby d8_75) (z := (0 : Int32)) rfl rfl ?_
    refine Run.x_iload (q := 78) X5 hx (hb hby d8_76) rfl rfl ?_
    refine Run.callV X5 hx hZ e5 (y := (⟨"semblance/JpegScans", "take", "([IIIII)Z"⟩ : MethodName)) (z := (⟨"semblance/JpegScans", "take", "([IIIII)Z"⟩ : MethodName)) hown (wm34 hw) (wm35 hw) (notFace_of_selects (args := #[]) (mvT hZ (wm37 hw))) (wm37 hw) (wm36 hw) (wm2 hw) (wm38 hw) (by decide) (a := this) E4 (argsL := [(.ref cs), (.int (ee + (1 : Int32))), (.int 63), (.int 0), (.int bB)]) (rest := []) (c_ac_2_0_0 l Z a0 hw this cs (ee + (1 : Int32)) (63 : Int32) bB h5 n0 Z5 gr r0 r1 ct sa g f1 (E + 1) 63 E4 F04 F14 F24 F_ct F44 A_gr A_g A_r1 A_cs g_this g_r0 ne_this_gr ne_this_r0 ne_this_r1 ne_this_cs ne_gr_r0 ne_gr_r1 ne_gr_cs ne_r0_r1 ne_r0_cs ne_r1_cs (own_cle hct (by decide)) rB (own_ofn hE (by omega)) (by decide) (by omega) (own_e63 hE hc64) (by decide) (by rw [hg0]; exact h00) (fun i q1 q2 => by rw [hgB i (by omega) (by omega)]; decide)) pd_3 rfl (by rw [hml]; rfl) (W := 0) rfl (by decide) (by decide) (by decide) (by decide) (hb hby d8_78) rfl ?_
    intro T6 v6 L6 X6 q6
    obtain ⟨bb6, rfl, M6, K6, E6, F06, F16, F26, F36, F46, Ar0_6⟩ := q6
    have N6 := Fr.app N5 M6
    show Run p e below s _ _ _ (T6.setTop (mkF m 81 #[.val (.ref this), .val (.ref cs), .val (.int comp), .val (.int ra), .val (.int tb), .val (.int ee), .val (.int bA), .val (.int bB)] [(.int bb6)]))
    have Z6 : n0 ≤ T6.heap.size := Nat.le_trans Z5 K6.1
    replace KP := KP.trans K6 (allS (Or.inl (by simp)) (allS (Or.inl (by simp)) all0))
    refine Run.x_pop (q := 82) X6 hx (hb hby d8_81) rfl rfl ?_
    replace A_gr := A_gr.keep K6 (ninS (Ne.symm ne_this_gr) (ninS ne_gr_r0 nin0))
    replace A_r1 := A_r1.keep K6 (ninS (Ne.symm ne_this_r1) (ninS (Ne.symm ne_r0_r1) nin0))
    replace A_cs := A_cs.keep K6 (ninS (Ne.symm ne_this_cs) (ninS (Ne.symm ne_r0_cs) nin0))
    refine Run.retV X6 hx hlk rfl hret (hb hby d8_82) (by decide) (by decide) ?_
    exact ⟨(own_put g (E + 1) (63 + 1) bB), (ct + (1 : Int32)), rfl, N6, KP, (own_cle (own_c1 hct (by decide)) (by decide)), (by rw [own_put_out (by omega)]; exact hg0), (fun i q1 q2 => by rw [own_put_out (by omega)]; exact hgA i q1 q2), (fun i q1 q2 => by rw [own_put_in (by omega) (by omega)]; exact (if_pos ⟨hc57, hc64⟩).symm), E6, F06, F16, F26, F36, F46, Ar0_6⟩
   ·skip
    refine Run.x_icmpYes (q := 82) X5 hx (hb hby d8_64) (flt hc64).2.1 (by decide) (by decide) ?_
    refine Run.retV X5 hx hlk e5 hret (hb hby d8_82) (by decide) (by decide) ?_
    exact ⟨g, ct, rfl, N5, KP, (own_cle hct (by decide)), hg0, hgA, (fun i q1 q2 => (hgB i q1 q2).trans (if_neg (fun q => hc64 q.2)).symm), E4, F04, F14, F24, F_ct, F44, A_g⟩
 refine Run.x_iloadN (q := 31) X4 hx (hb hby d8_30) rfl rfl ?_
 by_cases hc31 : ra = (0 : Int32)
 ·skip
  refine Run.x_ifYes (q := 55) X4 hx (hb hby d8_31) ((if0 _ _).trans (teq hc31).1) (by decide) (by decide) ?_
  exact JG T4 _ _ (own_put f0 1 (E + 1) bA) (cnt + (1 : Int32)) X4 rfl N4 Z4 KP E4 A_gr A_r1 A_cs F04 F14 F24 F34 F44 Ar0_4 (by rw [own_put_out (by omega)]) (fun i q1 q2 => by rw [own_put_in q1 (by omega)]; exact (if_neg (fun q => q.1 hc31)).symm) (fun i q1 q2 => by rw [own_put_out (by omega)]; exact hm1 i (by omega) q2) (own_cle hc12 (by decide))
 ·skip
  refine Run.x_ifNo (q := 34) X4 hx (hb hby d8_31) ((if0 _ _).trans (feq hc31).1) rfl ?_
  refine Run.x_iload (q := 36) X4 hx (hb hby d8_34) rfl rfl ?_
  refine Run.x_iconst (q := 37) X4 hx (hb hby d8_36) (z := (1 : Int32)) rfl rfl ?_
  by_cases hc37 : bA < (1 : Int32)
  ·skip
   refine Run.x_icmpYes (q := 55) X4 hx (hb hby d8_37) (tlt hc37).1 (by decide) (by decide) ?_
   exact JG T4 _ _ (own_put f0 1 (E + 1) bA) (cnt + (1 : Int32)) X4 rfl N4 Z4 KP E4 A_gr A_r1 A_cs F04 F14 F24 F34 F44 Ar0_4 (by rw [own_put_out (by omega)]) (fun i q1 q2 => by rw [own_put_in q1 (by omega)]; exact (if_neg (fun q => q.2 hc37)).symm) (fun i q1 q2 => by rw [own_put_out (by omega)]; exact hm1 i (by omega) q2) (own_cle hc12 (by decide))
  ·skip
   refine Run.x_icmpNo (q := 40) X4 hx (hb hby d8_37) (flt hc37).1 rfl ?_
   refine Run.x_aloadN (q := 41) X4 hx (hb hby d8_40) rfl rfl rfl ?_
   refine Run.x_aloadN (q := 42) X4 hx (hb hby d8_41) rfl rfl rfl ?_
   refine Run.x_iconst (q := 43) X4 hx (hb hby d8_42) (z := (1 : Int32)) rfl rfl ?_
   refine Run.x_iload (q := 45) X4 hx (hb hby d8_43) rfl rfl ?_
   refine Run.x_iload (q := 47) X4 hx (hb hby d8_45) rfl rfl ?_
   refine Run.x_iload (q := 49) X4 hx (hb hby d8_47) rfl rfl ?_
   refine Run.x_iconst (q := 50) X4 hx (hb hby d8_49) (z := (1 : Int32)) rfl rfl ?_
   refine Run.x_isub (q := 51) X4 hx (hb hby d8_50) rfl rfl ?_
   refine Run.callV X4 hx hZ rfl (y := (⟨"semblance/JpegScans", "take", "([IIIII)Z"⟩ : MethodName)) (z := (⟨"semblance/JpegScans", "take", "([IIIII)Z"⟩ : MethodName)) hown (wm34 hw) (wm35 hw) (notFace_of_selects (args := #[]) (mvT hZ (wm37 hw))) (wm37 hw) (wm36 hw) (wm2 hw) (wm38 hw) (by decide) (a := this) E4 (argsL := [(.ref cs), (.int 1), (.int ee), (.int bA), (.int (bA - (1 : Int32)))]) (rest := []) (c_ac_2_0_1 l Z a0 hw this cs (1 : Int32) ee bA (bA - (1 : Int32)) T4.heap n0 Z4 gr r0 r1 (cnt + (1 : Int32)) sa (own_put f0 1 (E + 1) bA) f1 1 E E4 F04 F14 F24 F34 F44 A_gr Ar0_4 A_r1 A_cs g_this g_r0 ne_this_gr ne_this_r0 ne_this_r1 ne_this_cs ne_gr_r0 ne_gr_r1 ne_gr_cs ne_r0_r1 ne_r0_cs ne_r1_cs (own_cle hc12 (by decide)) (own_d1 rA hc37) (by decide) hE (by decide) hE1 hE2 (by rw [own_put_out (by omega)]; exact h00) (fun i q1 q2 => own_mx (own_put_in q1 (by omega)) rA.1) (own_d0 hc37) rfl) pd_3 rfl (by rw [hml]; rfl) (W := 0) rfl (by decide) (by decide) (by decide) (by decide) (hb hby d8_51) rfl ?_
   intro T7 v7 L7 X7 q7
   obtain ⟨bb7, rfl, M7, K7, E7, F07, F17, F27, F37, F47, Ar0_7⟩ := q7
   have N7 := Fr.app N4 M7
   show Run p e below s _ _ _ (T7.setTop (mkF m 54 #[.val (.ref this), .val (.ref cs), .val (.int comp), .val (.int ra), .val (.int tb), .val (.int ee), .val (.int bA), .val (.int bB)] [(.int bb7)]))
   have Z7 : n0 ≤ T7.heap.size := Nat.le_trans Z4 K7.1
   replace KP := KP.trans K7 (allS (Or.inl (by simp)) (allS (Or.inl (by simp)) all0))
   refine Run.x_pop (q := 55) X7 hx (hb hby d8_54) rfl rfl ?_
   replace A_gr := A_gr.keep K7 (ninS (Ne.symm ne_this_gr) (ninS ne_gr_r0 nin0))
   replace A_r1 := A_r1.keep K7 (ninS (Ne.symm ne_this_r1) (ninS (Ne.symm ne_r0_r1) nin0))
   replace A_cs := A_cs.keep K7 (ninS (Ne.symm ne_this_cs) (ninS (Ne.symm ne_r0_cs) nin0))
   exact JG T7 _ _ (own_put (own_put f0 1 (E + 1) bA) 1 (E + 1) (bA - (1 : Int32))) ((cnt + (1 : Int32)) + (1 : Int32)) X7 rfl N7 Z7 KP E7 A_gr A_r1 A_cs F07 F17 F27 F37 F47 Ar0_7 (by rw [own_put_out (by omega), own_put_out (by omega)]) (fun i q1 q2 => by rw [own_put_in q1 (by omega)]; exact (if_pos ⟨hc31, hc37⟩).symm) (fun i q1 q2 => by rw [own_put_out (by omega), own_put_out (by omega)]; exact hm1 i (by omega) q2) (own_cle (own_c1 hc12 (by decide)) (by decide))
theorem ef_c_send_2_1 (m : MethodId) (this : Addr) (cs : Addr) (comp : Int32) (ra : Int32) (tb : Int32) : entryFrame m #[(.ref this), (.ref cs), (.int comp), (.int ra), (.int tb)] 8 = mkF m 0 #[.val (.ref this), .val (.ref cs), .val (.int comp), .val (.int ra), .val (.int tb), .unset, .unset, .unset] [] := by first | (simp [entryFrame, mkF, argsToLocals, Value.category]; done) | rfl
set_option maxRecDepth 65536 in
set_option maxHeartbeats 40000000 in
theorem c_send_2_1 (l : Launch) (Z : State) (a0 : Array Value) (hw : ∀ d ∈ tables_1, d.before a0 Z = true) (this : Addr) (cs : Addr) (comp : Int32) (ra : Int32) (tb : Int32) (h0 : Heap) (n0 : Nat) (Z0 : n0 ≤ h0.size) (gr : Addr) (r0 : Addr) (r1 : Addr) (cnt : Int32) (sa : Int32) (f0 : Nat → Int32) (f1 : Nat → Int32) (ee : Int32) (bA : Int32) (bB : Int32) (E : Nat) (E_this : Exa Z h0 this "semblance/JpegScans") (F_this_progressive : Fld Z h0 this "semblance/JpegScans" "progressive" "Z" (.int 1)) (F_this_components : Fld Z h0 this "semblance/JpegScans" "components" "I" (.int 2)) (F_this_sentTo : Fld Z h0 this "semblance/JpegScans" "sentTo" "[[I" (.ref gr)) (F_this_count : Fld Z h0 this "semblance/JpegScans" "count" "I" (.int cnt)) (F_this_sentAgain : Fld Z h0 this "semblance/JpegScans" "sentAgain" "Z" (.int sa)) (A_gr : Ars Z h0 gr (.array .int) [(.ref r0), (.ref r1)]) (A_r0 : Ars Z h0 r0 .int (own_row f0)) (A_r1 : Ars Z h0 r1 .int (own_row f1)) (A_cs : Ars Z h0 cs .int [(.int 1)]) (g_this : n0 ≤ this) (g_r1 : n0 ≤ r1) (ne_this_gr : this ≠ gr) (ne_this_r0 : this ≠ r0) (ne_this_r1 : this ≠ r1) (ne_this_cs : this ≠ cs) (ne_gr_r0 : gr ≠ r0) (ne_gr_r1 : gr ≠ r1) (ne_gr_cs : gr ≠ cs) (ne_r0_r1 : r0 ≠ r1) (ne_r0_cs : r0 ≠ cs) (ne_r1_cs : r1 ≠ cs) (hcnt : 0 ≤ cnt.toInt ∧ cnt.toInt ≤ 12) (hee : own_e comp = ee) (hbA : own_A comp = bA) (hbB : own_B comp = bB) (hE : ee.toInt = E) (hE1 : 1 ≤ E) (hE2 : E ≤ 63) (h00 : 0 ≤ (f1 0).toInt) (hm1 : ∀ i, 1 ≤ i → i < 64 → f1 i = -1) :
  Ctr l Z (⟨"semblance/JpegScansCompletePinLaw", "send", "(Lsemblance/JpegScans;[IIZZ)V"⟩ : MethodName) method_9_code 8 none ({ frames := 2, cells := 0, slots := 0, locals := 38 } : Room) #[(.ref this), (.ref cs), (.int comp), (.int ra), (.int tb)] h0 (fun v h L => ∃ (g : Nat → Int32) (ct : Int32), v = none ∧ Fr n0 L ∧ Keep h0 h [this, r1] ∧ (0 ≤ ct.toInt ∧ ct.toInt ≤ 15) ∧ g 0 = f1 0 ∧ (∀ i, 1 ≤ i → i ≤ E → g i = own_AA ra bA) ∧ (∀ i, E < i → i < 64 → g i = own_BB tb ee bB) ∧ Exa Z h this "semblance/JpegScans" ∧ Fld Z h this "semblance/JpegScans" "progressive" "Z" (.int 1) ∧ Fld Z h this "semblance/JpegScans" "components" "I" (.int 2) ∧ Fld Z h this "semblance/JpegScans" "sentTo" "[[I" (.ref gr) ∧ Fld Z h this "semblance/JpegScans" "count" "I" (.int ct) ∧ Fld Z h this "semblance/JpegScans" "sentAgain" "Z" (.int sa) ∧ Ars Z h r1 .int (own_row g)) := by
 refine Ctr.of (plainFor_of_name pn_2) (fun m => ef_c_send_2_1 m this cs comp ra tb) ?_
 intro p e s m below meth c T0 hx hby hml hown hnm hret hlk hZ e0 X0
 have N0 := Fr.nil n0
 replace hown : s.vm.findClass "semblance/JpegScansCompletePinLaw" = some m.cls := hown
 replace hml : c.maxLocals = 8 := hml
 have KP := Keep.refl h0 [this, r1]
 have rA := own_A_rg hbA
 have rB := own_B_rg hbB
 have hc12 : 0 ≤ (cnt + (1 : Int32)).toInt ∧ (cnt + (1 : Int32)).toInt ≤ 13 := own_cle (own_c1 hcnt (by decide)) (by decide)
 refine Run.x_iloadN (q := 1) X0 hx (hb hby d8_0) rfl rfl ?_
 refine Run.callSI (q := 4) X0 hx hZ e0 (y := (⟨"semblance/JpegScansCompletePinLaw", "end", "(I)I"⟩ : MethodName)) hown (wm48 hw) (wm49 hw) (wm24 hw) (wm50 hw) (by decide) (argsL := [(.int comp)]) (rest := []) (c_endm l Z a0 hw comp h0 n0 Z0 ee hee) pd_2 rfl (by rw [hml]; rfl) (W := 0) rfl (by decide) (by decide) (by decide) (by decide) (hb hby d8_1) rfl rfl fun T1 L1 X1 M1 e1 => ?_
 have N1 := Fr.app N0 M1
 refine Run.x_istore (q := 6) X1 hx #[.val (.ref this), .val (.ref cs), .val (.int comp), .val (.int ra), .val (.int tb), .val (.int ee), .unset, .unset] (hb hby d8_4) rfl rfl ?_
 refine Run.x_iloadN (q := 7) X1 hx (hb hby d8_6) rfl rfl ?_
 refine Run.callSI (q := 10) X1 hx hZ e1 (y := (⟨"semblance/JpegScansCompletePinLaw", "bitA", "(I)I"⟩ : MethodName)) hown (wm51 hw) (wm52 hw) (wm24 hw) (wm53 hw) (by decide) (argsL := [(.int comp)]) (rest := []) (c_bitA l Z a0 hw comp h0 n0 Z0 bA hbA) pd_2 rfl (by rw [hml]; rfl) (W := 0) rfl (by decide) (by decide) (by decide) (by decide) (hb hby d8_7) rfl rfl fun T2 L2 X2 M2 e2 => ?_
 have N2 := Fr.app N1 M2
 refine Run.x_istore (q := 12) X2 hx #[.val (.ref this), .val (.ref cs), .val (.int comp), .val (.int ra), .val (.int tb), .val (.int ee), .val (.int bA), .unset] (hb hby d8_10) rfl rfl ?_
 refine Run.x_iloadN (q := 13) X2 hx (hb hby d8_12) rfl rfl ?_
 refine Run.callSI (q := 16) X2 hx hZ e2 (y := (⟨"semblance/JpegScansCompletePinLaw", "bitB", "(I)I"⟩ : MethodName)) hown (wm55 hw) (wm56 hw) (wm24 hw) (wm57 hw) (by decide) (argsL := [(.int comp)]) (rest := []) (c_bitB l Z a0 hw comp h0 n0 Z0 bB hbB) pd_2 rfl (by rw [hml]; rfl) (W := 0) rfl (by decide) (by decide) (by decide) (by decide) (hb hby d8_13) rfl rfl fun T3 L3 X3 M3 e3 => ?_
 have N3 := Fr.app N2 M3
 refine Run.x_istore (q := 18) X3 hx #[.val (.ref this), .val (.ref cs), .val (.int comp), .val (.int ra), .val (.int tb), .val (.int ee), .val (.int bA), .val (.int bB)] (hb hby d8_16) rfl rfl ?_
 refine Run.x_aloadN (q := 19) X3 hx (hb hby d8_18) rfl rfl rfl ?_
 refine Run.x_aloadN (q := 20) X3 hx (hb hby d8_19) rfl rfl rfl ?_
 refine Run.x_iconst (q := 21) X3 hx (hb hby d8_20) (z := (1 : Int32)) rfl rfl ?_
 refine Run.x_iload (q := 23) X3 hx (hb hby d8_21) rfl rfl ?_
 refine Run.x_iconst (q := 24) X3 hx (hb hby d8_23) (z := (0 : Int32)) rfl rfl ?_
 refine Run.x_iload (q := 26) X3 hx (hb hby d8_24) rfl rfl ?_
 refine Run.callV X3 hx hZ e3 (y := (⟨"semblance/JpegScans", "take", "([IIIII)Z"⟩ : MethodName)) (z := (⟨"semblance/JpegScans", "take", "([IIIII)Z"⟩ : MethodName)) hown (wm34 hw) (wm35 hw) (notFace_of_selects (args := #[]) (mvT hZ (wm37 hw))) (wm37 hw) (wm36 hw) (wm2 hw) (wm38 hw) (by decide) (a := this) E_this (argsL := [(.ref cs), (.int 1), (.int ee), (.int 0), (.int bA)]) (rest := []) (c_ac_2_1_0 l Z a0 hw this cs (1 : Int32) ee bA h0 n0 Z0 gr r0 r1 cnt sa f0 f1 1 E E_this F_this_progressive F_this_components F_this_sentTo F_this_count F_this_sentAgain A_gr A_r0 A_r1 A_cs g_this g_r1 ne_this_gr ne_this_r0 ne_this_r1 ne_this_cs ne_gr_r0 ne_gr_r1 ne_gr_cs ne_r0_r1 ne_r0_cs ne_r1_cs (own_cle hcnt (by decide)) rA (by decide) hE (by decide) hE1 hE2 h00 (fun i q1 q2 => by rw [hm1 i q1 (by omega)]; decide)) pd_3 rfl (by rw [hml]; rfl) (W := 0) rfl (by decide) (by decide) (by decide) (by decide) (hb hby d8_26) rfl ?_
 intro T4 v4 L4 X4 q4
 obtain ⟨bb4, rfl, M4, K4, E4, F04, F14, F24, F34, F44, Ar0_4⟩ := q4
 have N4 := Fr.app N3 M4
 show Run p e below s _ _ _ (T4.setTop (mkF m 29 #[.val (.ref this), .val (.ref cs), .val (.int comp), .val (.int ra), .val (.int tb), .val (.int ee), .val (.int bA), .val (.int bB)] [(.int bb4)]))
 have Z4 : n0 ≤ T4.heap.size := Nat.le_trans Z0 K4.1
 replace KP := KP.trans K4 (allS (Or.inl (by simp)) (allS (Or.inl (by simp)) all0))
 refine Run.x_pop (q := 30) X4 hx (hb hby d8_29) rfl rfl ?_
 replace A_gr := A_gr.keep K4 (ninS (Ne.symm ne_this_gr) (ninS ne_gr_r1 nin0))
 replace A_r0 := A_r0.keep K4 (ninS (Ne.symm ne_this_r0) (ninS ne_r0_r1 nin0))
 replace A_cs := A_cs.keep K4 (ninS (Ne.symm ne_this_cs) (ninS (Ne.symm ne_r1_cs) nin0))
 have JG : ∀ (T5 : State) (h5 : Heap) (lo5 : List Loc) (g : Nat → Int32) (ct : Int32), Stand p l e ({ frames := 2, cells := 0, slots := 0, locals := 38 } : Room) s m #[(.ref this), (.ref cs), (.int comp), (.int ra), (.int tb)] below meth c T5 lo5 0 0 → T5.heap = h5 → Fr n0 lo5 → n0 ≤ h5.size → Keep h0 h5 [this, r1] → Exa Z h5 this "semblance/JpegScans" → Ars Z h5 gr (.array .int) [(.ref r0), (.ref r1)] → Ars Z h5 r0 .int (own_row f0) → Ars Z h5 cs .int [(.int 1)] → Fld Z h5 this "semblance/JpegScans" "progressive" "Z" (.int 1) → Fld Z h5 this "semblance/JpegScans" "components" "I" (.int 2) → Fld Z h5 this "semblance/JpegScans" "sentTo" "[[I" (.ref gr) → Fld Z h5 this "semblance/JpegScans" "count" "I" (.int ct) → Fld Z h5 this "semblance/JpegScans" "sentAgain" "Z" (.int sa) → Ars Z h5 r1 .int (own_row g) → (g 0 = f1 0) → (∀ i, 1 ≤ i → i ≤ E → g i = own_AA ra bA) → (∀ i, E < i → i < 64 → g i = -1) → (0 ≤ ct.toInt ∧ ct.toInt ≤ 14) → Run p e below s (fun v h L => ∃ (g : Nat → Int32) (ct : Int32), v = none ∧ Fr n0 L ∧ Keep h0 h [this, r1] ∧ (0 ≤ ct.toInt ∧ ct.toInt ≤ 15) ∧ g 0 = f1 0 ∧ (∀ i, 1 ≤ i → i ≤ E → g i = own_AA ra bA) ∧ (∀ i, E < i → i < 64 → g i = own_BB tb ee bB) ∧ Exa Z h this "semblance/JpegScans" ∧ Fld Z h this "semblance/JpegScans" "progressive" "Z" (.int 1) ∧ Fld Z h this "semblance/JpegScans" "components" "I" (.int 2) ∧ Fld Z h this "semblance/JpegScans" "sentTo" "[[I" (.ref gr) ∧ Fld Z h this "semblance/JpegScans" "count" "I" (.int ct) ∧ Fld Z h this "semblance/JpegScans" "sentAgain" "Z" (.int sa) ∧ Ars Z h r1 .int (own_row g)) ({ frames := 2, cells := 0, slots := 0, locals := 38 } : Room).cells ({ frames := 2, cells := 0, slots := 0, locals := 38 } : Room).slots (T5.setTop (mkF m 55 #[.val (.ref this), .val (.ref cs), .val (.int comp), .val (.int ra), .val (.int tb), .val (.int ee), .val (.int bA), .val (.int bB)] [])) := by
  intro T5 h5 lo5 g ct X5 e5 N5 Z5 KP E4 A_gr A_r0 A_cs F04 F14 F24 F_ct F44 A_g hg0 hgA hgB hct
  refine Run.x_iload (q := 57) X5 hx (hb hby d8_55) rfl rfl ?_
  by_cases hc57 : tb = (0 : Int32)
  ·skip
   refine Run.x_ifYes (q := 82) X5 hx (hb hby d8_57) ((if0 _ _).trans (teq hc57).1) (by decide) (by decide) ?_
   refine Run.retV X5 hx hlk e5 hret (hb hby d8_82) (by decide) (by decide) ?_
   exact ⟨g, ct, rfl, N5, KP, (own_cle hct (by decide)), hg0, hgA, (fun i q1 q2 => (hgB i q1 q2).trans (if_neg (fun q => q.1 hc57)).symm), E4, F04, F14, F24, F_ct, F44, A_g⟩
  ·skip
   refine Run.x_ifNo (q := 60) X5 hx (hb hby d8_57) ((if0 _ _).trans (feq hc57).1) rfl ?_
   refine Run.x_iload (q := 62) X5 hx (hb hby d8_60) rfl rfl ?_
   refine Run.x_bipush (q := 64) X5 hx (hb hby d8_62) (z := (63 : Int32)) rfl rfl ?_
   by_cases hc64 : ee < (63 : Int32)
   ·skip
    refine Run.x_icmpNo (q := 67) X5 hx (hb hby d8_64) (tlt hc64).2.1 rfl ?_
    refine Run.x_aloadN (q := 68) X5 hx (hb hby d8_67) rfl rfl rfl ?_
    refine Run.x_aloadN (q := 69) X5 hx (hb hby d8_68) rfl rfl rfl ?_
    refine Run.x_iload (q := 71) X5 hx (hb hby d8_69) rfl rfl ?_
    refine Run.x_iconst (q := 72) X5 hx (hb hby d8_71) (z := (1 : Int32)) rfl rfl ?_
    refine Run.x_iadd (q := 73) X5 hx (hb hby d8_72) rfl rfl ?_
    refine Run.x_bipush (q := 75) X5 hx (hb hby d8_73) (z := (63 : Int32)) rfl rfl ?_
    refine Run.x_iconst (q := 76) X5 hx (hb hby d8_75) (z := (0 : Int32)) rfl rfl ?_
    refine Run.x_iload (q := 78) X5 hx (hb hby d8_76) rfl rfl ?_
    refine Run.callV X5 hx hZ e5 (y := (⟨"semblance/JpegScans", "take", "([IIIII)Z"⟩ : MethodName)) (z := (⟨"semblance/JpegScans", "take", "([IIIII)Z"⟩ : MethodName)) hown (wm34 hw) (wm35 hw) (notFace_of_selects (args := #[]) (mvT hZ (wm37 hw))) (wm37 hw) (wm36 hw) (wm2 hw) (wm38 hw) (by decide) (a := this) E4 (argsL := [(.ref cs), (.int (ee + (1 : Int32))), (.int 63), (.int 0), (.int bB)]) (rest := []) (c_ac_2_1_0 l Z a0 hw this cs (ee + (1 : Int32)) (63 : Int32) bB h5 n0 Z5 gr r0 r1 ct sa f0 g (E + 1) 63 E4 F04 F14 F24 F_ct F44 A_gr A_r0 A_g A_cs g_this g_r1 ne_this_gr ne_this_r0 ne_this_r1 ne_this_cs ne_gr_r0 ne_gr_r1 ne_gr_cs ne_r0_r1 ne_r0_cs ne_r1_cs (own_cle hct (by decide)) rB (own_ofn hE (by omega)) (by decide) (by omega) (own_e63 hE hc64) (by decide) (by rw [hg0]; exact h00) (fun i q1 q2 => by rw [hgB i (by omega) (by omega)]; decide)) pd_3 rfl (by rw [hml]; rfl) (W := 0) rfl (by decide) (by decide) (by decide) (by decide) (hb hby d8_78) rfl ?_
    intro T6 v6 L6 X6 q6
    obtain ⟨bb6, rfl, M6, K6, E6, F06, F16, F26, F36, F46, Ar0_6⟩ := q6
    have N6 := Fr.app N5 M6
    show Run p e below s _ _ _ (T6.setTop (mkF m 81 #[.val (.ref this), .val (.ref cs), .val (.int comp), .val (.int ra), .val (.int tb), .val (.int ee), .val (.int bA), .val (.int bB)] [(.int bb6)]))
    have Z6 : n0 ≤ T6.heap.size := Nat.le_trans Z5 K6.1
    replace KP := KP.trans K6 (allS (Or.inl (by simp)) (allS (Or.inl (by simp)) all0))
    refine Run.x_pop (q := 82) X6 hx (hb hby d8_81) rfl rfl ?_
    replace A_gr := A_gr.keep K6 (ninS (Ne.symm ne_this_gr) (ninS ne_gr_r1 nin0))
    replace A_r0 := A_r0.keep K6 (ninS (Ne.symm ne_this_r0) (ninS ne_r0_r1 nin0))
    replace A_cs := A_cs.keep K6 (ninS (Ne.symm ne_this_cs) (ninS (Ne.symm ne_r1_cs) nin0))
    refine Run.retV X6 hx hlk rfl hret (hb hby d8_82) (by decide) (by decide) ?_
    exact ⟨(own_put g (E + 1) (63 + 1) bB), (ct + (1 : Int32)), rfl, N6, KP, (own_cle (own_c1 hct (by decide)) (by decide)), (by rw [own_put_out (by omega)]; exact hg0), (fun i q1 q2 => by rw [own_put_out (by omega)]; exact hgA i q1 q2), (fun i q1 q2 => by rw [own_put_in (by omega) (by omega)]; exact (if_pos ⟨hc57, hc64⟩).symm), E6, F06, F16, F26, F36, F46, Ar0_6⟩
   ·skip
    refine Run.x_icmpYes (q := 82) X5 hx (hb hby d8_64) (flt hc64).2.1 (by decide) (by decide) ?_
    refine Run.retV X5 hx hlk e5 hret (hb hby d8_82) (by decide) (by decide) ?_
    exact ⟨g, ct, rfl, N5, KP, (own_cle hct (by decide)), hg0, hgA, (fun i q1 q2 => (hgB i q1 q2).trans (if_neg (fun q => hc64 q.2)).symm), E4, F04, F14, F24, F_ct, F44, A_g⟩
 refine Run.x_iloadN (q := 31) X4 hx (hb hby d8_30) rfl rfl ?_
 by_cases hc31 : ra = (0 : Int32)
 ·skip
  refine Run.x_ifYes (q := 55) X4 hx (hb hby d8_31) ((if0 _ _).trans (teq hc31).1) (by decide) (by decide) ?_
  exact JG T4 _ _ (own_put f1 1 (E + 1) bA) (cnt + (1 : Int32)) X4 rfl N4 Z4 KP E4 A_gr A_r0 A_cs F04 F14 F24 F34 F44 Ar0_4 (by rw [own_put_out (by omega)]) (fun i q1 q2 => by rw [own_put_in q1 (by omega)]; exact (if_neg (fun q => q.1 hc31)).symm) (fun i q1 q2 => by rw [own_put_out (by omega)]; exact hm1 i (by omega) q2) (own_cle hc12 (by decide))
 ·skip
  refine Run.x_ifNo (q := 34) X4 hx (hb hby d8_31) ((if0 _ _).trans (feq hc31).1) rfl ?_
  refine Run.x_iload (q := 36) X4 hx (hb hby d8_34) rfl rfl ?_
  refine Run.x_iconst (q := 37) X4 hx (hb hby d8_36) (z := (1 : Int32)) rfl rfl ?_
  by_cases hc37 : bA < (1 : Int32)
  ·skip
   refine Run.x_icmpYes (q := 55) X4 hx (hb hby d8_37) (tlt hc37).1 (by decide) (by decide) ?_
   exact JG T4 _ _ (own_put f1 1 (E + 1) bA) (cnt + (1 : Int32)) X4 rfl N4 Z4 KP E4 A_gr A_r0 A_cs F04 F14 F24 F34 F44 Ar0_4 (by rw [own_put_out (by omega)]) (fun i q1 q2 => by rw [own_put_in q1 (by omega)]; exact (if_neg (fun q => q.2 hc37)).symm) (fun i q1 q2 => by rw [own_put_out (by omega)]; exact hm1 i (by omega) q2) (own_cle hc12 (by decide))
  ·skip
   refine Run.x_icmpNo (q := 40) X4 hx (hb hby d8_37) (flt hc37).1 rfl ?_
   refine Run.x_aloadN (q := 41) X4 hx (hb hby d8_40) rfl rfl rfl ?_
   refine Run.x_aloadN (q := 42) X4 hx (hb hby d8_41) rfl rfl rfl ?_
   refine Run.x_iconst (q := 43) X4 hx (hb hby d8_42) (z := (1 : Int32)) rfl rfl ?_
   refine Run.x_iload (q := 45) X4 hx (hb hby d8_43) rfl rfl ?_
   refine Run.x_iload (q := 47) X4 hx (hb hby d8_45) rfl rfl ?_
   refine Run.x_iload (q := 49) X4 hx (hb hby d8_47) rfl rfl ?_
   refine Run.x_iconst (q := 50) X4 hx (hb hby d8_49) (z := (1 : Int32)) rfl rfl ?_
   refine Run.x_isub (q := 51) X4 hx (hb hby d8_50) rfl rfl ?_
   refine Run.callV X4 hx hZ rfl (y := (⟨"semblance/JpegScans", "take", "([IIIII)Z"⟩ : MethodName)) (z := (⟨"semblance/JpegScans", "take", "([IIIII)Z"⟩ : MethodName)) hown (wm34 hw) (wm35 hw) (notFace_of_selects (args := #[]) (mvT hZ (wm37 hw))) (wm37 hw) (wm36 hw) (wm2 hw) (wm38 hw) (by decide) (a := this) E4 (argsL := [(.ref cs), (.int 1), (.int ee), (.int bA), (.int (bA - (1 : Int32)))]) (rest := []) (c_ac_2_1_1 l Z a0 hw this cs (1 : Int32) ee bA (bA - (1 : Int32)) T4.heap n0 Z4 gr r0 r1 (cnt + (1 : Int32)) sa f0 (own_put f1 1 (E + 1) bA) 1 E E4 F04 F14 F24 F34 F44 A_gr A_r0 Ar0_4 A_cs g_this g_r1 ne_this_gr ne_this_r0 ne_this_r1 ne_this_cs ne_gr_r0 ne_gr_r1 ne_gr_cs ne_r0_r1 ne_r0_cs ne_r1_cs (own_cle hc12 (by decide)) (own_d1 rA hc37) (by decide) hE (by decide) hE1 hE2 (by rw [own_put_out (by omega)]; exact h00) (fun i q1 q2 => own_mx (own_put_in q1 (by omega)) rA.1) (own_d0 hc37) rfl) pd_3 rfl (by rw [hml]; rfl) (W := 0) rfl (by decide) (by decide) (by decide) (by decide) (hb hby d8_51) rfl ?_
   intro T7 v7 L7 X7 q7
   obtain ⟨bb7, rfl, M7, K7, E7, F07, F17, F27, F37, F47, Ar0_7⟩ := q7
   have N7 := Fr.app N4 M7
   show Run p e below s _ _ _ (T7.setTop (mkF m 54 #[.val (.ref this), .val (.ref cs), .val (.int comp), .val (.int ra), .val (.int tb), .val (.int ee), .val (.int bA), .val (.int bB)] [(.int bb7)]))
   have Z7 : n0 ≤ T7.heap.size := Nat.le_trans Z4 K7.1
   replace KP := KP.trans K7 (allS (Or.inl (by simp)) (allS (Or.inl (by simp)) all0))
   refine Run.x_pop (q := 55) X7 hx (hb hby d8_54) rfl rfl ?_
   replace A_gr := A_gr.keep K7 (ninS (Ne.symm ne_this_gr) (ninS ne_gr_r1 nin0))
   replace A_r0 := A_r0.keep K7 (ninS (Ne.symm ne_this_r0) (ninS ne_r0_r1 nin0))
   replace A_cs := A_cs.keep K7 (ninS (Ne.symm ne_this_cs) (ninS (Ne.symm ne_r1_cs) nin0))
   exact JG T7 _ _ (own_put (own_put f1 1 (E + 1) bA) 1 (E + 1) (bA - (1 : Int32))) ((cnt + (1 : Int32)) + (1 : Int32)) X7 rfl N7 Z7 KP E7 A_gr A_r0 A_cs F07 F17 F27 F37 F47 Ar0_7 (by rw [own_put_out (by omega), own_put_out (by omega)]) (fun i q1 q2 => by rw [own_put_in q1 (by omega)]; exact (if_pos ⟨hc31, hc37⟩).symm) (fun i q1 q2 => by rw [own_put_out (by omega), own_put_out (by omega)]; exact hm1 i (by omega) q2) (own_cle (own_c1 hc12 (by decide)) (by decide))
theorem own_bc {c d : Prop} [Decidable c] [Decidable d] (h : c ↔ d) : own_b c = own_b d := by
 by_cases q : c
 ·rw [own_b1 q, own_b1 (h.mp q)]
 ·rw [own_b0 q, own_b0 (mt h.mpr q)]
theorem d9_0 : decode method_10_code 0 = .ok (.iload_n 0, 1) := by decide +kernel
theorem d9_1 : decode method_10_code 1 = .ok (.invokestatic 44, 3) := by decide +kernel
theorem d9_4 : decode method_10_code 4 = .ok (.istore_n 3, 1) := by decide +kernel
theorem d9_5 : decode method_10_code 5 = .ok (.iload_n 0, 1) := by decide +kernel
theorem d9_6 : decode method_10_code 6 = .ok (.invokestatic 48, 3) := by decide +kernel
theorem d9_9 : decode method_10_code 9 = .ok (.istore 4, 2) := by decide +kernel
theorem d9_11 : decode method_10_code 11 = .ok (.iload_n 0, 1) := by decide +kernel
theorem d9_12 : decode method_10_code 12 = .ok (.invokestatic 51, 3) := by decide +kernel
theorem d9_15 : decode method_10_code 15 = .ok (.istore 5, 2) := by decide +kernel
theorem d9_17 : decode method_10_code 17 = .ok (.iload 4, 2) := by decide +kernel
theorem d9_19 : decode method_10_code 19 = .ok (.ifCond .eq 13, 3) := by decide +kernel
theorem d9_22 : decode method_10_code 22 = .ok (.iload 4, 2) := by decide +kernel
theorem d9_24 : decode method_10_code 24 = .ok (.iconst 1, 1) := by decide +kernel
theorem d9_25 : decode method_10_code 25 = .ok (.if_icmp .ne 11, 3) := by decide +kernel
theorem d9_28 : decode method_10_code 28 = .ok (.iload_n 1, 1) := by decide +kernel
theorem d9_29 : decode method_10_code 29 = .ok (.ifCond .eq 7, 3) := by decide +kernel
theorem d9_32 : decode method_10_code 32 = .ok (.iconst 1, 1) := by decide +kernel
theorem d9_33 : decode method_10_code 33 = .ok (.goto 4, 3) := by decide +kernel
theorem d9_36 : decode method_10_code 36 = .ok (.iconst 0, 1) := by decide +kernel
theorem d9_37 : decode method_10_code 37 = .ok (.istore 6, 2) := by decide +kernel
theorem d9_39 : decode method_10_code 39 = .ok (.iload_n 3, 1) := by decide +kernel
theorem d9_40 : decode method_10_code 40 = .ok (.bipush 63, 2) := by decide +kernel
theorem d9_42 : decode method_10_code 42 = .ok (.if_icmp .eq 12, 3) := by decide +kernel
theorem d9_45 : decode method_10_code 45 = .ok (.iload_n 2, 1) := by decide +kernel
theorem d9_46 : decode method_10_code 46 = .ok (.ifCond .eq 12, 3) := by decide +kernel
theorem d9_49 : decode method_10_code 49 = .ok (.iload 5, 2) := by decide +kernel
theorem d9_51 : decode method_10_code 51 = .ok (.ifCond .ne 7, 3) := by decide +kernel
theorem d9_54 : decode method_10_code 54 = .ok (.iconst 1, 1) := by decide +kernel
theorem d9_55 : decode method_10_code 55 = .ok (.goto 4, 3) := by decide +kernel
theorem d9_58 : decode method_10_code 58 = .ok (.iconst 0, 1) := by decide +kernel
theorem d9_59 : decode method_10_code 59 = .ok (.istore 7, 2) := by decide +kernel
theorem d9_61 : decode method_10_code 61 = .ok (.iload 6, 2) := by decide +kernel
theorem d9_63 : decode method_10_code 63 = .ok (.ifCond .eq 12, 3) := by decide +kernel
theorem d9_66 : decode method_10_code 66 = .ok (.iload 7, 2) := by decide +kernel
theorem d9_68 : decode method_10_code 68 = .ok (.ifCond .eq 7, 3) := by decide +kernel
theorem d9_71 : decode method_10_code 71 = .ok (.iconst 1, 1) := by decide +kernel
theorem d9_72 : decode method_10_code 72 = .ok (.goto 4, 3) := by decide +kernel
theorem d9_75 : decode method_10_code 75 = .ok (.iconst 0, 1) := by decide +kernel
theorem d9_76 : decode method_10_code 76 = .ok (.ireturn, 1) := by decide +kernel
theorem ef_c_done (m : MethodId) (comp : Int32) (ra : Int32) (tb : Int32) : entryFrame m #[(.int comp), (.int ra), (.int tb)] 8 = mkF m 0 #[.val (.int comp), .val (.int ra), .val (.int tb), .unset, .unset, .unset, .unset, .unset] [] := by first | (simp [entryFrame, mkF, argsToLocals, Value.category]; done) | rfl
set_option maxRecDepth 65536 in
set_option maxHeartbeats 40000000 in
theorem c_done (l : Launch) (Z : State) (a0 : Array Value) (hw : ∀ d ∈ tables_1, d.before a0 Z = true) (comp : Int32) (ra : Int32) (tb : Int32) (h0 : Heap) (n0 : Nat) (Z0 : n0 ≤ h0.size) (ee : Int32) (bA : Int32) (bB : Int32) (E : Nat) (hee : own_e comp = ee) (hbA : own_A comp = bA) (hbB : own_B comp = bB) (hE : ee.toInt = E) (hE1 : 1 ≤ E) (hE2 : E ≤ 63) :
  Ctr l Z (⟨"semblance/JpegScansCompletePinLaw", "done", "(IZZ)Z"⟩ : MethodName) method_10_code 8 (some .boolean) ({ frames := 1, cells := 0, slots := 0, locals := 12 } : Room) #[(.int comp), (.int ra), (.int tb)] h0 (PureI h0 n0 (own_b (own_AA ra bA = 0 ∧ (ee = 63 ∨ own_BB tb ee bB = 0)))) := by
 refine Ctr.of (plainFor_of_name pn_2) (fun m => ef_c_done m comp ra tb) ?_
 intro p e s m below meth c T0 hx hby hml hown hnm hret hlk hZ e0 X0
 have N0 := Fr.nil n0
 replace hown : s.vm.findClass "semblance/JpegScansCompletePinLaw" = some m.cls := hown
 replace hml : c.maxLocals = 8 := hml
 have rA := own_A_rg hbA
 refine Run.x_iloadN (q := 1) X0 hx (hb hby d9_0) rfl rfl ?_
 refine Run.callSI (q := 4) X0 hx hZ e0 (y := (⟨"semblance/JpegScansCompletePinLaw", "end", "(I)I"⟩ : MethodName)) hown (wm48 hw) (wm49 hw) (wm24 hw) (wm50 hw) (by decide) (argsL := [(.int comp)]) (rest := []) (c_endm l Z a0 hw comp h0 n0 Z0 ee hee) pd_2 rfl (by rw [hml]; rfl) (W := 0) rfl (by decide) (by decide) (by decide) (by decide) (hb hby d9_1) rfl rfl fun T1 L1 X1 M1 e1 => ?_
 have N1 := Fr.app N0 M1
 refine Run.x_istoreN (q := 5) X1 hx #[.val (.int comp), .val (.int ra), .val (.int tb), .val (.int ee), .unset, .unset, .unset, .unset] (hb hby d9_4) rfl rfl ?_
 refine Run.x_iloadN (q := 6) X1 hx (hb hby d9_5) rfl rfl ?_
 refine Run.callSI (q := 9) X1 hx hZ e1 (y := (⟨"semblance/JpegScansCompletePinLaw", "bitA", "(I)I"⟩ : MethodName)) hown (wm51 hw) (wm52 hw) (wm24 hw) (wm53 hw) (by decide) (argsL := [(.int comp)]) (rest := []) (c_bitA l Z a0 hw comp h0 n0 Z0 bA hbA) pd_2 rfl (by rw [hml]; rfl) (W := 0) rfl (by decide) (by decide) (by decide) (by decide) (hb hby d9_6) rfl rfl fun T2 L2 X2 M2 e2 => ?_
 have N2 := Fr.app N1 M2
 refine Run.x_istore (q := 11) X2 hx #[.val (.int comp), .val (.int ra), .val (.int tb), .val (.int ee), .val (.int bA), .unset, .unset, .unset] (hb hby d9_9) rfl rfl ?_
 refine Run.x_iloadN (q := 12) X2 hx (hb hby d9_11) rfl rfl ?_
 refine Run.callSI (q := 15) X2 hx hZ e2 (y := (⟨"semblance/JpegScansCompletePinLaw", "bitB", "(I)I"⟩ : MethodName)) hown (wm55 hw) (wm56 hw) (wm24 hw) (wm57 hw) (by decide) (argsL := [(.int comp)]) (rest := []) (c_bitB l Z a0 hw comp h0 n0 Z0 bB hbB) pd_2 rfl (by rw [hml]; rfl) (W := 0) rfl (by decide) (by decide) (by decide) (by decide) (hb hby d9_12) rfl rfl fun T3 L3 X3 M3 e3 => ?_
 have N3 := Fr.app N2 M3
 refine Run.x_istore (q := 17) X3 hx #[.val (.int comp), .val (.int ra), .val (.int tb), .val (.int ee), .val (.int bA), .val (.int bB), .unset, .unset] (hb hby d9_15) rfl rfl ?_
 refine Run.x_iload (q := 19) X3 hx (hb hby d9_17) rfl rfl ?_
 by_cases hc19 : bA = (0 : Int32)
 ·skip
  refine Run.x_ifYes (q := 32) X3 hx (hb hby d9_19) ((if0 _ _).trans (teq hc19).1) (by decide) (by decide) ?_
  refine Run.x_iconst (q := 33) X3 hx (hb hby d9_32) (z := (1 : Int32)) rfl rfl ?_
  refine Run.x_goto (q := 37) X3 hx (hb hby d9_33) (by decide) (by decide) ?_
  refine Run.x_istore (q := 39) X3 hx #[.val (.int comp), .val (.int ra), .val (.int tb), .val (.int ee), .val (.int bA), .val (.int bB), .val (.int 1), .unset] (hb hby d9_37) rfl rfl ?_
  refine Run.x_iloadN (q := 40) X3 hx (hb hby d9_39) rfl rfl ?_
  refine Run.x_bipush (q := 42) X3 hx (hb hby d9_40) (z := (63 : Int32)) rfl rfl ?_
  by_cases hc42 : ee = (63 : Int32)
  ·skip
   refine Run.x_icmpYes (q := 54) X3 hx (hb hby d9_42) (teq hc42).1 (by decide) (by decide) ?_
   refine Run.x_iconst (q := 55) X3 hx (hb hby d9_54) (z := (1 : Int32)) rfl rfl ?_
   refine Run.x_goto (q := 59) X3 hx (hb hby d9_55) (by decide) (by decide) ?_
   refine Run.x_istore (q := 61) X3 hx #[.val (.int comp), .val (.int ra), .val (.int tb), .val (.int ee), .val (.int bA), .val (.int bB), .val (.int 1), .val (.int 1)] (hb hby d9_59) rfl rfl ?_
   refine Run.x_iload (q := 63) X3 hx (hb hby d9_61) rfl rfl ?_
   refine Run.x_ifNo (q := 66) X3 hx (hb hby d9_63) ((if0 _ _).trans (feq (by decide : ¬ ((1 : Int32) = (0 : Int32)))).1) rfl ?_
   refine Run.x_iload (q := 68) X3 hx (hb hby d9_66) rfl rfl ?_
   refine Run.x_ifNo (q := 71) X3 hx (hb hby d9_68) ((if0 _ _).trans (feq (by decide : ¬ ((1 : Int32) = (0 : Int32)))).1) rfl ?_
   refine Run.x_iconst (q := 72) X3 hx (hb hby d9_71) (z := (1 : Int32)) rfl rfl ?_
   refine Run.x_goto (q := 76) X3 hx (hb hby d9_72) (by decide) (by decide) ?_
   refine Run.retN X3 hx hlk e3 (t := .boolean) hret (by simp) (z' := (1 : Int32)) (by decide) (hb hby d9_76) (by decide) (by decide) ?_
   refine PureI.mk ?_ N3
   rw [own_bc (and_congr (own_AA0 rA) (own_BB0 hE hE2))]
   exact (own_b1 (by simp_all)).symm
  ·skip
   refine Run.x_icmpNo (q := 45) X3 hx (hb hby d9_42) (feq hc42).1 rfl ?_
   refine Run.x_iloadN (q := 46) X3 hx (hb hby d9_45) rfl rfl ?_
   by_cases hc46 : tb = (0 : Int32)
   ·skip
    refine Run.x_ifYes (q := 58) X3 hx (hb hby d9_46) ((if0 _ _).trans (teq hc46).1) (by decide) (by decide) ?_
    refine Run.x_iconst (q := 59) X3 hx (hb hby d9_58) (z := (0 : Int32)) rfl rfl ?_
    refine Run.x_istore (q := 61) X3 hx #[.val (.int comp), .val (.int ra), .val (.int tb), .val (.int ee), .val (.int bA), .val (.int bB), .val (.int 1), .val (.int 0)] (hb hby d9_59) rfl rfl ?_
    refine Run.x_iload (q := 63) X3 hx (hb hby d9_61) rfl rfl ?_
    refine Run.x_ifNo (q := 66) X3 hx (hb hby d9_63) ((if0 _ _).trans (feq (by decide : ¬ ((1 : Int32) = (0 : Int32)))).1) rfl ?_
    refine Run.x_iload (q := 68) X3 hx (hb hby d9_66) rfl rfl ?_
    refine Run.x_ifYes (q := 75) X3 hx (hb hby d9_68) ((if0 _ _).trans (teq (by decide : (0 : Int32) = (0 : Int32))).1) (by decide) (by decide) ?_
    refine Run.x_iconst (q := 76) X3 hx (hb hby d9_75) (z := (0 : Int32)) rfl rfl ?_
    refine Run.retN X3 hx hlk e3 (t := .boolean) hret (by simp) (z' := (0 : Int32)) (by decide) (hb hby d9_76) (by decide) (by decide) ?_
    refine PureI.mk ?_ N3
    rw [own_bc (and_congr (own_AA0 rA) (own_BB0 hE hE2))]
    exact (own_b0 (by simp_all)).symm
   ·skip
    refine Run.x_ifNo (q := 49) X3 hx (hb hby d9_46) ((if0 _ _).trans (feq hc46).1) rfl ?_
    refine Run.x_iload (q := 51) X3 hx (hb hby d9_49) rfl rfl ?_
    by_cases hc51 : bB = (0 : Int32)
    ·skip
     refine Run.x_ifNo (q := 54) X3 hx (hb hby d9_51) ((if0 _ _).trans (teq hc51).2) rfl ?_
     refine Run.x_iconst (q := 55) X3 hx (hb hby d9_54) (z := (1 : Int32)) rfl rfl ?_
     refine Run.x_goto (q := 59) X3 hx (hb hby d9_55) (by decide) (by decide) ?_
     refine Run.x_istore (q := 61) X3 hx #[.val (.int comp), .val (.int ra), .val (.int tb), .val (.int ee), .val (.int bA), .val (.int bB), .val (.int 1), .val (.int 1)] (hb hby d9_59) rfl rfl ?_
     refine Run.x_iload (q := 63) X3 hx (hb hby d9_61) rfl rfl ?_
     refine Run.x_ifNo (q := 66) X3 hx (hb hby d9_63) ((if0 _ _).trans (feq (by decide : ¬ ((1 : Int32) = (0 : Int32)))).1) rfl ?_
     refine Run.x_iload (q := 68) X3 hx (hb hby d9_66) rfl rfl ?_
     refine Run.x_ifNo (q := 71) X3 hx (hb hby d9_68) ((if0 _ _).trans (feq (by decide : ¬ ((1 : Int32) = (0 : Int32)))).1) rfl ?_
     refine Run.x_iconst (q := 72) X3 hx (hb hby d9_71) (z := (1 : Int32)) rfl rfl ?_
     refine Run.x_goto (q := 76) X3 hx (hb hby d9_72) (by decide) (by decide) ?_
     refine Run.retN X3 hx hlk e3 (t := .boolean) hret (by simp) (z' := (1 : Int32)) (by decide) (hb hby d9_76) (by decide) (by decide) ?_
     refine PureI.mk ?_ N3
     rw [own_bc (and_congr (own_AA0 rA) (own_BB0 hE hE2))]
     exact (own_b1 (by simp_all)).symm
    ·skip
     refine Run.x_ifYes (q := 58) X3 hx (hb hby d9_51) ((if0 _ _).trans (feq hc51).2) (by decide) (by decide) ?_
     refine Run.x_iconst (q := 59) X3 hx (hb hby d9_58) (z := (0 : Int32)) rfl rfl ?_
     refine Run.x_istore (q := 61) X3 hx #[.val (.int comp), .val (.int ra), .val (.int tb), .val (.int ee), .val (.int bA), .val (.int bB), .val (.int 1), .val (.int 0)] (hb hby d9_59) rfl rfl ?_
     refine Run.x_iload (q := 63) X3 hx (hb hby d9_61) rfl rfl ?_
     refine Run.x_ifNo (q := 66) X3 hx (hb hby d9_63) ((if0 _ _).trans (feq (by decide : ¬ ((1 : Int32) = (0 : Int32)))).1) rfl ?_
     refine Run.x_iload (q := 68) X3 hx (hb hby d9_66) rfl rfl ?_
     refine Run.x_ifYes (q := 75) X3 hx (hb hby d9_68) ((if0 _ _).trans (teq (by decide : (0 : Int32) = (0 : Int32))).1) (by decide) (by decide) ?_
     refine Run.x_iconst (q := 76) X3 hx (hb hby d9_75) (z := (0 : Int32)) rfl rfl ?_
     refine Run.retN X3 hx hlk e3 (t := .boolean) hret (by simp) (z' := (0 : Int32)) (by decide) (hb hby d9_76) (by decide) (by decide) ?_
     refine PureI.mk ?_ N3
     rw [own_bc (and_congr (own_AA0 rA) (own_BB0 hE hE2))]
     exact (own_b0 (by simp_all)).symm
 ·skip
  refine Run.x_ifNo (q := 22) X3 hx (hb hby d9_19) ((if0 _ _).trans (feq hc19).1) rfl ?_
  refine Run.x_iload (q := 24) X3 hx (hb hby d9_22) rfl rfl ?_
  refine Run.x_iconst (q := 25) X3 hx (hb hby d9_24) (z := (1 : Int32)) rfl rfl ?_
  by_cases hc25 : bA = (1 : Int32)
  ·skip
   refine Run.x_icmpNo (q := 28) X3 hx (hb hby d9_25) (teq hc25).2 rfl ?_
   refine Run.x_iloadN (q := 29) X3 hx (hb hby d9_28) rfl rfl ?_
   by_cases hc29 : ra = (0 : Int32)
   ·skip
    refine Run.x_ifYes (q := 36) X3 hx (hb hby d9_29) ((if0 _ _).trans (teq hc29).1) (by decide) (by decide) ?_
    refine Run.x_iconst (q := 37) X3 hx (hb hby d9_36) (z := (0 : Int32)) rfl rfl ?_
    refine Run.x_istore (q := 39) X3 hx #[.val (.int comp), .val (.int ra), .val (.int tb), .val (.int ee), .val (.int bA), .val (.int bB), .val (.int 0), .unset] (hb hby d9_37) rfl rfl ?_
    refine Run.x_iloadN (q := 40) X3 hx (hb hby d9_39) rfl rfl ?_
    refine Run.x_bipush (q := 42) X3 hx (hb hby d9_40) (z := (63 : Int32)) rfl rfl ?_
    by_cases hc42 : ee = (63 : Int32)
    ·skip
     refine Run.x_icmpYes (q := 54) X3 hx (hb hby d9_42) (teq hc42).1 (by decide) (by decide) ?_
     refine Run.x_iconst (q := 55) X3 hx (hb hby d9_54) (z := (1 : Int32)) rfl rfl ?_
     refine Run.x_goto (q := 59) X3 hx (hb hby d9_55) (by decide) (by decide) ?_
     refine Run.x_istore (q := 61) X3 hx #[.val (.int comp), .val (.int ra), .val (.int tb), .val (.int ee), .val (.int bA), .val (.int bB), .val (.int 0), .val (.int 1)] (hb hby d9_59) rfl rfl ?_
     refine Run.x_iload (q := 63) X3 hx (hb hby d9_61) rfl rfl ?_
     refine Run.x_ifYes (q := 75) X3 hx (hb hby d9_63) ((if0 _ _).trans (teq (by decide : (0 : Int32) = (0 : Int32))).1) (by decide) (by decide) ?_
     refine Run.x_iconst (q := 76) X3 hx (hb hby d9_75) (z := (0 : Int32)) rfl rfl ?_
     refine Run.retN X3 hx hlk e3 (t := .boolean) hret (by simp) (z' := (0 : Int32)) (by decide) (hb hby d9_76) (by decide) (by decide) ?_
     refine PureI.mk ?_ N3
     rw [own_bc (and_congr (own_AA0 rA) (own_BB0 hE hE2))]
     exact (own_b0 (by simp_all)).symm
    ·skip
     refine Run.x_icmpNo (q := 45) X3 hx (hb hby d9_42) (feq hc42).1 rfl ?_
     refine Run.x_iloadN (q := 46) X3 hx (hb hby d9_45) rfl rfl ?_
     by_cases hc46 : tb = (0 : Int32)
     ·skip
      refine Run.x_ifYes (q := 58) X3 hx (hb hby d9_46) ((if0 _ _).trans (teq hc46).1) (by decide) (by decide) ?_
      refine Run.x_iconst (q := 59) X3 hx (hb hby d9_58) (z := (0 : Int32)) rfl rfl ?_
      refine Run.x_istore (q := 61) X3 hx #[.val (.int comp), .val (.int ra), .val (.int tb), .val (.int ee), .val (.int bA), .val (.int bB), .val (.int 0), .val (.int 0)] (hb hby d9_59) rfl rfl ?_
      refine Run.x_iload (q := 63) X3 hx (hb hby d9_61) rfl rfl ?_
      refine Run.x_ifYes (q := 75) X3 hx (hb hby d9_63) ((if0 _ _).trans (teq (by decide : (0 : Int32) = (0 : Int32))).1) (by decide) (by decide) ?_
      refine Run.x_iconst (q := 76) X3 hx (hb hby d9_75) (z := (0 : Int32)) rfl rfl ?_
      refine Run.retN X3 hx hlk e3 (t := .boolean) hret (by simp) (z' := (0 : Int32)) (by decide) (hb hby d9_76) (by decide) (by decide) ?_
      refine PureI.mk ?_ N3
      rw [own_bc (and_congr (own_AA0 rA) (own_BB0 hE hE2))]
      exact (own_b0 (by simp_all)).symm
     ·skip
      refine Run.x_ifNo (q := 49) X3 hx (hb hby d9_46) ((if0 _ _).trans (feq hc46).1) rfl ?_
      refine Run.x_iload (q := 51) X3 hx (hb hby d9_49) rfl rfl ?_
      by_cases hc51 : bB = (0 : Int32)
      ·skip
       refine Run.x_ifNo (q := 54) X3 hx (hb hby d9_51) ((if0 _ _).trans (teq hc51).2) rfl ?_
       refine Run.x_iconst (q := 55) X3 hx (hb hby d9_54) (z := (1 : Int32)) rfl rfl ?_
       refine Run.x_goto (q := 59) X3 hx (hb hby d9_55) (by decide) (by decide) ?_
       refine Run.x_istore (q := 61) X3 hx #[.val (.int comp), .val (.int ra), .val (.int tb), .val (.int ee), .val (.int bA), .val (.int bB), .val (.int 0), .val (.int 1)] (hb hby d9_59) rfl rfl ?_
       refine Run.x_iload (q := 63) X3 hx (hb hby d9_61) rfl rfl ?_
       refine Run.x_ifYes (q := 75) X3 hx (hb hby d9_63) ((if0 _ _).trans (teq (by decide : (0 : Int32) = (0 : Int32))).1) (by decide) (by decide) ?_
       refine Run.x_iconst (q := 76) X3 hx (hb hby d9_75) (z := (0 : Int32)) rfl rfl ?_
       refine Run.retN X3 hx hlk e3 (t := .boolean) hret (by simp) (z' := (0 : Int32)) (by decide) (hb hby d9_76) (by decide) (by decide) ?_
       refine PureI.mk ?_ N3
       rw [own_bc (and_congr (own_AA0 rA) (own_BB0 hE hE2))]
       exact (own_b0 (by simp_all)).symm
      ·skip
       refine Run.x_ifYes (q := 58) X3 hx (hb hby d9_51) ((if0 _ _).trans (feq hc51).2) (by decide) (by decide) ?_
       refine Run.x_iconst (q := 59) X3 hx (hb hby d9_58) (z := (0 : Int32)) rfl rfl ?_
       refine Run.x_istore (q := 61) X3 hx #[.val (.int comp), .val (.int ra), .val (.int tb), .val (.int ee), .val (.int bA), .val (.int bB), .val (.int 0), .val (.int 0)] (hb hby d9_59) rfl rfl ?_
       refine Run.x_iload (q := 63) X3 hx (hb hby d9_61) rfl rfl ?_
       refine Run.x_ifYes (q := 75) X3 hx (hb hby d9_63) ((if0 _ _).trans (teq (by decide : (0 : Int32) = (0 : Int32))).1) (by decide) (by decide) ?_
       refine Run.x_iconst (q := 76) X3 hx (hb hby d9_75) (z := (0 : Int32)) rfl rfl ?_
       refine Run.retN X3 hx hlk e3 (t := .boolean) hret (by simp) (z' := (0 : Int32)) (by decide) (hb hby d9_76) (by decide) (by decide) ?_
       refine PureI.mk ?_ N3
       rw [own_bc (and_congr (own_AA0 rA) (own_BB0 hE hE2))]
       exact (own_b0 (by simp_all)).symm
   ·skip
    refine Run.x_ifNo (q := 32) X3 hx (hb hby d9_29) ((if0 _ _).trans (feq hc29).1) rfl ?_
    refine Run.x_iconst (q := 33) X3 hx (hb hby d9_32) (z := (1 : Int32)) rfl rfl ?_
    refine Run.x_goto (q := 37) X3 hx (hb hby d9_33) (by decide) (by decide) ?_
    refine Run.x_istore (q := 39) X3 hx #[.val (.int comp), .val (.int ra), .val (.int tb), .val (.int ee), .val (.int bA), .val (.int bB), .val (.int 1), .unset] (hb hby d9_37) rfl rfl ?_
    refine Run.x_iloadN (q := 40) X3 hx (hb hby d9_39) rfl rfl ?_
    refine Run.x_bipush (q := 42) X3 hx (hb hby d9_40) (z := (63 : Int32)) rfl rfl ?_
    by_cases hc42 : ee = (63 : Int32)
    ·skip
     refine Run.x_icmpYes (q := 54) X3 hx (hb hby d9_42) (teq hc42).1 (by decide) (by decide) ?_
     refine Run.x_iconst (q := 55) X3 hx (hb hby d9_54) (z := (1 : Int32)) rfl rfl ?_
     refine Run.x_goto (q := 59) X3 hx (hb hby d9_55) (by decide) (by decide) ?_
     refine Run.x_istore (q := 61) X3 hx #[.val (.int comp), .val (.int ra), .val (.int tb), .val (.int ee), .val (.int bA), .val (.int bB), .val (.int 1), .val (.int 1)] (hb hby d9_59) rfl rfl ?_
     refine Run.x_iload (q := 63) X3 hx (hb hby d9_61) rfl rfl ?_
     refine Run.x_ifNo (q := 66) X3 hx (hb hby d9_63) ((if0 _ _).trans (feq (by decide : ¬ ((1 : Int32) = (0 : Int32)))).1) rfl ?_
     refine Run.x_iload (q := 68) X3 hx (hb hby d9_66) rfl rfl ?_
     refine Run.x_ifNo (q := 71) X3 hx (hb hby d9_68) ((if0 _ _).trans (feq (by decide : ¬ ((1 : Int32) = (0 : Int32)))).1) rfl ?_
     refine Run.x_iconst (q := 72) X3 hx (hb hby d9_71) (z := (1 : Int32)) rfl rfl ?_
     refine Run.x_goto (q := 76) X3 hx (hb hby d9_72) (by decide) (by decide) ?_
     refine Run.retN X3 hx hlk e3 (t := .boolean) hret (by simp) (z' := (1 : Int32)) (by decide) (hb hby d9_76) (by decide) (by decide) ?_
     refine PureI.mk ?_ N3
     rw [own_bc (and_congr (own_AA0 rA) (own_BB0 hE hE2))]
     exact (own_b1 (by simp_all)).symm
    ·skip
     refine Run.x_icmpNo (q := 45) X3 hx (hb hby d9_42) (feq hc42).1 rfl ?_
     refine Run.x_iloadN (q := 46) X3 hx (hb hby d9_45) rfl rfl ?_
     by_cases hc46 : tb = (0 : Int32)
     ·skip
      refine Run.x_ifYes (q := 58) X3 hx (hb hby d9_46) ((if0 _ _).trans (teq hc46).1) (by decide) (by decide) ?_
      refine Run.x_iconst (q := 59) X3 hx (hb hby d9_58) (z := (0 : Int32)) rfl rfl ?_
      refine Run.x_istore (q := 61) X3 hx #[.val (.int comp), .val (.int ra), .val (.int tb), .val (.int ee), .val (.int bA), .val (.int bB), .val (.int 1), .val (.int 0)] (hb hby d9_59) rfl rfl ?_
      refine Run.x_iload (q := 63) X3 hx (hb hby d9_61) rfl rfl ?_
      refine Run.x_ifNo (q := 66) X3 hx (hb hby d9_63) ((if0 _ _).trans (feq (by decide : ¬ ((1 : Int32) = (0 : Int32)))).1) rfl ?_
      refine Run.x_iload (q := 68) X3 hx (hb hby d9_66) rfl rfl ?_
      refine Run.x_ifYes (q := 75) X3 hx (hb hby d9_68) ((if0 _ _).trans (teq (by decide : (0 : Int32) = (0 : Int32))).1) (by decide) (by decide) ?_
      refine Run.x_iconst (q := 76) X3 hx (hb hby d9_75) (z := (0 : Int32)) rfl rfl ?_
      refine Run.retN X3 hx hlk e3 (t := .boolean) hret (by simp) (z' := (0 : Int32)) (by decide) (hb hby d9_76) (by decide) (by decide) ?_
      refine PureI.mk ?_ N3
      rw [own_bc (and_congr (own_AA0 rA) (own_BB0 hE hE2))]
      exact (own_b0 (by simp_all)).symm
     ·skip
      refine Run.x_ifNo (q := 49) X3 hx (hb hby d9_46) ((if0 _ _).trans (feq hc46).1) rfl ?_
      refine Run.x_iload (q := 51) X3 hx (hb hby d9_49) rfl rfl ?_
      by_cases hc51 : bB = (0 : Int32)
      ·skip
       refine Run.x_ifNo (q := 54) X3 hx (hb hby d9_51) ((if0 _ _).trans (teq hc51).2) rfl ?_
       refine Run.x_iconst (q := 55) X3 hx (hb hby d9_54) (z := (1 : Int32)) rfl rfl ?_
       refine Run.x_goto (q := 59) X3 hx (hb hby d9_55) (by decide) (by decide) ?_
       refine Run.x_istore (q := 61) X3 hx #[.val (.int comp), .val (.int ra), .val (.int tb), .val (.int ee), .val (.int bA), .val (.int bB), .val (.int 1), .val (.int 1)] (hb hby d9_59) rfl rfl ?_
       refine Run.x_iload (q := 63) X3 hx (hb hby d9_61) rfl rfl ?_
       refine Run.x_ifNo (q := 66) X3 hx (hb hby d9_63) ((if0 _ _).trans (feq (by decide : ¬ ((1 : Int32) = (0 : Int32)))).1) rfl ?_
       refine Run.x_iload (q := 68) X3 hx (hb hby d9_66) rfl rfl ?_
       refine Run.x_ifNo (q := 71) X3 hx (hb hby d9_68) ((if0 _ _).trans (feq (by decide : ¬ ((1 : Int32) = (0 : Int32)))).1) rfl ?_
       refine Run.x_iconst (q := 72) X3 hx (hb hby d9_71) (z := (1 : Int32)) rfl rfl ?_
       refine Run.x_goto (q := 76) X3 hx (hb hby d9_72) (by decide) (by decide) ?_
       refine Run.retN X3 hx hlk e3 (t := .boolean) hret (by simp) (z' := (1 : Int32)) (by decide) (hb hby d9_76) (by decide) (by decide) ?_
       refine PureI.mk ?_ N3
       rw [own_bc (and_congr (own_AA0 rA) (own_BB0 hE hE2))]
       exact (own_b1 (by simp_all)).symm
      ·skip
       refine Run.x_ifYes (q := 58) X3 hx (hb hby d9_51) ((if0 _ _).trans (feq hc51).2) (by decide) (by decide) ?_
       refine Run.x_iconst (q := 59) X3 hx (hb hby d9_58) (z := (0 : Int32)) rfl rfl ?_
       refine Run.x_istore (q := 61) X3 hx #[.val (.int comp), .val (.int ra), .val (.int tb), .val (.int ee), .val (.int bA), .val (.int bB), .val (.int 1), .val (.int 0)] (hb hby d9_59) rfl rfl ?_
       refine Run.x_iload (q := 63) X3 hx (hb hby d9_61) rfl rfl ?_
       refine Run.x_ifNo (q := 66) X3 hx (hb hby d9_63) ((if0 _ _).trans (feq (by decide : ¬ ((1 : Int32) = (0 : Int32)))).1) rfl ?_
       refine Run.x_iload (q := 68) X3 hx (hb hby d9_66) rfl rfl ?_
       refine Run.x_ifYes (q := 75) X3 hx (hb hby d9_68) ((if0 _ _).trans (teq (by decide : (0 : Int32) = (0 : Int32))).1) (by decide) (by decide) ?_
       refine Run.x_iconst (q := 76) X3 hx (hb hby d9_75) (z := (0 : Int32)) rfl rfl ?_
       refine Run.retN X3 hx hlk e3 (t := .boolean) hret (by simp) (z' := (0 : Int32)) (by decide) (hb hby d9_76) (by decide) (by decide) ?_
       refine PureI.mk ?_ N3
       rw [own_bc (and_congr (own_AA0 rA) (own_BB0 hE hE2))]
       exact (own_b0 (by simp_all)).symm
  ·skip
   refine Run.x_icmpYes (q := 36) X3 hx (hb hby d9_25) (feq hc25).2 (by decide) (by decide) ?_
   refine Run.x_iconst (q := 37) X3 hx (hb hby d9_36) (z := (0 : Int32)) rfl rfl ?_
   refine Run.x_istore (q := 39) X3 hx #[.val (.int comp), .val (.int ra), .val (.int tb), .val (.int ee), .val (.int bA), .val (.int bB), .val (.int 0), .unset] (hb hby d9_37) rfl rfl ?_
   refine Run.x_iloadN (q := 40) X3 hx (hb hby d9_39) rfl rfl ?_
   refine Run.x_bipush (q := 42) X3 hx (hb hby d9_40) (z := (63 : Int32)) rfl rfl ?_
   by_cases hc42 : ee = (63 : Int32)
   ·skip
    refine Run.x_icmpYes (q := 54) X3 hx (hb hby d9_42) (teq hc42).1 (by decide) (by decide) ?_
    refine Run.x_iconst (q := 55) X3 hx (hb hby d9_54) (z := (1 : Int32)) rfl rfl ?_
    refine Run.x_goto (q := 59) X3 hx (hb hby d9_55) (by decide) (by decide) ?_
    refine Run.x_istore (q := 61) X3 hx #[.val (.int comp), .val (.int ra), .val (.int tb), .val (.int ee), .val (.int bA), .val (.int bB), .val (.int 0), .val (.int 1)] (hb hby d9_59) rfl rfl ?_
    refine Run.x_iload (q := 63) X3 hx (hb hby d9_61) rfl rfl ?_
    refine Run.x_ifYes (q := 75) X3 hx (hb hby d9_63) ((if0 _ _).trans (teq (by decide : (0 : Int32) = (0 : Int32))).1) (by decide) (by decide) ?_
    refine Run.x_iconst (q := 76) X3 hx (hb hby d9_75) (z := (0 : Int32)) rfl rfl ?_
    refine Run.retN X3 hx hlk e3 (t := .boolean) hret (by simp) (z' := (0 : Int32)) (by decide) (hb hby d9_76) (by decide) (by decide) ?_
    refine PureI.mk ?_ N3
    rw [own_bc (and_congr (own_AA0 rA) (own_BB0 hE hE2))]
    exact (own_b0 (by simp_all)).symm
   ·skip
    refine Run.x_icmpNo (q := 45) X3 hx (hb hby d9_42) (feq hc42).1 rfl ?_
    refine Run.x_iloadN (q := 46) X3 hx (hb hby d9_45) rfl rfl ?_
    by_cases hc46 : tb = (0 : Int32)
    ·skip
     refine Run.x_ifYes (q := 58) X3 hx (hb hby d9_46) ((if0 _ _).trans (teq hc46).1) (by decide) (by decide) ?_
     refine Run.x_iconst (q := 59) X3 hx (hb hby d9_58) (z := (0 : Int32)) rfl rfl ?_
     refine Run.x_istore (q := 61) X3 hx #[.val (.int comp), .val (.int ra), .val (.int tb), .val (.int ee), .val (.int bA), .val (.int bB), .val (.int 0), .val (.int 0)] (hb hby d9_59) rfl rfl ?_
     refine Run.x_iload (q := 63) X3 hx (hb hby d9_61) rfl rfl ?_
     refine Run.x_ifYes (q := 75) X3 hx (hb hby d9_63) ((if0 _ _).trans (teq (by decide : (0 : Int32) = (0 : Int32))).1) (by decide) (by decide) ?_
     refine Run.x_iconst (q := 76) X3 hx (hb hby d9_75) (z := (0 : Int32)) rfl rfl ?_
     refine Run.retN X3 hx hlk e3 (t := .boolean) hret (by simp) (z' := (0 : Int32)) (by decide) (hb hby d9_76) (by decide) (by decide) ?_
     refine PureI.mk ?_ N3
     rw [own_bc (and_congr (own_AA0 rA) (own_BB0 hE hE2))]
     exact (own_b0 (by simp_all)).symm
    ·skip
     refine Run.x_ifNo (q := 49) X3 hx (hb hby d9_46) ((if0 _ _).trans (feq hc46).1) rfl ?_
     refine Run.x_iload (q := 51) X3 hx (hb hby d9_49) rfl rfl ?_
     by_cases hc51 : bB = (0 : Int32)
     ·skip
      refine Run.x_ifNo (q := 54) X3 hx (hb hby d9_51) ((if0 _ _).trans (teq hc51).2) rfl ?_
      refine Run.x_iconst (q := 55) X3 hx (hb hby d9_54) (z := (1 : Int32)) rfl rfl ?_
      refine Run.x_goto (q := 59) X3 hx (hb hby d9_55) (by decide) (by decide) ?_
      refine Run.x_istore (q := 61) X3 hx #[.val (.int comp), .val (.int ra), .val (.int tb), .val (.int ee), .val (.int bA), .val (.int bB), .val (.int 0), .val (.int 1)] (hb hby d9_59) rfl rfl ?_
      refine Run.x_iload (q := 63) X3 hx (hb hby d9_61) rfl rfl ?_
      refine Run.x_ifYes (q := 75) X3 hx (hb hby d9_63) ((if0 _ _).trans (teq (by decide : (0 : Int32) = (0 : Int32))).1) (by decide) (by decide) ?_
      refine Run.x_iconst (q := 76) X3 hx (hb hby d9_75) (z := (0 : Int32)) rfl rfl ?_
      refine Run.retN X3 hx hlk e3 (t := .boolean) hret (by simp) (z' := (0 : Int32)) (by decide) (hb hby d9_76) (by decide) (by decide) ?_
      refine PureI.mk ?_ N3
      rw [own_bc (and_congr (own_AA0 rA) (own_BB0 hE hE2))]
      exact (own_b0 (by simp_all)).symm
     ·skip
      refine Run.x_ifYes (q := 58) X3 hx (hb hby d9_51) ((if0 _ _).trans (feq hc51).2) (by decide) (by decide) ?_
      refine Run.x_iconst (q := 59) X3 hx (hb hby d9_58) (z := (0 : Int32)) rfl rfl ?_
      refine Run.x_istore (q := 61) X3 hx #[.val (.int comp), .val (.int ra), .val (.int tb), .val (.int ee), .val (.int bA), .val (.int bB), .val (.int 0), .val (.int 0)] (hb hby d9_59) rfl rfl ?_
      refine Run.x_iload (q := 63) X3 hx (hb hby d9_61) rfl rfl ?_
      refine Run.x_ifYes (q := 75) X3 hx (hb hby d9_63) ((if0 _ _).trans (teq (by decide : (0 : Int32) = (0 : Int32))).1) (by decide) (by decide) ?_
      refine Run.x_iconst (q := 76) X3 hx (hb hby d9_75) (z := (0 : Int32)) rfl rfl ?_
      refine Run.retN X3 hx hlk e3 (t := .boolean) hret (by simp) (z' := (0 : Int32)) (by decide) (hb hby d9_76) (by decide) (by decide) ?_
      refine PureI.mk ?_ N3
      rw [own_bc (and_congr (own_AA0 rA) (own_BB0 hE hE2))]
      exact (own_b0 (by simp_all)).symm
theorem d10_0 : decode prog_41_method_3_code 0 = .ok (.aload_n 0, 1) := by decide +kernel
theorem d10_1 : decode prog_41_method_3_code 1 = .ok (.getfield 38, 3) := by decide +kernel
theorem d10_4 : decode prog_41_method_3_code 4 = .ok (.ifCond .eq 5, 3) := by decide +kernel
theorem d10_7 : decode prog_41_method_3_code 7 = .ok (.iconst 0, 1) := by decide +kernel
theorem d10_8 : decode prog_41_method_3_code 8 = .ok (.ireturn, 1) := by decide +kernel
theorem d10_9 : decode prog_41_method_3_code 9 = .ok (.aload_n 0, 1) := by decide +kernel
theorem d10_10 : decode prog_41_method_3_code 10 = .ok (.getfield 19, 3) := by decide +kernel
theorem d10_13 : decode prog_41_method_3_code 13 = .ok (.astore_n 1, 1) := by decide +kernel
theorem d10_14 : decode prog_41_method_3_code 14 = .ok (.aload_n 1, 1) := by decide +kernel
theorem d10_15 : decode prog_41_method_3_code 15 = .ok (.arraylength, 1) := by decide +kernel
theorem d10_16 : decode prog_41_method_3_code 16 = .ok (.istore_n 2, 1) := by decide +kernel
theorem d10_17 : decode prog_41_method_3_code 17 = .ok (.iconst 0, 1) := by decide +kernel
theorem d10_18 : decode prog_41_method_3_code 18 = .ok (.istore_n 3, 1) := by decide +kernel
theorem d10_19 : decode prog_41_method_3_code 19 = .ok (.iload_n 3, 1) := by decide +kernel
theorem d10_20 : decode prog_41_method_3_code 20 = .ok (.iload_n 2, 1) := by decide +kernel
theorem d10_21 : decode prog_41_method_3_code 21 = .ok (.if_icmp .ge 53, 3) := by decide +kernel
theorem d10_24 : decode prog_41_method_3_code 24 = .ok (.aload_n 1, 1) := by decide +kernel
theorem d10_25 : decode prog_41_method_3_code 25 = .ok (.iload_n 3, 1) := by decide +kernel
theorem d10_26 : decode prog_41_method_3_code 26 = .ok (.aaload, 1) := by decide +kernel
theorem d10_27 : decode prog_41_method_3_code 27 = .ok (.astore 4, 2) := by decide +kernel
theorem d10_29 : decode prog_41_method_3_code 29 = .ok (.aload 4, 2) := by decide +kernel
theorem d10_31 : decode prog_41_method_3_code 31 = .ok (.astore 5, 2) := by decide +kernel
theorem d10_33 : decode prog_41_method_3_code 33 = .ok (.aload 5, 2) := by decide +kernel
theorem d10_35 : decode prog_41_method_3_code 35 = .ok (.arraylength, 1) := by decide +kernel
theorem d10_36 : decode prog_41_method_3_code 36 = .ok (.istore 6, 2) := by decide +kernel
theorem d10_38 : decode prog_41_method_3_code 38 = .ok (.iconst 0, 1) := by decide +kernel
theorem d10_39 : decode prog_41_method_3_code 39 = .ok (.istore 7, 2) := by decide +kernel
theorem d10_41 : decode prog_41_method_3_code 41 = .ok (.iload 7, 2) := by decide +kernel
theorem d10_43 : decode prog_41_method_3_code 43 = .ok (.iload 6, 2) := by decide +kernel
theorem d10_45 : decode prog_41_method_3_code 45 = .ok (.if_icmp .ge 23, 3) := by decide +kernel
theorem d10_48 : decode prog_41_method_3_code 48 = .ok (.aload 5, 2) := by decide +kernel
theorem d10_50 : decode prog_41_method_3_code 50 = .ok (.iload 7, 2) := by decide +kernel
theorem d10_52 : decode prog_41_method_3_code 52 = .ok (.iaload, 1) := by decide +kernel
theorem d10_53 : decode prog_41_method_3_code 53 = .ok (.istore 8, 2) := by decide +kernel
theorem d10_55 : decode prog_41_method_3_code 55 = .ok (.iload 8, 2) := by decide +kernel
theorem d10_57 : decode prog_41_method_3_code 57 = .ok (.ifCond .eq 5, 3) := by decide +kernel
theorem d10_60 : decode prog_41_method_3_code 60 = .ok (.iconst 0, 1) := by decide +kernel
theorem d10_61 : decode prog_41_method_3_code 61 = .ok (.ireturn, 1) := by decide +kernel
theorem d10_62 : decode prog_41_method_3_code 62 = .ok (.iinc 7 1, 3) := by decide +kernel
theorem d10_65 : decode prog_41_method_3_code 65 = .ok (.goto (-24), 3) := by decide +kernel
theorem d10_68 : decode prog_41_method_3_code 68 = .ok (.iinc 3 1, 3) := by decide +kernel
theorem d10_71 : decode prog_41_method_3_code 71 = .ok (.goto (-52), 3) := by decide +kernel
theorem d10_74 : decode prog_41_method_3_code 74 = .ok (.iconst 1, 1) := by decide +kernel
theorem d10_75 : decode prog_41_method_3_code 75 = .ok (.ireturn, 1) := by decide +kernel
theorem ef_c_cmp_1 (m : MethodId) (this : Addr) : entryFrame m #[(.ref this)] 9 = mkF m 0 #[.val (.ref this), .unset, .unset, .unset, .unset, .unset, .unset, .unset, .unset] [] := by first | (simp [entryFrame, mkF, argsToLocals, Value.category]; done) | rfl
set_option maxRecDepth 65536 in
set_option maxHeartbeats 40000000 in
theorem c_cmp_1 (l : Launch) (Z : State) (a0 : Array Value) (hw : ∀ d ∈ tables_1, d.before a0 Z = true) (this : Addr) (h0 : Heap) (n0 : Nat) (Z0 : n0 ≤ h0.size) (gr : Addr) (r0 : Addr) (sa : Int32) (z : Int32) (f0 : Nat → Int32) (E_this : Exa Z h0 this "semblance/JpegScans") (F_this_sentTo : Fld Z h0 this "semblance/JpegScans" "sentTo" "[[I" (.ref gr)) (F_this_sentAgain : Fld Z h0 this "semblance/JpegScans" "sentAgain" "Z" (.int sa)) (A_gr : Ars Z h0 gr (.array .int) [(.ref r0)]) (A_r0 : Ars Z h0 r0 .int (own_row f0)) (hz1 : (sa = 0 ∧ own_z f0) → z = 1) (hz0 : ¬ (sa = 0 ∧ own_z f0) → z = 0) :
  Ctr l Z (⟨"semblance/JpegScans", "complete", "()Z"⟩ : MethodName) prog_41_method_3_code 9 (some .boolean) ({ frames := 0, cells := 0, slots := 0, locals := 0 } : Room) #[(.ref this)] h0 (PureI h0 n0 z) := by
 refine Ctr.of (plainFor_of_name pn_1) (fun m => ef_c_cmp_1 m this) ?_
 intro p e s m below meth c T0 hx hby hml hown hnm hret hlk hZ e0 X0
 have N0 := Fr.nil n0
 replace hown : s.vm.findClass "semblance/JpegScans" = some m.cls := hown
 replace hml : c.maxLocals = 9 := hml
 refine Run.x_aloadN (q := 1) X0 hx (hb hby d10_0) rfl rfl rfl ?_
 refine Run.z_getF (q := 4) X0 hx hZ e0 hown (wm31 hw) F_this_sentAgain (hb hby d10_1) rfl fun T1 X1 e1 => ?_
 by_cases hc4 : sa = (0 : Int32)
 ·skip
  refine Run.x_ifYes (q := 9) X1 hx (hb hby d10_4) ((if0 _ _).trans (teq hc4).1) (by decide) (by decide) ?_
  refine Run.x_aloadN (q := 10) X1 hx (hb hby d10_9) rfl rfl rfl ?_
  refine Run.z_getF (q := 13) X1 hx hZ e1 hown (wm16 hw) F_this_sentTo (hb hby d10_10) rfl fun T2 X2 e2 => ?_
  refine Run.x_astoreN (q := 14) X2 hx #[.val (.ref this), .val (.ref gr), .unset, .unset, .unset, .unset, .unset, .unset, .unset] (hb hby d10_13) rfl rfl rfl ?_
  refine Run.x_aloadN (q := 15) X2 hx (hb hby d10_14) rfl rfl rfl ?_
  refine Run.y_alen (q := 16) X2 hx hZ e2 A_gr (z := (1 : Int32)) rfl (hb hby d10_15) rfl ?_
  refine Run.x_istoreN (q := 17) X2 hx #[.val (.ref this), .val (.ref gr), .val (.int 1), .unset, .unset, .unset, .unset, .unset, .unset] (hb hby d10_16) rfl rfl ?_
  refine Run.x_iconst (q := 18) X2 hx (hb hby d10_17) (z := (0 : Int32)) rfl rfl ?_
  refine Run.x_istoreN (q := 19) X2 hx #[.val (.ref this), .val (.ref gr), .val (.int 1), .val (.int 0), .unset, .unset, .unset, .unset, .unset] (hb hby d10_18) rfl rfl ?_
  refine Run.x_iloadN (q := 20) X2 hx (hb hby d10_19) rfl rfl ?_
  refine Run.x_iloadN (q := 21) X2 hx (hb hby d10_20) rfl rfl ?_
  refine Run.x_icmpNo (q := 24) X2 hx (hb hby d10_21) (tlt (by decide : (0 : Int32) < (1 : Int32))).2.1 rfl ?_
  refine Run.x_aloadN (q := 25) X2 hx (hb hby d10_24) rfl rfl rfl ?_
  refine Run.x_iloadN (q := 26) X2 hx (hb hby d10_25) rfl rfl ?_
  refine Run.y_ldR (q := 27) X2 hx hZ e2 A_gr (i := 0) (v := (.ref r0)) (by decide) rfl rfl (hb hby d10_26) rfl ?_
  refine Run.x_astore (q := 29) X2 hx #[.val (.ref this), .val (.ref gr), .val (.int 1), .val (.int 0), .val (.ref r0), .unset, .unset, .unset, .unset] (hb hby d10_27) rfl rfl rfl ?_
  refine Run.x_aload (q := 31) X2 hx (hb hby d10_29) rfl rfl rfl ?_
  refine Run.x_astore (q := 33) X2 hx #[.val (.ref this), .val (.ref gr), .val (.int 1), .val (.int 0), .val (.ref r0), .val (.ref r0), .unset, .unset, .unset] (hb hby d10_31) rfl rfl rfl ?_
  refine Run.x_aload (q := 35) X2 hx (hb hby d10_33) rfl rfl rfl ?_
  refine Run.y_alen (q := 36) X2 hx hZ e2 A_r0 (z := (64 : Int32)) (by rw [own_row_len]; rfl) (hb hby d10_35) rfl ?_
  refine Run.x_istore (q := 38) X2 hx #[.val (.ref this), .val (.ref gr), .val (.int 1), .val (.int 0), .val (.ref r0), .val (.ref r0), .val (.int 64), .unset, .unset] (hb hby d10_36) rfl rfl ?_
  refine Run.x_iconst (q := 39) X2 hx (hb hby d10_38) (z := (0 : Int32)) rfl rfl ?_
  refine Run.x_istore (q := 41) X2 hx #[.val (.ref this), .val (.ref gr), .val (.int 1), .val (.int 0), .val (.ref r0), .val (.ref r0), .val (.int 64), .val (.int 0), .unset] (hb hby d10_39) rfl rfl ?_
  have loop0 : ∀ (k t : Nat) (tv : Int32) (z8 : Slot), (z8 = .unset ∨ ∃ x : Int32, z8 = .val (.int x)) → tv.toInt = t → t + k = 64 → (∀ i, i < t → f0 i = 0) → Run p e below s (PureI h0 n0 z) ({ frames := 0, cells := 0, slots := 0, locals := 0 } : Room).cells ({ frames := 0, cells := 0, slots := 0, locals := 0 } : Room).slots (T2.setTop (mkF m 41 #[.val (.ref this), .val (.ref gr), .val (.int 1), .val (.int 0), .val (.ref r0), .val (.ref r0), .val (.int 64), .val (.int tv), z8] [])) := by
   intro k
   induction k with
   | zero =>
    intro t tv z8 hz8 htv hk hpre
    have hall0 : own_z f0 := fun i hi => hpre i (by omega)
    refine Run.x_iload (q := 43) X2 hx (hb hby d10_41) rfl rfl ?_
    refine Run.x_iload (q := 45) X2 hx (hb hby d10_43) rfl rfl ?_
    refine Run.x_icmpYes (q := 68) X2 hx (hb hby d10_45) (flt (by rw [lt32, own_t64]; omega)).2.1 (by decide) (by decide) ?_
    refine Run.x_iinc (q := 71) X2 hx #[.val (.ref this), .val (.ref gr), .val (.int 1), .val (.int 1), .val (.ref r0), .val (.ref r0), .val (.int 64), .val (.int tv), z8] (hb hby d10_68) rfl (z := (1 : Int32)) (by decide) rfl rfl ?_
    refine Run.x_goto (q := 19) X2 hx (hb hby d10_71) (by decide) (by decide) ?_
    refine Run.x_iloadN (q := 20) X2 hx (hb hby d10_19) rfl rfl ?_
    refine Run.x_iloadN (q := 21) X2 hx (hb hby d10_20) rfl rfl ?_
    refine Run.x_icmpYes (q := 74) X2 hx (hb hby d10_21) (flt (by decide : ¬ ((1 : Int32) < (1 : Int32)))).2.1 (by decide) (by decide) ?_
    refine Run.x_iconst (q := 75) X2 hx (hb hby d10_74) (z := (1 : Int32)) rfl rfl ?_
    refine Run.retN X2 hx hlk e2 (t := .boolean) hret (by simp) (z' := (1 : Int32)) (by decide) (hb hby d10_75) (by decide) (by decide) ?_
    exact PureI.mk (by exact (hz1 ⟨hc4, hall0⟩).symm) N0
   | succ k ih =>
    intro t tv z8 hz8 htv hk hpre
    refine Run.x_iload (q := 43) X2 hx (hb hby d10_41) rfl rfl ?_
    refine Run.x_iload (q := 45) X2 hx (hb hby d10_43) rfl rfl ?_
    refine Run.x_icmpNo (q := 48) X2 hx (hb hby d10_45) (tlt (by rw [lt32, own_t64]; omega)).2.1 rfl ?_
    refine Run.x_aload (q := 50) X2 hx (hb hby d10_48) rfl rfl rfl ?_
    refine Run.x_iload (q := 52) X2 hx (hb hby d10_50) rfl rfl ?_
    refine Run.y_ldI (q := 53) X2 hx hZ e2 A_r0 (i := t) (v := (.int (f0 t))) htv (own_row_at (by omega)) (hb hby d10_52) rfl ?_
    refine Run.x_istore (q := 55) X2 hx #[.val (.ref this), .val (.ref gr), .val (.int 1), .val (.int 0), .val (.ref r0), .val (.ref r0), .val (.int 64), .val (.int tv), .val (.int (f0 t))] (hb hby d10_53) (by rcases hz8 with rfl | ⟨x, rfl⟩ <;> rfl) rfl ?_
    refine Run.x_iload (q := 57) X2 hx (hb hby d10_55) rfl rfl ?_
    by_cases hc57 : (f0 t) = (0 : Int32)
    ·skip
     refine Run.x_ifYes (q := 62) X2 hx (hb hby d10_57) ((if0 _ _).trans (teq hc57).1) (by decide) (by decide) ?_
     refine Run.x_iinc (q := 65) X2 hx #[.val (.ref this), .val (.ref gr), .val (.int 1), .val (.int 0), .val (.ref r0), .val (.ref r0), .val (.int 64), .val (.int (tv + (1 : Int32))), .val (.int (f0 t))] (hb hby d10_62) rfl (z := (tv + (1 : Int32))) rfl rfl rfl ?_
     refine Run.x_goto (q := 41) X2 hx (hb hby d10_65) (by decide) (by decide) ?_
     exact ih (t + 1) _ _ (Or.inr ⟨_, rfl⟩) (own_ofn htv (by omega)) (by omega) (own_zs hpre hc57)
    ·skip
     refine Run.x_ifNo (q := 60) X2 hx (hb hby d10_57) ((if0 _ _).trans (feq hc57).1) rfl ?_
     refine Run.x_iconst (q := 61) X2 hx (hb hby d10_60) (z := (0 : Int32)) rfl rfl ?_
     refine Run.retN X2 hx hlk e2 (t := .boolean) hret (by simp) (z' := (0 : Int32)) (by decide) (hb hby d10_61) (by decide) (by decide) ?_
     exact PureI.mk (by exact (hz0 (fun h => hc57 (h.2 t (by omega)))).symm) N0
  exact loop0 64 0 _ _ (Or.inl rfl) (by decide) (by decide) (fun i hi => absurd hi (by omega))
 ·skip
  refine Run.x_ifNo (q := 7) X1 hx (hb hby d10_4) ((if0 _ _).trans (feq hc4).1) rfl ?_
  refine Run.x_iconst (q := 8) X1 hx (hb hby d10_7) (z := (0 : Int32)) rfl rfl ?_
  refine Run.retN X1 hx hlk e1 (t := .boolean) hret (by simp) (z' := (0 : Int32)) (by decide) (hb hby d10_8) (by decide) (by decide) ?_
  exact PureI.mk (by exact (hz0 (fun h => hc4 h.1)).symm) N0
theorem ef_c_cmp_2 (m : MethodId) (this : Addr) : entryFrame m #[(.ref this)] 9 = mkF m 0 #[.val (.ref this), .unset, .unset, .unset, .unset, .unset, .unset, .unset, .unset] [] := by first | (simp [entryFrame, mkF, argsToLocals, Value.category]; done) | rfl
set_option maxRecDepth 65536 in
set_option maxHeartbeats 40000000 in
theorem c_cmp_2 (l : Launch) (Z : State) (a0 : Array Value) (hw : ∀ d ∈ tables_1, d.before a0 Z = true) (this : Addr) (h0 : Heap) (n0 : Nat) (Z0 : n0 ≤ h0.size) (gr : Addr) (r0 : Addr) (r1 : Addr) (sa : Int32) (z : Int32) (f0 : Nat → Int32) (f1 : Nat → Int32) (E_this : Exa Z h0 this "semblance/JpegScans") (F_this_sentTo : Fld Z h0 this "semblance/JpegScans" "sentTo" "[[I" (.ref gr)) (F_this_sentAgain : Fld Z h0 this "semblance/JpegScans" "sentAgain" "Z" (.int sa)) (A_gr : Ars Z h0 gr (.array .int) [(.ref r0), (.ref r1)]) (A_r0 : Ars Z h0 r0 .int (own_row f0)) (A_r1 : Ars Z h0 r1 .int (own_row f1)) (hz1 : (sa = 0 ∧ own_z f0 ∧ own_z f1) → z = 1) (hz0 : ¬ (sa = 0 ∧ own_z f0 ∧ own_z f1) → z = 0) :
  Ctr l Z (⟨"semblance/JpegScans", "complete", "()Z"⟩ : MethodName) prog_41_method_3_code 9 (some .boolean) ({ frames := 0, cells := 0, slots := 0, locals := 0 } : Room) #[(.ref this)] h0 (PureI h0 n0 z) := by
 refine Ctr.of (plainFor_of_name pn_1) (fun m => ef_c_cmp_2 m this) ?_
 intro p e s m below meth c T0 hx hby hml hown hnm hret hlk hZ e0 X0
 have N0 := Fr.nil n0
 replace hown : s.vm.findClass "semblance/JpegScans" = some m.cls := hown
 replace hml : c.maxLocals = 9 := hml
 refine Run.x_aloadN (q := 1) X0 hx (hb hby d10_0) rfl rfl rfl ?_
 refine Run.z_getF (q := 4) X0 hx hZ e0 hown (wm31 hw) F_this_sentAgain (hb hby d10_1) rfl fun T1 X1 e1 => ?_
 by_cases hc4 : sa = (0 : Int32)
 ·skip
  refine Run.x_ifYes (q := 9) X1 hx (hb hby d10_4) ((if0 _ _).trans (teq hc4).1) (by decide) (by decide) ?_
  refine Run.x_aloadN (q := 10) X1 hx (hb hby d10_9) rfl rfl rfl ?_
  refine Run.z_getF (q := 13) X1 hx hZ e1 hown (wm16 hw) F_this_sentTo (hb hby d10_10) rfl fun T2 X2 e2 => ?_
  refine Run.x_astoreN (q := 14) X2 hx #[.val (.ref this), .val (.ref gr), .unset, .unset, .unset, .unset, .unset, .unset, .unset] (hb hby d10_13) rfl rfl rfl ?_
  refine Run.x_aloadN (q := 15) X2 hx (hb hby d10_14) rfl rfl rfl ?_
  refine Run.y_alen (q := 16) X2 hx hZ e2 A_gr (z := (2 : Int32)) rfl (hb hby d10_15) rfl ?_
  refine Run.x_istoreN (q := 17) X2 hx #[.val (.ref this), .val (.ref gr), .val (.int 2), .unset, .unset, .unset, .unset, .unset, .unset] (hb hby d10_16) rfl rfl ?_
  refine Run.x_iconst (q := 18) X2 hx (hb hby d10_17) (z := (0 : Int32)) rfl rfl ?_
  refine Run.x_istoreN (q := 19) X2 hx #[.val (.ref this), .val (.ref gr), .val (.int 2), .val (.int 0), .unset, .unset, .unset, .unset, .unset] (hb hby d10_18) rfl rfl ?_
  refine Run.x_iloadN (q := 20) X2 hx (hb hby d10_19) rfl rfl ?_
  refine Run.x_iloadN (q := 21) X2 hx (hb hby d10_20) rfl rfl ?_
  refine Run.x_icmpNo (q := 24) X2 hx (hb hby d10_21) (tlt (by decide : (0 : Int32) < (2 : Int32))).2.1 rfl ?_
  refine Run.x_aloadN (q := 25) X2 hx (hb hby d10_24) rfl rfl rfl ?_
  refine Run.x_iloadN (q := 26) X2 hx (hb hby d10_25) rfl rfl ?_
  refine Run.y_ldR (q := 27) X2 hx hZ e2 A_gr (i := 0) (v := (.ref r0)) (by decide) rfl rfl (hb hby d10_26) rfl ?_
  refine Run.x_astore (q := 29) X2 hx #[.val (.ref this), .val (.ref gr), .val (.int 2), .val (.int 0), .val (.ref r0), .unset, .unset, .unset, .unset] (hb hby d10_27) rfl rfl rfl ?_
  refine Run.x_aload (q := 31) X2 hx (hb hby d10_29) rfl rfl rfl ?_
  refine Run.x_astore (q := 33) X2 hx #[.val (.ref this), .val (.ref gr), .val (.int 2), .val (.int 0), .val (.ref r0), .val (.ref r0), .unset, .unset, .unset] (hb hby d10_31) rfl rfl rfl ?_
  refine Run.x_aload (q := 35) X2 hx (hb hby d10_33) rfl rfl rfl ?_
  refine Run.y_alen (q := 36) X2 hx hZ e2 A_r0 (z := (64 : Int32)) (by rw [own_row_len]; rfl) (hb hby d10_35) rfl ?_
  refine Run.x_istore (q := 38) X2 hx #[.val (.ref this), .val (.ref gr), .val (.int 2), .val (.int 0), .val (.ref r0), .val (.ref r0), .val (.int 64), .unset, .unset] (hb hby d10_36) rfl rfl ?_
  refine Run.x_iconst (q := 39) X2 hx (hb hby d10_38) (z := (0 : Int32)) rfl rfl ?_
  refine Run.x_istore (q := 41) X2 hx #[.val (.ref this), .val (.ref gr), .val (.int 2), .val (.int 0), .val (.ref r0), .val (.ref r0), .val (.int 64), .val (.int 0), .unset] (hb hby d10_39) rfl rfl ?_
  have loop0 : ∀ (k t : Nat) (tv : Int32) (z8 : Slot), (z8 = .unset ∨ ∃ x : Int32, z8 = .val (.int x)) → tv.toInt = t → t + k = 64 → (∀ i, i < t → f0 i = 0) → Run p e below s (PureI h0 n0 z) ({ frames := 0, cells := 0, slots := 0, locals := 0 } : Room).cells ({ frames := 0, cells := 0, slots := 0, locals := 0 } : Room).slots (T2.setTop (mkF m 41 #[.val (.ref this), .val (.ref gr), .val (.int 2), .val (.int 0), .val (.ref r0), .val (.ref r0), .val (.int 64), .val (.int tv), z8] [])) := by
   intro k
   induction k with
   | zero =>
    intro t tv z8 hz8 htv hk hpre
    have hall0 : own_z f0 := fun i hi => hpre i (by omega)
    refine Run.x_iload (q := 43) X2 hx (hb hby d10_41) rfl rfl ?_
    refine Run.x_iload (q := 45) X2 hx (hb hby d10_43) rfl rfl ?_
    refine Run.x_icmpYes (q := 68) X2 hx (hb hby d10_45) (flt (by rw [lt32, own_t64]; omega)).2.1 (by decide) (by decide) ?_
    refine Run.x_iinc (q := 71) X2 hx #[.val (.ref this), .val (.ref gr), .val (.int 2), .val (.int 1), .val (.ref r0), .val (.ref r0), .val (.int 64), .val (.int tv), z8] (hb hby d10_68) rfl (z := (1 : Int32)) (by decide) rfl rfl ?_
    refine Run.x_goto (q := 19) X2 hx (hb hby d10_71) (by decide) (by decide) ?_
    refine Run.x_iloadN (q := 20) X2 hx (hb hby d10_19) rfl rfl ?_
    refine Run.x_iloadN (q := 21) X2 hx (hb hby d10_20) rfl rfl ?_
    refine Run.x_icmpNo (q := 24) X2 hx (hb hby d10_21) (tlt (by decide : (1 : Int32) < (2 : Int32))).2.1 rfl ?_
    refine Run.x_aloadN (q := 25) X2 hx (hb hby d10_24) rfl rfl rfl ?_
    refine Run.x_iloadN (q := 26) X2 hx (hb hby d10_25) rfl rfl ?_
    refine Run.y_ldR (q := 27) X2 hx hZ e2 A_gr (i := 1) (v := (.ref r1)) (by decide) rfl rfl (hb hby d10_26) rfl ?_
    refine Run.x_astore (q := 29) X2 hx #[.val (.ref this), .val (.ref gr), .val (.int 2), .val (.int 1), .val (.ref r1), .val (.ref r0), .val (.int 64), .val (.int tv), z8] (hb hby d10_27) rfl rfl rfl ?_
    refine Run.x_aload (q := 31) X2 hx (hb hby d10_29) rfl rfl rfl ?_
    refine Run.x_astore (q := 33) X2 hx #[.val (.ref this), .val (.ref gr), .val (.int 2), .val (.int 1), .val (.ref r1), .val (.ref r1), .val (.int 64), .val (.int tv), z8] (hb hby d10_31) rfl rfl rfl ?_
    refine Run.x_aload (q := 35) X2 hx (hb hby d10_33) rfl rfl rfl ?_
    refine Run.y_alen (q := 36) X2 hx hZ e2 A_r1 (z := (64 : Int32)) (by rw [own_row_len]; rfl) (hb hby d10_35) rfl ?_
    refine Run.x_istore (q := 38) X2 hx #[.val (.ref this), .val (.ref gr), .val (.int 2), .val (.int 1), .val (.ref r1), .val (.ref r1), .val (.int 64), .val (.int tv), z8] (hb hby d10_36) rfl rfl ?_
    refine Run.x_iconst (q := 39) X2 hx (hb hby d10_38) (z := (0 : Int32)) rfl rfl ?_
    refine Run.x_istore (q := 41) X2 hx #[.val (.ref this), .val (.ref gr), .val (.int 2), .val (.int 1), .val (.ref r1), .val (.ref r1), .val (.int 64), .val (.int 0), z8] (hb hby d10_39) rfl rfl ?_
    have loop1 : ∀ (k t : Nat) (tv : Int32) (z8 : Slot), (z8 = .unset ∨ ∃ x : Int32, z8 = .val (.int x)) → tv.toInt = t → t + k = 64 → (∀ i, i < t → f1 i = 0) → Run p e below s (PureI h0 n0 z) ({ frames := 0, cells := 0, slots := 0, locals := 0 } : Room).cells ({ frames := 0, cells := 0, slots := 0, locals := 0 } : Room).slots (T2.setTop (mkF m 41 #[.val (.ref this), .val (.ref gr), .val (.int 2), .val (.int 1), .val (.ref r1), .val (.ref r1), .val (.int 64), .val (.int tv), z8] [])) := by
     intro k
     induction k with
     | zero =>
      intro t tv z8 hz8 htv hk hpre
      have hall1 : own_z f1 := fun i hi => hpre i (by omega)
      refine Run.x_iload (q := 43) X2 hx (hb hby d10_41) rfl rfl ?_
      refine Run.x_iload (q := 45) X2 hx (hb hby d10_43) rfl rfl ?_
      refine Run.x_icmpYes (q := 68) X2 hx (hb hby d10_45) (flt (by rw [lt32, own_t64]; omega)).2.1 (by decide) (by decide) ?_
      refine Run.x_iinc (q := 71) X2 hx #[.val (.ref this), .val (.ref gr), .val (.int 2), .val (.int 2), .val (.ref r1), .val (.ref r1), .val (.int 64), .val (.int tv), z8] (hb hby d10_68) rfl (z := (2 : Int32)) (by decide) rfl rfl ?_
      refine Run.x_goto (q := 19) X2 hx (hb hby d10_71) (by decide) (by decide) ?_
      refine Run.x_iloadN (q := 20) X2 hx (hb hby d10_19) rfl rfl ?_
      refine Run.x_iloadN (q := 21) X2 hx (hb hby d10_20) rfl rfl ?_
      refine Run.x_icmpYes (q := 74) X2 hx (hb hby d10_21) (flt (by decide : ¬ ((2 : Int32) < (2 : Int32)))).2.1 (by decide) (by decide) ?_
      refine Run.x_iconst (q := 75) X2 hx (hb hby d10_74) (z := (1 : Int32)) rfl rfl ?_
      refine Run.retN X2 hx hlk e2 (t := .boolean) hret (by simp) (z' := (1 : Int32)) (by decide) (hb hby d10_75) (by decide) (by decide) ?_
      exact PureI.mk (by exact (hz1 ⟨hc4, hall0, hall1⟩).symm) N0
     | succ k ih =>
      intro t tv z8 hz8 htv hk hpre
      refine Run.x_iload (q := 43) X2 hx (hb hby d10_41) rfl rfl ?_
      refine Run.x_iload (q := 45) X2 hx (hb hby d10_43) rfl rfl ?_
      refine Run.x_icmpNo (q := 48) X2 hx (hb hby d10_45) (tlt (by rw [lt32, own_t64]; omega)).2.1 rfl ?_
      refine Run.x_aload (q := 50) X2 hx (hb hby d10_48) rfl rfl rfl ?_
      refine Run.x_iload (q := 52) X2 hx (hb hby d10_50) rfl rfl ?_
      refine Run.y_ldI (q := 53) X2 hx hZ e2 A_r1 (i := t) (v := (.int (f1 t))) htv (own_row_at (by omega)) (hb hby d10_52) rfl ?_
      refine Run.x_istore (q := 55) X2 hx #[.val (.ref this), .val (.ref gr), .val (.int 2), .val (.int 1), .val (.ref r1), .val (.ref r1), .val (.int 64), .val (.int tv), .val (.int (f1 t))] (hb hby d10_53) (by rcases hz8 with rfl | ⟨x, rfl⟩ <;> rfl) rfl ?_
      refine Run.x_iload (q := 57) X2 hx (hb hby d10_55) rfl rfl ?_
      by_cases hc57 : (f1 t) = (0 : Int32)
      ·skip
       refine Run.x_ifYes (q := 62) X2 hx (hb hby d10_57) ((if0 _ _).trans (teq hc57).1) (by decide) (by decide) ?_
       refine Run.x_iinc (q := 65) X2 hx #[.val (.ref this), .val (.ref gr), .val (.int 2), .val (.int 1), .val (.ref r1), .val (.ref r1), .val (.int 64), .val (.int (tv + (1 : Int32))), .val (.int (f1 t))] (hb hby d10_62) rfl (z := (tv + (1 : Int32))) rfl rfl rfl ?_
       refine Run.x_goto (q := 41) X2 hx (hb hby d10_65) (by decide) (by decide) ?_
       exact ih (t + 1) _ _ (Or.inr ⟨_, rfl⟩) (own_ofn htv (by omega)) (by omega) (own_zs hpre hc57)
      ·skip
       refine Run.x_ifNo (q := 60) X2 hx (hb hby d10_57) ((if0 _ _).trans (feq hc57).1) rfl ?_
       refine Run.x_iconst (q := 61) X2 hx (hb hby d10_60) (z := (0 : Int32)) rfl rfl ?_
       refine Run.retN X2 hx hlk e2 (t := .boolean) hret (by simp) (z' := (0 : Int32)) (by decide) (hb hby d10_61) (by decide) (by decide) ?_
       exact PureI.mk (by exact (hz0 (fun h => hc57 (h.2.2 t (by omega)))).symm) N0
    exact loop1 64 0 _ _ hz8 (by decide) (by decide) (fun i hi => absurd hi (by omega))
   | succ k ih =>
    intro t tv z8 hz8 htv hk hpre
    refine Run.x_iload (q := 43) X2 hx (hb hby d10_41) rfl rfl ?_
    refine Run.x_iload (q := 45) X2 hx (hb hby d10_43) rfl rfl ?_
    refine Run.x_icmpNo (q := 48) X2 hx (hb hby d10_45) (tlt (by rw [lt32, own_t64]; omega)).2.1 rfl ?_
    refine Run.x_aload (q := 50) X2 hx (hb hby d10_48) rfl rfl rfl ?_
    refine Run.x_iload (q := 52) X2 hx (hb hby d10_50) rfl rfl ?_
    refine Run.y_ldI (q := 53) X2 hx hZ e2 A_r0 (i := t) (v := (.int (f0 t))) htv (own_row_at (by omega)) (hb hby d10_52) rfl ?_
    refine Run.x_istore (q := 55) X2 hx #[.val (.ref this), .val (.ref gr), .val (.int 2), .val (.int 0), .val (.ref r0), .val (.ref r0), .val (.int 64), .val (.int tv), .val (.int (f0 t))] (hb hby d10_53) (by rcases hz8 with rfl | ⟨x, rfl⟩ <;> rfl) rfl ?_
    refine Run.x_iload (q := 57) X2 hx (hb hby d10_55) rfl rfl ?_
    by_cases hc57 : (f0 t) = (0 : Int32)
    ·skip
     refine Run.x_ifYes (q := 62) X2 hx (hb hby d10_57) ((if0 _ _).trans (teq hc57).1) (by decide) (by decide) ?_
     refine Run.x_iinc (q := 65) X2 hx #[.val (.ref this), .val (.ref gr), .val (.int 2), .val (.int 0), .val (.ref r0), .val (.ref r0), .val (.int 64), .val (.int (tv + (1 : Int32))), .val (.int (f0 t))] (hb hby d10_62) rfl (z := (tv + (1 : Int32))) rfl rfl rfl ?_
     refine Run.x_goto (q := 41) X2 hx (hb hby d10_65) (by decide) (by decide) ?_
     exact ih (t + 1) _ _ (Or.inr ⟨_, rfl⟩) (own_ofn htv (by omega)) (by omega) (own_zs hpre hc57)
    ·skip
     refine Run.x_ifNo (q := 60) X2 hx (hb hby d10_57) ((if0 _ _).trans (feq hc57).1) rfl ?_
     refine Run.x_iconst (q := 61) X2 hx (hb hby d10_60) (z := (0 : Int32)) rfl rfl ?_
     refine Run.retN X2 hx hlk e2 (t := .boolean) hret (by simp) (z' := (0 : Int32)) (by decide) (hb hby d10_61) (by decide) (by decide) ?_
     exact PureI.mk (by exact (hz0 (fun h => hc57 (h.2.1 t (by omega)))).symm) N0
  exact loop0 64 0 _ _ (Or.inl rfl) (by decide) (by decide) (fun i hi => absurd hi (by omega))
 ·skip
  refine Run.x_ifNo (q := 7) X1 hx (hb hby d10_4) ((if0 _ _).trans (feq hc4).1) rfl ?_
  refine Run.x_iconst (q := 8) X1 hx (hb hby d10_7) (z := (0 : Int32)) rfl rfl ?_
  refine Run.retN X1 hx hlk e1 (t := .boolean) hret (by simp) (z' := (0 : Int32)) (by decide) (hb hby d10_8) (by decide) (by decide) ?_
  exact PureI.mk (by exact (hz0 (fun h => hc4 h.1)).symm) N0
theorem d11_0 : decode method_3_code 0 = .ok (.iload_n 0, 1) := by decide +kernel
theorem d11_1 : decode method_3_code 1 = .ok (.iconst 2, 1) := by decide +kernel
theorem d11_2 : decode method_3_code 2 = .ok (.iload_n 1, 1) := by decide +kernel
theorem d11_3 : decode method_3_code 3 = .ok (.iadd, 1) := by decide +kernel
theorem d11_4 : decode method_3_code 4 = .ok (.iushr, 1) := by decide +kernel
theorem d11_5 : decode method_3_code 5 = .ok (.iconst 1, 1) := by decide +kernel
theorem d11_6 : decode method_3_code 6 = .ok (.iand, 1) := by decide +kernel
theorem d11_7 : decode method_3_code 7 = .ok (.iload_n 2, 1) := by decide +kernel
theorem d11_8 : decode method_3_code 8 = .ok (.iconst 1, 1) := by decide +kernel
theorem d11_9 : decode method_3_code 9 = .ok (.isub, 1) := by decide +kernel
theorem d11_10 : decode method_3_code 10 = .ok (.iand, 1) := by decide +kernel
theorem d11_11 : decode method_3_code 11 = .ok (.ireturn, 1) := by decide +kernel
theorem ef_c_ent (m : MethodId) (b : Int32) (j : Int32) (n : Int32) : entryFrame m #[(.int b), (.int j), (.int n)] 3 = mkF m 0 #[.val (.int b), .val (.int j), .val (.int n)] [] := by first | (simp [entryFrame, mkF, argsToLocals, Value.category]; done) | rfl
set_option maxRecDepth 65536 in
set_option maxHeartbeats 40000000 in
theorem c_ent (l : Launch) (Z : State) (a0 : Array Value) (hw : ∀ d ∈ tables_1, d.before a0 Z = true) (b : Int32) (j : Int32) (n : Int32) (h0 : Heap) (n0 : Nat) (Z0 : n0 ≤ h0.size)  :
  Ctr l Z (⟨"semblance/JpegScansCompletePinLaw", "entry", "(III)I"⟩ : MethodName) method_3_code 3 (some .int) ({ frames := 0, cells := 0, slots := 0, locals := 0 } : Room) #[(.int b), (.int j), (.int n)] h0 (PureI h0 n0 (own_en b j n)) := by
 refine Ctr.of (plainFor_of_name pn_2) (fun m => ef_c_ent m b j n) ?_
 intro p e s m below meth c T0 hx hby hml hown hnm hret hlk hZ e0 X0
 have N0 := Fr.nil n0
 replace hown : s.vm.findClass "semblance/JpegScansCompletePinLaw" = some m.cls := hown
 replace hml : c.maxLocals = 3 := hml
 refine Run.x_iloadN (q := 1) X0 hx (hb hby d11_0) rfl rfl ?_
 refine Run.x_iconst (q := 2) X0 hx (hb hby d11_1) (z := (2 : Int32)) rfl rfl ?_
 refine Run.x_iloadN (q := 3) X0 hx (hb hby d11_2) rfl rfl ?_
 refine Run.x_iadd (q := 4) X0 hx (hb hby d11_3) rfl rfl ?_
 refine Run.x_iushr (q := 5) X0 hx (hb hby d11_4) rfl rfl ?_
 refine Run.x_iconst (q := 6) X0 hx (hb hby d11_5) (z := (1 : Int32)) rfl rfl ?_
 refine Run.x_iand (q := 7) X0 hx (hb hby d11_6) rfl rfl ?_
 refine Run.x_iloadN (q := 8) X0 hx (hb hby d11_7) rfl rfl ?_
 refine Run.x_iconst (q := 9) X0 hx (hb hby d11_8) (z := (1 : Int32)) rfl rfl ?_
 refine Run.x_isub (q := 10) X0 hx (hb hby d11_9) rfl rfl ?_
 refine Run.x_iand (q := 11) X0 hx (hb hby d11_10) rfl rfl ?_
 refine Run.retI X0 hx hlk e0 hret (hb hby d11_11) (by decide) (by decide) ?_
 exact PureI.mk (by rfl) N0
theorem d12_0 : decode method_4_code 0 = .ok (.iload_n 0, 1) := by decide +kernel
theorem d12_1 : decode method_4_code 1 = .ok (.iconst 3, 1) := by decide +kernel
theorem d12_2 : decode method_4_code 2 = .ok (.iand, 1) := by decide +kernel
theorem d12_3 : decode method_4_code 3 = .ok (.istore_n 2, 1) := by decide +kernel
theorem d12_4 : decode method_4_code 4 = .ok (.iload_n 2, 1) := by decide +kernel
theorem d12_5 : decode method_4_code 5 = .ok (.newarray .int, 2) := by decide +kernel
theorem d12_7 : decode method_4_code 7 = .ok (.astore_n 3, 1) := by decide +kernel
theorem d12_8 : decode method_4_code 8 = .ok (.iload_n 2, 1) := by decide +kernel
theorem d12_9 : decode method_4_code 9 = .ok (.ifCond .le 12, 3) := by decide +kernel
theorem d12_12 : decode method_4_code 12 = .ok (.aload_n 3, 1) := by decide +kernel
theorem d12_13 : decode method_4_code 13 = .ok (.iconst 0, 1) := by decide +kernel
theorem d12_14 : decode method_4_code 14 = .ok (.iload_n 0, 1) := by decide +kernel
theorem d12_15 : decode method_4_code 15 = .ok (.iconst 0, 1) := by decide +kernel
theorem d12_16 : decode method_4_code 16 = .ok (.iload_n 1, 1) := by decide +kernel
theorem d12_17 : decode method_4_code 17 = .ok (.invokestatic 39, 3) := by decide +kernel
theorem d12_20 : decode method_4_code 20 = .ok (.iastore, 1) := by decide +kernel
theorem d12_21 : decode method_4_code 21 = .ok (.iload_n 2, 1) := by decide +kernel
theorem d12_22 : decode method_4_code 22 = .ok (.iconst 1, 1) := by decide +kernel
theorem d12_23 : decode method_4_code 23 = .ok (.if_icmp .le 12, 3) := by decide +kernel
theorem d12_26 : decode method_4_code 26 = .ok (.aload_n 3, 1) := by decide +kernel
theorem d12_27 : decode method_4_code 27 = .ok (.iconst 1, 1) := by decide +kernel
theorem d12_28 : decode method_4_code 28 = .ok (.iload_n 0, 1) := by decide +kernel
theorem d12_29 : decode method_4_code 29 = .ok (.iconst 1, 1) := by decide +kernel
theorem d12_30 : decode method_4_code 30 = .ok (.iload_n 1, 1) := by decide +kernel
theorem d12_31 : decode method_4_code 31 = .ok (.invokestatic 39, 3) := by decide +kernel
theorem d12_34 : decode method_4_code 34 = .ok (.iastore, 1) := by decide +kernel
theorem d12_35 : decode method_4_code 35 = .ok (.iload_n 2, 1) := by decide +kernel
theorem d12_36 : decode method_4_code 36 = .ok (.iconst 2, 1) := by decide +kernel
theorem d12_37 : decode method_4_code 37 = .ok (.if_icmp .le 12, 3) := by decide +kernel
theorem d12_40 : decode method_4_code 40 = .ok (.aload_n 3, 1) := by decide +kernel
theorem d12_41 : decode method_4_code 41 = .ok (.iconst 2, 1) := by decide +kernel
theorem d12_42 : decode method_4_code 42 = .ok (.iload_n 0, 1) := by decide +kernel
theorem d12_43 : decode method_4_code 43 = .ok (.iconst 2, 1) := by decide +kernel
theorem d12_44 : decode method_4_code 44 = .ok (.iload_n 1, 1) := by decide +kernel
theorem d12_45 : decode method_4_code 45 = .ok (.invokestatic 39, 3) := by decide +kernel
theorem d12_48 : decode method_4_code 48 = .ok (.iastore, 1) := by decide +kernel
theorem d12_49 : decode method_4_code 49 = .ok (.aload_n 3, 1) := by decide +kernel
theorem d12_50 : decode method_4_code 50 = .ok (.areturn, 1) := by decide +kernel
theorem ef_c_list_1 (m : MethodId) (b : Int32) : entryFrame m #[(.int b), (.int 1)] 4 = mkF m 0 #[.val (.int b), .val (.int 1), .unset, .unset] [] := by first | (simp [entryFrame, mkF, argsToLocals, Value.category]; done) | rfl
theorem wm61 {a0 : Array Value} {Z : State} (hw : ∀ d ∈ tables_1, d.before a0 Z = true) : (Jvm.Cond.methodLink "semblance/JpegScansCompletePinLaw" (39 : Nat) ({ cls := "semblance/JpegScansCompletePinLaw", name := "entry", desc := "(III)I" } : Jvm.MethodName)).before a0 Z = true := hw _ (List.mem_of_getElem? (i := 61) rfl)
theorem wm63 {a0 : Array Value} {Z : State} (hw : ∀ d ∈ tables_1, d.before a0 Z = true) : (Jvm.Cond.code ({ cls := "semblance/JpegScansCompletePinLaw", name := "entry", desc := "(III)I" } : Jvm.MethodName) method_3_code (3 : Nat) (Option.some Jvm.ClassFile.FieldType.int)).before a0 Z = true := hw _ (List.mem_of_getElem? (i := 63) rfl)
theorem pd_4 : parseMethodDescriptor "(III)I" = some ⟨[.int, .int, .int], some .int⟩ := by decide +kernel
theorem wm62 {a0 : Array Value} {Z : State} (hw : ∀ d ∈ tables_1, d.before a0 Z = true) : (Jvm.Cond.static ({ cls := "semblance/JpegScansCompletePinLaw", name := "entry", desc := "(III)I" } : Jvm.MethodName)).before a0 Z = true := hw _ (List.mem_of_getElem? (i := 62) rfl)
set_option maxRecDepth 65536 in
set_option maxHeartbeats 40000000 in
theorem c_list_1 (l : Launch) (Z : State) (a0 : Array Value) (hw : ∀ d ∈ tables_1, d.before a0 Z = true) (b : Int32) (h0 : Heap) (n0 : Nat) (Z0 : n0 ≤ h0.size)  :
  Ctr l Z (⟨"semblance/JpegScansCompletePinLaw", "list", "(II)[I"⟩ : MethodName) method_4_code 4 (some (.array .int)) ({ frames := 1, cells := 1, slots := 3, locals := 16 } : Room) #[(.int b), (.int 1)] h0 (fun v h L => ∃ q : Addr, v = some (.ref q) ∧ Fr n0 L ∧ Keep h0 h [] ∧ h0.size ≤ q ∧ Ars Z h q .int ((own_es 1 b).map Value.int)) := by
 refine Ctr.of (plainFor_of_name pn_2) (fun m => ef_c_list_1 m b) ?_
 intro p e s m below meth c T0 hx hby hml hown hnm hret hlk hZ e0 X0
 have N0 := Fr.nil n0
 replace hown : s.vm.findClass "semblance/JpegScansCompletePinLaw" = some m.cls := hown
 replace hml : c.maxLocals = 4 := hml
 have KP := Keep.refl h0 []
 refine Run.x_iloadN (q := 1) X0 hx (hb hby d12_0) rfl rfl ?_
 refine Run.x_iconst (q := 2) X0 hx (hb hby d12_1) (z := (3 : Int32)) rfl rfl ?_
 refine Run.x_iand (q := 3) X0 hx (hb hby d12_2) rfl rfl ?_
 refine Run.x_istoreN (q := 4) X0 hx #[.val (.int b), .val (.int 1), .val (.int (b &&& (3 : Int32))), .unset] (hb hby d12_3) rfl rfl ?_
 generalize hln : (b &&& (3 : Int32)) = ln
 rcases own_3 hln with rfl | rfl | rfl | rfl
 ·skip
  show Run p e below s _ _ _ (T0.setTop (mkF m 4 #[.val (.int b), .val (.int 1), .val (.int 0), .unset] []))
  refine Run.x_iloadN (q := 5) X0 hx (hb hby d12_4) rfl rfl ?_
  refine Run.newP (aty := .int) X0 hx hZ e0 (wm15 hw) (hb hby d12_5) (len := 0) (by decide) (by decide) (cap := 0) (by decide) (by decide) (by decide) (by decide) ?_
  intro T1 h1 b1 gg1 X1 e1 E1 A_b1
  have g_b1 : n0 ≤ b1 := Nat.le_trans Z0 (Nat.le_of_eq gg1.symm)
  have sz_b1 : h0.size ≤ b1 := Nat.le_trans KP.1 (Nat.le_of_eq gg1.symm)
  have Z1 : n0 ≤ h1.size := Nat.le_trans Z0 E1.1
  replace KP := KP.ext E1
  replace A_b1 : Ars Z h1 b1 .int [] := A_b1
  show Run p e below s _ _ _ (T1.setTop (mkF m 7 #[.val (.int b), .val (.int 1), .val (.int 0), .unset] [(.ref b1)]))
  refine Run.x_astoreN (q := 8) X1 hx #[.val (.int b), .val (.int 1), .val (.int 0), .val (.ref b1)] (hb hby d12_7) rfl rfl rfl ?_
  refine Run.x_iloadN (q := 9) X1 hx (hb hby d12_8) rfl rfl ?_
  refine Run.x_ifYes (q := 21) X1 hx (hb hby d12_9) ((if0 _ _).trans (flt (by decide : ¬ ((0 : Int32) < (0 : Int32)))).2.2.2) (by decide) (by decide) ?_
  refine Run.x_iloadN (q := 22) X1 hx (hb hby d12_21) rfl rfl ?_
  refine Run.x_iconst (q := 23) X1 hx (hb hby d12_22) (z := (1 : Int32)) rfl rfl ?_
  refine Run.x_icmpYes (q := 35) X1 hx (hb hby d12_23) (flt (by decide : ¬ ((1 : Int32) < (0 : Int32)))).2.2.2 (by decide) (by decide) ?_
  refine Run.x_iloadN (q := 36) X1 hx (hb hby d12_35) rfl rfl ?_
  refine Run.x_iconst (q := 37) X1 hx (hb hby d12_36) (z := (2 : Int32)) rfl rfl ?_
  refine Run.x_icmpYes (q := 49) X1 hx (hb hby d12_37) (flt (by decide : ¬ ((2 : Int32) < (0 : Int32)))).2.2.2 (by decide) (by decide) ?_
  refine Run.x_aloadN (q := 50) X1 hx (hb hby d12_49) rfl rfl rfl ?_
  refine Run.retA X1 hx hlk e1 (t := (.array .int)) hret rfl rfl rfl (hb hby d12_50) (by decide) (by decide) ?_
  have he : own_es 1 b = [] := by unfold own_es; rw [hln]; rfl
  exact ⟨b1, rfl, N0, KP, sz_b1, by rw [he]; exact A_b1⟩
 ·skip
  show Run p e below s _ _ _ (T0.setTop (mkF m 4 #[.val (.int b), .val (.int 1), .val (.int 1), .unset] []))
  refine Run.x_iloadN (q := 5) X0 hx (hb hby d12_4) rfl rfl ?_
  refine Run.newP (aty := .int) X0 hx hZ e0 (wm15 hw) (hb hby d12_5) (len := 1) (by decide) (by decide) (cap := 1) (by decide) (by decide) (by decide) (by decide) ?_
  intro T2 h2 b2 gg2 X2 e2 E2 A_b2
  have g_b2 : n0 ≤ b2 := Nat.le_trans Z0 (Nat.le_of_eq gg2.symm)
  have sz_b2 : h0.size ≤ b2 := Nat.le_trans KP.1 (Nat.le_of_eq gg2.symm)
  have Z2 : n0 ≤ h2.size := Nat.le_trans Z0 E2.1
  replace KP := KP.ext E2
  replace A_b2 : Ars Z h2 b2 .int [(.int 0)] := A_b2
  show Run p e below s _ _ _ (T2.setTop (mkF m 7 #[.val (.int b), .val (.int 1), .val (.int 1), .unset] [(.ref b2)]))
  refine Run.x_astoreN (q := 8) X2 hx #[.val (.int b), .val (.int 1), .val (.int 1), .val (.ref b2)] (hb hby d12_7) rfl rfl rfl ?_
  refine Run.x_iloadN (q := 9) X2 hx (hb hby d12_8) rfl rfl ?_
  refine Run.x_ifNo (q := 12) X2 hx (hb hby d12_9) ((if0 _ _).trans (tlt (by decide : (0 : Int32) < (1 : Int32))).2.2.2) rfl ?_
  refine Run.x_aloadN (q := 13) X2 hx (hb hby d12_12) rfl rfl rfl ?_
  refine Run.x_iconst (q := 14) X2 hx (hb hby d12_13) (z := (0 : Int32)) rfl rfl ?_
  refine Run.x_iloadN (q := 15) X2 hx (hb hby d12_14) rfl rfl ?_
  refine Run.x_iconst (q := 16) X2 hx (hb hby d12_15) (z := (0 : Int32)) rfl rfl ?_
  refine Run.x_iloadN (q := 17) X2 hx (hb hby d12_16) rfl rfl ?_
  refine Run.callSI (q := 20) X2 hx hZ e2 (y := (⟨"semblance/JpegScansCompletePinLaw", "entry", "(III)I"⟩ : MethodName)) hown (wm61 hw) (wm62 hw) (wm24 hw) (wm63 hw) (by decide) (argsL := [(.int b), (.int 0), (.int 1)]) (rest := [(.int 0), (.ref b2)]) (c_ent l Z a0 hw b (0 : Int32) (1 : Int32) h2 n0 Z2 ) pd_4 rfl (by rw [hml]; rfl) (W := 2) rfl (by decide) (by decide) (by decide) (by decide) (hb hby d12_17) rfl rfl fun T3 L3 X3 M3 e3 => ?_
  have N3 := Fr.app N0 M3
  refine Run.y_stI (q := 21) X3 hx hZ e3 A_b2 (i := 0) (by decide) (Nat.le_of_ble_eq_true rfl) (hb hby d12_20) rfl fun T4 h4 X4 e4 W4 A4 => ?_
  replace A_b2 : Ars Z h4 b2 .int [(.int (own_en b (0 : Int32) (1 : Int32)))] := A4
  replace KP := KP.wr W4 (Or.inr sz_b2)
  have N4 := Fr.snoc X4 N3 g_b2
  have Z4 : n0 ≤ h4.size := Nat.le_trans Z2 (Nat.le_of_eq W4.size.symm)
  refine Run.x_iloadN (q := 22) X4 hx (hb hby d12_21) rfl rfl ?_
  refine Run.x_iconst (q := 23) X4 hx (hb hby d12_22) (z := (1 : Int32)) rfl rfl ?_
  refine Run.x_icmpYes (q := 35) X4 hx (hb hby d12_23) (flt (by decide : ¬ ((1 : Int32) < (1 : Int32)))).2.2.2 (by decide) (by decide) ?_
  refine Run.x_iloadN (q := 36) X4 hx (hb hby d12_35) rfl rfl ?_
  refine Run.x_iconst (q := 37) X4 hx (hb hby d12_36) (z := (2 : Int32)) rfl rfl ?_
  refine Run.x_icmpYes (q := 49) X4 hx (hb hby d12_37) (flt (by decide : ¬ ((2 : Int32) < (1 : Int32)))).2.2.2 (by decide) (by decide) ?_
  refine Run.x_aloadN (q := 50) X4 hx (hb hby d12_49) rfl rfl rfl ?_
  refine Run.retA X4 hx hlk e4 (t := (.array .int)) hret rfl rfl rfl (hb hby d12_50) (by decide) (by decide) ?_
  have he : own_es 1 b = [own_en b 0 1] := by unfold own_es; rw [hln]; rfl
  exact ⟨b2, rfl, N4, KP, sz_b2, by rw [he]; exact A_b2⟩
 ·skip
  show Run p e below s _ _ _ (T0.setTop (mkF m 4 #[.val (.int b), .val (.int 1), .val (.int 2), .unset] []))
  refine Run.x_iloadN (q := 5) X0 hx (hb hby d12_4) rfl rfl ?_
  refine Run.newP (aty := .int) X0 hx hZ e0 (wm15 hw) (hb hby d12_5) (len := 2) (by decide) (by decide) (cap := 2) (by decide) (by decide) (by decide) (by decide) ?_
  intro T5 h5 b5 gg5 X5 e5 E5 A_b5
  have g_b5 : n0 ≤ b5 := Nat.le_trans Z0 (Nat.le_of_eq gg5.symm)
  have sz_b5 : h0.size ≤ b5 := Nat.le_trans KP.1 (Nat.le_of_eq gg5.symm)
  have Z5 : n0 ≤ h5.size := Nat.le_trans Z0 E5.1
  replace KP := KP.ext E5
  replace A_b5 : Ars Z h5 b5 .int [(.int 0), (.int 0)] := A_b5
  show Run p e below s _ _ _ (T5.setTop (mkF m 7 #[.val (.int b), .val (.int 1), .val (.int 2), .unset] [(.ref b5)]))
  refine Run.x_astoreN (q := 8) X5 hx #[.val (.int b), .val (.int 1), .val (.int 2), .val (.ref b5)] (hb hby d12_7) rfl rfl rfl ?_
  refine Run.x_iloadN (q := 9) X5 hx (hb hby d12_8) rfl rfl ?_
  refine Run.x_ifNo (q := 12) X5 hx (hb hby d12_9) ((if0 _ _).trans (tlt (by decide : (0 : Int32) < (2 : Int32))).2.2.2) rfl ?_
  refine Run.x_aloadN (q := 13) X5 hx (hb hby d12_12) rfl rfl rfl ?_
  refine Run.x_iconst (q := 14) X5 hx (hb hby d12_13) (z := (0 : Int32)) rfl rfl ?_
  refine Run.x_iloadN (q := 15) X5 hx (hb hby d12_14) rfl rfl ?_
  refine Run.x_iconst (q := 16) X5 hx (hb hby d12_15) (z := (0 : Int32)) rfl rfl ?_
  refine Run.x_iloadN (q := 17) X5 hx (hb hby d12_16) rfl rfl ?_
  refine Run.callSI (q := 20) X5 hx hZ e5 (y := (⟨"semblance/JpegScansCompletePinLaw", "entry", "(III)I"⟩ : MethodName)) hown (wm61 hw) (wm62 hw) (wm24 hw) (wm63 hw) (by decide) (argsL := [(.int b), (.int 0), (.int 1)]) (rest := [(.int 0), (.ref b5)]) (c_ent l Z a0 hw b (0 : Int32) (1 : Int32) h5 n0 Z5 ) pd_4 rfl (by rw [hml]; rfl) (W := 2) rfl (by decide) (by decide) (by decide) (by decide) (hb hby d12_17) rfl rfl fun T6 L6 X6 M6 e6 => ?_
  have N6 := Fr.app N0 M6
  refine Run.y_stI (q := 21) X6 hx hZ e6 A_b5 (i := 0) (by decide) (Nat.le_of_ble_eq_true rfl) (hb hby d12_20) rfl fun T7 h7 X7 e7 W7 A7 => ?_
  replace A_b5 : Ars Z h7 b5 .int [(.int (own_en b (0 : Int32) (1 : Int32))), (.int 0)] := A7
  replace KP := KP.wr W7 (Or.inr sz_b5)
  have N7 := Fr.snoc X7 N6 g_b5
  have Z7 : n0 ≤ h7.size := Nat.le_trans Z5 (Nat.le_of_eq W7.size.symm)
  refine Run.x_iloadN (q := 22) X7 hx (hb hby d12_21) rfl rfl ?_
  refine Run.x_iconst (q := 23) X7 hx (hb hby d12_22) (z := (1 : Int32)) rfl rfl ?_
  refine Run.x_icmpNo (q := 26) X7 hx (hb hby d12_23) (tlt (by decide : (1 : Int32) < (2 : Int32))).2.2.2 rfl ?_
  refine Run.x_aloadN (q := 27) X7 hx (hb hby d12_26) rfl rfl rfl ?_
  refine Run.x_iconst (q := 28) X7 hx (hb hby d12_27) (z := (1 : Int32)) rfl rfl ?_
  refine Run.x_iloadN (q := 29) X7 hx (hb hby d12_28) rfl rfl ?_
  refine Run.x_iconst (q := 30) X7 hx (hb hby d12_29) (z := (1 : Int32)) rfl rfl ?_
  refine Run.x_iloadN (q := 31) X7 hx (hb hby d12_30) rfl rfl ?_
  refine Run.callSI (q := 34) X7 hx hZ e7 (y := (⟨"semblance/JpegScansCompletePinLaw", "entry", "(III)I"⟩ : MethodName)) hown (wm61 hw) (wm62 hw) (wm24 hw) (wm63 hw) (by decide) (argsL := [(.int b), (.int 1), (.int 1)]) (rest := [(.int 1), (.ref b5)]) (c_ent l Z a0 hw b (1 : Int32) (1 : Int32) h7 n0 Z7 ) pd_4 rfl (by rw [hml]; rfl) (W := 2) rfl (by decide) (by decide) (by decide) (by decide) (hb hby d12_31) rfl rfl fun T8 L8 X8 M8 e8 => ?_
  have N8 := Fr.app N7 M8
  refine Run.y_stI (q := 35) X8 hx hZ e8 A_b5 (i := 1) (by decide) (Nat.le_of_ble_eq_true rfl) (hb hby d12_34) rfl fun T9 h9 X9 e9 W9 A9 => ?_
  replace A_b5 : Ars Z h9 b5 .int [(.int (own_en b (0 : Int32) (1 : Int32))), (.int (own_en b (1 : Int32) (1 : Int32)))] := A9
  replace KP := KP.wr W9 (Or.inr sz_b5)
  have N9 := Fr.snoc X9 N8 g_b5
  have Z9 : n0 ≤ h9.size := Nat.le_trans Z7 (Nat.le_of_eq W9.size.symm)
  refine Run.x_iloadN (q := 36) X9 hx (hb hby d12_35) rfl rfl ?_
  refine Run.x_iconst (q := 37) X9 hx (hb hby d12_36) (z := (2 : Int32)) rfl rfl ?_
  refine Run.x_icmpYes (q := 49) X9 hx (hb hby d12_37) (flt (by decide : ¬ ((2 : Int32) < (2 : Int32)))).2.2.2 (by decide) (by decide) ?_
  refine Run.x_aloadN (q := 50) X9 hx (hb hby d12_49) rfl rfl rfl ?_
  refine Run.retA X9 hx hlk e9 (t := (.array .int)) hret rfl rfl rfl (hb hby d12_50) (by decide) (by decide) ?_
  have he : own_es 1 b = [own_en b 0 1, own_en b 1 1] := by unfold own_es; rw [hln]; rfl
  exact ⟨b5, rfl, N9, KP, sz_b5, by rw [he]; exact A_b5⟩
 ·skip
  show Run p e below s _ _ _ (T0.setTop (mkF m 4 #[.val (.int b), .val (.int 1), .val (.int 3), .unset] []))
  refine Run.x_iloadN (q := 5) X0 hx (hb hby d12_4) rfl rfl ?_
  refine Run.newP (aty := .int) X0 hx hZ e0 (wm15 hw) (hb hby d12_5) (len := 3) (by decide) (by decide) (cap := 3) (by decide) (by decide) (by decide) (by decide) ?_
  intro T10 h10 b10 gg10 X10 e10 E10 A_b10
  have g_b10 : n0 ≤ b10 := Nat.le_trans Z0 (Nat.le_of_eq gg10.symm)
  have sz_b10 : h0.size ≤ b10 := Nat.le_trans KP.1 (Nat.le_of_eq gg10.symm)
  have Z10 : n0 ≤ h10.size := Nat.le_trans Z0 E10.1
  replace KP := KP.ext E10
  replace A_b10 : Ars Z h10 b10 .int [(.int 0), (.int 0), (.int 0)] := A_b10
  show Run p e below s _ _ _ (T10.setTop (mkF m 7 #[.val (.int b), .val (.int 1), .val (.int 3), .unset] [(.ref b10)]))
  refine Run.x_astoreN (q := 8) X10 hx #[.val (.int b), .val (.int 1), .val (.int 3), .val (.ref b10)] (hb hby d12_7) rfl rfl rfl ?_
  refine Run.x_iloadN (q := 9) X10 hx (hb hby d12_8) rfl rfl ?_
  refine Run.x_ifNo (q := 12) X10 hx (hb hby d12_9) ((if0 _ _).trans (tlt (by decide : (0 : Int32) < (3 : Int32))).2.2.2) rfl ?_
  refine Run.x_aloadN (q := 13) X10 hx (hb hby d12_12) rfl rfl rfl ?_
  refine Run.x_iconst (q := 14) X10 hx (hb hby d12_13) (z := (0 : Int32)) rfl rfl ?_
  refine Run.x_iloadN (q := 15) X10 hx (hb hby d12_14) rfl rfl ?_
  refine Run.x_iconst (q := 16) X10 hx (hb hby d12_15) (z := (0 : Int32)) rfl rfl ?_
  refine Run.x_iloadN (q := 17) X10 hx (hb hby d12_16) rfl rfl ?_
  refine Run.callSI (q := 20) X10 hx hZ e10 (y := (⟨"semblance/JpegScansCompletePinLaw", "entry", "(III)I"⟩ : MethodName)) hown (wm61 hw) (wm62 hw) (wm24 hw) (wm63 hw) (by decide) (argsL := [(.int b), (.int 0), (.int 1)]) (rest := [(.int 0), (.ref b10)]) (c_ent l Z a0 hw b (0 : Int32) (1 : Int32) h10 n0 Z10 ) pd_4 rfl (by rw [hml]; rfl) (W := 2) rfl (by decide) (by decide) (by decide) (by decide) (hb hby d12_17) rfl rfl fun T11 L11 X11 M11 e11 => ?_
  have N11 := Fr.app N0 M11
  refine Run.y_stI (q := 21) X11 hx hZ e11 A_b10 (i := 0) (by decide) (Nat.le_of_ble_eq_true rfl) (hb hby d12_20) rfl fun T12 h12 X12 e12 W12 A12 => ?_
  replace A_b10 : Ars Z h12 b10 .int [(.int (own_en b (0 : Int32) (1 : Int32))), (.int 0), (.int 0)] := A12
  replace KP := KP.wr W12 (Or.inr sz_b10)
  have N12 := Fr.snoc X12 N11 g_b10
  have Z12 : n0 ≤ h12.size := Nat.le_trans Z10 (Nat.le_of_eq W12.size.symm)
  refine Run.x_iloadN (q := 22) X12 hx (hb hby d12_21) rfl rfl ?_
  refine Run.x_iconst (q := 23) X12 hx (hb hby d12_22) (z := (1 : Int32)) rfl rfl ?_
  refine Run.x_icmpNo (q := 26) X12 hx (hb hby d12_23) (tlt (by decide : (1 : Int32) < (3 : Int32))).2.2.2 rfl ?_
  refine Run.x_aloadN (q := 27) X12 hx (hb hby d12_26) rfl rfl rfl ?_
  refine Run.x_iconst (q := 28) X12 hx (hb hby d12_27) (z := (1 : Int32)) rfl rfl ?_
  refine Run.x_iloadN (q := 29) X12 hx (hb hby d12_28) rfl rfl ?_
  refine Run.x_iconst (q := 30) X12 hx (hb hby d12_29) (z := (1 : Int32)) rfl rfl ?_
  refine Run.x_iloadN (q := 31) X12 hx (hb hby d12_30) rfl rfl ?_
  refine Run.callSI (q := 34) X12 hx hZ e12 (y := (⟨"semblance/JpegScansCompletePinLaw", "entry", "(III)I"⟩ : MethodName)) hown (wm61 hw) (wm62 hw) (wm24 hw) (wm63 hw) (by decide) (argsL := [(.int b), (.int 1), (.int 1)]) (rest := [(.int 1), (.ref b10)]) (c_ent l Z a0 hw b (1 : Int32) (1 : Int32) h12 n0 Z12 ) pd_4 rfl (by rw [hml]; rfl) (W := 2) rfl (by decide) (by decide) (by decide) (by decide) (hb hby d12_31) rfl rfl fun T13 L13 X13 M13 e13 => ?_
  have N13 := Fr.app N12 M13
  refine Run.y_stI (q := 35) X13 hx hZ e13 A_b10 (i := 1) (by decide) (Nat.le_of_ble_eq_true rfl) (hb hby d12_34) rfl fun T14 h14 X14 e14 W14 A14 => ?_
  replace A_b10 : Ars Z h14 b10 .int [(.int (own_en b (0 : Int32) (1 : Int32))), (.int (own_en b (1 : Int32) (1 : Int32))), (.int 0)] := A14
  replace KP := KP.wr W14 (Or.inr sz_b10)
  have N14 := Fr.snoc X14 N13 g_b10
  have Z14 : n0 ≤ h14.size := Nat.le_trans Z12 (Nat.le_of_eq W14.size.symm)
  refine Run.x_iloadN (q := 36) X14 hx (hb hby d12_35) rfl rfl ?_
  refine Run.x_iconst (q := 37) X14 hx (hb hby d12_36) (z := (2 : Int32)) rfl rfl ?_
  refine Run.x_icmpNo (q := 40) X14 hx (hb hby d12_37) (tlt (by decide : (2 : Int32) < (3 : Int32))).2.2.2 rfl ?_
  refine Run.x_aloadN (q := 41) X14 hx (hb hby d12_40) rfl rfl rfl ?_
  refine Run.x_iconst (q := 42) X14 hx (hb hby d12_41) (z := (2 : Int32)) rfl rfl ?_
  refine Run.x_iloadN (q := 43) X14 hx (hb hby d12_42) rfl rfl ?_
  refine Run.x_iconst (q := 44) X14 hx (hb hby d12_43) (z := (2 : Int32)) rfl rfl ?_
  refine Run.x_iloadN (q := 45) X14 hx (hb hby d12_44) rfl rfl ?_
  refine Run.callSI (q := 48) X14 hx hZ e14 (y := (⟨"semblance/JpegScansCompletePinLaw", "entry", "(III)I"⟩ : MethodName)) hown (wm61 hw) (wm62 hw) (wm24 hw) (wm63 hw) (by decide) (argsL := [(.int b), (.int 2), (.int 1)]) (rest := [(.int 2), (.ref b10)]) (c_ent l Z a0 hw b (2 : Int32) (1 : Int32) h14 n0 Z14 ) pd_4 rfl (by rw [hml]; rfl) (W := 2) rfl (by decide) (by decide) (by decide) (by decide) (hb hby d12_45) rfl rfl fun T15 L15 X15 M15 e15 => ?_
  have N15 := Fr.app N14 M15
  refine Run.y_stI (q := 49) X15 hx hZ e15 A_b10 (i := 2) (by decide) (Nat.le_of_ble_eq_true rfl) (hb hby d12_48) rfl fun T16 h16 X16 e16 W16 A16 => ?_
  replace A_b10 : Ars Z h16 b10 .int [(.int (own_en b (0 : Int32) (1 : Int32))), (.int (own_en b (1 : Int32) (1 : Int32))), (.int (own_en b (2 : Int32) (1 : Int32)))] := A16
  replace KP := KP.wr W16 (Or.inr sz_b10)
  have N16 := Fr.snoc X16 N15 g_b10
  have Z16 : n0 ≤ h16.size := Nat.le_trans Z14 (Nat.le_of_eq W16.size.symm)
  refine Run.x_aloadN (q := 50) X16 hx (hb hby d12_49) rfl rfl rfl ?_
  refine Run.retA X16 hx hlk e16 (t := (.array .int)) hret rfl rfl rfl (hb hby d12_50) (by decide) (by decide) ?_
  have he : own_es 1 b = [own_en b 0 1, own_en b 1 1, own_en b 2 1] := by unfold own_es; rw [hln]; rfl
  exact ⟨b10, rfl, N16, KP, sz_b10, by rw [he]; exact A_b10⟩
theorem ef_c_list_2 (m : MethodId) (b : Int32) : entryFrame m #[(.int b), (.int 2)] 4 = mkF m 0 #[.val (.int b), .val (.int 2), .unset, .unset] [] := by first | (simp [entryFrame, mkF, argsToLocals, Value.category]; done) | rfl
set_option maxRecDepth 65536 in
set_option maxHeartbeats 40000000 in
theorem c_list_2 (l : Launch) (Z : State) (a0 : Array Value) (hw : ∀ d ∈ tables_1, d.before a0 Z = true) (b : Int32) (h0 : Heap) (n0 : Nat) (Z0 : n0 ≤ h0.size)  :
  Ctr l Z (⟨"semblance/JpegScansCompletePinLaw", "list", "(II)[I"⟩ : MethodName) method_4_code 4 (some (.array .int)) ({ frames := 1, cells := 1, slots := 3, locals := 16 } : Room) #[(.int b), (.int 2)] h0 (fun v h L => ∃ q : Addr, v = some (.ref q) ∧ Fr n0 L ∧ Keep h0 h [] ∧ h0.size ≤ q ∧ Ars Z h q .int ((own_es 2 b).map Value.int)) := by
 refine Ctr.of (plainFor_of_name pn_2) (fun m => ef_c_list_2 m b) ?_
 intro p e s m below meth c T0 hx hby hml hown hnm hret hlk hZ e0 X0
 have N0 := Fr.nil n0
 replace hown : s.vm.findClass "semblance/JpegScansCompletePinLaw" = some m.cls := hown
 replace hml : c.maxLocals = 4 := hml
 have KP := Keep.refl h0 []
 refine Run.x_iloadN (q := 1) X0 hx (hb hby d12_0) rfl rfl ?_
 refine Run.x_iconst (q := 2) X0 hx (hb hby d12_1) (z := (3 : Int32)) rfl rfl ?_
 refine Run.x_iand (q := 3) X0 hx (hb hby d12_2) rfl rfl ?_
 refine Run.x_istoreN (q := 4) X0 hx #[.val (.int b), .val (.int 2), .val (.int (b &&& (3 : Int32))), .unset] (hb hby d12_3) rfl rfl ?_
 generalize hln : (b &&& (3 : Int32)) = ln
 rcases own_3 hln with rfl | rfl | rfl | rfl
 ·skip
  show Run p e below s _ _ _ (T0.setTop (mkF m 4 #[.val (.int b), .val (.int 2), .val (.int 0), .unset] []))
  refine Run.x_iloadN (q := 5) X0 hx (hb hby d12_4) rfl rfl ?_
  refine Run.newP (aty := .int) X0 hx hZ e0 (wm15 hw) (hb hby d12_5) (len := 0) (by decide) (by decide) (cap := 0) (by decide) (by decide) (by decide) (by decide) ?_
  intro T1 h1 b1 gg1 X1 e1 E1 A_b1
  have g_b1 : n0 ≤ b1 := Nat.le_trans Z0 (Nat.le_of_eq gg1.symm)
  have sz_b1 : h0.size ≤ b1 := Nat.le_trans KP.1 (Nat.le_of_eq gg1.symm)
  have Z1 : n0 ≤ h1.size := Nat.le_trans Z0 E1.1
  replace KP := KP.ext E1
  replace A_b1 : Ars Z h1 b1 .int [] := A_b1
  show Run p e below s _ _ _ (T1.setTop (mkF m 7 #[.val (.int b), .val (.int 2), .val (.int 0), .unset] [(.ref b1)]))
  refine Run.x_astoreN (q := 8) X1 hx #[.val (.int b), .val (.int 2), .val (.int 0), .val (.ref b1)] (hb hby d12_7) rfl rfl rfl ?_
  refine Run.x_iloadN (q := 9) X1 hx (hb hby d12_8) rfl rfl ?_
  refine Run.x_ifYes (q := 21) X1 hx (hb hby d12_9) ((if0 _ _).trans (flt (by decide : ¬ ((0 : Int32) < (0 : Int32)))).2.2.2) (by decide) (by decide) ?_
  refine Run.x_iloadN (q := 22) X1 hx (hb hby d12_21) rfl rfl ?_
  refine Run.x_iconst (q := 23) X1 hx (hb hby d12_22) (z := (1 : Int32)) rfl rfl ?_
  refine Run.x_icmpYes (q := 35) X1 hx (hb hby d12_23) (flt (by decide : ¬ ((1 : Int32) < (0 : Int32)))).2.2.2 (by decide) (by decide) ?_
  refine Run.x_iloadN (q := 36) X1 hx (hb hby d12_35) rfl rfl ?_
  refine Run.x_iconst (q := 37) X1 hx (hb hby d12_36) (z := (2 : Int32)) rfl rfl ?_
  refine Run.x_icmpYes (q := 49) X1 hx (hb hby d12_37) (flt (by decide : ¬ ((2 : Int32) < (0 : Int32)))).2.2.2 (by decide) (by decide) ?_
  refine Run.x_aloadN (q := 50) X1 hx (hb hby d12_49) rfl rfl rfl ?_
  refine Run.retA X1 hx hlk e1 (t := (.array .int)) hret rfl rfl rfl (hb hby d12_50) (by decide) (by decide) ?_
  have he : own_es 2 b = [] := by unfold own_es; rw [hln]; rfl
  exact ⟨b1, rfl, N0, KP, sz_b1, by rw [he]; exact A_b1⟩
 ·skip
  show Run p e below s _ _ _ (T0.setTop (mkF m 4 #[.val (.int b), .val (.int 2), .val (.int 1), .unset] []))
  refine Run.x_iloadN (q := 5) X0 hx (hb hby d12_4) rfl rfl ?_
  refine Run.newP (aty := .int) X0 hx hZ e0 (wm15 hw) (hb hby d12_5) (len := 1) (by decide) (by decide) (cap := 1) (by decide) (by decide) (by decide) (by decide) ?_
  intro T2 h2 b2 gg2 X2 e2 E2 A_b2
  have g_b2 : n0 ≤ b2 := Nat.le_trans Z0 (Nat.le_of_eq gg2.symm)
  have sz_b2 : h0.size ≤ b2 := Nat.le_trans KP.1 (Nat.le_of_eq gg2.symm)
  have Z2 : n0 ≤ h2.size := Nat.le_trans Z0 E2.1
  replace KP := KP.ext E2
  replace A_b2 : Ars Z h2 b2 .int [(.int 0)] := A_b2
  show Run p e below s _ _ _ (T2.setTop (mkF m 7 #[.val (.int b), .val (.int 2), .val (.int 1), .unset] [(.ref b2)]))
  refine Run.x_astoreN (q := 8) X2 hx #[.val (.int b), .val (.int 2), .val (.int 1), .val (.ref b2)] (hb hby d12_7) rfl rfl rfl ?_
  refine Run.x_iloadN (q := 9) X2 hx (hb hby d12_8) rfl rfl ?_
  refine Run.x_ifNo (q := 12) X2 hx (hb hby d12_9) ((if0 _ _).trans (tlt (by decide : (0 : Int32) < (1 : Int32))).2.2.2) rfl ?_
  refine Run.x_aloadN (q := 13) X2 hx (hb hby d12_12) rfl rfl rfl ?_
  refine Run.x_iconst (q := 14) X2 hx (hb hby d12_13) (z := (0 : Int32)) rfl rfl ?_
  refine Run.x_iloadN (q := 15) X2 hx (hb hby d12_14) rfl rfl ?_
  refine Run.x_iconst (q := 16) X2 hx (hb hby d12_15) (z := (0 : Int32)) rfl rfl ?_
  refine Run.x_iloadN (q := 17) X2 hx (hb hby d12_16) rfl rfl ?_
  refine Run.callSI (q := 20) X2 hx hZ e2 (y := (⟨"semblance/JpegScansCompletePinLaw", "entry", "(III)I"⟩ : MethodName)) hown (wm61 hw) (wm62 hw) (wm24 hw) (wm63 hw) (by decide) (argsL := [(.int b), (.int 0), (.int 2)]) (rest := [(.int 0), (.ref b2)]) (c_ent l Z a0 hw b (0 : Int32) (2 : Int32) h2 n0 Z2 ) pd_4 rfl (by rw [hml]; rfl) (W := 2) rfl (by decide) (by decide) (by decide) (by decide) (hb hby d12_17) rfl rfl fun T3 L3 X3 M3 e3 => ?_
  have N3 := Fr.app N0 M3
  refine Run.y_stI (q := 21) X3 hx hZ e3 A_b2 (i := 0) (by decide) (Nat.le_of_ble_eq_true rfl) (hb hby d12_20) rfl fun T4 h4 X4 e4 W4 A4 => ?_
  replace A_b2 : Ars Z h4 b2 .int [(.int (own_en b (0 : Int32) (2 : Int32)))] := A4
  replace KP := KP.wr W4 (Or.inr sz_b2)
  have N4 := Fr.snoc X4 N3 g_b2
  have Z4 : n0 ≤ h4.size := Nat.le_trans Z2 (Nat.le_of_eq W4.size.symm)
  refine Run.x_iloadN (q := 22) X4 hx (hb hby d12_21) rfl rfl ?_
  refine Run.x_iconst (q := 23) X4 hx (hb hby d12_22) (z := (1 : Int32)) rfl rfl ?_
  refine Run.x_icmpYes (q := 35) X4 hx (hb hby d12_23) (flt (by decide : ¬ ((1 : Int32) < (1 : Int32)))).2.2.2 (by decide) (by decide) ?_
  refine Run.x_iloadN (q := 36) X4 hx (hb hby d12_35) rfl rfl ?_
  refine Run.x_iconst (q := 37) X4 hx (hb hby d12_36) (z := (2 : Int32)) rfl rfl ?_
  refine Run.x_icmpYes (q := 49) X4 hx (hb hby d12_37) (flt (by decide : ¬ ((2 : Int32) < (1 : Int32)))).2.2.2 (by decide) (by decide) ?_
  refine Run.x_aloadN (q := 50) X4 hx (hb hby d12_49) rfl rfl rfl ?_
  refine Run.retA X4 hx hlk e4 (t := (.array .int)) hret rfl rfl rfl (hb hby d12_50) (by decide) (by decide) ?_
  have he : own_es 2 b = [own_en b 0 2] := by unfold own_es; rw [hln]; rfl
  exact ⟨b2, rfl, N4, KP, sz_b2, by rw [he]; exact A_b2⟩
 ·skip
  show Run p e below s _ _ _ (T0.setTop (mkF m 4 #[.val (.int b), .val (.int 2), .val (.int 2), .unset] []))
  refine Run.x_iloadN (q := 5) X0 hx (hb hby d12_4) rfl rfl ?_
  refine Run.newP (aty := .int) X0 hx hZ e0 (wm15 hw) (hb hby d12_5) (len := 2) (by decide) (by decide) (cap := 2) (by decide) (by decide) (by decide) (by decide) ?_
  intro T5 h5 b5 gg5 X5 e5 E5 A_b5
  have g_b5 : n0 ≤ b5 := Nat.le_trans Z0 (Nat.le_of_eq gg5.symm)
  have sz_b5 : h0.size ≤ b5 := Nat.le_trans KP.1 (Nat.le_of_eq gg5.symm)
  have Z5 : n0 ≤ h5.size := Nat.le_trans Z0 E5.1
  replace KP := KP.ext E5
  replace A_b5 : Ars Z h5 b5 .int [(.int 0), (.int 0)] := A_b5
  show Run p e below s _ _ _ (T5.setTop (mkF m 7 #[.val (.int b), .val (.int 2), .val (.int 2), .unset] [(.ref b5)]))
  refine Run.x_astoreN (q := 8) X5 hx #[.val (.int b), .val (.int 2), .val (.int 2), .val (.ref b5)] (hb hby d12_7) rfl rfl rfl ?_
  refine Run.x_iloadN (q := 9) X5 hx (hb hby d12_8) rfl rfl ?_
  refine Run.x_ifNo (q := 12) X5 hx (hb hby d12_9) ((if0 _ _).trans (tlt (by decide : (0 : Int32) < (2 : Int32))).2.2.2) rfl ?_
  refine Run.x_aloadN (q := 13) X5 hx (hb hby d12_12) rfl rfl rfl ?_
  refine Run.x_iconst (q := 14) X5 hx (hb hby d12_13) (z := (0 : Int32)) rfl rfl ?_
  refine Run.x_iloadN (q := 15) X5 hx (hb hby d12_14) rfl rfl ?_
  refine Run.x_iconst (q := 16) X5 hx (hb hby d12_15) (z := (0 : Int32)) rfl rfl ?_
  refine Run.x_iloadN (q := 17) X5 hx (hb hby d12_16) rfl rfl ?_
  refine Run.callSI (q := 20) X5 hx hZ e5 (y := (⟨"semblance/JpegScansCompletePinLaw", "entry", "(III)I"⟩ : MethodName)) hown (wm61 hw) (wm62 hw) (wm24 hw) (wm63 hw) (by decide) (argsL := [(.int b), (.int 0), (.int 2)]) (rest := [(.int 0), (.ref b5)]) (c_ent l Z a0 hw b (0 : Int32) (2 : Int32) h5 n0 Z5 ) pd_4 rfl (by rw [hml]; rfl) (W := 2) rfl (by decide) (by decide) (by decide) (by decide) (hb hby d12_17) rfl rfl fun T6 L6 X6 M6 e6 => ?_
  have N6 := Fr.app N0 M6
  refine Run.y_stI (q := 21) X6 hx hZ e6 A_b5 (i := 0) (by decide) (Nat.le_of_ble_eq_true rfl) (hb hby d12_20) rfl fun T7 h7 X7 e7 W7 A7 => ?_
  replace A_b5 : Ars Z h7 b5 .int [(.int (own_en b (0 : Int32) (2 : Int32))), (.int 0)] := A7
  replace KP := KP.wr W7 (Or.inr sz_b5)
  have N7 := Fr.snoc X7 N6 g_b5
  have Z7 : n0 ≤ h7.size := Nat.le_trans Z5 (Nat.le_of_eq W7.size.symm)
  refine Run.x_iloadN (q := 22) X7 hx (hb hby d12_21) rfl rfl ?_
  refine Run.x_iconst (q := 23) X7 hx (hb hby d12_22) (z := (1 : Int32)) rfl rfl ?_
  refine Run.x_icmpNo (q := 26) X7 hx (hb hby d12_23) (tlt (by decide : (1 : Int32) < (2 : Int32))).2.2.2 rfl ?_
  refine Run.x_aloadN (q := 27) X7 hx (hb hby d12_26) rfl rfl rfl ?_
  refine Run.x_iconst (q := 28) X7 hx (hb hby d12_27) (z := (1 : Int32)) rfl rfl ?_
  refine Run.x_iloadN (q := 29) X7 hx (hb hby d12_28) rfl rfl ?_
  refine Run.x_iconst (q := 30) X7 hx (hb hby d12_29) (z := (1 : Int32)) rfl rfl ?_
  refine Run.x_iloadN (q := 31) X7 hx (hb hby d12_30) rfl rfl ?_
  refine Run.callSI (q := 34) X7 hx hZ e7 (y := (⟨"semblance/JpegScansCompletePinLaw", "entry", "(III)I"⟩ : MethodName)) hown (wm61 hw) (wm62 hw) (wm24 hw) (wm63 hw) (by decide) (argsL := [(.int b), (.int 1), (.int 2)]) (rest := [(.int 1), (.ref b5)]) (c_ent l Z a0 hw b (1 : Int32) (2 : Int32) h7 n0 Z7 ) pd_4 rfl (by rw [hml]; rfl) (W := 2) rfl (by decide) (by decide) (by decide) (by decide) (hb hby d12_31) rfl rfl fun T8 L8 X8 M8 e8 => ?_
  have N8 := Fr.app N7 M8
  refine Run.y_stI (q := 35) X8 hx hZ e8 A_b5 (i := 1) (by decide) (Nat.le_of_ble_eq_true rfl) (hb hby d12_34) rfl fun T9 h9 X9 e9 W9 A9 => ?_
  replace A_b5 : Ars Z h9 b5 .int [(.int (own_en b (0 : Int32) (2 : Int32))), (.int (own_en b (1 : Int32) (2 : Int32)))] := A9
  replace KP := KP.wr W9 (Or.inr sz_b5)
  have N9 := Fr.snoc X9 N8 g_b5
  have Z9 : n0 ≤ h9.size := Nat.le_trans Z7 (Nat.le_of_eq W9.size.symm)
  refine Run.x_iloadN (q := 36) X9 hx (hb hby d12_35) rfl rfl ?_
  refine Run.x_iconst (q := 37) X9 hx (hb hby d12_36) (z := (2 : Int32)) rfl rfl ?_
  refine Run.x_icmpYes (q := 49) X9 hx (hb hby d12_37) (flt (by decide : ¬ ((2 : Int32) < (2 : Int32)))).2.2.2 (by decide) (by decide) ?_
  refine Run.x_aloadN (q := 50) X9 hx (hb hby d12_49) rfl rfl rfl ?_
  refine Run.retA X9 hx hlk e9 (t := (.array .int)) hret rfl rfl rfl (hb hby d12_50) (by decide) (by decide) ?_
  have he : own_es 2 b = [own_en b 0 2, own_en b 1 2] := by unfold own_es; rw [hln]; rfl
  exact ⟨b5, rfl, N9, KP, sz_b5, by rw [he]; exact A_b5⟩
 ·skip
  show Run p e below s _ _ _ (T0.setTop (mkF m 4 #[.val (.int b), .val (.int 2), .val (.int 3), .unset] []))
  refine Run.x_iloadN (q := 5) X0 hx (hb hby d12_4) rfl rfl ?_
  refine Run.newP (aty := .int) X0 hx hZ e0 (wm15 hw) (hb hby d12_5) (len := 3) (by decide) (by decide) (cap := 3) (by decide) (by decide) (by decide) (by decide) ?_
  intro T10 h10 b10 gg10 X10 e10 E10 A_b10
  have g_b10 : n0 ≤ b10 := Nat.le_trans Z0 (Nat.le_of_eq gg10.symm)
  have sz_b10 : h0.size ≤ b10 := Nat.le_trans KP.1 (Nat.le_of_eq gg10.symm)
  have Z10 : n0 ≤ h10.size := Nat.le_trans Z0 E10.1
  replace KP := KP.ext E10
  replace A_b10 : Ars Z h10 b10 .int [(.int 0), (.int 0), (.int 0)] := A_b10
  show Run p e below s _ _ _ (T10.setTop (mkF m 7 #[.val (.int b), .val (.int 2), .val (.int 3), .unset] [(.ref b10)]))
  refine Run.x_astoreN (q := 8) X10 hx #[.val (.int b), .val (.int 2), .val (.int 3), .val (.ref b10)] (hb hby d12_7) rfl rfl rfl ?_
  refine Run.x_iloadN (q := 9) X10 hx (hb hby d12_8) rfl rfl ?_
  refine Run.x_ifNo (q := 12) X10 hx (hb hby d12_9) ((if0 _ _).trans (tlt (by decide : (0 : Int32) < (3 : Int32))).2.2.2) rfl ?_
  refine Run.x_aloadN (q := 13) X10 hx (hb hby d12_12) rfl rfl rfl ?_
  refine Run.x_iconst (q := 14) X10 hx (hb hby d12_13) (z := (0 : Int32)) rfl rfl ?_
  refine Run.x_iloadN (q := 15) X10 hx (hb hby d12_14) rfl rfl ?_
  refine Run.x_iconst (q := 16) X10 hx (hb hby d12_15) (z := (0 : Int32)) rfl rfl ?_
  refine Run.x_iloadN (q := 17) X10 hx (hb hby d12_16) rfl rfl ?_
  refine Run.callSI (q := 20) X10 hx hZ e10 (y := (⟨"semblance/JpegScansCompletePinLaw", "entry", "(III)I"⟩ : MethodName)) hown (wm61 hw) (wm62 hw) (wm24 hw) (wm63 hw) (by decide) (argsL := [(.int b), (.int 0), (.int 2)]) (rest := [(.int 0), (.ref b10)]) (c_ent l Z a0 hw b (0 : Int32) (2 : Int32) h10 n0 Z10 ) pd_4 rfl (by rw [hml]; rfl) (W := 2) rfl (by decide) (by decide) (by decide) (by decide) (hb hby d12_17) rfl rfl fun T11 L11 X11 M11 e11 => ?_
  have N11 := Fr.app N0 M11
  refine Run.y_stI (q := 21) X11 hx hZ e11 A_b10 (i := 0) (by decide) (Nat.le_of_ble_eq_true rfl) (hb hby d12_20) rfl fun T12 h12 X12 e12 W12 A12 => ?_
  replace A_b10 : Ars Z h12 b10 .int [(.int (own_en b (0 : Int32) (2 : Int32))), (.int 0), (.int 0)] := A12
  replace KP := KP.wr W12 (Or.inr sz_b10)
  have N12 := Fr.snoc X12 N11 g_b10
  have Z12 : n0 ≤ h12.size := Nat.le_trans Z10 (Nat.le_of_eq W12.size.symm)
  refine Run.x_iloadN (q := 22) X12 hx (hb hby d12_21) rfl rfl ?_
  refine Run.x_iconst (q := 23) X12 hx (hb hby d12_22) (z := (1 : Int32)) rfl rfl ?_
  refine Run.x_icmpNo (q := 26) X12 hx (hb hby d12_23) (tlt (by decide : (1 : Int32) < (3 : Int32))).2.2.2 rfl ?_
  refine Run.x_aloadN (q := 27) X12 hx (hb hby d12_26) rfl rfl rfl ?_
  refine Run.x_iconst (q := 28) X12 hx (hb hby d12_27) (z := (1 : Int32)) rfl rfl ?_
  refine Run.x_iloadN (q := 29) X12 hx (hb hby d12_28) rfl rfl ?_
  refine Run.x_iconst (q := 30) X12 hx (hb hby d12_29) (z := (1 : Int32)) rfl rfl ?_
  refine Run.x_iloadN (q := 31) X12 hx (hb hby d12_30) rfl rfl ?_
  refine Run.callSI (q := 34) X12 hx hZ e12 (y := (⟨"semblance/JpegScansCompletePinLaw", "entry", "(III)I"⟩ : MethodName)) hown (wm61 hw) (wm62 hw) (wm24 hw) (wm63 hw) (by decide) (argsL := [(.int b), (.int 1), (.int 2)]) (rest := [(.int 1), (.ref b10)]) (c_ent l Z a0 hw b (1 : Int32) (2 : Int32) h12 n0 Z12 ) pd_4 rfl (by rw [hml]; rfl) (W := 2) rfl (by decide) (by decide) (by decide) (by decide) (hb hby d12_31) rfl rfl fun T13 L13 X13 M13 e13 => ?_
  have N13 := Fr.app N12 M13
  refine Run.y_stI (q := 35) X13 hx hZ e13 A_b10 (i := 1) (by decide) (Nat.le_of_ble_eq_true rfl) (hb hby d12_34) rfl fun T14 h14 X14 e14 W14 A14 => ?_
  replace A_b10 : Ars Z h14 b10 .int [(.int (own_en b (0 : Int32) (2 : Int32))), (.int (own_en b (1 : Int32) (2 : Int32))), (.int 0)] := A14
  replace KP := KP.wr W14 (Or.inr sz_b10)
  have N14 := Fr.snoc X14 N13 g_b10
  have Z14 : n0 ≤ h14.size := Nat.le_trans Z12 (Nat.le_of_eq W14.size.symm)
  refine Run.x_iloadN (q := 36) X14 hx (hb hby d12_35) rfl rfl ?_
  refine Run.x_iconst (q := 37) X14 hx (hb hby d12_36) (z := (2 : Int32)) rfl rfl ?_
  refine Run.x_icmpNo (q := 40) X14 hx (hb hby d12_37) (tlt (by decide : (2 : Int32) < (3 : Int32))).2.2.2 rfl ?_
  refine Run.x_aloadN (q := 41) X14 hx (hb hby d12_40) rfl rfl rfl ?_
  refine Run.x_iconst (q := 42) X14 hx (hb hby d12_41) (z := (2 : Int32)) rfl rfl ?_
  refine Run.x_iloadN (q := 43) X14 hx (hb hby d12_42) rfl rfl ?_
  refine Run.x_iconst (q := 44) X14 hx (hb hby d12_43) (z := (2 : Int32)) rfl rfl ?_
  refine Run.x_iloadN (q := 45) X14 hx (hb hby d12_44) rfl rfl ?_
  refine Run.callSI (q := 48) X14 hx hZ e14 (y := (⟨"semblance/JpegScansCompletePinLaw", "entry", "(III)I"⟩ : MethodName)) hown (wm61 hw) (wm62 hw) (wm24 hw) (wm63 hw) (by decide) (argsL := [(.int b), (.int 2), (.int 2)]) (rest := [(.int 2), (.ref b10)]) (c_ent l Z a0 hw b (2 : Int32) (2 : Int32) h14 n0 Z14 ) pd_4 rfl (by rw [hml]; rfl) (W := 2) rfl (by decide) (by decide) (by decide) (by decide) (hb hby d12_45) rfl rfl fun T15 L15 X15 M15 e15 => ?_
  have N15 := Fr.app N14 M15
  refine Run.y_stI (q := 49) X15 hx hZ e15 A_b10 (i := 2) (by decide) (Nat.le_of_ble_eq_true rfl) (hb hby d12_48) rfl fun T16 h16 X16 e16 W16 A16 => ?_
  replace A_b10 : Ars Z h16 b10 .int [(.int (own_en b (0 : Int32) (2 : Int32))), (.int (own_en b (1 : Int32) (2 : Int32))), (.int (own_en b (2 : Int32) (2 : Int32)))] := A16
  replace KP := KP.wr W16 (Or.inr sz_b10)
  have N16 := Fr.snoc X16 N15 g_b10
  have Z16 : n0 ≤ h16.size := Nat.le_trans Z14 (Nat.le_of_eq W16.size.symm)
  refine Run.x_aloadN (q := 50) X16 hx (hb hby d12_49) rfl rfl rfl ?_
  refine Run.retA X16 hx hlk e16 (t := (.array .int)) hret rfl rfl rfl (hb hby d12_50) (by decide) (by decide) ?_
  have he : own_es 2 b = [own_en b 0 2, own_en b 1 2, own_en b 2 2] := by unfold own_es; rw [hln]; rfl
  exact ⟨b10, rfl, N16, KP, sz_b10, by rw [he]; exact A_b10⟩
theorem d13_0 : decode method_5_code 0 = .ok (.iload_n 0, 1) := by decide +kernel
theorem d13_1 : decode method_5_code 1 = .ok (.iconst 3, 1) := by decide +kernel
theorem d13_2 : decode method_5_code 2 = .ok (.iand, 1) := by decide +kernel
theorem d13_3 : decode method_5_code 3 = .ok (.istore_n 2, 1) := by decide +kernel
theorem d13_4 : decode method_5_code 4 = .ok (.iconst 0, 1) := by decide +kernel
theorem d13_5 : decode method_5_code 5 = .ok (.istore_n 3, 1) := by decide +kernel
theorem d13_6 : decode method_5_code 6 = .ok (.iload_n 2, 1) := by decide +kernel
theorem d13_7 : decode method_5_code 7 = .ok (.ifCond .le 12, 3) := by decide +kernel
theorem d13_10 : decode method_5_code 10 = .ok (.iload_n 3, 1) := by decide +kernel
theorem d13_11 : decode method_5_code 11 = .ok (.iload_n 0, 1) := by decide +kernel
theorem d13_12 : decode method_5_code 12 = .ok (.iconst 0, 1) := by decide +kernel
theorem d13_13 : decode method_5_code 13 = .ok (.iload_n 1, 1) := by decide +kernel
theorem d13_14 : decode method_5_code 14 = .ok (.invokestatic 39, 3) := by decide +kernel
theorem d13_17 : decode method_5_code 17 = .ok (.iadd, 1) := by decide +kernel
theorem d13_18 : decode method_5_code 18 = .ok (.istore_n 3, 1) := by decide +kernel
theorem d13_19 : decode method_5_code 19 = .ok (.iload_n 2, 1) := by decide +kernel
theorem d13_20 : decode method_5_code 20 = .ok (.iconst 1, 1) := by decide +kernel
theorem d13_21 : decode method_5_code 21 = .ok (.if_icmp .le 12, 3) := by decide +kernel
theorem d13_24 : decode method_5_code 24 = .ok (.iload_n 3, 1) := by decide +kernel
theorem d13_25 : decode method_5_code 25 = .ok (.iload_n 0, 1) := by decide +kernel
theorem d13_26 : decode method_5_code 26 = .ok (.iconst 1, 1) := by decide +kernel
theorem d13_27 : decode method_5_code 27 = .ok (.iload_n 1, 1) := by decide +kernel
theorem d13_28 : decode method_5_code 28 = .ok (.invokestatic 39, 3) := by decide +kernel
theorem d13_31 : decode method_5_code 31 = .ok (.iadd, 1) := by decide +kernel
theorem d13_32 : decode method_5_code 32 = .ok (.istore_n 3, 1) := by decide +kernel
theorem d13_33 : decode method_5_code 33 = .ok (.iload_n 2, 1) := by decide +kernel
theorem d13_34 : decode method_5_code 34 = .ok (.iconst 2, 1) := by decide +kernel
theorem d13_35 : decode method_5_code 35 = .ok (.if_icmp .le 12, 3) := by decide +kernel
theorem d13_38 : decode method_5_code 38 = .ok (.iload_n 3, 1) := by decide +kernel
theorem d13_39 : decode method_5_code 39 = .ok (.iload_n 0, 1) := by decide +kernel
theorem d13_40 : decode method_5_code 40 = .ok (.iconst 2, 1) := by decide +kernel
theorem d13_41 : decode method_5_code 41 = .ok (.iload_n 1, 1) := by decide +kernel
theorem d13_42 : decode method_5_code 42 = .ok (.invokestatic 39, 3) := by decide +kernel
theorem d13_45 : decode method_5_code 45 = .ok (.iadd, 1) := by decide +kernel
theorem d13_46 : decode method_5_code 46 = .ok (.istore_n 3, 1) := by decide +kernel
theorem d13_47 : decode method_5_code 47 = .ok (.iload_n 3, 1) := by decide +kernel
theorem d13_48 : decode method_5_code 48 = .ok (.ireturn, 1) := by decide +kernel
theorem ef_c_ones_1 (m : MethodId) (b : Int32) : entryFrame m #[(.int b), (.int 1)] 4 = mkF m 0 #[.val (.int b), .val (.int 1), .unset, .unset] [] := by first | (simp [entryFrame, mkF, argsToLocals, Value.category]; done) | rfl
set_option maxRecDepth 65536 in
set_option maxHeartbeats 40000000 in
theorem c_ones_1 (l : Launch) (Z : State) (a0 : Array Value) (hw : ∀ d ∈ tables_1, d.before a0 Z = true) (b : Int32) (h0 : Heap) (n0 : Nat) (Z0 : n0 ≤ h0.size)  :
  Ctr l Z (⟨"semblance/JpegScansCompletePinLaw", "ones", "(II)I"⟩ : MethodName) method_5_code 4 (some .int) ({ frames := 1, cells := 0, slots := 0, locals := 15 } : Room) #[(.int b), (.int 1)] h0 (PureI h0 n0 (own_sm (own_es 1 b) 0)) := by
 refine Ctr.of (plainFor_of_name pn_2) (fun m => ef_c_ones_1 m b) ?_
 intro p e s m below meth c T0 hx hby hml hown hnm hret hlk hZ e0 X0
 have N0 := Fr.nil n0
 replace hown : s.vm.findClass "semblance/JpegScansCompletePinLaw" = some m.cls := hown
 replace hml : c.maxLocals = 4 := hml
 refine Run.x_iloadN (q := 1) X0 hx (hb hby d13_0) rfl rfl ?_
 refine Run.x_iconst (q := 2) X0 hx (hb hby d13_1) (z := (3 : Int32)) rfl rfl ?_
 refine Run.x_iand (q := 3) X0 hx (hb hby d13_2) rfl rfl ?_
 refine Run.x_istoreN (q := 4) X0 hx #[.val (.int b), .val (.int 1), .val (.int (b &&& (3 : Int32))), .unset] (hb hby d13_3) rfl rfl ?_
 generalize hln : (b &&& (3 : Int32)) = ln
 rcases own_3 hln with rfl | rfl | rfl | rfl
 ·skip
  show Run p e below s _ _ _ (T0.setTop (mkF m 4 #[.val (.int b), .val (.int 1), .val (.int 0), .unset] []))
  refine Run.x_iconst (q := 5) X0 hx (hb hby d13_4) (z := (0 : Int32)) rfl rfl ?_
  refine Run.x_istoreN (q := 6) X0 hx #[.val (.int b), .val (.int 1), .val (.int 0), .val (.int 0)] (hb hby d13_5) rfl rfl ?_
  refine Run.x_iloadN (q := 7) X0 hx (hb hby d13_6) rfl rfl ?_
  refine Run.x_ifYes (q := 19) X0 hx (hb hby d13_7) ((if0 _ _).trans (flt (by decide : ¬ ((0 : Int32) < (0 : Int32)))).2.2.2) (by decide) (by decide) ?_
  refine Run.x_iloadN (q := 20) X0 hx (hb hby d13_19) rfl rfl ?_
  refine Run.x_iconst (q := 21) X0 hx (hb hby d13_20) (z := (1 : Int32)) rfl rfl ?_
  refine Run.x_icmpYes (q := 33) X0 hx (hb hby d13_21) (flt (by decide : ¬ ((1 : Int32) < (0 : Int32)))).2.2.2 (by decide) (by decide) ?_
  refine Run.x_iloadN (q := 34) X0 hx (hb hby d13_33) rfl rfl ?_
  refine Run.x_iconst (q := 35) X0 hx (hb hby d13_34) (z := (2 : Int32)) rfl rfl ?_
  refine Run.x_icmpYes (q := 47) X0 hx (hb hby d13_35) (flt (by decide : ¬ ((2 : Int32) < (0 : Int32)))).2.2.2 (by decide) (by decide) ?_
  refine Run.x_iloadN (q := 48) X0 hx (hb hby d13_47) rfl rfl ?_
  refine Run.retI X0 hx hlk e0 hret (hb hby d13_48) (by decide) (by decide) ?_
  refine PureI.mk ?_ N0
  unfold own_es
  rw [hln]
  rfl
 ·skip
  show Run p e below s _ _ _ (T0.setTop (mkF m 4 #[.val (.int b), .val (.int 1), .val (.int 1), .unset] []))
  refine Run.x_iconst (q := 5) X0 hx (hb hby d13_4) (z := (0 : Int32)) rfl rfl ?_
  refine Run.x_istoreN (q := 6) X0 hx #[.val (.int b), .val (.int 1), .val (.int 1), .val (.int 0)] (hb hby d13_5) rfl rfl ?_
  refine Run.x_iloadN (q := 7) X0 hx (hb hby d13_6) rfl rfl ?_
  refine Run.x_ifNo (q := 10) X0 hx (hb hby d13_7) ((if0 _ _).trans (tlt (by decide : (0 : Int32) < (1 : Int32))).2.2.2) rfl ?_
  refine Run.x_iloadN (q := 11) X0 hx (hb hby d13_10) rfl rfl ?_
  refine Run.x_iloadN (q := 12) X0 hx (hb hby d13_11) rfl rfl ?_
  refine Run.x_iconst (q := 13) X0 hx (hb hby d13_12) (z := (0 : Int32)) rfl rfl ?_
  refine Run.x_iloadN (q := 14) X0 hx (hb hby d13_13) rfl rfl ?_
  refine Run.callSI (q := 17) X0 hx hZ e0 (y := (⟨"semblance/JpegScansCompletePinLaw", "entry", "(III)I"⟩ : MethodName)) hown (wm61 hw) (wm62 hw) (wm24 hw) (wm63 hw) (by decide) (argsL := [(.int b), (.int 0), (.int 1)]) (rest := [(.int 0)]) (c_ent l Z a0 hw b (0 : Int32) (1 : Int32) h0 n0 Z0 ) pd_4 rfl (by rw [hml]; rfl) (W := 1) rfl (by decide) (by decide) (by decide) (by decide) (hb hby d13_14) rfl rfl fun T2 L2 X2 M2 e2 => ?_
  have N2 := Fr.app N0 M2
  refine Run.x_iadd (q := 18) X2 hx (hb hby d13_17) rfl rfl ?_
  refine Run.x_istoreN (q := 19) X2 hx #[.val (.int b), .val (.int 1), .val (.int 1), .val (.int ((0 : Int32) + (own_en b (0 : Int32) (1 : Int32))))] (hb hby d13_18) rfl rfl ?_
  refine Run.x_iloadN (q := 20) X2 hx (hb hby d13_19) rfl rfl ?_
  refine Run.x_iconst (q := 21) X2 hx (hb hby d13_20) (z := (1 : Int32)) rfl rfl ?_
  refine Run.x_icmpYes (q := 33) X2 hx (hb hby d13_21) (flt (by decide : ¬ ((1 : Int32) < (1 : Int32)))).2.2.2 (by decide) (by decide) ?_
  refine Run.x_iloadN (q := 34) X2 hx (hb hby d13_33) rfl rfl ?_
  refine Run.x_iconst (q := 35) X2 hx (hb hby d13_34) (z := (2 : Int32)) rfl rfl ?_
  refine Run.x_icmpYes (q := 47) X2 hx (hb hby d13_35) (flt (by decide : ¬ ((2 : Int32) < (1 : Int32)))).2.2.2 (by decide) (by decide) ?_
  refine Run.x_iloadN (q := 48) X2 hx (hb hby d13_47) rfl rfl ?_
  refine Run.retI X2 hx hlk e2 hret (hb hby d13_48) (by decide) (by decide) ?_
  refine PureI.mk ?_ N2
  unfold own_es
  rw [hln]
  rfl
 ·skip
  show Run p e below s _ _ _ (T0.setTop (mkF m 4 #[.val (.int b), .val (.int 1), .val (.int 2), .unset] []))
  refine Run.x_iconst (q := 5) X0 hx (hb hby d13_4) (z := (0 : Int32)) rfl rfl ?_
  refine Run.x_istoreN (q := 6) X0 hx #[.val (.int b), .val (.int 1), .val (.int 2), .val (.int 0)] (hb hby d13_5) rfl rfl ?_
  refine Run.x_iloadN (q := 7) X0 hx (hb hby d13_6) rfl rfl ?_
  refine Run.x_ifNo (q := 10) X0 hx (hb hby d13_7) ((if0 _ _).trans (tlt (by decide : (0 : Int32) < (2 : Int32))).2.2.2) rfl ?_
  refine Run.x_iloadN (q := 11) X0 hx (hb hby d13_10) rfl rfl ?_
  refine Run.x_iloadN (q := 12) X0 hx (hb hby d13_11) rfl rfl ?_
  refine Run.x_iconst (q := 13) X0 hx (hb hby d13_12) (z := (0 : Int32)) rfl rfl ?_
  refine Run.x_iloadN (q := 14) X0 hx (hb hby d13_13) rfl rfl ?_
  refine Run.callSI (q := 17) X0 hx hZ e0 (y := (⟨"semblance/JpegScansCompletePinLaw", "entry", "(III)I"⟩ : MethodName)) hown (wm61 hw) (wm62 hw) (wm24 hw) (wm63 hw) (by decide) (argsL := [(.int b), (.int 0), (.int 1)]) (rest := [(.int 0)]) (c_ent l Z a0 hw b (0 : Int32) (1 : Int32) h0 n0 Z0 ) pd_4 rfl (by rw [hml]; rfl) (W := 1) rfl (by decide) (by decide) (by decide) (by decide) (hb hby d13_14) rfl rfl fun T3 L3 X3 M3 e3 => ?_
  have N3 := Fr.app N0 M3
  refine Run.x_iadd (q := 18) X3 hx (hb hby d13_17) rfl rfl ?_
  refine Run.x_istoreN (q := 19) X3 hx #[.val (.int b), .val (.int 1), .val (.int 2), .val (.int ((0 : Int32) + (own_en b (0 : Int32) (1 : Int32))))] (hb hby d13_18) rfl rfl ?_
  refine Run.x_iloadN (q := 20) X3 hx (hb hby d13_19) rfl rfl ?_
  refine Run.x_iconst (q := 21) X3 hx (hb hby d13_20) (z := (1 : Int32)) rfl rfl ?_
  refine Run.x_icmpNo (q := 24) X3 hx (hb hby d13_21) (tlt (by decide : (1 : Int32) < (2 : Int32))).2.2.2 rfl ?_
  refine Run.x_iloadN (q := 25) X3 hx (hb hby d13_24) rfl rfl ?_
  refine Run.x_iloadN (q := 26) X3 hx (hb hby d13_25) rfl rfl ?_
  refine Run.x_iconst (q := 27) X3 hx (hb hby d13_26) (z := (1 : Int32)) rfl rfl ?_
  refine Run.x_iloadN (q := 28) X3 hx (hb hby d13_27) rfl rfl ?_
  refine Run.callSI (q := 31) X3 hx hZ e3 (y := (⟨"semblance/JpegScansCompletePinLaw", "entry", "(III)I"⟩ : MethodName)) hown (wm61 hw) (wm62 hw) (wm24 hw) (wm63 hw) (by decide) (argsL := [(.int b), (.int 1), (.int 1)]) (rest := [(.int ((0 : Int32) + (own_en b (0 : Int32) (1 : Int32))))]) (c_ent l Z a0 hw b (1 : Int32) (1 : Int32) h0 n0 Z0 ) pd_4 rfl (by rw [hml]; rfl) (W := 1) rfl (by decide) (by decide) (by decide) (by decide) (hb hby d13_28) rfl rfl fun T4 L4 X4 M4 e4 => ?_
  have N4 := Fr.app N3 M4
  refine Run.x_iadd (q := 32) X4 hx (hb hby d13_31) rfl rfl ?_
  refine Run.x_istoreN (q := 33) X4 hx #[.val (.int b), .val (.int 1), .val (.int 2), .val (.int (((0 : Int32) + (own_en b (0 : Int32) (1 : Int32))) + (own_en b (1 : Int32) (1 : Int32))))] (hb hby d13_32) rfl rfl ?_
  refine Run.x_iloadN (q := 34) X4 hx (hb hby d13_33) rfl rfl ?_
  refine Run.x_iconst (q := 35) X4 hx (hb hby d13_34) (z := (2 : Int32)) rfl rfl ?_
  refine Run.x_icmpYes (q := 47) X4 hx (hb hby d13_35) (flt (by decide : ¬ ((2 : Int32) < (2 : Int32)))).2.2.2 (by decide) (by decide) ?_
  refine Run.x_iloadN (q := 48) X4 hx (hb hby d13_47) rfl rfl ?_
  refine Run.retI X4 hx hlk e4 hret (hb hby d13_48) (by decide) (by decide) ?_
  refine PureI.mk ?_ N4
  unfold own_es
  rw [hln]
  rfl
 ·skip
  show Run p e below s _ _ _ (T0.setTop (mkF m 4 #[.val (.int b), .val (.int 1), .val (.int 3), .unset] []))
  refine Run.x_iconst (q := 5) X0 hx (hb hby d13_4) (z := (0 : Int32)) rfl rfl ?_
  refine Run.x_istoreN (q := 6) X0 hx #[.val (.int b), .val (.int 1), .val (.int 3), .val (.int 0)] (hb hby d13_5) rfl rfl ?_
  refine Run.x_iloadN (q := 7) X0 hx (hb hby d13_6) rfl rfl ?_
  refine Run.x_ifNo (q := 10) X0 hx (hb hby d13_7) ((if0 _ _).trans (tlt (by decide : (0 : Int32) < (3 : Int32))).2.2.2) rfl ?_
  refine Run.x_iloadN (q := 11) X0 hx (hb hby d13_10) rfl rfl ?_
  refine Run.x_iloadN (q := 12) X0 hx (hb hby d13_11) rfl rfl ?_
  refine Run.x_iconst (q := 13) X0 hx (hb hby d13_12) (z := (0 : Int32)) rfl rfl ?_
  refine Run.x_iloadN (q := 14) X0 hx (hb hby d13_13) rfl rfl ?_
  refine Run.callSI (q := 17) X0 hx hZ e0 (y := (⟨"semblance/JpegScansCompletePinLaw", "entry", "(III)I"⟩ : MethodName)) hown (wm61 hw) (wm62 hw) (wm24 hw) (wm63 hw) (by decide) (argsL := [(.int b), (.int 0), (.int 1)]) (rest := [(.int 0)]) (c_ent l Z a0 hw b (0 : Int32) (1 : Int32) h0 n0 Z0 ) pd_4 rfl (by rw [hml]; rfl) (W := 1) rfl (by decide) (by decide) (by decide) (by decide) (hb hby d13_14) rfl rfl fun T5 L5 X5 M5 e5 => ?_
  have N5 := Fr.app N0 M5
  refine Run.x_iadd (q := 18) X5 hx (hb hby d13_17) rfl rfl ?_
  refine Run.x_istoreN (q := 19) X5 hx #[.val (.int b), .val (.int 1), .val (.int 3), .val (.int ((0 : Int32) + (own_en b (0 : Int32) (1 : Int32))))] (hb hby d13_18) rfl rfl ?_
  refine Run.x_iloadN (q := 20) X5 hx (hb hby d13_19) rfl rfl ?_
  refine Run.x_iconst (q := 21) X5 hx (hb hby d13_20) (z := (1 : Int32)) rfl rfl ?_
  refine Run.x_icmpNo (q := 24) X5 hx (hb hby d13_21) (tlt (by decide : (1 : Int32) < (3 : Int32))).2.2.2 rfl ?_
  refine Run.x_iloadN (q := 25) X5 hx (hb hby d13_24) rfl rfl ?_
  refine Run.x_iloadN (q := 26) X5 hx (hb hby d13_25) rfl rfl ?_
  refine Run.x_iconst (q := 27) X5 hx (hb hby d13_26) (z := (1 : Int32)) rfl rfl ?_
  refine Run.x_iloadN (q := 28) X5 hx (hb hby d13_27) rfl rfl ?_
  refine Run.callSI (q := 31) X5 hx hZ e5 (y := (⟨"semblance/JpegScansCompletePinLaw", "entry", "(III)I"⟩ : MethodName)) hown (wm61 hw) (wm62 hw) (wm24 hw) (wm63 hw) (by decide) (argsL := [(.int b), (.int 1), (.int 1)]) (rest := [(.int ((0 : Int32) + (own_en b (0 : Int32) (1 : Int32))))]) (c_ent l Z a0 hw b (1 : Int32) (1 : Int32) h0 n0 Z0 ) pd_4 rfl (by rw [hml]; rfl) (W := 1) rfl (by decide) (by decide) (by decide) (by decide) (hb hby d13_28) rfl rfl fun T6 L6 X6 M6 e6 => ?_
  have N6 := Fr.app N5 M6
  refine Run.x_iadd (q := 32) X6 hx (hb hby d13_31) rfl rfl ?_
  refine Run.x_istoreN (q := 33) X6 hx #[.val (.int b), .val (.int 1), .val (.int 3), .val (.int (((0 : Int32) + (own_en b (0 : Int32) (1 : Int32))) + (own_en b (1 : Int32) (1 : Int32))))] (hb hby d13_32) rfl rfl ?_
  refine Run.x_iloadN (q := 34) X6 hx (hb hby d13_33) rfl rfl ?_
  refine Run.x_iconst (q := 35) X6 hx (hb hby d13_34) (z := (2 : Int32)) rfl rfl ?_
  refine Run.x_icmpNo (q := 38) X6 hx (hb hby d13_35) (tlt (by decide : (2 : Int32) < (3 : Int32))).2.2.2 rfl ?_
  refine Run.x_iloadN (q := 39) X6 hx (hb hby d13_38) rfl rfl ?_
  refine Run.x_iloadN (q := 40) X6 hx (hb hby d13_39) rfl rfl ?_
  refine Run.x_iconst (q := 41) X6 hx (hb hby d13_40) (z := (2 : Int32)) rfl rfl ?_
  refine Run.x_iloadN (q := 42) X6 hx (hb hby d13_41) rfl rfl ?_
  refine Run.callSI (q := 45) X6 hx hZ e6 (y := (⟨"semblance/JpegScansCompletePinLaw", "entry", "(III)I"⟩ : MethodName)) hown (wm61 hw) (wm62 hw) (wm24 hw) (wm63 hw) (by decide) (argsL := [(.int b), (.int 2), (.int 1)]) (rest := [(.int (((0 : Int32) + (own_en b (0 : Int32) (1 : Int32))) + (own_en b (1 : Int32) (1 : Int32))))]) (c_ent l Z a0 hw b (2 : Int32) (1 : Int32) h0 n0 Z0 ) pd_4 rfl (by rw [hml]; rfl) (W := 1) rfl (by decide) (by decide) (by decide) (by decide) (hb hby d13_42) rfl rfl fun T7 L7 X7 M7 e7 => ?_
  have N7 := Fr.app N6 M7
  refine Run.x_iadd (q := 46) X7 hx (hb hby d13_45) rfl rfl ?_
  refine Run.x_istoreN (q := 47) X7 hx #[.val (.int b), .val (.int 1), .val (.int 3), .val (.int ((((0 : Int32) + (own_en b (0 : Int32) (1 : Int32))) + (own_en b (1 : Int32) (1 : Int32))) + (own_en b (2 : Int32) (1 : Int32))))] (hb hby d13_46) rfl rfl ?_
  refine Run.x_iloadN (q := 48) X7 hx (hb hby d13_47) rfl rfl ?_
  refine Run.retI X7 hx hlk e7 hret (hb hby d13_48) (by decide) (by decide) ?_
  refine PureI.mk ?_ N7
  unfold own_es
  rw [hln]
  rfl
theorem ef_c_ones_2 (m : MethodId) (b : Int32) : entryFrame m #[(.int b), (.int 2)] 4 = mkF m 0 #[.val (.int b), .val (.int 2), .unset, .unset] [] := by first | (simp [entryFrame, mkF, argsToLocals, Value.category]; done) | rfl
set_option maxRecDepth 65536 in
set_option maxHeartbeats 40000000 in
theorem c_ones_2 (l : Launch) (Z : State) (a0 : Array Value) (hw : ∀ d ∈ tables_1, d.before a0 Z = true) (b : Int32) (h0 : Heap) (n0 : Nat) (Z0 : n0 ≤ h0.size)  :
  Ctr l Z (⟨"semblance/JpegScansCompletePinLaw", "ones", "(II)I"⟩ : MethodName) method_5_code 4 (some .int) ({ frames := 1, cells := 0, slots := 0, locals := 15 } : Room) #[(.int b), (.int 2)] h0 (PureI h0 n0 (own_sm (own_es 2 b) 0)) := by
 refine Ctr.of (plainFor_of_name pn_2) (fun m => ef_c_ones_2 m b) ?_
 intro p e s m below meth c T0 hx hby hml hown hnm hret hlk hZ e0 X0
 have N0 := Fr.nil n0
 replace hown : s.vm.findClass "semblance/JpegScansCompletePinLaw" = some m.cls := hown
 replace hml : c.maxLocals = 4 := hml
 refine Run.x_iloadN (q := 1) X0 hx (hb hby d13_0) rfl rfl ?_
 refine Run.x_iconst (q := 2) X0 hx (hb hby d13_1) (z := (3 : Int32)) rfl rfl ?_
 refine Run.x_iand (q := 3) X0 hx (hb hby d13_2) rfl rfl ?_
 refine Run.x_istoreN (q := 4) X0 hx #[.val (.int b), .val (.int 2), .val (.int (b &&& (3 : Int32))), .unset] (hb hby d13_3) rfl rfl ?_
 generalize hln : (b &&& (3 : Int32)) = ln
 rcases own_3 hln with rfl | rfl | rfl | rfl
 ·skip
  show Run p e below s _ _ _ (T0.setTop (mkF m 4 #[.val (.int b), .val (.int 2), .val (.int 0), .unset] []))
  refine Run.x_iconst (q := 5) X0 hx (hb hby d13_4) (z := (0 : Int32)) rfl rfl ?_
  refine Run.x_istoreN (q := 6) X0 hx #[.val (.int b), .val (.int 2), .val (.int 0), .val (.int 0)] (hb hby d13_5) rfl rfl ?_
  refine Run.x_iloadN (q := 7) X0 hx (hb hby d13_6) rfl rfl ?_
  refine Run.x_ifYes (q := 19) X0 hx (hb hby d13_7) ((if0 _ _).trans (flt (by decide : ¬ ((0 : Int32) < (0 : Int32)))).2.2.2) (by decide) (by decide) ?_
  refine Run.x_iloadN (q := 20) X0 hx (hb hby d13_19) rfl rfl ?_
  refine Run.x_iconst (q := 21) X0 hx (hb hby d13_20) (z := (1 : Int32)) rfl rfl ?_
  refine Run.x_icmpYes (q := 33) X0 hx (hb hby d13_21) (flt (by decide : ¬ ((1 : Int32) < (0 : Int32)))).2.2.2 (by decide) (by decide) ?_
  refine Run.x_iloadN (q := 34) X0 hx (hb hby d13_33) rfl rfl ?_
  refine Run.x_iconst (q := 35) X0 hx (hb hby d13_34) (z := (2 : Int32)) rfl rfl ?_
  refine Run.x_icmpYes (q := 47) X0 hx (hb hby d13_35) (flt (by decide : ¬ ((2 : Int32) < (0 : Int32)))).2.2.2 (by decide) (by decide) ?_
  refine Run.x_iloadN (q := 48) X0 hx (hb hby d13_47) rfl rfl ?_
  refine Run.retI X0 hx hlk e0 hret (hb hby d13_48) (by decide) (by decide) ?_
  refine PureI.mk ?_ N0
  unfold own_es
  rw [hln]
  rfl
 ·skip
  show Run p e below s _ _ _ (T0.setTop (mkF m 4 #[.val (.int b), .val (.int 2), .val (.int 1), .unset] []))
  refine Run.x_iconst (q := 5) X0 hx (hb hby d13_4) (z := (0 : Int32)) rfl rfl ?_
  refine Run.x_istoreN (q := 6) X0 hx #[.val (.int b), .val (.int 2), .val (.int 1), .val (.int 0)] (hb hby d13_5) rfl rfl ?_
  refine Run.x_iloadN (q := 7) X0 hx (hb hby d13_6) rfl rfl ?_
  refine Run.x_ifNo (q := 10) X0 hx (hb hby d13_7) ((if0 _ _).trans (tlt (by decide : (0 : Int32) < (1 : Int32))).2.2.2) rfl ?_
  refine Run.x_iloadN (q := 11) X0 hx (hb hby d13_10) rfl rfl ?_
  refine Run.x_iloadN (q := 12) X0 hx (hb hby d13_11) rfl rfl ?_
  refine Run.x_iconst (q := 13) X0 hx (hb hby d13_12) (z := (0 : Int32)) rfl rfl ?_
  refine Run.x_iloadN (q := 14) X0 hx (hb hby d13_13) rfl rfl ?_
  refine Run.callSI (q := 17) X0 hx hZ e0 (y := (⟨"semblance/JpegScansCompletePinLaw", "entry", "(III)I"⟩ : MethodName)) hown (wm61 hw) (wm62 hw) (wm24 hw) (wm63 hw) (by decide) (argsL := [(.int b), (.int 0), (.int 2)]) (rest := [(.int 0)]) (c_ent l Z a0 hw b (0 : Int32) (2 : Int32) h0 n0 Z0 ) pd_4 rfl (by rw [hml]; rfl) (W := 1) rfl (by decide) (by decide) (by decide) (by decide) (hb hby d13_14) rfl rfl fun T3 L3 X3 M3 e3 => ?_
  have N3 := Fr.app N0 M3
  refine Run.x_iadd (q := 18) X3 hx (hb hby d13_17) rfl rfl ?_
  refine Run.x_istoreN (q := 19) X3 hx #[.val (.int b), .val (.int 2), .val (.int 1), .val (.int ((0 : Int32) + (own_en b (0 : Int32) (2 : Int32))))] (hb hby d13_18) rfl rfl ?_
  refine Run.x_iloadN (q := 20) X3 hx (hb hby d13_19) rfl rfl ?_
  refine Run.x_iconst (q := 21) X3 hx (hb hby d13_20) (z := (1 : Int32)) rfl rfl ?_
  refine Run.x_icmpYes (q := 33) X3 hx (hb hby d13_21) (flt (by decide : ¬ ((1 : Int32) < (1 : Int32)))).2.2.2 (by decide) (by decide) ?_
  refine Run.x_iloadN (q := 34) X3 hx (hb hby d13_33) rfl rfl ?_
  refine Run.x_iconst (q := 35) X3 hx (hb hby d13_34) (z := (2 : Int32)) rfl rfl ?_
  refine Run.x_icmpYes (q := 47) X3 hx (hb hby d13_35) (flt (by decide : ¬ ((2 : Int32) < (1 : Int32)))).2.2.2 (by decide) (by decide) ?_
  refine Run.x_iloadN (q := 48) X3 hx (hb hby d13_47) rfl rfl ?_
  refine Run.retI X3 hx hlk e3 hret (hb hby d13_48) (by decide) (by decide) ?_
  refine PureI.mk ?_ N3
  unfold own_es
  rw [hln]
  rfl
 ·skip
  show Run p e below s _ _ _ (T0.setTop (mkF m 4 #[.val (.int b), .val (.int 2), .val (.int 2), .unset] []))
  refine Run.x_iconst (q := 5) X0 hx (hb hby d13_4) (z := (0 : Int32)) rfl rfl ?_
  refine Run.x_istoreN (q := 6) X0 hx #[.val (.int b), .val (.int 2), .val (.int 2), .val (.int 0)] (hb hby d13_5) rfl rfl ?_
  refine Run.x_iloadN (q := 7) X0 hx (hb hby d13_6) rfl rfl ?_
  refine Run.x_ifNo (q := 10) X0 hx (hb hby d13_7) ((if0 _ _).trans (tlt (by decide : (0 : Int32) < (2 : Int32))).2.2.2) rfl ?_
  refine Run.x_iloadN (q := 11) X0 hx (hb hby d13_10) rfl rfl ?_
  refine Run.x_iloadN (q := 12) X0 hx (hb hby d13_11) rfl rfl ?_
  refine Run.x_iconst (q := 13) X0 hx (hb hby d13_12) (z := (0 : Int32)) rfl rfl ?_
  refine Run.x_iloadN (q := 14) X0 hx (hb hby d13_13) rfl rfl ?_
  refine Run.callSI (q := 17) X0 hx hZ e0 (y := (⟨"semblance/JpegScansCompletePinLaw", "entry", "(III)I"⟩ : MethodName)) hown (wm61 hw) (wm62 hw) (wm24 hw) (wm63 hw) (by decide) (argsL := [(.int b), (.int 0), (.int 2)]) (rest := [(.int 0)]) (c_ent l Z a0 hw b (0 : Int32) (2 : Int32) h0 n0 Z0 ) pd_4 rfl (by rw [hml]; rfl) (W := 1) rfl (by decide) (by decide) (by decide) (by decide) (hb hby d13_14) rfl rfl fun T4 L4 X4 M4 e4 => ?_
  have N4 := Fr.app N0 M4
  refine Run.x_iadd (q := 18) X4 hx (hb hby d13_17) rfl rfl ?_
  refine Run.x_istoreN (q := 19) X4 hx #[.val (.int b), .val (.int 2), .val (.int 2), .val (.int ((0 : Int32) + (own_en b (0 : Int32) (2 : Int32))))] (hb hby d13_18) rfl rfl ?_
  refine Run.x_iloadN (q := 20) X4 hx (hb hby d13_19) rfl rfl ?_
  refine Run.x_iconst (q := 21) X4 hx (hb hby d13_20) (z := (1 : Int32)) rfl rfl ?_
  refine Run.x_icmpNo (q := 24) X4 hx (hb hby d13_21) (tlt (by decide : (1 : Int32) < (2 : Int32))).2.2.2 rfl ?_
  refine Run.x_iloadN (q := 25) X4 hx (hb hby d13_24) rfl rfl ?_
  refine Run.x_iloadN (q := 26) X4 hx (hb hby d13_25) rfl rfl ?_
  refine Run.x_iconst (q := 27) X4 hx (hb hby d13_26) (z := (1 : Int32)) rfl rfl ?_
  refine Run.x_iloadN (q := 28) X4 hx (hb hby d13_27) rfl rfl ?_
  refine Run.callSI (q := 31) X4 hx hZ e4 (y := (⟨"semblance/JpegScansCompletePinLaw", "entry", "(III)I"⟩ : MethodName)) hown (wm61 hw) (wm62 hw) (wm24 hw) (wm63 hw) (by decide) (argsL := [(.int b), (.int 1), (.int 2)]) (rest := [(.int ((0 : Int32) + (own_en b (0 : Int32) (2 : Int32))))]) (c_ent l Z a0 hw b (1 : Int32) (2 : Int32) h0 n0 Z0 ) pd_4 rfl (by rw [hml]; rfl) (W := 1) rfl (by decide) (by decide) (by decide) (by decide) (hb hby d13_28) rfl rfl fun T5 L5 X5 M5 e5 => ?_
  have N5 := Fr.app N4 M5
  refine Run.x_iadd (q := 32) X5 hx (hb hby d13_31) rfl rfl ?_
  refine Run.x_istoreN (q := 33) X5 hx #[.val (.int b), .val (.int 2), .val (.int 2), .val (.int (((0 : Int32) + (own_en b (0 : Int32) (2 : Int32))) + (own_en b (1 : Int32) (2 : Int32))))] (hb hby d13_32) rfl rfl ?_
  refine Run.x_iloadN (q := 34) X5 hx (hb hby d13_33) rfl rfl ?_
  refine Run.x_iconst (q := 35) X5 hx (hb hby d13_34) (z := (2 : Int32)) rfl rfl ?_
  refine Run.x_icmpYes (q := 47) X5 hx (hb hby d13_35) (flt (by decide : ¬ ((2 : Int32) < (2 : Int32)))).2.2.2 (by decide) (by decide) ?_
  refine Run.x_iloadN (q := 48) X5 hx (hb hby d13_47) rfl rfl ?_
  refine Run.retI X5 hx hlk e5 hret (hb hby d13_48) (by decide) (by decide) ?_
  refine PureI.mk ?_ N5
  unfold own_es
  rw [hln]
  rfl
 ·skip
  show Run p e below s _ _ _ (T0.setTop (mkF m 4 #[.val (.int b), .val (.int 2), .val (.int 3), .unset] []))
  refine Run.x_iconst (q := 5) X0 hx (hb hby d13_4) (z := (0 : Int32)) rfl rfl ?_
  refine Run.x_istoreN (q := 6) X0 hx #[.val (.int b), .val (.int 2), .val (.int 3), .val (.int 0)] (hb hby d13_5) rfl rfl ?_
  refine Run.x_iloadN (q := 7) X0 hx (hb hby d13_6) rfl rfl ?_
  refine Run.x_ifNo (q := 10) X0 hx (hb hby d13_7) ((if0 _ _).trans (tlt (by decide : (0 : Int32) < (3 : Int32))).2.2.2) rfl ?_
  refine Run.x_iloadN (q := 11) X0 hx (hb hby d13_10) rfl rfl ?_
  refine Run.x_iloadN (q := 12) X0 hx (hb hby d13_11) rfl rfl ?_
  refine Run.x_iconst (q := 13) X0 hx (hb hby d13_12) (z := (0 : Int32)) rfl rfl ?_
  refine Run.x_iloadN (q := 14) X0 hx (hb hby d13_13) rfl rfl ?_
  refine Run.callSI (q := 17) X0 hx hZ e0 (y := (⟨"semblance/JpegScansCompletePinLaw", "entry", "(III)I"⟩ : MethodName)) hown (wm61 hw) (wm62 hw) (wm24 hw) (wm63 hw) (by decide) (argsL := [(.int b), (.int 0), (.int 2)]) (rest := [(.int 0)]) (c_ent l Z a0 hw b (0 : Int32) (2 : Int32) h0 n0 Z0 ) pd_4 rfl (by rw [hml]; rfl) (W := 1) rfl (by decide) (by decide) (by decide) (by decide) (hb hby d13_14) rfl rfl fun T6 L6 X6 M6 e6 => ?_
  have N6 := Fr.app N0 M6
  refine Run.x_iadd (q := 18) X6 hx (hb hby d13_17) rfl rfl ?_
  refine Run.x_istoreN (q := 19) X6 hx #[.val (.int b), .val (.int 2), .val (.int 3), .val (.int ((0 : Int32) + (own_en b (0 : Int32) (2 : Int32))))] (hb hby d13_18) rfl rfl ?_
  refine Run.x_iloadN (q := 20) X6 hx (hb hby d13_19) rfl rfl ?_
  refine Run.x_iconst (q := 21) X6 hx (hb hby d13_20) (z := (1 : Int32)) rfl rfl ?_
  refine Run.x_icmpNo (q := 24) X6 hx (hb hby d13_21) (tlt (by decide : (1 : Int32) < (3 : Int32))).2.2.2 rfl ?_
  refine Run.x_iloadN (q := 25) X6 hx (hb hby d13_24) rfl rfl ?_
  refine Run.x_iloadN (q := 26) X6 hx (hb hby d13_25) rfl rfl ?_
  refine Run.x_iconst (q := 27) X6 hx (hb hby d13_26) (z := (1 : Int32)) rfl rfl ?_
  refine Run.x_iloadN (q := 28) X6 hx (hb hby d13_27) rfl rfl ?_
  refine Run.callSI (q := 31) X6 hx hZ e6 (y := (⟨"semblance/JpegScansCompletePinLaw", "entry", "(III)I"⟩ : MethodName)) hown (wm61 hw) (wm62 hw) (wm24 hw) (wm63 hw) (by decide) (argsL := [(.int b), (.int 1), (.int 2)]) (rest := [(.int ((0 : Int32) + (own_en b (0 : Int32) (2 : Int32))))]) (c_ent l Z a0 hw b (1 : Int32) (2 : Int32) h0 n0 Z0 ) pd_4 rfl (by rw [hml]; rfl) (W := 1) rfl (by decide) (by decide) (by decide) (by decide) (hb hby d13_28) rfl rfl fun T7 L7 X7 M7 e7 => ?_
  have N7 := Fr.app N6 M7
  refine Run.x_iadd (q := 32) X7 hx (hb hby d13_31) rfl rfl ?_
  refine Run.x_istoreN (q := 33) X7 hx #[.val (.int b), .val (.int 2), .val (.int 3), .val (.int (((0 : Int32) + (own_en b (0 : Int32) (2 : Int32))) + (own_en b (1 : Int32) (2 : Int32))))] (hb hby d13_32) rfl rfl ?_
  refine Run.x_iloadN (q := 34) X7 hx (hb hby d13_33) rfl rfl ?_
  refine Run.x_iconst (q := 35) X7 hx (hb hby d13_34) (z := (2 : Int32)) rfl rfl ?_
  refine Run.x_icmpNo (q := 38) X7 hx (hb hby d13_35) (tlt (by decide : (2 : Int32) < (3 : Int32))).2.2.2 rfl ?_
  refine Run.x_iloadN (q := 39) X7 hx (hb hby d13_38) rfl rfl ?_
  refine Run.x_iloadN (q := 40) X7 hx (hb hby d13_39) rfl rfl ?_
  refine Run.x_iconst (q := 41) X7 hx (hb hby d13_40) (z := (2 : Int32)) rfl rfl ?_
  refine Run.x_iloadN (q := 42) X7 hx (hb hby d13_41) rfl rfl ?_
  refine Run.callSI (q := 45) X7 hx hZ e7 (y := (⟨"semblance/JpegScansCompletePinLaw", "entry", "(III)I"⟩ : MethodName)) hown (wm61 hw) (wm62 hw) (wm24 hw) (wm63 hw) (by decide) (argsL := [(.int b), (.int 2), (.int 2)]) (rest := [(.int (((0 : Int32) + (own_en b (0 : Int32) (2 : Int32))) + (own_en b (1 : Int32) (2 : Int32))))]) (c_ent l Z a0 hw b (2 : Int32) (2 : Int32) h0 n0 Z0 ) pd_4 rfl (by rw [hml]; rfl) (W := 1) rfl (by decide) (by decide) (by decide) (by decide) (hb hby d13_42) rfl rfl fun T8 L8 X8 M8 e8 => ?_
  have N8 := Fr.app N7 M8
  refine Run.x_iadd (q := 46) X8 hx (hb hby d13_45) rfl rfl ?_
  refine Run.x_istoreN (q := 47) X8 hx #[.val (.int b), .val (.int 2), .val (.int 3), .val (.int ((((0 : Int32) + (own_en b (0 : Int32) (2 : Int32))) + (own_en b (1 : Int32) (2 : Int32))) + (own_en b (2 : Int32) (2 : Int32))))] (hb hby d13_46) rfl rfl ?_
  refine Run.x_iloadN (q := 48) X8 hx (hb hby d13_47) rfl rfl ?_
  refine Run.retI X8 hx hlk e8 hret (hb hby d13_48) (by decide) (by decide) ?_
  refine PureI.mk ?_ N8
  unfold own_es
  rw [hln]
  rfl
theorem own_n12 {p v : Int32} (h : (1 : Int32) + (p &&& (1 : Int32)) = v) : v = 1 ∨ v = 2 := by
 have q := c_mask p 1 1 (by decide) (by decide)
 have a := c_iadd 1 (p &&& 1)
 have r := rng32 v
 rw [h] at a
 simp only [eq32]
 have : (1 : Int32).toInt = 1 ∧ (2 : Int32).toInt = 2 := by decide
 omega
theorem own_dm1 {d : Int32} (h : ¬ d = (1 : Int32)) : ¬ (d - (1 : Int32)) = (0 : Int32) := fun q => h (by
 rw [eq32] at q ⊢
 have s := c_isub d 1
 have r := rng32 d
 have : (1 : Int32).toInt = 1 ∧ (0 : Int32).toInt = 0 := by decide
 omega)
theorem own_bne {c : Prop} [Decidable c] (h : ¬ own_b c = 0) : c := by
 by_cases q : c
 ·exact q
 ·exact absurd (own_b0 q) h
theorem own_beq {c : Prop} [Decidable c] (h : own_b c = 0) : ¬ c := fun q => by
 rw [own_b1 q] at h
 exact absurd h (by decide)
theorem own_bn1 {c : Prop} [Decidable c] (h : ¬ own_b c = 0) : own_b c = 1 := own_b1 (own_bne h)
theorem ef_c_law (m : MethodId) (p1 : Int32) (p2 : Int32) (p3 : Int32) (p4 : Int32) (p5 : Int32) : entryFrame m #[(.int p1), (.int p2), (.int p3), (.int p4), (.int p5)] maxLocals = mkF m 0 #[.val (.int p1), .val (.int p2), .val (.int p3), .val (.int p4), .val (.int p5), .unset, .unset, .unset, .unset, .unset, .unset, .unset, .unset, .unset, .unset, .unset, .unset, .unset] [] := by first | (simp [entryFrame, mkF, argsToLocals, Value.category, maxLocals]; done) | rfl
theorem wm0 {a0 : Array Value} {Z : State} (hw : ∀ d ∈ tables_1, d.before a0 Z = true) : (Jvm.Cond.classLink "semblance/JpegScansCompletePinLaw" (7 : Nat) "semblance/JpegScans").before a0 Z = true := hw _ (List.mem_of_getElem? (i := 0) rfl)
theorem wm3 {a0 : Array Value} {Z : State} (hw : ∀ d ∈ tables_1, d.before a0 Z = true) : (Jvm.Cond.methodLink "semblance/JpegScansCompletePinLaw" (9 : Nat) ({ cls := "semblance/JpegScans", name := "<init>", desc := "(ZI)V" } : Jvm.MethodName)).before a0 Z = true := hw _ (List.mem_of_getElem? (i := 3) rfl)
theorem wm5 {a0 : Array Value} {Z : State} (hw : ∀ d ∈ tables_1, d.before a0 Z = true) : (Jvm.Cond.code ({ cls := "semblance/JpegScans", name := "<init>", desc := "(ZI)V" } : Jvm.MethodName) prog_41_method_1_code (7 : Nat) (Option.none : Option Jvm.ClassFile.FieldType)).before a0 Z = true := hw _ (List.mem_of_getElem? (i := 5) rfl)
theorem pd_5 : parseMethodDescriptor "(ZI)V" = some ⟨[.boolean, .int], none⟩ := by decide +kernel
theorem wm4 {a0 : Array Value} {Z : State} (hw : ∀ d ∈ tables_1, d.before a0 Z = true) : (Jvm.Cond.instanceMethod ({ cls := "semblance/JpegScans", name := "<init>", desc := "(ZI)V" } : Jvm.MethodName)).before a0 Z = true := hw _ (List.mem_of_getElem? (i := 4) rfl)
theorem wm22 {a0 : Array Value} {Z : State} (hw : ∀ d ∈ tables_1, d.before a0 Z = true) : (Jvm.Cond.methodLink "semblance/JpegScansCompletePinLaw" (12 : Nat) ({ cls := "semblance/JpegScansCompletePinLaw", name := "list", desc := "(II)[I" } : Jvm.MethodName)).before a0 Z = true := hw _ (List.mem_of_getElem? (i := 22) rfl)
theorem wm25 {a0 : Array Value} {Z : State} (hw : ∀ d ∈ tables_1, d.before a0 Z = true) : (Jvm.Cond.code ({ cls := "semblance/JpegScansCompletePinLaw", name := "list", desc := "(II)[I" } : Jvm.MethodName) method_4_code (4 : Nat) (Option.some (Jvm.ClassFile.FieldType.array Jvm.ClassFile.FieldType.int))).before a0 Z = true := hw _ (List.mem_of_getElem? (i := 25) rfl)
theorem pd_6 : parseMethodDescriptor "(II)[I" = some ⟨[.int, .int], some (.array .int)⟩ := by decide +kernel
theorem wm23 {a0 : Array Value} {Z : State} (hw : ∀ d ∈ tables_1, d.before a0 Z = true) : (Jvm.Cond.static ({ cls := "semblance/JpegScansCompletePinLaw", name := "list", desc := "(II)[I" } : Jvm.MethodName)).before a0 Z = true := hw _ (List.mem_of_getElem? (i := 23) rfl)
theorem wm26 {a0 : Array Value} {Z : State} (hw : ∀ d ∈ tables_1, d.before a0 Z = true) : (Jvm.Cond.methodLink "semblance/JpegScansCompletePinLaw" (26 : Nat) ({ cls := "semblance/JpegScans", name := "complete", desc := "()Z" } : Jvm.MethodName)).before a0 Z = true := hw _ (List.mem_of_getElem? (i := 26) rfl)
theorem wm30 {a0 : Array Value} {Z : State} (hw : ∀ d ∈ tables_1, d.before a0 Z = true) : (Jvm.Cond.code ({ cls := "semblance/JpegScans", name := "complete", desc := "()Z" } : Jvm.MethodName) prog_41_method_3_code (9 : Nat) (Option.some Jvm.ClassFile.FieldType.boolean)).before a0 Z = true := hw _ (List.mem_of_getElem? (i := 30) rfl)
theorem pd_7 : parseMethodDescriptor "()Z" = some ⟨[], some .boolean⟩ := by decide +kernel
theorem wm29 {a0 : Array Value} {Z : State} (hw : ∀ d ∈ tables_1, d.before a0 Z = true) : (Jvm.Cond.selects "semblance/JpegScans" ({ cls := "semblance/JpegScans", name := "complete", desc := "()Z" } : Jvm.MethodName) ({ cls := "semblance/JpegScans", name := "complete", desc := "()Z" } : Jvm.MethodName)).before a0 Z = true := hw _ (List.mem_of_getElem? (i := 29) rfl)
theorem wm27 {a0 : Array Value} {Z : State} (hw : ∀ d ∈ tables_1, d.before a0 Z = true) : (Jvm.Cond.declares ({ cls := "semblance/JpegScans", name := "complete", desc := "()Z" } : Jvm.MethodName)).before a0 Z = true := hw _ (List.mem_of_getElem? (i := 27) rfl)
theorem wm28 {a0 : Array Value} {Z : State} (hw : ∀ d ∈ tables_1, d.before a0 Z = true) : (Jvm.Cond.instanceMethod ({ cls := "semblance/JpegScans", name := "complete", desc := "()Z" } : Jvm.MethodName)).before a0 Z = true := hw _ (List.mem_of_getElem? (i := 28) rfl)
theorem wm64 {a0 : Array Value} {Z : State} (hw : ∀ d ∈ tables_1, d.before a0 Z = true) : (Jvm.Cond.methodLink "semblance/JpegScansCompletePinLaw" (22 : Nat) ({ cls := "semblance/JpegScansCompletePinLaw", name := "ones", desc := "(II)I" } : Jvm.MethodName)).before a0 Z = true := hw _ (List.mem_of_getElem? (i := 64) rfl)
theorem wm66 {a0 : Array Value} {Z : State} (hw : ∀ d ∈ tables_1, d.before a0 Z = true) : (Jvm.Cond.code ({ cls := "semblance/JpegScansCompletePinLaw", name := "ones", desc := "(II)I" } : Jvm.MethodName) method_5_code (4 : Nat) (Option.some Jvm.ClassFile.FieldType.int)).before a0 Z = true := hw _ (List.mem_of_getElem? (i := 66) rfl)
theorem wm65 {a0 : Array Value} {Z : State} (hw : ∀ d ∈ tables_1, d.before a0 Z = true) : (Jvm.Cond.static ({ cls := "semblance/JpegScansCompletePinLaw", name := "ones", desc := "(II)I" } : Jvm.MethodName)).before a0 Z = true := hw _ (List.mem_of_getElem? (i := 65) rfl)
theorem wm33 {a0 : Array Value} {Z : State} (hw : ∀ d ∈ tables_1, d.before a0 Z = true) : (Jvm.Cond.constant "semblance/JpegScansCompletePinLaw" (30 : Nat) (2147483647 : Int32)).before a0 Z = true := hw _ (List.mem_of_getElem? (i := 33) rfl)
theorem wm45 {a0 : Array Value} {Z : State} (hw : ∀ d ∈ tables_1, d.before a0 Z = true) : (Jvm.Cond.methodLink "semblance/JpegScansCompletePinLaw" (31 : Nat) ({ cls := "semblance/JpegScansCompletePinLaw", name := "send", desc := "(Lsemblance/JpegScans;[IIZZ)V" } : Jvm.MethodName)).before a0 Z = true := hw _ (List.mem_of_getElem? (i := 45) rfl)
theorem wm47 {a0 : Array Value} {Z : State} (hw : ∀ d ∈ tables_1, d.before a0 Z = true) : (Jvm.Cond.code ({ cls := "semblance/JpegScansCompletePinLaw", name := "send", desc := "(Lsemblance/JpegScans;[IIZZ)V" } : Jvm.MethodName) method_9_code (8 : Nat) (Option.none : Option Jvm.ClassFile.FieldType)).before a0 Z = true := hw _ (List.mem_of_getElem? (i := 47) rfl)
theorem pd_8 : parseMethodDescriptor "(Lsemblance/JpegScans;[IIZZ)V" = some ⟨[(.object "semblance/JpegScans"), (.array .int), .int, .boolean, .boolean], none⟩ := by decide +kernel
theorem wm46 {a0 : Array Value} {Z : State} (hw : ∀ d ∈ tables_1, d.before a0 Z = true) : (Jvm.Cond.static ({ cls := "semblance/JpegScansCompletePinLaw", name := "send", desc := "(Lsemblance/JpegScans;[IIZZ)V" } : Jvm.MethodName)).before a0 Z = true := hw _ (List.mem_of_getElem? (i := 46) rfl)
theorem wm58 {a0 : Array Value} {Z : State} (hw : ∀ d ∈ tables_1, d.before a0 Z = true) : (Jvm.Cond.methodLink "semblance/JpegScansCompletePinLaw" (35 : Nat) ({ cls := "semblance/JpegScansCompletePinLaw", name := "done", desc := "(IZZ)Z" } : Jvm.MethodName)).before a0 Z = true := hw _ (List.mem_of_getElem? (i := 58) rfl)
theorem wm60 {a0 : Array Value} {Z : State} (hw : ∀ d ∈ tables_1, d.before a0 Z = true) : (Jvm.Cond.code ({ cls := "semblance/JpegScansCompletePinLaw", name := "done", desc := "(IZZ)Z" } : Jvm.MethodName) method_10_code (8 : Nat) (Option.some Jvm.ClassFile.FieldType.boolean)).before a0 Z = true := hw _ (List.mem_of_getElem? (i := 60) rfl)
theorem pd_9 : parseMethodDescriptor "(IZZ)Z" = some ⟨[.int, .boolean, .boolean], some .boolean⟩ := by decide +kernel
theorem wm59 {a0 : Array Value} {Z : State} (hw : ∀ d ∈ tables_1, d.before a0 Z = true) : (Jvm.Cond.static ({ cls := "semblance/JpegScansCompletePinLaw", name := "done", desc := "(IZZ)Z" } : Jvm.MethodName)).before a0 Z = true := hw _ (List.mem_of_getElem? (i := 59) rfl)
set_option maxRecDepth 65536 in
set_option maxHeartbeats 40000000 in
theorem c_law (l : Launch) (Z : State) (a0 : Array Value) (hw : ∀ d ∈ tables_1, d.before a0 Z = true) (p1 : Int32) (p2 : Int32) (p3 : Int32) (p4 : Int32) (p5 : Int32) (h0 : Heap) (n0 : Nat) (Z0 : n0 ≤ h0.size)  :
  Ctr l Z x code maxLocals ret room_1 #[(.int p1), (.int p2), (.int p3), (.int p4), (.int p5)] h0 (Tru n0) := by
 refine Ctr.of (plainFor_of_name pn_2) (fun m => ef_c_law m p1 p2 p3 p4 p5) ?_
 intro p e s m below meth c T0 hx hby hml hown hnm hret hlk hZ e0 X0
 have N0 := Fr.nil n0
 replace hown : s.vm.findClass "semblance/JpegScansCompletePinLaw" = some m.cls := hown
 replace hml : c.maxLocals = 18 := hml
 refine Run.x_iloadN (q := 1) X0 hx (hb hby at_0) rfl rfl ?_
 refine Run.x_iconst (q := 2) X0 hx (hb hby at_1) (z := (1 : Int32)) rfl rfl ?_
 refine Run.x_iand (q := 3) X0 hx (hb hby at_2) rfl rfl ?_
 by_cases hc3 : (p1 &&& (1 : Int32)) = (0 : Int32)
 ·skip
  refine Run.x_ifYes (q := 10) X0 hx (hb hby at_3) ((if0 _ _).trans (teq hc3).1) (by decide) (by decide) ?_
  refine Run.x_iconst (q := 11) X0 hx (hb hby at_10) (z := (0 : Int32)) rfl rfl ?_
  refine Run.x_istore (q := 13) X0 hx #[.val (.int p1), .val (.int p2), .val (.int p3), .val (.int p4), .val (.int p5), .val (.int 0), .unset, .unset, .unset, .unset, .unset, .unset, .unset, .unset, .unset, .unset, .unset, .unset] (hb hby at_11) rfl rfl ?_
  refine Run.x_iconst (q := 14) X0 hx (hb hby at_13) (z := (1 : Int32)) rfl rfl ?_
  refine Run.x_iloadN (q := 15) X0 hx (hb hby at_14) rfl rfl ?_
  refine Run.x_iconst (q := 16) X0 hx (hb hby at_15) (z := (1 : Int32)) rfl rfl ?_
  refine Run.x_iushr (q := 17) X0 hx (hb hby at_16) rfl rfl ?_
  refine Run.x_iconst (q := 18) X0 hx (hb hby at_17) (z := (1 : Int32)) rfl rfl ?_
  refine Run.x_iand (q := 19) X0 hx (hb hby at_18) rfl rfl ?_
  refine Run.x_iadd (q := 20) X0 hx (hb hby at_19) rfl rfl ?_
  refine Run.x_istore (q := 22) X0 hx #[.val (.int p1), .val (.int p2), .val (.int p3), .val (.int p4), .val (.int p5), .val (.int 0), .val (.int ((1 : Int32) + (((p1.toUInt32 >>> ((1 : Int32) &&& 31).toUInt32).toInt32) &&& (1 : Int32)))), .unset, .unset, .unset, .unset, .unset, .unset, .unset, .unset, .unset, .unset, .unset] (hb hby at_20) rfl rfl ?_
  generalize hnn : ((1 : Int32) + (((p1.toUInt32 >>> ((1 : Int32) &&& 31).toUInt32).toInt32) &&& (1 : Int32))) = nn
  rcases own_n12 hnn with rfl | rfl
  ·skip
   show Run p e below s _ _ _ (T0.setTop (mkF m 22 #[.val (.int p1), .val (.int p2), .val (.int p3), .val (.int p4), .val (.int p5), .val (.int 0), .val (.int 1), .unset, .unset, .unset, .unset, .unset, .unset, .unset, .unset, .unset, .unset, .unset] []))
   obtain ⟨T1, h1, X1, e1, E1, A1, D1, -, st1⟩ := newO X0 hx hZ hown (wm0 hw) (wm1 hw) (wm2 hw) e0 (g := (mkF m 22 #[.val (.int p1), .val (.int p2), .val (.int p3), .val (.int p4), .val (.int p5), .val (.int 0), .val (.int 1), .unset, .unset, .unset, .unset, .unset, .unset, .unset, .unset, .unset, .unset, .unset] [])) rfl (hb hby at_22) (by decide) (by decide)
   obtain ⟨b1, gg1⟩ : ∃ z, z = h0.size := ⟨_, rfl⟩
   rw [← gg1] at A1 D1 st1
   have g_b1 : n0 ≤ b1 := Nat.le_trans Z0 (Nat.le_of_eq gg1.symm)
   have Z1 : n0 ≤ h1.size := Nat.le_trans Z0 E1.1
   have E_b1 := A1
   have F_b1_progressive : Fld Z h1 b1 "semblance/JpegScans" "progressive" "Z" (.int 0) := D1 (Or.inr (wm10 hw)) (ty := .boolean) (by decide)
   have F_b1_components : Fld Z h1 b1 "semblance/JpegScans" "components" "I" (.int 0) := D1 (Or.inr (wm12 hw)) (ty := .int) (by decide)
   have F_b1_sentTo : Fld Z h1 b1 "semblance/JpegScans" "sentTo" "[[I" .null := D1 (Or.inr (wm17 hw)) (ty := (.array (.array .int))) (by decide)
   have F_b1_sentAgain : Fld Z h1 b1 "semblance/JpegScans" "sentAgain" "Z" (.int 0) := D1 (Or.inl (wm32 hw)) (ty := .boolean) (by decide)
   have F_b1_count : Fld Z h1 b1 "semblance/JpegScans" "count" "I" (.int 0) := D1 (Or.inl (wm40 hw)) (ty := .int) (by decide)
   refine Run.st st1 ?_
   show Run p e below s _ _ _ (T1.setTop (mkF m 25 #[.val (.int p1), .val (.int p2), .val (.int p3), .val (.int p4), .val (.int p5), .val (.int 0), .val (.int 1), .unset, .unset, .unset, .unset, .unset, .unset, .unset, .unset, .unset, .unset, .unset] [(.ref b1)]))
   refine Run.x_dup (q := 26) X1 hx (hb hby at_25) rfl rfl ?_
   refine Run.x_iload (q := 28) X1 hx (hb hby at_26) rfl rfl ?_
   refine Run.x_iload (q := 30) X1 hx (hb hby at_28) rfl rfl ?_
   refine Run.callC X1 hx hZ e1 (y := (⟨"semblance/JpegScans", "<init>", "(ZI)V"⟩ : MethodName)) hown rfl (wm3 hw) (wm4 hw) (wm2 hw) (wm5 hw) (by decide) (a := b1) (argsL := [(.int 0), (.int 1)]) (rest := [(.ref b1)]) (c_init_1_0 l Z a0 hw b1 h1 n0 Z1 E_b1 F_b1_progressive F_b1_components F_b1_sentTo F_b1_count F_b1_sentAgain g_b1) pd_5 rfl (by rw [hml]; rfl) (W := 1) rfl (by decide) (by decide) (by decide) (by decide) (hb hby at_30) rfl ?_
   intro T2 v2 L2 X2 q2
   obtain ⟨gr, r0, rfl, M2, K2, sg, lt0, E2, F02, F12, F22, F32, F42, Ag2, Ar0_2⟩ := q2
   have N2 := Fr.app N0 M2
   show Run p e below s _ _ _ (T2.setTop (mkF m 33 #[.val (.int p1), .val (.int p2), .val (.int p3), .val (.int p4), .val (.int p5), .val (.int 0), .val (.int 1), .unset, .unset, .unset, .unset, .unset, .unset, .unset, .unset, .unset, .unset, .unset] [(.ref b1)]))
   have S_r0 := Nat.le_trans sg (Nat.le_of_lt lt0)
   have S_gr := sg
   have ne_b1_gr : b1 ≠ gr := Nat.ne_of_lt (Nat.lt_of_lt_of_le E_b1.lt S_gr)
   have g_gr : n0 ≤ gr := Nat.le_trans Z1 S_gr
   have ne_b1_r0 : b1 ≠ r0 := Nat.ne_of_lt (Nat.lt_of_lt_of_le E_b1.lt S_r0)
   have g_r0 : n0 ≤ r0 := Nat.le_trans Z1 S_r0
   have ne_gr_r0 : gr ≠ r0 := Nat.ne_of_lt lt0
   have Z2 : n0 ≤ T2.heap.size := Nat.le_trans Z1 K2.1
   refine Run.x_astore (q := 35) X2 hx #[.val (.int p1), .val (.int p2), .val (.int p3), .val (.int p4), .val (.int p5), .val (.int 0), .val (.int 1), .val (.ref b1), .unset, .unset, .unset, .unset, .unset, .unset, .unset, .unset, .unset, .unset] (hb hby at_33) rfl rfl rfl ?_
   refine Run.x_iload (q := 37) X2 hx (hb hby at_35) rfl rfl ?_
   refine Run.x_ifNo (q := 40) X2 hx (hb hby at_37) ((if0 _ _).trans (teq (by decide : (0 : Int32) = (0 : Int32))).2) rfl ?_
   refine Run.x_iload (q := 42) X2 hx (hb hby at_40) rfl rfl ?_
   refine Run.x_bipush (q := 44) X2 hx (hb hby at_42) (z := (24 : Int32)) rfl rfl ?_
   refine Run.x_iushr (q := 45) X2 hx (hb hby at_44) rfl rfl ?_
   refine Run.x_iconst (q := 46) X2 hx (hb hby at_45) (z := (3 : Int32)) rfl rfl ?_
   refine Run.x_iand (q := 47) X2 hx (hb hby at_46) rfl rfl ?_
   refine Run.x_istore (q := 49) X2 hx #[.val (.int p1), .val (.int p2), .val (.int p3), .val (.int p4), .val (.int p5), .val (.int 0), .val (.int 1), .val (.ref b1), .val (.int (((p5.toUInt32 >>> ((24 : Int32) &&& 31).toUInt32).toInt32) &&& (3 : Int32))), .unset, .unset, .unset, .unset, .unset, .unset, .unset, .unset, .unset] (hb hby at_47) rfl rfl ?_
   generalize hkk : (((p5.toUInt32 >>> ((24 : Int32) &&& 31).toUInt32).toInt32) &&& (3 : Int32)) = kk
   refine Run.x_iload (q := 51) X2 hx (hb hby at_49) rfl rfl ?_
   refine Run.x_sipush (q := 54) X2 hx (hb hby at_51) (z := (255 : Int32)) rfl rfl ?_
   refine Run.x_iand (q := 55) X2 hx (hb hby at_54) rfl rfl ?_
   refine Run.x_istore (q := 57) X2 hx #[.val (.int p1), .val (.int p2), .val (.int p3), .val (.int p4), .val (.int p5), .val (.int 0), .val (.int 1), .val (.ref b1), .val (.int kk), .val (.int (p5 &&& (255 : Int32))), .unset, .unset, .unset, .unset, .unset, .unset, .unset, .unset] (hb hby at_55) rfl rfl ?_
   generalize hbq0 : (p5 &&& (255 : Int32)) = bq0
   refine Run.x_iload (q := 59) X2 hx (hb hby at_57) rfl rfl ?_
   refine Run.x_bipush (q := 61) X2 hx (hb hby at_59) (z := (8 : Int32)) rfl rfl ?_
   refine Run.x_iushr (q := 62) X2 hx (hb hby at_61) rfl rfl ?_
   refine Run.x_sipush (q := 65) X2 hx (hb hby at_62) (z := (255 : Int32)) rfl rfl ?_
   refine Run.x_iand (q := 66) X2 hx (hb hby at_65) rfl rfl ?_
   refine Run.x_istore (q := 68) X2 hx #[.val (.int p1), .val (.int p2), .val (.int p3), .val (.int p4), .val (.int p5), .val (.int 0), .val (.int 1), .val (.ref b1), .val (.int kk), .val (.int bq0), .val (.int (((p5.toUInt32 >>> ((8 : Int32) &&& 31).toUInt32).toInt32) &&& (255 : Int32))), .unset, .unset, .unset, .unset, .unset, .unset, .unset] (hb hby at_66) rfl rfl ?_
   generalize hbq1 : (((p5.toUInt32 >>> ((8 : Int32) &&& 31).toUInt32).toInt32) &&& (255 : Int32)) = bq1
   refine Run.x_iload (q := 70) X2 hx (hb hby at_68) rfl rfl ?_
   refine Run.x_bipush (q := 72) X2 hx (hb hby at_70) (z := (16 : Int32)) rfl rfl ?_
   refine Run.x_iushr (q := 73) X2 hx (hb hby at_72) rfl rfl ?_
   refine Run.x_sipush (q := 76) X2 hx (hb hby at_73) (z := (255 : Int32)) rfl rfl ?_
   refine Run.x_iand (q := 77) X2 hx (hb hby at_76) rfl rfl ?_
   refine Run.x_istore (q := 79) X2 hx #[.val (.int p1), .val (.int p2), .val (.int p3), .val (.int p4), .val (.int p5), .val (.int 0), .val (.int 1), .val (.ref b1), .val (.int kk), .val (.int bq0), .val (.int bq1), .val (.int (((p5.toUInt32 >>> ((16 : Int32) &&& 31).toUInt32).toInt32) &&& (255 : Int32))), .unset, .unset, .unset, .unset, .unset, .unset] (hb hby at_77) rfl rfl ?_
   generalize hbq2 : (((p5.toUInt32 >>> ((16 : Int32) &&& 31).toUInt32).toInt32) &&& (255 : Int32)) = bq2
   refine Run.x_iload (q := 81) X2 hx (hb hby at_79) rfl rfl ?_
   refine Run.x_iload (q := 83) X2 hx (hb hby at_81) rfl rfl ?_
   refine Run.callS X2 hx hZ rfl (y := (⟨"semblance/JpegScansCompletePinLaw", "list", "(II)[I"⟩ : MethodName)) hown (wm22 hw) (wm23 hw) (wm24 hw) (wm25 hw) (by decide) (argsL := [(.int bq0), (.int 1)]) (rest := []) (c_list_1 l Z a0 hw bq0 T2.heap n0 Z2 ) pd_6 rfl (by rw [hml]; rfl) (W := 0) rfl (by decide) (by decide) (by decide) (by decide) (hb hby at_83) rfl ?_
   intro T3 v3 L3 X3 q3
   obtain ⟨np3, rfl, M3, K3, sz3, An3⟩ := q3
   have N3 := Fr.app N2 M3
   show Run p e below s _ _ _ (T3.setTop (mkF m 86 #[.val (.int p1), .val (.int p2), .val (.int p3), .val (.int p4), .val (.int p5), .val (.int 0), .val (.int 1), .val (.ref b1), .val (.int kk), .val (.int bq0), .val (.int bq1), .val (.int bq2), .unset, .unset, .unset, .unset, .unset, .unset] [(.ref np3)]))
   have ne_b1_np3 : b1 ≠ np3 := Nat.ne_of_lt (Nat.lt_of_lt_of_le E2.lt sz3)
   have ne_gr_np3 : gr ≠ np3 := Nat.ne_of_lt (Nat.lt_of_lt_of_le Ag2.lt sz3)
   have ne_r0_np3 : r0 ≠ np3 := Nat.ne_of_lt (Nat.lt_of_lt_of_le Ar0_2.lt sz3)
   have g_np3 : n0 ≤ np3 := Nat.le_trans Z2 sz3
   have Z3 : n0 ≤ T3.heap.size := Nat.le_trans Z2 K3.1
   refine Run.x_astore (q := 88) X3 hx #[.val (.int p1), .val (.int p2), .val (.int p3), .val (.int p4), .val (.int p5), .val (.int 0), .val (.int 1), .val (.ref b1), .val (.int kk), .val (.int bq0), .val (.int bq1), .val (.int bq2), .val (.ref np3), .unset, .unset, .unset, .unset, .unset] (hb hby at_86) rfl rfl rfl ?_
   refine Run.x_iload (q := 90) X3 hx (hb hby at_88) rfl rfl ?_
   refine Run.x_iload (q := 92) X3 hx (hb hby at_90) rfl rfl ?_
   refine Run.callS X3 hx hZ rfl (y := (⟨"semblance/JpegScansCompletePinLaw", "list", "(II)[I"⟩ : MethodName)) hown (wm22 hw) (wm23 hw) (wm24 hw) (wm25 hw) (by decide) (argsL := [(.int bq1), (.int 1)]) (rest := []) (c_list_1 l Z a0 hw bq1 T3.heap n0 Z3 ) pd_6 rfl (by rw [hml]; rfl) (W := 0) rfl (by decide) (by decide) (by decide) (by decide) (hb hby at_92) rfl ?_
   intro T4 v4 L4 X4 q4
   obtain ⟨np4, rfl, M4, K4, sz4, An4⟩ := q4
   have N4 := Fr.app N3 M4
   show Run p e below s _ _ _ (T4.setTop (mkF m 95 #[.val (.int p1), .val (.int p2), .val (.int p3), .val (.int p4), .val (.int p5), .val (.int 0), .val (.int 1), .val (.ref b1), .val (.int kk), .val (.int bq0), .val (.int bq1), .val (.int bq2), .val (.ref np3), .unset, .unset, .unset, .unset, .unset] [(.ref np4)]))
   replace E2 := E2.keep K3
   have ne_b1_np4 : b1 ≠ np4 := Nat.ne_of_lt (Nat.lt_of_lt_of_le E2.lt sz4)
   replace Ag2 := Ag2.keep K3 nin0
   have ne_gr_np4 : gr ≠ np4 := Nat.ne_of_lt (Nat.lt_of_lt_of_le Ag2.lt sz4)
   replace Ar0_2 := Ar0_2.keep K3 nin0
   have ne_r0_np4 : r0 ≠ np4 := Nat.ne_of_lt (Nat.lt_of_lt_of_le Ar0_2.lt sz4)
   have ne_np3_np4 : np3 ≠ np4 := Nat.ne_of_lt (Nat.lt_of_lt_of_le An3.lt sz4)
   have g_np4 : n0 ≤ np4 := Nat.le_trans Z3 sz4
   have Z4 : n0 ≤ T4.heap.size := Nat.le_trans Z3 K4.1
   refine Run.x_astore (q := 97) X4 hx #[.val (.int p1), .val (.int p2), .val (.int p3), .val (.int p4), .val (.int p5), .val (.int 0), .val (.int 1), .val (.ref b1), .val (.int kk), .val (.int bq0), .val (.int bq1), .val (.int bq2), .val (.ref np3), .val (.ref np4), .unset, .unset, .unset, .unset] (hb hby at_95) rfl rfl rfl ?_
   refine Run.x_iload (q := 99) X4 hx (hb hby at_97) rfl rfl ?_
   refine Run.x_iload (q := 101) X4 hx (hb hby at_99) rfl rfl ?_
   refine Run.callS X4 hx hZ rfl (y := (⟨"semblance/JpegScansCompletePinLaw", "list", "(II)[I"⟩ : MethodName)) hown (wm22 hw) (wm23 hw) (wm24 hw) (wm25 hw) (by decide) (argsL := [(.int bq2), (.int 1)]) (rest := []) (c_list_1 l Z a0 hw bq2 T4.heap n0 Z4 ) pd_6 rfl (by rw [hml]; rfl) (W := 0) rfl (by decide) (by decide) (by decide) (by decide) (hb hby at_101) rfl ?_
   intro T5 v5 L5 X5 q5
   obtain ⟨np5, rfl, M5, K5, sz5, An5⟩ := q5
   have N5 := Fr.app N4 M5
   show Run p e below s _ _ _ (T5.setTop (mkF m 104 #[.val (.int p1), .val (.int p2), .val (.int p3), .val (.int p4), .val (.int p5), .val (.int 0), .val (.int 1), .val (.ref b1), .val (.int kk), .val (.int bq0), .val (.int bq1), .val (.int bq2), .val (.ref np3), .val (.ref np4), .unset, .unset, .unset, .unset] [(.ref np5)]))
   replace E2 := E2.keep K4
   have ne_b1_np5 : b1 ≠ np5 := Nat.ne_of_lt (Nat.lt_of_lt_of_le E2.lt sz5)
   replace Ag2 := Ag2.keep K4 nin0
   have ne_gr_np5 : gr ≠ np5 := Nat.ne_of_lt (Nat.lt_of_lt_of_le Ag2.lt sz5)
   replace Ar0_2 := Ar0_2.keep K4 nin0
   have ne_r0_np5 : r0 ≠ np5 := Nat.ne_of_lt (Nat.lt_of_lt_of_le Ar0_2.lt sz5)
   replace An3 := An3.keep K4 nin0
   have ne_np3_np5 : np3 ≠ np5 := Nat.ne_of_lt (Nat.lt_of_lt_of_le An3.lt sz5)
   have ne_np4_np5 : np4 ≠ np5 := Nat.ne_of_lt (Nat.lt_of_lt_of_le An4.lt sz5)
   have g_np5 : n0 ≤ np5 := Nat.le_trans Z4 sz5
   have Z5 : n0 ≤ T5.heap.size := Nat.le_trans Z4 K5.1
   refine Run.x_astore (q := 106) X5 hx #[.val (.int p1), .val (.int p2), .val (.int p3), .val (.int p4), .val (.int p5), .val (.int 0), .val (.int 1), .val (.ref b1), .val (.int kk), .val (.int bq0), .val (.int bq1), .val (.int bq2), .val (.ref np3), .val (.ref np4), .val (.ref np5), .unset, .unset, .unset] (hb hby at_104) rfl rfl rfl ?_
   refine Run.x_iconst (q := 107) X5 hx (hb hby at_106) (z := (0 : Int32)) rfl rfl ?_
   refine Run.x_istore (q := 109) X5 hx #[.val (.int p1), .val (.int p2), .val (.int p3), .val (.int p4), .val (.int p5), .val (.int 0), .val (.int 1), .val (.ref b1), .val (.int kk), .val (.int bq0), .val (.int bq1), .val (.int bq2), .val (.ref np3), .val (.ref np4), .val (.ref np5), .val (.int 0), .unset, .unset] (hb hby at_107) rfl rfl ?_
   refine Run.x_iconst (q := 110) X5 hx (hb hby at_109) (z := (0 : Int32)) rfl rfl ?_
   refine Run.x_istore (q := 112) X5 hx #[.val (.int p1), .val (.int p2), .val (.int p3), .val (.int p4), .val (.int p5), .val (.int 0), .val (.int 1), .val (.ref b1), .val (.int kk), .val (.int bq0), .val (.int bq1), .val (.int bq2), .val (.ref np3), .val (.ref np4), .val (.ref np5), .val (.int 0), .val (.int 0), .unset] (hb hby at_110) rfl rfl ?_
   have ac0 := own_acc0
   rcases own_3 hkk with rfl | rfl | rfl | rfl
   ·skip
    show Run p e below s _ _ _ (T5.setTop (mkF m 112 #[.val (.int p1), .val (.int p2), .val (.int p3), .val (.int p4), .val (.int p5), .val (.int 0), .val (.int 1), .val (.ref b1), .val (.int 0), .val (.int bq0), .val (.int bq1), .val (.int bq2), .val (.ref np3), .val (.ref np4), .val (.ref np5), .val (.int 0), .val (.int 0), .unset] []))
    refine Run.x_iload (q := 114) X5 hx (hb hby at_112) rfl rfl ?_
    refine Run.x_ifYes (q := 150) X5 hx (hb hby at_114) ((if0 _ _).trans (flt (by decide : ¬ ((0 : Int32) < (0 : Int32)))).2.2.2) (by decide) (by decide) ?_
    refine Run.x_iload (q := 152) X5 hx (hb hby at_150) rfl rfl ?_
    refine Run.x_iconst (q := 153) X5 hx (hb hby at_152) (z := (1 : Int32)) rfl rfl ?_
    refine Run.x_icmpYes (q := 189) X5 hx (hb hby at_153) (flt (by decide : ¬ ((1 : Int32) < (0 : Int32)))).2.2.2 (by decide) (by decide) ?_
    refine Run.x_iload (q := 191) X5 hx (hb hby at_189) rfl rfl ?_
    refine Run.x_iconst (q := 192) X5 hx (hb hby at_191) (z := (2 : Int32)) rfl rfl ?_
    refine Run.x_icmpYes (q := 228) X5 hx (hb hby at_192) (flt (by decide : ¬ ((2 : Int32) < (0 : Int32)))).2.2.2 (by decide) (by decide) ?_
    refine Run.x_iload (q := 230) X5 hx (hb hby at_228) rfl rfl ?_
    refine Run.x_iload (q := 232) X5 hx (hb hby at_230) rfl rfl ?_
    refine Run.x_isub (q := 233) X5 hx (hb hby at_232) (z := (0 : Int32)) (by decide) rfl ?_
    refine Run.x_iconst (q := 234) X5 hx (hb hby at_233) (z := (1 : Int32)) rfl rfl ?_
    refine Run.x_icmpYes (q := 253) X5 hx (hb hby at_234) (feq (by decide : ¬ ((0 : Int32) = (1 : Int32)))).2 (by decide) (by decide) ?_
    refine Run.x_iconst (q := 254) X5 hx (hb hby at_253) (z := (0 : Int32)) rfl rfl ?_
    refine Run.x_istore (q := 256) X5 hx #[.val (.int p1), .val (.int p2), .val (.int p3), .val (.int p4), .val (.int p5), .val (.int 0), .val (.int 1), .val (.ref b1), .val (.int 0), .val (.int bq0), .val (.int bq1), .val (.int bq2), .val (.ref np3), .val (.ref np4), .val (.ref np5), .val (.int 0), .val (.int 0), .val (.int 0)] (hb hby at_254) rfl rfl ?_
    refine Run.x_aload (q := 258) X5 hx (hb hby at_256) rfl rfl rfl ?_
    have fin := own_fin1 ac0 (by decide) rfl
    replace E2 := E2.keep K5
    replace F22 := ((F22.keep K3 nin0).keep K4 nin0).keep K5 nin0
    replace F42 := ((F42.keep K3 nin0).keep K4 nin0).keep K5 nin0
    replace Ag2 := Ag2.keep K5 nin0
    replace Ar0_2 := Ar0_2.keep K5 nin0
    refine Run.callVI (q := 261) X5 hx hZ rfl (y := (⟨"semblance/JpegScans", "complete", "()Z"⟩ : MethodName)) (z := (⟨"semblance/JpegScans", "complete", "()Z"⟩ : MethodName)) hown (wm26 hw) (wm27 hw) (notFace_of_selects (args := #[]) (mvT hZ (wm29 hw))) (wm29 hw) (wm28 hw) (wm2 hw) (wm30 hw) (by decide) (a := b1) E2 (argsL := []) (rest := []) (c_cmp_1 l Z a0 hw b1 T5.heap n0 Z5 gr r0 (0 : Int32) (0 : Int32) (fun _ => (-1 : Int32)) E2 F22 F42 Ag2 Ar0_2 (fun h => absurd (fin.mp h) (by decide)) (fun _ => rfl)) pd_7 rfl (by rw [hml]; rfl) (W := 0) rfl (by decide) (by decide) (by decide) (by decide) (hb hby at_258) rfl rfl fun T6 L6 X6 M6 e6 => ?_
    have N6 := Fr.app N5 M6
    refine Run.x_iload (q := 263) X6 hx (hb hby at_261) rfl rfl ?_
    refine Run.x_icmpNo (q := 266) X6 hx (hb hby at_263) (teq (by decide : (0 : Int32) = (0 : Int32))).2 rfl ?_
    refine Run.x_iconst (q := 267) X6 hx (hb hby at_266) (z := (1 : Int32)) rfl rfl ?_
    refine Run.x_goto (q := 271) X6 hx (hb hby at_267) (by decide) (by decide) ?_
    refine Run.retN X6 hx hlk e6 (t := .boolean) hret (by simp) (z' := (1 : Int32)) (by decide) (hb hby at_271) (by decide) (by decide) ?_
    exact ⟨rfl, N6⟩
   ·skip
    show Run p e below s _ _ _ (T5.setTop (mkF m 112 #[.val (.int p1), .val (.int p2), .val (.int p3), .val (.int p4), .val (.int p5), .val (.int 0), .val (.int 1), .val (.ref b1), .val (.int 1), .val (.int bq0), .val (.int bq1), .val (.int bq2), .val (.ref np3), .val (.ref np4), .val (.ref np5), .val (.int 0), .val (.int 0), .unset] []))
    refine Run.x_iload (q := 114) X5 hx (hb hby at_112) rfl rfl ?_
    refine Run.x_ifNo (q := 117) X5 hx (hb hby at_114) ((if0 _ _).trans (tlt (by decide : (0 : Int32) < (1 : Int32))).2.2.2) rfl ?_
    refine Run.x_aload (q := 119) X5 hx (hb hby at_117) rfl rfl rfl ?_
    refine Run.x_aload (q := 121) X5 hx (hb hby at_119) rfl rfl rfl ?_
    refine Run.x_iconst (q := 122) X5 hx (hb hby at_121) (z := (0 : Int32)) rfl rfl ?_
    refine Run.x_iconst (q := 123) X5 hx (hb hby at_122) (z := (0 : Int32)) rfl rfl ?_
    refine Run.x_iconst (q := 124) X5 hx (hb hby at_123) (z := (0 : Int32)) rfl rfl ?_
    refine Run.x_iconst (q := 125) X5 hx (hb hby at_124) (z := (0 : Int32)) rfl rfl ?_
    obtain ⟨⟨s1, u1, v1⟩, hF1⟩ : ∃ q, (own_es 1 bq0).foldl own_stp ((0 : Int32), (-1 : Int32), (-1 : Int32)) = q := ⟨_, rfl⟩
    have ac1 := own_acc1 ac0 (by decide) (fun e h => Or.inl (own_es_m1 bq0 e h)) hF1
    replace E2 := E2.keep K5
    replace F02 := ((F02.keep K3 nin0).keep K4 nin0).keep K5 nin0
    replace F12 := ((F12.keep K3 nin0).keep K4 nin0).keep K5 nin0
    replace F22 := ((F22.keep K3 nin0).keep K4 nin0).keep K5 nin0
    replace F32 := ((F32.keep K3 nin0).keep K4 nin0).keep K5 nin0
    replace F42 := ((F42.keep K3 nin0).keep K4 nin0).keep K5 nin0
    replace Ag2 := Ag2.keep K5 nin0
    replace Ar0_2 := Ar0_2.keep K5 nin0
    replace An3 := An3.keep K5 nin0
    refine Run.callV X5 hx hZ rfl (y := (⟨"semblance/JpegScans", "take", "([IIIII)Z"⟩ : MethodName)) (z := (⟨"semblance/JpegScans", "take", "([IIIII)Z"⟩ : MethodName)) hown (wm34 hw) (wm35 hw) (notFace_of_selects (args := #[]) (mvT hZ (wm37 hw))) (wm37 hw) (wm36 hw) (wm2 hw) (wm38 hw) (by decide) (a := b1) E2 (argsL := [(.ref np3), (.int 0), (.int 0), (.int 0), (.int 0)]) (rest := []) (c_ts_1 l Z a0 hw b1 np3 T5.heap n0 Z5 gr r0 (0 : Int32) (0 : Int32) (-1 : Int32) (-1 : Int32) s1 u1 v1 (own_es 1 bq0) E2 F02 F12 F22 F32 F42 Ag2 Ar0_2 An3 g_b1 g_r0 ne_b1_gr ne_b1_r0 ne_b1_np3 ne_gr_r0 ne_gr_np3 ne_r0_np3 (by decide) (Or.inl rfl) (own_es_m1 bq0) (Nat.le_trans (own_es_len _ _).2 (by decide)) hF1) pd_3 rfl (by rw [hml]; rfl) (W := 0) rfl (by decide) (by decide) (by decide) (by decide) (hb hby at_125) rfl ?_
    intro T7 v7 L7 X7 q7
    obtain ⟨bb7, rfl, M7, K7, E7, F07, F17, F27, F37, F47, Ar0_7⟩ := q7
    have N7 := Fr.app N5 M7
    show Run p e below s _ _ _ (T7.setTop (mkF m 128 #[.val (.int p1), .val (.int p2), .val (.int p3), .val (.int p4), .val (.int p5), .val (.int 0), .val (.int 1), .val (.ref b1), .val (.int 1), .val (.int bq0), .val (.int bq1), .val (.int bq2), .val (.ref np3), .val (.ref np4), .val (.ref np5), .val (.int 0), .val (.int 0), .unset] [(.int bb7)]))
    have Z7 : n0 ≤ T7.heap.size := Nat.le_trans Z5 K7.1
    refine Run.x_pop (q := 129) X7 hx (hb hby at_128) rfl rfl ?_
    refine Run.x_iload (q := 131) X7 hx (hb hby at_129) rfl rfl ?_
    refine Run.x_iload (q := 133) X7 hx (hb hby at_131) rfl rfl ?_
    refine Run.x_iconst (q := 134) X7 hx (hb hby at_133) (z := (3 : Int32)) rfl rfl ?_
    refine Run.x_iand (q := 135) X7 hx (hb hby at_134) rfl rfl ?_
    refine Run.x_iadd (q := 136) X7 hx (hb hby at_135) rfl rfl ?_
    refine Run.x_istore (q := 138) X7 hx #[.val (.int p1), .val (.int p2), .val (.int p3), .val (.int p4), .val (.int p5), .val (.int 0), .val (.int 1), .val (.ref b1), .val (.int 1), .val (.int bq0), .val (.int bq1), .val (.int bq2), .val (.ref np3), .val (.ref np4), .val (.ref np5), .val (.int ((0 : Int32) + (bq0 &&& (3 : Int32)))), .val (.int 0), .unset] (hb hby at_136) rfl rfl ?_
    refine Run.x_iload (q := 140) X7 hx (hb hby at_138) rfl rfl ?_
    refine Run.x_iload (q := 142) X7 hx (hb hby at_140) rfl rfl ?_
    refine Run.x_iload (q := 144) X7 hx (hb hby at_142) rfl rfl ?_
    refine Run.callSI (q := 147) X7 hx hZ rfl (y := (⟨"semblance/JpegScansCompletePinLaw", "ones", "(II)I"⟩ : MethodName)) hown (wm64 hw) (wm65 hw) (wm24 hw) (wm66 hw) (by decide) (argsL := [(.int bq0), (.int 1)]) (rest := [(.int 0)]) (c_ones_1 l Z a0 hw bq0 T7.heap n0 Z7 ) pd_1 rfl (by rw [hml]; rfl) (W := 1) rfl (by decide) (by decide) (by decide) (by decide) (hb hby at_144) rfl rfl fun T8 L8 X8 M8 e8 => ?_
    have N8 := Fr.app N7 M8
    refine Run.x_iadd (q := 148) X8 hx (hb hby at_147) rfl rfl ?_
    refine Run.x_istore (q := 150) X8 hx #[.val (.int p1), .val (.int p2), .val (.int p3), .val (.int p4), .val (.int p5), .val (.int 0), .val (.int 1), .val (.ref b1), .val (.int 1), .val (.int bq0), .val (.int bq1), .val (.int bq2), .val (.ref np3), .val (.ref np4), .val (.ref np5), .val (.int ((0 : Int32) + (bq0 &&& (3 : Int32)))), .val (.int ((0 : Int32) + (own_sm (own_es 1 bq0) 0))), .unset] (hb hby at_148) rfl rfl ?_
    refine Run.x_iload (q := 152) X8 hx (hb hby at_150) rfl rfl ?_
    refine Run.x_iconst (q := 153) X8 hx (hb hby at_152) (z := (1 : Int32)) rfl rfl ?_
    refine Run.x_icmpYes (q := 189) X8 hx (hb hby at_153) (flt (by decide : ¬ ((1 : Int32) < (1 : Int32)))).2.2.2 (by decide) (by decide) ?_
    refine Run.x_iload (q := 191) X8 hx (hb hby at_189) rfl rfl ?_
    refine Run.x_iconst (q := 192) X8 hx (hb hby at_191) (z := (2 : Int32)) rfl rfl ?_
    refine Run.x_icmpYes (q := 228) X8 hx (hb hby at_192) (flt (by decide : ¬ ((2 : Int32) < (1 : Int32)))).2.2.2 (by decide) (by decide) ?_
    refine Run.x_iload (q := 230) X8 hx (hb hby at_228) rfl rfl ?_
    refine Run.x_iload (q := 232) X8 hx (hb hby at_230) rfl rfl ?_
    refine Run.x_isub (q := 233) X8 hx (hb hby at_232) rfl rfl ?_
    refine Run.x_iconst (q := 234) X8 hx (hb hby at_233) (z := (1 : Int32)) rfl rfl ?_
    by_cases hc234 : (((0 : Int32) + (bq0 &&& (3 : Int32))) - ((0 : Int32) + (own_sm (own_es 1 bq0) 0))) = (1 : Int32)
    ·skip
     refine Run.x_icmpNo (q := 237) X8 hx (hb hby at_234) (teq hc234).2 rfl ?_
     refine Run.x_iload (q := 239) X8 hx (hb hby at_237) rfl rfl ?_
     refine Run.x_iconst (q := 240) X8 hx (hb hby at_239) (z := (1 : Int32)) rfl rfl ?_
     refine Run.x_icmpYes (q := 249) X8 hx (hb hby at_240) (teq (by decide : (1 : Int32) = (1 : Int32))).1 (by decide) (by decide) ?_
     refine Run.x_iconst (q := 250) X8 hx (hb hby at_249) (z := (1 : Int32)) rfl rfl ?_
     refine Run.x_goto (q := 254) X8 hx (hb hby at_250) (by decide) (by decide) ?_
     refine Run.x_istore (q := 256) X8 hx #[.val (.int p1), .val (.int p2), .val (.int p3), .val (.int p4), .val (.int p5), .val (.int 0), .val (.int 1), .val (.ref b1), .val (.int 1), .val (.int bq0), .val (.int bq1), .val (.int bq2), .val (.ref np3), .val (.ref np4), .val (.ref np5), .val (.int ((0 : Int32) + (bq0 &&& (3 : Int32)))), .val (.int ((0 : Int32) + (own_sm (own_es 1 bq0) 0))), .val (.int 1)] (hb hby at_254) rfl rfl ?_
     refine Run.x_aload (q := 258) X8 hx (hb hby at_256) rfl rfl rfl ?_
     have fin := own_fin1 ac1 (by decide) (own_sm0 rfl)
     replace Ag2 := Ag2.keep K7 (ninS (Ne.symm ne_b1_gr) (ninS ne_gr_r0 nin0))
     refine Run.callVI (q := 261) X8 hx hZ e8 (y := (⟨"semblance/JpegScans", "complete", "()Z"⟩ : MethodName)) (z := (⟨"semblance/JpegScans", "complete", "()Z"⟩ : MethodName)) hown (wm26 hw) (wm27 hw) (notFace_of_selects (args := #[]) (mvT hZ (wm29 hw))) (wm29 hw) (wm28 hw) (wm2 hw) (wm30 hw) (by decide) (a := b1) E7 (argsL := []) (rest := []) (c_cmp_1 l Z a0 hw b1 T7.heap n0 Z7 gr r0 s1 (1 : Int32) (fun _ => u1) E7 F27 F47 Ag2 Ar0_7 (fun _ => rfl) (fun h => absurd (fin.mpr hc234) h)) pd_7 rfl (by rw [hml]; rfl) (W := 0) rfl (by decide) (by decide) (by decide) (by decide) (hb hby at_258) rfl rfl fun T9 L9 X9 M9 e9 => ?_
     have N9 := Fr.app N8 M9
     refine Run.x_iload (q := 263) X9 hx (hb hby at_261) rfl rfl ?_
     refine Run.x_icmpNo (q := 266) X9 hx (hb hby at_263) (teq (by decide : (1 : Int32) = (1 : Int32))).2 rfl ?_
     refine Run.x_iconst (q := 267) X9 hx (hb hby at_266) (z := (1 : Int32)) rfl rfl ?_
     refine Run.x_goto (q := 271) X9 hx (hb hby at_267) (by decide) (by decide) ?_
     refine Run.retN X9 hx hlk e9 (t := .boolean) hret (by simp) (z' := (1 : Int32)) (by decide) (hb hby at_271) (by decide) (by decide) ?_
     exact ⟨rfl, N9⟩
    ·skip
     refine Run.x_icmpYes (q := 253) X8 hx (hb hby at_234) (feq hc234).2 (by decide) (by decide) ?_
     refine Run.x_iconst (q := 254) X8 hx (hb hby at_253) (z := (0 : Int32)) rfl rfl ?_
     refine Run.x_istore (q := 256) X8 hx #[.val (.int p1), .val (.int p2), .val (.int p3), .val (.int p4), .val (.int p5), .val (.int 0), .val (.int 1), .val (.ref b1), .val (.int 1), .val (.int bq0), .val (.int bq1), .val (.int bq2), .val (.ref np3), .val (.ref np4), .val (.ref np5), .val (.int ((0 : Int32) + (bq0 &&& (3 : Int32)))), .val (.int ((0 : Int32) + (own_sm (own_es 1 bq0) 0))), .val (.int 0)] (hb hby at_254) rfl rfl ?_
     refine Run.x_aload (q := 258) X8 hx (hb hby at_256) rfl rfl rfl ?_
     have fin := own_fin1 ac1 (by decide) (own_sm0 rfl)
     replace Ag2 := Ag2.keep K7 (ninS (Ne.symm ne_b1_gr) (ninS ne_gr_r0 nin0))
     refine Run.callVI (q := 261) X8 hx hZ e8 (y := (⟨"semblance/JpegScans", "complete", "()Z"⟩ : MethodName)) (z := (⟨"semblance/JpegScans", "complete", "()Z"⟩ : MethodName)) hown (wm26 hw) (wm27 hw) (notFace_of_selects (args := #[]) (mvT hZ (wm29 hw))) (wm29 hw) (wm28 hw) (wm2 hw) (wm30 hw) (by decide) (a := b1) E7 (argsL := []) (rest := []) (c_cmp_1 l Z a0 hw b1 T7.heap n0 Z7 gr r0 s1 (0 : Int32) (fun _ => u1) E7 F27 F47 Ag2 Ar0_7 (fun h => absurd (fin.mp h) (hc234)) (fun _ => rfl)) pd_7 rfl (by rw [hml]; rfl) (W := 0) rfl (by decide) (by decide) (by decide) (by decide) (hb hby at_258) rfl rfl fun T10 L10 X10 M10 e10 => ?_
     have N10 := Fr.app N8 M10
     refine Run.x_iload (q := 263) X10 hx (hb hby at_261) rfl rfl ?_
     refine Run.x_icmpNo (q := 266) X10 hx (hb hby at_263) (teq (by decide : (0 : Int32) = (0 : Int32))).2 rfl ?_
     refine Run.x_iconst (q := 267) X10 hx (hb hby at_266) (z := (1 : Int32)) rfl rfl ?_
     refine Run.x_goto (q := 271) X10 hx (hb hby at_267) (by decide) (by decide) ?_
     refine Run.retN X10 hx hlk e10 (t := .boolean) hret (by simp) (z' := (1 : Int32)) (by decide) (hb hby at_271) (by decide) (by decide) ?_
     exact ⟨rfl, N10⟩
   ·skip
    show Run p e below s _ _ _ (T5.setTop (mkF m 112 #[.val (.int p1), .val (.int p2), .val (.int p3), .val (.int p4), .val (.int p5), .val (.int 0), .val (.int 1), .val (.ref b1), .val (.int 2), .val (.int bq0), .val (.int bq1), .val (.int bq2), .val (.ref np3), .val (.ref np4), .val (.ref np5), .val (.int 0), .val (.int 0), .unset] []))
    refine Run.x_iload (q := 114) X5 hx (hb hby at_112) rfl rfl ?_
    refine Run.x_ifNo (q := 117) X5 hx (hb hby at_114) ((if0 _ _).trans (tlt (by decide : (0 : Int32) < (2 : Int32))).2.2.2) rfl ?_
    refine Run.x_aload (q := 119) X5 hx (hb hby at_117) rfl rfl rfl ?_
    refine Run.x_aload (q := 121) X5 hx (hb hby at_119) rfl rfl rfl ?_
    refine Run.x_iconst (q := 122) X5 hx (hb hby at_121) (z := (0 : Int32)) rfl rfl ?_
    refine Run.x_iconst (q := 123) X5 hx (hb hby at_122) (z := (0 : Int32)) rfl rfl ?_
    refine Run.x_iconst (q := 124) X5 hx (hb hby at_123) (z := (0 : Int32)) rfl rfl ?_
    refine Run.x_iconst (q := 125) X5 hx (hb hby at_124) (z := (0 : Int32)) rfl rfl ?_
    obtain ⟨⟨s1, u1, v1⟩, hF1⟩ : ∃ q, (own_es 1 bq0).foldl own_stp ((0 : Int32), (-1 : Int32), (-1 : Int32)) = q := ⟨_, rfl⟩
    have ac1 := own_acc1 ac0 (by decide) (fun e h => Or.inl (own_es_m1 bq0 e h)) hF1
    replace E2 := E2.keep K5
    replace F02 := ((F02.keep K3 nin0).keep K4 nin0).keep K5 nin0
    replace F12 := ((F12.keep K3 nin0).keep K4 nin0).keep K5 nin0
    replace F22 := ((F22.keep K3 nin0).keep K4 nin0).keep K5 nin0
    replace F32 := ((F32.keep K3 nin0).keep K4 nin0).keep K5 nin0
    replace F42 := ((F42.keep K3 nin0).keep K4 nin0).keep K5 nin0
    replace Ag2 := Ag2.keep K5 nin0
    replace Ar0_2 := Ar0_2.keep K5 nin0
    replace An3 := An3.keep K5 nin0
    refine Run.callV X5 hx hZ rfl (y := (⟨"semblance/JpegScans", "take", "([IIIII)Z"⟩ : MethodName)) (z := (⟨"semblance/JpegScans", "take", "([IIIII)Z"⟩ : MethodName)) hown (wm34 hw) (wm35 hw) (notFace_of_selects (args := #[]) (mvT hZ (wm37 hw))) (wm37 hw) (wm36 hw) (wm2 hw) (wm38 hw) (by decide) (a := b1) E2 (argsL := [(.ref np3), (.int 0), (.int 0), (.int 0), (.int 0)]) (rest := []) (c_ts_1 l Z a0 hw b1 np3 T5.heap n0 Z5 gr r0 (0 : Int32) (0 : Int32) (-1 : Int32) (-1 : Int32) s1 u1 v1 (own_es 1 bq0) E2 F02 F12 F22 F32 F42 Ag2 Ar0_2 An3 g_b1 g_r0 ne_b1_gr ne_b1_r0 ne_b1_np3 ne_gr_r0 ne_gr_np3 ne_r0_np3 (by decide) (Or.inl rfl) (own_es_m1 bq0) (Nat.le_trans (own_es_len _ _).2 (by decide)) hF1) pd_3 rfl (by rw [hml]; rfl) (W := 0) rfl (by decide) (by decide) (by decide) (by decide) (hb hby at_125) rfl ?_
    intro T11 v11 L11 X11 q11
    obtain ⟨bb11, rfl, M11, K11, E11, F011, F111, F211, F311, F411, Ar0_11⟩ := q11
    have N11 := Fr.app N5 M11
    show Run p e below s _ _ _ (T11.setTop (mkF m 128 #[.val (.int p1), .val (.int p2), .val (.int p3), .val (.int p4), .val (.int p5), .val (.int 0), .val (.int 1), .val (.ref b1), .val (.int 2), .val (.int bq0), .val (.int bq1), .val (.int bq2), .val (.ref np3), .val (.ref np4), .val (.ref np5), .val (.int 0), .val (.int 0), .unset] [(.int bb11)]))
    have Z11 : n0 ≤ T11.heap.size := Nat.le_trans Z5 K11.1
    refine Run.x_pop (q := 129) X11 hx (hb hby at_128) rfl rfl ?_
    refine Run.x_iload (q := 131) X11 hx (hb hby at_129) rfl rfl ?_
    refine Run.x_iload (q := 133) X11 hx (hb hby at_131) rfl rfl ?_
    refine Run.x_iconst (q := 134) X11 hx (hb hby at_133) (z := (3 : Int32)) rfl rfl ?_
    refine Run.x_iand (q := 135) X11 hx (hb hby at_134) rfl rfl ?_
    refine Run.x_iadd (q := 136) X11 hx (hb hby at_135) rfl rfl ?_
    refine Run.x_istore (q := 138) X11 hx #[.val (.int p1), .val (.int p2), .val (.int p3), .val (.int p4), .val (.int p5), .val (.int 0), .val (.int 1), .val (.ref b1), .val (.int 2), .val (.int bq0), .val (.int bq1), .val (.int bq2), .val (.ref np3), .val (.ref np4), .val (.ref np5), .val (.int ((0 : Int32) + (bq0 &&& (3 : Int32)))), .val (.int 0), .unset] (hb hby at_136) rfl rfl ?_
    refine Run.x_iload (q := 140) X11 hx (hb hby at_138) rfl rfl ?_
    refine Run.x_iload (q := 142) X11 hx (hb hby at_140) rfl rfl ?_
    refine Run.x_iload (q := 144) X11 hx (hb hby at_142) rfl rfl ?_
    refine Run.callSI (q := 147) X11 hx hZ rfl (y := (⟨"semblance/JpegScansCompletePinLaw", "ones", "(II)I"⟩ : MethodName)) hown (wm64 hw) (wm65 hw) (wm24 hw) (wm66 hw) (by decide) (argsL := [(.int bq0), (.int 1)]) (rest := [(.int 0)]) (c_ones_1 l Z a0 hw bq0 T11.heap n0 Z11 ) pd_1 rfl (by rw [hml]; rfl) (W := 1) rfl (by decide) (by decide) (by decide) (by decide) (hb hby at_144) rfl rfl fun T12 L12 X12 M12 e12 => ?_
    have N12 := Fr.app N11 M12
    refine Run.x_iadd (q := 148) X12 hx (hb hby at_147) rfl rfl ?_
    refine Run.x_istore (q := 150) X12 hx #[.val (.int p1), .val (.int p2), .val (.int p3), .val (.int p4), .val (.int p5), .val (.int 0), .val (.int 1), .val (.ref b1), .val (.int 2), .val (.int bq0), .val (.int bq1), .val (.int bq2), .val (.ref np3), .val (.ref np4), .val (.ref np5), .val (.int ((0 : Int32) + (bq0 &&& (3 : Int32)))), .val (.int ((0 : Int32) + (own_sm (own_es 1 bq0) 0))), .unset] (hb hby at_148) rfl rfl ?_
    refine Run.x_iload (q := 152) X12 hx (hb hby at_150) rfl rfl ?_
    refine Run.x_iconst (q := 153) X12 hx (hb hby at_152) (z := (1 : Int32)) rfl rfl ?_
    refine Run.x_icmpNo (q := 156) X12 hx (hb hby at_153) (tlt (by decide : (1 : Int32) < (2 : Int32))).2.2.2 rfl ?_
    refine Run.x_aload (q := 158) X12 hx (hb hby at_156) rfl rfl rfl ?_
    refine Run.x_aload (q := 160) X12 hx (hb hby at_158) rfl rfl rfl ?_
    refine Run.x_iconst (q := 161) X12 hx (hb hby at_160) (z := (0 : Int32)) rfl rfl ?_
    refine Run.x_iconst (q := 162) X12 hx (hb hby at_161) (z := (0 : Int32)) rfl rfl ?_
    refine Run.x_iconst (q := 163) X12 hx (hb hby at_162) (z := (0 : Int32)) rfl rfl ?_
    refine Run.x_iconst (q := 164) X12 hx (hb hby at_163) (z := (0 : Int32)) rfl rfl ?_
    obtain ⟨⟨s2, u2, v2⟩, hF2⟩ : ∃ q, (own_es 1 bq1).foldl own_stp (s1, u1, v1) = q := ⟨_, rfl⟩
    have ac2 := own_acc1 ac1 (by decide) (fun e h => Or.inl (own_es_m1 bq1 e h)) hF2
    replace Ag2 := Ag2.keep K11 (ninS (Ne.symm ne_b1_gr) (ninS ne_gr_r0 nin0))
    replace An4 := (An4.keep K5 nin0).keep K11 (ninS (Ne.symm ne_b1_np4) (ninS (Ne.symm ne_r0_np4) nin0))
    refine Run.callV X12 hx hZ e12 (y := (⟨"semblance/JpegScans", "take", "([IIIII)Z"⟩ : MethodName)) (z := (⟨"semblance/JpegScans", "take", "([IIIII)Z"⟩ : MethodName)) hown (wm34 hw) (wm35 hw) (notFace_of_selects (args := #[]) (mvT hZ (wm37 hw))) (wm37 hw) (wm36 hw) (wm2 hw) (wm38 hw) (by decide) (a := b1) E11 (argsL := [(.ref np4), (.int 0), (.int 0), (.int 0), (.int 0)]) (rest := []) (c_ts_1 l Z a0 hw b1 np4 T11.heap n0 Z11 gr r0 ((0 : Int32) + (1 : Int32)) s1 u1 v1 s2 u2 v2 (own_es 1 bq1) E11 F011 F111 F211 F311 F411 Ag2 Ar0_11 An4 g_b1 g_r0 ne_b1_gr ne_b1_r0 ne_b1_np4 ne_gr_r0 ne_gr_np4 ne_r0_np4 (by decide) (own_acc_s ac1) (own_es_m1 bq1) (Nat.le_trans (own_es_len _ _).2 (by decide)) hF2) pd_3 rfl (by rw [hml]; rfl) (W := 0) rfl (by decide) (by decide) (by decide) (by decide) (hb hby at_164) rfl ?_
    intro T13 v13 L13 X13 q13
    obtain ⟨bb13, rfl, M13, K13, E13, F013, F113, F213, F313, F413, Ar0_13⟩ := q13
    have N13 := Fr.app N12 M13
    show Run p e below s _ _ _ (T13.setTop (mkF m 167 #[.val (.int p1), .val (.int p2), .val (.int p3), .val (.int p4), .val (.int p5), .val (.int 0), .val (.int 1), .val (.ref b1), .val (.int 2), .val (.int bq0), .val (.int bq1), .val (.int bq2), .val (.ref np3), .val (.ref np4), .val (.ref np5), .val (.int ((0 : Int32) + (bq0 &&& (3 : Int32)))), .val (.int ((0 : Int32) + (own_sm (own_es 1 bq0) 0))), .unset] [(.int bb13)]))
    have Z13 : n0 ≤ T13.heap.size := Nat.le_trans Z11 K13.1
    refine Run.x_pop (q := 168) X13 hx (hb hby at_167) rfl rfl ?_
    refine Run.x_iload (q := 170) X13 hx (hb hby at_168) rfl rfl ?_
    refine Run.x_iload (q := 172) X13 hx (hb hby at_170) rfl rfl ?_
    refine Run.x_iconst (q := 173) X13 hx (hb hby at_172) (z := (3 : Int32)) rfl rfl ?_
    refine Run.x_iand (q := 174) X13 hx (hb hby at_173) rfl rfl ?_
    refine Run.x_iadd (q := 175) X13 hx (hb hby at_174) rfl rfl ?_
    refine Run.x_istore (q := 177) X13 hx #[.val (.int p1), .val (.int p2), .val (.int p3), .val (.int p4), .val (.int p5), .val (.int 0), .val (.int 1), .val (.ref b1), .val (.int 2), .val (.int bq0), .val (.int bq1), .val (.int bq2), .val (.ref np3), .val (.ref np4), .val (.ref np5), .val (.int (((0 : Int32) + (bq0 &&& (3 : Int32))) + (bq1 &&& (3 : Int32)))), .val (.int ((0 : Int32) + (own_sm (own_es 1 bq0) 0))), .unset] (hb hby at_175) rfl rfl ?_
    refine Run.x_iload (q := 179) X13 hx (hb hby at_177) rfl rfl ?_
    refine Run.x_iload (q := 181) X13 hx (hb hby at_179) rfl rfl ?_
    refine Run.x_iload (q := 183) X13 hx (hb hby at_181) rfl rfl ?_
    refine Run.callSI (q := 186) X13 hx hZ rfl (y := (⟨"semblance/JpegScansCompletePinLaw", "ones", "(II)I"⟩ : MethodName)) hown (wm64 hw) (wm65 hw) (wm24 hw) (wm66 hw) (by decide) (argsL := [(.int bq1), (.int 1)]) (rest := [(.int ((0 : Int32) + (own_sm (own_es 1 bq0) 0)))]) (c_ones_1 l Z a0 hw bq1 T13.heap n0 Z13 ) pd_1 rfl (by rw [hml]; rfl) (W := 1) rfl (by decide) (by decide) (by decide) (by decide) (hb hby at_183) rfl rfl fun T14 L14 X14 M14 e14 => ?_
    have N14 := Fr.app N13 M14
    refine Run.x_iadd (q := 187) X14 hx (hb hby at_186) rfl rfl ?_
    refine Run.x_istore (q := 189) X14 hx #[.val (.int p1), .val (.int p2), .val (.int p3), .val (.int p4), .val (.int p5), .val (.int 0), .val (.int 1), .val (.ref b1), .val (.int 2), .val (.int bq0), .val (.int bq1), .val (.int bq2), .val (.ref np3), .val (.ref np4), .val (.ref np5), .val (.int (((0 : Int32) + (bq0 &&& (3 : Int32))) + (bq1 &&& (3 : Int32)))), .val (.int (((0 : Int32) + (own_sm (own_es 1 bq0) 0)) + (own_sm (own_es 1 bq1) 0))), .unset] (hb hby at_187) rfl rfl ?_
    refine Run.x_iload (q := 191) X14 hx (hb hby at_189) rfl rfl ?_
    refine Run.x_iconst (q := 192) X14 hx (hb hby at_191) (z := (2 : Int32)) rfl rfl ?_
    refine Run.x_icmpYes (q := 228) X14 hx (hb hby at_192) (flt (by decide : ¬ ((2 : Int32) < (2 : Int32)))).2.2.2 (by decide) (by decide) ?_
    refine Run.x_iload (q := 230) X14 hx (hb hby at_228) rfl rfl ?_
    refine Run.x_iload (q := 232) X14 hx (hb hby at_230) rfl rfl ?_
    refine Run.x_isub (q := 233) X14 hx (hb hby at_232) rfl rfl ?_
    refine Run.x_iconst (q := 234) X14 hx (hb hby at_233) (z := (1 : Int32)) rfl rfl ?_
    by_cases hc234 : ((((0 : Int32) + (bq0 &&& (3 : Int32))) + (bq1 &&& (3 : Int32))) - (((0 : Int32) + (own_sm (own_es 1 bq0) 0)) + (own_sm (own_es 1 bq1) 0))) = (1 : Int32)
    ·skip
     refine Run.x_icmpNo (q := 237) X14 hx (hb hby at_234) (teq hc234).2 rfl ?_
     refine Run.x_iload (q := 239) X14 hx (hb hby at_237) rfl rfl ?_
     refine Run.x_iconst (q := 240) X14 hx (hb hby at_239) (z := (1 : Int32)) rfl rfl ?_
     refine Run.x_icmpYes (q := 249) X14 hx (hb hby at_240) (teq (by decide : (1 : Int32) = (1 : Int32))).1 (by decide) (by decide) ?_
     refine Run.x_iconst (q := 250) X14 hx (hb hby at_249) (z := (1 : Int32)) rfl rfl ?_
     refine Run.x_goto (q := 254) X14 hx (hb hby at_250) (by decide) (by decide) ?_
     refine Run.x_istore (q := 256) X14 hx #[.val (.int p1), .val (.int p2), .val (.int p3), .val (.int p4), .val (.int p5), .val (.int 0), .val (.int 1), .val (.ref b1), .val (.int 2), .val (.int bq0), .val (.int bq1), .val (.int bq2), .val (.ref np3), .val (.ref np4), .val (.ref np5), .val (.int (((0 : Int32) + (bq0 &&& (3 : Int32))) + (bq1 &&& (3 : Int32)))), .val (.int (((0 : Int32) + (own_sm (own_es 1 bq0) 0)) + (own_sm (own_es 1 bq1) 0))), .val (.int 1)] (hb hby at_254) rfl rfl ?_
     refine Run.x_aload (q := 258) X14 hx (hb hby at_256) rfl rfl rfl ?_
     have fin := own_fin1 ac2 (by decide) (own_sm0 (own_sm0 rfl))
     replace Ag2 := Ag2.keep K13 (ninS (Ne.symm ne_b1_gr) (ninS ne_gr_r0 nin0))
     refine Run.callVI (q := 261) X14 hx hZ e14 (y := (⟨"semblance/JpegScans", "complete", "()Z"⟩ : MethodName)) (z := (⟨"semblance/JpegScans", "complete", "()Z"⟩ : MethodName)) hown (wm26 hw) (wm27 hw) (notFace_of_selects (args := #[]) (mvT hZ (wm29 hw))) (wm29 hw) (wm28 hw) (wm2 hw) (wm30 hw) (by decide) (a := b1) E13 (argsL := []) (rest := []) (c_cmp_1 l Z a0 hw b1 T13.heap n0 Z13 gr r0 s2 (1 : Int32) (fun _ => u2) E13 F213 F413 Ag2 Ar0_13 (fun _ => rfl) (fun h => absurd (fin.mpr hc234) h)) pd_7 rfl (by rw [hml]; rfl) (W := 0) rfl (by decide) (by decide) (by decide) (by decide) (hb hby at_258) rfl rfl fun T15 L15 X15 M15 e15 => ?_
     have N15 := Fr.app N14 M15
     refine Run.x_iload (q := 263) X15 hx (hb hby at_261) rfl rfl ?_
     refine Run.x_icmpNo (q := 266) X15 hx (hb hby at_263) (teq (by decide : (1 : Int32) = (1 : Int32))).2 rfl ?_
     refine Run.x_iconst (q := 267) X15 hx (hb hby at_266) (z := (1 : Int32)) rfl rfl ?_
     refine Run.x_goto (q := 271) X15 hx (hb hby at_267) (by decide) (by decide) ?_
     refine Run.retN X15 hx hlk e15 (t := .boolean) hret (by simp) (z' := (1 : Int32)) (by decide) (hb hby at_271) (by decide) (by decide) ?_
     exact ⟨rfl, N15⟩
    ·skip
     refine Run.x_icmpYes (q := 253) X14 hx (hb hby at_234) (feq hc234).2 (by decide) (by decide) ?_
     refine Run.x_iconst (q := 254) X14 hx (hb hby at_253) (z := (0 : Int32)) rfl rfl ?_
     refine Run.x_istore (q := 256) X14 hx #[.val (.int p1), .val (.int p2), .val (.int p3), .val (.int p4), .val (.int p5), .val (.int 0), .val (.int 1), .val (.ref b1), .val (.int 2), .val (.int bq0), .val (.int bq1), .val (.int bq2), .val (.ref np3), .val (.ref np4), .val (.ref np5), .val (.int (((0 : Int32) + (bq0 &&& (3 : Int32))) + (bq1 &&& (3 : Int32)))), .val (.int (((0 : Int32) + (own_sm (own_es 1 bq0) 0)) + (own_sm (own_es 1 bq1) 0))), .val (.int 0)] (hb hby at_254) rfl rfl ?_
     refine Run.x_aload (q := 258) X14 hx (hb hby at_256) rfl rfl rfl ?_
     have fin := own_fin1 ac2 (by decide) (own_sm0 (own_sm0 rfl))
     replace Ag2 := Ag2.keep K13 (ninS (Ne.symm ne_b1_gr) (ninS ne_gr_r0 nin0))
     refine Run.callVI (q := 261) X14 hx hZ e14 (y := (⟨"semblance/JpegScans", "complete", "()Z"⟩ : MethodName)) (z := (⟨"semblance/JpegScans", "complete", "()Z"⟩ : MethodName)) hown (wm26 hw) (wm27 hw) (notFace_of_selects (args := #[]) (mvT hZ (wm29 hw))) (wm29 hw) (wm28 hw) (wm2 hw) (wm30 hw) (by decide) (a := b1) E13 (argsL := []) (rest := []) (c_cmp_1 l Z a0 hw b1 T13.heap n0 Z13 gr r0 s2 (0 : Int32) (fun _ => u2) E13 F213 F413 Ag2 Ar0_13 (fun h => absurd (fin.mp h) (hc234)) (fun _ => rfl)) pd_7 rfl (by rw [hml]; rfl) (W := 0) rfl (by decide) (by decide) (by decide) (by decide) (hb hby at_258) rfl rfl fun T16 L16 X16 M16 e16 => ?_
     have N16 := Fr.app N14 M16
     refine Run.x_iload (q := 263) X16 hx (hb hby at_261) rfl rfl ?_
     refine Run.x_icmpNo (q := 266) X16 hx (hb hby at_263) (teq (by decide : (0 : Int32) = (0 : Int32))).2 rfl ?_
     refine Run.x_iconst (q := 267) X16 hx (hb hby at_266) (z := (1 : Int32)) rfl rfl ?_
     refine Run.x_goto (q := 271) X16 hx (hb hby at_267) (by decide) (by decide) ?_
     refine Run.retN X16 hx hlk e16 (t := .boolean) hret (by simp) (z' := (1 : Int32)) (by decide) (hb hby at_271) (by decide) (by decide) ?_
     exact ⟨rfl, N16⟩
   ·skip
    show Run p e below s _ _ _ (T5.setTop (mkF m 112 #[.val (.int p1), .val (.int p2), .val (.int p3), .val (.int p4), .val (.int p5), .val (.int 0), .val (.int 1), .val (.ref b1), .val (.int 3), .val (.int bq0), .val (.int bq1), .val (.int bq2), .val (.ref np3), .val (.ref np4), .val (.ref np5), .val (.int 0), .val (.int 0), .unset] []))
    refine Run.x_iload (q := 114) X5 hx (hb hby at_112) rfl rfl ?_
    refine Run.x_ifNo (q := 117) X5 hx (hb hby at_114) ((if0 _ _).trans (tlt (by decide : (0 : Int32) < (3 : Int32))).2.2.2) rfl ?_
    refine Run.x_aload (q := 119) X5 hx (hb hby at_117) rfl rfl rfl ?_
    refine Run.x_aload (q := 121) X5 hx (hb hby at_119) rfl rfl rfl ?_
    refine Run.x_iconst (q := 122) X5 hx (hb hby at_121) (z := (0 : Int32)) rfl rfl ?_
    refine Run.x_iconst (q := 123) X5 hx (hb hby at_122) (z := (0 : Int32)) rfl rfl ?_
    refine Run.x_iconst (q := 124) X5 hx (hb hby at_123) (z := (0 : Int32)) rfl rfl ?_
    refine Run.x_iconst (q := 125) X5 hx (hb hby at_124) (z := (0 : Int32)) rfl rfl ?_
    obtain ⟨⟨s1, u1, v1⟩, hF1⟩ : ∃ q, (own_es 1 bq0).foldl own_stp ((0 : Int32), (-1 : Int32), (-1 : Int32)) = q := ⟨_, rfl⟩
    have ac1 := own_acc1 ac0 (by decide) (fun e h => Or.inl (own_es_m1 bq0 e h)) hF1
    replace E2 := E2.keep K5
    replace F02 := ((F02.keep K3 nin0).keep K4 nin0).keep K5 nin0
    replace F12 := ((F12.keep K3 nin0).keep K4 nin0).keep K5 nin0
    replace F22 := ((F22.keep K3 nin0).keep K4 nin0).keep K5 nin0
    replace F32 := ((F32.keep K3 nin0).keep K4 nin0).keep K5 nin0
    replace F42 := ((F42.keep K3 nin0).keep K4 nin0).keep K5 nin0
    replace Ag2 := Ag2.keep K5 nin0
    replace Ar0_2 := Ar0_2.keep K5 nin0
    replace An3 := An3.keep K5 nin0
    refine Run.callV X5 hx hZ rfl (y := (⟨"semblance/JpegScans", "take", "([IIIII)Z"⟩ : MethodName)) (z := (⟨"semblance/JpegScans", "take", "([IIIII)Z"⟩ : MethodName)) hown (wm34 hw) (wm35 hw) (notFace_of_selects (args := #[]) (mvT hZ (wm37 hw))) (wm37 hw) (wm36 hw) (wm2 hw) (wm38 hw) (by decide) (a := b1) E2 (argsL := [(.ref np3), (.int 0), (.int 0), (.int 0), (.int 0)]) (rest := []) (c_ts_1 l Z a0 hw b1 np3 T5.heap n0 Z5 gr r0 (0 : Int32) (0 : Int32) (-1 : Int32) (-1 : Int32) s1 u1 v1 (own_es 1 bq0) E2 F02 F12 F22 F32 F42 Ag2 Ar0_2 An3 g_b1 g_r0 ne_b1_gr ne_b1_r0 ne_b1_np3 ne_gr_r0 ne_gr_np3 ne_r0_np3 (by decide) (Or.inl rfl) (own_es_m1 bq0) (Nat.le_trans (own_es_len _ _).2 (by decide)) hF1) pd_3 rfl (by rw [hml]; rfl) (W := 0) rfl (by decide) (by decide) (by decide) (by decide) (hb hby at_125) rfl ?_
    intro T17 v17 L17 X17 q17
    obtain ⟨bb17, rfl, M17, K17, E17, F017, F117, F217, F317, F417, Ar0_17⟩ := q17
    have N17 := Fr.app N5 M17
    show Run p e below s _ _ _ (T17.setTop (mkF m 128 #[.val (.int p1), .val (.int p2), .val (.int p3), .val (.int p4), .val (.int p5), .val (.int 0), .val (.int 1), .val (.ref b1), .val (.int 3), .val (.int bq0), .val (.int bq1), .val (.int bq2), .val (.ref np3), .val (.ref np4), .val (.ref np5), .val (.int 0), .val (.int 0), .unset] [(.int bb17)]))
    have Z17 : n0 ≤ T17.heap.size := Nat.le_trans Z5 K17.1
    refine Run.x_pop (q := 129) X17 hx (hb hby at_128) rfl rfl ?_
    refine Run.x_iload (q := 131) X17 hx (hb hby at_129) rfl rfl ?_
    refine Run.x_iload (q := 133) X17 hx (hb hby at_131) rfl rfl ?_
    refine Run.x_iconst (q := 134) X17 hx (hb hby at_133) (z := (3 : Int32)) rfl rfl ?_
    refine Run.x_iand (q := 135) X17 hx (hb hby at_134) rfl rfl ?_
    refine Run.x_iadd (q := 136) X17 hx (hb hby at_135) rfl rfl ?_
    refine Run.x_istore (q := 138) X17 hx #[.val (.int p1), .val (.int p2), .val (.int p3), .val (.int p4), .val (.int p5), .val (.int 0), .val (.int 1), .val (.ref b1), .val (.int 3), .val (.int bq0), .val (.int bq1), .val (.int bq2), .val (.ref np3), .val (.ref np4), .val (.ref np5), .val (.int ((0 : Int32) + (bq0 &&& (3 : Int32)))), .val (.int 0), .unset] (hb hby at_136) rfl rfl ?_
    refine Run.x_iload (q := 140) X17 hx (hb hby at_138) rfl rfl ?_
    refine Run.x_iload (q := 142) X17 hx (hb hby at_140) rfl rfl ?_
    refine Run.x_iload (q := 144) X17 hx (hb hby at_142) rfl rfl ?_
    refine Run.callSI (q := 147) X17 hx hZ rfl (y := (⟨"semblance/JpegScansCompletePinLaw", "ones", "(II)I"⟩ : MethodName)) hown (wm64 hw) (wm65 hw) (wm24 hw) (wm66 hw) (by decide) (argsL := [(.int bq0), (.int 1)]) (rest := [(.int 0)]) (c_ones_1 l Z a0 hw bq0 T17.heap n0 Z17 ) pd_1 rfl (by rw [hml]; rfl) (W := 1) rfl (by decide) (by decide) (by decide) (by decide) (hb hby at_144) rfl rfl fun T18 L18 X18 M18 e18 => ?_
    have N18 := Fr.app N17 M18
    refine Run.x_iadd (q := 148) X18 hx (hb hby at_147) rfl rfl ?_
    refine Run.x_istore (q := 150) X18 hx #[.val (.int p1), .val (.int p2), .val (.int p3), .val (.int p4), .val (.int p5), .val (.int 0), .val (.int 1), .val (.ref b1), .val (.int 3), .val (.int bq0), .val (.int bq1), .val (.int bq2), .val (.ref np3), .val (.ref np4), .val (.ref np5), .val (.int ((0 : Int32) + (bq0 &&& (3 : Int32)))), .val (.int ((0 : Int32) + (own_sm (own_es 1 bq0) 0))), .unset] (hb hby at_148) rfl rfl ?_
    refine Run.x_iload (q := 152) X18 hx (hb hby at_150) rfl rfl ?_
    refine Run.x_iconst (q := 153) X18 hx (hb hby at_152) (z := (1 : Int32)) rfl rfl ?_
    refine Run.x_icmpNo (q := 156) X18 hx (hb hby at_153) (tlt (by decide : (1 : Int32) < (3 : Int32))).2.2.2 rfl ?_
    refine Run.x_aload (q := 158) X18 hx (hb hby at_156) rfl rfl rfl ?_
    refine Run.x_aload (q := 160) X18 hx (hb hby at_158) rfl rfl rfl ?_
    refine Run.x_iconst (q := 161) X18 hx (hb hby at_160) (z := (0 : Int32)) rfl rfl ?_
    refine Run.x_iconst (q := 162) X18 hx (hb hby at_161) (z := (0 : Int32)) rfl rfl ?_
    refine Run.x_iconst (q := 163) X18 hx (hb hby at_162) (z := (0 : Int32)) rfl rfl ?_
    refine Run.x_iconst (q := 164) X18 hx (hb hby at_163) (z := (0 : Int32)) rfl rfl ?_
    obtain ⟨⟨s2, u2, v2⟩, hF2⟩ : ∃ q, (own_es 1 bq1).foldl own_stp (s1, u1, v1) = q := ⟨_, rfl⟩
    have ac2 := own_acc1 ac1 (by decide) (fun e h => Or.inl (own_es_m1 bq1 e h)) hF2
    replace Ag2 := Ag2.keep K17 (ninS (Ne.symm ne_b1_gr) (ninS ne_gr_r0 nin0))
    replace An4 := (An4.keep K5 nin0).keep K17 (ninS (Ne.symm ne_b1_np4) (ninS (Ne.symm ne_r0_np4) nin0))
    refine Run.callV X18 hx hZ e18 (y := (⟨"semblance/JpegScans", "take", "([IIIII)Z"⟩ : MethodName)) (z := (⟨"semblance/JpegScans", "take", "([IIIII)Z"⟩ : MethodName)) hown (wm34 hw) (wm35 hw) (notFace_of_selects (args := #[]) (mvT hZ (wm37 hw))) (wm37 hw) (wm36 hw) (wm2 hw) (wm38 hw) (by decide) (a := b1) E17 (argsL := [(.ref np4), (.int 0), (.int 0), (.int 0), (.int 0)]) (rest := []) (c_ts_1 l Z a0 hw b1 np4 T17.heap n0 Z17 gr r0 ((0 : Int32) + (1 : Int32)) s1 u1 v1 s2 u2 v2 (own_es 1 bq1) E17 F017 F117 F217 F317 F417 Ag2 Ar0_17 An4 g_b1 g_r0 ne_b1_gr ne_b1_r0 ne_b1_np4 ne_gr_r0 ne_gr_np4 ne_r0_np4 (by decide) (own_acc_s ac1) (own_es_m1 bq1) (Nat.le_trans (own_es_len _ _).2 (by decide)) hF2) pd_3 rfl (by rw [hml]; rfl) (W := 0) rfl (by decide) (by decide) (by decide) (by decide) (hb hby at_164) rfl ?_
    intro T19 v19 L19 X19 q19
    obtain ⟨bb19, rfl, M19, K19, E19, F019, F119, F219, F319, F419, Ar0_19⟩ := q19
    have N19 := Fr.app N18 M19
    show Run p e below s _ _ _ (T19.setTop (mkF m 167 #[.val (.int p1), .val (.int p2), .val (.int p3), .val (.int p4), .val (.int p5), .val (.int 0), .val (.int 1), .val (.ref b1), .val (.int 3), .val (.int bq0), .val (.int bq1), .val (.int bq2), .val (.ref np3), .val (.ref np4), .val (.ref np5), .val (.int ((0 : Int32) + (bq0 &&& (3 : Int32)))), .val (.int ((0 : Int32) + (own_sm (own_es 1 bq0) 0))), .unset] [(.int bb19)]))
    have Z19 : n0 ≤ T19.heap.size := Nat.le_trans Z17 K19.1
    refine Run.x_pop (q := 168) X19 hx (hb hby at_167) rfl rfl ?_
    refine Run.x_iload (q := 170) X19 hx (hb hby at_168) rfl rfl ?_
    refine Run.x_iload (q := 172) X19 hx (hb hby at_170) rfl rfl ?_
    refine Run.x_iconst (q := 173) X19 hx (hb hby at_172) (z := (3 : Int32)) rfl rfl ?_
    refine Run.x_iand (q := 174) X19 hx (hb hby at_173) rfl rfl ?_
    refine Run.x_iadd (q := 175) X19 hx (hb hby at_174) rfl rfl ?_
    refine Run.x_istore (q := 177) X19 hx #[.val (.int p1), .val (.int p2), .val (.int p3), .val (.int p4), .val (.int p5), .val (.int 0), .val (.int 1), .val (.ref b1), .val (.int 3), .val (.int bq0), .val (.int bq1), .val (.int bq2), .val (.ref np3), .val (.ref np4), .val (.ref np5), .val (.int (((0 : Int32) + (bq0 &&& (3 : Int32))) + (bq1 &&& (3 : Int32)))), .val (.int ((0 : Int32) + (own_sm (own_es 1 bq0) 0))), .unset] (hb hby at_175) rfl rfl ?_
    refine Run.x_iload (q := 179) X19 hx (hb hby at_177) rfl rfl ?_
    refine Run.x_iload (q := 181) X19 hx (hb hby at_179) rfl rfl ?_
    refine Run.x_iload (q := 183) X19 hx (hb hby at_181) rfl rfl ?_
    refine Run.callSI (q := 186) X19 hx hZ rfl (y := (⟨"semblance/JpegScansCompletePinLaw", "ones", "(II)I"⟩ : MethodName)) hown (wm64 hw) (wm65 hw) (wm24 hw) (wm66 hw) (by decide) (argsL := [(.int bq1), (.int 1)]) (rest := [(.int ((0 : Int32) + (own_sm (own_es 1 bq0) 0)))]) (c_ones_1 l Z a0 hw bq1 T19.heap n0 Z19 ) pd_1 rfl (by rw [hml]; rfl) (W := 1) rfl (by decide) (by decide) (by decide) (by decide) (hb hby at_183) rfl rfl fun T20 L20 X20 M20 e20 => ?_
    have N20 := Fr.app N19 M20
    refine Run.x_iadd (q := 187) X20 hx (hb hby at_186) rfl rfl ?_
    refine Run.x_istore (q := 189) X20 hx #[.val (.int p1), .val (.int p2), .val (.int p3), .val (.int p4), .val (.int p5), .val (.int 0), .val (.int 1), .val (.ref b1), .val (.int 3), .val (.int bq0), .val (.int bq1), .val (.int bq2), .val (.ref np3), .val (.ref np4), .val (.ref np5), .val (.int (((0 : Int32) + (bq0 &&& (3 : Int32))) + (bq1 &&& (3 : Int32)))), .val (.int (((0 : Int32) + (own_sm (own_es 1 bq0) 0)) + (own_sm (own_es 1 bq1) 0))), .unset] (hb hby at_187) rfl rfl ?_
    refine Run.x_iload (q := 191) X20 hx (hb hby at_189) rfl rfl ?_
    refine Run.x_iconst (q := 192) X20 hx (hb hby at_191) (z := (2 : Int32)) rfl rfl ?_
    refine Run.x_icmpNo (q := 195) X20 hx (hb hby at_192) (tlt (by decide : (2 : Int32) < (3 : Int32))).2.2.2 rfl ?_
    refine Run.x_aload (q := 197) X20 hx (hb hby at_195) rfl rfl rfl ?_
    refine Run.x_aload (q := 199) X20 hx (hb hby at_197) rfl rfl rfl ?_
    refine Run.x_iconst (q := 200) X20 hx (hb hby at_199) (z := (0 : Int32)) rfl rfl ?_
    refine Run.x_iconst (q := 201) X20 hx (hb hby at_200) (z := (0 : Int32)) rfl rfl ?_
    refine Run.x_iconst (q := 202) X20 hx (hb hby at_201) (z := (0 : Int32)) rfl rfl ?_
    refine Run.x_iconst (q := 203) X20 hx (hb hby at_202) (z := (0 : Int32)) rfl rfl ?_
    obtain ⟨⟨s3, u3, v3⟩, hF3⟩ : ∃ q, (own_es 1 bq2).foldl own_stp (s2, u2, v2) = q := ⟨_, rfl⟩
    have ac3 := own_acc1 ac2 (by decide) (fun e h => Or.inl (own_es_m1 bq2 e h)) hF3
    replace Ag2 := Ag2.keep K19 (ninS (Ne.symm ne_b1_gr) (ninS ne_gr_r0 nin0))
    replace An5 := (An5.keep K17 (ninS (Ne.symm ne_b1_np5) (ninS (Ne.symm ne_r0_np5) nin0))).keep K19 (ninS (Ne.symm ne_b1_np5) (ninS (Ne.symm ne_r0_np5) nin0))
    refine Run.callV X20 hx hZ e20 (y := (⟨"semblance/JpegScans", "take", "([IIIII)Z"⟩ : MethodName)) (z := (⟨"semblance/JpegScans", "take", "([IIIII)Z"⟩ : MethodName)) hown (wm34 hw) (wm35 hw) (notFace_of_selects (args := #[]) (mvT hZ (wm37 hw))) (wm37 hw) (wm36 hw) (wm2 hw) (wm38 hw) (by decide) (a := b1) E19 (argsL := [(.ref np5), (.int 0), (.int 0), (.int 0), (.int 0)]) (rest := []) (c_ts_1 l Z a0 hw b1 np5 T19.heap n0 Z19 gr r0 (((0 : Int32) + (1 : Int32)) + (1 : Int32)) s2 u2 v2 s3 u3 v3 (own_es 1 bq2) E19 F019 F119 F219 F319 F419 Ag2 Ar0_19 An5 g_b1 g_r0 ne_b1_gr ne_b1_r0 ne_b1_np5 ne_gr_r0 ne_gr_np5 ne_r0_np5 (by decide) (own_acc_s ac2) (own_es_m1 bq2) (Nat.le_trans (own_es_len _ _).2 (by decide)) hF3) pd_3 rfl (by rw [hml]; rfl) (W := 0) rfl (by decide) (by decide) (by decide) (by decide) (hb hby at_203) rfl ?_
    intro T21 v21 L21 X21 q21
    obtain ⟨bb21, rfl, M21, K21, E21, F021, F121, F221, F321, F421, Ar0_21⟩ := q21
    have N21 := Fr.app N20 M21
    show Run p e below s _ _ _ (T21.setTop (mkF m 206 #[.val (.int p1), .val (.int p2), .val (.int p3), .val (.int p4), .val (.int p5), .val (.int 0), .val (.int 1), .val (.ref b1), .val (.int 3), .val (.int bq0), .val (.int bq1), .val (.int bq2), .val (.ref np3), .val (.ref np4), .val (.ref np5), .val (.int (((0 : Int32) + (bq0 &&& (3 : Int32))) + (bq1 &&& (3 : Int32)))), .val (.int (((0 : Int32) + (own_sm (own_es 1 bq0) 0)) + (own_sm (own_es 1 bq1) 0))), .unset] [(.int bb21)]))
    have Z21 : n0 ≤ T21.heap.size := Nat.le_trans Z19 K21.1
    refine Run.x_pop (q := 207) X21 hx (hb hby at_206) rfl rfl ?_
    refine Run.x_iload (q := 209) X21 hx (hb hby at_207) rfl rfl ?_
    refine Run.x_iload (q := 211) X21 hx (hb hby at_209) rfl rfl ?_
    refine Run.x_iconst (q := 212) X21 hx (hb hby at_211) (z := (3 : Int32)) rfl rfl ?_
    refine Run.x_iand (q := 213) X21 hx (hb hby at_212) rfl rfl ?_
    refine Run.x_iadd (q := 214) X21 hx (hb hby at_213) rfl rfl ?_
    refine Run.x_istore (q := 216) X21 hx #[.val (.int p1), .val (.int p2), .val (.int p3), .val (.int p4), .val (.int p5), .val (.int 0), .val (.int 1), .val (.ref b1), .val (.int 3), .val (.int bq0), .val (.int bq1), .val (.int bq2), .val (.ref np3), .val (.ref np4), .val (.ref np5), .val (.int ((((0 : Int32) + (bq0 &&& (3 : Int32))) + (bq1 &&& (3 : Int32))) + (bq2 &&& (3 : Int32)))), .val (.int (((0 : Int32) + (own_sm (own_es 1 bq0) 0)) + (own_sm (own_es 1 bq1) 0))), .unset] (hb hby at_214) rfl rfl ?_
    refine Run.x_iload (q := 218) X21 hx (hb hby at_216) rfl rfl ?_
    refine Run.x_iload (q := 220) X21 hx (hb hby at_218) rfl rfl ?_
    refine Run.x_iload (q := 222) X21 hx (hb hby at_220) rfl rfl ?_
    refine Run.callSI (q := 225) X21 hx hZ rfl (y := (⟨"semblance/JpegScansCompletePinLaw", "ones", "(II)I"⟩ : MethodName)) hown (wm64 hw) (wm65 hw) (wm24 hw) (wm66 hw) (by decide) (argsL := [(.int bq2), (.int 1)]) (rest := [(.int (((0 : Int32) + (own_sm (own_es 1 bq0) 0)) + (own_sm (own_es 1 bq1) 0)))]) (c_ones_1 l Z a0 hw bq2 T21.heap n0 Z21 ) pd_1 rfl (by rw [hml]; rfl) (W := 1) rfl (by decide) (by decide) (by decide) (by decide) (hb hby at_222) rfl rfl fun T22 L22 X22 M22 e22 => ?_
    have N22 := Fr.app N21 M22
    refine Run.x_iadd (q := 226) X22 hx (hb hby at_225) rfl rfl ?_
    refine Run.x_istore (q := 228) X22 hx #[.val (.int p1), .val (.int p2), .val (.int p3), .val (.int p4), .val (.int p5), .val (.int 0), .val (.int 1), .val (.ref b1), .val (.int 3), .val (.int bq0), .val (.int bq1), .val (.int bq2), .val (.ref np3), .val (.ref np4), .val (.ref np5), .val (.int ((((0 : Int32) + (bq0 &&& (3 : Int32))) + (bq1 &&& (3 : Int32))) + (bq2 &&& (3 : Int32)))), .val (.int ((((0 : Int32) + (own_sm (own_es 1 bq0) 0)) + (own_sm (own_es 1 bq1) 0)) + (own_sm (own_es 1 bq2) 0))), .unset] (hb hby at_226) rfl rfl ?_
    refine Run.x_iload (q := 230) X22 hx (hb hby at_228) rfl rfl ?_
    refine Run.x_iload (q := 232) X22 hx (hb hby at_230) rfl rfl ?_
    refine Run.x_isub (q := 233) X22 hx (hb hby at_232) rfl rfl ?_
    refine Run.x_iconst (q := 234) X22 hx (hb hby at_233) (z := (1 : Int32)) rfl rfl ?_
    by_cases hc234 : (((((0 : Int32) + (bq0 &&& (3 : Int32))) + (bq1 &&& (3 : Int32))) + (bq2 &&& (3 : Int32))) - ((((0 : Int32) + (own_sm (own_es 1 bq0) 0)) + (own_sm (own_es 1 bq1) 0)) + (own_sm (own_es 1 bq2) 0))) = (1 : Int32)
    ·skip
     refine Run.x_icmpNo (q := 237) X22 hx (hb hby at_234) (teq hc234).2 rfl ?_
     refine Run.x_iload (q := 239) X22 hx (hb hby at_237) rfl rfl ?_
     refine Run.x_iconst (q := 240) X22 hx (hb hby at_239) (z := (1 : Int32)) rfl rfl ?_
     refine Run.x_icmpYes (q := 249) X22 hx (hb hby at_240) (teq (by decide : (1 : Int32) = (1 : Int32))).1 (by decide) (by decide) ?_
     refine Run.x_iconst (q := 250) X22 hx (hb hby at_249) (z := (1 : Int32)) rfl rfl ?_
     refine Run.x_goto (q := 254) X22 hx (hb hby at_250) (by decide) (by decide) ?_
     refine Run.x_istore (q := 256) X22 hx #[.val (.int p1), .val (.int p2), .val (.int p3), .val (.int p4), .val (.int p5), .val (.int 0), .val (.int 1), .val (.ref b1), .val (.int 3), .val (.int bq0), .val (.int bq1), .val (.int bq2), .val (.ref np3), .val (.ref np4), .val (.ref np5), .val (.int ((((0 : Int32) + (bq0 &&& (3 : Int32))) + (bq1 &&& (3 : Int32))) + (bq2 &&& (3 : Int32)))), .val (.int ((((0 : Int32) + (own_sm (own_es 1 bq0) 0)) + (own_sm (own_es 1 bq1) 0)) + (own_sm (own_es 1 bq2) 0))), .val (.int 1)] (hb hby at_254) rfl rfl ?_
     refine Run.x_aload (q := 258) X22 hx (hb hby at_256) rfl rfl rfl ?_
     have fin := own_fin1 ac3 (by decide) (own_sm0 (own_sm0 (own_sm0 rfl)))
     replace Ag2 := Ag2.keep K21 (ninS (Ne.symm ne_b1_gr) (ninS ne_gr_r0 nin0))
     refine Run.callVI (q := 261) X22 hx hZ e22 (y := (⟨"semblance/JpegScans", "complete", "()Z"⟩ : MethodName)) (z := (⟨"semblance/JpegScans", "complete", "()Z"⟩ : MethodName)) hown (wm26 hw) (wm27 hw) (notFace_of_selects (args := #[]) (mvT hZ (wm29 hw))) (wm29 hw) (wm28 hw) (wm2 hw) (wm30 hw) (by decide) (a := b1) E21 (argsL := []) (rest := []) (c_cmp_1 l Z a0 hw b1 T21.heap n0 Z21 gr r0 s3 (1 : Int32) (fun _ => u3) E21 F221 F421 Ag2 Ar0_21 (fun _ => rfl) (fun h => absurd (fin.mpr hc234) h)) pd_7 rfl (by rw [hml]; rfl) (W := 0) rfl (by decide) (by decide) (by decide) (by decide) (hb hby at_258) rfl rfl fun T23 L23 X23 M23 e23 => ?_
     have N23 := Fr.app N22 M23
     refine Run.x_iload (q := 263) X23 hx (hb hby at_261) rfl rfl ?_
     refine Run.x_icmpNo (q := 266) X23 hx (hb hby at_263) (teq (by decide : (1 : Int32) = (1 : Int32))).2 rfl ?_
     refine Run.x_iconst (q := 267) X23 hx (hb hby at_266) (z := (1 : Int32)) rfl rfl ?_
     refine Run.x_goto (q := 271) X23 hx (hb hby at_267) (by decide) (by decide) ?_
     refine Run.retN X23 hx hlk e23 (t := .boolean) hret (by simp) (z' := (1 : Int32)) (by decide) (hb hby at_271) (by decide) (by decide) ?_
     exact ⟨rfl, N23⟩
    ·skip
     refine Run.x_icmpYes (q := 253) X22 hx (hb hby at_234) (feq hc234).2 (by decide) (by decide) ?_
     refine Run.x_iconst (q := 254) X22 hx (hb hby at_253) (z := (0 : Int32)) rfl rfl ?_
     refine Run.x_istore (q := 256) X22 hx #[.val (.int p1), .val (.int p2), .val (.int p3), .val (.int p4), .val (.int p5), .val (.int 0), .val (.int 1), .val (.ref b1), .val (.int 3), .val (.int bq0), .val (.int bq1), .val (.int bq2), .val (.ref np3), .val (.ref np4), .val (.ref np5), .val (.int ((((0 : Int32) + (bq0 &&& (3 : Int32))) + (bq1 &&& (3 : Int32))) + (bq2 &&& (3 : Int32)))), .val (.int ((((0 : Int32) + (own_sm (own_es 1 bq0) 0)) + (own_sm (own_es 1 bq1) 0)) + (own_sm (own_es 1 bq2) 0))), .val (.int 0)] (hb hby at_254) rfl rfl ?_
     refine Run.x_aload (q := 258) X22 hx (hb hby at_256) rfl rfl rfl ?_
     have fin := own_fin1 ac3 (by decide) (own_sm0 (own_sm0 (own_sm0 rfl)))
     replace Ag2 := Ag2.keep K21 (ninS (Ne.symm ne_b1_gr) (ninS ne_gr_r0 nin0))
     refine Run.callVI (q := 261) X22 hx hZ e22 (y := (⟨"semblance/JpegScans", "complete", "()Z"⟩ : MethodName)) (z := (⟨"semblance/JpegScans", "complete", "()Z"⟩ : MethodName)) hown (wm26 hw) (wm27 hw) (notFace_of_selects (args := #[]) (mvT hZ (wm29 hw))) (wm29 hw) (wm28 hw) (wm2 hw) (wm30 hw) (by decide) (a := b1) E21 (argsL := []) (rest := []) (c_cmp_1 l Z a0 hw b1 T21.heap n0 Z21 gr r0 s3 (0 : Int32) (fun _ => u3) E21 F221 F421 Ag2 Ar0_21 (fun h => absurd (fin.mp h) (hc234)) (fun _ => rfl)) pd_7 rfl (by rw [hml]; rfl) (W := 0) rfl (by decide) (by decide) (by decide) (by decide) (hb hby at_258) rfl rfl fun T24 L24 X24 M24 e24 => ?_
     have N24 := Fr.app N22 M24
     refine Run.x_iload (q := 263) X24 hx (hb hby at_261) rfl rfl ?_
     refine Run.x_icmpNo (q := 266) X24 hx (hb hby at_263) (teq (by decide : (0 : Int32) = (0 : Int32))).2 rfl ?_
     refine Run.x_iconst (q := 267) X24 hx (hb hby at_266) (z := (1 : Int32)) rfl rfl ?_
     refine Run.x_goto (q := 271) X24 hx (hb hby at_267) (by decide) (by decide) ?_
     refine Run.retN X24 hx hlk e24 (t := .boolean) hret (by simp) (z' := (1 : Int32)) (by decide) (hb hby at_271) (by decide) (by decide) ?_
     exact ⟨rfl, N24⟩
  ·skip
   show Run p e below s _ _ _ (T0.setTop (mkF m 22 #[.val (.int p1), .val (.int p2), .val (.int p3), .val (.int p4), .val (.int p5), .val (.int 0), .val (.int 2), .unset, .unset, .unset, .unset, .unset, .unset, .unset, .unset, .unset, .unset, .unset] []))
   obtain ⟨T25, h25, X25, e25, E25, A25, D25, -, st25⟩ := newO X0 hx hZ hown (wm0 hw) (wm1 hw) (wm2 hw) e0 (g := (mkF m 22 #[.val (.int p1), .val (.int p2), .val (.int p3), .val (.int p4), .val (.int p5), .val (.int 0), .val (.int 2), .unset, .unset, .unset, .unset, .unset, .unset, .unset, .unset, .unset, .unset, .unset] [])) rfl (hb hby at_22) (by decide) (by decide)
   obtain ⟨b25, gg25⟩ : ∃ z, z = h0.size := ⟨_, rfl⟩
   rw [← gg25] at A25 D25 st25
   have g_b25 : n0 ≤ b25 := Nat.le_trans Z0 (Nat.le_of_eq gg25.symm)
   have Z25 : n0 ≤ h25.size := Nat.le_trans Z0 E25.1
   have E_b25 := A25
   have F_b25_progressive : Fld Z h25 b25 "semblance/JpegScans" "progressive" "Z" (.int 0) := D25 (Or.inr (wm10 hw)) (ty := .boolean) (by decide)
   have F_b25_components : Fld Z h25 b25 "semblance/JpegScans" "components" "I" (.int 0) := D25 (Or.inr (wm12 hw)) (ty := .int) (by decide)
   have F_b25_sentTo : Fld Z h25 b25 "semblance/JpegScans" "sentTo" "[[I" .null := D25 (Or.inr (wm17 hw)) (ty := (.array (.array .int))) (by decide)
   have F_b25_sentAgain : Fld Z h25 b25 "semblance/JpegScans" "sentAgain" "Z" (.int 0) := D25 (Or.inl (wm32 hw)) (ty := .boolean) (by decide)
   have F_b25_count : Fld Z h25 b25 "semblance/JpegScans" "count" "I" (.int 0) := D25 (Or.inl (wm40 hw)) (ty := .int) (by decide)
   refine Run.st st25 ?_
   show Run p e below s _ _ _ (T25.setTop (mkF m 25 #[.val (.int p1), .val (.int p2), .val (.int p3), .val (.int p4), .val (.int p5), .val (.int 0), .val (.int 2), .unset, .unset, .unset, .unset, .unset, .unset, .unset, .unset, .unset, .unset, .unset] [(.ref b25)]))
   refine Run.x_dup (q := 26) X25 hx (hb hby at_25) rfl rfl ?_
   refine Run.x_iload (q := 28) X25 hx (hb hby at_26) rfl rfl ?_
   refine Run.x_iload (q := 30) X25 hx (hb hby at_28) rfl rfl ?_
   refine Run.callC X25 hx hZ e25 (y := (⟨"semblance/JpegScans", "<init>", "(ZI)V"⟩ : MethodName)) hown rfl (wm3 hw) (wm4 hw) (wm2 hw) (wm5 hw) (by decide) (a := b25) (argsL := [(.int 0), (.int 2)]) (rest := [(.ref b25)]) (c_init_2_0 l Z a0 hw b25 h25 n0 Z25 E_b25 F_b25_progressive F_b25_components F_b25_sentTo F_b25_count F_b25_sentAgain g_b25) pd_5 rfl (by rw [hml]; rfl) (W := 1) rfl (by decide) (by decide) (by decide) (by decide) (hb hby at_30) rfl ?_
   intro T26 v26 L26 X26 q26
   obtain ⟨gr, r0, r1, rfl, M26, K26, sg, lt0, lt1, E26, F026, F126, F226, F326, F426, Ag26, Ar0_26, Ar1_26⟩ := q26
   have N26 := Fr.app N0 M26
   show Run p e below s _ _ _ (T26.setTop (mkF m 33 #[.val (.int p1), .val (.int p2), .val (.int p3), .val (.int p4), .val (.int p5), .val (.int 0), .val (.int 2), .unset, .unset, .unset, .unset, .unset, .unset, .unset, .unset, .unset, .unset, .unset] [(.ref b25)]))
   have S_r0 := Nat.le_trans sg (Nat.le_of_lt lt0)
   have S_r1 := Nat.le_trans S_r0 (Nat.le_of_lt lt1)
   have S_gr := sg
   have ne_b25_gr : b25 ≠ gr := Nat.ne_of_lt (Nat.lt_of_lt_of_le E_b25.lt S_gr)
   have g_gr : n0 ≤ gr := Nat.le_trans Z25 S_gr
   have ne_b25_r0 : b25 ≠ r0 := Nat.ne_of_lt (Nat.lt_of_lt_of_le E_b25.lt S_r0)
   have g_r0 : n0 ≤ r0 := Nat.le_trans Z25 S_r0
   have ne_b25_r1 : b25 ≠ r1 := Nat.ne_of_lt (Nat.lt_of_lt_of_le E_b25.lt S_r1)
   have g_r1 : n0 ≤ r1 := Nat.le_trans Z25 S_r1
   have ne_gr_r0 : gr ≠ r0 := Nat.ne_of_lt lt0
   have ne_r0_r1 : r0 ≠ r1 := Nat.ne_of_lt lt1
   have ne_gr_r1 : gr ≠ r1 := Nat.ne_of_lt (Nat.lt_trans lt0 lt1)
   have Z26 : n0 ≤ T26.heap.size := Nat.le_trans Z25 K26.1
   refine Run.x_astore (q := 35) X26 hx #[.val (.int p1), .val (.int p2), .val (.int p3), .val (.int p4), .val (.int p5), .val (.int 0), .val (.int 2), .val (.ref b25), .unset, .unset, .unset, .unset, .unset, .unset, .unset, .unset, .unset, .unset] (hb hby at_33) rfl rfl rfl ?_
   refine Run.x_iload (q := 37) X26 hx (hb hby at_35) rfl rfl ?_
   refine Run.x_ifNo (q := 40) X26 hx (hb hby at_37) ((if0 _ _).trans (teq (by decide : (0 : Int32) = (0 : Int32))).2) rfl ?_
   refine Run.x_iload (q := 42) X26 hx (hb hby at_40) rfl rfl ?_
   refine Run.x_bipush (q := 44) X26 hx (hb hby at_42) (z := (24 : Int32)) rfl rfl ?_
   refine Run.x_iushr (q := 45) X26 hx (hb hby at_44) rfl rfl ?_
   refine Run.x_iconst (q := 46) X26 hx (hb hby at_45) (z := (3 : Int32)) rfl rfl ?_
   refine Run.x_iand (q := 47) X26 hx (hb hby at_46) rfl rfl ?_
   refine Run.x_istore (q := 49) X26 hx #[.val (.int p1), .val (.int p2), .val (.int p3), .val (.int p4), .val (.int p5), .val (.int 0), .val (.int 2), .val (.ref b25), .val (.int (((p5.toUInt32 >>> ((24 : Int32) &&& 31).toUInt32).toInt32) &&& (3 : Int32))), .unset, .unset, .unset, .unset, .unset, .unset, .unset, .unset, .unset] (hb hby at_47) rfl rfl ?_
   generalize hkk : (((p5.toUInt32 >>> ((24 : Int32) &&& 31).toUInt32).toInt32) &&& (3 : Int32)) = kk
   refine Run.x_iload (q := 51) X26 hx (hb hby at_49) rfl rfl ?_
   refine Run.x_sipush (q := 54) X26 hx (hb hby at_51) (z := (255 : Int32)) rfl rfl ?_
   refine Run.x_iand (q := 55) X26 hx (hb hby at_54) rfl rfl ?_
   refine Run.x_istore (q := 57) X26 hx #[.val (.int p1), .val (.int p2), .val (.int p3), .val (.int p4), .val (.int p5), .val (.int 0), .val (.int 2), .val (.ref b25), .val (.int kk), .val (.int (p5 &&& (255 : Int32))), .unset, .unset, .unset, .unset, .unset, .unset, .unset, .unset] (hb hby at_55) rfl rfl ?_
   generalize hbq0 : (p5 &&& (255 : Int32)) = bq0
   refine Run.x_iload (q := 59) X26 hx (hb hby at_57) rfl rfl ?_
   refine Run.x_bipush (q := 61) X26 hx (hb hby at_59) (z := (8 : Int32)) rfl rfl ?_
   refine Run.x_iushr (q := 62) X26 hx (hb hby at_61) rfl rfl ?_
   refine Run.x_sipush (q := 65) X26 hx (hb hby at_62) (z := (255 : Int32)) rfl rfl ?_
   refine Run.x_iand (q := 66) X26 hx (hb hby at_65) rfl rfl ?_
   refine Run.x_istore (q := 68) X26 hx #[.val (.int p1), .val (.int p2), .val (.int p3), .val (.int p4), .val (.int p5), .val (.int 0), .val (.int 2), .val (.ref b25), .val (.int kk), .val (.int bq0), .val (.int (((p5.toUInt32 >>> ((8 : Int32) &&& 31).toUInt32).toInt32) &&& (255 : Int32))), .unset, .unset, .unset, .unset, .unset, .unset, .unset] (hb hby at_66) rfl rfl ?_
   generalize hbq1 : (((p5.toUInt32 >>> ((8 : Int32) &&& 31).toUInt32).toInt32) &&& (255 : Int32)) = bq1
   refine Run.x_iload (q := 70) X26 hx (hb hby at_68) rfl rfl ?_
   refine Run.x_bipush (q := 72) X26 hx (hb hby at_70) (z := (16 : Int32)) rfl rfl ?_
   refine Run.x_iushr (q := 73) X26 hx (hb hby at_72) rfl rfl ?_
   refine Run.x_sipush (q := 76) X26 hx (hb hby at_73) (z := (255 : Int32)) rfl rfl ?_
   refine Run.x_iand (q := 77) X26 hx (hb hby at_76) rfl rfl ?_
   refine Run.x_istore (q := 79) X26 hx #[.val (.int p1), .val (.int p2), .val (.int p3), .val (.int p4), .val (.int p5), .val (.int 0), .val (.int 2), .val (.ref b25), .val (.int kk), .val (.int bq0), .val (.int bq1), .val (.int (((p5.toUInt32 >>> ((16 : Int32) &&& 31).toUInt32).toInt32) &&& (255 : Int32))), .unset, .unset, .unset, .unset, .unset, .unset] (hb hby at_77) rfl rfl ?_
   generalize hbq2 : (((p5.toUInt32 >>> ((16 : Int32) &&& 31).toUInt32).toInt32) &&& (255 : Int32)) = bq2
   refine Run.x_iload (q := 81) X26 hx (hb hby at_79) rfl rfl ?_
   refine Run.x_iload (q := 83) X26 hx (hb hby at_81) rfl rfl ?_
   refine Run.callS X26 hx hZ rfl (y := (⟨"semblance/JpegScansCompletePinLaw", "list", "(II)[I"⟩ : MethodName)) hown (wm22 hw) (wm23 hw) (wm24 hw) (wm25 hw) (by decide) (argsL := [(.int bq0), (.int 2)]) (rest := []) (c_list_2 l Z a0 hw bq0 T26.heap n0 Z26 ) pd_6 rfl (by rw [hml]; rfl) (W := 0) rfl (by decide) (by decide) (by decide) (by decide) (hb hby at_83) rfl ?_
   intro T27 v27 L27 X27 q27
   obtain ⟨np27, rfl, M27, K27, sz27, An27⟩ := q27
   have N27 := Fr.app N26 M27
   show Run p e below s _ _ _ (T27.setTop (mkF m 86 #[.val (.int p1), .val (.int p2), .val (.int p3), .val (.int p4), .val (.int p5), .val (.int 0), .val (.int 2), .val (.ref b25), .val (.int kk), .val (.int bq0), .val (.int bq1), .val (.int bq2), .unset, .unset, .unset, .unset, .unset, .unset] [(.ref np27)]))
   have ne_b25_np27 : b25 ≠ np27 := Nat.ne_of_lt (Nat.lt_of_lt_of_le E26.lt sz27)
   have ne_gr_np27 : gr ≠ np27 := Nat.ne_of_lt (Nat.lt_of_lt_of_le Ag26.lt sz27)
   have ne_r0_np27 : r0 ≠ np27 := Nat.ne_of_lt (Nat.lt_of_lt_of_le Ar0_26.lt sz27)
   have ne_r1_np27 : r1 ≠ np27 := Nat.ne_of_lt (Nat.lt_of_lt_of_le Ar1_26.lt sz27)
   have g_np27 : n0 ≤ np27 := Nat.le_trans Z26 sz27
   have Z27 : n0 ≤ T27.heap.size := Nat.le_trans Z26 K27.1
   refine Run.x_astore (q := 88) X27 hx #[.val (.int p1), .val (.int p2), .val (.int p3), .val (.int p4), .val (.int p5), .val (.int 0), .val (.int 2), .val (.ref b25), .val (.int kk), .val (.int bq0), .val (.int bq1), .val (.int bq2), .val (.ref np27), .unset, .unset, .unset, .unset, .unset] (hb hby at_86) rfl rfl rfl ?_
   refine Run.x_iload (q := 90) X27 hx (hb hby at_88) rfl rfl ?_
   refine Run.x_iload (q := 92) X27 hx (hb hby at_90) rfl rfl ?_
   refine Run.callS X27 hx hZ rfl (y := (⟨"semblance/JpegScansCompletePinLaw", "list", "(II)[I"⟩ : MethodName)) hown (wm22 hw) (wm23 hw) (wm24 hw) (wm25 hw) (by decide) (argsL := [(.int bq1), (.int 2)]) (rest := []) (c_list_2 l Z a0 hw bq1 T27.heap n0 Z27 ) pd_6 rfl (by rw [hml]; rfl) (W := 0) rfl (by decide) (by decide) (by decide) (by decide) (hb hby at_92) rfl ?_
   intro T28 v28 L28 X28 q28
   obtain ⟨np28, rfl, M28, K28, sz28, An28⟩ := q28
   have N28 := Fr.app N27 M28
   show Run p e below s _ _ _ (T28.setTop (mkF m 95 #[.val (.int p1), .val (.int p2), .val (.int p3), .val (.int p4), .val (.int p5), .val (.int 0), .val (.int 2), .val (.ref b25), .val (.int kk), .val (.int bq0), .val (.int bq1), .val (.int bq2), .val (.ref np27), .unset, .unset, .unset, .unset, .unset] [(.ref np28)]))
   replace E26 := E26.keep K27
   have ne_b25_np28 : b25 ≠ np28 := Nat.ne_of_lt (Nat.lt_of_lt_of_le E26.lt sz28)
   replace Ag26 := Ag26.keep K27 nin0
   have ne_gr_np28 : gr ≠ np28 := Nat.ne_of_lt (Nat.lt_of_lt_of_le Ag26.lt sz28)
   replace Ar0_26 := Ar0_26.keep K27 nin0
   have ne_r0_np28 : r0 ≠ np28 := Nat.ne_of_lt (Nat.lt_of_lt_of_le Ar0_26.lt sz28)
   replace Ar1_26 := Ar1_26.keep K27 nin0
   have ne_r1_np28 : r1 ≠ np28 := Nat.ne_of_lt (Nat.lt_of_lt_of_le Ar1_26.lt sz28)
   have ne_np27_np28 : np27 ≠ np28 := Nat.ne_of_lt (Nat.lt_of_lt_of_le An27.lt sz28)
   have g_np28 : n0 ≤ np28 := Nat.le_trans Z27 sz28
   have Z28 : n0 ≤ T28.heap.size := Nat.le_trans Z27 K28.1
   refine Run.x_astore (q := 97) X28 hx #[.val (.int p1), .val (.int p2), .val (.int p3), .val (.int p4), .val (.int p5), .val (.int 0), .val (.int 2), .val (.ref b25), .val (.int kk), .val (.int bq0), .val (.int bq1), .val (.int bq2), .val (.ref np27), .val (.ref np28), .unset, .unset, .unset, .unset] (hb hby at_95) rfl rfl rfl ?_
   refine Run.x_iload (q := 99) X28 hx (hb hby at_97) rfl rfl ?_
   refine Run.x_iload (q := 101) X28 hx (hb hby at_99) rfl rfl ?_
   refine Run.callS X28 hx hZ rfl (y := (⟨"semblance/JpegScansCompletePinLaw", "list", "(II)[I"⟩ : MethodName)) hown (wm22 hw) (wm23 hw) (wm24 hw) (wm25 hw) (by decide) (argsL := [(.int bq2), (.int 2)]) (rest := []) (c_list_2 l Z a0 hw bq2 T28.heap n0 Z28 ) pd_6 rfl (by rw [hml]; rfl) (W := 0) rfl (by decide) (by decide) (by decide) (by decide) (hb hby at_101) rfl ?_
   intro T29 v29 L29 X29 q29
   obtain ⟨np29, rfl, M29, K29, sz29, An29⟩ := q29
   have N29 := Fr.app N28 M29
   show Run p e below s _ _ _ (T29.setTop (mkF m 104 #[.val (.int p1), .val (.int p2), .val (.int p3), .val (.int p4), .val (.int p5), .val (.int 0), .val (.int 2), .val (.ref b25), .val (.int kk), .val (.int bq0), .val (.int bq1), .val (.int bq2), .val (.ref np27), .val (.ref np28), .unset, .unset, .unset, .unset] [(.ref np29)]))
   replace E26 := E26.keep K28
   have ne_b25_np29 : b25 ≠ np29 := Nat.ne_of_lt (Nat.lt_of_lt_of_le E26.lt sz29)
   replace Ag26 := Ag26.keep K28 nin0
   have ne_gr_np29 : gr ≠ np29 := Nat.ne_of_lt (Nat.lt_of_lt_of_le Ag26.lt sz29)
   replace Ar0_26 := Ar0_26.keep K28 nin0
   have ne_r0_np29 : r0 ≠ np29 := Nat.ne_of_lt (Nat.lt_of_lt_of_le Ar0_26.lt sz29)
   replace Ar1_26 := Ar1_26.keep K28 nin0
   have ne_r1_np29 : r1 ≠ np29 := Nat.ne_of_lt (Nat.lt_of_lt_of_le Ar1_26.lt sz29)
   replace An27 := An27.keep K28 nin0
   have ne_np27_np29 : np27 ≠ np29 := Nat.ne_of_lt (Nat.lt_of_lt_of_le An27.lt sz29)
   have ne_np28_np29 : np28 ≠ np29 := Nat.ne_of_lt (Nat.lt_of_lt_of_le An28.lt sz29)
   have g_np29 : n0 ≤ np29 := Nat.le_trans Z28 sz29
   have Z29 : n0 ≤ T29.heap.size := Nat.le_trans Z28 K29.1
   refine Run.x_astore (q := 106) X29 hx #[.val (.int p1), .val (.int p2), .val (.int p3), .val (.int p4), .val (.int p5), .val (.int 0), .val (.int 2), .val (.ref b25), .val (.int kk), .val (.int bq0), .val (.int bq1), .val (.int bq2), .val (.ref np27), .val (.ref np28), .val (.ref np29), .unset, .unset, .unset] (hb hby at_104) rfl rfl rfl ?_
   refine Run.x_iconst (q := 107) X29 hx (hb hby at_106) (z := (0 : Int32)) rfl rfl ?_
   refine Run.x_istore (q := 109) X29 hx #[.val (.int p1), .val (.int p2), .val (.int p3), .val (.int p4), .val (.int p5), .val (.int 0), .val (.int 2), .val (.ref b25), .val (.int kk), .val (.int bq0), .val (.int bq1), .val (.int bq2), .val (.ref np27), .val (.ref np28), .val (.ref np29), .val (.int 0), .unset, .unset] (hb hby at_107) rfl rfl ?_
   refine Run.x_iconst (q := 110) X29 hx (hb hby at_109) (z := (0 : Int32)) rfl rfl ?_
   refine Run.x_istore (q := 112) X29 hx #[.val (.int p1), .val (.int p2), .val (.int p3), .val (.int p4), .val (.int p5), .val (.int 0), .val (.int 2), .val (.ref b25), .val (.int kk), .val (.int bq0), .val (.int bq1), .val (.int bq2), .val (.ref np27), .val (.ref np28), .val (.ref np29), .val (.int 0), .val (.int 0), .unset] (hb hby at_110) rfl rfl ?_
   have ac0 := own_acc0
   rcases own_3 hkk with rfl | rfl | rfl | rfl
   ·skip
    show Run p e below s _ _ _ (T29.setTop (mkF m 112 #[.val (.int p1), .val (.int p2), .val (.int p3), .val (.int p4), .val (.int p5), .val (.int 0), .val (.int 2), .val (.ref b25), .val (.int 0), .val (.int bq0), .val (.int bq1), .val (.int bq2), .val (.ref np27), .val (.ref np28), .val (.ref np29), .val (.int 0), .val (.int 0), .unset] []))
    refine Run.x_iload (q := 114) X29 hx (hb hby at_112) rfl rfl ?_
    refine Run.x_ifYes (q := 150) X29 hx (hb hby at_114) ((if0 _ _).trans (flt (by decide : ¬ ((0 : Int32) < (0 : Int32)))).2.2.2) (by decide) (by decide) ?_
    refine Run.x_iload (q := 152) X29 hx (hb hby at_150) rfl rfl ?_
    refine Run.x_iconst (q := 153) X29 hx (hb hby at_152) (z := (1 : Int32)) rfl rfl ?_
    refine Run.x_icmpYes (q := 189) X29 hx (hb hby at_153) (flt (by decide : ¬ ((1 : Int32) < (0 : Int32)))).2.2.2 (by decide) (by decide) ?_
    refine Run.x_iload (q := 191) X29 hx (hb hby at_189) rfl rfl ?_
    refine Run.x_iconst (q := 192) X29 hx (hb hby at_191) (z := (2 : Int32)) rfl rfl ?_
    refine Run.x_icmpYes (q := 228) X29 hx (hb hby at_192) (flt (by decide : ¬ ((2 : Int32) < (0 : Int32)))).2.2.2 (by decide) (by decide) ?_
    refine Run.x_iload (q := 230) X29 hx (hb hby at_228) rfl rfl ?_
    refine Run.x_iload (q := 232) X29 hx (hb hby at_230) rfl rfl ?_
    refine Run.x_isub (q := 233) X29 hx (hb hby at_232) (z := (0 : Int32)) (by decide) rfl ?_
    refine Run.x_iconst (q := 234) X29 hx (hb hby at_233) (z := (1 : Int32)) rfl rfl ?_
    refine Run.x_icmpYes (q := 253) X29 hx (hb hby at_234) (feq (by decide : ¬ ((0 : Int32) = (1 : Int32)))).2 (by decide) (by decide) ?_
    refine Run.x_iconst (q := 254) X29 hx (hb hby at_253) (z := (0 : Int32)) rfl rfl ?_
    refine Run.x_istore (q := 256) X29 hx #[.val (.int p1), .val (.int p2), .val (.int p3), .val (.int p4), .val (.int p5), .val (.int 0), .val (.int 2), .val (.ref b25), .val (.int 0), .val (.int bq0), .val (.int bq1), .val (.int bq2), .val (.ref np27), .val (.ref np28), .val (.ref np29), .val (.int 0), .val (.int 0), .val (.int 0)] (hb hby at_254) rfl rfl ?_
    refine Run.x_aload (q := 258) X29 hx (hb hby at_256) rfl rfl rfl ?_
    have fin := own_fin2 ac0 (by decide)
    replace E26 := E26.keep K29
    replace F226 := ((F226.keep K27 nin0).keep K28 nin0).keep K29 nin0
    replace F426 := ((F426.keep K27 nin0).keep K28 nin0).keep K29 nin0
    replace Ag26 := Ag26.keep K29 nin0
    replace Ar0_26 := Ar0_26.keep K29 nin0
    replace Ar1_26 := Ar1_26.keep K29 nin0
    refine Run.callVI (q := 261) X29 hx hZ rfl (y := (⟨"semblance/JpegScans", "complete", "()Z"⟩ : MethodName)) (z := (⟨"semblance/JpegScans", "complete", "()Z"⟩ : MethodName)) hown (wm26 hw) (wm27 hw) (notFace_of_selects (args := #[]) (mvT hZ (wm29 hw))) (wm29 hw) (wm28 hw) (wm2 hw) (wm30 hw) (by decide) (a := b25) E26 (argsL := []) (rest := []) (c_cmp_2 l Z a0 hw b25 T29.heap n0 Z29 gr r0 r1 (0 : Int32) (0 : Int32) (fun _ => (-1 : Int32)) (fun _ => (-1 : Int32)) E26 F226 F426 Ag26 Ar0_26 Ar1_26 (fun h => absurd (fin.mp h) (by decide)) (fun _ => rfl)) pd_7 rfl (by rw [hml]; rfl) (W := 0) rfl (by decide) (by decide) (by decide) (by decide) (hb hby at_258) rfl rfl fun T30 L30 X30 M30 e30 => ?_
    have N30 := Fr.app N29 M30
    refine Run.x_iload (q := 263) X30 hx (hb hby at_261) rfl rfl ?_
    refine Run.x_icmpNo (q := 266) X30 hx (hb hby at_263) (teq (by decide : (0 : Int32) = (0 : Int32))).2 rfl ?_
    refine Run.x_iconst (q := 267) X30 hx (hb hby at_266) (z := (1 : Int32)) rfl rfl ?_
    refine Run.x_goto (q := 271) X30 hx (hb hby at_267) (by decide) (by decide) ?_
    refine Run.retN X30 hx hlk e30 (t := .boolean) hret (by simp) (z' := (1 : Int32)) (by decide) (hb hby at_271) (by decide) (by decide) ?_
    exact ⟨rfl, N30⟩
   ·skip
    show Run p e below s _ _ _ (T29.setTop (mkF m 112 #[.val (.int p1), .val (.int p2), .val (.int p3), .val (.int p4), .val (.int p5), .val (.int 0), .val (.int 2), .val (.ref b25), .val (.int 1), .val (.int bq0), .val (.int bq1), .val (.int bq2), .val (.ref np27), .val (.ref np28), .val (.ref np29), .val (.int 0), .val (.int 0), .unset] []))
    refine Run.x_iload (q := 114) X29 hx (hb hby at_112) rfl rfl ?_
    refine Run.x_ifNo (q := 117) X29 hx (hb hby at_114) ((if0 _ _).trans (tlt (by decide : (0 : Int32) < (1 : Int32))).2.2.2) rfl ?_
    refine Run.x_aload (q := 119) X29 hx (hb hby at_117) rfl rfl rfl ?_
    refine Run.x_aload (q := 121) X29 hx (hb hby at_119) rfl rfl rfl ?_
    refine Run.x_iconst (q := 122) X29 hx (hb hby at_121) (z := (0 : Int32)) rfl rfl ?_
    refine Run.x_iconst (q := 123) X29 hx (hb hby at_122) (z := (0 : Int32)) rfl rfl ?_
    refine Run.x_iconst (q := 124) X29 hx (hb hby at_123) (z := (0 : Int32)) rfl rfl ?_
    refine Run.x_iconst (q := 125) X29 hx (hb hby at_124) (z := (0 : Int32)) rfl rfl ?_
    obtain ⟨⟨s1, u1, v1⟩, hF1⟩ : ∃ q, (own_es 2 bq0).foldl own_stp ((0 : Int32), (-1 : Int32), (-1 : Int32)) = q := ⟨_, rfl⟩
    have ac1 := own_acc1 ac0 (by decide) (own_es_m2 bq0) hF1
    replace E26 := E26.keep K29
    replace F026 := ((F026.keep K27 nin0).keep K28 nin0).keep K29 nin0
    replace F126 := ((F126.keep K27 nin0).keep K28 nin0).keep K29 nin0
    replace F226 := ((F226.keep K27 nin0).keep K28 nin0).keep K29 nin0
    replace F326 := ((F326.keep K27 nin0).keep K28 nin0).keep K29 nin0
    replace F426 := ((F426.keep K27 nin0).keep K28 nin0).keep K29 nin0
    replace Ag26 := Ag26.keep K29 nin0
    replace Ar0_26 := Ar0_26.keep K29 nin0
    replace Ar1_26 := Ar1_26.keep K29 nin0
    replace An27 := An27.keep K29 nin0
    refine Run.callV X29 hx hZ rfl (y := (⟨"semblance/JpegScans", "take", "([IIIII)Z"⟩ : MethodName)) (z := (⟨"semblance/JpegScans", "take", "([IIIII)Z"⟩ : MethodName)) hown (wm34 hw) (wm35 hw) (notFace_of_selects (args := #[]) (mvT hZ (wm37 hw))) (wm37 hw) (wm36 hw) (wm2 hw) (wm38 hw) (by decide) (a := b25) E26 (argsL := [(.ref np27), (.int 0), (.int 0), (.int 0), (.int 0)]) (rest := []) (c_ts_2 l Z a0 hw b25 np27 T29.heap n0 Z29 gr r0 r1 (0 : Int32) (0 : Int32) (-1 : Int32) (-1 : Int32) s1 u1 v1 (own_es 2 bq0) E26 F026 F126 F226 F326 F426 Ag26 Ar0_26 Ar1_26 An27 g_b25 g_r0 g_r1 ne_b25_gr ne_b25_r0 ne_b25_r1 ne_b25_np27 ne_gr_r0 ne_gr_r1 ne_gr_np27 ne_r0_r1 ne_r0_np27 ne_r1_np27 (by decide) (Or.inl rfl) (own_es_m2 bq0) (Nat.le_trans (own_es_len _ _).2 (by decide)) hF1) pd_3 rfl (by rw [hml]; rfl) (W := 0) rfl (by decide) (by decide) (by decide) (by decide) (hb hby at_125) rfl ?_
    intro T31 v31 L31 X31 q31
    obtain ⟨bb31, rfl, M31, K31, E31, F031, F131, F231, F331, F431, Ar0_31, Ar1_31⟩ := q31
    have N31 := Fr.app N29 M31
    show Run p e below s _ _ _ (T31.setTop (mkF m 128 #[.val (.int p1), .val (.int p2), .val (.int p3), .val (.int p4), .val (.int p5), .val (.int 0), .val (.int 2), .val (.ref b25), .val (.int 1), .val (.int bq0), .val (.int bq1), .val (.int bq2), .val (.ref np27), .val (.ref np28), .val (.ref np29), .val (.int 0), .val (.int 0), .unset] [(.int bb31)]))
    have Z31 : n0 ≤ T31.heap.size := Nat.le_trans Z29 K31.1
    refine Run.x_pop (q := 129) X31 hx (hb hby at_128) rfl rfl ?_
    refine Run.x_iload (q := 131) X31 hx (hb hby at_129) rfl rfl ?_
    refine Run.x_iload (q := 133) X31 hx (hb hby at_131) rfl rfl ?_
    refine Run.x_iconst (q := 134) X31 hx (hb hby at_133) (z := (3 : Int32)) rfl rfl ?_
    refine Run.x_iand (q := 135) X31 hx (hb hby at_134) rfl rfl ?_
    refine Run.x_iadd (q := 136) X31 hx (hb hby at_135) rfl rfl ?_
    refine Run.x_istore (q := 138) X31 hx #[.val (.int p1), .val (.int p2), .val (.int p3), .val (.int p4), .val (.int p5), .val (.int 0), .val (.int 2), .val (.ref b25), .val (.int 1), .val (.int bq0), .val (.int bq1), .val (.int bq2), .val (.ref np27), .val (.ref np28), .val (.ref np29), .val (.int ((0 : Int32) + (bq0 &&& (3 : Int32)))), .val (.int 0), .unset] (hb hby at_136) rfl rfl ?_
    refine Run.x_iload (q := 140) X31 hx (hb hby at_138) rfl rfl ?_
    refine Run.x_iload (q := 142) X31 hx (hb hby at_140) rfl rfl ?_
    refine Run.x_iload (q := 144) X31 hx (hb hby at_142) rfl rfl ?_
    refine Run.callSI (q := 147) X31 hx hZ rfl (y := (⟨"semblance/JpegScansCompletePinLaw", "ones", "(II)I"⟩ : MethodName)) hown (wm64 hw) (wm65 hw) (wm24 hw) (wm66 hw) (by decide) (argsL := [(.int bq0), (.int 2)]) (rest := [(.int 0)]) (c_ones_2 l Z a0 hw bq0 T31.heap n0 Z31 ) pd_1 rfl (by rw [hml]; rfl) (W := 1) rfl (by decide) (by decide) (by decide) (by decide) (hb hby at_144) rfl rfl fun T32 L32 X32 M32 e32 => ?_
    have N32 := Fr.app N31 M32
    refine Run.x_iadd (q := 148) X32 hx (hb hby at_147) rfl rfl ?_
    refine Run.x_istore (q := 150) X32 hx #[.val (.int p1), .val (.int p2), .val (.int p3), .val (.int p4), .val (.int p5), .val (.int 0), .val (.int 2), .val (.ref b25), .val (.int 1), .val (.int bq0), .val (.int bq1), .val (.int bq2), .val (.ref np27), .val (.ref np28), .val (.ref np29), .val (.int ((0 : Int32) + (bq0 &&& (3 : Int32)))), .val (.int ((0 : Int32) + (own_sm (own_es 2 bq0) 0))), .unset] (hb hby at_148) rfl rfl ?_
    refine Run.x_iload (q := 152) X32 hx (hb hby at_150) rfl rfl ?_
    refine Run.x_iconst (q := 153) X32 hx (hb hby at_152) (z := (1 : Int32)) rfl rfl ?_
    refine Run.x_icmpYes (q := 189) X32 hx (hb hby at_153) (flt (by decide : ¬ ((1 : Int32) < (1 : Int32)))).2.2.2 (by decide) (by decide) ?_
    refine Run.x_iload (q := 191) X32 hx (hb hby at_189) rfl rfl ?_
    refine Run.x_iconst (q := 192) X32 hx (hb hby at_191) (z := (2 : Int32)) rfl rfl ?_
    refine Run.x_icmpYes (q := 228) X32 hx (hb hby at_192) (flt (by decide : ¬ ((2 : Int32) < (1 : Int32)))).2.2.2 (by decide) (by decide) ?_
    refine Run.x_iload (q := 230) X32 hx (hb hby at_228) rfl rfl ?_
    refine Run.x_iload (q := 232) X32 hx (hb hby at_230) rfl rfl ?_
    refine Run.x_isub (q := 233) X32 hx (hb hby at_232) rfl rfl ?_
    refine Run.x_iconst (q := 234) X32 hx (hb hby at_233) (z := (1 : Int32)) rfl rfl ?_
    by_cases hc234 : (((0 : Int32) + (bq0 &&& (3 : Int32))) - ((0 : Int32) + (own_sm (own_es 2 bq0) 0))) = (1 : Int32)
    ·skip
     refine Run.x_icmpNo (q := 237) X32 hx (hb hby at_234) (teq hc234).2 rfl ?_
     refine Run.x_iload (q := 239) X32 hx (hb hby at_237) rfl rfl ?_
     refine Run.x_iconst (q := 240) X32 hx (hb hby at_239) (z := (1 : Int32)) rfl rfl ?_
     refine Run.x_icmpNo (q := 243) X32 hx (hb hby at_240) (feq (by decide : ¬ ((2 : Int32) = (1 : Int32)))).1 rfl ?_
     refine Run.x_iload (q := 245) X32 hx (hb hby at_243) rfl rfl ?_
     refine Run.x_iconst (q := 246) X32 hx (hb hby at_245) (z := (1 : Int32)) rfl rfl ?_
     by_cases hc246 : ((0 : Int32) + (own_sm (own_es 2 bq0) 0)) = (1 : Int32)
     ·skip
      refine Run.x_icmpNo (q := 249) X32 hx (hb hby at_246) (teq hc246).2 rfl ?_
      refine Run.x_iconst (q := 250) X32 hx (hb hby at_249) (z := (1 : Int32)) rfl rfl ?_
      refine Run.x_goto (q := 254) X32 hx (hb hby at_250) (by decide) (by decide) ?_
      refine Run.x_istore (q := 256) X32 hx #[.val (.int p1), .val (.int p2), .val (.int p3), .val (.int p4), .val (.int p5), .val (.int 0), .val (.int 2), .val (.ref b25), .val (.int 1), .val (.int bq0), .val (.int bq1), .val (.int bq2), .val (.ref np27), .val (.ref np28), .val (.ref np29), .val (.int ((0 : Int32) + (bq0 &&& (3 : Int32)))), .val (.int ((0 : Int32) + (own_sm (own_es 2 bq0) 0))), .val (.int 1)] (hb hby at_254) rfl rfl ?_
      refine Run.x_aload (q := 258) X32 hx (hb hby at_256) rfl rfl rfl ?_
      have fin := own_fin2 ac1 (by decide)
      replace Ag26 := Ag26.keep K31 (ninS (Ne.symm ne_b25_gr) (ninS ne_gr_r0 (ninS ne_gr_r1 nin0)))
      refine Run.callVI (q := 261) X32 hx hZ e32 (y := (⟨"semblance/JpegScans", "complete", "()Z"⟩ : MethodName)) (z := (⟨"semblance/JpegScans", "complete", "()Z"⟩ : MethodName)) hown (wm26 hw) (wm27 hw) (notFace_of_selects (args := #[]) (mvT hZ (wm29 hw))) (wm29 hw) (wm28 hw) (wm2 hw) (wm30 hw) (by decide) (a := b25) E31 (argsL := []) (rest := []) (c_cmp_2 l Z a0 hw b25 T31.heap n0 Z31 gr r0 r1 s1 (1 : Int32) (fun _ => u1) (fun _ => v1) E31 F231 F431 Ag26 Ar0_31 Ar1_31 (fun _ => rfl) (fun h => absurd (fin.mpr ⟨hc234, hc246⟩) h)) pd_7 rfl (by rw [hml]; rfl) (W := 0) rfl (by decide) (by decide) (by decide) (by decide) (hb hby at_258) rfl rfl fun T33 L33 X33 M33 e33 => ?_
      have N33 := Fr.app N32 M33
      refine Run.x_iload (q := 263) X33 hx (hb hby at_261) rfl rfl ?_
      refine Run.x_icmpNo (q := 266) X33 hx (hb hby at_263) (teq (by decide : (1 : Int32) = (1 : Int32))).2 rfl ?_
      refine Run.x_iconst (q := 267) X33 hx (hb hby at_266) (z := (1 : Int32)) rfl rfl ?_
      refine Run.x_goto (q := 271) X33 hx (hb hby at_267) (by decide) (by decide) ?_
      refine Run.retN X33 hx hlk e33 (t := .boolean) hret (by simp) (z' := (1 : Int32)) (by decide) (hb hby at_271) (by decide) (by decide) ?_
      exact ⟨rfl, N33⟩
     ·skip
      refine Run.x_icmpYes (q := 253) X32 hx (hb hby at_246) (feq hc246).2 (by decide) (by decide) ?_
      refine Run.x_iconst (q := 254) X32 hx (hb hby at_253) (z := (0 : Int32)) rfl rfl ?_
      refine Run.x_istore (q := 256) X32 hx #[.val (.int p1), .val (.int p2), .val (.int p3), .val (.int p4), .val (.int p5), .val (.int 0), .val (.int 2), .val (.ref b25), .val (.int 1), .val (.int bq0), .val (.int bq1), .val (.int bq2), .val (.ref np27), .val (.ref np28), .val (.ref np29), .val (.int ((0 : Int32) + (bq0 &&& (3 : Int32)))), .val (.int ((0 : Int32) + (own_sm (own_es 2 bq0) 0))), .val (.int 0)] (hb hby at_254) rfl rfl ?_
      refine Run.x_aload (q := 258) X32 hx (hb hby at_256) rfl rfl rfl ?_
      have fin := own_fin2 ac1 (by decide)
      replace Ag26 := Ag26.keep K31 (ninS (Ne.symm ne_b25_gr) (ninS ne_gr_r0 (ninS ne_gr_r1 nin0)))
      refine Run.callVI (q := 261) X32 hx hZ e32 (y := (⟨"semblance/JpegScans", "complete", "()Z"⟩ : MethodName)) (z := (⟨"semblance/JpegScans", "complete", "()Z"⟩ : MethodName)) hown (wm26 hw) (wm27 hw) (notFace_of_selects (args := #[]) (mvT hZ (wm29 hw))) (wm29 hw) (wm28 hw) (wm2 hw) (wm30 hw) (by decide) (a := b25) E31 (argsL := []) (rest := []) (c_cmp_2 l Z a0 hw b25 T31.heap n0 Z31 gr r0 r1 s1 (0 : Int32) (fun _ => u1) (fun _ => v1) E31 F231 F431 Ag26 Ar0_31 Ar1_31 (fun h => absurd (fin.mp h) (fun q => hc246 q.2)) (fun _ => rfl)) pd_7 rfl (by rw [hml]; rfl) (W := 0) rfl (by decide) (by decide) (by decide) (by decide) (hb hby at_258) rfl rfl fun T34 L34 X34 M34 e34 => ?_
      have N34 := Fr.app N32 M34
      refine Run.x_iload (q := 263) X34 hx (hb hby at_261) rfl rfl ?_
      refine Run.x_icmpNo (q := 266) X34 hx (hb hby at_263) (teq (by decide : (0 : Int32) = (0 : Int32))).2 rfl ?_
      refine Run.x_iconst (q := 267) X34 hx (hb hby at_266) (z := (1 : Int32)) rfl rfl ?_
      refine Run.x_goto (q := 271) X34 hx (hb hby at_267) (by decide) (by decide) ?_
      refine Run.retN X34 hx hlk e34 (t := .boolean) hret (by simp) (z' := (1 : Int32)) (by decide) (hb hby at_271) (by decide) (by decide) ?_
      exact ⟨rfl, N34⟩
    ·skip
     refine Run.x_icmpYes (q := 253) X32 hx (hb hby at_234) (feq hc234).2 (by decide) (by decide) ?_
     refine Run.x_iconst (q := 254) X32 hx (hb hby at_253) (z := (0 : Int32)) rfl rfl ?_
     refine Run.x_istore (q := 256) X32 hx #[.val (.int p1), .val (.int p2), .val (.int p3), .val (.int p4), .val (.int p5), .val (.int 0), .val (.int 2), .val (.ref b25), .val (.int 1), .val (.int bq0), .val (.int bq1), .val (.int bq2), .val (.ref np27), .val (.ref np28), .val (.ref np29), .val (.int ((0 : Int32) + (bq0 &&& (3 : Int32)))), .val (.int ((0 : Int32) + (own_sm (own_es 2 bq0) 0))), .val (.int 0)] (hb hby at_254) rfl rfl ?_
     refine Run.x_aload (q := 258) X32 hx (hb hby at_256) rfl rfl rfl ?_
     have fin := own_fin2 ac1 (by decide)
     replace Ag26 := Ag26.keep K31 (ninS (Ne.symm ne_b25_gr) (ninS ne_gr_r0 (ninS ne_gr_r1 nin0)))
     refine Run.callVI (q := 261) X32 hx hZ e32 (y := (⟨"semblance/JpegScans", "complete", "()Z"⟩ : MethodName)) (z := (⟨"semblance/JpegScans", "complete", "()Z"⟩ : MethodName)) hown (wm26 hw) (wm27 hw) (notFace_of_selects (args := #[]) (mvT hZ (wm29 hw))) (wm29 hw) (wm28 hw) (wm2 hw) (wm30 hw) (by decide) (a := b25) E31 (argsL := []) (rest := []) (c_cmp_2 l Z a0 hw b25 T31.heap n0 Z31 gr r0 r1 s1 (0 : Int32) (fun _ => u1) (fun _ => v1) E31 F231 F431 Ag26 Ar0_31 Ar1_31 (fun h => absurd (fin.mp h) (fun q => hc234 q.1)) (fun _ => rfl)) pd_7 rfl (by rw [hml]; rfl) (W := 0) rfl (by decide) (by decide) (by decide) (by decide) (hb hby at_258) rfl rfl fun T35 L35 X35 M35 e35 => ?_
     have N35 := Fr.app N32 M35
     refine Run.x_iload (q := 263) X35 hx (hb hby at_261) rfl rfl ?_
     refine Run.x_icmpNo (q := 266) X35 hx (hb hby at_263) (teq (by decide : (0 : Int32) = (0 : Int32))).2 rfl ?_
     refine Run.x_iconst (q := 267) X35 hx (hb hby at_266) (z := (1 : Int32)) rfl rfl ?_
     refine Run.x_goto (q := 271) X35 hx (hb hby at_267) (by decide) (by decide) ?_
     refine Run.retN X35 hx hlk e35 (t := .boolean) hret (by simp) (z' := (1 : Int32)) (by decide) (hb hby at_271) (by decide) (by decide) ?_
     exact ⟨rfl, N35⟩
   ·skip
    show Run p e below s _ _ _ (T29.setTop (mkF m 112 #[.val (.int p1), .val (.int p2), .val (.int p3), .val (.int p4), .val (.int p5), .val (.int 0), .val (.int 2), .val (.ref b25), .val (.int 2), .val (.int bq0), .val (.int bq1), .val (.int bq2), .val (.ref np27), .val (.ref np28), .val (.ref np29), .val (.int 0), .val (.int 0), .unset] []))
    refine Run.x_iload (q := 114) X29 hx (hb hby at_112) rfl rfl ?_
    refine Run.x_ifNo (q := 117) X29 hx (hb hby at_114) ((if0 _ _).trans (tlt (by decide : (0 : Int32) < (2 : Int32))).2.2.2) rfl ?_
    refine Run.x_aload (q := 119) X29 hx (hb hby at_117) rfl rfl rfl ?_
    refine Run.x_aload (q := 121) X29 hx (hb hby at_119) rfl rfl rfl ?_
    refine Run.x_iconst (q := 122) X29 hx (hb hby at_121) (z := (0 : Int32)) rfl rfl ?_
    refine Run.x_iconst (q := 123) X29 hx (hb hby at_122) (z := (0 : Int32)) rfl rfl ?_
    refine Run.x_iconst (q := 124) X29 hx (hb hby at_123) (z := (0 : Int32)) rfl rfl ?_
    refine Run.x_iconst (q := 125) X29 hx (hb hby at_124) (z := (0 : Int32)) rfl rfl ?_
    obtain ⟨⟨s1, u1, v1⟩, hF1⟩ : ∃ q, (own_es 2 bq0).foldl own_stp ((0 : Int32), (-1 : Int32), (-1 : Int32)) = q := ⟨_, rfl⟩
    have ac1 := own_acc1 ac0 (by decide) (own_es_m2 bq0) hF1
    replace E26 := E26.keep K29
    replace F026 := ((F026.keep K27 nin0).keep K28 nin0).keep K29 nin0
    replace F126 := ((F126.keep K27 nin0).keep K28 nin0).keep K29 nin0
    replace F226 := ((F226.keep K27 nin0).keep K28 nin0).keep K29 nin0
    replace F326 := ((F326.keep K27 nin0).keep K28 nin0).keep K29 nin0
    replace F426 := ((F426.keep K27 nin0).keep K28 nin0).keep K29 nin0
    replace Ag26 := Ag26.keep K29 nin0
    replace Ar0_26 := Ar0_26.keep K29 nin0
    replace Ar1_26 := Ar1_26.keep K29 nin0
    replace An27 := An27.keep K29 nin0
    refine Run.callV X29 hx hZ rfl (y := (⟨"semblance/JpegScans", "take", "([IIIII)Z"⟩ : MethodName)) (z := (⟨"semblance/JpegScans", "take", "([IIIII)Z"⟩ : MethodName)) hown (wm34 hw) (wm35 hw) (notFace_of_selects (args := #[]) (mvT hZ (wm37 hw))) (wm37 hw) (wm36 hw) (wm2 hw) (wm38 hw) (by decide) (a := b25) E26 (argsL := [(.ref np27), (.int 0), (.int 0), (.int 0), (.int 0)]) (rest := []) (c_ts_2 l Z a0 hw b25 np27 T29.heap n0 Z29 gr r0 r1 (0 : Int32) (0 : Int32) (-1 : Int32) (-1 : Int32) s1 u1 v1 (own_es 2 bq0) E26 F026 F126 F226 F326 F426 Ag26 Ar0_26 Ar1_26 An27 g_b25 g_r0 g_r1 ne_b25_gr ne_b25_r0 ne_b25_r1 ne_b25_np27 ne_gr_r0 ne_gr_r1 ne_gr_np27 ne_r0_r1 ne_r0_np27 ne_r1_np27 (by decide) (Or.inl rfl) (own_es_m2 bq0) (Nat.le_trans (own_es_len _ _).2 (by decide)) hF1) pd_3 rfl (by rw [hml]; rfl) (W := 0) rfl (by decide) (by decide) (by decide) (by decide) (hb hby at_125) rfl ?_
    intro T36 v36 L36 X36 q36
    obtain ⟨bb36, rfl, M36, K36, E36, F036, F136, F236, F336, F436, Ar0_36, Ar1_36⟩ := q36
    have N36 := Fr.app N29 M36
    show Run p e below s _ _ _ (T36.setTop (mkF m 128 #[.val (.int p1), .val (.int p2), .val (.int p3), .val (.int p4), .val (.int p5), .val (.int 0), .val (.int 2), .val (.ref b25), .val (.int 2), .val (.int bq0), .val (.int bq1), .val (.int bq2), .val (.ref np27), .val (.ref np28), .val (.ref np29), .val (.int 0), .val (.int 0), .unset] [(.int bb36)]))
    have Z36 : n0 ≤ T36.heap.size := Nat.le_trans Z29 K36.1
    refine Run.x_pop (q := 129) X36 hx (hb hby at_128) rfl rfl ?_
    refine Run.x_iload (q := 131) X36 hx (hb hby at_129) rfl rfl ?_
    refine Run.x_iload (q := 133) X36 hx (hb hby at_131) rfl rfl ?_
    refine Run.x_iconst (q := 134) X36 hx (hb hby at_133) (z := (3 : Int32)) rfl rfl ?_
    refine Run.x_iand (q := 135) X36 hx (hb hby at_134) rfl rfl ?_
    refine Run.x_iadd (q := 136) X36 hx (hb hby at_135) rfl rfl ?_
    refine Run.x_istore (q := 138) X36 hx #[.val (.int p1), .val (.int p2), .val (.int p3), .val (.int p4), .val (.int p5), .val (.int 0), .val (.int 2), .val (.ref b25), .val (.int 2), .val (.int bq0), .val (.int bq1), .val (.int bq2), .val (.ref np27), .val (.ref np28), .val (.ref np29), .val (.int ((0 : Int32) + (bq0 &&& (3 : Int32)))), .val (.int 0), .unset] (hb hby at_136) rfl rfl ?_
    refine Run.x_iload (q := 140) X36 hx (hb hby at_138) rfl rfl ?_
    refine Run.x_iload (q := 142) X36 hx (hb hby at_140) rfl rfl ?_
    refine Run.x_iload (q := 144) X36 hx (hb hby at_142) rfl rfl ?_
    refine Run.callSI (q := 147) X36 hx hZ rfl (y := (⟨"semblance/JpegScansCompletePinLaw", "ones", "(II)I"⟩ : MethodName)) hown (wm64 hw) (wm65 hw) (wm24 hw) (wm66 hw) (by decide) (argsL := [(.int bq0), (.int 2)]) (rest := [(.int 0)]) (c_ones_2 l Z a0 hw bq0 T36.heap n0 Z36 ) pd_1 rfl (by rw [hml]; rfl) (W := 1) rfl (by decide) (by decide) (by decide) (by decide) (hb hby at_144) rfl rfl fun T37 L37 X37 M37 e37 => ?_
    have N37 := Fr.app N36 M37
    refine Run.x_iadd (q := 148) X37 hx (hb hby at_147) rfl rfl ?_
    refine Run.x_istore (q := 150) X37 hx #[.val (.int p1), .val (.int p2), .val (.int p3), .val (.int p4), .val (.int p5), .val (.int 0), .val (.int 2), .val (.ref b25), .val (.int 2), .val (.int bq0), .val (.int bq1), .val (.int bq2), .val (.ref np27), .val (.ref np28), .val (.ref np29), .val (.int ((0 : Int32) + (bq0 &&& (3 : Int32)))), .val (.int ((0 : Int32) + (own_sm (own_es 2 bq0) 0))), .unset] (hb hby at_148) rfl rfl ?_
    refine Run.x_iload (q := 152) X37 hx (hb hby at_150) rfl rfl ?_
    refine Run.x_iconst (q := 153) X37 hx (hb hby at_152) (z := (1 : Int32)) rfl rfl ?_
    refine Run.x_icmpNo (q := 156) X37 hx (hb hby at_153) (tlt (by decide : (1 : Int32) < (2 : Int32))).2.2.2 rfl ?_
    refine Run.x_aload (q := 158) X37 hx (hb hby at_156) rfl rfl rfl ?_
    refine Run.x_aload (q := 160) X37 hx (hb hby at_158) rfl rfl rfl ?_
    refine Run.x_iconst (q := 161) X37 hx (hb hby at_160) (z := (0 : Int32)) rfl rfl ?_
    refine Run.x_iconst (q := 162) X37 hx (hb hby at_161) (z := (0 : Int32)) rfl rfl ?_
    refine Run.x_iconst (q := 163) X37 hx (hb hby at_162) (z := (0 : Int32)) rfl rfl ?_
    refine Run.x_iconst (q := 164) X37 hx (hb hby at_163) (z := (0 : Int32)) rfl rfl ?_
    obtain ⟨⟨s2, u2, v2⟩, hF2⟩ : ∃ q, (own_es 2 bq1).foldl own_stp (s1, u1, v1) = q := ⟨_, rfl⟩
    have ac2 := own_acc1 ac1 (by decide) (own_es_m2 bq1) hF2
    replace Ag26 := Ag26.keep K36 (ninS (Ne.symm ne_b25_gr) (ninS ne_gr_r0 (ninS ne_gr_r1 nin0)))
    replace An28 := (An28.keep K29 nin0).keep K36 (ninS (Ne.symm ne_b25_np28) (ninS (Ne.symm ne_r0_np28) (ninS (Ne.symm ne_r1_np28) nin0)))
    refine Run.callV X37 hx hZ e37 (y := (⟨"semblance/JpegScans", "take", "([IIIII)Z"⟩ : MethodName)) (z := (⟨"semblance/JpegScans", "take", "([IIIII)Z"⟩ : MethodName)) hown (wm34 hw) (wm35 hw) (notFace_of_selects (args := #[]) (mvT hZ (wm37 hw))) (wm37 hw) (wm36 hw) (wm2 hw) (wm38 hw) (by decide) (a := b25) E36 (argsL := [(.ref np28), (.int 0), (.int 0), (.int 0), (.int 0)]) (rest := []) (c_ts_2 l Z a0 hw b25 np28 T36.heap n0 Z36 gr r0 r1 ((0 : Int32) + (1 : Int32)) s1 u1 v1 s2 u2 v2 (own_es 2 bq1) E36 F036 F136 F236 F336 F436 Ag26 Ar0_36 Ar1_36 An28 g_b25 g_r0 g_r1 ne_b25_gr ne_b25_r0 ne_b25_r1 ne_b25_np28 ne_gr_r0 ne_gr_r1 ne_gr_np28 ne_r0_r1 ne_r0_np28 ne_r1_np28 (by decide) (own_acc_s ac1) (own_es_m2 bq1) (Nat.le_trans (own_es_len _ _).2 (by decide)) hF2) pd_3 rfl (by rw [hml]; rfl) (W := 0) rfl (by decide) (by decide) (by decide) (by decide) (hb hby at_164) rfl ?_
    intro T38 v38 L38 X38 q38
    obtain ⟨bb38, rfl, M38, K38, E38, F038, F138, F238, F338, F438, Ar0_38, Ar1_38⟩ := q38
    have N38 := Fr.app N37 M38
    show Run p e below s _ _ _ (T38.setTop (mkF m 167 #[.val (.int p1), .val (.int p2), .val (.int p3), .val (.int p4), .val (.int p5), .val (.int 0), .val (.int 2), .val (.ref b25), .val (.int 2), .val (.int bq0), .val (.int bq1), .val (.int bq2), .val (.ref np27), .val (.ref np28), .val (.ref np29), .val (.int ((0 : Int32) + (bq0 &&& (3 : Int32)))), .val (.int ((0 : Int32) + (own_sm (own_es 2 bq0) 0))), .unset] [(.int bb38)]))
    have Z38 : n0 ≤ T38.heap.size := Nat.le_trans Z36 K38.1
    refine Run.x_pop (q := 168) X38 hx (hb hby at_167) rfl rfl ?_
    refine Run.x_iload (q := 170) X38 hx (hb hby at_168) rfl rfl ?_
    refine Run.x_iload (q := 172) X38 hx (hb hby at_170) rfl rfl ?_
    refine Run.x_iconst (q := 173) X38 hx (hb hby at_172) (z := (3 : Int32)) rfl rfl ?_
    refine Run.x_iand (q := 174) X38 hx (hb hby at_173) rfl rfl ?_
    refine Run.x_iadd (q := 175) X38 hx (hb hby at_174) rfl rfl ?_
    refine Run.x_istore (q := 177) X38 hx #[.val (.int p1), .val (.int p2), .val (.int p3), .val (.int p4), .val (.int p5), .val (.int 0), .val (.int 2), .val (.ref b25), .val (.int 2), .val (.int bq0), .val (.int bq1), .val (.int bq2), .val (.ref np27), .val (.ref np28), .val (.ref np29), .val (.int (((0 : Int32) + (bq0 &&& (3 : Int32))) + (bq1 &&& (3 : Int32)))), .val (.int ((0 : Int32) + (own_sm (own_es 2 bq0) 0))), .unset] (hb hby at_175) rfl rfl ?_
    refine Run.x_iload (q := 179) X38 hx (hb hby at_177) rfl rfl ?_
    refine Run.x_iload (q := 181) X38 hx (hb hby at_179) rfl rfl ?_
    refine Run.x_iload (q := 183) X38 hx (hb hby at_181) rfl rfl ?_
    refine Run.callSI (q := 186) X38 hx hZ rfl (y := (⟨"semblance/JpegScansCompletePinLaw", "ones", "(II)I"⟩ : MethodName)) hown (wm64 hw) (wm65 hw) (wm24 hw) (wm66 hw) (by decide) (argsL := [(.int bq1), (.int 2)]) (rest := [(.int ((0 : Int32) + (own_sm (own_es 2 bq0) 0)))]) (c_ones_2 l Z a0 hw bq1 T38.heap n0 Z38 ) pd_1 rfl (by rw [hml]; rfl) (W := 1) rfl (by decide) (by decide) (by decide) (by decide) (hb hby at_183) rfl rfl fun T39 L39 X39 M39 e39 => ?_
    have N39 := Fr.app N38 M39
    refine Run.x_iadd (q := 187) X39 hx (hb hby at_186) rfl rfl ?_
    refine Run.x_istore (q := 189) X39 hx #[.val (.int p1), .val (.int p2), .val (.int p3), .val (.int p4), .val (.int p5), .val (.int 0), .val (.int 2), .val (.ref b25), .val (.int 2), .val (.int bq0), .val (.int bq1), .val (.int bq2), .val (.ref np27), .val (.ref np28), .val (.ref np29), .val (.int (((0 : Int32) + (bq0 &&& (3 : Int32))) + (bq1 &&& (3 : Int32)))), .val (.int (((0 : Int32) + (own_sm (own_es 2 bq0) 0)) + (own_sm (own_es 2 bq1) 0))), .unset] (hb hby at_187) rfl rfl ?_
    refine Run.x_iload (q := 191) X39 hx (hb hby at_189) rfl rfl ?_
    refine Run.x_iconst (q := 192) X39 hx (hb hby at_191) (z := (2 : Int32)) rfl rfl ?_
    refine Run.x_icmpYes (q := 228) X39 hx (hb hby at_192) (flt (by decide : ¬ ((2 : Int32) < (2 : Int32)))).2.2.2 (by decide) (by decide) ?_
    refine Run.x_iload (q := 230) X39 hx (hb hby at_228) rfl rfl ?_
    refine Run.x_iload (q := 232) X39 hx (hb hby at_230) rfl rfl ?_
    refine Run.x_isub (q := 233) X39 hx (hb hby at_232) rfl rfl ?_
    refine Run.x_iconst (q := 234) X39 hx (hb hby at_233) (z := (1 : Int32)) rfl rfl ?_
    by_cases hc234 : ((((0 : Int32) + (bq0 &&& (3 : Int32))) + (bq1 &&& (3 : Int32))) - (((0 : Int32) + (own_sm (own_es 2 bq0) 0)) + (own_sm (own_es 2 bq1) 0))) = (1 : Int32)
    ·skip
     refine Run.x_icmpNo (q := 237) X39 hx (hb hby at_234) (teq hc234).2 rfl ?_
     refine Run.x_iload (q := 239) X39 hx (hb hby at_237) rfl rfl ?_
     refine Run.x_iconst (q := 240) X39 hx (hb hby at_239) (z := (1 : Int32)) rfl rfl ?_
     refine Run.x_icmpNo (q := 243) X39 hx (hb hby at_240) (feq (by decide : ¬ ((2 : Int32) = (1 : Int32)))).1 rfl ?_
     refine Run.x_iload (q := 245) X39 hx (hb hby at_243) rfl rfl ?_
     refine Run.x_iconst (q := 246) X39 hx (hb hby at_245) (z := (1 : Int32)) rfl rfl ?_
     by_cases hc246 : (((0 : Int32) + (own_sm (own_es 2 bq0) 0)) + (own_sm (own_es 2 bq1) 0)) = (1 : Int32)
     ·skip
      refine Run.x_icmpNo (q := 249) X39 hx (hb hby at_246) (teq hc246).2 rfl ?_
      refine Run.x_iconst (q := 250) X39 hx (hb hby at_249) (z := (1 : Int32)) rfl rfl ?_
      refine Run.x_goto (q := 254) X39 hx (hb hby at_250) (by decide) (by decide) ?_
      refine Run.x_istore (q := 256) X39 hx #[.val (.int p1), .val (.int p2), .val (.int p3), .val (.int p4), .val (.int p5), .val (.int 0), .val (.int 2), .val (.ref b25), .val (.int 2), .val (.int bq0), .val (.int bq1), .val (.int bq2), .val (.ref np27), .val (.ref np28), .val (.ref np29), .val (.int (((0 : Int32) + (bq0 &&& (3 : Int32))) + (bq1 &&& (3 : Int32)))), .val (.int (((0 : Int32) + (own_sm (own_es 2 bq0) 0)) + (own_sm (own_es 2 bq1) 0))), .val (.int 1)] (hb hby at_254) rfl rfl ?_
      refine Run.x_aload (q := 258) X39 hx (hb hby at_256) rfl rfl rfl ?_
      have fin := own_fin2 ac2 (by decide)
      replace Ag26 := Ag26.keep K38 (ninS (Ne.symm ne_b25_gr) (ninS ne_gr_r0 (ninS ne_gr_r1 nin0)))
      refine Run.callVI (q := 261) X39 hx hZ e39 (y := (⟨"semblance/JpegScans", "complete", "()Z"⟩ : MethodName)) (z := (⟨"semblance/JpegScans", "complete", "()Z"⟩ : MethodName)) hown (wm26 hw) (wm27 hw) (notFace_of_selects (args := #[]) (mvT hZ (wm29 hw))) (wm29 hw) (wm28 hw) (wm2 hw) (wm30 hw) (by decide) (a := b25) E38 (argsL := []) (rest := []) (c_cmp_2 l Z a0 hw b25 T38.heap n0 Z38 gr r0 r1 s2 (1 : Int32) (fun _ => u2) (fun _ => v2) E38 F238 F438 Ag26 Ar0_38 Ar1_38 (fun _ => rfl) (fun h => absurd (fin.mpr ⟨hc234, hc246⟩) h)) pd_7 rfl (by rw [hml]; rfl) (W := 0) rfl (by decide) (by decide) (by decide) (by decide) (hb hby at_258) rfl rfl fun T40 L40 X40 M40 e40 => ?_
      have N40 := Fr.app N39 M40
      refine Run.x_iload (q := 263) X40 hx (hb hby at_261) rfl rfl ?_
      refine Run.x_icmpNo (q := 266) X40 hx (hb hby at_263) (teq (by decide : (1 : Int32) = (1 : Int32))).2 rfl ?_
      refine Run.x_iconst (q := 267) X40 hx (hb hby at_266) (z := (1 : Int32)) rfl rfl ?_
      refine Run.x_goto (q := 271) X40 hx (hb hby at_267) (by decide) (by decide) ?_
      refine Run.retN X40 hx hlk e40 (t := .boolean) hret (by simp) (z' := (1 : Int32)) (by decide) (hb hby at_271) (by decide) (by decide) ?_
      exact ⟨rfl, N40⟩
     ·skip
      refine Run.x_icmpYes (q := 253) X39 hx (hb hby at_246) (feq hc246).2 (by decide) (by decide) ?_
      refine Run.x_iconst (q := 254) X39 hx (hb hby at_253) (z := (0 : Int32)) rfl rfl ?_
      refine Run.x_istore (q := 256) X39 hx #[.val (.int p1), .val (.int p2), .val (.int p3), .val (.int p4), .val (.int p5), .val (.int 0), .val (.int 2), .val (.ref b25), .val (.int 2), .val (.int bq0), .val (.int bq1), .val (.int bq2), .val (.ref np27), .val (.ref np28), .val (.ref np29), .val (.int (((0 : Int32) + (bq0 &&& (3 : Int32))) + (bq1 &&& (3 : Int32)))), .val (.int (((0 : Int32) + (own_sm (own_es 2 bq0) 0)) + (own_sm (own_es 2 bq1) 0))), .val (.int 0)] (hb hby at_254) rfl rfl ?_
      refine Run.x_aload (q := 258) X39 hx (hb hby at_256) rfl rfl rfl ?_
      have fin := own_fin2 ac2 (by decide)
      replace Ag26 := Ag26.keep K38 (ninS (Ne.symm ne_b25_gr) (ninS ne_gr_r0 (ninS ne_gr_r1 nin0)))
      refine Run.callVI (q := 261) X39 hx hZ e39 (y := (⟨"semblance/JpegScans", "complete", "()Z"⟩ : MethodName)) (z := (⟨"semblance/JpegScans", "complete", "()Z"⟩ : MethodName)) hown (wm26 hw) (wm27 hw) (notFace_of_selects (args := #[]) (mvT hZ (wm29 hw))) (wm29 hw) (wm28 hw) (wm2 hw) (wm30 hw) (by decide) (a := b25) E38 (argsL := []) (rest := []) (c_cmp_2 l Z a0 hw b25 T38.heap n0 Z38 gr r0 r1 s2 (0 : Int32) (fun _ => u2) (fun _ => v2) E38 F238 F438 Ag26 Ar0_38 Ar1_38 (fun h => absurd (fin.mp h) (fun q => hc246 q.2)) (fun _ => rfl)) pd_7 rfl (by rw [hml]; rfl) (W := 0) rfl (by decide) (by decide) (by decide) (by decide) (hb hby at_258) rfl rfl fun T41 L41 X41 M41 e41 => ?_
      have N41 := Fr.app N39 M41
      refine Run.x_iload (q := 263) X41 hx (hb hby at_261) rfl rfl ?_
      refine Run.x_icmpNo (q := 266) X41 hx (hb hby at_263) (teq (by decide : (0 : Int32) = (0 : Int32))).2 rfl ?_
      refine Run.x_iconst (q := 267) X41 hx (hb hby at_266) (z := (1 : Int32)) rfl rfl ?_
      refine Run.x_goto (q := 271) X41 hx (hb hby at_267) (by decide) (by decide) ?_
      refine Run.retN X41 hx hlk e41 (t := .boolean) hret (by simp) (z' := (1 : Int32)) (by decide) (hb hby at_271) (by decide) (by decide) ?_
      exact ⟨rfl, N41⟩
    ·skip
     refine Run.x_icmpYes (q := 253) X39 hx (hb hby at_234) (feq hc234).2 (by decide) (by decide) ?_
     refine Run.x_iconst (q := 254) X39 hx (hb hby at_253) (z := (0 : Int32)) rfl rfl ?_
     refine Run.x_istore (q := 256) X39 hx #[.val (.int p1), .val (.int p2), .val (.int p3), .val (.int p4), .val (.int p5), .val (.int 0), .val (.int 2), .val (.ref b25), .val (.int 2), .val (.int bq0), .val (.int bq1), .val (.int bq2), .val (.ref np27), .val (.ref np28), .val (.ref np29), .val (.int (((0 : Int32) + (bq0 &&& (3 : Int32))) + (bq1 &&& (3 : Int32)))), .val (.int (((0 : Int32) + (own_sm (own_es 2 bq0) 0)) + (own_sm (own_es 2 bq1) 0))), .val (.int 0)] (hb hby at_254) rfl rfl ?_
     refine Run.x_aload (q := 258) X39 hx (hb hby at_256) rfl rfl rfl ?_
     have fin := own_fin2 ac2 (by decide)
     replace Ag26 := Ag26.keep K38 (ninS (Ne.symm ne_b25_gr) (ninS ne_gr_r0 (ninS ne_gr_r1 nin0)))
     refine Run.callVI (q := 261) X39 hx hZ e39 (y := (⟨"semblance/JpegScans", "complete", "()Z"⟩ : MethodName)) (z := (⟨"semblance/JpegScans", "complete", "()Z"⟩ : MethodName)) hown (wm26 hw) (wm27 hw) (notFace_of_selects (args := #[]) (mvT hZ (wm29 hw))) (wm29 hw) (wm28 hw) (wm2 hw) (wm30 hw) (by decide) (a := b25) E38 (argsL := []) (rest := []) (c_cmp_2 l Z a0 hw b25 T38.heap n0 Z38 gr r0 r1 s2 (0 : Int32) (fun _ => u2) (fun _ => v2) E38 F238 F438 Ag26 Ar0_38 Ar1_38 (fun h => absurd (fin.mp h) (fun q => hc234 q.1)) (fun _ => rfl)) pd_7 rfl (by rw [hml]; rfl) (W := 0) rfl (by decide) (by decide) (by decide) (by decide) (hb hby at_258) rfl rfl fun T42 L42 X42 M42 e42 => ?_
     have N42 := Fr.app N39 M42
     refine Run.x_iload (q := 263) X42 hx (hb hby at_261) rfl rfl ?_
     refine Run.x_icmpNo (q := 266) X42 hx (hb hby at_263) (teq (by decide : (0 : Int32) = (0 : Int32))).2 rfl ?_
     refine Run.x_iconst (q := 267) X42 hx (hb hby at_266) (z := (1 : Int32)) rfl rfl ?_
     refine Run.x_goto (q := 271) X42 hx (hb hby at_267) (by decide) (by decide) ?_
     refine Run.retN X42 hx hlk e42 (t := .boolean) hret (by simp) (z' := (1 : Int32)) (by decide) (hb hby at_271) (by decide) (by decide) ?_
     exact ⟨rfl, N42⟩
   ·skip
    show Run p e below s _ _ _ (T29.setTop (mkF m 112 #[.val (.int p1), .val (.int p2), .val (.int p3), .val (.int p4), .val (.int p5), .val (.int 0), .val (.int 2), .val (.ref b25), .val (.int 3), .val (.int bq0), .val (.int bq1), .val (.int bq2), .val (.ref np27), .val (.ref np28), .val (.ref np29), .val (.int 0), .val (.int 0), .unset] []))
    refine Run.x_iload (q := 114) X29 hx (hb hby at_112) rfl rfl ?_
    refine Run.x_ifNo (q := 117) X29 hx (hb hby at_114) ((if0 _ _).trans (tlt (by decide : (0 : Int32) < (3 : Int32))).2.2.2) rfl ?_
    refine Run.x_aload (q := 119) X29 hx (hb hby at_117) rfl rfl rfl ?_
    refine Run.x_aload (q := 121) X29 hx (hb hby at_119) rfl rfl rfl ?_
    refine Run.x_iconst (q := 122) X29 hx (hb hby at_121) (z := (0 : Int32)) rfl rfl ?_
    refine Run.x_iconst (q := 123) X29 hx (hb hby at_122) (z := (0 : Int32)) rfl rfl ?_
    refine Run.x_iconst (q := 124) X29 hx (hb hby at_123) (z := (0 : Int32)) rfl rfl ?_
    refine Run.x_iconst (q := 125) X29 hx (hb hby at_124) (z := (0 : Int32)) rfl rfl ?_
    obtain ⟨⟨s1, u1, v1⟩, hF1⟩ : ∃ q, (own_es 2 bq0).foldl own_stp ((0 : Int32), (-1 : Int32), (-1 : Int32)) = q := ⟨_, rfl⟩
    have ac1 := own_acc1 ac0 (by decide) (own_es_m2 bq0) hF1
    replace E26 := E26.keep K29
    replace F026 := ((F026.keep K27 nin0).keep K28 nin0).keep K29 nin0
    replace F126 := ((F126.keep K27 nin0).keep K28 nin0).keep K29 nin0
    replace F226 := ((F226.keep K27 nin0).keep K28 nin0).keep K29 nin0
    replace F326 := ((F326.keep K27 nin0).keep K28 nin0).keep K29 nin0
    replace F426 := ((F426.keep K27 nin0).keep K28 nin0).keep K29 nin0
    replace Ag26 := Ag26.keep K29 nin0
    replace Ar0_26 := Ar0_26.keep K29 nin0
    replace Ar1_26 := Ar1_26.keep K29 nin0
    replace An27 := An27.keep K29 nin0
    refine Run.callV X29 hx hZ rfl (y := (⟨"semblance/JpegScans", "take", "([IIIII)Z"⟩ : MethodName)) (z := (⟨"semblance/JpegScans", "take", "([IIIII)Z"⟩ : MethodName)) hown (wm34 hw) (wm35 hw) (notFace_of_selects (args := #[]) (mvT hZ (wm37 hw))) (wm37 hw) (wm36 hw) (wm2 hw) (wm38 hw) (by decide) (a := b25) E26 (argsL := [(.ref np27), (.int 0), (.int 0), (.int 0), (.int 0)]) (rest := []) (c_ts_2 l Z a0 hw b25 np27 T29.heap n0 Z29 gr r0 r1 (0 : Int32) (0 : Int32) (-1 : Int32) (-1 : Int32) s1 u1 v1 (own_es 2 bq0) E26 F026 F126 F226 F326 F426 Ag26 Ar0_26 Ar1_26 An27 g_b25 g_r0 g_r1 ne_b25_gr ne_b25_r0 ne_b25_r1 ne_b25_np27 ne_gr_r0 ne_gr_r1 ne_gr_np27 ne_r0_r1 ne_r0_np27 ne_r1_np27 (by decide) (Or.inl rfl) (own_es_m2 bq0) (Nat.le_trans (own_es_len _ _).2 (by decide)) hF1) pd_3 rfl (by rw [hml]; rfl) (W := 0) rfl (by decide) (by decide) (by decide) (by decide) (hb hby at_125) rfl ?_
    intro T43 v43 L43 X43 q43
    obtain ⟨bb43, rfl, M43, K43, E43, F043, F143, F243, F343, F443, Ar0_43, Ar1_43⟩ := q43
    have N43 := Fr.app N29 M43
    show Run p e below s _ _ _ (T43.setTop (mkF m 128 #[.val (.int p1), .val (.int p2), .val (.int p3), .val (.int p4), .val (.int p5), .val (.int 0), .val (.int 2), .val (.ref b25), .val (.int 3), .val (.int bq0), .val (.int bq1), .val (.int bq2), .val (.ref np27), .val (.ref np28), .val (.ref np29), .val (.int 0), .val (.int 0), .unset] [(.int bb43)]))
    have Z43 : n0 ≤ T43.heap.size := Nat.le_trans Z29 K43.1
    refine Run.x_pop (q := 129) X43 hx (hb hby at_128) rfl rfl ?_
    refine Run.x_iload (q := 131) X43 hx (hb hby at_129) rfl rfl ?_
    refine Run.x_iload (q := 133) X43 hx (hb hby at_131) rfl rfl ?_
    refine Run.x_iconst (q := 134) X43 hx (hb hby at_133) (z := (3 : Int32)) rfl rfl ?_
    refine Run.x_iand (q := 135) X43 hx (hb hby at_134) rfl rfl ?_
    refine Run.x_iadd (q := 136) X43 hx (hb hby at_135) rfl rfl ?_
    refine Run.x_istore (q := 138) X43 hx #[.val (.int p1), .val (.int p2), .val (.int p3), .val (.int p4), .val (.int p5), .val (.int 0), .val (.int 2), .val (.ref b25), .val (.int 3), .val (.int bq0), .val (.int bq1), .val (.int bq2), .val (.ref np27), .val (.ref np28), .val (.ref np29), .val (.int ((0 : Int32) + (bq0 &&& (3 : Int32)))), .val (.int 0), .unset] (hb hby at_136) rfl rfl ?_
    refine Run.x_iload (q := 140) X43 hx (hb hby at_138) rfl rfl ?_
    refine Run.x_iload (q := 142) X43 hx (hb hby at_140) rfl rfl ?_
    refine Run.x_iload (q := 144) X43 hx (hb hby at_142) rfl rfl ?_
    refine Run.callSI (q := 147) X43 hx hZ rfl (y := (⟨"semblance/JpegScansCompletePinLaw", "ones", "(II)I"⟩ : MethodName)) hown (wm64 hw) (wm65 hw) (wm24 hw) (wm66 hw) (by decide) (argsL := [(.int bq0), (.int 2)]) (rest := [(.int 0)]) (c_ones_2 l Z a0 hw bq0 T43.heap n0 Z43 ) pd_1 rfl (by rw [hml]; rfl) (W := 1) rfl (by decide) (by decide) (by decide) (by decide) (hb hby at_144) rfl rfl fun T44 L44 X44 M44 e44 => ?_
    have N44 := Fr.app N43 M44
    refine Run.x_iadd (q := 148) X44 hx (hb hby at_147) rfl rfl ?_
    refine Run.x_istore (q := 150) X44 hx #[.val (.int p1), .val (.int p2), .val (.int p3), .val (.int p4), .val (.int p5), .val (.int 0), .val (.int 2), .val (.ref b25), .val (.int 3), .val (.int bq0), .val (.int bq1), .val (.int bq2), .val (.ref np27), .val (.ref np28), .val (.ref np29), .val (.int ((0 : Int32) + (bq0 &&& (3 : Int32)))), .val (.int ((0 : Int32) + (own_sm (own_es 2 bq0) 0))), .unset] (hb hby at_148) rfl rfl ?_
    refine Run.x_iload (q := 152) X44 hx (hb hby at_150) rfl rfl ?_
    refine Run.x_iconst (q := 153) X44 hx (hb hby at_152) (z := (1 : Int32)) rfl rfl ?_
    refine Run.x_icmpNo (q := 156) X44 hx (hb hby at_153) (tlt (by decide : (1 : Int32) < (3 : Int32))).2.2.2 rfl ?_
    refine Run.x_aload (q := 158) X44 hx (hb hby at_156) rfl rfl rfl ?_
    refine Run.x_aload (q := 160) X44 hx (hb hby at_158) rfl rfl rfl ?_
    refine Run.x_iconst (q := 161) X44 hx (hb hby at_160) (z := (0 : Int32)) rfl rfl ?_
    refine Run.x_iconst (q := 162) X44 hx (hb hby at_161) (z := (0 : Int32)) rfl rfl ?_
    refine Run.x_iconst (q := 163) X44 hx (hb hby at_162) (z := (0 : Int32)) rfl rfl ?_
    refine Run.x_iconst (q := 164) X44 hx (hb hby at_163) (z := (0 : Int32)) rfl rfl ?_
    obtain ⟨⟨s2, u2, v2⟩, hF2⟩ : ∃ q, (own_es 2 bq1).foldl own_stp (s1, u1, v1) = q := ⟨_, rfl⟩
    have ac2 := own_acc1 ac1 (by decide) (own_es_m2 bq1) hF2
    replace Ag26 := Ag26.keep K43 (ninS (Ne.symm ne_b25_gr) (ninS ne_gr_r0 (ninS ne_gr_r1 nin0)))
    replace An28 := (An28.keep K29 nin0).keep K43 (ninS (Ne.symm ne_b25_np28) (ninS (Ne.symm ne_r0_np28) (ninS (Ne.symm ne_r1_np28) nin0)))
    refine Run.callV X44 hx hZ e44 (y := (⟨"semblance/JpegScans", "take", "([IIIII)Z"⟩ : MethodName)) (z := (⟨"semblance/JpegScans", "take", "([IIIII)Z"⟩ : MethodName)) hown (wm34 hw) (wm35 hw) (notFace_of_selects (args := #[]) (mvT hZ (wm37 hw))) (wm37 hw) (wm36 hw) (wm2 hw) (wm38 hw) (by decide) (a := b25) E43 (argsL := [(.ref np28), (.int 0), (.int 0), (.int 0), (.int 0)]) (rest := []) (c_ts_2 l Z a0 hw b25 np28 T43.heap n0 Z43 gr r0 r1 ((0 : Int32) + (1 : Int32)) s1 u1 v1 s2 u2 v2 (own_es 2 bq1) E43 F043 F143 F243 F343 F443 Ag26 Ar0_43 Ar1_43 An28 g_b25 g_r0 g_r1 ne_b25_gr ne_b25_r0 ne_b25_r1 ne_b25_np28 ne_gr_r0 ne_gr_r1 ne_gr_np28 ne_r0_r1 ne_r0_np28 ne_r1_np28 (by decide) (own_acc_s ac1) (own_es_m2 bq1) (Nat.le_trans (own_es_len _ _).2 (by decide)) hF2) pd_3 rfl (by rw [hml]; rfl) (W := 0) rfl (by decide) (by decide) (by decide) (by decide) (hb hby at_164) rfl ?_
    intro T45 v45 L45 X45 q45
    obtain ⟨bb45, rfl, M45, K45, E45, F045, F145, F245, F345, F445, Ar0_45, Ar1_45⟩ := q45
    have N45 := Fr.app N44 M45
    show Run p e below s _ _ _ (T45.setTop (mkF m 167 #[.val (.int p1), .val (.int p2), .val (.int p3), .val (.int p4), .val (.int p5), .val (.int 0), .val (.int 2), .val (.ref b25), .val (.int 3), .val (.int bq0), .val (.int bq1), .val (.int bq2), .val (.ref np27), .val (.ref np28), .val (.ref np29), .val (.int ((0 : Int32) + (bq0 &&& (3 : Int32)))), .val (.int ((0 : Int32) + (own_sm (own_es 2 bq0) 0))), .unset] [(.int bb45)]))
    have Z45 : n0 ≤ T45.heap.size := Nat.le_trans Z43 K45.1
    refine Run.x_pop (q := 168) X45 hx (hb hby at_167) rfl rfl ?_
    refine Run.x_iload (q := 170) X45 hx (hb hby at_168) rfl rfl ?_
    refine Run.x_iload (q := 172) X45 hx (hb hby at_170) rfl rfl ?_
    refine Run.x_iconst (q := 173) X45 hx (hb hby at_172) (z := (3 : Int32)) rfl rfl ?_
    refine Run.x_iand (q := 174) X45 hx (hb hby at_173) rfl rfl ?_
    refine Run.x_iadd (q := 175) X45 hx (hb hby at_174) rfl rfl ?_
    refine Run.x_istore (q := 177) X45 hx #[.val (.int p1), .val (.int p2), .val (.int p3), .val (.int p4), .val (.int p5), .val (.int 0), .val (.int 2), .val (.ref b25), .val (.int 3), .val (.int bq0), .val (.int bq1), .val (.int bq2), .val (.ref np27), .val (.ref np28), .val (.ref np29), .val (.int (((0 : Int32) + (bq0 &&& (3 : Int32))) + (bq1 &&& (3 : Int32)))), .val (.int ((0 : Int32) + (own_sm (own_es 2 bq0) 0))), .unset] (hb hby at_175) rfl rfl ?_
    refine Run.x_iload (q := 179) X45 hx (hb hby at_177) rfl rfl ?_
    refine Run.x_iload (q := 181) X45 hx (hb hby at_179) rfl rfl ?_
    refine Run.x_iload (q := 183) X45 hx (hb hby at_181) rfl rfl ?_
    refine Run.callSI (q := 186) X45 hx hZ rfl (y := (⟨"semblance/JpegScansCompletePinLaw", "ones", "(II)I"⟩ : MethodName)) hown (wm64 hw) (wm65 hw) (wm24 hw) (wm66 hw) (by decide) (argsL := [(.int bq1), (.int 2)]) (rest := [(.int ((0 : Int32) + (own_sm (own_es 2 bq0) 0)))]) (c_ones_2 l Z a0 hw bq1 T45.heap n0 Z45 ) pd_1 rfl (by rw [hml]; rfl) (W := 1) rfl (by decide) (by decide) (by decide) (by decide) (hb hby at_183) rfl rfl fun T46 L46 X46 M46 e46 => ?_
    have N46 := Fr.app N45 M46
    refine Run.x_iadd (q := 187) X46 hx (hb hby at_186) rfl rfl ?_
    refine Run.x_istore (q := 189) X46 hx #[.val (.int p1), .val (.int p2), .val (.int p3), .val (.int p4), .val (.int p5), .val (.int 0), .val (.int 2), .val (.ref b25), .val (.int 3), .val (.int bq0), .val (.int bq1), .val (.int bq2), .val (.ref np27), .val (.ref np28), .val (.ref np29), .val (.int (((0 : Int32) + (bq0 &&& (3 : Int32))) + (bq1 &&& (3 : Int32)))), .val (.int (((0 : Int32) + (own_sm (own_es 2 bq0) 0)) + (own_sm (own_es 2 bq1) 0))), .unset] (hb hby at_187) rfl rfl ?_
    refine Run.x_iload (q := 191) X46 hx (hb hby at_189) rfl rfl ?_
    refine Run.x_iconst (q := 192) X46 hx (hb hby at_191) (z := (2 : Int32)) rfl rfl ?_
    refine Run.x_icmpNo (q := 195) X46 hx (hb hby at_192) (tlt (by decide : (2 : Int32) < (3 : Int32))).2.2.2 rfl ?_
    refine Run.x_aload (q := 197) X46 hx (hb hby at_195) rfl rfl rfl ?_
    refine Run.x_aload (q := 199) X46 hx (hb hby at_197) rfl rfl rfl ?_
    refine Run.x_iconst (q := 200) X46 hx (hb hby at_199) (z := (0 : Int32)) rfl rfl ?_
    refine Run.x_iconst (q := 201) X46 hx (hb hby at_200) (z := (0 : Int32)) rfl rfl ?_
    refine Run.x_iconst (q := 202) X46 hx (hb hby at_201) (z := (0 : Int32)) rfl rfl ?_
    refine Run.x_iconst (q := 203) X46 hx (hb hby at_202) (z := (0 : Int32)) rfl rfl ?_
    obtain ⟨⟨s3, u3, v3⟩, hF3⟩ : ∃ q, (own_es 2 bq2).foldl own_stp (s2, u2, v2) = q := ⟨_, rfl⟩
    have ac3 := own_acc1 ac2 (by decide) (own_es_m2 bq2) hF3
    replace Ag26 := Ag26.keep K45 (ninS (Ne.symm ne_b25_gr) (ninS ne_gr_r0 (ninS ne_gr_r1 nin0)))
    replace An29 := (An29.keep K43 (ninS (Ne.symm ne_b25_np29) (ninS (Ne.symm ne_r0_np29) (ninS (Ne.symm ne_r1_np29) nin0)))).keep K45 (ninS (Ne.symm ne_b25_np29) (ninS (Ne.symm ne_r0_np29) (ninS (Ne.symm ne_r1_np29) nin0)))
    refine Run.callV X46 hx hZ e46 (y := (⟨"semblance/JpegScans", "take", "([IIIII)Z"⟩ : MethodName)) (z := (⟨"semblance/JpegScans", "take", "([IIIII)Z"⟩ : MethodName)) hown (wm34 hw) (wm35 hw) (notFace_of_selects (args := #[]) (mvT hZ (wm37 hw))) (wm37 hw) (wm36 hw) (wm2 hw) (wm38 hw) (by decide) (a := b25) E45 (argsL := [(.ref np29), (.int 0), (.int 0), (.int 0), (.int 0)]) (rest := []) (c_ts_2 l Z a0 hw b25 np29 T45.heap n0 Z45 gr r0 r1 (((0 : Int32) + (1 : Int32)) + (1 : Int32)) s2 u2 v2 s3 u3 v3 (own_es 2 bq2) E45 F045 F145 F245 F345 F445 Ag26 Ar0_45 Ar1_45 An29 g_b25 g_r0 g_r1 ne_b25_gr ne_b25_r0 ne_b25_r1 ne_b25_np29 ne_gr_r0 ne_gr_r1 ne_gr_np29 ne_r0_r1 ne_r0_np29 ne_r1_np29 (by decide) (own_acc_s ac2) (own_es_m2 bq2) (Nat.le_trans (own_es_len _ _).2 (by decide)) hF3) pd_3 rfl (by rw [hml]; rfl) (W := 0) rfl (by decide) (by decide) (by decide) (by decide) (hb hby at_203) rfl ?_
    intro T47 v47 L47 X47 q47
    obtain ⟨bb47, rfl, M47, K47, E47, F047, F147, F247, F347, F447, Ar0_47, Ar1_47⟩ := q47
    have N47 := Fr.app N46 M47
    show Run p e below s _ _ _ (T47.setTop (mkF m 206 #[.val (.int p1), .val (.int p2), .val (.int p3), .val (.int p4), .val (.int p5), .val (.int 0), .val (.int 2), .val (.ref b25), .val (.int 3), .val (.int bq0), .val (.int bq1), .val (.int bq2), .val (.ref np27), .val (.ref np28), .val (.ref np29), .val (.int (((0 : Int32) + (bq0 &&& (3 : Int32))) + (bq1 &&& (3 : Int32)))), .val (.int (((0 : Int32) + (own_sm (own_es 2 bq0) 0)) + (own_sm (own_es 2 bq1) 0))), .unset] [(.int bb47)]))
    have Z47 : n0 ≤ T47.heap.size := Nat.le_trans Z45 K47.1
    refine Run.x_pop (q := 207) X47 hx (hb hby at_206) rfl rfl ?_
    refine Run.x_iload (q := 209) X47 hx (hb hby at_207) rfl rfl ?_
    refine Run.x_iload (q := 211) X47 hx (hb hby at_209) rfl rfl ?_
    refine Run.x_iconst (q := 212) X47 hx (hb hby at_211) (z := (3 : Int32)) rfl rfl ?_
    refine Run.x_iand (q := 213) X47 hx (hb hby at_212) rfl rfl ?_
    refine Run.x_iadd (q := 214) X47 hx (hb hby at_213) rfl rfl ?_
    refine Run.x_istore (q := 216) X47 hx #[.val (.int p1), .val (.int p2), .val (.int p3), .val (.int p4), .val (.int p5), .val (.int 0), .val (.int 2), .val (.ref b25), .val (.int 3), .val (.int bq0), .val (.int bq1), .val (.int bq2), .val (.ref np27), .val (.ref np28), .val (.ref np29), .val (.int ((((0 : Int32) + (bq0 &&& (3 : Int32))) + (bq1 &&& (3 : Int32))) + (bq2 &&& (3 : Int32)))), .val (.int (((0 : Int32) + (own_sm (own_es 2 bq0) 0)) + (own_sm (own_es 2 bq1) 0))), .unset] (hb hby at_214) rfl rfl ?_
    refine Run.x_iload (q := 218) X47 hx (hb hby at_216) rfl rfl ?_
    refine Run.x_iload (q := 220) X47 hx (hb hby at_218) rfl rfl ?_
    refine Run.x_iload (q := 222) X47 hx (hb hby at_220) rfl rfl ?_
    refine Run.callSI (q := 225) X47 hx hZ rfl (y := (⟨"semblance/JpegScansCompletePinLaw", "ones", "(II)I"⟩ : MethodName)) hown (wm64 hw) (wm65 hw) (wm24 hw) (wm66 hw) (by decide) (argsL := [(.int bq2), (.int 2)]) (rest := [(.int (((0 : Int32) + (own_sm (own_es 2 bq0) 0)) + (own_sm (own_es 2 bq1) 0)))]) (c_ones_2 l Z a0 hw bq2 T47.heap n0 Z47 ) pd_1 rfl (by rw [hml]; rfl) (W := 1) rfl (by decide) (by decide) (by decide) (by decide) (hb hby at_222) rfl rfl fun T48 L48 X48 M48 e48 => ?_
    have N48 := Fr.app N47 M48
    refine Run.x_iadd (q := 226) X48 hx (hb hby at_225) rfl rfl ?_
    refine Run.x_istore (q := 228) X48 hx #[.val (.int p1), .val (.int p2), .val (.int p3), .val (.int p4), .val (.int p5), .val (.int 0), .val (.int 2), .val (.ref b25), .val (.int 3), .val (.int bq0), .val (.int bq1), .val (.int bq2), .val (.ref np27), .val (.ref np28), .val (.ref np29), .val (.int ((((0 : Int32) + (bq0 &&& (3 : Int32))) + (bq1 &&& (3 : Int32))) + (bq2 &&& (3 : Int32)))), .val (.int ((((0 : Int32) + (own_sm (own_es 2 bq0) 0)) + (own_sm (own_es 2 bq1) 0)) + (own_sm (own_es 2 bq2) 0))), .unset] (hb hby at_226) rfl rfl ?_
    refine Run.x_iload (q := 230) X48 hx (hb hby at_228) rfl rfl ?_
    refine Run.x_iload (q := 232) X48 hx (hb hby at_230) rfl rfl ?_
    refine Run.x_isub (q := 233) X48 hx (hb hby at_232) rfl rfl ?_
    refine Run.x_iconst (q := 234) X48 hx (hb hby at_233) (z := (1 : Int32)) rfl rfl ?_
    by_cases hc234 : (((((0 : Int32) + (bq0 &&& (3 : Int32))) + (bq1 &&& (3 : Int32))) + (bq2 &&& (3 : Int32))) - ((((0 : Int32) + (own_sm (own_es 2 bq0) 0)) + (own_sm (own_es 2 bq1) 0)) + (own_sm (own_es 2 bq2) 0))) = (1 : Int32)
    ·skip
     refine Run.x_icmpNo (q := 237) X48 hx (hb hby at_234) (teq hc234).2 rfl ?_
     refine Run.x_iload (q := 239) X48 hx (hb hby at_237) rfl rfl ?_
     refine Run.x_iconst (q := 240) X48 hx (hb hby at_239) (z := (1 : Int32)) rfl rfl ?_
     refine Run.x_icmpNo (q := 243) X48 hx (hb hby at_240) (feq (by decide : ¬ ((2 : Int32) = (1 : Int32)))).1 rfl ?_
     refine Run.x_iload (q := 245) X48 hx (hb hby at_243) rfl rfl ?_
     refine Run.x_iconst (q := 246) X48 hx (hb hby at_245) (z := (1 : Int32)) rfl rfl ?_
     by_cases hc246 : ((((0 : Int32) + (own_sm (own_es 2 bq0) 0)) + (own_sm (own_es 2 bq1) 0)) + (own_sm (own_es 2 bq2) 0)) = (1 : Int32)
     ·skip
      refine Run.x_icmpNo (q := 249) X48 hx (hb hby at_246) (teq hc246).2 rfl ?_
      refine Run.x_iconst (q := 250) X48 hx (hb hby at_249) (z := (1 : Int32)) rfl rfl ?_
      refine Run.x_goto (q := 254) X48 hx (hb hby at_250) (by decide) (by decide) ?_
      refine Run.x_istore (q := 256) X48 hx #[.val (.int p1), .val (.int p2), .val (.int p3), .val (.int p4), .val (.int p5), .val (.int 0), .val (.int 2), .val (.ref b25), .val (.int 3), .val (.int bq0), .val (.int bq1), .val (.int bq2), .val (.ref np27), .val (.ref np28), .val (.ref np29), .val (.int ((((0 : Int32) + (bq0 &&& (3 : Int32))) + (bq1 &&& (3 : Int32))) + (bq2 &&& (3 : Int32)))), .val (.int ((((0 : Int32) + (own_sm (own_es 2 bq0) 0)) + (own_sm (own_es 2 bq1) 0)) + (own_sm (own_es 2 bq2) 0))), .val (.int 1)] (hb hby at_254) rfl rfl ?_
      refine Run.x_aload (q := 258) X48 hx (hb hby at_256) rfl rfl rfl ?_
      have fin := own_fin2 ac3 (by decide)
      replace Ag26 := Ag26.keep K47 (ninS (Ne.symm ne_b25_gr) (ninS ne_gr_r0 (ninS ne_gr_r1 nin0)))
      refine Run.callVI (q := 261) X48 hx hZ e48 (y := (⟨"semblance/JpegScans", "complete", "()Z"⟩ : MethodName)) (z := (⟨"semblance/JpegScans", "complete", "()Z"⟩ : MethodName)) hown (wm26 hw) (wm27 hw) (notFace_of_selects (args := #[]) (mvT hZ (wm29 hw))) (wm29 hw) (wm28 hw) (wm2 hw) (wm30 hw) (by decide) (a := b25) E47 (argsL := []) (rest := []) (c_cmp_2 l Z a0 hw b25 T47.heap n0 Z47 gr r0 r1 s3 (1 : Int32) (fun _ => u3) (fun _ => v3) E47 F247 F447 Ag26 Ar0_47 Ar1_47 (fun _ => rfl) (fun h => absurd (fin.mpr ⟨hc234, hc246⟩) h)) pd_7 rfl (by rw [hml]; rfl) (W := 0) rfl (by decide) (by decide) (by decide) (by decide) (hb hby at_258) rfl rfl fun T49 L49 X49 M49 e49 => ?_
      have N49 := Fr.app N48 M49
      refine Run.x_iload (q := 263) X49 hx (hb hby at_261) rfl rfl ?_
      refine Run.x_icmpNo (q := 266) X49 hx (hb hby at_263) (teq (by decide : (1 : Int32) = (1 : Int32))).2 rfl ?_
      refine Run.x_iconst (q := 267) X49 hx (hb hby at_266) (z := (1 : Int32)) rfl rfl ?_
      refine Run.x_goto (q := 271) X49 hx (hb hby at_267) (by decide) (by decide) ?_
      refine Run.retN X49 hx hlk e49 (t := .boolean) hret (by simp) (z' := (1 : Int32)) (by decide) (hb hby at_271) (by decide) (by decide) ?_
      exact ⟨rfl, N49⟩
     ·skip
      refine Run.x_icmpYes (q := 253) X48 hx (hb hby at_246) (feq hc246).2 (by decide) (by decide) ?_
      refine Run.x_iconst (q := 254) X48 hx (hb hby at_253) (z := (0 : Int32)) rfl rfl ?_
      refine Run.x_istore (q := 256) X48 hx #[.val (.int p1), .val (.int p2), .val (.int p3), .val (.int p4), .val (.int p5), .val (.int 0), .val (.int 2), .val (.ref b25), .val (.int 3), .val (.int bq0), .val (.int bq1), .val (.int bq2), .val (.ref np27), .val (.ref np28), .val (.ref np29), .val (.int ((((0 : Int32) + (bq0 &&& (3 : Int32))) + (bq1 &&& (3 : Int32))) + (bq2 &&& (3 : Int32)))), .val (.int ((((0 : Int32) + (own_sm (own_es 2 bq0) 0)) + (own_sm (own_es 2 bq1) 0)) + (own_sm (own_es 2 bq2) 0))), .val (.int 0)] (hb hby at_254) rfl rfl ?_
      refine Run.x_aload (q := 258) X48 hx (hb hby at_256) rfl rfl rfl ?_
      have fin := own_fin2 ac3 (by decide)
      replace Ag26 := Ag26.keep K47 (ninS (Ne.symm ne_b25_gr) (ninS ne_gr_r0 (ninS ne_gr_r1 nin0)))
      refine Run.callVI (q := 261) X48 hx hZ e48 (y := (⟨"semblance/JpegScans", "complete", "()Z"⟩ : MethodName)) (z := (⟨"semblance/JpegScans", "complete", "()Z"⟩ : MethodName)) hown (wm26 hw) (wm27 hw) (notFace_of_selects (args := #[]) (mvT hZ (wm29 hw))) (wm29 hw) (wm28 hw) (wm2 hw) (wm30 hw) (by decide) (a := b25) E47 (argsL := []) (rest := []) (c_cmp_2 l Z a0 hw b25 T47.heap n0 Z47 gr r0 r1 s3 (0 : Int32) (fun _ => u3) (fun _ => v3) E47 F247 F447 Ag26 Ar0_47 Ar1_47 (fun h => absurd (fin.mp h) (fun q => hc246 q.2)) (fun _ => rfl)) pd_7 rfl (by rw [hml]; rfl) (W := 0) rfl (by decide) (by decide) (by decide) (by decide) (hb hby at_258) rfl rfl fun T50 L50 X50 M50 e50 => ?_
      have N50 := Fr.app N48 M50
      refine Run.x_iload (q := 263) X50 hx (hb hby at_261) rfl rfl ?_
      refine Run.x_icmpNo (q := 266) X50 hx (hb hby at_263) (teq (by decide : (0 : Int32) = (0 : Int32))).2 rfl ?_
      refine Run.x_iconst (q := 267) X50 hx (hb hby at_266) (z := (1 : Int32)) rfl rfl ?_
      refine Run.x_goto (q := 271) X50 hx (hb hby at_267) (by decide) (by decide) ?_
      refine Run.retN X50 hx hlk e50 (t := .boolean) hret (by simp) (z' := (1 : Int32)) (by decide) (hb hby at_271) (by decide) (by decide) ?_
      exact ⟨rfl, N50⟩
    ·skip
     refine Run.x_icmpYes (q := 253) X48 hx (hb hby at_234) (feq hc234).2 (by decide) (by decide) ?_
     refine Run.x_iconst (q := 254) X48 hx (hb hby at_253) (z := (0 : Int32)) rfl rfl ?_
     refine Run.x_istore (q := 256) X48 hx #[.val (.int p1), .val (.int p2), .val (.int p3), .val (.int p4), .val (.int p5), .val (.int 0), .val (.int 2), .val (.ref b25), .val (.int 3), .val (.int bq0), .val (.int bq1), .val (.int bq2), .val (.ref np27), .val (.ref np28), .val (.ref np29), .val (.int ((((0 : Int32) + (bq0 &&& (3 : Int32))) + (bq1 &&& (3 : Int32))) + (bq2 &&& (3 : Int32)))), .val (.int ((((0 : Int32) + (own_sm (own_es 2 bq0) 0)) + (own_sm (own_es 2 bq1) 0)) + (own_sm (own_es 2 bq2) 0))), .val (.int 0)] (hb hby at_254) rfl rfl ?_
     refine Run.x_aload (q := 258) X48 hx (hb hby at_256) rfl rfl rfl ?_
     have fin := own_fin2 ac3 (by decide)
     replace Ag26 := Ag26.keep K47 (ninS (Ne.symm ne_b25_gr) (ninS ne_gr_r0 (ninS ne_gr_r1 nin0)))
     refine Run.callVI (q := 261) X48 hx hZ e48 (y := (⟨"semblance/JpegScans", "complete", "()Z"⟩ : MethodName)) (z := (⟨"semblance/JpegScans", "complete", "()Z"⟩ : MethodName)) hown (wm26 hw) (wm27 hw) (notFace_of_selects (args := #[]) (mvT hZ (wm29 hw))) (wm29 hw) (wm28 hw) (wm2 hw) (wm30 hw) (by decide) (a := b25) E47 (argsL := []) (rest := []) (c_cmp_2 l Z a0 hw b25 T47.heap n0 Z47 gr r0 r1 s3 (0 : Int32) (fun _ => u3) (fun _ => v3) E47 F247 F447 Ag26 Ar0_47 Ar1_47 (fun h => absurd (fin.mp h) (fun q => hc234 q.1)) (fun _ => rfl)) pd_7 rfl (by rw [hml]; rfl) (W := 0) rfl (by decide) (by decide) (by decide) (by decide) (hb hby at_258) rfl rfl fun T51 L51 X51 M51 e51 => ?_
     have N51 := Fr.app N48 M51
     refine Run.x_iload (q := 263) X51 hx (hb hby at_261) rfl rfl ?_
     refine Run.x_icmpNo (q := 266) X51 hx (hb hby at_263) (teq (by decide : (0 : Int32) = (0 : Int32))).2 rfl ?_
     refine Run.x_iconst (q := 267) X51 hx (hb hby at_266) (z := (1 : Int32)) rfl rfl ?_
     refine Run.x_goto (q := 271) X51 hx (hb hby at_267) (by decide) (by decide) ?_
     refine Run.retN X51 hx hlk e51 (t := .boolean) hret (by simp) (z' := (1 : Int32)) (by decide) (hb hby at_271) (by decide) (by decide) ?_
     exact ⟨rfl, N51⟩
 ·skip
  refine Run.x_ifNo (q := 6) X0 hx (hb hby at_3) ((if0 _ _).trans (feq hc3).1) rfl ?_
  refine Run.x_iconst (q := 7) X0 hx (hb hby at_6) (z := (1 : Int32)) rfl rfl ?_
  refine Run.x_goto (q := 11) X0 hx (hb hby at_7) (by decide) (by decide) ?_
  refine Run.x_istore (q := 13) X0 hx #[.val (.int p1), .val (.int p2), .val (.int p3), .val (.int p4), .val (.int p5), .val (.int 1), .unset, .unset, .unset, .unset, .unset, .unset, .unset, .unset, .unset, .unset, .unset, .unset] (hb hby at_11) rfl rfl ?_
  refine Run.x_iconst (q := 14) X0 hx (hb hby at_13) (z := (1 : Int32)) rfl rfl ?_
  refine Run.x_iloadN (q := 15) X0 hx (hb hby at_14) rfl rfl ?_
  refine Run.x_iconst (q := 16) X0 hx (hb hby at_15) (z := (1 : Int32)) rfl rfl ?_
  refine Run.x_iushr (q := 17) X0 hx (hb hby at_16) rfl rfl ?_
  refine Run.x_iconst (q := 18) X0 hx (hb hby at_17) (z := (1 : Int32)) rfl rfl ?_
  refine Run.x_iand (q := 19) X0 hx (hb hby at_18) rfl rfl ?_
  refine Run.x_iadd (q := 20) X0 hx (hb hby at_19) rfl rfl ?_
  refine Run.x_istore (q := 22) X0 hx #[.val (.int p1), .val (.int p2), .val (.int p3), .val (.int p4), .val (.int p5), .val (.int 1), .val (.int ((1 : Int32) + (((p1.toUInt32 >>> ((1 : Int32) &&& 31).toUInt32).toInt32) &&& (1 : Int32)))), .unset, .unset, .unset, .unset, .unset, .unset, .unset, .unset, .unset, .unset, .unset] (hb hby at_20) rfl rfl ?_
  generalize hnn : ((1 : Int32) + (((p1.toUInt32 >>> ((1 : Int32) &&& 31).toUInt32).toInt32) &&& (1 : Int32))) = nn
  rcases own_n12 hnn with rfl | rfl
  ·skip
   show Run p e below s _ _ _ (T0.setTop (mkF m 22 #[.val (.int p1), .val (.int p2), .val (.int p3), .val (.int p4), .val (.int p5), .val (.int 1), .val (.int 1), .unset, .unset, .unset, .unset, .unset, .unset, .unset, .unset, .unset, .unset, .unset] []))
   obtain ⟨T52, h52, X52, e52, E52, A52, D52, -, st52⟩ := newO X0 hx hZ hown (wm0 hw) (wm1 hw) (wm2 hw) e0 (g := (mkF m 22 #[.val (.int p1), .val (.int p2), .val (.int p3), .val (.int p4), .val (.int p5), .val (.int 1), .val (.int 1), .unset, .unset, .unset, .unset, .unset, .unset, .unset, .unset, .unset, .unset, .unset] [])) rfl (hb hby at_22) (by decide) (by decide)
   obtain ⟨b52, gg52⟩ : ∃ z, z = h0.size := ⟨_, rfl⟩
   rw [← gg52] at A52 D52 st52
   have g_b52 : n0 ≤ b52 := Nat.le_trans Z0 (Nat.le_of_eq gg52.symm)
   have Z52 : n0 ≤ h52.size := Nat.le_trans Z0 E52.1
   have E_b52 := A52
   have F_b52_progressive : Fld Z h52 b52 "semblance/JpegScans" "progressive" "Z" (.int 0) := D52 (Or.inr (wm10 hw)) (ty := .boolean) (by decide)
   have F_b52_components : Fld Z h52 b52 "semblance/JpegScans" "components" "I" (.int 0) := D52 (Or.inr (wm12 hw)) (ty := .int) (by decide)
   have F_b52_sentTo : Fld Z h52 b52 "semblance/JpegScans" "sentTo" "[[I" .null := D52 (Or.inr (wm17 hw)) (ty := (.array (.array .int))) (by decide)
   have F_b52_sentAgain : Fld Z h52 b52 "semblance/JpegScans" "sentAgain" "Z" (.int 0) := D52 (Or.inl (wm32 hw)) (ty := .boolean) (by decide)
   have F_b52_count : Fld Z h52 b52 "semblance/JpegScans" "count" "I" (.int 0) := D52 (Or.inl (wm40 hw)) (ty := .int) (by decide)
   refine Run.st st52 ?_
   show Run p e below s _ _ _ (T52.setTop (mkF m 25 #[.val (.int p1), .val (.int p2), .val (.int p3), .val (.int p4), .val (.int p5), .val (.int 1), .val (.int 1), .unset, .unset, .unset, .unset, .unset, .unset, .unset, .unset, .unset, .unset, .unset] [(.ref b52)]))
   refine Run.x_dup (q := 26) X52 hx (hb hby at_25) rfl rfl ?_
   refine Run.x_iload (q := 28) X52 hx (hb hby at_26) rfl rfl ?_
   refine Run.x_iload (q := 30) X52 hx (hb hby at_28) rfl rfl ?_
   refine Run.callC X52 hx hZ e52 (y := (⟨"semblance/JpegScans", "<init>", "(ZI)V"⟩ : MethodName)) hown rfl (wm3 hw) (wm4 hw) (wm2 hw) (wm5 hw) (by decide) (a := b52) (argsL := [(.int 1), (.int 1)]) (rest := [(.ref b52)]) (c_init_1_1 l Z a0 hw b52 h52 n0 Z52 E_b52 F_b52_progressive F_b52_components F_b52_sentTo F_b52_count F_b52_sentAgain g_b52) pd_5 rfl (by rw [hml]; rfl) (W := 1) rfl (by decide) (by decide) (by decide) (by decide) (hb hby at_30) rfl ?_
   intro T53 v53 L53 X53 q53
   obtain ⟨gr, r0, rfl, M53, K53, sg, lt0, E53, F053, F153, F253, F353, F453, Ag53, Ar0_53⟩ := q53
   have N53 := Fr.app N0 M53
   show Run p e below s _ _ _ (T53.setTop (mkF m 33 #[.val (.int p1), .val (.int p2), .val (.int p3), .val (.int p4), .val (.int p5), .val (.int 1), .val (.int 1), .unset, .unset, .unset, .unset, .unset, .unset, .unset, .unset, .unset, .unset, .unset] [(.ref b52)]))
   have S_r0 := Nat.le_trans sg (Nat.le_of_lt lt0)
   have S_gr := sg
   have ne_b52_gr : b52 ≠ gr := Nat.ne_of_lt (Nat.lt_of_lt_of_le E_b52.lt S_gr)
   have g_gr : n0 ≤ gr := Nat.le_trans Z52 S_gr
   have ne_b52_r0 : b52 ≠ r0 := Nat.ne_of_lt (Nat.lt_of_lt_of_le E_b52.lt S_r0)
   have g_r0 : n0 ≤ r0 := Nat.le_trans Z52 S_r0
   have ne_gr_r0 : gr ≠ r0 := Nat.ne_of_lt lt0
   have Z53 : n0 ≤ T53.heap.size := Nat.le_trans Z52 K53.1
   refine Run.x_astore (q := 35) X53 hx #[.val (.int p1), .val (.int p2), .val (.int p3), .val (.int p4), .val (.int p5), .val (.int 1), .val (.int 1), .val (.ref b52), .unset, .unset, .unset, .unset, .unset, .unset, .unset, .unset, .unset, .unset] (hb hby at_33) rfl rfl rfl ?_
   refine Run.x_iload (q := 37) X53 hx (hb hby at_35) rfl rfl ?_
   refine Run.x_ifYes (q := 272) X53 hx (hb hby at_37) ((if0 _ _).trans (feq (by decide : ¬ ((1 : Int32) = (0 : Int32)))).2) (by decide) (by decide) ?_
   refine Run.x_iloadN (q := 273) X53 hx (hb hby at_272) rfl rfl ?_
   refine Run.st (B := T53.setTop (mkF m 275 #[.val (.int p1), .val (.int p2), .val (.int p3), .val (.int p4), .val (.int p5), .val (.int 1), .val (.int 1), .val (.ref b52), .unset, .unset, .unset, .unset, .unset, .unset, .unset, .unset, .unset, .unset] [(.int 2147483647), (.int p2)])) (fun t kt => X53.ldcInt hx hown (mvT hZ (wm33 hw)) (g := (mkF m 273 #[.val (.int p1), .val (.int p2), .val (.int p3), .val (.int p4), .val (.int p5), .val (.int 1), .val (.int 1), .val (.ref b52), .unset, .unset, .unset, .unset, .unset, .unset, .unset, .unset, .unset, .unset] [(.int p2)])) rfl (hb hby at_273) _ kt) ?_
   refine Run.x_iand (q := 276) X53 hx (hb hby at_275) rfl rfl ?_
   refine Run.x_bipush (q := 278) X53 hx (hb hby at_276) (z := (14 : Int32)) rfl rfl ?_
   refine Run.x_irem (q := 279) X53 hx (hb hby at_278) (by decide) rfl rfl ?_
   refine Run.x_istore (q := 281) X53 hx #[.val (.int p1), .val (.int p2), .val (.int p3), .val (.int p4), .val (.int p5), .val (.int 1), .val (.int 1), .val (.ref b52), .val (.int ((p2 &&& (2147483647 : Int32)) % (14 : Int32))), .unset, .unset, .unset, .unset, .unset, .unset, .unset, .unset, .unset] (hb hby at_279) rfl rfl ?_
   generalize hd : ((p2 &&& (2147483647 : Int32)) % (14 : Int32)) = d
   have rd := own_d_rg hd
   have J298 : ∀ (rr : Int32), (rr = 0 ∨ (rr = 1 ∧ ¬ d < (1 : Int32))) → Run p e below s (Tru n0) room_1.cells room_1.slots (T53.setTop (mkF m 298 #[.val (.int p1), .val (.int p2), .val (.int p3), .val (.int p4), .val (.int p5), .val (.int 1), .val (.int 1), .val (.ref b52), .val (.int d), .unset, .unset, .unset, .unset, .unset, .unset, .unset, .unset, .unset] [(.int rr)])) := by
    intro rr hrr
    rcases hrr with rfl | ⟨rfl, hd1⟩
    ·skip
     refine Run.x_istore (q := 300) X53 hx #[.val (.int p1), .val (.int p2), .val (.int p3), .val (.int p4), .val (.int p5), .val (.int 1), .val (.int 1), .val (.ref b52), .val (.int d), .val (.int 0), .unset, .unset, .unset, .unset, .unset, .unset, .unset, .unset] (hb hby at_298) rfl rfl ?_
     refine Run.x_iload (q := 302) X53 hx (hb hby at_300) rfl rfl ?_
     refine Run.x_iconst (q := 303) X53 hx (hb hby at_302) (z := (1 : Int32)) rfl rfl ?_
     refine Run.x_icmpNo (q := 306) X53 hx (hb hby at_303) (teq (by decide : (1 : Int32) = (1 : Int32))).2 rfl ?_
     refine Run.x_iconst (q := 307) X53 hx (hb hby at_306) (z := (1 : Int32)) rfl rfl ?_
     refine Run.newP (aty := .int) X53 hx hZ rfl (wm15 hw) (hb hby at_307) (len := 1) (by decide) (by decide) (cap := 1) (by decide) (by decide) (by decide) (by decide) ?_
     intro T54 h54 b54 gg54 X54 e54 E54 A_b54
     have g_b54 : n0 ≤ b54 := Nat.le_trans Z53 (Nat.le_of_eq gg54.symm)
     have ne_b52_b54 : b52 ≠ b54 := Nat.ne_of_lt (Nat.lt_of_lt_of_le E53.lt (Nat.le_of_eq gg54.symm))
     have ne_gr_b54 : gr ≠ b54 := Nat.ne_of_lt (Nat.lt_of_lt_of_le Ag53.lt (Nat.le_of_eq gg54.symm))
     have ne_r0_b54 : r0 ≠ b54 := Nat.ne_of_lt (Nat.lt_of_lt_of_le Ar0_53.lt (Nat.le_of_eq gg54.symm))
     have Z54 : n0 ≤ h54.size := Nat.le_trans Z53 E54.1
     replace A_b54 : Ars Z h54 b54 .int [(.int 0)] := A_b54
     show Run p e below s _ _ _ (T54.setTop (mkF m 309 #[.val (.int p1), .val (.int p2), .val (.int p3), .val (.int p4), .val (.int p5), .val (.int 1), .val (.int 1), .val (.ref b52), .val (.int d), .val (.int 0), .unset, .unset, .unset, .unset, .unset, .unset, .unset, .unset] [(.ref b54)]))
     refine Run.x_dup (q := 310) X54 hx (hb hby at_309) rfl rfl ?_
     refine Run.x_iconst (q := 311) X54 hx (hb hby at_310) (z := (0 : Int32)) rfl rfl ?_
     refine Run.x_iconst (q := 312) X54 hx (hb hby at_311) (z := (0 : Int32)) rfl rfl ?_
     refine Run.y_stI (q := 313) X54 hx hZ e54 A_b54 (i := 0) (by decide) (Nat.le_of_ble_eq_true rfl) (hb hby at_312) rfl fun T55 h55 X55 e55 W55 A55 => ?_
     replace A_b54 : Ars Z h55 b54 .int [(.int 0)] := A55
     have N55 := Fr.snoc X55 N53 g_b54
     have Z55 : n0 ≤ h55.size := Nat.le_trans Z54 (Nat.le_of_eq W55.size.symm)
     refine Run.x_goto (q := 327) X55 hx (hb hby at_313) (by decide) (by decide) ?_
     refine Run.x_astore (q := 329) X55 hx #[.val (.int p1), .val (.int p2), .val (.int p3), .val (.int p4), .val (.int p5), .val (.int 1), .val (.int 1), .val (.ref b52), .val (.int d), .val (.int 0), .val (.ref b54), .unset, .unset, .unset, .unset, .unset, .unset, .unset] (hb hby at_327) rfl rfl rfl ?_
     refine Run.x_iconst (q := 330) X55 hx (hb hby at_329) (z := (1 : Int32)) rfl rfl ?_
     refine Run.newP (aty := .int) X55 hx hZ e55 (wm15 hw) (hb hby at_330) (len := 1) (by decide) (by decide) (cap := 1) (by decide) (by decide) (by decide) (by decide) ?_
     intro T56 h56 b56 gg56 X56 e56 E56 A_b56
     have g_b56 : n0 ≤ b56 := Nat.le_trans Z55 (Nat.le_of_eq gg56.symm)
     replace E53 := (E53.ext E54).wr W55
     have ne_b52_b56 : b52 ≠ b56 := Nat.ne_of_lt (Nat.lt_of_lt_of_le E53.lt (Nat.le_of_eq gg56.symm))
     replace Ag53 := (Ag53.ext E54).other W55 ne_gr_b54
     have ne_gr_b56 : gr ≠ b56 := Nat.ne_of_lt (Nat.lt_of_lt_of_le Ag53.lt (Nat.le_of_eq gg56.symm))
     replace Ar0_53 := (Ar0_53.ext E54).other W55 ne_r0_b54
     have ne_r0_b56 : r0 ≠ b56 := Nat.ne_of_lt (Nat.lt_of_lt_of_le Ar0_53.lt (Nat.le_of_eq gg56.symm))
     have ne_b54_b56 : b54 ≠ b56 := Nat.ne_of_lt (Nat.lt_of_lt_of_le A_b54.lt (Nat.le_of_eq gg56.symm))
     have Z56 : n0 ≤ h56.size := Nat.le_trans Z55 E56.1
     replace A_b56 : Ars Z h56 b56 .int [(.int 0)] := A_b56
     show Run p e below s _ _ _ (T56.setTop (mkF m 332 #[.val (.int p1), .val (.int p2), .val (.int p3), .val (.int p4), .val (.int p5), .val (.int 1), .val (.int 1), .val (.ref b52), .val (.int d), .val (.int 0), .val (.ref b54), .unset, .unset, .unset, .unset, .unset, .unset, .unset] [(.ref b56)]))
     refine Run.x_dup (q := 333) X56 hx (hb hby at_332) rfl rfl ?_
     refine Run.x_iconst (q := 334) X56 hx (hb hby at_333) (z := (0 : Int32)) rfl rfl ?_
     refine Run.x_iconst (q := 335) X56 hx (hb hby at_334) (z := (0 : Int32)) rfl rfl ?_
     refine Run.y_stI (q := 336) X56 hx hZ e56 A_b56 (i := 0) (by decide) (Nat.le_of_ble_eq_true rfl) (hb hby at_335) rfl fun T57 h57 X57 e57 W57 A57 => ?_
     replace A_b56 : Ars Z h57 b56 .int [(.int 0)] := A57
     have N57 := Fr.snoc X57 N55 g_b56
     have Z57 : n0 ≤ h57.size := Nat.le_trans Z56 (Nat.le_of_eq W57.size.symm)
     refine Run.x_astore (q := 338) X57 hx #[.val (.int p1), .val (.int p2), .val (.int p3), .val (.int p4), .val (.int p5), .val (.int 1), .val (.int 1), .val (.ref b52), .val (.int d), .val (.int 0), .val (.ref b54), .val (.ref b56), .unset, .unset, .unset, .unset, .unset, .unset] (hb hby at_336) rfl rfl rfl ?_
     refine Run.x_iconst (q := 339) X57 hx (hb hby at_338) (z := (1 : Int32)) rfl rfl ?_
     refine Run.newP (aty := .int) X57 hx hZ e57 (wm15 hw) (hb hby at_339) (len := 1) (by decide) (by decide) (cap := 1) (by decide) (by decide) (by decide) (by decide) ?_
     intro T58 h58 b58 gg58 X58 e58 E58 A_b58
     have g_b58 : n0 ≤ b58 := Nat.le_trans Z57 (Nat.le_of_eq gg58.symm)
     replace E53 := (E53.ext E56).wr W57
     have ne_b52_b58 : b52 ≠ b58 := Nat.ne_of_lt (Nat.lt_of_lt_of_le E53.lt (Nat.le_of_eq gg58.symm))
     replace Ag53 := (Ag53.ext E56).other W57 ne_gr_b56
     have ne_gr_b58 : gr ≠ b58 := Nat.ne_of_lt (Nat.lt_of_lt_of_le Ag53.lt (Nat.le_of_eq gg58.symm))
     replace Ar0_53 := (Ar0_53.ext E56).other W57 ne_r0_b56
     have ne_r0_b58 : r0 ≠ b58 := Nat.ne_of_lt (Nat.lt_of_lt_of_le Ar0_53.lt (Nat.le_of_eq gg58.symm))
     replace A_b54 := (A_b54.ext E56).other W57 ne_b54_b56
     have ne_b54_b58 : b54 ≠ b58 := Nat.ne_of_lt (Nat.lt_of_lt_of_le A_b54.lt (Nat.le_of_eq gg58.symm))
     have ne_b56_b58 : b56 ≠ b58 := Nat.ne_of_lt (Nat.lt_of_lt_of_le A_b56.lt (Nat.le_of_eq gg58.symm))
     have Z58 : n0 ≤ h58.size := Nat.le_trans Z57 E58.1
     replace A_b58 : Ars Z h58 b58 .int [(.int 0)] := A_b58
     show Run p e below s _ _ _ (T58.setTop (mkF m 341 #[.val (.int p1), .val (.int p2), .val (.int p3), .val (.int p4), .val (.int p5), .val (.int 1), .val (.int 1), .val (.ref b52), .val (.int d), .val (.int 0), .val (.ref b54), .val (.ref b56), .unset, .unset, .unset, .unset, .unset, .unset] [(.ref b58)]))
     refine Run.x_dup (q := 342) X58 hx (hb hby at_341) rfl rfl ?_
     refine Run.x_iconst (q := 343) X58 hx (hb hby at_342) (z := (0 : Int32)) rfl rfl ?_
     refine Run.x_iconst (q := 344) X58 hx (hb hby at_343) (z := (1 : Int32)) rfl rfl ?_
     refine Run.y_stI (q := 345) X58 hx hZ e58 A_b58 (i := 0) (by decide) (Nat.le_of_ble_eq_true rfl) (hb hby at_344) rfl fun T59 h59 X59 e59 W59 A59 => ?_
     replace A_b58 : Ars Z h59 b58 .int [(.int 1)] := A59
     have N59 := Fr.snoc X59 N57 g_b58
     have Z59 : n0 ≤ h59.size := Nat.le_trans Z58 (Nat.le_of_eq W59.size.symm)
     refine Run.x_astore (q := 347) X59 hx #[.val (.int p1), .val (.int p2), .val (.int p3), .val (.int p4), .val (.int p5), .val (.int 1), .val (.int 1), .val (.ref b52), .val (.int d), .val (.int 0), .val (.ref b54), .val (.ref b56), .val (.ref b58), .unset, .unset, .unset, .unset, .unset] (hb hby at_345) rfl rfl rfl ?_
     refine Run.x_aload (q := 349) X59 hx (hb hby at_347) rfl rfl rfl ?_
     refine Run.x_aload (q := 351) X59 hx (hb hby at_349) rfl rfl rfl ?_
     refine Run.x_iconst (q := 352) X59 hx (hb hby at_351) (z := (0 : Int32)) rfl rfl ?_
     refine Run.x_iconst (q := 353) X59 hx (hb hby at_352) (z := (0 : Int32)) rfl rfl ?_
     refine Run.x_iconst (q := 354) X59 hx (hb hby at_353) (z := (0 : Int32)) rfl rfl ?_
     refine Run.x_iload (q := 356) X59 hx (hb hby at_354) rfl rfl ?_
     replace E53 := (E53.ext E58).wr W59
     replace F053 := (((((F053.ext E54).other W55 (Or.inl ne_b52_b54)).ext E56).other W57 (Or.inl ne_b52_b56)).ext E58).other W59 (Or.inl ne_b52_b58)
     replace F153 := (((((F153.ext E54).other W55 (Or.inl ne_b52_b54)).ext E56).other W57 (Or.inl ne_b52_b56)).ext E58).other W59 (Or.inl ne_b52_b58)
     replace F253 := (((((F253.ext E54).other W55 (Or.inl ne_b52_b54)).ext E56).other W57 (Or.inl ne_b52_b56)).ext E58).other W59 (Or.inl ne_b52_b58)
     replace F353 := (((((F353.ext E54).other W55 (Or.inl ne_b52_b54)).ext E56).other W57 (Or.inl ne_b52_b56)).ext E58).other W59 (Or.inl ne_b52_b58)
     replace F453 := (((((F453.ext E54).other W55 (Or.inl ne_b52_b54)).ext E56).other W57 (Or.inl ne_b52_b56)).ext E58).other W59 (Or.inl ne_b52_b58)
     replace Ag53 := (Ag53.ext E58).other W59 ne_gr_b58
     replace Ar0_53 := (Ar0_53.ext E58).other W59 ne_r0_b58
     replace A_b54 := (A_b54.ext E58).other W59 ne_b54_b58
     refine Run.callV X59 hx hZ e59 (y := (⟨"semblance/JpegScans", "take", "([IIIII)Z"⟩ : MethodName)) (z := (⟨"semblance/JpegScans", "take", "([IIIII)Z"⟩ : MethodName)) hown (wm34 hw) (wm35 hw) (notFace_of_selects (args := #[]) (mvT hZ (wm37 hw))) (wm37 hw) (wm36 hw) (wm2 hw) (wm38 hw) (by decide) (a := b52) E53 (argsL := [(.ref b54), (.int 0), (.int 0), (.int 0), (.int d)]) (rest := []) (c_dc_1_0 l Z a0 hw b52 b54 d h59 n0 Z59 gr r0 (0 : Int32) (0 : Int32) (fun _ => (-1 : Int32)) E53 F053 F153 F253 F353 F453 Ag53 Ar0_53 A_b54 g_b52 g_r0 ne_b52_gr ne_b52_r0 ne_b52_b54 ne_gr_r0 ne_gr_b54 ne_r0_b54 (by decide) rd (by decide)) pd_3 rfl (by rw [hml]; rfl) (W := 0) rfl (by decide) (by decide) (by decide) (by decide) (hb hby at_356) rfl ?_
     intro T60 v60 L60 X60 q60
     obtain ⟨bb60, rfl, M60, K60, E60, F060, F160, F260, F360, F460, Ar0_60⟩ := q60
     have N60 := Fr.app N59 M60
     show Run p e below s _ _ _ (T60.setTop (mkF m 359 #[.val (.int p1), .val (.int p2), .val (.int p3), .val (.int p4), .val (.int p5), .val (.int 1), .val (.int 1), .val (.ref b52), .val (.int d), .val (.int 0), .val (.ref b54), .val (.ref b56), .val (.ref b58), .unset, .unset, .unset, .unset, .unset] [(.int bb60)]))
     have Z60 : n0 ≤ T60.heap.size := Nat.le_trans Z59 K60.1
     refine Run.x_pop (q := 360) X60 hx (hb hby at_359) rfl rfl ?_
     refine Run.x_iload (q := 362) X60 hx (hb hby at_360) rfl rfl ?_
     refine Run.x_ifYes (q := 381) X60 hx (hb hby at_362) ((if0 _ _).trans (teq (by decide : (0 : Int32) = (0 : Int32))).1) (by decide) (by decide) ?_
     have k0 : (own_upd (fun _ => (-1 : Int32)) 0 d) 0 = d := own_upd_self
     have km : ∀ i, 1 ≤ i → i < 64 → (own_upd (fun _ => (-1 : Int32)) 0 d) i = -1 := fun i q _ => (own_upd_ne (by omega)).trans rfl
     have rD : 0 ≤ d.toInt ∧ d.toInt ≤ 13 := rd
     obtain ⟨ee0, hee0⟩ : ∃ z, own_e p3 = z := ⟨_, rfl⟩
     obtain ⟨bA0, hbA0⟩ : ∃ z, own_A p3 = z := ⟨_, rfl⟩
     obtain ⟨bB0, hbB0⟩ : ∃ z, own_B p3 = z := ⟨_, rfl⟩
     obtain ⟨E0, hE0, hE10, hE20⟩ := own_e_rg hee0
     refine Run.x_aload (q := 383) X60 hx (hb hby at_381) rfl rfl rfl ?_
     refine Run.x_aload (q := 385) X60 hx (hb hby at_383) rfl rfl rfl ?_
     refine Run.x_iloadN (q := 386) X60 hx (hb hby at_385) rfl rfl ?_
     have J398 : ∀ (aq : Int32), (aq = (own_b (¬ (p1 &&& (8 : Int32)) = (0 : Int32)))) → Run p e below s (Tru n0) room_1.cells room_1.slots (T60.setTop (mkF m 398 #[.val (.int p1), .val (.int p2), .val (.int p3), .val (.int p4), .val (.int p5), .val (.int 1), .val (.int 1), .val (.ref b52), .val (.int d), .val (.int 0), .val (.ref b54), .val (.ref b56), .val (.ref b58), .unset, .unset, .unset, .unset, .unset] [(.int aq), (.int p3), (.ref b56), (.ref b52)])) := by
      intro aq haq
      subst haq
      have J410 : ∀ (aq : Int32), (aq = (own_b (¬ (p1 &&& (16 : Int32)) = (0 : Int32)))) → Run p e below s (Tru n0) room_1.cells room_1.slots (T60.setTop (mkF m 410 #[.val (.int p1), .val (.int p2), .val (.int p3), .val (.int p4), .val (.int p5), .val (.int 1), .val (.int 1), .val (.ref b52), .val (.int d), .val (.int 0), .val (.ref b54), .val (.ref b56), .val (.ref b58), .unset, .unset, .unset, .unset, .unset] [(.int aq), (.int (own_b (¬ (p1 &&& (8 : Int32)) = (0 : Int32)))), (.int p3), (.ref b56), (.ref b52)])) := by
       intro aq haq
       subst haq
       replace Ag53 := Ag53.keep K60 (ninS (Ne.symm ne_b52_gr) (ninS ne_gr_r0 nin0))
       replace A_b56 := ((A_b56.ext E58).other W59 ne_b56_b58).keep K60 (ninS (Ne.symm ne_b52_b56) (ninS (Ne.symm ne_r0_b56) nin0))
       refine Run.callS X60 hx hZ rfl (y := (⟨"semblance/JpegScansCompletePinLaw", "send", "(Lsemblance/JpegScans;[IIZZ)V"⟩ : MethodName)) hown (wm45 hw) (wm46 hw) (wm24 hw) (wm47 hw) (by decide) (argsL := [(.ref b52), (.ref b56), (.int p3), (.int (own_b (¬ (p1 &&& (8 : Int32)) = (0 : Int32)))), (.int (own_b (¬ (p1 &&& (16 : Int32)) = (0 : Int32))))]) (rest := []) (c_send_1_0 l Z a0 hw b52 b56 p3 (own_b (¬ (p1 &&& (8 : Int32)) = (0 : Int32))) (own_b (¬ (p1 &&& (16 : Int32)) = (0 : Int32))) T60.heap n0 Z60 gr r0 ((0 : Int32) + (1 : Int32)) (0 : Int32) (own_upd (fun _ => (-1 : Int32)) 0 d) ee0 bA0 bB0 E0 E60 F060 F160 F260 F360 F460 Ag53 Ar0_60 A_b56 g_b52 g_r0 ne_b52_gr ne_b52_r0 ne_b52_b56 ne_gr_r0 ne_gr_b56 ne_r0_b56 (by decide) hee0 hbA0 hbB0 hE0 hE10 hE20 (by rw [k0]; exact rD.1) km) pd_8 rfl (by rw [hml]; rfl) (W := 0) rfl (by decide) (by decide) (by decide) (by decide) (hb hby at_410) rfl ?_
       intro T61 v61 L61 X61 q61
       obtain ⟨g0, ct0, rfl, M61, K61, hct0, ya0, yb0, yc0, E61, F061, F161, F261, F361, F461, Ar0_61⟩ := q61
       have N61 := Fr.app N60 M61
       show Run p e below s _ _ _ (T61.setTop (mkF m 413 #[.val (.int p1), .val (.int p2), .val (.int p3), .val (.int p4), .val (.int p5), .val (.int 1), .val (.int 1), .val (.ref b52), .val (.int d), .val (.int 0), .val (.ref b54), .val (.ref b56), .val (.ref b58), .unset, .unset, .unset, .unset, .unset] []))
       have Z61 : n0 ≤ T61.heap.size := Nat.le_trans Z60 K61.1
       refine Run.x_iload (q := 415) X61 hx (hb hby at_413) rfl rfl ?_
       refine Run.x_iconst (q := 416) X61 hx (hb hby at_415) (z := (2 : Int32)) rfl rfl ?_
       refine Run.x_icmpYes (q := 451) X61 hx (hb hby at_416) (feq (by decide : ¬ ((1 : Int32) = (2 : Int32)))).2 (by decide) (by decide) ?_
       have J472 : ∀ (dd : Int32), (dd = (own_b (d = (0 : Int32)))) → Run p e below s (Tru n0) room_1.cells room_1.slots (T61.setTop (mkF m 472 #[.val (.int p1), .val (.int p2), .val (.int p3), .val (.int p4), .val (.int p5), .val (.int 1), .val (.int 1), .val (.ref b52), .val (.int d), .val (.int 0), .val (.ref b54), .val (.ref b56), .val (.ref b58), .unset, .unset, .unset, .unset, .unset] [(.int dd)])) := by
        intro dd hdd
        subst hdd
        refine Run.x_istore (q := 474) X61 hx #[.val (.int p1), .val (.int p2), .val (.int p3), .val (.int p4), .val (.int p5), .val (.int 1), .val (.int 1), .val (.ref b52), .val (.int d), .val (.int 0), .val (.ref b54), .val (.ref b56), .val (.ref b58), .val (.int (own_b (d = (0 : Int32)))), .unset, .unset, .unset, .unset] (hb hby at_472) rfl rfl ?_
        refine Run.x_iloadN (q := 475) X61 hx (hb hby at_474) rfl rfl ?_
        have J487 : ∀ (aq : Int32), (aq = (own_b (¬ (p1 &&& (8 : Int32)) = (0 : Int32)))) → Run p e below s (Tru n0) room_1.cells room_1.slots (T61.setTop (mkF m 487 #[.val (.int p1), .val (.int p2), .val (.int p3), .val (.int p4), .val (.int p5), .val (.int 1), .val (.int 1), .val (.ref b52), .val (.int d), .val (.int 0), .val (.ref b54), .val (.ref b56), .val (.ref b58), .val (.int (own_b (d = (0 : Int32)))), .unset, .unset, .unset, .unset] [(.int aq), (.int p3)])) := by
         intro aq haq
         subst haq
         have J499 : ∀ (aq : Int32), (aq = (own_b (¬ (p1 &&& (16 : Int32)) = (0 : Int32)))) → Run p e below s (Tru n0) room_1.cells room_1.slots (T61.setTop (mkF m 499 #[.val (.int p1), .val (.int p2), .val (.int p3), .val (.int p4), .val (.int p5), .val (.int 1), .val (.int 1), .val (.ref b52), .val (.int d), .val (.int 0), .val (.ref b54), .val (.ref b56), .val (.ref b58), .val (.int (own_b (d = (0 : Int32)))), .unset, .unset, .unset, .unset] [(.int aq), (.int (own_b (¬ (p1 &&& (8 : Int32)) = (0 : Int32)))), (.int p3)])) := by
          intro aq haq
          subst haq
          refine Run.callSI (q := 502) X61 hx hZ rfl (y := (⟨"semblance/JpegScansCompletePinLaw", "done", "(IZZ)Z"⟩ : MethodName)) hown (wm58 hw) (wm59 hw) (wm24 hw) (wm60 hw) (by decide) (argsL := [(.int p3), (.int (own_b (¬ (p1 &&& (8 : Int32)) = (0 : Int32)))), (.int (own_b (¬ (p1 &&& (16 : Int32)) = (0 : Int32))))]) (rest := []) (c_done l Z a0 hw p3 (own_b (¬ (p1 &&& (8 : Int32)) = (0 : Int32))) (own_b (¬ (p1 &&& (16 : Int32)) = (0 : Int32))) T61.heap n0 Z61 ee0 bA0 bB0 E0 hee0 hbA0 hbB0 hE0 hE10 hE20) pd_9 rfl (by rw [hml]; rfl) (W := 0) rfl (by decide) (by decide) (by decide) (by decide) (hb hby at_499) rfl rfl fun T62 L62 X62 M62 e62 => ?_
          have N62 := Fr.app N61 M62
          refine Run.x_istore (q := 504) X62 hx #[.val (.int p1), .val (.int p2), .val (.int p3), .val (.int p4), .val (.int p5), .val (.int 1), .val (.int 1), .val (.ref b52), .val (.int d), .val (.int 0), .val (.ref b54), .val (.ref b56), .val (.ref b58), .val (.int (own_b (d = (0 : Int32)))), .val (.int (own_b (own_AA (own_b (¬ (p1 &&& (8 : Int32)) = (0 : Int32))) bA0 = 0 ∧ (ee0 = 63 ∨ own_BB (own_b (¬ (p1 &&& (16 : Int32)) = (0 : Int32))) ee0 bB0 = 0)))), .unset, .unset, .unset] (hb hby at_502) rfl rfl ?_
          refine Run.x_iload (q := 506) X62 hx (hb hby at_504) rfl rfl ?_
          refine Run.x_iconst (q := 507) X62 hx (hb hby at_506) (z := (1 : Int32)) rfl rfl ?_
          refine Run.x_icmpYes (q := 541) X62 hx (hb hby at_507) (teq (by decide : (1 : Int32) = (1 : Int32))).1 (by decide) (by decide) ?_
          refine Run.x_iconst (q := 542) X62 hx (hb hby at_541) (z := (1 : Int32)) rfl rfl ?_
          refine Run.x_goto (q := 546) X62 hx (hb hby at_542) (by decide) (by decide) ?_
          refine Run.x_istore (q := 548) X62 hx #[.val (.int p1), .val (.int p2), .val (.int p3), .val (.int p4), .val (.int p5), .val (.int 1), .val (.int 1), .val (.ref b52), .val (.int d), .val (.int 0), .val (.ref b54), .val (.ref b56), .val (.ref b58), .val (.int (own_b (d = (0 : Int32)))), .val (.int (own_b (own_AA (own_b (¬ (p1 &&& (8 : Int32)) = (0 : Int32))) bA0 = 0 ∧ (ee0 = 63 ∨ own_BB (own_b (¬ (p1 &&& (16 : Int32)) = (0 : Int32))) ee0 bB0 = 0)))), .val (.int 1), .unset, .unset] (hb hby at_546) rfl rfl ?_
          refine Run.x_iload (q := 550) X62 hx (hb hby at_548) rfl rfl ?_
          by_cases hc550 : (own_b (d = (0 : Int32))) = (0 : Int32)
          ·skip
           refine Run.x_ifYes (q := 567) X62 hx (hb hby at_550) ((if0 _ _).trans (teq hc550).1) (by decide) (by decide) ?_
           refine Run.x_iconst (q := 568) X62 hx (hb hby at_567) (z := (0 : Int32)) rfl rfl ?_
           refine Run.x_istore (q := 570) X62 hx #[.val (.int p1), .val (.int p2), .val (.int p3), .val (.int p4), .val (.int p5), .val (.int 1), .val (.int 1), .val (.ref b52), .val (.int d), .val (.int 0), .val (.ref b54), .val (.ref b56), .val (.ref b58), .val (.int (own_b (d = (0 : Int32)))), .val (.int (own_b (own_AA (own_b (¬ (p1 &&& (8 : Int32)) = (0 : Int32))) bA0 = 0 ∧ (ee0 = 63 ∨ own_BB (own_b (¬ (p1 &&& (16 : Int32)) = (0 : Int32))) ee0 bB0 = 0)))), .val (.int 1), .val (.int 0), .unset] (hb hby at_568) rfl rfl ?_
           refine Run.x_aload (q := 572) X62 hx (hb hby at_570) rfl rfl rfl ?_
           have zr0 := own_zr hE0 hE10 hE20 (ya0.trans k0) yb0 yc0
           replace Ag53 := Ag53.keep K61 (ninS (Ne.symm ne_b52_gr) (ninS ne_gr_r0 nin0))
           refine Run.callVI (q := 575) X62 hx hZ e62 (y := (⟨"semblance/JpegScans", "complete", "()Z"⟩ : MethodName)) (z := (⟨"semblance/JpegScans", "complete", "()Z"⟩ : MethodName)) hown (wm26 hw) (wm27 hw) (notFace_of_selects (args := #[]) (mvT hZ (wm29 hw))) (wm29 hw) (wm28 hw) (wm2 hw) (wm30 hw) (by decide) (a := b52) E61 (argsL := []) (rest := []) (c_cmp_1 l Z a0 hw b52 T61.heap n0 Z61 gr r0 (0 : Int32) (0 : Int32) g0 E61 F261 F461 Ag53 Ar0_61 (fun h => (own_beq hc550 (zr0.mp h.2).1).elim) (fun _ => rfl)) pd_7 rfl (by rw [hml]; rfl) (W := 0) rfl (by decide) (by decide) (by decide) (by decide) (hb hby at_572) rfl rfl fun T63 L63 X63 M63 e63 => ?_
           have N63 := Fr.app N62 M63
           refine Run.x_iload (q := 577) X63 hx (hb hby at_575) rfl rfl ?_
           refine Run.x_icmpNo (q := 580) X63 hx (hb hby at_577) (teq (by decide : (0 : Int32) = (0 : Int32))).2 rfl ?_
           refine Run.x_iconst (q := 581) X63 hx (hb hby at_580) (z := (1 : Int32)) rfl rfl ?_
           refine Run.x_goto (q := 585) X63 hx (hb hby at_581) (by decide) (by decide) ?_
           refine Run.retN X63 hx hlk e63 (t := .boolean) hret (by simp) (z' := (1 : Int32)) (by decide) (hb hby at_585) (by decide) (by decide) ?_
           exact ⟨rfl, N63⟩
          ·skip
           refine Run.x_ifNo (q := 553) X62 hx (hb hby at_550) ((if0 _ _).trans (feq hc550).1) rfl ?_
           refine Run.x_iload (q := 555) X62 hx (hb hby at_553) rfl rfl ?_
           by_cases hc555 : (own_b (own_AA (own_b (¬ (p1 &&& (8 : Int32)) = (0 : Int32))) bA0 = 0 ∧ (ee0 = 63 ∨ own_BB (own_b (¬ (p1 &&& (16 : Int32)) = (0 : Int32))) ee0 bB0 = 0))) = (0 : Int32)
           ·skip
            refine Run.x_ifYes (q := 567) X62 hx (hb hby at_555) ((if0 _ _).trans (teq hc555).1) (by decide) (by decide) ?_
            refine Run.x_iconst (q := 568) X62 hx (hb hby at_567) (z := (0 : Int32)) rfl rfl ?_
            refine Run.x_istore (q := 570) X62 hx #[.val (.int p1), .val (.int p2), .val (.int p3), .val (.int p4), .val (.int p5), .val (.int 1), .val (.int 1), .val (.ref b52), .val (.int d), .val (.int 0), .val (.ref b54), .val (.ref b56), .val (.ref b58), .val (.int (own_b (d = (0 : Int32)))), .val (.int (own_b (own_AA (own_b (¬ (p1 &&& (8 : Int32)) = (0 : Int32))) bA0 = 0 ∧ (ee0 = 63 ∨ own_BB (own_b (¬ (p1 &&& (16 : Int32)) = (0 : Int32))) ee0 bB0 = 0)))), .val (.int 1), .val (.int 0), .unset] (hb hby at_568) rfl rfl ?_
            refine Run.x_aload (q := 572) X62 hx (hb hby at_570) rfl rfl rfl ?_
            have zr0 := own_zr hE0 hE10 hE20 (ya0.trans k0) yb0 yc0
            replace Ag53 := Ag53.keep K61 (ninS (Ne.symm ne_b52_gr) (ninS ne_gr_r0 nin0))
            refine Run.callVI (q := 575) X62 hx hZ e62 (y := (⟨"semblance/JpegScans", "complete", "()Z"⟩ : MethodName)) (z := (⟨"semblance/JpegScans", "complete", "()Z"⟩ : MethodName)) hown (wm26 hw) (wm27 hw) (notFace_of_selects (args := #[]) (mvT hZ (wm29 hw))) (wm29 hw) (wm28 hw) (wm2 hw) (wm30 hw) (by decide) (a := b52) E61 (argsL := []) (rest := []) (c_cmp_1 l Z a0 hw b52 T61.heap n0 Z61 gr r0 (0 : Int32) (0 : Int32) g0 E61 F261 F461 Ag53 Ar0_61 (fun h => (own_beq hc555 (zr0.mp h.2).2).elim) (fun _ => rfl)) pd_7 rfl (by rw [hml]; rfl) (W := 0) rfl (by decide) (by decide) (by decide) (by decide) (hb hby at_572) rfl rfl fun T64 L64 X64 M64 e64 => ?_
            have N64 := Fr.app N62 M64
            refine Run.x_iload (q := 577) X64 hx (hb hby at_575) rfl rfl ?_
            refine Run.x_icmpNo (q := 580) X64 hx (hb hby at_577) (teq (by decide : (0 : Int32) = (0 : Int32))).2 rfl ?_
            refine Run.x_iconst (q := 581) X64 hx (hb hby at_580) (z := (1 : Int32)) rfl rfl ?_
            refine Run.x_goto (q := 585) X64 hx (hb hby at_581) (by decide) (by decide) ?_
            refine Run.retN X64 hx hlk e64 (t := .boolean) hret (by simp) (z' := (1 : Int32)) (by decide) (hb hby at_585) (by decide) (by decide) ?_
            exact ⟨rfl, N64⟩
           ·skip
            refine Run.x_ifNo (q := 558) X62 hx (hb hby at_555) ((if0 _ _).trans (feq hc555).1) rfl ?_
            refine Run.x_iload (q := 560) X62 hx (hb hby at_558) rfl rfl ?_
            refine Run.x_ifNo (q := 563) X62 hx (hb hby at_560) ((if0 _ _).trans (feq (by decide : ¬ ((1 : Int32) = (0 : Int32)))).1) rfl ?_
            refine Run.x_iconst (q := 564) X62 hx (hb hby at_563) (z := (1 : Int32)) rfl rfl ?_
            refine Run.x_goto (q := 568) X62 hx (hb hby at_564) (by decide) (by decide) ?_
            refine Run.x_istore (q := 570) X62 hx #[.val (.int p1), .val (.int p2), .val (.int p3), .val (.int p4), .val (.int p5), .val (.int 1), .val (.int 1), .val (.ref b52), .val (.int d), .val (.int 0), .val (.ref b54), .val (.ref b56), .val (.ref b58), .val (.int (own_b (d = (0 : Int32)))), .val (.int (own_b (own_AA (own_b (¬ (p1 &&& (8 : Int32)) = (0 : Int32))) bA0 = 0 ∧ (ee0 = 63 ∨ own_BB (own_b (¬ (p1 &&& (16 : Int32)) = (0 : Int32))) ee0 bB0 = 0)))), .val (.int 1), .val (.int 1), .unset] (hb hby at_568) rfl rfl ?_
            refine Run.x_aload (q := 572) X62 hx (hb hby at_570) rfl rfl rfl ?_
            have zr0 := own_zr hE0 hE10 hE20 (ya0.trans k0) yb0 yc0
            replace Ag53 := Ag53.keep K61 (ninS (Ne.symm ne_b52_gr) (ninS ne_gr_r0 nin0))
            refine Run.callVI (q := 575) X62 hx hZ e62 (y := (⟨"semblance/JpegScans", "complete", "()Z"⟩ : MethodName)) (z := (⟨"semblance/JpegScans", "complete", "()Z"⟩ : MethodName)) hown (wm26 hw) (wm27 hw) (notFace_of_selects (args := #[]) (mvT hZ (wm29 hw))) (wm29 hw) (wm28 hw) (wm2 hw) (wm30 hw) (by decide) (a := b52) E61 (argsL := []) (rest := []) (c_cmp_1 l Z a0 hw b52 T61.heap n0 Z61 gr r0 (0 : Int32) (1 : Int32) g0 E61 F261 F461 Ag53 Ar0_61 (fun _ => rfl) (fun h => absurd ⟨rfl, zr0.mpr ⟨own_bne hc550, own_bne hc555⟩⟩ h)) pd_7 rfl (by rw [hml]; rfl) (W := 0) rfl (by decide) (by decide) (by decide) (by decide) (hb hby at_572) rfl rfl fun T65 L65 X65 M65 e65 => ?_
            have N65 := Fr.app N62 M65
            refine Run.x_iload (q := 577) X65 hx (hb hby at_575) rfl rfl ?_
            refine Run.x_icmpNo (q := 580) X65 hx (hb hby at_577) (teq (by decide : (1 : Int32) = (1 : Int32))).2 rfl ?_
            refine Run.x_iconst (q := 581) X65 hx (hb hby at_580) (z := (1 : Int32)) rfl rfl ?_
            refine Run.x_goto (q := 585) X65 hx (hb hby at_581) (by decide) (by decide) ?_
            refine Run.retN X65 hx hlk e65 (t := .boolean) hret (by simp) (z' := (1 : Int32)) (by decide) (hb hby at_585) (by decide) (by decide) ?_
            exact ⟨rfl, N65⟩
         refine Run.x_iloadN (q := 488) X61 hx (hb hby at_487) rfl rfl ?_
         refine Run.x_bipush (q := 490) X61 hx (hb hby at_488) (z := (16 : Int32)) rfl rfl ?_
         refine Run.x_iand (q := 491) X61 hx (hb hby at_490) rfl rfl ?_
         by_cases hc491 : (p1 &&& (16 : Int32)) = (0 : Int32)
         ·skip
          refine Run.x_ifYes (q := 498) X61 hx (hb hby at_491) ((if0 _ _).trans (teq hc491).1) (by decide) (by decide) ?_
          refine Run.x_iconst (q := 499) X61 hx (hb hby at_498) (z := (0 : Int32)) rfl rfl ?_
          exact J499 _ (own_b0 (fun h => h hc491)).symm
         ·skip
          refine Run.x_ifNo (q := 494) X61 hx (hb hby at_491) ((if0 _ _).trans (feq hc491).1) rfl ?_
          refine Run.x_iconst (q := 495) X61 hx (hb hby at_494) (z := (1 : Int32)) rfl rfl ?_
          refine Run.x_goto (q := 499) X61 hx (hb hby at_495) (by decide) (by decide) ?_
          exact J499 _ (own_b1 hc491).symm
        refine Run.x_iloadN (q := 476) X61 hx (hb hby at_475) rfl rfl ?_
        refine Run.x_bipush (q := 478) X61 hx (hb hby at_476) (z := (8 : Int32)) rfl rfl ?_
        refine Run.x_iand (q := 479) X61 hx (hb hby at_478) rfl rfl ?_
        by_cases hc479 : (p1 &&& (8 : Int32)) = (0 : Int32)
        ·skip
         refine Run.x_ifYes (q := 486) X61 hx (hb hby at_479) ((if0 _ _).trans (teq hc479).1) (by decide) (by decide) ?_
         refine Run.x_iconst (q := 487) X61 hx (hb hby at_486) (z := (0 : Int32)) rfl rfl ?_
         exact J487 _ (own_b0 (fun h => h hc479)).symm
        ·skip
         refine Run.x_ifNo (q := 482) X61 hx (hb hby at_479) ((if0 _ _).trans (feq hc479).1) rfl ?_
         refine Run.x_iconst (q := 483) X61 hx (hb hby at_482) (z := (1 : Int32)) rfl rfl ?_
         refine Run.x_goto (q := 487) X61 hx (hb hby at_483) (by decide) (by decide) ?_
         exact J487 _ (own_b1 hc479).symm
       refine Run.x_iload (q := 453) X61 hx (hb hby at_451) rfl rfl ?_
       by_cases hc453 : d = (0 : Int32)
       ·skip
        refine Run.x_ifYes (q := 467) X61 hx (hb hby at_453) ((if0 _ _).trans (teq hc453).1) (by decide) (by decide) ?_
        refine Run.x_iconst (q := 468) X61 hx (hb hby at_467) (z := (1 : Int32)) rfl rfl ?_
        refine Run.x_goto (q := 472) X61 hx (hb hby at_468) (by decide) (by decide) ?_
        exact J472 _ (own_b1 hc453).symm
       ·skip
        refine Run.x_ifNo (q := 456) X61 hx (hb hby at_453) ((if0 _ _).trans (feq hc453).1) rfl ?_
        refine Run.x_iload (q := 458) X61 hx (hb hby at_456) rfl rfl ?_
        refine Run.x_iconst (q := 459) X61 hx (hb hby at_458) (z := (1 : Int32)) rfl rfl ?_
        by_cases hc459 : d = (1 : Int32)
        ·skip
         refine Run.x_icmpNo (q := 462) X61 hx (hb hby at_459) (teq hc459).2 rfl ?_
         refine Run.x_iload (q := 464) X61 hx (hb hby at_462) rfl rfl ?_
         refine Run.x_ifYes (q := 471) X61 hx (hb hby at_464) ((if0 _ _).trans (teq (by decide : (0 : Int32) = (0 : Int32))).1) (by decide) (by decide) ?_
         refine Run.x_iconst (q := 472) X61 hx (hb hby at_471) (z := (0 : Int32)) rfl rfl ?_
         exact J472 _ (own_b0 hc453).symm
        ·skip
         refine Run.x_icmpYes (q := 471) X61 hx (hb hby at_459) (feq hc459).2 (by decide) (by decide) ?_
         refine Run.x_iconst (q := 472) X61 hx (hb hby at_471) (z := (0 : Int32)) rfl rfl ?_
         exact J472 _ (own_b0 hc453).symm
      refine Run.x_iloadN (q := 399) X60 hx (hb hby at_398) rfl rfl ?_
      refine Run.x_bipush (q := 401) X60 hx (hb hby at_399) (z := (16 : Int32)) rfl rfl ?_
      refine Run.x_iand (q := 402) X60 hx (hb hby at_401) rfl rfl ?_
      by_cases hc402 : (p1 &&& (16 : Int32)) = (0 : Int32)
      ·skip
       refine Run.x_ifYes (q := 409) X60 hx (hb hby at_402) ((if0 _ _).trans (teq hc402).1) (by decide) (by decide) ?_
       refine Run.x_iconst (q := 410) X60 hx (hb hby at_409) (z := (0 : Int32)) rfl rfl ?_
       exact J410 _ (own_b0 (fun h => h hc402)).symm
      ·skip
       refine Run.x_ifNo (q := 405) X60 hx (hb hby at_402) ((if0 _ _).trans (feq hc402).1) rfl ?_
       refine Run.x_iconst (q := 406) X60 hx (hb hby at_405) (z := (1 : Int32)) rfl rfl ?_
       refine Run.x_goto (q := 410) X60 hx (hb hby at_406) (by decide) (by decide) ?_
       exact J410 _ (own_b1 hc402).symm
     refine Run.x_iloadN (q := 387) X60 hx (hb hby at_386) rfl rfl ?_
     refine Run.x_bipush (q := 389) X60 hx (hb hby at_387) (z := (8 : Int32)) rfl rfl ?_
     refine Run.x_iand (q := 390) X60 hx (hb hby at_389) rfl rfl ?_
     by_cases hc390 : (p1 &&& (8 : Int32)) = (0 : Int32)
     ·skip
      refine Run.x_ifYes (q := 397) X60 hx (hb hby at_390) ((if0 _ _).trans (teq hc390).1) (by decide) (by decide) ?_
      refine Run.x_iconst (q := 398) X60 hx (hb hby at_397) (z := (0 : Int32)) rfl rfl ?_
      exact J398 _ (own_b0 (fun h => h hc390)).symm
     ·skip
      refine Run.x_ifNo (q := 393) X60 hx (hb hby at_390) ((if0 _ _).trans (feq hc390).1) rfl ?_
      refine Run.x_iconst (q := 394) X60 hx (hb hby at_393) (z := (1 : Int32)) rfl rfl ?_
      refine Run.x_goto (q := 398) X60 hx (hb hby at_394) (by decide) (by decide) ?_
      exact J398 _ (own_b1 hc390).symm
    ·skip
     refine Run.x_istore (q := 300) X53 hx #[.val (.int p1), .val (.int p2), .val (.int p3), .val (.int p4), .val (.int p5), .val (.int 1), .val (.int 1), .val (.ref b52), .val (.int d), .val (.int 1), .unset, .unset, .unset, .unset, .unset, .unset, .unset, .unset] (hb hby at_298) rfl rfl ?_
     refine Run.x_iload (q := 302) X53 hx (hb hby at_300) rfl rfl ?_
     refine Run.x_iconst (q := 303) X53 hx (hb hby at_302) (z := (1 : Int32)) rfl rfl ?_
     refine Run.x_icmpNo (q := 306) X53 hx (hb hby at_303) (teq (by decide : (1 : Int32) = (1 : Int32))).2 rfl ?_
     refine Run.x_iconst (q := 307) X53 hx (hb hby at_306) (z := (1 : Int32)) rfl rfl ?_
     refine Run.newP (aty := .int) X53 hx hZ rfl (wm15 hw) (hb hby at_307) (len := 1) (by decide) (by decide) (cap := 1) (by decide) (by decide) (by decide) (by decide) ?_
     intro T66 h66 b66 gg66 X66 e66 E66 A_b66
     have g_b66 : n0 ≤ b66 := Nat.le_trans Z53 (Nat.le_of_eq gg66.symm)
     have ne_b52_b66 : b52 ≠ b66 := Nat.ne_of_lt (Nat.lt_of_lt_of_le E53.lt (Nat.le_of_eq gg66.symm))
     have ne_gr_b66 : gr ≠ b66 := Nat.ne_of_lt (Nat.lt_of_lt_of_le Ag53.lt (Nat.le_of_eq gg66.symm))
     have ne_r0_b66 : r0 ≠ b66 := Nat.ne_of_lt (Nat.lt_of_lt_of_le Ar0_53.lt (Nat.le_of_eq gg66.symm))
     have Z66 : n0 ≤ h66.size := Nat.le_trans Z53 E66.1
     replace A_b66 : Ars Z h66 b66 .int [(.int 0)] := A_b66
     show Run p e below s _ _ _ (T66.setTop (mkF m 309 #[.val (.int p1), .val (.int p2), .val (.int p3), .val (.int p4), .val (.int p5), .val (.int 1), .val (.int 1), .val (.ref b52), .val (.int d), .val (.int 1), .unset, .unset, .unset, .unset, .unset, .unset, .unset, .unset] [(.ref b66)]))
     refine Run.x_dup (q := 310) X66 hx (hb hby at_309) rfl rfl ?_
     refine Run.x_iconst (q := 311) X66 hx (hb hby at_310) (z := (0 : Int32)) rfl rfl ?_
     refine Run.x_iconst (q := 312) X66 hx (hb hby at_311) (z := (0 : Int32)) rfl rfl ?_
     refine Run.y_stI (q := 313) X66 hx hZ e66 A_b66 (i := 0) (by decide) (Nat.le_of_ble_eq_true rfl) (hb hby at_312) rfl fun T67 h67 X67 e67 W67 A67 => ?_
     replace A_b66 : Ars Z h67 b66 .int [(.int 0)] := A67
     have N67 := Fr.snoc X67 N53 g_b66
     have Z67 : n0 ≤ h67.size := Nat.le_trans Z66 (Nat.le_of_eq W67.size.symm)
     refine Run.x_goto (q := 327) X67 hx (hb hby at_313) (by decide) (by decide) ?_
     refine Run.x_astore (q := 329) X67 hx #[.val (.int p1), .val (.int p2), .val (.int p3), .val (.int p4), .val (.int p5), .val (.int 1), .val (.int 1), .val (.ref b52), .val (.int d), .val (.int 1), .val (.ref b66), .unset, .unset, .unset, .unset, .unset, .unset, .unset] (hb hby at_327) rfl rfl rfl ?_
     refine Run.x_iconst (q := 330) X67 hx (hb hby at_329) (z := (1 : Int32)) rfl rfl ?_
     refine Run.newP (aty := .int) X67 hx hZ e67 (wm15 hw) (hb hby at_330) (len := 1) (by decide) (by decide) (cap := 1) (by decide) (by decide) (by decide) (by decide) ?_
     intro T68 h68 b68 gg68 X68 e68 E68 A_b68
     have g_b68 : n0 ≤ b68 := Nat.le_trans Z67 (Nat.le_of_eq gg68.symm)
     replace E53 := (E53.ext E66).wr W67
     have ne_b52_b68 : b52 ≠ b68 := Nat.ne_of_lt (Nat.lt_of_lt_of_le E53.lt (Nat.le_of_eq gg68.symm))
     replace Ag53 := (Ag53.ext E66).other W67 ne_gr_b66
     have ne_gr_b68 : gr ≠ b68 := Nat.ne_of_lt (Nat.lt_of_lt_of_le Ag53.lt (Nat.le_of_eq gg68.symm))
     replace Ar0_53 := (Ar0_53.ext E66).other W67 ne_r0_b66
     have ne_r0_b68 : r0 ≠ b68 := Nat.ne_of_lt (Nat.lt_of_lt_of_le Ar0_53.lt (Nat.le_of_eq gg68.symm))
     have ne_b66_b68 : b66 ≠ b68 := Nat.ne_of_lt (Nat.lt_of_lt_of_le A_b66.lt (Nat.le_of_eq gg68.symm))
     have Z68 : n0 ≤ h68.size := Nat.le_trans Z67 E68.1
     replace A_b68 : Ars Z h68 b68 .int [(.int 0)] := A_b68
     show Run p e below s _ _ _ (T68.setTop (mkF m 332 #[.val (.int p1), .val (.int p2), .val (.int p3), .val (.int p4), .val (.int p5), .val (.int 1), .val (.int 1), .val (.ref b52), .val (.int d), .val (.int 1), .val (.ref b66), .unset, .unset, .unset, .unset, .unset, .unset, .unset] [(.ref b68)]))
     refine Run.x_dup (q := 333) X68 hx (hb hby at_332) rfl rfl ?_
     refine Run.x_iconst (q := 334) X68 hx (hb hby at_333) (z := (0 : Int32)) rfl rfl ?_
     refine Run.x_iconst (q := 335) X68 hx (hb hby at_334) (z := (0 : Int32)) rfl rfl ?_
     refine Run.y_stI (q := 336) X68 hx hZ e68 A_b68 (i := 0) (by decide) (Nat.le_of_ble_eq_true rfl) (hb hby at_335) rfl fun T69 h69 X69 e69 W69 A69 => ?_
     replace A_b68 : Ars Z h69 b68 .int [(.int 0)] := A69
     have N69 := Fr.snoc X69 N67 g_b68
     have Z69 : n0 ≤ h69.size := Nat.le_trans Z68 (Nat.le_of_eq W69.size.symm)
     refine Run.x_astore (q := 338) X69 hx #[.val (.int p1), .val (.int p2), .val (.int p3), .val (.int p4), .val (.int p5), .val (.int 1), .val (.int 1), .val (.ref b52), .val (.int d), .val (.int 1), .val (.ref b66), .val (.ref b68), .unset, .unset, .unset, .unset, .unset, .unset] (hb hby at_336) rfl rfl rfl ?_
     refine Run.x_iconst (q := 339) X69 hx (hb hby at_338) (z := (1 : Int32)) rfl rfl ?_
     refine Run.newP (aty := .int) X69 hx hZ e69 (wm15 hw) (hb hby at_339) (len := 1) (by decide) (by decide) (cap := 1) (by decide) (by decide) (by decide) (by decide) ?_
     intro T70 h70 b70 gg70 X70 e70 E70 A_b70
     have g_b70 : n0 ≤ b70 := Nat.le_trans Z69 (Nat.le_of_eq gg70.symm)
     replace E53 := (E53.ext E68).wr W69
     have ne_b52_b70 : b52 ≠ b70 := Nat.ne_of_lt (Nat.lt_of_lt_of_le E53.lt (Nat.le_of_eq gg70.symm))
     replace Ag53 := (Ag53.ext E68).other W69 ne_gr_b68
     have ne_gr_b70 : gr ≠ b70 := Nat.ne_of_lt (Nat.lt_of_lt_of_le Ag53.lt (Nat.le_of_eq gg70.symm))
     replace Ar0_53 := (Ar0_53.ext E68).other W69 ne_r0_b68
     have ne_r0_b70 : r0 ≠ b70 := Nat.ne_of_lt (Nat.lt_of_lt_of_le Ar0_53.lt (Nat.le_of_eq gg70.symm))
     replace A_b66 := (A_b66.ext E68).other W69 ne_b66_b68
     have ne_b66_b70 : b66 ≠ b70 := Nat.ne_of_lt (Nat.lt_of_lt_of_le A_b66.lt (Nat.le_of_eq gg70.symm))
     have ne_b68_b70 : b68 ≠ b70 := Nat.ne_of_lt (Nat.lt_of_lt_of_le A_b68.lt (Nat.le_of_eq gg70.symm))
     have Z70 : n0 ≤ h70.size := Nat.le_trans Z69 E70.1
     replace A_b70 : Ars Z h70 b70 .int [(.int 0)] := A_b70
     show Run p e below s _ _ _ (T70.setTop (mkF m 341 #[.val (.int p1), .val (.int p2), .val (.int p3), .val (.int p4), .val (.int p5), .val (.int 1), .val (.int 1), .val (.ref b52), .val (.int d), .val (.int 1), .val (.ref b66), .val (.ref b68), .unset, .unset, .unset, .unset, .unset, .unset] [(.ref b70)]))
     refine Run.x_dup (q := 342) X70 hx (hb hby at_341) rfl rfl ?_
     refine Run.x_iconst (q := 343) X70 hx (hb hby at_342) (z := (0 : Int32)) rfl rfl ?_
     refine Run.x_iconst (q := 344) X70 hx (hb hby at_343) (z := (1 : Int32)) rfl rfl ?_
     refine Run.y_stI (q := 345) X70 hx hZ e70 A_b70 (i := 0) (by decide) (Nat.le_of_ble_eq_true rfl) (hb hby at_344) rfl fun T71 h71 X71 e71 W71 A71 => ?_
     replace A_b70 : Ars Z h71 b70 .int [(.int 1)] := A71
     have N71 := Fr.snoc X71 N69 g_b70
     have Z71 : n0 ≤ h71.size := Nat.le_trans Z70 (Nat.le_of_eq W71.size.symm)
     refine Run.x_astore (q := 347) X71 hx #[.val (.int p1), .val (.int p2), .val (.int p3), .val (.int p4), .val (.int p5), .val (.int 1), .val (.int 1), .val (.ref b52), .val (.int d), .val (.int 1), .val (.ref b66), .val (.ref b68), .val (.ref b70), .unset, .unset, .unset, .unset, .unset] (hb hby at_345) rfl rfl rfl ?_
     refine Run.x_aload (q := 349) X71 hx (hb hby at_347) rfl rfl rfl ?_
     refine Run.x_aload (q := 351) X71 hx (hb hby at_349) rfl rfl rfl ?_
     refine Run.x_iconst (q := 352) X71 hx (hb hby at_351) (z := (0 : Int32)) rfl rfl ?_
     refine Run.x_iconst (q := 353) X71 hx (hb hby at_352) (z := (0 : Int32)) rfl rfl ?_
     refine Run.x_iconst (q := 354) X71 hx (hb hby at_353) (z := (0 : Int32)) rfl rfl ?_
     refine Run.x_iload (q := 356) X71 hx (hb hby at_354) rfl rfl ?_
     replace E53 := (E53.ext E70).wr W71
     replace F053 := (((((F053.ext E66).other W67 (Or.inl ne_b52_b66)).ext E68).other W69 (Or.inl ne_b52_b68)).ext E70).other W71 (Or.inl ne_b52_b70)
     replace F153 := (((((F153.ext E66).other W67 (Or.inl ne_b52_b66)).ext E68).other W69 (Or.inl ne_b52_b68)).ext E70).other W71 (Or.inl ne_b52_b70)
     replace F253 := (((((F253.ext E66).other W67 (Or.inl ne_b52_b66)).ext E68).other W69 (Or.inl ne_b52_b68)).ext E70).other W71 (Or.inl ne_b52_b70)
     replace F353 := (((((F353.ext E66).other W67 (Or.inl ne_b52_b66)).ext E68).other W69 (Or.inl ne_b52_b68)).ext E70).other W71 (Or.inl ne_b52_b70)
     replace F453 := (((((F453.ext E66).other W67 (Or.inl ne_b52_b66)).ext E68).other W69 (Or.inl ne_b52_b68)).ext E70).other W71 (Or.inl ne_b52_b70)
     replace Ag53 := (Ag53.ext E70).other W71 ne_gr_b70
     replace Ar0_53 := (Ar0_53.ext E70).other W71 ne_r0_b70
     replace A_b66 := (A_b66.ext E70).other W71 ne_b66_b70
     refine Run.callV X71 hx hZ e71 (y := (⟨"semblance/JpegScans", "take", "([IIIII)Z"⟩ : MethodName)) (z := (⟨"semblance/JpegScans", "take", "([IIIII)Z"⟩ : MethodName)) hown (wm34 hw) (wm35 hw) (notFace_of_selects (args := #[]) (mvT hZ (wm37 hw))) (wm37 hw) (wm36 hw) (wm2 hw) (wm38 hw) (by decide) (a := b52) E53 (argsL := [(.ref b66), (.int 0), (.int 0), (.int 0), (.int d)]) (rest := []) (c_dc_1_0 l Z a0 hw b52 b66 d h71 n0 Z71 gr r0 (0 : Int32) (0 : Int32) (fun _ => (-1 : Int32)) E53 F053 F153 F253 F353 F453 Ag53 Ar0_53 A_b66 g_b52 g_r0 ne_b52_gr ne_b52_r0 ne_b52_b66 ne_gr_r0 ne_gr_b66 ne_r0_b66 (by decide) rd (by decide)) pd_3 rfl (by rw [hml]; rfl) (W := 0) rfl (by decide) (by decide) (by decide) (by decide) (hb hby at_356) rfl ?_
     intro T72 v72 L72 X72 q72
     obtain ⟨bb72, rfl, M72, K72, E72, F072, F172, F272, F372, F472, Ar0_72⟩ := q72
     have N72 := Fr.app N71 M72
     show Run p e below s _ _ _ (T72.setTop (mkF m 359 #[.val (.int p1), .val (.int p2), .val (.int p3), .val (.int p4), .val (.int p5), .val (.int 1), .val (.int 1), .val (.ref b52), .val (.int d), .val (.int 1), .val (.ref b66), .val (.ref b68), .val (.ref b70), .unset, .unset, .unset, .unset, .unset] [(.int bb72)]))
     have Z72 : n0 ≤ T72.heap.size := Nat.le_trans Z71 K72.1
     refine Run.x_pop (q := 360) X72 hx (hb hby at_359) rfl rfl ?_
     refine Run.x_iload (q := 362) X72 hx (hb hby at_360) rfl rfl ?_
     refine Run.x_ifNo (q := 365) X72 hx (hb hby at_362) ((if0 _ _).trans (feq (by decide : ¬ ((1 : Int32) = (0 : Int32)))).1) rfl ?_
     refine Run.x_aload (q := 367) X72 hx (hb hby at_365) rfl rfl rfl ?_
     refine Run.x_aload (q := 369) X72 hx (hb hby at_367) rfl rfl rfl ?_
     refine Run.x_iconst (q := 370) X72 hx (hb hby at_369) (z := (0 : Int32)) rfl rfl ?_
     refine Run.x_iconst (q := 371) X72 hx (hb hby at_370) (z := (0 : Int32)) rfl rfl ?_
     refine Run.x_iload (q := 373) X72 hx (hb hby at_371) rfl rfl ?_
     refine Run.x_iload (q := 375) X72 hx (hb hby at_373) rfl rfl ?_
     refine Run.x_iconst (q := 376) X72 hx (hb hby at_375) (z := (1 : Int32)) rfl rfl ?_
     refine Run.x_isub (q := 377) X72 hx (hb hby at_376) rfl rfl ?_
     replace Ag53 := Ag53.keep K72 (ninS (Ne.symm ne_b52_gr) (ninS ne_gr_r0 nin0))
     replace A_b66 := A_b66.keep K72 (ninS (Ne.symm ne_b52_b66) (ninS (Ne.symm ne_r0_b66) nin0))
     refine Run.callV X72 hx hZ rfl (y := (⟨"semblance/JpegScans", "take", "([IIIII)Z"⟩ : MethodName)) (z := (⟨"semblance/JpegScans", "take", "([IIIII)Z"⟩ : MethodName)) hown (wm34 hw) (wm35 hw) (notFace_of_selects (args := #[]) (mvT hZ (wm37 hw))) (wm37 hw) (wm36 hw) (wm2 hw) (wm38 hw) (by decide) (a := b52) E72 (argsL := [(.ref b66), (.int 0), (.int 0), (.int d), (.int (d - (1 : Int32)))]) (rest := []) (c_dc_1_1 l Z a0 hw b52 b66 d (d - (1 : Int32)) T72.heap n0 Z72 gr r0 ((0 : Int32) + (1 : Int32)) (0 : Int32) (own_upd (fun _ => (-1 : Int32)) 0 d) E72 F072 F172 F272 F372 F472 Ag53 Ar0_72 A_b66 g_b52 g_r0 ne_b52_gr ne_b52_r0 ne_b52_b66 ne_gr_r0 ne_gr_b66 ne_r0_b66 (by decide) (own_d1 rd hd1) (own_mx own_upd_self rd.1) (own_d0 hd1) rfl) pd_3 rfl (by rw [hml]; rfl) (W := 0) rfl (by decide) (by decide) (by decide) (by decide) (hb hby at_377) rfl ?_
     intro T73 v73 L73 X73 q73
     obtain ⟨bb73, rfl, M73, K73, E73, F073, F173, F273, F373, F473, Ar0_73⟩ := q73
     have N73 := Fr.app N72 M73
     show Run p e below s _ _ _ (T73.setTop (mkF m 380 #[.val (.int p1), .val (.int p2), .val (.int p3), .val (.int p4), .val (.int p5), .val (.int 1), .val (.int 1), .val (.ref b52), .val (.int d), .val (.int 1), .val (.ref b66), .val (.ref b68), .val (.ref b70), .unset, .unset, .unset, .unset, .unset] [(.int bb73)]))
     have Z73 : n0 ≤ T73.heap.size := Nat.le_trans Z72 K73.1
     refine Run.x_pop (q := 381) X73 hx (hb hby at_380) rfl rfl ?_
     have k0 : (own_upd (own_upd (fun _ => (-1 : Int32)) 0 d) 0 (d - (1 : Int32))) 0 = (d - (1 : Int32)) := own_upd_self
     have km : ∀ i, 1 ≤ i → i < 64 → (own_upd (own_upd (fun _ => (-1 : Int32)) 0 d) 0 (d - (1 : Int32))) i = -1 := fun i q _ => (own_upd_ne (by omega)).trans ((own_upd_ne (by omega)).trans rfl)
     have rD : 0 ≤ (d - (1 : Int32)).toInt ∧ (d - (1 : Int32)).toInt ≤ 13 := own_d1 rd hd1
     obtain ⟨ee0, hee0⟩ : ∃ z, own_e p3 = z := ⟨_, rfl⟩
     obtain ⟨bA0, hbA0⟩ : ∃ z, own_A p3 = z := ⟨_, rfl⟩
     obtain ⟨bB0, hbB0⟩ : ∃ z, own_B p3 = z := ⟨_, rfl⟩
     obtain ⟨E0, hE0, hE10, hE20⟩ := own_e_rg hee0
     refine Run.x_aload (q := 383) X73 hx (hb hby at_381) rfl rfl rfl ?_
     refine Run.x_aload (q := 385) X73 hx (hb hby at_383) rfl rfl rfl ?_
     refine Run.x_iloadN (q := 386) X73 hx (hb hby at_385) rfl rfl ?_
     have J398 : ∀ (aq : Int32), (aq = (own_b (¬ (p1 &&& (8 : Int32)) = (0 : Int32)))) → Run p e below s (Tru n0) room_1.cells room_1.slots (T73.setTop (mkF m 398 #[.val (.int p1), .val (.int p2), .val (.int p3), .val (.int p4), .val (.int p5), .val (.int 1), .val (.int 1), .val (.ref b52), .val (.int d), .val (.int 1), .val (.ref b66), .val (.ref b68), .val (.ref b70), .unset, .unset, .unset, .unset, .unset] [(.int aq), (.int p3), (.ref b68), (.ref b52)])) := by
      intro aq haq
      subst haq
      have J410 : ∀ (aq : Int32), (aq = (own_b (¬ (p1 &&& (16 : Int32)) = (0 : Int32)))) → Run p e below s (Tru n0) room_1.cells room_1.slots (T73.setTop (mkF m 410 #[.val (.int p1), .val (.int p2), .val (.int p3), .val (.int p4), .val (.int p5), .val (.int 1), .val (.int 1), .val (.ref b52), .val (.int d), .val (.int 1), .val (.ref b66), .val (.ref b68), .val (.ref b70), .unset, .unset, .unset, .unset, .unset] [(.int aq), (.int (own_b (¬ (p1 &&& (8 : Int32)) = (0 : Int32)))), (.int p3), (.ref b68), (.ref b52)])) := by
       intro aq haq
       subst haq
       replace Ag53 := Ag53.keep K73 (ninS (Ne.symm ne_b52_gr) (ninS ne_gr_r0 nin0))
       replace A_b68 := (((A_b68.ext E70).other W71 ne_b68_b70).keep K72 (ninS (Ne.symm ne_b52_b68) (ninS (Ne.symm ne_r0_b68) nin0))).keep K73 (ninS (Ne.symm ne_b52_b68) (ninS (Ne.symm ne_r0_b68) nin0))
       refine Run.callS X73 hx hZ rfl (y := (⟨"semblance/JpegScansCompletePinLaw", "send", "(Lsemblance/JpegScans;[IIZZ)V"⟩ : MethodName)) hown (wm45 hw) (wm46 hw) (wm24 hw) (wm47 hw) (by decide) (argsL := [(.ref b52), (.ref b68), (.int p3), (.int (own_b (¬ (p1 &&& (8 : Int32)) = (0 : Int32)))), (.int (own_b (¬ (p1 &&& (16 : Int32)) = (0 : Int32))))]) (rest := []) (c_send_1_0 l Z a0 hw b52 b68 p3 (own_b (¬ (p1 &&& (8 : Int32)) = (0 : Int32))) (own_b (¬ (p1 &&& (16 : Int32)) = (0 : Int32))) T73.heap n0 Z73 gr r0 (((0 : Int32) + (1 : Int32)) + (1 : Int32)) (0 : Int32) (own_upd (own_upd (fun _ => (-1 : Int32)) 0 d) 0 (d - (1 : Int32))) ee0 bA0 bB0 E0 E73 F073 F173 F273 F373 F473 Ag53 Ar0_73 A_b68 g_b52 g_r0 ne_b52_gr ne_b52_r0 ne_b52_b68 ne_gr_r0 ne_gr_b68 ne_r0_b68 (by decide) hee0 hbA0 hbB0 hE0 hE10 hE20 (by rw [k0]; exact rD.1) km) pd_8 rfl (by rw [hml]; rfl) (W := 0) rfl (by decide) (by decide) (by decide) (by decide) (hb hby at_410) rfl ?_
       intro T74 v74 L74 X74 q74
       obtain ⟨g0, ct0, rfl, M74, K74, hct0, ya0, yb0, yc0, E74, F074, F174, F274, F374, F474, Ar0_74⟩ := q74
       have N74 := Fr.app N73 M74
       show Run p e below s _ _ _ (T74.setTop (mkF m 413 #[.val (.int p1), .val (.int p2), .val (.int p3), .val (.int p4), .val (.int p5), .val (.int 1), .val (.int 1), .val (.ref b52), .val (.int d), .val (.int 1), .val (.ref b66), .val (.ref b68), .val (.ref b70), .unset, .unset, .unset, .unset, .unset] []))
       have Z74 : n0 ≤ T74.heap.size := Nat.le_trans Z73 K74.1
       refine Run.x_iload (q := 415) X74 hx (hb hby at_413) rfl rfl ?_
       refine Run.x_iconst (q := 416) X74 hx (hb hby at_415) (z := (2 : Int32)) rfl rfl ?_
       refine Run.x_icmpYes (q := 451) X74 hx (hb hby at_416) (feq (by decide : ¬ ((1 : Int32) = (2 : Int32)))).2 (by decide) (by decide) ?_
       have J472 : ∀ (dd : Int32), (dd = (own_b ((d - (1 : Int32)) = (0 : Int32)))) → Run p e below s (Tru n0) room_1.cells room_1.slots (T74.setTop (mkF m 472 #[.val (.int p1), .val (.int p2), .val (.int p3), .val (.int p4), .val (.int p5), .val (.int 1), .val (.int 1), .val (.ref b52), .val (.int d), .val (.int 1), .val (.ref b66), .val (.ref b68), .val (.ref b70), .unset, .unset, .unset, .unset, .unset] [(.int dd)])) := by
        intro dd hdd
        subst hdd
        refine Run.x_istore (q := 474) X74 hx #[.val (.int p1), .val (.int p2), .val (.int p3), .val (.int p4), .val (.int p5), .val (.int 1), .val (.int 1), .val (.ref b52), .val (.int d), .val (.int 1), .val (.ref b66), .val (.ref b68), .val (.ref b70), .val (.int (own_b ((d - (1 : Int32)) = (0 : Int32)))), .unset, .unset, .unset, .unset] (hb hby at_472) rfl rfl ?_
        refine Run.x_iloadN (q := 475) X74 hx (hb hby at_474) rfl rfl ?_
        have J487 : ∀ (aq : Int32), (aq = (own_b (¬ (p1 &&& (8 : Int32)) = (0 : Int32)))) → Run p e below s (Tru n0) room_1.cells room_1.slots (T74.setTop (mkF m 487 #[.val (.int p1), .val (.int p2), .val (.int p3), .val (.int p4), .val (.int p5), .val (.int 1), .val (.int 1), .val (.ref b52), .val (.int d), .val (.int 1), .val (.ref b66), .val (.ref b68), .val (.ref b70), .val (.int (own_b ((d - (1 : Int32)) = (0 : Int32)))), .unset, .unset, .unset, .unset] [(.int aq), (.int p3)])) := by
         intro aq haq
         subst haq
         have J499 : ∀ (aq : Int32), (aq = (own_b (¬ (p1 &&& (16 : Int32)) = (0 : Int32)))) → Run p e below s (Tru n0) room_1.cells room_1.slots (T74.setTop (mkF m 499 #[.val (.int p1), .val (.int p2), .val (.int p3), .val (.int p4), .val (.int p5), .val (.int 1), .val (.int 1), .val (.ref b52), .val (.int d), .val (.int 1), .val (.ref b66), .val (.ref b68), .val (.ref b70), .val (.int (own_b ((d - (1 : Int32)) = (0 : Int32)))), .unset, .unset, .unset, .unset] [(.int aq), (.int (own_b (¬ (p1 &&& (8 : Int32)) = (0 : Int32)))), (.int p3)])) := by
          intro aq haq
          subst haq
          refine Run.callSI (q := 502) X74 hx hZ rfl (y := (⟨"semblance/JpegScansCompletePinLaw", "done", "(IZZ)Z"⟩ : MethodName)) hown (wm58 hw) (wm59 hw) (wm24 hw) (wm60 hw) (by decide) (argsL := [(.int p3), (.int (own_b (¬ (p1 &&& (8 : Int32)) = (0 : Int32)))), (.int (own_b (¬ (p1 &&& (16 : Int32)) = (0 : Int32))))]) (rest := []) (c_done l Z a0 hw p3 (own_b (¬ (p1 &&& (8 : Int32)) = (0 : Int32))) (own_b (¬ (p1 &&& (16 : Int32)) = (0 : Int32))) T74.heap n0 Z74 ee0 bA0 bB0 E0 hee0 hbA0 hbB0 hE0 hE10 hE20) pd_9 rfl (by rw [hml]; rfl) (W := 0) rfl (by decide) (by decide) (by decide) (by decide) (hb hby at_499) rfl rfl fun T75 L75 X75 M75 e75 => ?_
          have N75 := Fr.app N74 M75
          refine Run.x_istore (q := 504) X75 hx #[.val (.int p1), .val (.int p2), .val (.int p3), .val (.int p4), .val (.int p5), .val (.int 1), .val (.int 1), .val (.ref b52), .val (.int d), .val (.int 1), .val (.ref b66), .val (.ref b68), .val (.ref b70), .val (.int (own_b ((d - (1 : Int32)) = (0 : Int32)))), .val (.int (own_b (own_AA (own_b (¬ (p1 &&& (8 : Int32)) = (0 : Int32))) bA0 = 0 ∧ (ee0 = 63 ∨ own_BB (own_b (¬ (p1 &&& (16 : Int32)) = (0 : Int32))) ee0 bB0 = 0)))), .unset, .unset, .unset] (hb hby at_502) rfl rfl ?_
          refine Run.x_iload (q := 506) X75 hx (hb hby at_504) rfl rfl ?_
          refine Run.x_iconst (q := 507) X75 hx (hb hby at_506) (z := (1 : Int32)) rfl rfl ?_
          refine Run.x_icmpYes (q := 541) X75 hx (hb hby at_507) (teq (by decide : (1 : Int32) = (1 : Int32))).1 (by decide) (by decide) ?_
          refine Run.x_iconst (q := 542) X75 hx (hb hby at_541) (z := (1 : Int32)) rfl rfl ?_
          refine Run.x_goto (q := 546) X75 hx (hb hby at_542) (by decide) (by decide) ?_
          refine Run.x_istore (q := 548) X75 hx #[.val (.int p1), .val (.int p2), .val (.int p3), .val (.int p4), .val (.int p5), .val (.int 1), .val (.int 1), .val (.ref b52), .val (.int d), .val (.int 1), .val (.ref b66), .val (.ref b68), .val (.ref b70), .val (.int (own_b ((d - (1 : Int32)) = (0 : Int32)))), .val (.int (own_b (own_AA (own_b (¬ (p1 &&& (8 : Int32)) = (0 : Int32))) bA0 = 0 ∧ (ee0 = 63 ∨ own_BB (own_b (¬ (p1 &&& (16 : Int32)) = (0 : Int32))) ee0 bB0 = 0)))), .val (.int 1), .unset, .unset] (hb hby at_546) rfl rfl ?_
          refine Run.x_iload (q := 550) X75 hx (hb hby at_548) rfl rfl ?_
          by_cases hc550 : (own_b ((d - (1 : Int32)) = (0 : Int32))) = (0 : Int32)
          ·skip
           refine Run.x_ifYes (q := 567) X75 hx (hb hby at_550) ((if0 _ _).trans (teq hc550).1) (by decide) (by decide) ?_
           refine Run.x_iconst (q := 568) X75 hx (hb hby at_567) (z := (0 : Int32)) rfl rfl ?_
           refine Run.x_istore (q := 570) X75 hx #[.val (.int p1), .val (.int p2), .val (.int p3), .val (.int p4), .val (.int p5), .val (.int 1), .val (.int 1), .val (.ref b52), .val (.int d), .val (.int 1), .val (.ref b66), .val (.ref b68), .val (.ref b70), .val (.int (own_b ((d - (1 : Int32)) = (0 : Int32)))), .val (.int (own_b (own_AA (own_b (¬ (p1 &&& (8 : Int32)) = (0 : Int32))) bA0 = 0 ∧ (ee0 = 63 ∨ own_BB (own_b (¬ (p1 &&& (16 : Int32)) = (0 : Int32))) ee0 bB0 = 0)))), .val (.int 1), .val (.int 0), .unset] (hb hby at_568) rfl rfl ?_
           refine Run.x_aload (q := 572) X75 hx (hb hby at_570) rfl rfl rfl ?_
           have zr0 := own_zr hE0 hE10 hE20 (ya0.trans k0) yb0 yc0
           replace Ag53 := Ag53.keep K74 (ninS (Ne.symm ne_b52_gr) (ninS ne_gr_r0 nin0))
           refine Run.callVI (q := 575) X75 hx hZ e75 (y := (⟨"semblance/JpegScans", "complete", "()Z"⟩ : MethodName)) (z := (⟨"semblance/JpegScans", "complete", "()Z"⟩ : MethodName)) hown (wm26 hw) (wm27 hw) (notFace_of_selects (args := #[]) (mvT hZ (wm29 hw))) (wm29 hw) (wm28 hw) (wm2 hw) (wm30 hw) (by decide) (a := b52) E74 (argsL := []) (rest := []) (c_cmp_1 l Z a0 hw b52 T74.heap n0 Z74 gr r0 (0 : Int32) (0 : Int32) g0 E74 F274 F474 Ag53 Ar0_74 (fun h => (own_beq hc550 (zr0.mp h.2).1).elim) (fun _ => rfl)) pd_7 rfl (by rw [hml]; rfl) (W := 0) rfl (by decide) (by decide) (by decide) (by decide) (hb hby at_572) rfl rfl fun T76 L76 X76 M76 e76 => ?_
           have N76 := Fr.app N75 M76
           refine Run.x_iload (q := 577) X76 hx (hb hby at_575) rfl rfl ?_
           refine Run.x_icmpNo (q := 580) X76 hx (hb hby at_577) (teq (by decide : (0 : Int32) = (0 : Int32))).2 rfl ?_
           refine Run.x_iconst (q := 581) X76 hx (hb hby at_580) (z := (1 : Int32)) rfl rfl ?_
           refine Run.x_goto (q := 585) X76 hx (hb hby at_581) (by decide) (by decide) ?_
           refine Run.retN X76 hx hlk e76 (t := .boolean) hret (by simp) (z' := (1 : Int32)) (by decide) (hb hby at_585) (by decide) (by decide) ?_
           exact ⟨rfl, N76⟩
          ·skip
           refine Run.x_ifNo (q := 553) X75 hx (hb hby at_550) ((if0 _ _).trans (feq hc550).1) rfl ?_
           refine Run.x_iload (q := 555) X75 hx (hb hby at_553) rfl rfl ?_
           by_cases hc555 : (own_b (own_AA (own_b (¬ (p1 &&& (8 : Int32)) = (0 : Int32))) bA0 = 0 ∧ (ee0 = 63 ∨ own_BB (own_b (¬ (p1 &&& (16 : Int32)) = (0 : Int32))) ee0 bB0 = 0))) = (0 : Int32)
           ·skip
            refine Run.x_ifYes (q := 567) X75 hx (hb hby at_555) ((if0 _ _).trans (teq hc555).1) (by decide) (by decide) ?_
            refine Run.x_iconst (q := 568) X75 hx (hb hby at_567) (z := (0 : Int32)) rfl rfl ?_
            refine Run.x_istore (q := 570) X75 hx #[.val (.int p1), .val (.int p2), .val (.int p3), .val (.int p4), .val (.int p5), .val (.int 1), .val (.int 1), .val (.ref b52), .val (.int d), .val (.int 1), .val (.ref b66), .val (.ref b68), .val (.ref b70), .val (.int (own_b ((d - (1 : Int32)) = (0 : Int32)))), .val (.int (own_b (own_AA (own_b (¬ (p1 &&& (8 : Int32)) = (0 : Int32))) bA0 = 0 ∧ (ee0 = 63 ∨ own_BB (own_b (¬ (p1 &&& (16 : Int32)) = (0 : Int32))) ee0 bB0 = 0)))), .val (.int 1), .val (.int 0), .unset] (hb hby at_568) rfl rfl ?_
            refine Run.x_aload (q := 572) X75 hx (hb hby at_570) rfl rfl rfl ?_
            have zr0 := own_zr hE0 hE10 hE20 (ya0.trans k0) yb0 yc0
            replace Ag53 := Ag53.keep K74 (ninS (Ne.symm ne_b52_gr) (ninS ne_gr_r0 nin0))
            refine Run.callVI (q := 575) X75 hx hZ e75 (y := (⟨"semblance/JpegScans", "complete", "()Z"⟩ : MethodName)) (z := (⟨"semblance/JpegScans", "complete", "()Z"⟩ : MethodName)) hown (wm26 hw) (wm27 hw) (notFace_of_selects (args := #[]) (mvT hZ (wm29 hw))) (wm29 hw) (wm28 hw) (wm2 hw) (wm30 hw) (by decide) (a := b52) E74 (argsL := []) (rest := []) (c_cmp_1 l Z a0 hw b52 T74.heap n0 Z74 gr r0 (0 : Int32) (0 : Int32) g0 E74 F274 F474 Ag53 Ar0_74 (fun h => (own_beq hc555 (zr0.mp h.2).2).elim) (fun _ => rfl)) pd_7 rfl (by rw [hml]; rfl) (W := 0) rfl (by decide) (by decide) (by decide) (by decide) (hb hby at_572) rfl rfl fun T77 L77 X77 M77 e77 => ?_
            have N77 := Fr.app N75 M77
            refine Run.x_iload (q := 577) X77 hx (hb hby at_575) rfl rfl ?_
            refine Run.x_icmpNo (q := 580) X77 hx (hb hby at_577) (teq (by decide : (0 : Int32) = (0 : Int32))).2 rfl ?_
            refine Run.x_iconst (q := 581) X77 hx (hb hby at_580) (z := (1 : Int32)) rfl rfl ?_
            refine Run.x_goto (q := 585) X77 hx (hb hby at_581) (by decide) (by decide) ?_
            refine Run.retN X77 hx hlk e77 (t := .boolean) hret (by simp) (z' := (1 : Int32)) (by decide) (hb hby at_585) (by decide) (by decide) ?_
            exact ⟨rfl, N77⟩
           ·skip
            refine Run.x_ifNo (q := 558) X75 hx (hb hby at_555) ((if0 _ _).trans (feq hc555).1) rfl ?_
            refine Run.x_iload (q := 560) X75 hx (hb hby at_558) rfl rfl ?_
            refine Run.x_ifNo (q := 563) X75 hx (hb hby at_560) ((if0 _ _).trans (feq (by decide : ¬ ((1 : Int32) = (0 : Int32)))).1) rfl ?_
            refine Run.x_iconst (q := 564) X75 hx (hb hby at_563) (z := (1 : Int32)) rfl rfl ?_
            refine Run.x_goto (q := 568) X75 hx (hb hby at_564) (by decide) (by decide) ?_
            refine Run.x_istore (q := 570) X75 hx #[.val (.int p1), .val (.int p2), .val (.int p3), .val (.int p4), .val (.int p5), .val (.int 1), .val (.int 1), .val (.ref b52), .val (.int d), .val (.int 1), .val (.ref b66), .val (.ref b68), .val (.ref b70), .val (.int (own_b ((d - (1 : Int32)) = (0 : Int32)))), .val (.int (own_b (own_AA (own_b (¬ (p1 &&& (8 : Int32)) = (0 : Int32))) bA0 = 0 ∧ (ee0 = 63 ∨ own_BB (own_b (¬ (p1 &&& (16 : Int32)) = (0 : Int32))) ee0 bB0 = 0)))), .val (.int 1), .val (.int 1), .unset] (hb hby at_568) rfl rfl ?_
            refine Run.x_aload (q := 572) X75 hx (hb hby at_570) rfl rfl rfl ?_
            have zr0 := own_zr hE0 hE10 hE20 (ya0.trans k0) yb0 yc0
            replace Ag53 := Ag53.keep K74 (ninS (Ne.symm ne_b52_gr) (ninS ne_gr_r0 nin0))
            refine Run.callVI (q := 575) X75 hx hZ e75 (y := (⟨"semblance/JpegScans", "complete", "()Z"⟩ : MethodName)) (z := (⟨"semblance/JpegScans", "complete", "()Z"⟩ : MethodName)) hown (wm26 hw) (wm27 hw) (notFace_of_selects (args := #[]) (mvT hZ (wm29 hw))) (wm29 hw) (wm28 hw) (wm2 hw) (wm30 hw) (by decide) (a := b52) E74 (argsL := []) (rest := []) (c_cmp_1 l Z a0 hw b52 T74.heap n0 Z74 gr r0 (0 : Int32) (1 : Int32) g0 E74 F274 F474 Ag53 Ar0_74 (fun _ => rfl) (fun h => absurd ⟨rfl, zr0.mpr ⟨own_bne hc550, own_bne hc555⟩⟩ h)) pd_7 rfl (by rw [hml]; rfl) (W := 0) rfl (by decide) (by decide) (by decide) (by decide) (hb hby at_572) rfl rfl fun T78 L78 X78 M78 e78 => ?_
            have N78 := Fr.app N75 M78
            refine Run.x_iload (q := 577) X78 hx (hb hby at_575) rfl rfl ?_
            refine Run.x_icmpNo (q := 580) X78 hx (hb hby at_577) (teq (by decide : (1 : Int32) = (1 : Int32))).2 rfl ?_
            refine Run.x_iconst (q := 581) X78 hx (hb hby at_580) (z := (1 : Int32)) rfl rfl ?_
            refine Run.x_goto (q := 585) X78 hx (hb hby at_581) (by decide) (by decide) ?_
            refine Run.retN X78 hx hlk e78 (t := .boolean) hret (by simp) (z' := (1 : Int32)) (by decide) (hb hby at_585) (by decide) (by decide) ?_
            exact ⟨rfl, N78⟩
         refine Run.x_iloadN (q := 488) X74 hx (hb hby at_487) rfl rfl ?_
         refine Run.x_bipush (q := 490) X74 hx (hb hby at_488) (z := (16 : Int32)) rfl rfl ?_
         refine Run.x_iand (q := 491) X74 hx (hb hby at_490) rfl rfl ?_
         by_cases hc491 : (p1 &&& (16 : Int32)) = (0 : Int32)
         ·skip
          refine Run.x_ifYes (q := 498) X74 hx (hb hby at_491) ((if0 _ _).trans (teq hc491).1) (by decide) (by decide) ?_
          refine Run.x_iconst (q := 499) X74 hx (hb hby at_498) (z := (0 : Int32)) rfl rfl ?_
          exact J499 _ (own_b0 (fun h => h hc491)).symm
         ·skip
          refine Run.x_ifNo (q := 494) X74 hx (hb hby at_491) ((if0 _ _).trans (feq hc491).1) rfl ?_
          refine Run.x_iconst (q := 495) X74 hx (hb hby at_494) (z := (1 : Int32)) rfl rfl ?_
          refine Run.x_goto (q := 499) X74 hx (hb hby at_495) (by decide) (by decide) ?_
          exact J499 _ (own_b1 hc491).symm
        refine Run.x_iloadN (q := 476) X74 hx (hb hby at_475) rfl rfl ?_
        refine Run.x_bipush (q := 478) X74 hx (hb hby at_476) (z := (8 : Int32)) rfl rfl ?_
        refine Run.x_iand (q := 479) X74 hx (hb hby at_478) rfl rfl ?_
        by_cases hc479 : (p1 &&& (8 : Int32)) = (0 : Int32)
        ·skip
         refine Run.x_ifYes (q := 486) X74 hx (hb hby at_479) ((if0 _ _).trans (teq hc479).1) (by decide) (by decide) ?_
         refine Run.x_iconst (q := 487) X74 hx (hb hby at_486) (z := (0 : Int32)) rfl rfl ?_
         exact J487 _ (own_b0 (fun h => h hc479)).symm
        ·skip
         refine Run.x_ifNo (q := 482) X74 hx (hb hby at_479) ((if0 _ _).trans (feq hc479).1) rfl ?_
         refine Run.x_iconst (q := 483) X74 hx (hb hby at_482) (z := (1 : Int32)) rfl rfl ?_
         refine Run.x_goto (q := 487) X74 hx (hb hby at_483) (by decide) (by decide) ?_
         exact J487 _ (own_b1 hc479).symm
       refine Run.x_iload (q := 453) X74 hx (hb hby at_451) rfl rfl ?_
       by_cases hc453 : d = (0 : Int32)
       ·skip
        refine Run.x_ifYes (q := 467) X74 hx (hb hby at_453) ((if0 _ _).trans (teq hc453).1) (by decide) (by decide) ?_
        refine Run.x_iconst (q := 468) X74 hx (hb hby at_467) (z := (1 : Int32)) rfl rfl ?_
        refine Run.x_goto (q := 472) X74 hx (hb hby at_468) (by decide) (by decide) ?_
        exact absurd hc453 (own_d0 hd1)
       ·skip
        refine Run.x_ifNo (q := 456) X74 hx (hb hby at_453) ((if0 _ _).trans (feq hc453).1) rfl ?_
        refine Run.x_iload (q := 458) X74 hx (hb hby at_456) rfl rfl ?_
        refine Run.x_iconst (q := 459) X74 hx (hb hby at_458) (z := (1 : Int32)) rfl rfl ?_
        by_cases hc459 : d = (1 : Int32)
        ·skip
         refine Run.x_icmpNo (q := 462) X74 hx (hb hby at_459) (teq hc459).2 rfl ?_
         refine Run.x_iload (q := 464) X74 hx (hb hby at_462) rfl rfl ?_
         refine Run.x_ifNo (q := 467) X74 hx (hb hby at_464) ((if0 _ _).trans (feq (by decide : ¬ ((1 : Int32) = (0 : Int32)))).1) rfl ?_
         refine Run.x_iconst (q := 468) X74 hx (hb hby at_467) (z := (1 : Int32)) rfl rfl ?_
         refine Run.x_goto (q := 472) X74 hx (hb hby at_468) (by decide) (by decide) ?_
         exact J472 _ (own_b1 (by rw [hc459]; decide)).symm
        ·skip
         refine Run.x_icmpYes (q := 471) X74 hx (hb hby at_459) (feq hc459).2 (by decide) (by decide) ?_
         refine Run.x_iconst (q := 472) X74 hx (hb hby at_471) (z := (0 : Int32)) rfl rfl ?_
         exact J472 _ (own_b0 (own_dm1 hc459)).symm
      refine Run.x_iloadN (q := 399) X73 hx (hb hby at_398) rfl rfl ?_
      refine Run.x_bipush (q := 401) X73 hx (hb hby at_399) (z := (16 : Int32)) rfl rfl ?_
      refine Run.x_iand (q := 402) X73 hx (hb hby at_401) rfl rfl ?_
      by_cases hc402 : (p1 &&& (16 : Int32)) = (0 : Int32)
      ·skip
       refine Run.x_ifYes (q := 409) X73 hx (hb hby at_402) ((if0 _ _).trans (teq hc402).1) (by decide) (by decide) ?_
       refine Run.x_iconst (q := 410) X73 hx (hb hby at_409) (z := (0 : Int32)) rfl rfl ?_
       exact J410 _ (own_b0 (fun h => h hc402)).symm
      ·skip
       refine Run.x_ifNo (q := 405) X73 hx (hb hby at_402) ((if0 _ _).trans (feq hc402).1) rfl ?_
       refine Run.x_iconst (q := 406) X73 hx (hb hby at_405) (z := (1 : Int32)) rfl rfl ?_
       refine Run.x_goto (q := 410) X73 hx (hb hby at_406) (by decide) (by decide) ?_
       exact J410 _ (own_b1 hc402).symm
     refine Run.x_iloadN (q := 387) X73 hx (hb hby at_386) rfl rfl ?_
     refine Run.x_bipush (q := 389) X73 hx (hb hby at_387) (z := (8 : Int32)) rfl rfl ?_
     refine Run.x_iand (q := 390) X73 hx (hb hby at_389) rfl rfl ?_
     by_cases hc390 : (p1 &&& (8 : Int32)) = (0 : Int32)
     ·skip
      refine Run.x_ifYes (q := 397) X73 hx (hb hby at_390) ((if0 _ _).trans (teq hc390).1) (by decide) (by decide) ?_
      refine Run.x_iconst (q := 398) X73 hx (hb hby at_397) (z := (0 : Int32)) rfl rfl ?_
      exact J398 _ (own_b0 (fun h => h hc390)).symm
     ·skip
      refine Run.x_ifNo (q := 393) X73 hx (hb hby at_390) ((if0 _ _).trans (feq hc390).1) rfl ?_
      refine Run.x_iconst (q := 394) X73 hx (hb hby at_393) (z := (1 : Int32)) rfl rfl ?_
      refine Run.x_goto (q := 398) X73 hx (hb hby at_394) (by decide) (by decide) ?_
      exact J398 _ (own_b1 hc390).symm
   refine Run.x_iloadN (q := 282) X53 hx (hb hby at_281) rfl rfl ?_
   refine Run.x_iconst (q := 283) X53 hx (hb hby at_282) (z := (4 : Int32)) rfl rfl ?_
   refine Run.x_iand (q := 284) X53 hx (hb hby at_283) rfl rfl ?_
   by_cases hc284 : (p1 &&& (4 : Int32)) = (0 : Int32)
   ·skip
    refine Run.x_ifYes (q := 297) X53 hx (hb hby at_284) ((if0 _ _).trans (teq hc284).1) (by decide) (by decide) ?_
    refine Run.x_iconst (q := 298) X53 hx (hb hby at_297) (z := (0 : Int32)) rfl rfl ?_
    exact J298 _ (Or.inl rfl)
   ·skip
    refine Run.x_ifNo (q := 287) X53 hx (hb hby at_284) ((if0 _ _).trans (feq hc284).1) rfl ?_
    refine Run.x_iload (q := 289) X53 hx (hb hby at_287) rfl rfl ?_
    refine Run.x_iconst (q := 290) X53 hx (hb hby at_289) (z := (1 : Int32)) rfl rfl ?_
    by_cases hc290 : d < (1 : Int32)
    ·skip
     refine Run.x_icmpYes (q := 297) X53 hx (hb hby at_290) (tlt hc290).1 (by decide) (by decide) ?_
     refine Run.x_iconst (q := 298) X53 hx (hb hby at_297) (z := (0 : Int32)) rfl rfl ?_
     exact J298 _ (Or.inl rfl)
    ·skip
     refine Run.x_icmpNo (q := 293) X53 hx (hb hby at_290) (flt hc290).1 rfl ?_
     refine Run.x_iconst (q := 294) X53 hx (hb hby at_293) (z := (1 : Int32)) rfl rfl ?_
     refine Run.x_goto (q := 298) X53 hx (hb hby at_294) (by decide) (by decide) ?_
     exact J298 _ (Or.inr ⟨rfl, hc290⟩)
  ·skip
   show Run p e below s _ _ _ (T0.setTop (mkF m 22 #[.val (.int p1), .val (.int p2), .val (.int p3), .val (.int p4), .val (.int p5), .val (.int 1), .val (.int 2), .unset, .unset, .unset, .unset, .unset, .unset, .unset, .unset, .unset, .unset, .unset] []))
   obtain ⟨T79, h79, X79, e79, E79, A79, D79, -, st79⟩ := newO X0 hx hZ hown (wm0 hw) (wm1 hw) (wm2 hw) e0 (g := (mkF m 22 #[.val (.int p1), .val (.int p2), .val (.int p3), .val (.int p4), .val (.int p5), .val (.int 1), .val (.int 2), .unset, .unset, .unset, .unset, .unset, .unset, .unset, .unset, .unset, .unset, .unset] [])) rfl (hb hby at_22) (by decide) (by decide)
   obtain ⟨b79, gg79⟩ : ∃ z, z = h0.size := ⟨_, rfl⟩
   rw [← gg79] at A79 D79 st79
   have g_b79 : n0 ≤ b79 := Nat.le_trans Z0 (Nat.le_of_eq gg79.symm)
   have Z79 : n0 ≤ h79.size := Nat.le_trans Z0 E79.1
   have E_b79 := A79
   have F_b79_progressive : Fld Z h79 b79 "semblance/JpegScans" "progressive" "Z" (.int 0) := D79 (Or.inr (wm10 hw)) (ty := .boolean) (by decide)
   have F_b79_components : Fld Z h79 b79 "semblance/JpegScans" "components" "I" (.int 0) := D79 (Or.inr (wm12 hw)) (ty := .int) (by decide)
   have F_b79_sentTo : Fld Z h79 b79 "semblance/JpegScans" "sentTo" "[[I" .null := D79 (Or.inr (wm17 hw)) (ty := (.array (.array .int))) (by decide)
   have F_b79_sentAgain : Fld Z h79 b79 "semblance/JpegScans" "sentAgain" "Z" (.int 0) := D79 (Or.inl (wm32 hw)) (ty := .boolean) (by decide)
   have F_b79_count : Fld Z h79 b79 "semblance/JpegScans" "count" "I" (.int 0) := D79 (Or.inl (wm40 hw)) (ty := .int) (by decide)
   refine Run.st st79 ?_
   show Run p e below s _ _ _ (T79.setTop (mkF m 25 #[.val (.int p1), .val (.int p2), .val (.int p3), .val (.int p4), .val (.int p5), .val (.int 1), .val (.int 2), .unset, .unset, .unset, .unset, .unset, .unset, .unset, .unset, .unset, .unset, .unset] [(.ref b79)]))
   refine Run.x_dup (q := 26) X79 hx (hb hby at_25) rfl rfl ?_
   refine Run.x_iload (q := 28) X79 hx (hb hby at_26) rfl rfl ?_
   refine Run.x_iload (q := 30) X79 hx (hb hby at_28) rfl rfl ?_
   refine Run.callC X79 hx hZ e79 (y := (⟨"semblance/JpegScans", "<init>", "(ZI)V"⟩ : MethodName)) hown rfl (wm3 hw) (wm4 hw) (wm2 hw) (wm5 hw) (by decide) (a := b79) (argsL := [(.int 1), (.int 2)]) (rest := [(.ref b79)]) (c_init_2_1 l Z a0 hw b79 h79 n0 Z79 E_b79 F_b79_progressive F_b79_components F_b79_sentTo F_b79_count F_b79_sentAgain g_b79) pd_5 rfl (by rw [hml]; rfl) (W := 1) rfl (by decide) (by decide) (by decide) (by decide) (hb hby at_30) rfl ?_
   intro T80 v80 L80 X80 q80
   obtain ⟨gr, r0, r1, rfl, M80, K80, sg, lt0, lt1, E80, F080, F180, F280, F380, F480, Ag80, Ar0_80, Ar1_80⟩ := q80
   have N80 := Fr.app N0 M80
   show Run p e below s _ _ _ (T80.setTop (mkF m 33 #[.val (.int p1), .val (.int p2), .val (.int p3), .val (.int p4), .val (.int p5), .val (.int 1), .val (.int 2), .unset, .unset, .unset, .unset, .unset, .unset, .unset, .unset, .unset, .unset, .unset] [(.ref b79)]))
   have S_r0 := Nat.le_trans sg (Nat.le_of_lt lt0)
   have S_r1 := Nat.le_trans S_r0 (Nat.le_of_lt lt1)
   have S_gr := sg
   have ne_b79_gr : b79 ≠ gr := Nat.ne_of_lt (Nat.lt_of_lt_of_le E_b79.lt S_gr)
   have g_gr : n0 ≤ gr := Nat.le_trans Z79 S_gr
   have ne_b79_r0 : b79 ≠ r0 := Nat.ne_of_lt (Nat.lt_of_lt_of_le E_b79.lt S_r0)
   have g_r0 : n0 ≤ r0 := Nat.le_trans Z79 S_r0
   have ne_b79_r1 : b79 ≠ r1 := Nat.ne_of_lt (Nat.lt_of_lt_of_le E_b79.lt S_r1)
   have g_r1 : n0 ≤ r1 := Nat.le_trans Z79 S_r1
   have ne_gr_r0 : gr ≠ r0 := Nat.ne_of_lt lt0
   have ne_r0_r1 : r0 ≠ r1 := Nat.ne_of_lt lt1
   have ne_gr_r1 : gr ≠ r1 := Nat.ne_of_lt (Nat.lt_trans lt0 lt1)
   have Z80 : n0 ≤ T80.heap.size := Nat.le_trans Z79 K80.1
   refine Run.x_astore (q := 35) X80 hx #[.val (.int p1), .val (.int p2), .val (.int p3), .val (.int p4), .val (.int p5), .val (.int 1), .val (.int 2), .val (.ref b79), .unset, .unset, .unset, .unset, .unset, .unset, .unset, .unset, .unset, .unset] (hb hby at_33) rfl rfl rfl ?_
   refine Run.x_iload (q := 37) X80 hx (hb hby at_35) rfl rfl ?_
   refine Run.x_ifYes (q := 272) X80 hx (hb hby at_37) ((if0 _ _).trans (feq (by decide : ¬ ((1 : Int32) = (0 : Int32)))).2) (by decide) (by decide) ?_
   refine Run.x_iloadN (q := 273) X80 hx (hb hby at_272) rfl rfl ?_
   refine Run.st (B := T80.setTop (mkF m 275 #[.val (.int p1), .val (.int p2), .val (.int p3), .val (.int p4), .val (.int p5), .val (.int 1), .val (.int 2), .val (.ref b79), .unset, .unset, .unset, .unset, .unset, .unset, .unset, .unset, .unset, .unset] [(.int 2147483647), (.int p2)])) (fun t kt => X80.ldcInt hx hown (mvT hZ (wm33 hw)) (g := (mkF m 273 #[.val (.int p1), .val (.int p2), .val (.int p3), .val (.int p4), .val (.int p5), .val (.int 1), .val (.int 2), .val (.ref b79), .unset, .unset, .unset, .unset, .unset, .unset, .unset, .unset, .unset, .unset] [(.int p2)])) rfl (hb hby at_273) _ kt) ?_
   refine Run.x_iand (q := 276) X80 hx (hb hby at_275) rfl rfl ?_
   refine Run.x_bipush (q := 278) X80 hx (hb hby at_276) (z := (14 : Int32)) rfl rfl ?_
   refine Run.x_irem (q := 279) X80 hx (hb hby at_278) (by decide) rfl rfl ?_
   refine Run.x_istore (q := 281) X80 hx #[.val (.int p1), .val (.int p2), .val (.int p3), .val (.int p4), .val (.int p5), .val (.int 1), .val (.int 2), .val (.ref b79), .val (.int ((p2 &&& (2147483647 : Int32)) % (14 : Int32))), .unset, .unset, .unset, .unset, .unset, .unset, .unset, .unset, .unset] (hb hby at_279) rfl rfl ?_
   generalize hd : ((p2 &&& (2147483647 : Int32)) % (14 : Int32)) = d
   have rd := own_d_rg hd
   have J298 : ∀ (rr : Int32), (rr = 0 ∨ (rr = 1 ∧ ¬ d < (1 : Int32))) → Run p e below s (Tru n0) room_1.cells room_1.slots (T80.setTop (mkF m 298 #[.val (.int p1), .val (.int p2), .val (.int p3), .val (.int p4), .val (.int p5), .val (.int 1), .val (.int 2), .val (.ref b79), .val (.int d), .unset, .unset, .unset, .unset, .unset, .unset, .unset, .unset, .unset] [(.int rr)])) := by
    intro rr hrr
    rcases hrr with rfl | ⟨rfl, hd1⟩
    ·skip
     refine Run.x_istore (q := 300) X80 hx #[.val (.int p1), .val (.int p2), .val (.int p3), .val (.int p4), .val (.int p5), .val (.int 1), .val (.int 2), .val (.ref b79), .val (.int d), .val (.int 0), .unset, .unset, .unset, .unset, .unset, .unset, .unset, .unset] (hb hby at_298) rfl rfl ?_
     refine Run.x_iload (q := 302) X80 hx (hb hby at_300) rfl rfl ?_
     refine Run.x_iconst (q := 303) X80 hx (hb hby at_302) (z := (1 : Int32)) rfl rfl ?_
     refine Run.x_icmpYes (q := 316) X80 hx (hb hby at_303) (feq (by decide : ¬ ((2 : Int32) = (1 : Int32)))).2 (by decide) (by decide) ?_
     refine Run.x_iconst (q := 317) X80 hx (hb hby at_316) (z := (2 : Int32)) rfl rfl ?_
     refine Run.newP (aty := .int) X80 hx hZ rfl (wm15 hw) (hb hby at_317) (len := 2) (by decide) (by decide) (cap := 2) (by decide) (by decide) (by decide) (by decide) ?_
     intro T81 h81 b81 gg81 X81 e81 E81 A_b81
     have g_b81 : n0 ≤ b81 := Nat.le_trans Z80 (Nat.le_of_eq gg81.symm)
     have ne_b79_b81 : b79 ≠ b81 := Nat.ne_of_lt (Nat.lt_of_lt_of_le E80.lt (Nat.le_of_eq gg81.symm))
     have ne_gr_b81 : gr ≠ b81 := Nat.ne_of_lt (Nat.lt_of_lt_of_le Ag80.lt (Nat.le_of_eq gg81.symm))
     have ne_r0_b81 : r0 ≠ b81 := Nat.ne_of_lt (Nat.lt_of_lt_of_le Ar0_80.lt (Nat.le_of_eq gg81.symm))
     have ne_r1_b81 : r1 ≠ b81 := Nat.ne_of_lt (Nat.lt_of_lt_of_le Ar1_80.lt (Nat.le_of_eq gg81.symm))
     have Z81 : n0 ≤ h81.size := Nat.le_trans Z80 E81.1
     replace A_b81 : Ars Z h81 b81 .int [(.int 0), (.int 0)] := A_b81
     show Run p e below s _ _ _ (T81.setTop (mkF m 319 #[.val (.int p1), .val (.int p2), .val (.int p3), .val (.int p4), .val (.int p5), .val (.int 1), .val (.int 2), .val (.ref b79), .val (.int d), .val (.int 0), .unset, .unset, .unset, .unset, .unset, .unset, .unset, .unset] [(.ref b81)]))
     refine Run.x_dup (q := 320) X81 hx (hb hby at_319) rfl rfl ?_
     refine Run.x_iconst (q := 321) X81 hx (hb hby at_320) (z := (0 : Int32)) rfl rfl ?_
     refine Run.x_iconst (q := 322) X81 hx (hb hby at_321) (z := (0 : Int32)) rfl rfl ?_
     refine Run.y_stI (q := 323) X81 hx hZ e81 A_b81 (i := 0) (by decide) (Nat.le_of_ble_eq_true rfl) (hb hby at_322) rfl fun T82 h82 X82 e82 W82 A82 => ?_
     replace A_b81 : Ars Z h82 b81 .int [(.int 0), (.int 0)] := A82
     have N82 := Fr.snoc X82 N80 g_b81
     have Z82 : n0 ≤ h82.size := Nat.le_trans Z81 (Nat.le_of_eq W82.size.symm)
     refine Run.x_dup (q := 324) X82 hx (hb hby at_323) rfl rfl ?_
     refine Run.x_iconst (q := 325) X82 hx (hb hby at_324) (z := (1 : Int32)) rfl rfl ?_
     refine Run.x_iconst (q := 326) X82 hx (hb hby at_325) (z := (1 : Int32)) rfl rfl ?_
     refine Run.y_stI (q := 327) X82 hx hZ e82 A_b81 (i := 1) (by decide) (Nat.le_of_ble_eq_true rfl) (hb hby at_326) rfl fun T83 h83 X83 e83 W83 A83 => ?_
     replace A_b81 : Ars Z h83 b81 .int [(.int 0), (.int 1)] := A83
     have N83 := Fr.snoc X83 N82 g_b81
     have Z83 : n0 ≤ h83.size := Nat.le_trans Z82 (Nat.le_of_eq W83.size.symm)
     refine Run.x_astore (q := 329) X83 hx #[.val (.int p1), .val (.int p2), .val (.int p3), .val (.int p4), .val (.int p5), .val (.int 1), .val (.int 2), .val (.ref b79), .val (.int d), .val (.int 0), .val (.ref b81), .unset, .unset, .unset, .unset, .unset, .unset, .unset] (hb hby at_327) rfl rfl rfl ?_
     refine Run.x_iconst (q := 330) X83 hx (hb hby at_329) (z := (1 : Int32)) rfl rfl ?_
     refine Run.newP (aty := .int) X83 hx hZ e83 (wm15 hw) (hb hby at_330) (len := 1) (by decide) (by decide) (cap := 1) (by decide) (by decide) (by decide) (by decide) ?_
     intro T84 h84 b84 gg84 X84 e84 E84 A_b84
     have g_b84 : n0 ≤ b84 := Nat.le_trans Z83 (Nat.le_of_eq gg84.symm)
     replace E80 := ((E80.ext E81).wr W82).wr W83
     have ne_b79_b84 : b79 ≠ b84 := Nat.ne_of_lt (Nat.lt_of_lt_of_le E80.lt (Nat.le_of_eq gg84.symm))
     replace Ag80 := ((Ag80.ext E81).other W82 ne_gr_b81).other W83 ne_gr_b81
     have ne_gr_b84 : gr ≠ b84 := Nat.ne_of_lt (Nat.lt_of_lt_of_le Ag80.lt (Nat.le_of_eq gg84.symm))
     replace Ar0_80 := ((Ar0_80.ext E81).other W82 ne_r0_b81).other W83 ne_r0_b81
     have ne_r0_b84 : r0 ≠ b84 := Nat.ne_of_lt (Nat.lt_of_lt_of_le Ar0_80.lt (Nat.le_of_eq gg84.symm))
     replace Ar1_80 := ((Ar1_80.ext E81).other W82 ne_r1_b81).other W83 ne_r1_b81
     have ne_r1_b84 : r1 ≠ b84 := Nat.ne_of_lt (Nat.lt_of_lt_of_le Ar1_80.lt (Nat.le_of_eq gg84.symm))
     have ne_b81_b84 : b81 ≠ b84 := Nat.ne_of_lt (Nat.lt_of_lt_of_le A_b81.lt (Nat.le_of_eq gg84.symm))
     have Z84 : n0 ≤ h84.size := Nat.le_trans Z83 E84.1
     replace A_b84 : Ars Z h84 b84 .int [(.int 0)] := A_b84
     show Run p e below s _ _ _ (T84.setTop (mkF m 332 #[.val (.int p1), .val (.int p2), .val (.int p3), .val (.int p4), .val (.int p5), .val (.int 1), .val (.int 2), .val (.ref b79), .val (.int d), .val (.int 0), .val (.ref b81), .unset, .unset, .unset, .unset, .unset, .unset, .unset] [(.ref b84)]))
     refine Run.x_dup (q := 333) X84 hx (hb hby at_332) rfl rfl ?_
     refine Run.x_iconst (q := 334) X84 hx (hb hby at_333) (z := (0 : Int32)) rfl rfl ?_
     refine Run.x_iconst (q := 335) X84 hx (hb hby at_334) (z := (0 : Int32)) rfl rfl ?_
     refine Run.y_stI (q := 336) X84 hx hZ e84 A_b84 (i := 0) (by decide) (Nat.le_of_ble_eq_true rfl) (hb hby at_335) rfl fun T85 h85 X85 e85 W85 A85 => ?_
     replace A_b84 : Ars Z h85 b84 .int [(.int 0)] := A85
     have N85 := Fr.snoc X85 N83 g_b84
     have Z85 : n0 ≤ h85.size := Nat.le_trans Z84 (Nat.le_of_eq W85.size.symm)
     refine Run.x_astore (q := 338) X85 hx #[.val (.int p1), .val (.int p2), .val (.int p3), .val (.int p4), .val (.int p5), .val (.int 1), .val (.int 2), .val (.ref b79), .val (.int d), .val (.int 0), .val (.ref b81), .val (.ref b84), .unset, .unset, .unset, .unset, .unset, .unset] (hb hby at_336) rfl rfl rfl ?_
     refine Run.x_iconst (q := 339) X85 hx (hb hby at_338) (z := (1 : Int32)) rfl rfl ?_
     refine Run.newP (aty := .int) X85 hx hZ e85 (wm15 hw) (hb hby at_339) (len := 1) (by decide) (by decide) (cap := 1) (by decide) (by decide) (by decide) (by decide) ?_
     intro T86 h86 b86 gg86 X86 e86 E86 A_b86
     have g_b86 : n0 ≤ b86 := Nat.le_trans Z85 (Nat.le_of_eq gg86.symm)
     replace E80 := (E80.ext E84).wr W85
     have ne_b79_b86 : b79 ≠ b86 := Nat.ne_of_lt (Nat.lt_of_lt_of_le E80.lt (Nat.le_of_eq gg86.symm))
     replace Ag80 := (Ag80.ext E84).other W85 ne_gr_b84
     have ne_gr_b86 : gr ≠ b86 := Nat.ne_of_lt (Nat.lt_of_lt_of_le Ag80.lt (Nat.le_of_eq gg86.symm))
     replace Ar0_80 := (Ar0_80.ext E84).other W85 ne_r0_b84
     have ne_r0_b86 : r0 ≠ b86 := Nat.ne_of_lt (Nat.lt_of_lt_of_le Ar0_80.lt (Nat.le_of_eq gg86.symm))
     replace Ar1_80 := (Ar1_80.ext E84).other W85 ne_r1_b84
     have ne_r1_b86 : r1 ≠ b86 := Nat.ne_of_lt (Nat.lt_of_lt_of_le Ar1_80.lt (Nat.le_of_eq gg86.symm))
     replace A_b81 := (A_b81.ext E84).other W85 ne_b81_b84
     have ne_b81_b86 : b81 ≠ b86 := Nat.ne_of_lt (Nat.lt_of_lt_of_le A_b81.lt (Nat.le_of_eq gg86.symm))
     have ne_b84_b86 : b84 ≠ b86 := Nat.ne_of_lt (Nat.lt_of_lt_of_le A_b84.lt (Nat.le_of_eq gg86.symm))
     have Z86 : n0 ≤ h86.size := Nat.le_trans Z85 E86.1
     replace A_b86 : Ars Z h86 b86 .int [(.int 0)] := A_b86
     show Run p e below s _ _ _ (T86.setTop (mkF m 341 #[.val (.int p1), .val (.int p2), .val (.int p3), .val (.int p4), .val (.int p5), .val (.int 1), .val (.int 2), .val (.ref b79), .val (.int d), .val (.int 0), .val (.ref b81), .val (.ref b84), .unset, .unset, .unset, .unset, .unset, .unset] [(.ref b86)]))
     refine Run.x_dup (q := 342) X86 hx (hb hby at_341) rfl rfl ?_
     refine Run.x_iconst (q := 343) X86 hx (hb hby at_342) (z := (0 : Int32)) rfl rfl ?_
     refine Run.x_iconst (q := 344) X86 hx (hb hby at_343) (z := (1 : Int32)) rfl rfl ?_
     refine Run.y_stI (q := 345) X86 hx hZ e86 A_b86 (i := 0) (by decide) (Nat.le_of_ble_eq_true rfl) (hb hby at_344) rfl fun T87 h87 X87 e87 W87 A87 => ?_
     replace A_b86 : Ars Z h87 b86 .int [(.int 1)] := A87
     have N87 := Fr.snoc X87 N85 g_b86
     have Z87 : n0 ≤ h87.size := Nat.le_trans Z86 (Nat.le_of_eq W87.size.symm)
     refine Run.x_astore (q := 347) X87 hx #[.val (.int p1), .val (.int p2), .val (.int p3), .val (.int p4), .val (.int p5), .val (.int 1), .val (.int 2), .val (.ref b79), .val (.int d), .val (.int 0), .val (.ref b81), .val (.ref b84), .val (.ref b86), .unset, .unset, .unset, .unset, .unset] (hb hby at_345) rfl rfl rfl ?_
     refine Run.x_aload (q := 349) X87 hx (hb hby at_347) rfl rfl rfl ?_
     refine Run.x_aload (q := 351) X87 hx (hb hby at_349) rfl rfl rfl ?_
     refine Run.x_iconst (q := 352) X87 hx (hb hby at_351) (z := (0 : Int32)) rfl rfl ?_
     refine Run.x_iconst (q := 353) X87 hx (hb hby at_352) (z := (0 : Int32)) rfl rfl ?_
     refine Run.x_iconst (q := 354) X87 hx (hb hby at_353) (z := (0 : Int32)) rfl rfl ?_
     refine Run.x_iload (q := 356) X87 hx (hb hby at_354) rfl rfl ?_
     replace E80 := (E80.ext E86).wr W87
     replace F080 := ((((((F080.ext E81).other W82 (Or.inl ne_b79_b81)).other W83 (Or.inl ne_b79_b81)).ext E84).other W85 (Or.inl ne_b79_b84)).ext E86).other W87 (Or.inl ne_b79_b86)
     replace F180 := ((((((F180.ext E81).other W82 (Or.inl ne_b79_b81)).other W83 (Or.inl ne_b79_b81)).ext E84).other W85 (Or.inl ne_b79_b84)).ext E86).other W87 (Or.inl ne_b79_b86)
     replace F280 := ((((((F280.ext E81).other W82 (Or.inl ne_b79_b81)).other W83 (Or.inl ne_b79_b81)).ext E84).other W85 (Or.inl ne_b79_b84)).ext E86).other W87 (Or.inl ne_b79_b86)
     replace F380 := ((((((F380.ext E81).other W82 (Or.inl ne_b79_b81)).other W83 (Or.inl ne_b79_b81)).ext E84).other W85 (Or.inl ne_b79_b84)).ext E86).other W87 (Or.inl ne_b79_b86)
     replace F480 := ((((((F480.ext E81).other W82 (Or.inl ne_b79_b81)).other W83 (Or.inl ne_b79_b81)).ext E84).other W85 (Or.inl ne_b79_b84)).ext E86).other W87 (Or.inl ne_b79_b86)
     replace Ag80 := (Ag80.ext E86).other W87 ne_gr_b86
     replace Ar0_80 := (Ar0_80.ext E86).other W87 ne_r0_b86
     replace Ar1_80 := (Ar1_80.ext E86).other W87 ne_r1_b86
     replace A_b81 := (A_b81.ext E86).other W87 ne_b81_b86
     refine Run.callV X87 hx hZ e87 (y := (⟨"semblance/JpegScans", "take", "([IIIII)Z"⟩ : MethodName)) (z := (⟨"semblance/JpegScans", "take", "([IIIII)Z"⟩ : MethodName)) hown (wm34 hw) (wm35 hw) (notFace_of_selects (args := #[]) (mvT hZ (wm37 hw))) (wm37 hw) (wm36 hw) (wm2 hw) (wm38 hw) (by decide) (a := b79) E80 (argsL := [(.ref b81), (.int 0), (.int 0), (.int 0), (.int d)]) (rest := []) (c_dc_2_0 l Z a0 hw b79 b81 d h87 n0 Z87 gr r0 r1 (0 : Int32) (0 : Int32) (fun _ => (-1 : Int32)) (fun _ => (-1 : Int32)) E80 F080 F180 F280 F380 F480 Ag80 Ar0_80 Ar1_80 A_b81 g_b79 g_r0 g_r1 ne_b79_gr ne_b79_r0 ne_b79_r1 ne_b79_b81 ne_gr_r0 ne_gr_r1 ne_gr_b81 ne_r0_r1 ne_r0_b81 ne_r1_b81 (by decide) rd (by decide) (by decide)) pd_3 rfl (by rw [hml]; rfl) (W := 0) rfl (by decide) (by decide) (by decide) (by decide) (hb hby at_356) rfl ?_
     intro T88 v88 L88 X88 q88
     obtain ⟨bb88, rfl, M88, K88, E88, F088, F188, F288, F388, F488, Ar0_88, Ar1_88⟩ := q88
     have N88 := Fr.app N87 M88
     show Run p e below s _ _ _ (T88.setTop (mkF m 359 #[.val (.int p1), .val (.int p2), .val (.int p3), .val (.int p4), .val (.int p5), .val (.int 1), .val (.int 2), .val (.ref b79), .val (.int d), .val (.int 0), .val (.ref b81), .val (.ref b84), .val (.ref b86), .unset, .unset, .unset, .unset, .unset] [(.int bb88)]))
     have Z88 : n0 ≤ T88.heap.size := Nat.le_trans Z87 K88.1
     refine Run.x_pop (q := 360) X88 hx (hb hby at_359) rfl rfl ?_
     refine Run.x_iload (q := 362) X88 hx (hb hby at_360) rfl rfl ?_
     refine Run.x_ifYes (q := 381) X88 hx (hb hby at_362) ((if0 _ _).trans (teq (by decide : (0 : Int32) = (0 : Int32))).1) (by decide) (by decide) ?_
     have k0 : (own_upd (fun _ => (-1 : Int32)) 0 d) 0 = d := own_upd_self
     have km : ∀ i, 1 ≤ i → i < 64 → (own_upd (fun _ => (-1 : Int32)) 0 d) i = -1 := fun i q _ => (own_upd_ne (by omega)).trans rfl
     have rD : 0 ≤ d.toInt ∧ d.toInt ≤ 13 := rd
     obtain ⟨ee0, hee0⟩ : ∃ z, own_e p3 = z := ⟨_, rfl⟩
     obtain ⟨bA0, hbA0⟩ : ∃ z, own_A p3 = z := ⟨_, rfl⟩
     obtain ⟨bB0, hbB0⟩ : ∃ z, own_B p3 = z := ⟨_, rfl⟩
     obtain ⟨E0, hE0, hE10, hE20⟩ := own_e_rg hee0
     obtain ⟨ee1, hee1⟩ : ∃ z, own_e p4 = z := ⟨_, rfl⟩
     obtain ⟨bA1, hbA1⟩ : ∃ z, own_A p4 = z := ⟨_, rfl⟩
     obtain ⟨bB1, hbB1⟩ : ∃ z, own_B p4 = z := ⟨_, rfl⟩
     obtain ⟨E1, hE1, hE11, hE21⟩ := own_e_rg hee1
     refine Run.x_aload (q := 383) X88 hx (hb hby at_381) rfl rfl rfl ?_
     refine Run.x_aload (q := 385) X88 hx (hb hby at_383) rfl rfl rfl ?_
     refine Run.x_iloadN (q := 386) X88 hx (hb hby at_385) rfl rfl ?_
     have J398 : ∀ (aq : Int32), (aq = (own_b (¬ (p1 &&& (8 : Int32)) = (0 : Int32)))) → Run p e below s (Tru n0) room_1.cells room_1.slots (T88.setTop (mkF m 398 #[.val (.int p1), .val (.int p2), .val (.int p3), .val (.int p4), .val (.int p5), .val (.int 1), .val (.int 2), .val (.ref b79), .val (.int d), .val (.int 0), .val (.ref b81), .val (.ref b84), .val (.ref b86), .unset, .unset, .unset, .unset, .unset] [(.int aq), (.int p3), (.ref b84), (.ref b79)])) := by
      intro aq haq
      subst haq
      have J410 : ∀ (aq : Int32), (aq = (own_b (¬ (p1 &&& (16 : Int32)) = (0 : Int32)))) → Run p e below s (Tru n0) room_1.cells room_1.slots (T88.setTop (mkF m 410 #[.val (.int p1), .val (.int p2), .val (.int p3), .val (.int p4), .val (.int p5), .val (.int 1), .val (.int 2), .val (.ref b79), .val (.int d), .val (.int 0), .val (.ref b81), .val (.ref b84), .val (.ref b86), .unset, .unset, .unset, .unset, .unset] [(.int aq), (.int (own_b (¬ (p1 &&& (8 : Int32)) = (0 : Int32)))), (.int p3), (.ref b84), (.ref b79)])) := by
       intro aq haq
       subst haq
       replace Ag80 := Ag80.keep K88 (ninS (Ne.symm ne_b79_gr) (ninS ne_gr_r0 (ninS ne_gr_r1 nin0)))
       replace A_b84 := ((A_b84.ext E86).other W87 ne_b84_b86).keep K88 (ninS (Ne.symm ne_b79_b84) (ninS (Ne.symm ne_r0_b84) (ninS (Ne.symm ne_r1_b84) nin0)))
       refine Run.callS X88 hx hZ rfl (y := (⟨"semblance/JpegScansCompletePinLaw", "send", "(Lsemblance/JpegScans;[IIZZ)V"⟩ : MethodName)) hown (wm45 hw) (wm46 hw) (wm24 hw) (wm47 hw) (by decide) (argsL := [(.ref b79), (.ref b84), (.int p3), (.int (own_b (¬ (p1 &&& (8 : Int32)) = (0 : Int32)))), (.int (own_b (¬ (p1 &&& (16 : Int32)) = (0 : Int32))))]) (rest := []) (c_send_2_0 l Z a0 hw b79 b84 p3 (own_b (¬ (p1 &&& (8 : Int32)) = (0 : Int32))) (own_b (¬ (p1 &&& (16 : Int32)) = (0 : Int32))) T88.heap n0 Z88 gr r0 r1 ((0 : Int32) + (1 : Int32)) (0 : Int32) (own_upd (fun _ => (-1 : Int32)) 0 d) (own_upd (fun _ => (-1 : Int32)) 0 d) ee0 bA0 bB0 E0 E88 F088 F188 F288 F388 F488 Ag80 Ar0_88 Ar1_88 A_b84 g_b79 g_r0 ne_b79_gr ne_b79_r0 ne_b79_r1 ne_b79_b84 ne_gr_r0 ne_gr_r1 ne_gr_b84 ne_r0_r1 ne_r0_b84 ne_r1_b84 (by decide) hee0 hbA0 hbB0 hE0 hE10 hE20 (by rw [k0]; exact rD.1) km) pd_8 rfl (by rw [hml]; rfl) (W := 0) rfl (by decide) (by decide) (by decide) (by decide) (hb hby at_410) rfl ?_
       intro T89 v89 L89 X89 q89
       obtain ⟨g0, ct0, rfl, M89, K89, hct0, ya0, yb0, yc0, E89, F089, F189, F289, F389, F489, Ar0_89⟩ := q89
       have N89 := Fr.app N88 M89
       show Run p e below s _ _ _ (T89.setTop (mkF m 413 #[.val (.int p1), .val (.int p2), .val (.int p3), .val (.int p4), .val (.int p5), .val (.int 1), .val (.int 2), .val (.ref b79), .val (.int d), .val (.int 0), .val (.ref b81), .val (.ref b84), .val (.ref b86), .unset, .unset, .unset, .unset, .unset] []))
       have Z89 : n0 ≤ T89.heap.size := Nat.le_trans Z88 K89.1
       refine Run.x_iload (q := 415) X89 hx (hb hby at_413) rfl rfl ?_
       refine Run.x_iconst (q := 416) X89 hx (hb hby at_415) (z := (2 : Int32)) rfl rfl ?_
       refine Run.x_icmpNo (q := 419) X89 hx (hb hby at_416) (teq (by decide : (2 : Int32) = (2 : Int32))).2 rfl ?_
       refine Run.x_aload (q := 421) X89 hx (hb hby at_419) rfl rfl rfl ?_
       refine Run.x_aload (q := 423) X89 hx (hb hby at_421) rfl rfl rfl ?_
       refine Run.x_iloadN (q := 424) X89 hx (hb hby at_423) rfl rfl ?_
       have J436 : ∀ (aq : Int32), (aq = (own_b (¬ (p1 &&& (32 : Int32)) = (0 : Int32)))) → Run p e below s (Tru n0) room_1.cells room_1.slots (T89.setTop (mkF m 436 #[.val (.int p1), .val (.int p2), .val (.int p3), .val (.int p4), .val (.int p5), .val (.int 1), .val (.int 2), .val (.ref b79), .val (.int d), .val (.int 0), .val (.ref b81), .val (.ref b84), .val (.ref b86), .unset, .unset, .unset, .unset, .unset] [(.int aq), (.int p4), (.ref b86), (.ref b79)])) := by
        intro aq haq
        subst haq
        have J448 : ∀ (aq : Int32), (aq = (own_b (¬ (p1 &&& (64 : Int32)) = (0 : Int32)))) → Run p e below s (Tru n0) room_1.cells room_1.slots (T89.setTop (mkF m 448 #[.val (.int p1), .val (.int p2), .val (.int p3), .val (.int p4), .val (.int p5), .val (.int 1), .val (.int 2), .val (.ref b79), .val (.int d), .val (.int 0), .val (.ref b81), .val (.ref b84), .val (.ref b86), .unset, .unset, .unset, .unset, .unset] [(.int aq), (.int (own_b (¬ (p1 &&& (32 : Int32)) = (0 : Int32)))), (.int p4), (.ref b86), (.ref b79)])) := by
         intro aq haq
         subst haq
         replace Ag80 := Ag80.keep K89 (ninS (Ne.symm ne_b79_gr) (ninS ne_gr_r0 nin0))
         replace Ar1_88 := Ar1_88.keep K89 (ninS (Ne.symm ne_b79_r1) (ninS (Ne.symm ne_r0_r1) nin0))
         replace A_b86 := (A_b86.keep K88 (ninS (Ne.symm ne_b79_b86) (ninS (Ne.symm ne_r0_b86) (ninS (Ne.symm ne_r1_b86) nin0)))).keep K89 (ninS (Ne.symm ne_b79_b86) (ninS (Ne.symm ne_r0_b86) nin0))
         refine Run.callS X89 hx hZ rfl (y := (⟨"semblance/JpegScansCompletePinLaw", "send", "(Lsemblance/JpegScans;[IIZZ)V"⟩ : MethodName)) hown (wm45 hw) (wm46 hw) (wm24 hw) (wm47 hw) (by decide) (argsL := [(.ref b79), (.ref b86), (.int p4), (.int (own_b (¬ (p1 &&& (32 : Int32)) = (0 : Int32)))), (.int (own_b (¬ (p1 &&& (64 : Int32)) = (0 : Int32))))]) (rest := []) (c_send_2_1 l Z a0 hw b79 b86 p4 (own_b (¬ (p1 &&& (32 : Int32)) = (0 : Int32))) (own_b (¬ (p1 &&& (64 : Int32)) = (0 : Int32))) T89.heap n0 Z89 gr r0 r1 ct0 (0 : Int32) g0 (own_upd (fun _ => (-1 : Int32)) 0 d) ee1 bA1 bB1 E1 E89 F089 F189 F289 F389 F489 Ag80 Ar0_89 Ar1_88 A_b86 g_b79 g_r1 ne_b79_gr ne_b79_r0 ne_b79_r1 ne_b79_b86 ne_gr_r0 ne_gr_r1 ne_gr_b86 ne_r0_r1 ne_r0_b86 ne_r1_b86 (own_cle hct0 (by decide)) hee1 hbA1 hbB1 hE1 hE11 hE21 (by rw [k0]; exact rD.1) km) pd_8 rfl (by rw [hml]; rfl) (W := 0) rfl (by decide) (by decide) (by decide) (by decide) (hb hby at_448) rfl ?_
         intro T90 v90 L90 X90 q90
         obtain ⟨g1, ct1, rfl, M90, K90, hct1, ya1, yb1, yc1, E90, F090, F190, F290, F390, F490, Ar0_90⟩ := q90
         have N90 := Fr.app N89 M90
         show Run p e below s _ _ _ (T90.setTop (mkF m 451 #[.val (.int p1), .val (.int p2), .val (.int p3), .val (.int p4), .val (.int p5), .val (.int 1), .val (.int 2), .val (.ref b79), .val (.int d), .val (.int 0), .val (.ref b81), .val (.ref b84), .val (.ref b86), .unset, .unset, .unset, .unset, .unset] []))
         have Z90 : n0 ≤ T90.heap.size := Nat.le_trans Z89 K90.1
         have J472 : ∀ (dd : Int32), (dd = (own_b (d = (0 : Int32)))) → Run p e below s (Tru n0) room_1.cells room_1.slots (T90.setTop (mkF m 472 #[.val (.int p1), .val (.int p2), .val (.int p3), .val (.int p4), .val (.int p5), .val (.int 1), .val (.int 2), .val (.ref b79), .val (.int d), .val (.int 0), .val (.ref b81), .val (.ref b84), .val (.ref b86), .unset, .unset, .unset, .unset, .unset] [(.int dd)])) := by
          intro dd hdd
          subst hdd
          refine Run.x_istore (q := 474) X90 hx #[.val (.int p1), .val (.int p2), .val (.int p3), .val (.int p4), .val (.int p5), .val (.int 1), .val (.int 2), .val (.ref b79), .val (.int d), .val (.int 0), .val (.ref b81), .val (.ref b84), .val (.ref b86), .val (.int (own_b (d = (0 : Int32)))), .unset, .unset, .unset, .unset] (hb hby at_472) rfl rfl ?_
          refine Run.x_iloadN (q := 475) X90 hx (hb hby at_474) rfl rfl ?_
          have J487 : ∀ (aq : Int32), (aq = (own_b (¬ (p1 &&& (8 : Int32)) = (0 : Int32)))) → Run p e below s (Tru n0) room_1.cells room_1.slots (T90.setTop (mkF m 487 #[.val (.int p1), .val (.int p2), .val (.int p3), .val (.int p4), .val (.int p5), .val (.int 1), .val (.int 2), .val (.ref b79), .val (.int d), .val (.int 0), .val (.ref b81), .val (.ref b84), .val (.ref b86), .val (.int (own_b (d = (0 : Int32)))), .unset, .unset, .unset, .unset] [(.int aq), (.int p3)])) := by
           intro aq haq
           subst haq
           have J499 : ∀ (aq : Int32), (aq = (own_b (¬ (p1 &&& (16 : Int32)) = (0 : Int32)))) → Run p e below s (Tru n0) room_1.cells room_1.slots (T90.setTop (mkF m 499 #[.val (.int p1), .val (.int p2), .val (.int p3), .val (.int p4), .val (.int p5), .val (.int 1), .val (.int 2), .val (.ref b79), .val (.int d), .val (.int 0), .val (.ref b81), .val (.ref b84), .val (.ref b86), .val (.int (own_b (d = (0 : Int32)))), .unset, .unset, .unset, .unset] [(.int aq), (.int (own_b (¬ (p1 &&& (8 : Int32)) = (0 : Int32)))), (.int p3)])) := by
            intro aq haq
            subst haq
            refine Run.callSI (q := 502) X90 hx hZ rfl (y := (⟨"semblance/JpegScansCompletePinLaw", "done", "(IZZ)Z"⟩ : MethodName)) hown (wm58 hw) (wm59 hw) (wm24 hw) (wm60 hw) (by decide) (argsL := [(.int p3), (.int (own_b (¬ (p1 &&& (8 : Int32)) = (0 : Int32)))), (.int (own_b (¬ (p1 &&& (16 : Int32)) = (0 : Int32))))]) (rest := []) (c_done l Z a0 hw p3 (own_b (¬ (p1 &&& (8 : Int32)) = (0 : Int32))) (own_b (¬ (p1 &&& (16 : Int32)) = (0 : Int32))) T90.heap n0 Z90 ee0 bA0 bB0 E0 hee0 hbA0 hbB0 hE0 hE10 hE20) pd_9 rfl (by rw [hml]; rfl) (W := 0) rfl (by decide) (by decide) (by decide) (by decide) (hb hby at_499) rfl rfl fun T91 L91 X91 M91 e91 => ?_
            have N91 := Fr.app N90 M91
            refine Run.x_istore (q := 504) X91 hx #[.val (.int p1), .val (.int p2), .val (.int p3), .val (.int p4), .val (.int p5), .val (.int 1), .val (.int 2), .val (.ref b79), .val (.int d), .val (.int 0), .val (.ref b81), .val (.ref b84), .val (.ref b86), .val (.int (own_b (d = (0 : Int32)))), .val (.int (own_b (own_AA (own_b (¬ (p1 &&& (8 : Int32)) = (0 : Int32))) bA0 = 0 ∧ (ee0 = 63 ∨ own_BB (own_b (¬ (p1 &&& (16 : Int32)) = (0 : Int32))) ee0 bB0 = 0)))), .unset, .unset, .unset] (hb hby at_502) rfl rfl ?_
            refine Run.x_iload (q := 506) X91 hx (hb hby at_504) rfl rfl ?_
            refine Run.x_iconst (q := 507) X91 hx (hb hby at_506) (z := (1 : Int32)) rfl rfl ?_
            refine Run.x_icmpNo (q := 510) X91 hx (hb hby at_507) (feq (by decide : ¬ ((2 : Int32) = (1 : Int32)))).1 rfl ?_
            refine Run.x_iloadN (q := 511) X91 hx (hb hby at_510) rfl rfl ?_
            have J523 : ∀ (aq : Int32), (aq = (own_b (¬ (p1 &&& (32 : Int32)) = (0 : Int32)))) → Run p e below s (Tru n0) room_1.cells room_1.slots (T91.setTop (mkF m 523 #[.val (.int p1), .val (.int p2), .val (.int p3), .val (.int p4), .val (.int p5), .val (.int 1), .val (.int 2), .val (.ref b79), .val (.int d), .val (.int 0), .val (.ref b81), .val (.ref b84), .val (.ref b86), .val (.int (own_b (d = (0 : Int32)))), .val (.int (own_b (own_AA (own_b (¬ (p1 &&& (8 : Int32)) = (0 : Int32))) bA0 = 0 ∧ (ee0 = 63 ∨ own_BB (own_b (¬ (p1 &&& (16 : Int32)) = (0 : Int32))) ee0 bB0 = 0)))), .unset, .unset, .unset] [(.int aq), (.int p4)])) := by
             intro aq haq
             subst haq
             have J535 : ∀ (aq : Int32), (aq = (own_b (¬ (p1 &&& (64 : Int32)) = (0 : Int32)))) → Run p e below s (Tru n0) room_1.cells room_1.slots (T91.setTop (mkF m 535 #[.val (.int p1), .val (.int p2), .val (.int p3), .val (.int p4), .val (.int p5), .val (.int 1), .val (.int 2), .val (.ref b79), .val (.int d), .val (.int 0), .val (.ref b81), .val (.ref b84), .val (.ref b86), .val (.int (own_b (d = (0 : Int32)))), .val (.int (own_b (own_AA (own_b (¬ (p1 &&& (8 : Int32)) = (0 : Int32))) bA0 = 0 ∧ (ee0 = 63 ∨ own_BB (own_b (¬ (p1 &&& (16 : Int32)) = (0 : Int32))) ee0 bB0 = 0)))), .unset, .unset, .unset] [(.int aq), (.int (own_b (¬ (p1 &&& (32 : Int32)) = (0 : Int32)))), (.int p4)])) := by
              intro aq haq
              subst haq
              refine Run.callSI (q := 538) X91 hx hZ e91 (y := (⟨"semblance/JpegScansCompletePinLaw", "done", "(IZZ)Z"⟩ : MethodName)) hown (wm58 hw) (wm59 hw) (wm24 hw) (wm60 hw) (by decide) (argsL := [(.int p4), (.int (own_b (¬ (p1 &&& (32 : Int32)) = (0 : Int32)))), (.int (own_b (¬ (p1 &&& (64 : Int32)) = (0 : Int32))))]) (rest := []) (c_done l Z a0 hw p4 (own_b (¬ (p1 &&& (32 : Int32)) = (0 : Int32))) (own_b (¬ (p1 &&& (64 : Int32)) = (0 : Int32))) T90.heap n0 Z90 ee1 bA1 bB1 E1 hee1 hbA1 hbB1 hE1 hE11 hE21) pd_9 rfl (by rw [hml]; rfl) (W := 0) rfl (by decide) (by decide) (by decide) (by decide) (hb hby at_535) rfl rfl fun T92 L92 X92 M92 e92 => ?_
              have N92 := Fr.app N91 M92
              have J546 : ∀ (d9 : Int32), (d9 = (own_b (own_AA (own_b (¬ (p1 &&& (32 : Int32)) = (0 : Int32))) bA1 = 0 ∧ (ee1 = 63 ∨ own_BB (own_b (¬ (p1 &&& (64 : Int32)) = (0 : Int32))) ee1 bB1 = 0)))) → Run p e below s (Tru n0) room_1.cells room_1.slots (T92.setTop (mkF m 546 #[.val (.int p1), .val (.int p2), .val (.int p3), .val (.int p4), .val (.int p5), .val (.int 1), .val (.int 2), .val (.ref b79), .val (.int d), .val (.int 0), .val (.ref b81), .val (.ref b84), .val (.ref b86), .val (.int (own_b (d = (0 : Int32)))), .val (.int (own_b (own_AA (own_b (¬ (p1 &&& (8 : Int32)) = (0 : Int32))) bA0 = 0 ∧ (ee0 = 63 ∨ own_BB (own_b (¬ (p1 &&& (16 : Int32)) = (0 : Int32))) ee0 bB0 = 0)))), .unset, .unset, .unset] [(.int d9)])) := by
               intro d9 hd9
               subst hd9
               refine Run.x_istore (q := 548) X92 hx #[.val (.int p1), .val (.int p2), .val (.int p3), .val (.int p4), .val (.int p5), .val (.int 1), .val (.int 2), .val (.ref b79), .val (.int d), .val (.int 0), .val (.ref b81), .val (.ref b84), .val (.ref b86), .val (.int (own_b (d = (0 : Int32)))), .val (.int (own_b (own_AA (own_b (¬ (p1 &&& (8 : Int32)) = (0 : Int32))) bA0 = 0 ∧ (ee0 = 63 ∨ own_BB (own_b (¬ (p1 &&& (16 : Int32)) = (0 : Int32))) ee0 bB0 = 0)))), .val (.int (own_b (own_AA (own_b (¬ (p1 &&& (32 : Int32)) = (0 : Int32))) bA1 = 0 ∧ (ee1 = 63 ∨ own_BB (own_b (¬ (p1 &&& (64 : Int32)) = (0 : Int32))) ee1 bB1 = 0)))), .unset, .unset] (hb hby at_546) rfl rfl ?_
               refine Run.x_iload (q := 550) X92 hx (hb hby at_548) rfl rfl ?_
               by_cases hc550 : (own_b (d = (0 : Int32))) = (0 : Int32)
               ·skip
                refine Run.x_ifYes (q := 567) X92 hx (hb hby at_550) ((if0 _ _).trans (teq hc550).1) (by decide) (by decide) ?_
                refine Run.x_iconst (q := 568) X92 hx (hb hby at_567) (z := (0 : Int32)) rfl rfl ?_
                refine Run.x_istore (q := 570) X92 hx #[.val (.int p1), .val (.int p2), .val (.int p3), .val (.int p4), .val (.int p5), .val (.int 1), .val (.int 2), .val (.ref b79), .val (.int d), .val (.int 0), .val (.ref b81), .val (.ref b84), .val (.ref b86), .val (.int (own_b (d = (0 : Int32)))), .val (.int (own_b (own_AA (own_b (¬ (p1 &&& (8 : Int32)) = (0 : Int32))) bA0 = 0 ∧ (ee0 = 63 ∨ own_BB (own_b (¬ (p1 &&& (16 : Int32)) = (0 : Int32))) ee0 bB0 = 0)))), .val (.int (own_b (own_AA (own_b (¬ (p1 &&& (32 : Int32)) = (0 : Int32))) bA1 = 0 ∧ (ee1 = 63 ∨ own_BB (own_b (¬ (p1 &&& (64 : Int32)) = (0 : Int32))) ee1 bB1 = 0)))), .val (.int 0), .unset] (hb hby at_568) rfl rfl ?_
                refine Run.x_aload (q := 572) X92 hx (hb hby at_570) rfl rfl rfl ?_
                have zr0 := own_zr hE0 hE10 hE20 (ya0.trans k0) yb0 yc0
                have zr1 := own_zr hE1 hE11 hE21 (ya1.trans k0) yb1 yc1
                replace Ag80 := Ag80.keep K90 (ninS (Ne.symm ne_b79_gr) (ninS ne_gr_r1 nin0))
                replace Ar0_89 := Ar0_89.keep K90 (ninS (Ne.symm ne_b79_r0) (ninS ne_r0_r1 nin0))
                refine Run.callVI (q := 575) X92 hx hZ e92 (y := (⟨"semblance/JpegScans", "complete", "()Z"⟩ : MethodName)) (z := (⟨"semblance/JpegScans", "complete", "()Z"⟩ : MethodName)) hown (wm26 hw) (wm27 hw) (notFace_of_selects (args := #[]) (mvT hZ (wm29 hw))) (wm29 hw) (wm28 hw) (wm2 hw) (wm30 hw) (by decide) (a := b79) E90 (argsL := []) (rest := []) (c_cmp_2 l Z a0 hw b79 T90.heap n0 Z90 gr r0 r1 (0 : Int32) (0 : Int32) g0 g1 E90 F290 F490 Ag80 Ar0_89 Ar0_90 (fun h => (own_beq hc550 (zr0.mp h.2.1).1).elim) (fun _ => rfl)) pd_7 rfl (by rw [hml]; rfl) (W := 0) rfl (by decide) (by decide) (by decide) (by decide) (hb hby at_572) rfl rfl fun T93 L93 X93 M93 e93 => ?_
                have N93 := Fr.app N92 M93
                refine Run.x_iload (q := 577) X93 hx (hb hby at_575) rfl rfl ?_
                refine Run.x_icmpNo (q := 580) X93 hx (hb hby at_577) (teq (by decide : (0 : Int32) = (0 : Int32))).2 rfl ?_
                refine Run.x_iconst (q := 581) X93 hx (hb hby at_580) (z := (1 : Int32)) rfl rfl ?_
                refine Run.x_goto (q := 585) X93 hx (hb hby at_581) (by decide) (by decide) ?_
                refine Run.retN X93 hx hlk e93 (t := .boolean) hret (by simp) (z' := (1 : Int32)) (by decide) (hb hby at_585) (by decide) (by decide) ?_
                exact ⟨rfl, N93⟩
               ·skip
                refine Run.x_ifNo (q := 553) X92 hx (hb hby at_550) ((if0 _ _).trans (feq hc550).1) rfl ?_
                refine Run.x_iload (q := 555) X92 hx (hb hby at_553) rfl rfl ?_
                by_cases hc555 : (own_b (own_AA (own_b (¬ (p1 &&& (8 : Int32)) = (0 : Int32))) bA0 = 0 ∧ (ee0 = 63 ∨ own_BB (own_b (¬ (p1 &&& (16 : Int32)) = (0 : Int32))) ee0 bB0 = 0))) = (0 : Int32)
                ·skip
                 refine Run.x_ifYes (q := 567) X92 hx (hb hby at_555) ((if0 _ _).trans (teq hc555).1) (by decide) (by decide) ?_
                 refine Run.x_iconst (q := 568) X92 hx (hb hby at_567) (z := (0 : Int32)) rfl rfl ?_
                 refine Run.x_istore (q := 570) X92 hx #[.val (.int p1), .val (.int p2), .val (.int p3), .val (.int p4), .val (.int p5), .val (.int 1), .val (.int 2), .val (.ref b79), .val (.int d), .val (.int 0), .val (.ref b81), .val (.ref b84), .val (.ref b86), .val (.int (own_b (d = (0 : Int32)))), .val (.int (own_b (own_AA (own_b (¬ (p1 &&& (8 : Int32)) = (0 : Int32))) bA0 = 0 ∧ (ee0 = 63 ∨ own_BB (own_b (¬ (p1 &&& (16 : Int32)) = (0 : Int32))) ee0 bB0 = 0)))), .val (.int (own_b (own_AA (own_b (¬ (p1 &&& (32 : Int32)) = (0 : Int32))) bA1 = 0 ∧ (ee1 = 63 ∨ own_BB (own_b (¬ (p1 &&& (64 : Int32)) = (0 : Int32))) ee1 bB1 = 0)))), .val (.int 0), .unset] (hb hby at_568) rfl rfl ?_
                 refine Run.x_aload (q := 572) X92 hx (hb hby at_570) rfl rfl rfl ?_
                 have zr0 := own_zr hE0 hE10 hE20 (ya0.trans k0) yb0 yc0
                 have zr1 := own_zr hE1 hE11 hE21 (ya1.trans k0) yb1 yc1
                 replace Ag80 := Ag80.keep K90 (ninS (Ne.symm ne_b79_gr) (ninS ne_gr_r1 nin0))
                 replace Ar0_89 := Ar0_89.keep K90 (ninS (Ne.symm ne_b79_r0) (ninS ne_r0_r1 nin0))
                 refine Run.callVI (q := 575) X92 hx hZ e92 (y := (⟨"semblance/JpegScans", "complete", "()Z"⟩ : MethodName)) (z := (⟨"semblance/JpegScans", "complete", "()Z"⟩ : MethodName)) hown (wm26 hw) (wm27 hw) (notFace_of_selects (args := #[]) (mvT hZ (wm29 hw))) (wm29 hw) (wm28 hw) (wm2 hw) (wm30 hw) (by decide) (a := b79) E90 (argsL := []) (rest := []) (c_cmp_2 l Z a0 hw b79 T90.heap n0 Z90 gr r0 r1 (0 : Int32) (0 : Int32) g0 g1 E90 F290 F490 Ag80 Ar0_89 Ar0_90 (fun h => (own_beq hc555 (zr0.mp h.2.1).2).elim) (fun _ => rfl)) pd_7 rfl (by rw [hml]; rfl) (W := 0) rfl (by decide) (by decide) (by decide) (by decide) (hb hby at_572) rfl rfl fun T94 L94 X94 M94 e94 => ?_
                 have N94 := Fr.app N92 M94
                 refine Run.x_iload (q := 577) X94 hx (hb hby at_575) rfl rfl ?_
                 refine Run.x_icmpNo (q := 580) X94 hx (hb hby at_577) (teq (by decide : (0 : Int32) = (0 : Int32))).2 rfl ?_
                 refine Run.x_iconst (q := 581) X94 hx (hb hby at_580) (z := (1 : Int32)) rfl rfl ?_
                 refine Run.x_goto (q := 585) X94 hx (hb hby at_581) (by decide) (by decide) ?_
                 refine Run.retN X94 hx hlk e94 (t := .boolean) hret (by simp) (z' := (1 : Int32)) (by decide) (hb hby at_585) (by decide) (by decide) ?_
                 exact ⟨rfl, N94⟩
                ·skip
                 refine Run.x_ifNo (q := 558) X92 hx (hb hby at_555) ((if0 _ _).trans (feq hc555).1) rfl ?_
                 refine Run.x_iload (q := 560) X92 hx (hb hby at_558) rfl rfl ?_
                 by_cases hc560 : (own_b (own_AA (own_b (¬ (p1 &&& (32 : Int32)) = (0 : Int32))) bA1 = 0 ∧ (ee1 = 63 ∨ own_BB (own_b (¬ (p1 &&& (64 : Int32)) = (0 : Int32))) ee1 bB1 = 0))) = (0 : Int32)
                 ·skip
                  refine Run.x_ifYes (q := 567) X92 hx (hb hby at_560) ((if0 _ _).trans (teq hc560).1) (by decide) (by decide) ?_
                  refine Run.x_iconst (q := 568) X92 hx (hb hby at_567) (z := (0 : Int32)) rfl rfl ?_
                  refine Run.x_istore (q := 570) X92 hx #[.val (.int p1), .val (.int p2), .val (.int p3), .val (.int p4), .val (.int p5), .val (.int 1), .val (.int 2), .val (.ref b79), .val (.int d), .val (.int 0), .val (.ref b81), .val (.ref b84), .val (.ref b86), .val (.int (own_b (d = (0 : Int32)))), .val (.int (own_b (own_AA (own_b (¬ (p1 &&& (8 : Int32)) = (0 : Int32))) bA0 = 0 ∧ (ee0 = 63 ∨ own_BB (own_b (¬ (p1 &&& (16 : Int32)) = (0 : Int32))) ee0 bB0 = 0)))), .val (.int (own_b (own_AA (own_b (¬ (p1 &&& (32 : Int32)) = (0 : Int32))) bA1 = 0 ∧ (ee1 = 63 ∨ own_BB (own_b (¬ (p1 &&& (64 : Int32)) = (0 : Int32))) ee1 bB1 = 0)))), .val (.int 0), .unset] (hb hby at_568) rfl rfl ?_
                  refine Run.x_aload (q := 572) X92 hx (hb hby at_570) rfl rfl rfl ?_
                  have zr0 := own_zr hE0 hE10 hE20 (ya0.trans k0) yb0 yc0
                  have zr1 := own_zr hE1 hE11 hE21 (ya1.trans k0) yb1 yc1
                  replace Ag80 := Ag80.keep K90 (ninS (Ne.symm ne_b79_gr) (ninS ne_gr_r1 nin0))
                  replace Ar0_89 := Ar0_89.keep K90 (ninS (Ne.symm ne_b79_r0) (ninS ne_r0_r1 nin0))
                  refine Run.callVI (q := 575) X92 hx hZ e92 (y := (⟨"semblance/JpegScans", "complete", "()Z"⟩ : MethodName)) (z := (⟨"semblance/JpegScans", "complete", "()Z"⟩ : MethodName)) hown (wm26 hw) (wm27 hw) (notFace_of_selects (args := #[]) (mvT hZ (wm29 hw))) (wm29 hw) (wm28 hw) (wm2 hw) (wm30 hw) (by decide) (a := b79) E90 (argsL := []) (rest := []) (c_cmp_2 l Z a0 hw b79 T90.heap n0 Z90 gr r0 r1 (0 : Int32) (0 : Int32) g0 g1 E90 F290 F490 Ag80 Ar0_89 Ar0_90 (fun h => (own_beq hc560 (zr1.mp h.2.2).2).elim) (fun _ => rfl)) pd_7 rfl (by rw [hml]; rfl) (W := 0) rfl (by decide) (by decide) (by decide) (by decide) (hb hby at_572) rfl rfl fun T95 L95 X95 M95 e95 => ?_
                  have N95 := Fr.app N92 M95
                  refine Run.x_iload (q := 577) X95 hx (hb hby at_575) rfl rfl ?_
                  refine Run.x_icmpNo (q := 580) X95 hx (hb hby at_577) (teq (by decide : (0 : Int32) = (0 : Int32))).2 rfl ?_
                  refine Run.x_iconst (q := 581) X95 hx (hb hby at_580) (z := (1 : Int32)) rfl rfl ?_
                  refine Run.x_goto (q := 585) X95 hx (hb hby at_581) (by decide) (by decide) ?_
                  refine Run.retN X95 hx hlk e95 (t := .boolean) hret (by simp) (z' := (1 : Int32)) (by decide) (hb hby at_585) (by decide) (by decide) ?_
                  exact ⟨rfl, N95⟩
                 ·skip
                  refine Run.x_ifNo (q := 563) X92 hx (hb hby at_560) ((if0 _ _).trans (feq hc560).1) rfl ?_
                  refine Run.x_iconst (q := 564) X92 hx (hb hby at_563) (z := (1 : Int32)) rfl rfl ?_
                  refine Run.x_goto (q := 568) X92 hx (hb hby at_564) (by decide) (by decide) ?_
                  refine Run.x_istore (q := 570) X92 hx #[.val (.int p1), .val (.int p2), .val (.int p3), .val (.int p4), .val (.int p5), .val (.int 1), .val (.int 2), .val (.ref b79), .val (.int d), .val (.int 0), .val (.ref b81), .val (.ref b84), .val (.ref b86), .val (.int (own_b (d = (0 : Int32)))), .val (.int (own_b (own_AA (own_b (¬ (p1 &&& (8 : Int32)) = (0 : Int32))) bA0 = 0 ∧ (ee0 = 63 ∨ own_BB (own_b (¬ (p1 &&& (16 : Int32)) = (0 : Int32))) ee0 bB0 = 0)))), .val (.int (own_b (own_AA (own_b (¬ (p1 &&& (32 : Int32)) = (0 : Int32))) bA1 = 0 ∧ (ee1 = 63 ∨ own_BB (own_b (¬ (p1 &&& (64 : Int32)) = (0 : Int32))) ee1 bB1 = 0)))), .val (.int 1), .unset] (hb hby at_568) rfl rfl ?_
                  refine Run.x_aload (q := 572) X92 hx (hb hby at_570) rfl rfl rfl ?_
                  have zr0 := own_zr hE0 hE10 hE20 (ya0.trans k0) yb0 yc0
                  have zr1 := own_zr hE1 hE11 hE21 (ya1.trans k0) yb1 yc1
                  replace Ag80 := Ag80.keep K90 (ninS (Ne.symm ne_b79_gr) (ninS ne_gr_r1 nin0))
                  replace Ar0_89 := Ar0_89.keep K90 (ninS (Ne.symm ne_b79_r0) (ninS ne_r0_r1 nin0))
                  refine Run.callVI (q := 575) X92 hx hZ e92 (y := (⟨"semblance/JpegScans", "complete", "()Z"⟩ : MethodName)) (z := (⟨"semblance/JpegScans", "complete", "()Z"⟩ : MethodName)) hown (wm26 hw) (wm27 hw) (notFace_of_selects (args := #[]) (mvT hZ (wm29 hw))) (wm29 hw) (wm28 hw) (wm2 hw) (wm30 hw) (by decide) (a := b79) E90 (argsL := []) (rest := []) (c_cmp_2 l Z a0 hw b79 T90.heap n0 Z90 gr r0 r1 (0 : Int32) (1 : Int32) g0 g1 E90 F290 F490 Ag80 Ar0_89 Ar0_90 (fun _ => rfl) (fun h => absurd ⟨rfl, zr0.mpr ⟨own_bne hc550, own_bne hc555⟩, zr1.mpr ⟨own_bne hc550, own_bne hc560⟩⟩ h)) pd_7 rfl (by rw [hml]; rfl) (W := 0) rfl (by decide) (by decide) (by decide) (by decide) (hb hby at_572) rfl rfl fun T96 L96 X96 M96 e96 => ?_
                  have N96 := Fr.app N92 M96
                  refine Run.x_iload (q := 577) X96 hx (hb hby at_575) rfl rfl ?_
                  refine Run.x_icmpNo (q := 580) X96 hx (hb hby at_577) (teq (by decide : (1 : Int32) = (1 : Int32))).2 rfl ?_
                  refine Run.x_iconst (q := 581) X96 hx (hb hby at_580) (z := (1 : Int32)) rfl rfl ?_
                  refine Run.x_goto (q := 585) X96 hx (hb hby at_581) (by decide) (by decide) ?_
                  refine Run.retN X96 hx hlk e96 (t := .boolean) hret (by simp) (z' := (1 : Int32)) (by decide) (hb hby at_585) (by decide) (by decide) ?_
                  exact ⟨rfl, N96⟩
              by_cases hc538 : (own_b (own_AA (own_b (¬ (p1 &&& (32 : Int32)) = (0 : Int32))) bA1 = 0 ∧ (ee1 = 63 ∨ own_BB (own_b (¬ (p1 &&& (64 : Int32)) = (0 : Int32))) ee1 bB1 = 0))) = (0 : Int32)
              ·skip
               refine Run.x_ifYes (q := 545) X92 hx (hb hby at_538) ((if0 _ _).trans (teq hc538).1) (by decide) (by decide) ?_
               refine Run.x_iconst (q := 546) X92 hx (hb hby at_545) (z := (0 : Int32)) rfl rfl ?_
               exact J546 _ hc538.symm
              ·skip
               refine Run.x_ifNo (q := 541) X92 hx (hb hby at_538) ((if0 _ _).trans (feq hc538).1) rfl ?_
               refine Run.x_iconst (q := 542) X92 hx (hb hby at_541) (z := (1 : Int32)) rfl rfl ?_
               refine Run.x_goto (q := 546) X92 hx (hb hby at_542) (by decide) (by decide) ?_
               exact J546 _ (own_bn1 hc538).symm
             refine Run.x_iloadN (q := 524) X91 hx (hb hby at_523) rfl rfl ?_
             refine Run.x_bipush (q := 526) X91 hx (hb hby at_524) (z := (64 : Int32)) rfl rfl ?_
             refine Run.x_iand (q := 527) X91 hx (hb hby at_526) rfl rfl ?_
             by_cases hc527 : (p1 &&& (64 : Int32)) = (0 : Int32)
             ·skip
              refine Run.x_ifYes (q := 534) X91 hx (hb hby at_527) ((if0 _ _).trans (teq hc527).1) (by decide) (by decide) ?_
              refine Run.x_iconst (q := 535) X91 hx (hb hby at_534) (z := (0 : Int32)) rfl rfl ?_
              exact J535 _ (own_b0 (fun h => h hc527)).symm
             ·skip
              refine Run.x_ifNo (q := 530) X91 hx (hb hby at_527) ((if0 _ _).trans (feq hc527).1) rfl ?_
              refine Run.x_iconst (q := 531) X91 hx (hb hby at_530) (z := (1 : Int32)) rfl rfl ?_
              refine Run.x_goto (q := 535) X91 hx (hb hby at_531) (by decide) (by decide) ?_
              exact J535 _ (own_b1 hc527).symm
            refine Run.x_iloadN (q := 512) X91 hx (hb hby at_511) rfl rfl ?_
            refine Run.x_bipush (q := 514) X91 hx (hb hby at_512) (z := (32 : Int32)) rfl rfl ?_
            refine Run.x_iand (q := 515) X91 hx (hb hby at_514) rfl rfl ?_
            by_cases hc515 : (p1 &&& (32 : Int32)) = (0 : Int32)
            ·skip
             refine Run.x_ifYes (q := 522) X91 hx (hb hby at_515) ((if0 _ _).trans (teq hc515).1) (by decide) (by decide) ?_
             refine Run.x_iconst (q := 523) X91 hx (hb hby at_522) (z := (0 : Int32)) rfl rfl ?_
             exact J523 _ (own_b0 (fun h => h hc515)).symm
            ·skip
             refine Run.x_ifNo (q := 518) X91 hx (hb hby at_515) ((if0 _ _).trans (feq hc515).1) rfl ?_
             refine Run.x_iconst (q := 519) X91 hx (hb hby at_518) (z := (1 : Int32)) rfl rfl ?_
             refine Run.x_goto (q := 523) X91 hx (hb hby at_519) (by decide) (by decide) ?_
             exact J523 _ (own_b1 hc515).symm
           refine Run.x_iloadN (q := 488) X90 hx (hb hby at_487) rfl rfl ?_
           refine Run.x_bipush (q := 490) X90 hx (hb hby at_488) (z := (16 : Int32)) rfl rfl ?_
           refine Run.x_iand (q := 491) X90 hx (hb hby at_490) rfl rfl ?_
           by_cases hc491 : (p1 &&& (16 : Int32)) = (0 : Int32)
           ·skip
            refine Run.x_ifYes (q := 498) X90 hx (hb hby at_491) ((if0 _ _).trans (teq hc491).1) (by decide) (by decide) ?_
            refine Run.x_iconst (q := 499) X90 hx (hb hby at_498) (z := (0 : Int32)) rfl rfl ?_
            exact J499 _ (own_b0 (fun h => h hc491)).symm
           ·skip
            refine Run.x_ifNo (q := 494) X90 hx (hb hby at_491) ((if0 _ _).trans (feq hc491).1) rfl ?_
            refine Run.x_iconst (q := 495) X90 hx (hb hby at_494) (z := (1 : Int32)) rfl rfl ?_
            refine Run.x_goto (q := 499) X90 hx (hb hby at_495) (by decide) (by decide) ?_
            exact J499 _ (own_b1 hc491).symm
          refine Run.x_iloadN (q := 476) X90 hx (hb hby at_475) rfl rfl ?_
          refine Run.x_bipush (q := 478) X90 hx (hb hby at_476) (z := (8 : Int32)) rfl rfl ?_
          refine Run.x_iand (q := 479) X90 hx (hb hby at_478) rfl rfl ?_
          by_cases hc479 : (p1 &&& (8 : Int32)) = (0 : Int32)
          ·skip
           refine Run.x_ifYes (q := 486) X90 hx (hb hby at_479) ((if0 _ _).trans (teq hc479).1) (by decide) (by decide) ?_
           refine Run.x_iconst (q := 487) X90 hx (hb hby at_486) (z := (0 : Int32)) rfl rfl ?_
           exact J487 _ (own_b0 (fun h => h hc479)).symm
          ·skip
           refine Run.x_ifNo (q := 482) X90 hx (hb hby at_479) ((if0 _ _).trans (feq hc479).1) rfl ?_
           refine Run.x_iconst (q := 483) X90 hx (hb hby at_482) (z := (1 : Int32)) rfl rfl ?_
           refine Run.x_goto (q := 487) X90 hx (hb hby at_483) (by decide) (by decide) ?_
           exact J487 _ (own_b1 hc479).symm
         refine Run.x_iload (q := 453) X90 hx (hb hby at_451) rfl rfl ?_
         by_cases hc453 : d = (0 : Int32)
         ·skip
          refine Run.x_ifYes (q := 467) X90 hx (hb hby at_453) ((if0 _ _).trans (teq hc453).1) (by decide) (by decide) ?_
          refine Run.x_iconst (q := 468) X90 hx (hb hby at_467) (z := (1 : Int32)) rfl rfl ?_
          refine Run.x_goto (q := 472) X90 hx (hb hby at_468) (by decide) (by decide) ?_
          exact J472 _ (own_b1 hc453).symm
         ·skip
          refine Run.x_ifNo (q := 456) X90 hx (hb hby at_453) ((if0 _ _).trans (feq hc453).1) rfl ?_
          refine Run.x_iload (q := 458) X90 hx (hb hby at_456) rfl rfl ?_
          refine Run.x_iconst (q := 459) X90 hx (hb hby at_458) (z := (1 : Int32)) rfl rfl ?_
          by_cases hc459 : d = (1 : Int32)
          ·skip
           refine Run.x_icmpNo (q := 462) X90 hx (hb hby at_459) (teq hc459).2 rfl ?_
           refine Run.x_iload (q := 464) X90 hx (hb hby at_462) rfl rfl ?_
           refine Run.x_ifYes (q := 471) X90 hx (hb hby at_464) ((if0 _ _).trans (teq (by decide : (0 : Int32) = (0 : Int32))).1) (by decide) (by decide) ?_
           refine Run.x_iconst (q := 472) X90 hx (hb hby at_471) (z := (0 : Int32)) rfl rfl ?_
           exact J472 _ (own_b0 hc453).symm
          ·skip
           refine Run.x_icmpYes (q := 471) X90 hx (hb hby at_459) (feq hc459).2 (by decide) (by decide) ?_
           refine Run.x_iconst (q := 472) X90 hx (hb hby at_471) (z := (0 : Int32)) rfl rfl ?_
           exact J472 _ (own_b0 hc453).symm
        refine Run.x_iloadN (q := 437) X89 hx (hb hby at_436) rfl rfl ?_
        refine Run.x_bipush (q := 439) X89 hx (hb hby at_437) (z := (64 : Int32)) rfl rfl ?_
        refine Run.x_iand (q := 440) X89 hx (hb hby at_439) rfl rfl ?_
        by_cases hc440 : (p1 &&& (64 : Int32)) = (0 : Int32)
        ·skip
         refine Run.x_ifYes (q := 447) X89 hx (hb hby at_440) ((if0 _ _).trans (teq hc440).1) (by decide) (by decide) ?_
         refine Run.x_iconst (q := 448) X89 hx (hb hby at_447) (z := (0 : Int32)) rfl rfl ?_
         exact J448 _ (own_b0 (fun h => h hc440)).symm
        ·skip
         refine Run.x_ifNo (q := 443) X89 hx (hb hby at_440) ((if0 _ _).trans (feq hc440).1) rfl ?_
         refine Run.x_iconst (q := 444) X89 hx (hb hby at_443) (z := (1 : Int32)) rfl rfl ?_
         refine Run.x_goto (q := 448) X89 hx (hb hby at_444) (by decide) (by decide) ?_
         exact J448 _ (own_b1 hc440).symm
       refine Run.x_iloadN (q := 425) X89 hx (hb hby at_424) rfl rfl ?_
       refine Run.x_bipush (q := 427) X89 hx (hb hby at_425) (z := (32 : Int32)) rfl rfl ?_
       refine Run.x_iand (q := 428) X89 hx (hb hby at_427) rfl rfl ?_
       by_cases hc428 : (p1 &&& (32 : Int32)) = (0 : Int32)
       ·skip
        refine Run.x_ifYes (q := 435) X89 hx (hb hby at_428) ((if0 _ _).trans (teq hc428).1) (by decide) (by decide) ?_
        refine Run.x_iconst (q := 436) X89 hx (hb hby at_435) (z := (0 : Int32)) rfl rfl ?_
        exact J436 _ (own_b0 (fun h => h hc428)).symm
       ·skip
        refine Run.x_ifNo (q := 431) X89 hx (hb hby at_428) ((if0 _ _).trans (feq hc428).1) rfl ?_
        refine Run.x_iconst (q := 432) X89 hx (hb hby at_431) (z := (1 : Int32)) rfl rfl ?_
        refine Run.x_goto (q := 436) X89 hx (hb hby at_432) (by decide) (by decide) ?_
        exact J436 _ (own_b1 hc428).symm
      refine Run.x_iloadN (q := 399) X88 hx (hb hby at_398) rfl rfl ?_
      refine Run.x_bipush (q := 401) X88 hx (hb hby at_399) (z := (16 : Int32)) rfl rfl ?_
      refine Run.x_iand (q := 402) X88 hx (hb hby at_401) rfl rfl ?_
      by_cases hc402 : (p1 &&& (16 : Int32)) = (0 : Int32)
      ·skip
       refine Run.x_ifYes (q := 409) X88 hx (hb hby at_402) ((if0 _ _).trans (teq hc402).1) (by decide) (by decide) ?_
       refine Run.x_iconst (q := 410) X88 hx (hb hby at_409) (z := (0 : Int32)) rfl rfl ?_
       exact J410 _ (own_b0 (fun h => h hc402)).symm
      ·skip
       refine Run.x_ifNo (q := 405) X88 hx (hb hby at_402) ((if0 _ _).trans (feq hc402).1) rfl ?_
       refine Run.x_iconst (q := 406) X88 hx (hb hby at_405) (z := (1 : Int32)) rfl rfl ?_
       refine Run.x_goto (q := 410) X88 hx (hb hby at_406) (by decide) (by decide) ?_
       exact J410 _ (own_b1 hc402).symm
     refine Run.x_iloadN (q := 387) X88 hx (hb hby at_386) rfl rfl ?_
     refine Run.x_bipush (q := 389) X88 hx (hb hby at_387) (z := (8 : Int32)) rfl rfl ?_
     refine Run.x_iand (q := 390) X88 hx (hb hby at_389) rfl rfl ?_
     by_cases hc390 : (p1 &&& (8 : Int32)) = (0 : Int32)
     ·skip
      refine Run.x_ifYes (q := 397) X88 hx (hb hby at_390) ((if0 _ _).trans (teq hc390).1) (by decide) (by decide) ?_
      refine Run.x_iconst (q := 398) X88 hx (hb hby at_397) (z := (0 : Int32)) rfl rfl ?_
      exact J398 _ (own_b0 (fun h => h hc390)).symm
     ·skip
      refine Run.x_ifNo (q := 393) X88 hx (hb hby at_390) ((if0 _ _).trans (feq hc390).1) rfl ?_
      refine Run.x_iconst (q := 394) X88 hx (hb hby at_393) (z := (1 : Int32)) rfl rfl ?_
      refine Run.x_goto (q := 398) X88 hx (hb hby at_394) (by decide) (by decide) ?_
      exact J398 _ (own_b1 hc390).symm
    ·skip
     refine Run.x_istore (q := 300) X80 hx #[.val (.int p1), .val (.int p2), .val (.int p3), .val (.int p4), .val (.int p5), .val (.int 1), .val (.int 2), .val (.ref b79), .val (.int d), .val (.int 1), .unset, .unset, .unset, .unset, .unset, .unset, .unset, .unset] (hb hby at_298) rfl rfl ?_
     refine Run.x_iload (q := 302) X80 hx (hb hby at_300) rfl rfl ?_
     refine Run.x_iconst (q := 303) X80 hx (hb hby at_302) (z := (1 : Int32)) rfl rfl ?_
     refine Run.x_icmpYes (q := 316) X80 hx (hb hby at_303) (feq (by decide : ¬ ((2 : Int32) = (1 : Int32)))).2 (by decide) (by decide) ?_
     refine Run.x_iconst (q := 317) X80 hx (hb hby at_316) (z := (2 : Int32)) rfl rfl ?_
     refine Run.newP (aty := .int) X80 hx hZ rfl (wm15 hw) (hb hby at_317) (len := 2) (by decide) (by decide) (cap := 2) (by decide) (by decide) (by decide) (by decide) ?_
     intro T97 h97 b97 gg97 X97 e97 E97 A_b97
     have g_b97 : n0 ≤ b97 := Nat.le_trans Z80 (Nat.le_of_eq gg97.symm)
     have ne_b79_b97 : b79 ≠ b97 := Nat.ne_of_lt (Nat.lt_of_lt_of_le E80.lt (Nat.le_of_eq gg97.symm))
     have ne_gr_b97 : gr ≠ b97 := Nat.ne_of_lt (Nat.lt_of_lt_of_le Ag80.lt (Nat.le_of_eq gg97.symm))
     have ne_r0_b97 : r0 ≠ b97 := Nat.ne_of_lt (Nat.lt_of_lt_of_le Ar0_80.lt (Nat.le_of_eq gg97.symm))
     have ne_r1_b97 : r1 ≠ b97 := Nat.ne_of_lt (Nat.lt_of_lt_of_le Ar1_80.lt (Nat.le_of_eq gg97.symm))
     have Z97 : n0 ≤ h97.size := Nat.le_trans Z80 E97.1
     replace A_b97 : Ars Z h97 b97 .int [(.int 0), (.int 0)] := A_b97
     show Run p e below s _ _ _ (T97.setTop (mkF m 319 #[.val (.int p1), .val (.int p2), .val (.int p3), .val (.int p4), .val (.int p5), .val (.int 1), .val (.int 2), .val (.ref b79), .val (.int d), .val (.int 1), .unset, .unset, .unset, .unset, .unset, .unset, .unset, .unset] [(.ref b97)]))
     refine Run.x_dup (q := 320) X97 hx (hb hby at_319) rfl rfl ?_
     refine Run.x_iconst (q := 321) X97 hx (hb hby at_320) (z := (0 : Int32)) rfl rfl ?_
     refine Run.x_iconst (q := 322) X97 hx (hb hby at_321) (z := (0 : Int32)) rfl rfl ?_
     refine Run.y_stI (q := 323) X97 hx hZ e97 A_b97 (i := 0) (by decide) (Nat.le_of_ble_eq_true rfl) (hb hby at_322) rfl fun T98 h98 X98 e98 W98 A98 => ?_
     replace A_b97 : Ars Z h98 b97 .int [(.int 0), (.int 0)] := A98
     have N98 := Fr.snoc X98 N80 g_b97
     have Z98 : n0 ≤ h98.size := Nat.le_trans Z97 (Nat.le_of_eq W98.size.symm)
     refine Run.x_dup (q := 324) X98 hx (hb hby at_323) rfl rfl ?_
     refine Run.x_iconst (q := 325) X98 hx (hb hby at_324) (z := (1 : Int32)) rfl rfl ?_
     refine Run.x_iconst (q := 326) X98 hx (hb hby at_325) (z := (1 : Int32)) rfl rfl ?_
     refine Run.y_stI (q := 327) X98 hx hZ e98 A_b97 (i := 1) (by decide) (Nat.le_of_ble_eq_true rfl) (hb hby at_326) rfl fun T99 h99 X99 e99 W99 A99 => ?_
     replace A_b97 : Ars Z h99 b97 .int [(.int 0), (.int 1)] := A99
     have N99 := Fr.snoc X99 N98 g_b97
     have Z99 : n0 ≤ h99.size := Nat.le_trans Z98 (Nat.le_of_eq W99.size.symm)
     refine Run.x_astore (q := 329) X99 hx #[.val (.int p1), .val (.int p2), .val (.int p3), .val (.int p4), .val (.int p5), .val (.int 1), .val (.int 2), .val (.ref b79), .val (.int d), .val (.int 1), .val (.ref b97), .unset, .unset, .unset, .unset, .unset, .unset, .unset] (hb hby at_327) rfl rfl rfl ?_
     refine Run.x_iconst (q := 330) X99 hx (hb hby at_329) (z := (1 : Int32)) rfl rfl ?_
     refine Run.newP (aty := .int) X99 hx hZ e99 (wm15 hw) (hb hby at_330) (len := 1) (by decide) (by decide) (cap := 1) (by decide) (by decide) (by decide) (by decide) ?_
     intro T100 h100 b100 gg100 X100 e100 E100 A_b100
     have g_b100 : n0 ≤ b100 := Nat.le_trans Z99 (Nat.le_of_eq gg100.symm)
     replace E80 := ((E80.ext E97).wr W98).wr W99
     have ne_b79_b100 : b79 ≠ b100 := Nat.ne_of_lt (Nat.lt_of_lt_of_le E80.lt (Nat.le_of_eq gg100.symm))
     replace Ag80 := ((Ag80.ext E97).other W98 ne_gr_b97).other W99 ne_gr_b97
     have ne_gr_b100 : gr ≠ b100 := Nat.ne_of_lt (Nat.lt_of_lt_of_le Ag80.lt (Nat.le_of_eq gg100.symm))
     replace Ar0_80 := ((Ar0_80.ext E97).other W98 ne_r0_b97).other W99 ne_r0_b97
     have ne_r0_b100 : r0 ≠ b100 := Nat.ne_of_lt (Nat.lt_of_lt_of_le Ar0_80.lt (Nat.le_of_eq gg100.symm))
     replace Ar1_80 := ((Ar1_80.ext E97).other W98 ne_r1_b97).other W99 ne_r1_b97
     have ne_r1_b100 : r1 ≠ b100 := Nat.ne_of_lt (Nat.lt_of_lt_of_le Ar1_80.lt (Nat.le_of_eq gg100.symm))
     have ne_b97_b100 : b97 ≠ b100 := Nat.ne_of_lt (Nat.lt_of_lt_of_le A_b97.lt (Nat.le_of_eq gg100.symm))
     have Z100 : n0 ≤ h100.size := Nat.le_trans Z99 E100.1
     replace A_b100 : Ars Z h100 b100 .int [(.int 0)] := A_b100
     show Run p e below s _ _ _ (T100.setTop (mkF m 332 #[.val (.int p1), .val (.int p2), .val (.int p3), .val (.int p4), .val (.int p5), .val (.int 1), .val (.int 2), .val (.ref b79), .val (.int d), .val (.int 1), .val (.ref b97), .unset, .unset, .unset, .unset, .unset, .unset, .unset] [(.ref b100)]))
     refine Run.x_dup (q := 333) X100 hx (hb hby at_332) rfl rfl ?_
     refine Run.x_iconst (q := 334) X100 hx (hb hby at_333) (z := (0 : Int32)) rfl rfl ?_
     refine Run.x_iconst (q := 335) X100 hx (hb hby at_334) (z := (0 : Int32)) rfl rfl ?_
     refine Run.y_stI (q := 336) X100 hx hZ e100 A_b100 (i := 0) (by decide) (Nat.le_of_ble_eq_true rfl) (hb hby at_335) rfl fun T101 h101 X101 e101 W101 A101 => ?_
     replace A_b100 : Ars Z h101 b100 .int [(.int 0)] := A101
     have N101 := Fr.snoc X101 N99 g_b100
     have Z101 : n0 ≤ h101.size := Nat.le_trans Z100 (Nat.le_of_eq W101.size.symm)
     refine Run.x_astore (q := 338) X101 hx #[.val (.int p1), .val (.int p2), .val (.int p3), .val (.int p4), .val (.int p5), .val (.int 1), .val (.int 2), .val (.ref b79), .val (.int d), .val (.int 1), .val (.ref b97), .val (.ref b100), .unset, .unset, .unset, .unset, .unset, .unset] (hb hby at_336) rfl rfl rfl ?_
     refine Run.x_iconst (q := 339) X101 hx (hb hby at_338) (z := (1 : Int32)) rfl rfl ?_
     refine Run.newP (aty := .int) X101 hx hZ e101 (wm15 hw) (hb hby at_339) (len := 1) (by decide) (by decide) (cap := 1) (by decide) (by decide) (by decide) (by decide) ?_
     intro T102 h102 b102 gg102 X102 e102 E102 A_b102
     have g_b102 : n0 ≤ b102 := Nat.le_trans Z101 (Nat.le_of_eq gg102.symm)
     replace E80 := (E80.ext E100).wr W101
     have ne_b79_b102 : b79 ≠ b102 := Nat.ne_of_lt (Nat.lt_of_lt_of_le E80.lt (Nat.le_of_eq gg102.symm))
     replace Ag80 := (Ag80.ext E100).other W101 ne_gr_b100
     have ne_gr_b102 : gr ≠ b102 := Nat.ne_of_lt (Nat.lt_of_lt_of_le Ag80.lt (Nat.le_of_eq gg102.symm))
     replace Ar0_80 := (Ar0_80.ext E100).other W101 ne_r0_b100
     have ne_r0_b102 : r0 ≠ b102 := Nat.ne_of_lt (Nat.lt_of_lt_of_le Ar0_80.lt (Nat.le_of_eq gg102.symm))
     replace Ar1_80 := (Ar1_80.ext E100).other W101 ne_r1_b100
     have ne_r1_b102 : r1 ≠ b102 := Nat.ne_of_lt (Nat.lt_of_lt_of_le Ar1_80.lt (Nat.le_of_eq gg102.symm))
     replace A_b97 := (A_b97.ext E100).other W101 ne_b97_b100
     have ne_b97_b102 : b97 ≠ b102 := Nat.ne_of_lt (Nat.lt_of_lt_of_le A_b97.lt (Nat.le_of_eq gg102.symm))
     have ne_b100_b102 : b100 ≠ b102 := Nat.ne_of_lt (Nat.lt_of_lt_of_le A_b100.lt (Nat.le_of_eq gg102.symm))
     have Z102 : n0 ≤ h102.size := Nat.le_trans Z101 E102.1
     replace A_b102 : Ars Z h102 b102 .int [(.int 0)] := A_b102
     show Run p e below s _ _ _ (T102.setTop (mkF m 341 #[.val (.int p1), .val (.int p2), .val (.int p3), .val (.int p4), .val (.int p5), .val (.int 1), .val (.int 2), .val (.ref b79), .val (.int d), .val (.int 1), .val (.ref b97), .val (.ref b100), .unset, .unset, .unset, .unset, .unset, .unset] [(.ref b102)]))
     refine Run.x_dup (q := 342) X102 hx (hb hby at_341) rfl rfl ?_
     refine Run.x_iconst (q := 343) X102 hx (hb hby at_342) (z := (0 : Int32)) rfl rfl ?_
     refine Run.x_iconst (q := 344) X102 hx (hb hby at_343) (z := (1 : Int32)) rfl rfl ?_
     refine Run.y_stI (q := 345) X102 hx hZ e102 A_b102 (i := 0) (by decide) (Nat.le_of_ble_eq_true rfl) (hb hby at_344) rfl fun T103 h103 X103 e103 W103 A103 => ?_
     replace A_b102 : Ars Z h103 b102 .int [(.int 1)] := A103
     have N103 := Fr.snoc X103 N101 g_b102
     have Z103 : n0 ≤ h103.size := Nat.le_trans Z102 (Nat.le_of_eq W103.size.symm)
     refine Run.x_astore (q := 347) X103 hx #[.val (.int p1), .val (.int p2), .val (.int p3), .val (.int p4), .val (.int p5), .val (.int 1), .val (.int 2), .val (.ref b79), .val (.int d), .val (.int 1), .val (.ref b97), .val (.ref b100), .val (.ref b102), .unset, .unset, .unset, .unset, .unset] (hb hby at_345) rfl rfl rfl ?_
     refine Run.x_aload (q := 349) X103 hx (hb hby at_347) rfl rfl rfl ?_
     refine Run.x_aload (q := 351) X103 hx (hb hby at_349) rfl rfl rfl ?_
     refine Run.x_iconst (q := 352) X103 hx (hb hby at_351) (z := (0 : Int32)) rfl rfl ?_
     refine Run.x_iconst (q := 353) X103 hx (hb hby at_352) (z := (0 : Int32)) rfl rfl ?_
     refine Run.x_iconst (q := 354) X103 hx (hb hby at_353) (z := (0 : Int32)) rfl rfl ?_
     refine Run.x_iload (q := 356) X103 hx (hb hby at_354) rfl rfl ?_
     replace E80 := (E80.ext E102).wr W103
     replace F080 := ((((((F080.ext E97).other W98 (Or.inl ne_b79_b97)).other W99 (Or.inl ne_b79_b97)).ext E100).other W101 (Or.inl ne_b79_b100)).ext E102).other W103 (Or.inl ne_b79_b102)
     replace F180 := ((((((F180.ext E97).other W98 (Or.inl ne_b79_b97)).other W99 (Or.inl ne_b79_b97)).ext E100).other W101 (Or.inl ne_b79_b100)).ext E102).other W103 (Or.inl ne_b79_b102)
     replace F280 := ((((((F280.ext E97).other W98 (Or.inl ne_b79_b97)).other W99 (Or.inl ne_b79_b97)).ext E100).other W101 (Or.inl ne_b79_b100)).ext E102).other W103 (Or.inl ne_b79_b102)
     replace F380 := ((((((F380.ext E97).other W98 (Or.inl ne_b79_b97)).other W99 (Or.inl ne_b79_b97)).ext E100).other W101 (Or.inl ne_b79_b100)).ext E102).other W103 (Or.inl ne_b79_b102)
     replace F480 := ((((((F480.ext E97).other W98 (Or.inl ne_b79_b97)).other W99 (Or.inl ne_b79_b97)).ext E100).other W101 (Or.inl ne_b79_b100)).ext E102).other W103 (Or.inl ne_b79_b102)
     replace Ag80 := (Ag80.ext E102).other W103 ne_gr_b102
     replace Ar0_80 := (Ar0_80.ext E102).other W103 ne_r0_b102
     replace Ar1_80 := (Ar1_80.ext E102).other W103 ne_r1_b102
     replace A_b97 := (A_b97.ext E102).other W103 ne_b97_b102
     refine Run.callV X103 hx hZ e103 (y := (⟨"semblance/JpegScans", "take", "([IIIII)Z"⟩ : MethodName)) (z := (⟨"semblance/JpegScans", "take", "([IIIII)Z"⟩ : MethodName)) hown (wm34 hw) (wm35 hw) (notFace_of_selects (args := #[]) (mvT hZ (wm37 hw))) (wm37 hw) (wm36 hw) (wm2 hw) (wm38 hw) (by decide) (a := b79) E80 (argsL := [(.ref b97), (.int 0), (.int 0), (.int 0), (.int d)]) (rest := []) (c_dc_2_0 l Z a0 hw b79 b97 d h103 n0 Z103 gr r0 r1 (0 : Int32) (0 : Int32) (fun _ => (-1 : Int32)) (fun _ => (-1 : Int32)) E80 F080 F180 F280 F380 F480 Ag80 Ar0_80 Ar1_80 A_b97 g_b79 g_r0 g_r1 ne_b79_gr ne_b79_r0 ne_b79_r1 ne_b79_b97 ne_gr_r0 ne_gr_r1 ne_gr_b97 ne_r0_r1 ne_r0_b97 ne_r1_b97 (by decide) rd (by decide) (by decide)) pd_3 rfl (by rw [hml]; rfl) (W := 0) rfl (by decide) (by decide) (by decide) (by decide) (hb hby at_356) rfl ?_
     intro T104 v104 L104 X104 q104
     obtain ⟨bb104, rfl, M104, K104, E104, F0104, F1104, F2104, F3104, F4104, Ar0_104, Ar1_104⟩ := q104
     have N104 := Fr.app N103 M104
     show Run p e below s _ _ _ (T104.setTop (mkF m 359 #[.val (.int p1), .val (.int p2), .val (.int p3), .val (.int p4), .val (.int p5), .val (.int 1), .val (.int 2), .val (.ref b79), .val (.int d), .val (.int 1), .val (.ref b97), .val (.ref b100), .val (.ref b102), .unset, .unset, .unset, .unset, .unset] [(.int bb104)]))
     have Z104 : n0 ≤ T104.heap.size := Nat.le_trans Z103 K104.1
     refine Run.x_pop (q := 360) X104 hx (hb hby at_359) rfl rfl ?_
     refine Run.x_iload (q := 362) X104 hx (hb hby at_360) rfl rfl ?_
     refine Run.x_ifNo (q := 365) X104 hx (hb hby at_362) ((if0 _ _).trans (feq (by decide : ¬ ((1 : Int32) = (0 : Int32)))).1) rfl ?_
     refine Run.x_aload (q := 367) X104 hx (hb hby at_365) rfl rfl rfl ?_
     refine Run.x_aload (q := 369) X104 hx (hb hby at_367) rfl rfl rfl ?_
     refine Run.x_iconst (q := 370) X104 hx (hb hby at_369) (z := (0 : Int32)) rfl rfl ?_
     refine Run.x_iconst (q := 371) X104 hx (hb hby at_370) (z := (0 : Int32)) rfl rfl ?_
     refine Run.x_iload (q := 373) X104 hx (hb hby at_371) rfl rfl ?_
     refine Run.x_iload (q := 375) X104 hx (hb hby at_373) rfl rfl ?_
     refine Run.x_iconst (q := 376) X104 hx (hb hby at_375) (z := (1 : Int32)) rfl rfl ?_
     refine Run.x_isub (q := 377) X104 hx (hb hby at_376) rfl rfl ?_
     replace Ag80 := Ag80.keep K104 (ninS (Ne.symm ne_b79_gr) (ninS ne_gr_r0 (ninS ne_gr_r1 nin0)))
     replace A_b97 := A_b97.keep K104 (ninS (Ne.symm ne_b79_b97) (ninS (Ne.symm ne_r0_b97) (ninS (Ne.symm ne_r1_b97) nin0)))
     refine Run.callV X104 hx hZ rfl (y := (⟨"semblance/JpegScans", "take", "([IIIII)Z"⟩ : MethodName)) (z := (⟨"semblance/JpegScans", "take", "([IIIII)Z"⟩ : MethodName)) hown (wm34 hw) (wm35 hw) (notFace_of_selects (args := #[]) (mvT hZ (wm37 hw))) (wm37 hw) (wm36 hw) (wm2 hw) (wm38 hw) (by decide) (a := b79) E104 (argsL := [(.ref b97), (.int 0), (.int 0), (.int d), (.int (d - (1 : Int32)))]) (rest := []) (c_dc_2_1 l Z a0 hw b79 b97 d (d - (1 : Int32)) T104.heap n0 Z104 gr r0 r1 ((0 : Int32) + (1 : Int32)) (0 : Int32) (own_upd (fun _ => (-1 : Int32)) 0 d) (own_upd (fun _ => (-1 : Int32)) 0 d) E104 F0104 F1104 F2104 F3104 F4104 Ag80 Ar0_104 Ar1_104 A_b97 g_b79 g_r0 g_r1 ne_b79_gr ne_b79_r0 ne_b79_r1 ne_b79_b97 ne_gr_r0 ne_gr_r1 ne_gr_b97 ne_r0_r1 ne_r0_b97 ne_r1_b97 (by decide) (own_d1 rd hd1) (own_mx own_upd_self rd.1) (own_mx own_upd_self rd.1) (own_d0 hd1) rfl) pd_3 rfl (by rw [hml]; rfl) (W := 0) rfl (by decide) (by decide) (by decide) (by decide) (hb hby at_377) rfl ?_
     intro T105 v105 L105 X105 q105
     obtain ⟨bb105, rfl, M105, K105, E105, F0105, F1105, F2105, F3105, F4105, Ar0_105, Ar1_105⟩ := q105
     have N105 := Fr.app N104 M105
     show Run p e below s _ _ _ (T105.setTop (mkF m 380 #[.val (.int p1), .val (.int p2), .val (.int p3), .val (.int p4), .val (.int p5), .val (.int 1), .val (.int 2), .val (.ref b79), .val (.int d), .val (.int 1), .val (.ref b97), .val (.ref b100), .val (.ref b102), .unset, .unset, .unset, .unset, .unset] [(.int bb105)]))
     have Z105 : n0 ≤ T105.heap.size := Nat.le_trans Z104 K105.1
     refine Run.x_pop (q := 381) X105 hx (hb hby at_380) rfl rfl ?_
     have k0 : (own_upd (own_upd (fun _ => (-1 : Int32)) 0 d) 0 (d - (1 : Int32))) 0 = (d - (1 : Int32)) := own_upd_self
     have km : ∀ i, 1 ≤ i → i < 64 → (own_upd (own_upd (fun _ => (-1 : Int32)) 0 d) 0 (d - (1 : Int32))) i = -1 := fun i q _ => (own_upd_ne (by omega)).trans ((own_upd_ne (by omega)).trans rfl)
     have rD : 0 ≤ (d - (1 : Int32)).toInt ∧ (d - (1 : Int32)).toInt ≤ 13 := own_d1 rd hd1
     obtain ⟨ee0, hee0⟩ : ∃ z, own_e p3 = z := ⟨_, rfl⟩
     obtain ⟨bA0, hbA0⟩ : ∃ z, own_A p3 = z := ⟨_, rfl⟩
     obtain ⟨bB0, hbB0⟩ : ∃ z, own_B p3 = z := ⟨_, rfl⟩
     obtain ⟨E0, hE0, hE10, hE20⟩ := own_e_rg hee0
     obtain ⟨ee1, hee1⟩ : ∃ z, own_e p4 = z := ⟨_, rfl⟩
     obtain ⟨bA1, hbA1⟩ : ∃ z, own_A p4 = z := ⟨_, rfl⟩
     obtain ⟨bB1, hbB1⟩ : ∃ z, own_B p4 = z := ⟨_, rfl⟩
     obtain ⟨E1, hE1, hE11, hE21⟩ := own_e_rg hee1
     refine Run.x_aload (q := 383) X105 hx (hb hby at_381) rfl rfl rfl ?_
     refine Run.x_aload (q := 385) X105 hx (hb hby at_383) rfl rfl rfl ?_
     refine Run.x_iloadN (q := 386) X105 hx (hb hby at_385) rfl rfl ?_
     have J398 : ∀ (aq : Int32), (aq = (own_b (¬ (p1 &&& (8 : Int32)) = (0 : Int32)))) → Run p e below s (Tru n0) room_1.cells room_1.slots (T105.setTop (mkF m 398 #[.val (.int p1), .val (.int p2), .val (.int p3), .val (.int p4), .val (.int p5), .val (.int 1), .val (.int 2), .val (.ref b79), .val (.int d), .val (.int 1), .val (.ref b97), .val (.ref b100), .val (.ref b102), .unset, .unset, .unset, .unset, .unset] [(.int aq), (.int p3), (.ref b100), (.ref b79)])) := by
      intro aq haq
      subst haq
      have J410 : ∀ (aq : Int32), (aq = (own_b (¬ (p1 &&& (16 : Int32)) = (0 : Int32)))) → Run p e below s (Tru n0) room_1.cells room_1.slots (T105.setTop (mkF m 410 #[.val (.int p1), .val (.int p2), .val (.int p3), .val (.int p4), .val (.int p5), .val (.int 1), .val (.int 2), .val (.ref b79), .val (.int d), .val (.int 1), .val (.ref b97), .val (.ref b100), .val (.ref b102), .unset, .unset, .unset, .unset, .unset] [(.int aq), (.int (own_b (¬ (p1 &&& (8 : Int32)) = (0 : Int32)))), (.int p3), (.ref b100), (.ref b79)])) := by
       intro aq haq
       subst haq
       replace Ag80 := Ag80.keep K105 (ninS (Ne.symm ne_b79_gr) (ninS ne_gr_r0 (ninS ne_gr_r1 nin0)))
       replace A_b100 := (((A_b100.ext E102).other W103 ne_b100_b102).keep K104 (ninS (Ne.symm ne_b79_b100) (ninS (Ne.symm ne_r0_b100) (ninS (Ne.symm ne_r1_b100) nin0)))).keep K105 (ninS (Ne.symm ne_b79_b100) (ninS (Ne.symm ne_r0_b100) (ninS (Ne.symm ne_r1_b100) nin0)))
       refine Run.callS X105 hx hZ rfl (y := (⟨"semblance/JpegScansCompletePinLaw", "send", "(Lsemblance/JpegScans;[IIZZ)V"⟩ : MethodName)) hown (wm45 hw) (wm46 hw) (wm24 hw) (wm47 hw) (by decide) (argsL := [(.ref b79), (.ref b100), (.int p3), (.int (own_b (¬ (p1 &&& (8 : Int32)) = (0 : Int32)))), (.int (own_b (¬ (p1 &&& (16 : Int32)) = (0 : Int32))))]) (rest := []) (c_send_2_0 l Z a0 hw b79 b100 p3 (own_b (¬ (p1 &&& (8 : Int32)) = (0 : Int32))) (own_b (¬ (p1 &&& (16 : Int32)) = (0 : Int32))) T105.heap n0 Z105 gr r0 r1 (((0 : Int32) + (1 : Int32)) + (1 : Int32)) (0 : Int32) (own_upd (own_upd (fun _ => (-1 : Int32)) 0 d) 0 (d - (1 : Int32))) (own_upd (own_upd (fun _ => (-1 : Int32)) 0 d) 0 (d - (1 : Int32))) ee0 bA0 bB0 E0 E105 F0105 F1105 F2105 F3105 F4105 Ag80 Ar0_105 Ar1_105 A_b100 g_b79 g_r0 ne_b79_gr ne_b79_r0 ne_b79_r1 ne_b79_b100 ne_gr_r0 ne_gr_r1 ne_gr_b100 ne_r0_r1 ne_r0_b100 ne_r1_b100 (by decide) hee0 hbA0 hbB0 hE0 hE10 hE20 (by rw [k0]; exact rD.1) km) pd_8 rfl (by rw [hml]; rfl) (W := 0) rfl (by decide) (by decide) (by decide) (by decide) (hb hby at_410) rfl ?_
       intro T106 v106 L106 X106 q106
       obtain ⟨g0, ct0, rfl, M106, K106, hct0, ya0, yb0, yc0, E106, F0106, F1106, F2106, F3106, F4106, Ar0_106⟩ := q106
       have N106 := Fr.app N105 M106
       show Run p e below s _ _ _ (T106.setTop (mkF m 413 #[.val (.int p1), .val (.int p2), .val (.int p3), .val (.int p4), .val (.int p5), .val (.int 1), .val (.int 2), .val (.ref b79), .val (.int d), .val (.int 1), .val (.ref b97), .val (.ref b100), .val (.ref b102), .unset, .unset, .unset, .unset, .unset] []))
       have Z106 : n0 ≤ T106.heap.size := Nat.le_trans Z105 K106.1
       refine Run.x_iload (q := 415) X106 hx (hb hby at_413) rfl rfl ?_
       refine Run.x_iconst (q := 416) X106 hx (hb hby at_415) (z := (2 : Int32)) rfl rfl ?_
       refine Run.x_icmpNo (q := 419) X106 hx (hb hby at_416) (teq (by decide : (2 : Int32) = (2 : Int32))).2 rfl ?_
       refine Run.x_aload (q := 421) X106 hx (hb hby at_419) rfl rfl rfl ?_
       refine Run.x_aload (q := 423) X106 hx (hb hby at_421) rfl rfl rfl ?_
       refine Run.x_iloadN (q := 424) X106 hx (hb hby at_423) rfl rfl ?_
       have J436 : ∀ (aq : Int32), (aq = (own_b (¬ (p1 &&& (32 : Int32)) = (0 : Int32)))) → Run p e below s (Tru n0) room_1.cells room_1.slots (T106.setTop (mkF m 436 #[.val (.int p1), .val (.int p2), .val (.int p3), .val (.int p4), .val (.int p5), .val (.int 1), .val (.int 2), .val (.ref b79), .val (.int d), .val (.int 1), .val (.ref b97), .val (.ref b100), .val (.ref b102), .unset, .unset, .unset, .unset, .unset] [(.int aq), (.int p4), (.ref b102), (.ref b79)])) := by
        intro aq haq
        subst haq
        have J448 : ∀ (aq : Int32), (aq = (own_b (¬ (p1 &&& (64 : Int32)) = (0 : Int32)))) → Run p e below s (Tru n0) room_1.cells room_1.slots (T106.setTop (mkF m 448 #[.val (.int p1), .val (.int p2), .val (.int p3), .val (.int p4), .val (.int p5), .val (.int 1), .val (.int 2), .val (.ref b79), .val (.int d), .val (.int 1), .val (.ref b97), .val (.ref b100), .val (.ref b102), .unset, .unset, .unset, .unset, .unset] [(.int aq), (.int (own_b (¬ (p1 &&& (32 : Int32)) = (0 : Int32)))), (.int p4), (.ref b102), (.ref b79)])) := by
         intro aq haq
         subst haq
         replace Ag80 := Ag80.keep K106 (ninS (Ne.symm ne_b79_gr) (ninS ne_gr_r0 nin0))
         replace Ar1_105 := Ar1_105.keep K106 (ninS (Ne.symm ne_b79_r1) (ninS (Ne.symm ne_r0_r1) nin0))
         replace A_b102 := ((A_b102.keep K104 (ninS (Ne.symm ne_b79_b102) (ninS (Ne.symm ne_r0_b102) (ninS (Ne.symm ne_r1_b102) nin0)))).keep K105 (ninS (Ne.symm ne_b79_b102) (ninS (Ne.symm ne_r0_b102) (ninS (Ne.symm ne_r1_b102) nin0)))).keep K106 (ninS (Ne.symm ne_b79_b102) (ninS (Ne.symm ne_r0_b102) nin0))
         refine Run.callS X106 hx hZ rfl (y := (⟨"semblance/JpegScansCompletePinLaw", "send", "(Lsemblance/JpegScans;[IIZZ)V"⟩ : MethodName)) hown (wm45 hw) (wm46 hw) (wm24 hw) (wm47 hw) (by decide) (argsL := [(.ref b79), (.ref b102), (.int p4), (.int (own_b (¬ (p1 &&& (32 : Int32)) = (0 : Int32)))), (.int (own_b (¬ (p1 &&& (64 : Int32)) = (0 : Int32))))]) (rest := []) (c_send_2_1 l Z a0 hw b79 b102 p4 (own_b (¬ (p1 &&& (32 : Int32)) = (0 : Int32))) (own_b (¬ (p1 &&& (64 : Int32)) = (0 : Int32))) T106.heap n0 Z106 gr r0 r1 ct0 (0 : Int32) g0 (own_upd (own_upd (fun _ => (-1 : Int32)) 0 d) 0 (d - (1 : Int32))) ee1 bA1 bB1 E1 E106 F0106 F1106 F2106 F3106 F4106 Ag80 Ar0_106 Ar1_105 A_b102 g_b79 g_r1 ne_b79_gr ne_b79_r0 ne_b79_r1 ne_b79_b102 ne_gr_r0 ne_gr_r1 ne_gr_b102 ne_r0_r1 ne_r0_b102 ne_r1_b102 (own_cle hct0 (by decide)) hee1 hbA1 hbB1 hE1 hE11 hE21 (by rw [k0]; exact rD.1) km) pd_8 rfl (by rw [hml]; rfl) (W := 0) rfl (by decide) (by decide) (by decide) (by decide) (hb hby at_448) rfl ?_
         intro T107 v107 L107 X107 q107
         obtain ⟨g1, ct1, rfl, M107, K107, hct1, ya1, yb1, yc1, E107, F0107, F1107, F2107, F3107, F4107, Ar0_107⟩ := q107
         have N107 := Fr.app N106 M107
         show Run p e below s _ _ _ (T107.setTop (mkF m 451 #[.val (.int p1), .val (.int p2), .val (.int p3), .val (.int p4), .val (.int p5), .val (.int 1), .val (.int 2), .val (.ref b79), .val (.int d), .val (.int 1), .val (.ref b97), .val (.ref b100), .val (.ref b102), .unset, .unset, .unset, .unset, .unset] []))
         have Z107 : n0 ≤ T107.heap.size := Nat.le_trans Z106 K107.1
         have J472 : ∀ (dd : Int32), (dd = (own_b ((d - (1 : Int32)) = (0 : Int32)))) → Run p e below s (Tru n0) room_1.cells room_1.slots (T107.setTop (mkF m 472 #[.val (.int p1), .val (.int p2), .val (.int p3), .val (.int p4), .val (.int p5), .val (.int 1), .val (.int 2), .val (.ref b79), .val (.int d), .val (.int 1), .val (.ref b97), .val (.ref b100), .val (.ref b102), .unset, .unset, .unset, .unset, .unset] [(.int dd)])) := by
          intro dd hdd
          subst hdd
          refine Run.x_istore (q := 474) X107 hx #[.val (.int p1), .val (.int p2), .val (.int p3), .val (.int p4), .val (.int p5), .val (.int 1), .val (.int 2), .val (.ref b79), .val (.int d), .val (.int 1), .val (.ref b97), .val (.ref b100), .val (.ref b102), .val (.int (own_b ((d - (1 : Int32)) = (0 : Int32)))), .unset, .unset, .unset, .unset] (hb hby at_472) rfl rfl ?_
          refine Run.x_iloadN (q := 475) X107 hx (hb hby at_474) rfl rfl ?_
          have J487 : ∀ (aq : Int32), (aq = (own_b (¬ (p1 &&& (8 : Int32)) = (0 : Int32)))) → Run p e below s (Tru n0) room_1.cells room_1.slots (T107.setTop (mkF m 487 #[.val (.int p1), .val (.int p2), .val (.int p3), .val (.int p4), .val (.int p5), .val (.int 1), .val (.int 2), .val (.ref b79), .val (.int d), .val (.int 1), .val (.ref b97), .val (.ref b100), .val (.ref b102), .val (.int (own_b ((d - (1 : Int32)) = (0 : Int32)))), .unset, .unset, .unset, .unset] [(.int aq), (.int p3)])) := by
           intro aq haq
           subst haq
           have J499 : ∀ (aq : Int32), (aq = (own_b (¬ (p1 &&& (16 : Int32)) = (0 : Int32)))) → Run p e below s (Tru n0) room_1.cells room_1.slots (T107.setTop (mkF m 499 #[.val (.int p1), .val (.int p2), .val (.int p3), .val (.int p4), .val (.int p5), .val (.int 1), .val (.int 2), .val (.ref b79), .val (.int d), .val (.int 1), .val (.ref b97), .val (.ref b100), .val (.ref b102), .val (.int (own_b ((d - (1 : Int32)) = (0 : Int32)))), .unset, .unset, .unset, .unset] [(.int aq), (.int (own_b (¬ (p1 &&& (8 : Int32)) = (0 : Int32)))), (.int p3)])) := by
            intro aq haq
            subst haq
            refine Run.callSI (q := 502) X107 hx hZ rfl (y := (⟨"semblance/JpegScansCompletePinLaw", "done", "(IZZ)Z"⟩ : MethodName)) hown (wm58 hw) (wm59 hw) (wm24 hw) (wm60 hw) (by decide) (argsL := [(.int p3), (.int (own_b (¬ (p1 &&& (8 : Int32)) = (0 : Int32)))), (.int (own_b (¬ (p1 &&& (16 : Int32)) = (0 : Int32))))]) (rest := []) (c_done l Z a0 hw p3 (own_b (¬ (p1 &&& (8 : Int32)) = (0 : Int32))) (own_b (¬ (p1 &&& (16 : Int32)) = (0 : Int32))) T107.heap n0 Z107 ee0 bA0 bB0 E0 hee0 hbA0 hbB0 hE0 hE10 hE20) pd_9 rfl (by rw [hml]; rfl) (W := 0) rfl (by decide) (by decide) (by decide) (by decide) (hb hby at_499) rfl rfl fun T108 L108 X108 M108 e108 => ?_
            have N108 := Fr.app N107 M108
            refine Run.x_istore (q := 504) X108 hx #[.val (.int p1), .val (.int p2), .val (.int p3), .val (.int p4), .val (.int p5), .val (.int 1), .val (.int 2), .val (.ref b79), .val (.int d), .val (.int 1), .val (.ref b97), .val (.ref b100), .val (.ref b102), .val (.int (own_b ((d - (1 : Int32)) = (0 : Int32)))), .val (.int (own_b (own_AA (own_b (¬ (p1 &&& (8 : Int32)) = (0 : Int32))) bA0 = 0 ∧ (ee0 = 63 ∨ own_BB (own_b (¬ (p1 &&& (16 : Int32)) = (0 : Int32))) ee0 bB0 = 0)))), .unset, .unset, .unset] (hb hby at_502) rfl rfl ?_
            refine Run.x_iload (q := 506) X108 hx (hb hby at_504) rfl rfl ?_
            refine Run.x_iconst (q := 507) X108 hx (hb hby at_506) (z := (1 : Int32)) rfl rfl ?_
            refine Run.x_icmpNo (q := 510) X108 hx (hb hby at_507) (feq (by decide : ¬ ((2 : Int32) = (1 : Int32)))).1 rfl ?_
            refine Run.x_iloadN (q := 511) X108 hx (hb hby at_510) rfl rfl ?_
            have J523 : ∀ (aq : Int32), (aq = (own_b (¬ (p1 &&& (32 : Int32)) = (0 : Int32)))) → Run p e below s (Tru n0) room_1.cells room_1.slots (T108.setTop (mkF m 523 #[.val (.int p1), .val (.int p2), .val (.int p3), .val (.int p4), .val (.int p5), .val (.int 1), .val (.int 2), .val (.ref b79), .val (.int d), .val (.int 1), .val (.ref b97), .val (.ref b100), .val (.ref b102), .val (.int (own_b ((d - (1 : Int32)) = (0 : Int32)))), .val (.int (own_b (own_AA (own_b (¬ (p1 &&& (8 : Int32)) = (0 : Int32))) bA0 = 0 ∧ (ee0 = 63 ∨ own_BB (own_b (¬ (p1 &&& (16 : Int32)) = (0 : Int32))) ee0 bB0 = 0)))), .unset, .unset, .unset] [(.int aq), (.int p4)])) := by
             intro aq haq
             subst haq
             have J535 : ∀ (aq : Int32), (aq = (own_b (¬ (p1 &&& (64 : Int32)) = (0 : Int32)))) → Run p e below s (Tru n0) room_1.cells room_1.slots (T108.setTop (mkF m 535 #[.val (.int p1), .val (.int p2), .val (.int p3), .val (.int p4), .val (.int p5), .val (.int 1), .val (.int 2), .val (.ref b79), .val (.int d), .val (.int 1), .val (.ref b97), .val (.ref b100), .val (.ref b102), .val (.int (own_b ((d - (1 : Int32)) = (0 : Int32)))), .val (.int (own_b (own_AA (own_b (¬ (p1 &&& (8 : Int32)) = (0 : Int32))) bA0 = 0 ∧ (ee0 = 63 ∨ own_BB (own_b (¬ (p1 &&& (16 : Int32)) = (0 : Int32))) ee0 bB0 = 0)))), .unset, .unset, .unset] [(.int aq), (.int (own_b (¬ (p1 &&& (32 : Int32)) = (0 : Int32)))), (.int p4)])) := by
              intro aq haq
              subst haq
              refine Run.callSI (q := 538) X108 hx hZ e108 (y := (⟨"semblance/JpegScansCompletePinLaw", "done", "(IZZ)Z"⟩ : MethodName)) hown (wm58 hw) (wm59 hw) (wm24 hw) (wm60 hw) (by decide) (argsL := [(.int p4), (.int (own_b (¬ (p1 &&& (32 : Int32)) = (0 : Int32)))), (.int (own_b (¬ (p1 &&& (64 : Int32)) = (0 : Int32))))]) (rest := []) (c_done l Z a0 hw p4 (own_b (¬ (p1 &&& (32 : Int32)) = (0 : Int32))) (own_b (¬ (p1 &&& (64 : Int32)) = (0 : Int32))) T107.heap n0 Z107 ee1 bA1 bB1 E1 hee1 hbA1 hbB1 hE1 hE11 hE21) pd_9 rfl (by rw [hml]; rfl) (W := 0) rfl (by decide) (by decide) (by decide) (by decide) (hb hby at_535) rfl rfl fun T109 L109 X109 M109 e109 => ?_
              have N109 := Fr.app N108 M109
              have J546 : ∀ (d9 : Int32), (d9 = (own_b (own_AA (own_b (¬ (p1 &&& (32 : Int32)) = (0 : Int32))) bA1 = 0 ∧ (ee1 = 63 ∨ own_BB (own_b (¬ (p1 &&& (64 : Int32)) = (0 : Int32))) ee1 bB1 = 0)))) → Run p e below s (Tru n0) room_1.cells room_1.slots (T109.setTop (mkF m 546 #[.val (.int p1), .val (.int p2), .val (.int p3), .val (.int p4), .val (.int p5), .val (.int 1), .val (.int 2), .val (.ref b79), .val (.int d), .val (.int 1), .val (.ref b97), .val (.ref b100), .val (.ref b102), .val (.int (own_b ((d - (1 : Int32)) = (0 : Int32)))), .val (.int (own_b (own_AA (own_b (¬ (p1 &&& (8 : Int32)) = (0 : Int32))) bA0 = 0 ∧ (ee0 = 63 ∨ own_BB (own_b (¬ (p1 &&& (16 : Int32)) = (0 : Int32))) ee0 bB0 = 0)))), .unset, .unset, .unset] [(.int d9)])) := by
               intro d9 hd9
               subst hd9
               refine Run.x_istore (q := 548) X109 hx #[.val (.int p1), .val (.int p2), .val (.int p3), .val (.int p4), .val (.int p5), .val (.int 1), .val (.int 2), .val (.ref b79), .val (.int d), .val (.int 1), .val (.ref b97), .val (.ref b100), .val (.ref b102), .val (.int (own_b ((d - (1 : Int32)) = (0 : Int32)))), .val (.int (own_b (own_AA (own_b (¬ (p1 &&& (8 : Int32)) = (0 : Int32))) bA0 = 0 ∧ (ee0 = 63 ∨ own_BB (own_b (¬ (p1 &&& (16 : Int32)) = (0 : Int32))) ee0 bB0 = 0)))), .val (.int (own_b (own_AA (own_b (¬ (p1 &&& (32 : Int32)) = (0 : Int32))) bA1 = 0 ∧ (ee1 = 63 ∨ own_BB (own_b (¬ (p1 &&& (64 : Int32)) = (0 : Int32))) ee1 bB1 = 0)))), .unset, .unset] (hb hby at_546) rfl rfl ?_
               refine Run.x_iload (q := 550) X109 hx (hb hby at_548) rfl rfl ?_
               by_cases hc550 : (own_b ((d - (1 : Int32)) = (0 : Int32))) = (0 : Int32)
               ·skip
                refine Run.x_ifYes (q := 567) X109 hx (hb hby at_550) ((if0 _ _).trans (teq hc550).1) (by decide) (by decide) ?_
                refine Run.x_iconst (q := 568) X109 hx (hb hby at_567) (z := (0 : Int32)) rfl rfl ?_
                refine Run.x_istore (q := 570) X109 hx #[.val (.int p1), .val (.int p2), .val (.int p3), .val (.int p4), .val (.int p5), .val (.int 1), .val (.int 2), .val (.ref b79), .val (.int d), .val (.int 1), .val (.ref b97), .val (.ref b100), .val (.ref b102), .val (.int (own_b ((d - (1 : Int32)) = (0 : Int32)))), .val (.int (own_b (own_AA (own_b (¬ (p1 &&& (8 : Int32)) = (0 : Int32))) bA0 = 0 ∧ (ee0 = 63 ∨ own_BB (own_b (¬ (p1 &&& (16 : Int32)) = (0 : Int32))) ee0 bB0 = 0)))), .val (.int (own_b (own_AA (own_b (¬ (p1 &&& (32 : Int32)) = (0 : Int32))) bA1 = 0 ∧ (ee1 = 63 ∨ own_BB (own_b (¬ (p1 &&& (64 : Int32)) = (0 : Int32))) ee1 bB1 = 0)))), .val (.int 0), .unset] (hb hby at_568) rfl rfl ?_
                refine Run.x_aload (q := 572) X109 hx (hb hby at_570) rfl rfl rfl ?_
                have zr0 := own_zr hE0 hE10 hE20 (ya0.trans k0) yb0 yc0
                have zr1 := own_zr hE1 hE11 hE21 (ya1.trans k0) yb1 yc1
                replace Ag80 := Ag80.keep K107 (ninS (Ne.symm ne_b79_gr) (ninS ne_gr_r1 nin0))
                replace Ar0_106 := Ar0_106.keep K107 (ninS (Ne.symm ne_b79_r0) (ninS ne_r0_r1 nin0))
                refine Run.callVI (q := 575) X109 hx hZ e109 (y := (⟨"semblance/JpegScans", "complete", "()Z"⟩ : MethodName)) (z := (⟨"semblance/JpegScans", "complete", "()Z"⟩ : MethodName)) hown (wm26 hw) (wm27 hw) (notFace_of_selects (args := #[]) (mvT hZ (wm29 hw))) (wm29 hw) (wm28 hw) (wm2 hw) (wm30 hw) (by decide) (a := b79) E107 (argsL := []) (rest := []) (c_cmp_2 l Z a0 hw b79 T107.heap n0 Z107 gr r0 r1 (0 : Int32) (0 : Int32) g0 g1 E107 F2107 F4107 Ag80 Ar0_106 Ar0_107 (fun h => (own_beq hc550 (zr0.mp h.2.1).1).elim) (fun _ => rfl)) pd_7 rfl (by rw [hml]; rfl) (W := 0) rfl (by decide) (by decide) (by decide) (by decide) (hb hby at_572) rfl rfl fun T110 L110 X110 M110 e110 => ?_
                have N110 := Fr.app N109 M110
                refine Run.x_iload (q := 577) X110 hx (hb hby at_575) rfl rfl ?_
                refine Run.x_icmpNo (q := 580) X110 hx (hb hby at_577) (teq (by decide : (0 : Int32) = (0 : Int32))).2 rfl ?_
                refine Run.x_iconst (q := 581) X110 hx (hb hby at_580) (z := (1 : Int32)) rfl rfl ?_
                refine Run.x_goto (q := 585) X110 hx (hb hby at_581) (by decide) (by decide) ?_
                refine Run.retN X110 hx hlk e110 (t := .boolean) hret (by simp) (z' := (1 : Int32)) (by decide) (hb hby at_585) (by decide) (by decide) ?_
                exact ⟨rfl, N110⟩
               ·skip
                refine Run.x_ifNo (q := 553) X109 hx (hb hby at_550) ((if0 _ _).trans (feq hc550).1) rfl ?_
                refine Run.x_iload (q := 555) X109 hx (hb hby at_553) rfl rfl ?_
                by_cases hc555 : (own_b (own_AA (own_b (¬ (p1 &&& (8 : Int32)) = (0 : Int32))) bA0 = 0 ∧ (ee0 = 63 ∨ own_BB (own_b (¬ (p1 &&& (16 : Int32)) = (0 : Int32))) ee0 bB0 = 0))) = (0 : Int32)
                ·skip
                 refine Run.x_ifYes (q := 567) X109 hx (hb hby at_555) ((if0 _ _).trans (teq hc555).1) (by decide) (by decide) ?_
                 refine Run.x_iconst (q := 568) X109 hx (hb hby at_567) (z := (0 : Int32)) rfl rfl ?_
                 refine Run.x_istore (q := 570) X109 hx #[.val (.int p1), .val (.int p2), .val (.int p3), .val (.int p4), .val (.int p5), .val (.int 1), .val (.int 2), .val (.ref b79), .val (.int d), .val (.int 1), .val (.ref b97), .val (.ref b100), .val (.ref b102), .val (.int (own_b ((d - (1 : Int32)) = (0 : Int32)))), .val (.int (own_b (own_AA (own_b (¬ (p1 &&& (8 : Int32)) = (0 : Int32))) bA0 = 0 ∧ (ee0 = 63 ∨ own_BB (own_b (¬ (p1 &&& (16 : Int32)) = (0 : Int32))) ee0 bB0 = 0)))), .val (.int (own_b (own_AA (own_b (¬ (p1 &&& (32 : Int32)) = (0 : Int32))) bA1 = 0 ∧ (ee1 = 63 ∨ own_BB (own_b (¬ (p1 &&& (64 : Int32)) = (0 : Int32))) ee1 bB1 = 0)))), .val (.int 0), .unset] (hb hby at_568) rfl rfl ?_
                 refine Run.x_aload (q := 572) X109 hx (hb hby at_570) rfl rfl rfl ?_
                 have zr0 := own_zr hE0 hE10 hE20 (ya0.trans k0) yb0 yc0
                 have zr1 := own_zr hE1 hE11 hE21 (ya1.trans k0) yb1 yc1
                 replace Ag80 := Ag80.keep K107 (ninS (Ne.symm ne_b79_gr) (ninS ne_gr_r1 nin0))
                 replace Ar0_106 := Ar0_106.keep K107 (ninS (Ne.symm ne_b79_r0) (ninS ne_r0_r1 nin0))
                 refine Run.callVI (q := 575) X109 hx hZ e109 (y := (⟨"semblance/JpegScans", "complete", "()Z"⟩ : MethodName)) (z := (⟨"semblance/JpegScans", "complete", "()Z"⟩ : MethodName)) hown (wm26 hw) (wm27 hw) (notFace_of_selects (args := #[]) (mvT hZ (wm29 hw))) (wm29 hw) (wm28 hw) (wm2 hw) (wm30 hw) (by decide) (a := b79) E107 (argsL := []) (rest := []) (c_cmp_2 l Z a0 hw b79 T107.heap n0 Z107 gr r0 r1 (0 : Int32) (0 : Int32) g0 g1 E107 F2107 F4107 Ag80 Ar0_106 Ar0_107 (fun h => (own_beq hc555 (zr0.mp h.2.1).2).elim) (fun _ => rfl)) pd_7 rfl (by rw [hml]; rfl) (W := 0) rfl (by decide) (by decide) (by decide) (by decide) (hb hby at_572) rfl rfl fun T111 L111 X111 M111 e111 => ?_
                 have N111 := Fr.app N109 M111
                 refine Run.x_iload (q := 577) X111 hx (hb hby at_575) rfl rfl ?_
                 refine Run.x_icmpNo (q := 580) X111 hx (hb hby at_577) (teq (by decide : (0 : Int32) = (0 : Int32))).2 rfl ?_
                 refine Run.x_iconst (q := 581) X111 hx (hb hby at_580) (z := (1 : Int32)) rfl rfl ?_
                 refine Run.x_goto (q := 585) X111 hx (hb hby at_581) (by decide) (by decide) ?_
                 refine Run.retN X111 hx hlk e111 (t := .boolean) hret (by simp) (z' := (1 : Int32)) (by decide) (hb hby at_585) (by decide) (by decide) ?_
                 exact ⟨rfl, N111⟩
                ·skip
                 refine Run.x_ifNo (q := 558) X109 hx (hb hby at_555) ((if0 _ _).trans (feq hc555).1) rfl ?_
                 refine Run.x_iload (q := 560) X109 hx (hb hby at_558) rfl rfl ?_
                 by_cases hc560 : (own_b (own_AA (own_b (¬ (p1 &&& (32 : Int32)) = (0 : Int32))) bA1 = 0 ∧ (ee1 = 63 ∨ own_BB (own_b (¬ (p1 &&& (64 : Int32)) = (0 : Int32))) ee1 bB1 = 0))) = (0 : Int32)
                 ·skip
                  refine Run.x_ifYes (q := 567) X109 hx (hb hby at_560) ((if0 _ _).trans (teq hc560).1) (by decide) (by decide) ?_
                  refine Run.x_iconst (q := 568) X109 hx (hb hby at_567) (z := (0 : Int32)) rfl rfl ?_
                  refine Run.x_istore (q := 570) X109 hx #[.val (.int p1), .val (.int p2), .val (.int p3), .val (.int p4), .val (.int p5), .val (.int 1), .val (.int 2), .val (.ref b79), .val (.int d), .val (.int 1), .val (.ref b97), .val (.ref b100), .val (.ref b102), .val (.int (own_b ((d - (1 : Int32)) = (0 : Int32)))), .val (.int (own_b (own_AA (own_b (¬ (p1 &&& (8 : Int32)) = (0 : Int32))) bA0 = 0 ∧ (ee0 = 63 ∨ own_BB (own_b (¬ (p1 &&& (16 : Int32)) = (0 : Int32))) ee0 bB0 = 0)))), .val (.int (own_b (own_AA (own_b (¬ (p1 &&& (32 : Int32)) = (0 : Int32))) bA1 = 0 ∧ (ee1 = 63 ∨ own_BB (own_b (¬ (p1 &&& (64 : Int32)) = (0 : Int32))) ee1 bB1 = 0)))), .val (.int 0), .unset] (hb hby at_568) rfl rfl ?_
                  refine Run.x_aload (q := 572) X109 hx (hb hby at_570) rfl rfl rfl ?_
                  have zr0 := own_zr hE0 hE10 hE20 (ya0.trans k0) yb0 yc0
                  have zr1 := own_zr hE1 hE11 hE21 (ya1.trans k0) yb1 yc1
                  replace Ag80 := Ag80.keep K107 (ninS (Ne.symm ne_b79_gr) (ninS ne_gr_r1 nin0))
                  replace Ar0_106 := Ar0_106.keep K107 (ninS (Ne.symm ne_b79_r0) (ninS ne_r0_r1 nin0))
                  refine Run.callVI (q := 575) X109 hx hZ e109 (y := (⟨"semblance/JpegScans", "complete", "()Z"⟩ : MethodName)) (z := (⟨"semblance/JpegScans", "complete", "()Z"⟩ : MethodName)) hown (wm26 hw) (wm27 hw) (notFace_of_selects (args := #[]) (mvT hZ (wm29 hw))) (wm29 hw) (wm28 hw) (wm2 hw) (wm30 hw) (by decide) (a := b79) E107 (argsL := []) (rest := []) (c_cmp_2 l Z a0 hw b79 T107.heap n0 Z107 gr r0 r1 (0 : Int32) (0 : Int32) g0 g1 E107 F2107 F4107 Ag80 Ar0_106 Ar0_107 (fun h => (own_beq hc560 (zr1.mp h.2.2).2).elim) (fun _ => rfl)) pd_7 rfl (by rw [hml]; rfl) (W := 0) rfl (by decide) (by decide) (by decide) (by decide) (hb hby at_572) rfl rfl fun T112 L112 X112 M112 e112 => ?_
                  have N112 := Fr.app N109 M112
                  refine Run.x_iload (q := 577) X112 hx (hb hby at_575) rfl rfl ?_
                  refine Run.x_icmpNo (q := 580) X112 hx (hb hby at_577) (teq (by decide : (0 : Int32) = (0 : Int32))).2 rfl ?_
                  refine Run.x_iconst (q := 581) X112 hx (hb hby at_580) (z := (1 : Int32)) rfl rfl ?_
                  refine Run.x_goto (q := 585) X112 hx (hb hby at_581) (by decide) (by decide) ?_
                  refine Run.retN X112 hx hlk e112 (t := .boolean) hret (by simp) (z' := (1 : Int32)) (by decide) (hb hby at_585) (by decide) (by decide) ?_
                  exact ⟨rfl, N112⟩
                 ·skip
                  refine Run.x_ifNo (q := 563) X109 hx (hb hby at_560) ((if0 _ _).trans (feq hc560).1) rfl ?_
                  refine Run.x_iconst (q := 564) X109 hx (hb hby at_563) (z := (1 : Int32)) rfl rfl ?_
                  refine Run.x_goto (q := 568) X109 hx (hb hby at_564) (by decide) (by decide) ?_
                  refine Run.x_istore (q := 570) X109 hx #[.val (.int p1), .val (.int p2), .val (.int p3), .val (.int p4), .val (.int p5), .val (.int 1), .val (.int 2), .val (.ref b79), .val (.int d), .val (.int 1), .val (.ref b97), .val (.ref b100), .val (.ref b102), .val (.int (own_b ((d - (1 : Int32)) = (0 : Int32)))), .val (.int (own_b (own_AA (own_b (¬ (p1 &&& (8 : Int32)) = (0 : Int32))) bA0 = 0 ∧ (ee0 = 63 ∨ own_BB (own_b (¬ (p1 &&& (16 : Int32)) = (0 : Int32))) ee0 bB0 = 0)))), .val (.int (own_b (own_AA (own_b (¬ (p1 &&& (32 : Int32)) = (0 : Int32))) bA1 = 0 ∧ (ee1 = 63 ∨ own_BB (own_b (¬ (p1 &&& (64 : Int32)) = (0 : Int32))) ee1 bB1 = 0)))), .val (.int 1), .unset] (hb hby at_568) rfl rfl ?_
                  refine Run.x_aload (q := 572) X109 hx (hb hby at_570) rfl rfl rfl ?_
                  have zr0 := own_zr hE0 hE10 hE20 (ya0.trans k0) yb0 yc0
                  have zr1 := own_zr hE1 hE11 hE21 (ya1.trans k0) yb1 yc1
                  replace Ag80 := Ag80.keep K107 (ninS (Ne.symm ne_b79_gr) (ninS ne_gr_r1 nin0))
                  replace Ar0_106 := Ar0_106.keep K107 (ninS (Ne.symm ne_b79_r0) (ninS ne_r0_r1 nin0))
                  refine Run.callVI (q := 575) X109 hx hZ e109 (y := (⟨"semblance/JpegScans", "complete", "()Z"⟩ : MethodName)) (z := (⟨"semblance/JpegScans", "complete", "()Z"⟩ : MethodName)) hown (wm26 hw) (wm27 hw) (notFace_of_selects (args := #[]) (mvT hZ (wm29 hw))) (wm29 hw) (wm28 hw) (wm2 hw) (wm30 hw) (by decide) (a := b79) E107 (argsL := []) (rest := []) (c_cmp_2 l Z a0 hw b79 T107.heap n0 Z107 gr r0 r1 (0 : Int32) (1 : Int32) g0 g1 E107 F2107 F4107 Ag80 Ar0_106 Ar0_107 (fun _ => rfl) (fun h => absurd ⟨rfl, zr0.mpr ⟨own_bne hc550, own_bne hc555⟩, zr1.mpr ⟨own_bne hc550, own_bne hc560⟩⟩ h)) pd_7 rfl (by rw [hml]; rfl) (W := 0) rfl (by decide) (by decide) (by decide) (by decide) (hb hby at_572) rfl rfl fun T113 L113 X113 M113 e113 => ?_
                  have N113 := Fr.app N109 M113
                  refine Run.x_iload (q := 577) X113 hx (hb hby at_575) rfl rfl ?_
                  refine Run.x_icmpNo (q := 580) X113 hx (hb hby at_577) (teq (by decide : (1 : Int32) = (1 : Int32))).2 rfl ?_
                  refine Run.x_iconst (q := 581) X113 hx (hb hby at_580) (z := (1 : Int32)) rfl rfl ?_
                  refine Run.x_goto (q := 585) X113 hx (hb hby at_581) (by decide) (by decide) ?_
                  refine Run.retN X113 hx hlk e113 (t := .boolean) hret (by simp) (z' := (1 : Int32)) (by decide) (hb hby at_585) (by decide) (by decide) ?_
                  exact ⟨rfl, N113⟩
              by_cases hc538 : (own_b (own_AA (own_b (¬ (p1 &&& (32 : Int32)) = (0 : Int32))) bA1 = 0 ∧ (ee1 = 63 ∨ own_BB (own_b (¬ (p1 &&& (64 : Int32)) = (0 : Int32))) ee1 bB1 = 0))) = (0 : Int32)
              ·skip
               refine Run.x_ifYes (q := 545) X109 hx (hb hby at_538) ((if0 _ _).trans (teq hc538).1) (by decide) (by decide) ?_
               refine Run.x_iconst (q := 546) X109 hx (hb hby at_545) (z := (0 : Int32)) rfl rfl ?_
               exact J546 _ hc538.symm
              ·skip
               refine Run.x_ifNo (q := 541) X109 hx (hb hby at_538) ((if0 _ _).trans (feq hc538).1) rfl ?_
               refine Run.x_iconst (q := 542) X109 hx (hb hby at_541) (z := (1 : Int32)) rfl rfl ?_
               refine Run.x_goto (q := 546) X109 hx (hb hby at_542) (by decide) (by decide) ?_
               exact J546 _ (own_bn1 hc538).symm
             refine Run.x_iloadN (q := 524) X108 hx (hb hby at_523) rfl rfl ?_
             refine Run.x_bipush (q := 526) X108 hx (hb hby at_524) (z := (64 : Int32)) rfl rfl ?_
             refine Run.x_iand (q := 527) X108 hx (hb hby at_526) rfl rfl ?_
             by_cases hc527 : (p1 &&& (64 : Int32)) = (0 : Int32)
             ·skip
              refine Run.x_ifYes (q := 534) X108 hx (hb hby at_527) ((if0 _ _).trans (teq hc527).1) (by decide) (by decide) ?_
              refine Run.x_iconst (q := 535) X108 hx (hb hby at_534) (z := (0 : Int32)) rfl rfl ?_
              exact J535 _ (own_b0 (fun h => h hc527)).symm
             ·skip
              refine Run.x_ifNo (q := 530) X108 hx (hb hby at_527) ((if0 _ _).trans (feq hc527).1) rfl ?_
              refine Run.x_iconst (q := 531) X108 hx (hb hby at_530) (z := (1 : Int32)) rfl rfl ?_
              refine Run.x_goto (q := 535) X108 hx (hb hby at_531) (by decide) (by decide) ?_
              exact J535 _ (own_b1 hc527).symm
            refine Run.x_iloadN (q := 512) X108 hx (hb hby at_511) rfl rfl ?_
            refine Run.x_bipush (q := 514) X108 hx (hb hby at_512) (z := (32 : Int32)) rfl rfl ?_
            refine Run.x_iand (q := 515) X108 hx (hb hby at_514) rfl rfl ?_
            by_cases hc515 : (p1 &&& (32 : Int32)) = (0 : Int32)
            ·skip
             refine Run.x_ifYes (q := 522) X108 hx (hb hby at_515) ((if0 _ _).trans (teq hc515).1) (by decide) (by decide) ?_
             refine Run.x_iconst (q := 523) X108 hx (hb hby at_522) (z := (0 : Int32)) rfl rfl ?_
             exact J523 _ (own_b0 (fun h => h hc515)).symm
            ·skip
             refine Run.x_ifNo (q := 518) X108 hx (hb hby at_515) ((if0 _ _).trans (feq hc515).1) rfl ?_
             refine Run.x_iconst (q := 519) X108 hx (hb hby at_518) (z := (1 : Int32)) rfl rfl ?_
             refine Run.x_goto (q := 523) X108 hx (hb hby at_519) (by decide) (by decide) ?_
             exact J523 _ (own_b1 hc515).symm
           refine Run.x_iloadN (q := 488) X107 hx (hb hby at_487) rfl rfl ?_
           refine Run.x_bipush (q := 490) X107 hx (hb hby at_488) (z := (16 : Int32)) rfl rfl ?_
           refine Run.x_iand (q := 491) X107 hx (hb hby at_490) rfl rfl ?_
           by_cases hc491 : (p1 &&& (16 : Int32)) = (0 : Int32)
           ·skip
            refine Run.x_ifYes (q := 498) X107 hx (hb hby at_491) ((if0 _ _).trans (teq hc491).1) (by decide) (by decide) ?_
            refine Run.x_iconst (q := 499) X107 hx (hb hby at_498) (z := (0 : Int32)) rfl rfl ?_
            exact J499 _ (own_b0 (fun h => h hc491)).symm
           ·skip
            refine Run.x_ifNo (q := 494) X107 hx (hb hby at_491) ((if0 _ _).trans (feq hc491).1) rfl ?_
            refine Run.x_iconst (q := 495) X107 hx (hb hby at_494) (z := (1 : Int32)) rfl rfl ?_
            refine Run.x_goto (q := 499) X107 hx (hb hby at_495) (by decide) (by decide) ?_
            exact J499 _ (own_b1 hc491).symm
          refine Run.x_iloadN (q := 476) X107 hx (hb hby at_475) rfl rfl ?_
          refine Run.x_bipush (q := 478) X107 hx (hb hby at_476) (z := (8 : Int32)) rfl rfl ?_
          refine Run.x_iand (q := 479) X107 hx (hb hby at_478) rfl rfl ?_
          by_cases hc479 : (p1 &&& (8 : Int32)) = (0 : Int32)
          ·skip
           refine Run.x_ifYes (q := 486) X107 hx (hb hby at_479) ((if0 _ _).trans (teq hc479).1) (by decide) (by decide) ?_
           refine Run.x_iconst (q := 487) X107 hx (hb hby at_486) (z := (0 : Int32)) rfl rfl ?_
           exact J487 _ (own_b0 (fun h => h hc479)).symm
          ·skip
           refine Run.x_ifNo (q := 482) X107 hx (hb hby at_479) ((if0 _ _).trans (feq hc479).1) rfl ?_
           refine Run.x_iconst (q := 483) X107 hx (hb hby at_482) (z := (1 : Int32)) rfl rfl ?_
           refine Run.x_goto (q := 487) X107 hx (hb hby at_483) (by decide) (by decide) ?_
           exact J487 _ (own_b1 hc479).symm
         refine Run.x_iload (q := 453) X107 hx (hb hby at_451) rfl rfl ?_
         by_cases hc453 : d = (0 : Int32)
         ·skip
          refine Run.x_ifYes (q := 467) X107 hx (hb hby at_453) ((if0 _ _).trans (teq hc453).1) (by decide) (by decide) ?_
          refine Run.x_iconst (q := 468) X107 hx (hb hby at_467) (z := (1 : Int32)) rfl rfl ?_
          refine Run.x_goto (q := 472) X107 hx (hb hby at_468) (by decide) (by decide) ?_
          exact absurd hc453 (own_d0 hd1)
         ·skip
          refine Run.x_ifNo (q := 456) X107 hx (hb hby at_453) ((if0 _ _).trans (feq hc453).1) rfl ?_
          refine Run.x_iload (q := 458) X107 hx (hb hby at_456) rfl rfl ?_
          refine Run.x_iconst (q := 459) X107 hx (hb hby at_458) (z := (1 : Int32)) rfl rfl ?_
          by_cases hc459 : d = (1 : Int32)
          ·skip
           refine Run.x_icmpNo (q := 462) X107 hx (hb hby at_459) (teq hc459).2 rfl ?_
           refine Run.x_iload (q := 464) X107 hx (hb hby at_462) rfl rfl ?_
           refine Run.x_ifNo (q := 467) X107 hx (hb hby at_464) ((if0 _ _).trans (feq (by decide : ¬ ((1 : Int32) = (0 : Int32)))).1) rfl ?_
           refine Run.x_iconst (q := 468) X107 hx (hb hby at_467) (z := (1 : Int32)) rfl rfl ?_
           refine Run.x_goto (q := 472) X107 hx (hb hby at_468) (by decide) (by decide) ?_
           exact J472 _ (own_b1 (by rw [hc459]; decide)).symm
          ·skip
           refine Run.x_icmpYes (q := 471) X107 hx (hb hby at_459) (feq hc459).2 (by decide) (by decide) ?_
           refine Run.x_iconst (q := 472) X107 hx (hb hby at_471) (z := (0 : Int32)) rfl rfl ?_
           exact J472 _ (own_b0 (own_dm1 hc459)).symm
        refine Run.x_iloadN (q := 437) X106 hx (hb hby at_436) rfl rfl ?_
        refine Run.x_bipush (q := 439) X106 hx (hb hby at_437) (z := (64 : Int32)) rfl rfl ?_
        refine Run.x_iand (q := 440) X106 hx (hb hby at_439) rfl rfl ?_
        by_cases hc440 : (p1 &&& (64 : Int32)) = (0 : Int32)
        ·skip
         refine Run.x_ifYes (q := 447) X106 hx (hb hby at_440) ((if0 _ _).trans (teq hc440).1) (by decide) (by decide) ?_
         refine Run.x_iconst (q := 448) X106 hx (hb hby at_447) (z := (0 : Int32)) rfl rfl ?_
         exact J448 _ (own_b0 (fun h => h hc440)).symm
        ·skip
         refine Run.x_ifNo (q := 443) X106 hx (hb hby at_440) ((if0 _ _).trans (feq hc440).1) rfl ?_
         refine Run.x_iconst (q := 444) X106 hx (hb hby at_443) (z := (1 : Int32)) rfl rfl ?_
         refine Run.x_goto (q := 448) X106 hx (hb hby at_444) (by decide) (by decide) ?_
         exact J448 _ (own_b1 hc440).symm
       refine Run.x_iloadN (q := 425) X106 hx (hb hby at_424) rfl rfl ?_
       refine Run.x_bipush (q := 427) X106 hx (hb hby at_425) (z := (32 : Int32)) rfl rfl ?_
       refine Run.x_iand (q := 428) X106 hx (hb hby at_427) rfl rfl ?_
       by_cases hc428 : (p1 &&& (32 : Int32)) = (0 : Int32)
       ·skip
        refine Run.x_ifYes (q := 435) X106 hx (hb hby at_428) ((if0 _ _).trans (teq hc428).1) (by decide) (by decide) ?_
        refine Run.x_iconst (q := 436) X106 hx (hb hby at_435) (z := (0 : Int32)) rfl rfl ?_
        exact J436 _ (own_b0 (fun h => h hc428)).symm
       ·skip
        refine Run.x_ifNo (q := 431) X106 hx (hb hby at_428) ((if0 _ _).trans (feq hc428).1) rfl ?_
        refine Run.x_iconst (q := 432) X106 hx (hb hby at_431) (z := (1 : Int32)) rfl rfl ?_
        refine Run.x_goto (q := 436) X106 hx (hb hby at_432) (by decide) (by decide) ?_
        exact J436 _ (own_b1 hc428).symm
      refine Run.x_iloadN (q := 399) X105 hx (hb hby at_398) rfl rfl ?_
      refine Run.x_bipush (q := 401) X105 hx (hb hby at_399) (z := (16 : Int32)) rfl rfl ?_
      refine Run.x_iand (q := 402) X105 hx (hb hby at_401) rfl rfl ?_
      by_cases hc402 : (p1 &&& (16 : Int32)) = (0 : Int32)
      ·skip
       refine Run.x_ifYes (q := 409) X105 hx (hb hby at_402) ((if0 _ _).trans (teq hc402).1) (by decide) (by decide) ?_
       refine Run.x_iconst (q := 410) X105 hx (hb hby at_409) (z := (0 : Int32)) rfl rfl ?_
       exact J410 _ (own_b0 (fun h => h hc402)).symm
      ·skip
       refine Run.x_ifNo (q := 405) X105 hx (hb hby at_402) ((if0 _ _).trans (feq hc402).1) rfl ?_
       refine Run.x_iconst (q := 406) X105 hx (hb hby at_405) (z := (1 : Int32)) rfl rfl ?_
       refine Run.x_goto (q := 410) X105 hx (hb hby at_406) (by decide) (by decide) ?_
       exact J410 _ (own_b1 hc402).symm
     refine Run.x_iloadN (q := 387) X105 hx (hb hby at_386) rfl rfl ?_
     refine Run.x_bipush (q := 389) X105 hx (hb hby at_387) (z := (8 : Int32)) rfl rfl ?_
     refine Run.x_iand (q := 390) X105 hx (hb hby at_389) rfl rfl ?_
     by_cases hc390 : (p1 &&& (8 : Int32)) = (0 : Int32)
     ·skip
      refine Run.x_ifYes (q := 397) X105 hx (hb hby at_390) ((if0 _ _).trans (teq hc390).1) (by decide) (by decide) ?_
      refine Run.x_iconst (q := 398) X105 hx (hb hby at_397) (z := (0 : Int32)) rfl rfl ?_
      exact J398 _ (own_b0 (fun h => h hc390)).symm
     ·skip
      refine Run.x_ifNo (q := 393) X105 hx (hb hby at_390) ((if0 _ _).trans (feq hc390).1) rfl ?_
      refine Run.x_iconst (q := 394) X105 hx (hb hby at_393) (z := (1 : Int32)) rfl rfl ?_
      refine Run.x_goto (q := 398) X105 hx (hb hby at_394) (by decide) (by decide) ?_
      exact J398 _ (own_b1 hc390).symm
   refine Run.x_iloadN (q := 282) X80 hx (hb hby at_281) rfl rfl ?_
   refine Run.x_iconst (q := 283) X80 hx (hb hby at_282) (z := (4 : Int32)) rfl rfl ?_
   refine Run.x_iand (q := 284) X80 hx (hb hby at_283) rfl rfl ?_
   by_cases hc284 : (p1 &&& (4 : Int32)) = (0 : Int32)
   ·skip
    refine Run.x_ifYes (q := 297) X80 hx (hb hby at_284) ((if0 _ _).trans (teq hc284).1) (by decide) (by decide) ?_
    refine Run.x_iconst (q := 298) X80 hx (hb hby at_297) (z := (0 : Int32)) rfl rfl ?_
    exact J298 _ (Or.inl rfl)
   ·skip
    refine Run.x_ifNo (q := 287) X80 hx (hb hby at_284) ((if0 _ _).trans (feq hc284).1) rfl ?_
    refine Run.x_iload (q := 289) X80 hx (hb hby at_287) rfl rfl ?_
    refine Run.x_iconst (q := 290) X80 hx (hb hby at_289) (z := (1 : Int32)) rfl rfl ?_
    by_cases hc290 : d < (1 : Int32)
    ·skip
     refine Run.x_icmpYes (q := 297) X80 hx (hb hby at_290) (tlt hc290).1 (by decide) (by decide) ?_
     refine Run.x_iconst (q := 298) X80 hx (hb hby at_297) (z := (0 : Int32)) rfl rfl ?_
     exact J298 _ (Or.inl rfl)
    ·skip
     refine Run.x_icmpNo (q := 293) X80 hx (hb hby at_290) (flt hc290).1 rfl ?_
     refine Run.x_iconst (q := 294) X80 hx (hb hby at_293) (z := (1 : Int32)) rfl rfl ?_
     refine Run.x_goto (q := 298) X80 hx (hb hby at_294) (by decide) (by decide) ?_
     exact J298 _ (Or.inr ⟨rfl, hc290⟩)
set_option maxRecDepth 65536 in
set_option maxHeartbeats 40000000 in
theorem comes_1 {Post : Tables → Env → Array Value → State → Outcome → State → Prop} (hpost : ∀ tb e args s v u, (limb_1_1.after args s (.returned v) u = true ∧ limb_1_2.after args s (.returned v) u = true ∧ True) → FrameEnd s (.returned v) u (Jvm.fieldLocs frame_1_writes args s ++ Jvm.arrayLocs frame_1_arrays args s ++ Jvm.staticLocs frame_1_statics s) 24 384 → Post tb e args s (.returned v) u) :
    ArmFor flags0 classFile x code maxLocals ret World_1 tables_1 room_1 Calls_1 rest_1 Pre_1 Post := by
  intro l hfl _ _ p e ha hc hk s m args below hf hA hF happ hP
  obtain ⟨hcalls, hrest, hpre⟩ := hP
  obtain ⟨-, -, -, hnamed, -, -, -, hat⟩ := (Spec.applies_iff hf).mp happ
  obtain ⟨hg, hn⟩ := and_e (Cond.before_iff.mp (show (Jvm.Cond.and given_1 narrow_1).before args s = true from hpre))
  obtain ⟨g1, g2⟩ := and_e hg
  obtain ⟨g3, g4⟩ := and_e g2
  obtain ⟨g5, g6⟩ := and_e g4
  obtain ⟨g7, g8⟩ := and_e g6
  obtain ⟨g9, g10⟩ := and_e g8
  obtain ⟨w0, w1, w2, w3, w4, rfl⟩ : ∃ w0 w1 w2 w3 w4 : Value, args = #[w0, w1, w2, w3, w4] := by
    have hs : args.size = 5 := by simpa [Cond.value, given_1] using g1
    obtain ⟨L⟩ := args
    match L, hs with
    | [w0, w1, w2, w3, w4], _ => exact ⟨w0, w1, w2, w3, w4, rfl⟩
  have hw := fun d (hd : d ∈ tables_1) => atoms_spec (ws := Jvm.Cond.code x code maxLocals ret :: tables_1) hat d (List.mem_cons_of_mem _ hd)
  have hfit : Fit s := fun {y c} hc i hi => by
    obtain ⟨ha, rfl⟩ := Array.getElem?_eq_some_iff.mp hc
    have q := List.all_eq_true.mp ((Array.all_eq_true_iff_forall_mem.mp hF) _ (Array.getElem_mem ha)) i (List.mem_range.mpr hi)
    simpa [Array.getElem?_eq_getElem hi] using q
  obtain ⟨i0, ei0⟩ := is_v g3
  obtain rfl : w0 = (.int i0) := Option.some.inj ei0
  obtain ⟨i1, ei1⟩ := is_v g5
  obtain rfl : w1 = (.int i1) := Option.some.inj ei1
  obtain ⟨i2, ei2⟩ := is_v g7
  obtain rfl : w2 = (.int i2) := Option.some.inj ei2
  obtain ⟨i3, ei3⟩ := is_v g9
  obtain rfl : w3 = (.int i3) := Option.some.inj ei3
  obtain ⟨i4, ei4⟩ := is_v g10
  obtain rfl : w4 = (.int i4) := Option.some.inj ei4
  obtain ⟨n, o, h1, h2, h3, _, L, rfl, ⟨rfl, N⟩, hq⟩ := c_law l s _ hw i0 i1 i2 i3 i4 s.heap s.heap.size (Nat.le_refl _)  tables_1 p e ha hc hk s m _ below hf ((Spec.applies_iff_loose hf).mp happ).1 ⟨rfl, State.Warmed39.refl s, rfl⟩ trivial
  refine ⟨n, _, h1, h2, h3, hpost _ _ _ _ _ _ ⟨Cond.after_iff.mpr rfl, Cond.after_iff.mpr (eq_i res_at (Term.int_eval (1)) rfl), trivial⟩ ⟨hq.1, hq.2.1, (hq.2.2.sift fun y hy => Or.inr (N y hy)).mono (by decide) (by decide)⟩⟩
theorem main_1_1 : Claimed_1_1 := comes_1 fun _ _ _ _ _ _ h hF => ⟨h.1, hF⟩
theorem main_1_2 : Claimed_1_2 := comes_1 fun _ _ _ _ _ _ h hF => ⟨h.2.1, hF⟩
end Jvm.Pilot.@@N@@
namespace Jvm.Pilot.@@N@@
open Jvm Jvm.ClassFile Sem Op Lib Jvm.Free Jvm.Stand Jvm.Pilot.@@N@@.Jvm.D
/-! MADE BY PROGRAM (witnessworld.py) out of the Statement's table words and the real class files: 11 classes; the members and pool entries that the words name. The judged class is class 1, her method 1. -/
namespace start1
open Jvm.ClassFile
def u (s : String) : CpInfo := .utf8 (stringToUtf16 s)
/-- a pool by its gaps: so many unusable entries, then the entry; so many at the end -/
def gap : Nat → List CpInfo → List CpInfo
  | 0, r => r
  | n + 1, r => .unusable :: gap n r
def poolList (es : List (Nat × CpInfo)) (last : Nat) : List CpInfo := es.foldr (fun e r => gap e.1 (e.2 :: r)) (gap last [])
def pool (es : List (Nat × CpInfo)) (last : Nat) : Array CpInfo := ⟨poolList es last⟩
def fileOf (pool : Array CpInfo) (this : Nat) (attrs : Array Attribute := #[]) (ms : Array MethodInfo := #[]) (fl : Nat := 33) (sup : Nat := 0) (ifs : Array Nat := #[]) (fds : Array FieldInfo := #[]) : ClassFile where
  minorVersion := 0
  majorVersion := 65
  constantPool := pool
  accessFlags := fl
  thisClass := this
  superClass := sup
  interfaces := ifs
  fields := fds
  methods := ms
  attributes := attrs
def plain (name : String) (sup : Option ClassId) : Class where
  name := name
  kind := .ordinary
  loader := none
  accessFlags := 33
  super := sup
  interfaces := #[]
  cf := none
  fields := #[]
  methods := #[]
  instanceTypes := #[]
  staticTypes := #[]
  resolved := #[]
  callSites := []
  init := .initialized
  statics := none
  mirror := none

def pool0 : Array CpInfo := pool [(5, u "<init>"), (0, u "()V"), (1, .class_ 10), (1, u "java/lang/Object")] 113

def k0c0 : Code := { maxStack := 0, maxLocals := 1, code := object_method_1_code, exceptionTable := #[], attributes := #[] }
def k0m0 : Method := { name := "<init>", desc := "()V", sig := { parameters := [], returnType := none }, accessFlags := 1, code := some k0c0 }
/-- java/lang/Object -/
def k0 : Class := { plain "java/lang/Object" none with
  accessFlags := 33
  interfaces := #[]
  cf := some (fileOf pool0 8 #[] #[{ accessFlags := 1, nameIndex := 5, descriptorIndex := 6, attributes := #[] }] 33 0 #[] #[])
  fields := #[]
  methods := #[k0m0]
  instanceTypes := #[]
  staticTypes := #[]
  resolved := Array.replicate 124 none
  statics := none }

def pool1 : Array CpInfo := pool [(2, .class_ 4), (1, u "java/lang/Object"), (0, u "<init>"), (0, u "()V"), (0, .class_ 8), (0, u "semblance/JpegScans"), (0, .methodref 7 10), (0, .nameAndType 5 11), (0, u "(ZI)V"), (0, .methodref 13 14), (0, .class_ 15), (0, .nameAndType 16 17), (0, u "semblance/JpegScansCompletePinLaw"), (0, u "list"), (0, u "(II)[I"), (0, .methodref 7 19), (0, .nameAndType 20 21), (0, u "take"), (0, u "([IIIII)Z"), (0, .methodref 13 23), (0, .nameAndType 24 25), (0, u "ones"), (0, u "(II)I"), (0, .methodref 7 27), (0, .nameAndType 28 29), (0, u "complete"), (0, u "()Z"), (0, .integer 2147483647), (0, .methodref 13 32), (0, .nameAndType 33 34), (0, u "send"), (0, u "(Lsemblance/JpegScans;[IIZZ)V"), (0, .methodref 13 36), (0, .nameAndType 37 38), (0, u "done"), (0, u "(IZZ)Z"), (0, .methodref 13 40), (0, .nameAndType 41 42), (0, u "entry"), (0, u "(III)I"), (0, .integer 65535), (0, .methodref 13 45), (0, .nameAndType 46 47), (0, u "end"), (0, u "(I)I"), (0, .methodref 13 49), (0, .nameAndType 50 47), (0, u "bitA"), (0, .methodref 13 52), (0, .nameAndType 53 47), (0, u "bitB"), (2, u "law"), (0, u "(IIIII)Z")] 8

def k1m0 : Method := { name := "<init>", desc := "()V", sig := { parameters := [], returnType := none }, accessFlags := 1, code := none }
def k1c1 : Code := { maxStack := 7, maxLocals := 18, code := code, exceptionTable := #[], attributes := #[] }
def k1m1 : Method := { name := "law", desc := "(IIIII)Z", sig := { parameters := [.int, .int, .int, .int, .int], returnType := some .boolean }, accessFlags := 9, code := some k1c1 }
def k1c2 : Code := { maxStack := 3, maxLocals := 3, code := method_3_code, exceptionTable := #[], attributes := #[] }
def k1m2 : Method := { name := "entry", desc := "(III)I", sig := { parameters := [.int, .int, .int], returnType := some .int }, accessFlags := 10, code := some k1c2 }
def k1c3 : Code := { maxStack := 5, maxLocals := 4, code := method_4_code, exceptionTable := #[], attributes := #[] }
def k1m3 : Method := { name := "list", desc := "(II)[I", sig := { parameters := [.int, .int], returnType := some (.array .int) }, accessFlags := 10, code := some k1c3 }
def k1c4 : Code := { maxStack := 4, maxLocals := 4, code := method_5_code, exceptionTable := #[], attributes := #[] }
def k1m4 : Method := { name := "ones", desc := "(II)I", sig := { parameters := [.int, .int], returnType := some .int }, accessFlags := 10, code := some k1c4 }
def k1c5 : Code := { maxStack := 3, maxLocals := 1, code := method_6_code, exceptionTable := #[], attributes := #[] }
def k1m5 : Method := { name := "end", desc := "(I)I", sig := { parameters := [.int], returnType := some .int }, accessFlags := 10, code := some k1c5 }
def k1c6 : Code := { maxStack := 2, maxLocals := 1, code := method_7_code, exceptionTable := #[], attributes := #[] }
def k1m6 : Method := { name := "bitA", desc := "(I)I", sig := { parameters := [.int], returnType := some .int }, accessFlags := 10, code := some k1c6 }
def k1c7 : Code := { maxStack := 2, maxLocals := 1, code := method_8_code, exceptionTable := #[], attributes := #[] }
def k1m7 : Method := { name := "bitB", desc := "(I)I", sig := { parameters := [.int], returnType := some .int }, accessFlags := 10, code := some k1c7 }
def k1c8 : Code := { maxStack := 7, maxLocals := 8, code := method_9_code, exceptionTable := #[], attributes := #[] }
def k1m8 : Method := { name := "send", desc := "(Lsemblance/JpegScans;[IIZZ)V", sig := { parameters := [(.object "semblance/JpegScans"), (.array .int), .int, .boolean, .boolean], returnType := none }, accessFlags := 10, code := some k1c8 }
def k1c9 : Code := { maxStack := 2, maxLocals := 8, code := method_10_code, exceptionTable := #[], attributes := #[] }
def k1m9 : Method := { name := "done", desc := "(IZZ)Z", sig := { parameters := [.int, .boolean, .boolean], returnType := some .boolean }, accessFlags := 10, code := some k1c9 }
/-- semblance/JpegScansCompletePinLaw -/
def k1 : Class := { plain "semblance/JpegScansCompletePinLaw" (some 0) with
  accessFlags := 49
  interfaces := #[]
  cf := some (fileOf pool1 13 #[] #[{ accessFlags := 1, nameIndex := 5, descriptorIndex := 6, attributes := #[] }, { accessFlags := 9, nameIndex := 56, descriptorIndex := 57, attributes := #[] }, { accessFlags := 10, nameIndex := 41, descriptorIndex := 42, attributes := #[] }, { accessFlags := 10, nameIndex := 16, descriptorIndex := 17, attributes := #[] }, { accessFlags := 10, nameIndex := 24, descriptorIndex := 25, attributes := #[] }, { accessFlags := 10, nameIndex := 46, descriptorIndex := 47, attributes := #[] }, { accessFlags := 10, nameIndex := 50, descriptorIndex := 47, attributes := #[] }, { accessFlags := 10, nameIndex := 53, descriptorIndex := 47, attributes := #[] }, { accessFlags := 10, nameIndex := 33, descriptorIndex := 34, attributes := #[] }, { accessFlags := 10, nameIndex := 37, descriptorIndex := 38, attributes := #[] }] 49 2 #[] #[])
  fields := #[]
  methods := #[k1m0, k1m1, k1m2, k1m3, k1m4, k1m5, k1m6, k1m7, k1m8, k1m9]
  instanceTypes := #[]
  staticTypes := #[]
  resolved := Array.replicate 66 none
  statics := none }

def pool2 : Array CpInfo := pool [(1, .methodref 2 3), (0, .class_ 4), (0, .nameAndType 5 6), (0, u "java/lang/Object"), (0, u "<init>"), (0, u "()V"), (0, .fieldref 8 9), (0, .class_ 10), (0, .nameAndType 11 12), (0, u "semblance/JpegScans"), (0, u "progressive"), (0, u "Z"), (0, .fieldref 8 14), (0, .nameAndType 15 16), (0, u "components"), (0, u "I"), (0, .class_ 18), (0, u "[[I"), (0, .fieldref 8 20), (0, .nameAndType 21 18), (0, u "sentTo"), (0, .methodref 23 24), (0, .class_ 25), (0, .nameAndType 26 27), (0, u "java/util/Arrays"), (0, u "fill"), (0, u "([II)V"), (0, .fieldref 8 29), (0, .nameAndType 30 16), (0, u "count"), (7, .fieldref 8 39), (0, .nameAndType 40 12), (0, u "sentAgain"), (8, .methodref 50 51), (0, .class_ 52), (0, .nameAndType 53 54), (0, u "java/lang/Math"), (0, u "max"), (0, u "(II)I"), (3, u "MAX_SCANS"), (2, u "COEFFICIENTS"), (1, u "HIGHEST_BIT"), (1, u "(ZI)V"), (3, u "take"), (0, u "([IIIII)Z"), (3, u "complete"), (0, u "()Z")] 19

def k2c0 : Code := { maxStack := 3, maxLocals := 7, code := prog_41_method_1_code, exceptionTable := #[], attributes := #[] }
def k2m0 : Method := { name := "<init>", desc := "(ZI)V", sig := { parameters := [.boolean, .int], returnType := none }, accessFlags := 0, code := some k2c0 }
def k2c1 : Code := { maxStack := 7, maxLocals := 13, code := prog_41_method_2_code, exceptionTable := #[], attributes := #[] }
def k2m1 : Method := { name := "take", desc := "([IIIII)Z", sig := { parameters := [(.array .int), .int, .int, .int, .int], returnType := some .boolean }, accessFlags := 0, code := some k2c1 }
def k2c2 : Code := { maxStack := 2, maxLocals := 9, code := prog_41_method_3_code, exceptionTable := #[], attributes := #[] }
def k2m2 : Method := { name := "complete", desc := "()Z", sig := { parameters := [], returnType := some .boolean }, accessFlags := 0, code := some k2c2 }
/-- semblance/JpegScans -/
def k2 : Class := { plain "semblance/JpegScans" (some 0) with
  accessFlags := 48
  interfaces := #[]
  cf := some (fileOf pool2 8 #[] #[{ accessFlags := 0, nameIndex := 5, descriptorIndex := 65, attributes := #[] }, { accessFlags := 0, nameIndex := 69, descriptorIndex := 70, attributes := #[] }, { accessFlags := 0, nameIndex := 74, descriptorIndex := 75, attributes := #[] }] 48 2 #[] #[{ accessFlags := 24, nameIndex := 58, descriptorIndex := 16, attributes := #[] }, { accessFlags := 26, nameIndex := 61, descriptorIndex := 16, attributes := #[] }, { accessFlags := 26, nameIndex := 63, descriptorIndex := 16, attributes := #[] }, { accessFlags := 18, nameIndex := 11, descriptorIndex := 12, attributes := #[] }, { accessFlags := 18, nameIndex := 15, descriptorIndex := 16, attributes := #[] }, { accessFlags := 18, nameIndex := 21, descriptorIndex := 18, attributes := #[] }, { accessFlags := 2, nameIndex := 30, descriptorIndex := 16, attributes := #[] }, { accessFlags := 2, nameIndex := 40, descriptorIndex := 12, attributes := #[] }])
  fields := #[{ name := "MAX_SCANS", type := .int, accessFlags := 24, slot := 0, constantValue := 0 }, { name := "COEFFICIENTS", type := .int, accessFlags := 26, slot := 1, constantValue := 0 }, { name := "HIGHEST_BIT", type := .int, accessFlags := 26, slot := 2, constantValue := 0 }, { name := "progressive", type := .boolean, accessFlags := 18, slot := 0, constantValue := 0 }, { name := "components", type := .int, accessFlags := 18, slot := 1, constantValue := 0 }, { name := "sentTo", type := (.array (.array .int)), accessFlags := 18, slot := 2, constantValue := 0 }, { name := "count", type := .int, accessFlags := 2, slot := 3, constantValue := 0 }, { name := "sentAgain", type := .boolean, accessFlags := 2, slot := 4, constantValue := 0 }]
  methods := #[k2m0, k2m1, k2m2]
  instanceTypes := #[.boolean, .int, (.array (.array .int)), .int, .boolean]
  staticTypes := #[.int, .int, .int]
  resolved := Array.replicate 95 none
  statics := none }

def pool3 : Array CpInfo := pool [(2, .class_ 4), (1, u "java/lang/Object"), (0, u "<init>"), (0, u "()V"), (7, .class_ 16), (1, u "java/util/Arrays"), (57, .class_ 76), (1, u "java/util/Arrays$NaturalOrder"), (36, .class_ 115), (1, u "java/util/Arrays$LegacyMergeSort"), (1, u "Z"), (257, .class_ 376), (0, u "java/util/Arrays$ArrayList"), (68, u "$assertionsDisabled"), (269, u "MIN_ARRAY_SORT_GRAN"), (0, u "I"), (2, u "INSERTIONSORT_THRESHOLD"), (120, u "fill"), (4, u "([II)V"), (129, .class_ 976), (0, u "java/util/Arrays$ArrayItr")] 52

def k3m0 : Method := { name := "<init>", desc := "()V", sig := { parameters := [], returnType := none }, accessFlags := 2, code := none }
def k3c1 : Code := { maxStack := 3, maxLocals := 4, code := jdk_65_method_103_code, exceptionTable := #[], attributes := #[] }
def k3m1 : Method := { name := "fill", desc := "([II)V", sig := { parameters := [(.array .int), .int], returnType := none }, accessFlags := 9, code := some k3c1 }
/-- java/util/Arrays -/
def k3 : Class := { plain "java/util/Arrays" (some 0) with
  accessFlags := 49
  interfaces := #[]
  cf := some (fileOf pool3 14 #[.nestMembers #[975, 375, 113, 74]] #[{ accessFlags := 2, nameIndex := 5, descriptorIndex := 6, attributes := #[] }, { accessFlags := 9, nameIndex := 840, descriptorIndex := 845, attributes := #[] }] 49 2 #[] #[{ accessFlags := 26, nameIndex := 715, descriptorIndex := 716, attributes := #[] }, { accessFlags := 26, nameIndex := 719, descriptorIndex := 716, attributes := #[] }, { accessFlags := 4120, nameIndex := 445, descriptorIndex := 117, attributes := #[] }])
  fields := #[{ name := "MIN_ARRAY_SORT_GRAN", type := .int, accessFlags := 26, slot := 0, constantValue := 0 }, { name := "INSERTIONSORT_THRESHOLD", type := .int, accessFlags := 26, slot := 1, constantValue := 0 }, { name := "$assertionsDisabled", type := .boolean, accessFlags := 4120, slot := 2, constantValue := 0 }]
  methods := #[k3m0, k3m1]
  instanceTypes := #[]
  staticTypes := #[.int, .int, .boolean]
  resolved := Array.replicate 1029 none
  statics := none }

def pool4 : Array CpInfo := pool [(1, .class_ 2), (0, u "java/lang/Math"), (1, .class_ 6), (1, u "java/lang/Object"), (0, u "<init>"), (0, u "()V"), (89, .class_ 100), (1, u "java/lang/Math$RandomNumberGeneratorHolder"), (71, u "negativeZeroFloatBits"), (0, u "J"), (2, u "negativeZeroDoubleBits"), (21, u "max"), (46, u "$assertionsDisabled"), (0, u "Z"), (88, u "(II)I"), (2, u "twoToTheDoubleScaleDown"), (0, u "D"), (4, u "twoToTheDoubleScaleUp"), (9, u "E"), (3, u "PI"), (2, u "TAU"), (2, u "DEGREES_TO_RADIANS"), (0, u "RADIANS_TO_DEGREES")] 94

def k4m0 : Method := { name := "<init>", desc := "()V", sig := { parameters := [], returnType := none }, accessFlags := 2, code := none }
def k4c1 : Code := { maxStack := 2, maxLocals := 2, code := jdk_29_method_65_code, exceptionTable := #[], attributes := #[] }
def k4m1 : Method := { name := "max", desc := "(II)I", sig := { parameters := [.int, .int], returnType := some .int }, accessFlags := 9, code := some k4c1 }
/-- java/lang/Math -/
def k4 : Class := { plain "java/lang/Math" (some 0) with
  accessFlags := 49
  interfaces := #[]
  cf := some (fileOf pool4 1 #[.nestMembers #[98]] #[{ accessFlags := 2, nameIndex := 7, descriptorIndex := 8, attributes := #[] }, { accessFlags := 9, nameIndex := 198, descriptorIndex := 335, attributes := #[] }] 49 4 #[] #[{ accessFlags := 25, nameIndex := 354, descriptorIndex := 339, attributes := #[] }, { accessFlags := 25, nameIndex := 358, descriptorIndex := 339, attributes := #[] }, { accessFlags := 25, nameIndex := 361, descriptorIndex := 339, attributes := #[] }, { accessFlags := 26, nameIndex := 364, descriptorIndex := 339, attributes := #[] }, { accessFlags := 26, nameIndex := 365, descriptorIndex := 339, attributes := #[] }, { accessFlags := 26, nameIndex := 172, descriptorIndex := 173, attributes := #[] }, { accessFlags := 26, nameIndex := 176, descriptorIndex := 173, attributes := #[] }, { accessFlags := 8, nameIndex := 344, descriptorIndex := 339, attributes := #[] }, { accessFlags := 8, nameIndex := 338, descriptorIndex := 339, attributes := #[] }, { accessFlags := 4120, nameIndex := 245, descriptorIndex := 246, attributes := #[] }])
  fields := #[{ name := "E", type := .double, accessFlags := 25, slot := 0, constantValue := 0 }, { name := "PI", type := .double, accessFlags := 25, slot := 1, constantValue := 0 }, { name := "TAU", type := .double, accessFlags := 25, slot := 2, constantValue := 0 }, { name := "DEGREES_TO_RADIANS", type := .double, accessFlags := 26, slot := 3, constantValue := 0 }, { name := "RADIANS_TO_DEGREES", type := .double, accessFlags := 26, slot := 4, constantValue := 0 }, { name := "negativeZeroFloatBits", type := .long, accessFlags := 26, slot := 5, constantValue := 0 }, { name := "negativeZeroDoubleBits", type := .long, accessFlags := 26, slot := 6, constantValue := 0 }, { name := "twoToTheDoubleScaleUp", type := .double, accessFlags := 8, slot := 7, constantValue := 0 }, { name := "twoToTheDoubleScaleDown", type := .double, accessFlags := 8, slot := 8, constantValue := 0 }, { name := "$assertionsDisabled", type := .boolean, accessFlags := 4120, slot := 9, constantValue := 0 }]
  methods := #[k4m0, k4m1]
  instanceTypes := #[]
  staticTypes := #[.double, .double, .double, .double, .double, .long, .long, .double, .double, .boolean]
  resolved := Array.replicate 460 none
  statics := none }

def pool5 : Array CpInfo := pool [(1, u "java/lang/Cloneable"), (0, .class_ 1), (0, u "java/lang/Object"), (0, .class_ 3)] 3

/-- java/lang/Cloneable -/
def k5 : Class := { plain "java/lang/Cloneable" (some 0) with
  accessFlags := 1537
  interfaces := #[]
  cf := some (fileOf pool5 2 #[] #[] 1537 4 #[] #[])
  fields := #[]
  methods := #[]
  instanceTypes := #[]
  staticTypes := #[]
  resolved := Array.replicate 8 none
  statics := none }

def pool6 : Array CpInfo := pool [(1, u "java/io/Serializable"), (0, .class_ 1), (0, u "java/lang/Object"), (0, .class_ 3)] 3

/-- java/io/Serializable -/
def k6 : Class := { plain "java/io/Serializable" (some 0) with
  accessFlags := 1537
  interfaces := #[]
  cf := some (fileOf pool6 2 #[] #[] 1537 4 #[] #[])
  fields := #[]
  methods := #[]
  instanceTypes := #[]
  staticTypes := #[]
  resolved := Array.replicate 8 none
  statics := none }

/-- the primitive byte -/
def k7 : Class := { plain "byte" none with kind := .primitive 'B', accessFlags := 0x411 }
/-- [B -/
def k8 : Class := { plain "[B" (some 0) with kind := .array 7 .byte, interfaces := #[5, 6], accessFlags := 1041 }

/-- the primitive int -/
def k9 : Class := { plain "int" none with kind := .primitive 'I', accessFlags := 0x411 }
/-- [I -/
def k10 : Class := { plain "[I" (some 0) with kind := .array 9 .int, interfaces := #[5, 6], accessFlags := 1041 }

/-- [[I -/
def k11 : Class := { plain "[[I" (some 0) with kind := .array 10 (.array .int), interfaces := #[5, 6], accessFlags := 1041 }
def heap : Heap := #[]
def classes : Array Class := #[k0, k1, k2, k3, k4, k5, k6, k7, k8, k9, k10, k11]
def interned : List (Array UInt16 × Addr) := []
def slotsUsed : Nat := 0
def theMethod : MethodId := ⟨1, 1⟩
def args0 : Array Value := #[.int 7, .int 3, .int 65, .int 129, .int 5]
def aboutOver (below : List Frame) : State where
  vm := { classes := classes, interned := interned.toArray }
  heap := heap
  slotsUsed := slotsUsed
  threads := #[{ frames := .invoking theMethod args0 :: below }]
def below0 : List Frame := [.native { method := ⟨0, 0⟩, args := #[] }]
def about1 : State := aboutOver below0
def p0 : Program := .bare "" "" ""
def e0 : Env := launch0.env 0 0 0
theorem w_frames : about1.frames = Frame.invoking theMethod args0 :: below0 := rfl
set_option maxRecDepth 65536 in
theorem w_args : argsFit about1.vm theMethod args0 = true := by decide +kernel
set_option maxRecDepth 65536 in
theorem w_heap : heapFits about1 = true := by decide +kernel
set_option maxRecDepth 65536 in
theorem w_runnable : about1.curStatus? = some .runnable := by decide +kernel
set_option maxRecDepth 65536 in
theorem w_alone : about1.alone = true := by decide +kernel
set_option maxRecDepth 65536 in
theorem w_named : about1.methodNamed? x = some theMethod := by decide +kernel
set_option maxRecDepth 65536 in
theorem w_hears : about1.hears theMethod below0 = true := by decide +kernel
set_option maxRecDepth 65536 in
theorem w_ripe : about1.ripe theMethod args0 below0 = true := by decide +kernel
theorem w_running : about1.status = .running := rfl
set_option maxRecDepth 65536 in
theorem w_room : about1.hasRoom e0.platform room_1 = true :=
  launch0.hasRoom_least _ room_1 (by decide +kernel) (by decide +kernel) (by decide +kernel) (by decide +kernel) (by decide +kernel) (by decide +kernel)
theorem allAtoms_all (ts : List Jvm.Cond) (a : Array Jvm.Value) (st : Jvm.State) : (allAtoms ts).before a st = ts.all (fun c => c.before a st) := by
  induction ts with
  | nil => rfl
  | cons c t ih =>
    show (Jvm.Cond.and c (allAtoms t)).before a st = _
    rw [Jvm.Cond.before_and, ih, List.all_cons]
def words1 : List Jvm.Cond := Jvm.Cond.code x code maxLocals ret :: tables_1
/-- a 'code' word, met by the world's own term for the bytes: nothing is compared byte by byte -/
theorem code_word {y : MethodName} {bytes : ByteArray} {mx : Nat} {rt : Option FieldType} {a : Array Value} {s : State} {m : MethodId} {meth : Method} {c : Code} (h1 : s.methodNamed? y = some m) (h2 : s.vm.method? m = some meth) (h3 : meth.code = some c) (h4 : c.code = bytes)
    (h5 : (c.maxLocals == mx && c.exceptionTable.isEmpty && decide (c.maxStack ≤ mostOperands) && decide (meth.sig.returnType = rt) && !meth.locks && decide (parseMethodDescriptor y.desc = some meth.sig)) = true) : (Jvm.Cond.code y bytes mx rt).before a s = true := by
  simp only [Bool.and_eq_true, beq_iff_eq, Bool.not_eq_true', decide_eq_true_eq] at h5
  obtain ⟨⟨⟨⟨⟨g1, g2⟩, g3⟩, g4⟩, g5⟩, g6⟩ := h5
  simp [Cond.before, Cond.holds, Cond.value, h1, h2, h3, h4, g1, g2, g3, g4, g5, g6]
def isCode : Jvm.Cond → Bool
  | .code _ _ _ _ => true
  | _ => false
theorem all_split {L : List Jvm.Cond} {P : Jvm.Cond → Bool} (h1 : L.all (fun c => isCode c || P c) = true) (h2 : ∀ c ∈ L.filter isCode, P c = true) : L.all P = true := by
  refine List.all_eq_true.mpr fun c hc => ?_
  have h := List.all_eq_true.mp h1 c hc
  rcases Bool.eq_false_or_eq_true (isCode c) with hi | hi
  · exact h2 c (List.mem_filter.mpr ⟨hc, hi⟩)
  · simpa [hi] using h
set_option maxRecDepth 65536 in
theorem w_c0 : (Jvm.Cond.code x code maxLocals ret).before args0 about1 = true := code_word (m := ⟨1, 1⟩) (meth := k1m1) (c := k1c1) (by decide +kernel) rfl rfl rfl (by decide +kernel)
set_option maxRecDepth 65536 in
theorem w_c1 : (Jvm.Cond.code ({ cls := "semblance/JpegScans", name := "<init>", desc := "(ZI)V" } : Jvm.MethodName) prog_41_method_1_code (7 : Nat) (Option.none : Option Jvm.ClassFile.FieldType)).before args0 about1 = true := code_word (m := ⟨2, 0⟩) (meth := k2m0) (c := k2c0) (by decide +kernel) rfl rfl rfl (by decide +kernel)
set_option maxRecDepth 65536 in
theorem w_c2 : (Jvm.Cond.code ({ cls := "java/lang/Object", name := "<init>", desc := "()V" } : Jvm.MethodName) object_method_1_code (1 : Nat) (Option.none : Option Jvm.ClassFile.FieldType)).before args0 about1 = true := code_word (m := ⟨0, 0⟩) (meth := k0m0) (c := k0c0) (by decide +kernel) rfl rfl rfl (by decide +kernel)
set_option maxRecDepth 65536 in
theorem w_c3 : (Jvm.Cond.code ({ cls := "java/util/Arrays", name := "fill", desc := "([II)V" } : Jvm.MethodName) jdk_65_method_103_code (4 : Nat) (Option.none : Option Jvm.ClassFile.FieldType)).before args0 about1 = true := code_word (m := ⟨3, 1⟩) (meth := k3m1) (c := k3c1) (by decide +kernel) rfl rfl rfl (by decide +kernel)
set_option maxRecDepth 65536 in
theorem w_c4 : (Jvm.Cond.code ({ cls := "semblance/JpegScansCompletePinLaw", name := "list", desc := "(II)[I" } : Jvm.MethodName) method_4_code (4 : Nat) (Option.some (Jvm.ClassFile.FieldType.array Jvm.ClassFile.FieldType.int))).before args0 about1 = true := code_word (m := ⟨1, 3⟩) (meth := k1m3) (c := k1c3) (by decide +kernel) rfl rfl rfl (by decide +kernel)
set_option maxRecDepth 65536 in
theorem w_c5 : (Jvm.Cond.code ({ cls := "semblance/JpegScans", name := "complete", desc := "()Z" } : Jvm.MethodName) prog_41_method_3_code (9 : Nat) (Option.some Jvm.ClassFile.FieldType.boolean)).before args0 about1 = true := code_word (m := ⟨2, 2⟩) (meth := k2m2) (c := k2c2) (by decide +kernel) rfl rfl rfl (by decide +kernel)
set_option maxRecDepth 65536 in
theorem w_c6 : (Jvm.Cond.code ({ cls := "semblance/JpegScans", name := "take", desc := "([IIIII)Z" } : Jvm.MethodName) prog_41_method_2_code (13 : Nat) (Option.some Jvm.ClassFile.FieldType.boolean)).before args0 about1 = true := code_word (m := ⟨2, 1⟩) (meth := k2m1) (c := k2c1) (by decide +kernel) rfl rfl rfl (by decide +kernel)
set_option maxRecDepth 65536 in
theorem w_c7 : (Jvm.Cond.code ({ cls := "java/lang/Math", name := "max", desc := "(II)I" } : Jvm.MethodName) jdk_29_method_65_code (2 : Nat) (Option.some Jvm.ClassFile.FieldType.int)).before args0 about1 = true := code_word (m := ⟨4, 1⟩) (meth := k4m1) (c := k4c1) (by decide +kernel) rfl rfl rfl (by decide +kernel)
set_option maxRecDepth 65536 in
theorem w_c8 : (Jvm.Cond.code ({ cls := "semblance/JpegScansCompletePinLaw", name := "send", desc := "(Lsemblance/JpegScans;[IIZZ)V" } : Jvm.MethodName) method_9_code (8 : Nat) (Option.none : Option Jvm.ClassFile.FieldType)).before args0 about1 = true := code_word (m := ⟨1, 8⟩) (meth := k1m8) (c := k1c8) (by decide +kernel) rfl rfl rfl (by decide +kernel)
set_option maxRecDepth 65536 in
theorem w_c9 : (Jvm.Cond.code ({ cls := "semblance/JpegScansCompletePinLaw", name := "end", desc := "(I)I" } : Jvm.MethodName) method_6_code (1 : Nat) (Option.some Jvm.ClassFile.FieldType.int)).before args0 about1 = true := code_word (m := ⟨1, 5⟩) (meth := k1m5) (c := k1c5) (by decide +kernel) rfl rfl rfl (by decide +kernel)
set_option maxRecDepth 65536 in
theorem w_c10 : (Jvm.Cond.code ({ cls := "semblance/JpegScansCompletePinLaw", name := "bitA", desc := "(I)I" } : Jvm.MethodName) method_7_code (1 : Nat) (Option.some Jvm.ClassFile.FieldType.int)).before args0 about1 = true := code_word (m := ⟨1, 6⟩) (meth := k1m6) (c := k1c6) (by decide +kernel) rfl rfl rfl (by decide +kernel)
set_option maxRecDepth 65536 in
theorem w_c11 : (Jvm.Cond.code ({ cls := "semblance/JpegScansCompletePinLaw", name := "bitB", desc := "(I)I" } : Jvm.MethodName) method_8_code (1 : Nat) (Option.some Jvm.ClassFile.FieldType.int)).before args0 about1 = true := code_word (m := ⟨1, 7⟩) (meth := k1m7) (c := k1c7) (by decide +kernel) rfl rfl rfl (by decide +kernel)
set_option maxRecDepth 65536 in
theorem w_c12 : (Jvm.Cond.code ({ cls := "semblance/JpegScansCompletePinLaw", name := "done", desc := "(IZZ)Z" } : Jvm.MethodName) method_10_code (8 : Nat) (Option.some Jvm.ClassFile.FieldType.boolean)).before args0 about1 = true := code_word (m := ⟨1, 9⟩) (meth := k1m9) (c := k1c9) (by decide +kernel) rfl rfl rfl (by decide +kernel)
set_option maxRecDepth 65536 in
theorem w_c13 : (Jvm.Cond.code ({ cls := "semblance/JpegScansCompletePinLaw", name := "entry", desc := "(III)I" } : Jvm.MethodName) method_3_code (3 : Nat) (Option.some Jvm.ClassFile.FieldType.int)).before args0 about1 = true := code_word (m := ⟨1, 2⟩) (meth := k1m2) (c := k1c2) (by decide +kernel) rfl rfl rfl (by decide +kernel)
set_option maxRecDepth 65536 in
theorem w_c14 : (Jvm.Cond.code ({ cls := "semblance/JpegScansCompletePinLaw", name := "ones", desc := "(II)I" } : Jvm.MethodName) method_5_code (4 : Nat) (Option.some Jvm.ClassFile.FieldType.int)).before args0 about1 = true := code_word (m := ⟨1, 4⟩) (meth := k1m4) (c := k1c4) (by decide +kernel) rfl rfl rfl (by decide +kernel)
def codes1 : List Jvm.Cond := [Jvm.Cond.code x code maxLocals ret, Jvm.Cond.code ({ cls := "semblance/JpegScans", name := "<init>", desc := "(ZI)V" } : Jvm.MethodName) prog_41_method_1_code (7 : Nat) (Option.none : Option Jvm.ClassFile.FieldType), Jvm.Cond.code ({ cls := "java/lang/Object", name := "<init>", desc := "()V" } : Jvm.MethodName) object_method_1_code (1 : Nat) (Option.none : Option Jvm.ClassFile.FieldType), Jvm.Cond.code ({ cls := "java/util/Arrays", name := "fill", desc := "([II)V" } : Jvm.MethodName) jdk_65_method_103_code (4 : Nat) (Option.none : Option Jvm.ClassFile.FieldType), Jvm.Cond.code ({ cls := "semblance/JpegScansCompletePinLaw", name := "list", desc := "(II)[I" } : Jvm.MethodName) method_4_code (4 : Nat) (Option.some (Jvm.ClassFile.FieldType.array Jvm.ClassFile.FieldType.int)), Jvm.Cond.code ({ cls := "semblance/JpegScans", name := "complete", desc := "()Z" } : Jvm.MethodName) prog_41_method_3_code (9 : Nat) (Option.some Jvm.ClassFile.FieldType.boolean), Jvm.Cond.code ({ cls := "semblance/JpegScans", name := "take", desc := "([IIIII)Z" } : Jvm.MethodName) prog_41_method_2_code (13 : Nat) (Option.some Jvm.ClassFile.FieldType.boolean), Jvm.Cond.code ({ cls := "java/lang/Math", name := "max", desc := "(II)I" } : Jvm.MethodName) jdk_29_method_65_code (2 : Nat) (Option.some Jvm.ClassFile.FieldType.int), Jvm.Cond.code ({ cls := "semblance/JpegScansCompletePinLaw", name := "send", desc := "(Lsemblance/JpegScans;[IIZZ)V" } : Jvm.MethodName) method_9_code (8 : Nat) (Option.none : Option Jvm.ClassFile.FieldType), Jvm.Cond.code ({ cls := "semblance/JpegScansCompletePinLaw", name := "end", desc := "(I)I" } : Jvm.MethodName) method_6_code (1 : Nat) (Option.some Jvm.ClassFile.FieldType.int), Jvm.Cond.code ({ cls := "semblance/JpegScansCompletePinLaw", name := "bitA", desc := "(I)I" } : Jvm.MethodName) method_7_code (1 : Nat) (Option.some Jvm.ClassFile.FieldType.int), Jvm.Cond.code ({ cls := "semblance/JpegScansCompletePinLaw", name := "bitB", desc := "(I)I" } : Jvm.MethodName) method_8_code (1 : Nat) (Option.some Jvm.ClassFile.FieldType.int), Jvm.Cond.code ({ cls := "semblance/JpegScansCompletePinLaw", name := "done", desc := "(IZZ)Z" } : Jvm.MethodName) method_10_code (8 : Nat) (Option.some Jvm.ClassFile.FieldType.boolean), Jvm.Cond.code ({ cls := "semblance/JpegScansCompletePinLaw", name := "entry", desc := "(III)I" } : Jvm.MethodName) method_3_code (3 : Nat) (Option.some Jvm.ClassFile.FieldType.int), Jvm.Cond.code ({ cls := "semblance/JpegScansCompletePinLaw", name := "ones", desc := "(II)I" } : Jvm.MethodName) method_5_code (4 : Nat) (Option.some Jvm.ClassFile.FieldType.int)]
set_option maxRecDepth 65536 in
theorem codes_eq : words1.filter isCode = codes1 := rfl
theorem w_codes : ∀ c ∈ words1.filter isCode, c.before args0 about1 = true := by
  rw [codes_eq]
  intro c hc
  simp only [codes1, List.mem_cons, List.not_mem_nil, or_false] at hc
  rcases hc with rfl | rfl | rfl | rfl | rfl | rfl | rfl | rfl | rfl | rfl | rfl | rfl | rfl | rfl | rfl
  · exact w_c0
  · exact w_c1
  · exact w_c2
  · exact w_c3
  · exact w_c4
  · exact w_c5
  · exact w_c6
  · exact w_c7
  · exact w_c8
  · exact w_c9
  · exact w_c10
  · exact w_c11
  · exact w_c12
  · exact w_c13
  · exact w_c14
set_option maxRecDepth 65536 in
theorem w_t1 : (words1.take 24).all (fun c => isCode c || c.before args0 about1) = true := by decide +kernel
set_option maxRecDepth 65536 in
theorem w_t2 : ((words1.drop 24).take 24).all (fun c => isCode c || c.before args0 about1) = true := by decide +kernel
set_option maxRecDepth 65536 in
theorem w_t3 : ((words1.drop 24).drop 24).all (fun c => isCode c || c.before args0 about1) = true := by decide +kernel
theorem w_tables : (allAtoms (Jvm.Cond.code x code maxLocals ret :: tables_1)).before args0 about1 = true := by
  rw [allAtoms_all]
  show words1.all (fun c => c.before args0 about1) = true
  refine all_split ?_ w_codes
  rw [← List.take_append_drop 24 words1, List.all_append, w_t1, ← List.take_append_drop 24 (words1.drop 24), List.all_append, w_t2, w_t3]
  rfl
set_option maxRecDepth 65536 in
theorem w_case : (Jvm.Cond.and given_1 narrow_1).before args0 about1 = true := by decide +kernel
theorem w_applies : (headSpec (Jvm.Cond.code x code maxLocals ret :: tables_1) room_1).applies x e0.platform about1 = true :=
  (Spec.applies_iff w_frames).mpr ⟨w_running, w_runnable, w_alone, w_named, w_hears, w_ripe, w_room, w_tables⟩
theorem atStart : AtStart classFile x code maxLocals ret World_1 tables_1 room_1 Calls_1 rest_1 Pre_1 launch0 p0 e0 about1 theMethod args0 below0 :=
  ⟨lists_1, trivial, launch0.admits_env _ _ _, launch0.least_env, fairChoices_fair.cas, fairChoices_fair.clock, w_frames, w_args, w_heap, w_applies, trivial, trivial, w_case⟩
end start1
theorem witness_1 : WitnessClaimed_1 := ⟨start1.p0, start1.e0, start1.about1, start1.theMethod, start1.args0, start1.below0, start1.atStart⟩
end Jvm.Pilot.@@N@@
