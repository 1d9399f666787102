import JvmDerived
import JvmDerived.Pilot.@@N@@Statement
import JvmDerived.Pilot.@@N@@Code
set_option linter.unusedVariables false
set_option linter.unusedSimpArgs false
namespace Jvm.OwnRun
open Sem ClassFile Op Lib Jvm.Stand Jvm.Free Jvm.LawKit Jvm.RoadKit
/-- the run that stands at A comes to the end of this invocation, and Q holds there -/
def Run (p : Program) (e : Env) (below : List Frame) (s : State) (Q : Option Value → Heap → List Loc → Prop) (k n : Nat) (A : State) : Prop :=
  ∃ s₂ o, Steps p.tables e below A s₂ ∧ s₂.status = .running ∧ Ended s₂ below o ∧ ∃ v L, o = .returned v ∧ Q v s₂.heap L ∧ FrameEnd s o s₂ L k n
/-- the contract of a body at one heap and one row of arguments -/
def Ctr (l : Launch) (Z : State) (y : MethodName) (bytes : ByteArray) (ml : Nat) (ret : Option FieldType) (rm : Room) (as' : Array Value) (h0 : Heap) (Q : Option Value → Heap → List Loc → Prop) : Prop :=
  ∀ ws : List Jvm.Cond, MetFree l y (head1 (Jvm.Cond.code y bytes ml ret :: ws) rm) (fun a U => a = as' ∧ Z.Warmed39 U.vm ∧ U.heap = h0) (fun _ _ _ _ _ => True) (fun _ U o U' => ∃ v L, o = .returned v ∧ Q v U'.heap L ∧ FrameEnd U o U' L rm.cells rm.slots)
section Laws
variable {p : Program} {l : Launch} {e : Env} {R : Room} {s : State} {m : MethodId} {args : Array Value} {below : List Frame} {meth : Method} {c : Code} {T : State} {locs : List Loc} {cells slots : Nat} {Z : State} {a0 : Array Value} {h h' : Heap}
variable {Q Q' : Option Value → Heap → List Loc → Prop} {k n : Nat}
theorem Run.st {A B : State} (f : ∀ t, Steps p.tables e below B t → Steps p.tables e below A t) (r : Run p e below s Q k n B) : Run p e below s Q k n A := by
  obtain ⟨s₂, o, h1, r⟩ := r
  exact ⟨s₂, o, f _ h1, r⟩
theorem Ctr.of {y : MethodName} {bytes : ByteArray} {ml : Nat} {ret : Option FieldType} {rm : Room} {as' : Array Value} {h0 : Heap} {Ls : Array Slot} (hpl : plainFor y = true) (hef : ∀ m, entryFrame m as' ml = mkF m 0 Ls [])
    (body : ∀ (p : Program) (e : Env) (s : State) (m : MethodId) (below : List Frame) (meth : Method) (c : Code) (T : State), p.tables.exec = Jvm.exec → c.code = bytes → c.maxLocals = ml → s.vm.findClass y.cls = some m.cls → meth.name = y.name → meth.sig.returnType = ret → meth.locks = false → Z.Warmed39 s.vm → T.heap = h0 →
      Stand p l e rm s m as' below meth c T [] 0 0 → Run p e below s Q rm.cells rm.slots (T.setTop (mkF m 0 Ls []))) : Ctr l Z y bytes ml ret rm as' h0 Q := by
  intro ws
  refine MetFree.of_bodySF hpl hisR ?_
  intro p e s m args below meth c s₁ Bd hml0 hP hK
  obtain ⟨rfl, hZ, hh⟩ := hP
  have q := body p e s m below meth c s₁ Bd.exec Bd.bytes hml0 (findClass_of_methodNamed Bd.named) (name_of_methodNamed Bd.named Bd.method).1 Bd.returns Bd.notSynchronized hZ (by rw [← hh, Bd.state]; rfl) (Stand.of_body Bd)
  rw [hef]
  exact q
theorem Run.end_ (X : Stand p l e R s m args below meth c T locs cells slots) (hlk : meth.locks = false) (eT : T.heap = h) {v : Option Value} (hv : meth.sig.returnType = none → v = none) (hc : cells ≤ k) (hn : slots ≤ n) (hQ : Q v h locs) {A : State}
    (f : ∀ fs, (∀ (f : JFrame) (acts : List Action), f.method = m → f.locked = none → f.entered = [] → (doReturn e (T.setTop f) acts v).1 = T.setFrames fs) → Steps p.tables e below A (T.setFrames fs)) : Run p e below s Q k n A := by
  obtain ⟨fs, hr, hrun, hended, hW, hsame⟩ := X.leave (v := v) hv
  exact ⟨_, _, f fs hr, hrun, hended, _, _, rfl, by rw [show (T.setFrames fs).heap = h from eT]; exact hQ, ⟨_, rfl⟩, hW, hsame.mono hc hn⟩
theorem Run.retN (X : Stand p l e R s m args below meth c T locs cells slots) (hx : p.tables.exec = Jvm.exec) (hlk : meth.locks = false) (eT : T.heap = h) {t : FieldType} (hret : meth.sig.returnType = some t) (ht : t = .boolean ∨ t = .byte ∨ t = .char ∨ t = .short) {pc : Nat} {Ls : Array Slot} {z : Int32} {rest : List Value}
    {z' : Int32} (hz : nar t z = z') (hd : decode c.code pc = .ok (.ireturn, 1)) (hc : cells ≤ k) (hn : slots ≤ n) (hQ : Q (some (.int z')) h locs) : Run p e below s Q k n (T.setTop (mkF m pc Ls (.int z :: rest))) :=
  Run.end_ X hlk eT (v := some (.int (nar t z))) (fun q => by rw [hret] at q; cases q) hc hn (hz ▸ hQ) fun fs hr => RoadKit.retN X hx hret ht hd hr
theorem Run.retI (X : Stand p l e R s m args below meth c T locs cells slots) (hx : p.tables.exec = Jvm.exec) (hlk : meth.locks = false) (eT : T.heap = h) (hret : meth.sig.returnType = some .int) {pc : Nat} {Ls : Array Slot} {z : Int32} {rest : List Value}
    (hd : decode c.code pc = .ok (.ireturn, 1)) (hc : cells ≤ k) (hn : slots ≤ n) (hQ : Q (some (.int z)) h locs) : Run p e below s Q k n (T.setTop (mkF m pc Ls (.int z :: rest))) :=
  Run.end_ X hlk eT (v := some (.int z)) (fun q => by rw [hret] at q; cases q) hc hn hQ fun fs hr => RoadKit.retOut X hx hret rfl (Or.inl ⟨rfl, Or.inl rfl, z, rfl⟩) hd hr
theorem Run.retJ (X : Stand p l e R s m args below meth c T locs cells slots) (hx : p.tables.exec = Jvm.exec) (hlk : meth.locks = false) (eT : T.heap = h) (hret : meth.sig.returnType = some .long) {pc : Nat} {Ls : Array Slot} {z : Int64} {rest : List Value}
    (hd : decode c.code pc = .ok (.lreturn, 1)) (hc : cells ≤ k) (hn : slots ≤ n) (hQ : Q (some (.long z)) h locs) : Run p e below s Q k n (T.setTop (mkF m pc Ls (.long z :: rest))) :=
  Run.end_ X hlk eT (v := some (.long z)) (fun q => by rw [hret] at q; cases q) hc hn hQ fun fs hr => RoadKit.retOut X hx hret rfl (Or.inr (Or.inl ⟨rfl, rfl, z, rfl⟩)) hd hr
theorem Run.retA (X : Stand p l e R s m args below meth c T locs cells slots) (hx : p.tables.exec = Jvm.exec) (hlk : meth.locks = false) (eT : T.heap = h) {t : FieldType} (hret : meth.sig.returnType = some t) (ht : t.isReference = true) {w : Value} (hw : w.isRef = true) (hnr : narrow t w = w) {pc : Nat} {Ls : Array Slot} {rest : List Value}
    (hd : decode c.code pc = .ok (.areturn, 1)) (hc : cells ≤ k) (hn : slots ≤ n) (hQ : Q (some w) h locs) : Run p e below s Q k n (T.setTop (mkF m pc Ls (w :: rest))) :=
  Run.end_ X hlk eT (v := some w) (fun q => by rw [hret] at q; cases q) hc hn hQ fun fs hr => RoadKit.retOut X hx hret hnr (Or.inr (Or.inr (Or.inr (Or.inr ⟨rfl, ht, hw⟩)))) hd hr
theorem Run.retV (X : Stand p l e R s m args below meth c T locs cells slots) (hx : p.tables.exec = Jvm.exec) (hlk : meth.locks = false) (eT : T.heap = h) (hret : meth.sig.returnType = none) {pc : Nat} {Ls : Array Slot}
    (hd : decode c.code pc = .ok (.return_, 1)) (hc : cells ≤ k) (hn : slots ≤ n) (hQ : Q none h locs) : Run p e below s Q k n (T.setTop (mkF m pc Ls [])) :=
  Run.end_ X hlk eT (v := none) (fun _ => rfl) hc hn hQ fun fs hr => X.returnOut hx hret hd hr
/-- a call's premises that are alike for every kind of call -/
theorem Ctr.back {y : MethodName} {bytes : ByteArray} {ml : Nat} {ret : Option FieldType} {rm : Room} {as' : Array Value} {len W : Nat} (K : Ctr l Z y bytes ml ret rm as' h Q') (hZ : Z.Warmed39 s.vm) (wc : (Jvm.Cond.code y bytes ml ret).before a0 Z = true) (wz : (Jvm.Cond.initialized y.cls).before a0 Z = true) (hf : rm.frames + 1 ≤ R.frames) (hl : W + (ml + 11) + rm.locals ≤ R.locals) :
    Back l R p e below s args y len W (fun A a => a = as' ∧ A.U.heap = h ∧ A.cells + rm.cells ≤ R.cells ∧ A.slots + rm.slots ≤ R.slots) (fun A _ v B => ∃ L, Q' v B.U.heap L ∧ B.locs = A.locs ++ L ∧ B.cells = A.cells + rm.cells ∧ B.slots = A.slots + rm.slots) := backOf (K []) hZ wc wz hf hl
theorem Run.callS (X : Stand p l e R s m args below meth c T locs cells slots) (hx : p.tables.exec = Jvm.exec) (hZ : Z.Warmed39 s.vm) (eT : T.heap = h) {own : String} {index : Nat} {y : MethodName} {bytes : ByteArray} {ml : Nat} {ret : Option FieldType} {rm : Room}
    (hown : s.vm.findClass own = some m.cls) (w1 : (Jvm.Cond.methodLink own index y).before a0 Z = true) (w2 : (Jvm.Cond.static y).before a0 Z = true) (w3 : (Jvm.Cond.initialized y.cls).before a0 Z = true) (w4 : (Jvm.Cond.code y bytes ml ret).before a0 Z = true)
    (hy : y.cls ≠ "java/lang/invoke/MethodHandle" ∧ y.cls ≠ "java/lang/invoke/VarHandle") {argsL rest : List Value} (K : Ctr l Z y bytes ml ret rm argsL.toArray h Q') {ps : List FieldType} {r : Option FieldType} (hpd : parseMethodDescriptor y.desc = some ⟨ps, r⟩) (hlen : argsL.length = ps.length)
    {pc : Nat} {Ls : Array Slot} (hsz : Ls.size = c.maxLocals) {W : Nat} (hW : (rest.map fun v => v.category).sum = W) (hf : rm.frames + 1 ≤ R.frames) (hl : W + (ml + 11) + rm.locals ≤ R.locals) (hc : cells + rm.cells ≤ R.cells) (hs : slots + rm.slots ≤ R.slots)
    (hd : decode c.code pc = .ok (.invokestatic index, 3)) {st : List Value} (hst : st = argsL.reverse ++ rest)
    (kk : ∀ (T' : State) (v : Option Value) (L : List Loc), Stand p l e R s m args below meth c T' (locs ++ L) (cells + rm.cells) (slots + rm.slots) → Q' v T'.heap L → Run p e below s Q k n (T'.setTop (mkF m (pc + 3) Ls (v.toList ++ rest)))) :
    Run p e below s Q k n (T.setTop (mkF m pc Ls st)) := by
  obtain ⟨v, _, ⟨T', L', k', n'⟩, -, X', ⟨L, hQ, l1, y1, z1⟩, st1⟩ := Jvm.LawKit.callS X hx (y := y) hown (mvT hZ w1) (mvT hZ w2) (mvT hZ w3) (mvT hZ w4) hy (K.back hZ w4 w3 hf hl) (g := mkF m pc Ls st) rfl hsz (argsL := argsL) (rest := rest) (lenOf hpd hlen) hst (by show 2 * 0 + _ ≤ _; rw [hW]; omega) hd (fun _ _ => ⟨rfl, eT, hc, hs⟩)
  dsimp only [Pt.U, Pt.locs, Pt.cells, Pt.slots] at X' l1 y1 z1 st1 hQ
  subst l1 y1 z1
  exact Run.st st1 (kk T' v L X' hQ)
theorem Run.callC (X : Stand p l e R s m args below meth c T locs cells slots) (hx : p.tables.exec = Jvm.exec) (hZ : Z.Warmed39 s.vm) (eT : T.heap = h) {own : String} {index : Nat} {y : MethodName} {bytes : ByteArray} {ml : Nat} {rm : Room}
    (hown : s.vm.findClass own = some m.cls) (hy1 : y.name = "<init>") (w1 : (Jvm.Cond.methodLink own index y).before a0 Z = true) (w2 : (Jvm.Cond.instanceMethod y).before a0 Z = true) (w3 : (Jvm.Cond.initialized y.cls).before a0 Z = true) (w4 : (Jvm.Cond.code y bytes ml none).before a0 Z = true)
    (hy : y.cls ≠ "java/lang/invoke/MethodHandle" ∧ y.cls ≠ "java/lang/invoke/VarHandle") {a : Addr} {argsL rest : List Value} (K : Ctr l Z y bytes ml none rm (.ref a :: argsL).toArray h Q') {ps : List FieldType} {r : Option FieldType} (hpd : parseMethodDescriptor y.desc = some ⟨ps, r⟩) (hlen : argsL.length = ps.length)
    {pc : Nat} {Ls : Array Slot} (hsz : Ls.size = c.maxLocals) {W : Nat} (hW : (rest.map fun v => v.category).sum = W) (hf : rm.frames + 1 ≤ R.frames) (hl : W + (ml + 11) + rm.locals ≤ R.locals) (hc : cells + rm.cells ≤ R.cells) (hs : slots + rm.slots ≤ R.slots)
    (hd : decode c.code pc = .ok (.invokespecial index, 3)) {st : List Value} (hst : st = argsL.reverse ++ .ref a :: rest)
    (kk : ∀ (T' : State) (v : Option Value) (L : List Loc), Stand p l e R s m args below meth c T' (locs ++ L) (cells + rm.cells) (slots + rm.slots) → Q' v T'.heap L → Run p e below s Q k n (T'.setTop (mkF m (pc + 3) Ls (v.toList ++ rest)))) :
    Run p e below s Q k n (T.setTop (mkF m pc Ls st)) := by
  obtain ⟨v, _, ⟨T', L', k', n'⟩, -, X', ⟨L, hQ, l1, y1, z1⟩, st1⟩ := X.specialBack hx (y := y) hy1 hown (mvT hZ w1) (mvT hZ w2) (mvT hZ w4) hy (K.back hZ w4 w3 hf hl) (g := mkF m pc Ls st) rfl hsz (Steps.refl _) (a := a) (argsL := argsL) (rest := rest) (lenOf hpd hlen) hst (by show 2 * 0 + _ ≤ _; rw [hW]; omega) hd (fun _ _ => ⟨rfl, eT, hc, hs⟩)
  dsimp only [Pt.U, Pt.locs, Pt.cells, Pt.slots] at X' l1 y1 z1 st1 hQ
  subst l1 y1 z1
  exact Run.st (fun t q => st1.trans q) (kk T' v L X' hQ)
/-- 'invokevirtual', the body that the receiver's class selects -/
theorem Run.callV (X : Stand p l e R s m args below meth c T locs cells slots) (hx : p.tables.exec = Jvm.exec) (hZ : Z.Warmed39 s.vm) (eT : T.heap = h) {own C : String} {index : Nat} {y z : MethodName} {bytes : ByteArray} {ml : Nat} {ret : Option FieldType} {rm : Room}
    (hown : s.vm.findClass own = some m.cls) (w1 : (Jvm.Cond.methodLink own index y).before a0 Z = true) (w2 : (Jvm.Cond.declares y).before a0 Z = true) (hnf : NotFace s y) (w5 : (Jvm.Cond.selects C y z).before a0 Z = true) (w6 : (Jvm.Cond.instanceMethod z).before a0 Z = true) (w3 : (Jvm.Cond.initialized z.cls).before a0 Z = true) (w4 : (Jvm.Cond.code z bytes ml ret).before a0 Z = true)
    (hy : y.cls ≠ "java/lang/invoke/MethodHandle" ∧ y.cls ≠ "java/lang/invoke/VarHandle") {a : Addr} (E : Exa Z h a C) {argsL rest : List Value} (K : Ctr l Z z bytes ml ret rm (.ref a :: argsL).toArray h Q') {ps : List FieldType} {r : Option FieldType} (hpd : parseMethodDescriptor y.desc = some ⟨ps, r⟩) (hlen : argsL.length = ps.length)
    {pc : Nat} {Ls : Array Slot} (hsz : Ls.size = c.maxLocals) {W : Nat} (hW : (rest.map fun v => v.category).sum = W) (hf : rm.frames + 1 ≤ R.frames) (hl : W + (ml + 11) + rm.locals ≤ R.locals) (hc : cells + rm.cells ≤ R.cells) (hs : slots + rm.slots ≤ R.slots)
    (hd : decode c.code pc = .ok (.invokevirtual index, 3)) {st : List Value} (hst : st = argsL.reverse ++ .ref a :: rest)
    (kk : ∀ (T' : State) (v : Option Value) (L : List Loc), Stand p l e R s m args below meth c T' (locs ++ L) (cells + rm.cells) (slots + rm.slots) → Q' v T'.heap L → Run p e below s Q k n (T'.setTop (mkF m (pc + 3) Ls (v.toList ++ rest)))) :
    Run p e below s Q k n (T.setTop (mkF m pc Ls st)) := by
  obtain ⟨cq, kq, qa, qb, qc⟩ := isOf hZ eT E
  obtain ⟨v, _, ⟨T', L', k', n'⟩, -, X', ⟨L, hQ, l1, y1, z1⟩, st1⟩ := X.virtualBack hx (y := y) (z := z) hown (mvT hZ w1) (mvT hZ w2) hnf (mvT hZ w5) (mvT hZ w6) hy (K.back hZ w4 w3 hf hl) qa qc (g := mkF m pc Ls st) rfl hsz (Steps.refl _) (argsL := argsL) (rest := rest) (lenOf hpd hlen) hst (by show 2 * 0 + _ ≤ _; rw [hW]; omega) hd (fun _ _ => ⟨rfl, eT, hc, hs⟩)
  dsimp only [Pt.U, Pt.locs, Pt.cells, Pt.slots] at X' l1 y1 z1 st1 hQ
  subst l1 y1 z1
  exact Run.st (fun t q => st1.trans q) (kk T' v L X' hQ)
theorem Run.init (X : Stand p l e R s m args below meth c T locs cells slots) (hx : p.tables.exec = Jvm.exec) (hZ : Z.Warmed39 s.vm) (eT : T.heap = h) {own : String} {idx : Nat} (hown : s.vm.findClass own = some m.cls) (w1 : (Jvm.Cond.methodLink own idx Lib.objectInit).before a0 Z = true) (w2 : (Jvm.Cond.instanceMethod Lib.objectInit).before a0 Z = true)
    (w3 : (Jvm.Cond.code Lib.objectInit ⟨#[0xb1]⟩ 1 none).before a0 Z = true) {pc : Nat} {Ls : Array Slot} (hsz : Ls.size = c.maxLocals) {a : Addr} {rest : List Value} (hd : decode c.code pc = .ok (.invokespecial idx, 3)) (hf : 1 ≤ R.frames) {W : Nat} (hW : (rest.map fun v => v.category).sum = W) (hl : W + 12 ≤ R.locals)
    (kk : ∀ (T' : State), Stand p l e R s m args below meth c T' locs cells slots → T'.heap = h → Run p e below s Q k n (T'.setTop (mkF m (pc + 3) Ls rest))) :
    Run p e below s Q k n (T.setTop (mkF m pc Ls (.ref a :: rest))) := by
  obtain ⟨T', X', e', st'⟩ := initO X hx hZ hown w1 w2 w3 eT (g := mkF m pc Ls (.ref a :: rest)) rfl hsz rfl hd hf (W := W) (by show 2 * 0 + _ ≤ _; rw [hW]; omega) hl
  exact Run.st st' (kk T' X' e')
theorem Run.irem (X : Stand p l e R s m args below meth c T locs cells slots) (hx : p.tables.exec = Jvm.exec) {pc : Nat} {Ls : Array Slot} {x y : Int32} {rest : List Value} (hd : decode c.code pc = .ok (.irem, 1)) (hy : y ≠ 0) (r : Run p e below s Q k n (T.setTop (mkF m (pc + 1) Ls (.int (x % y) :: rest)))) :
    Run p e below s Q k n (T.setTop (mkF m pc Ls (.int y :: .int x :: rest))) := Run.st (fun t q => iremM (g := mkF m pc Ls (.int y :: .int x :: rest)) X hx rfl hd rfl hy q) r
theorem Run.lrem (X : Stand p l e R s m args below meth c T locs cells slots) (hx : p.tables.exec = Jvm.exec) {pc : Nat} {Ls : Array Slot} {x y : Int64} {rest : List Value} (hd : decode c.code pc = .ok (.lrem, 1)) (hy : y ≠ 0) (r : Run p e below s Q k n (T.setTop (mkF m (pc + 1) Ls (.long (x % y) :: rest)))) :
    Run p e below s Q k n (T.setTop (mkF m pc Ls (.long y :: .long x :: rest))) := by
  rw [← lrem_mod] at r
  exact Run.st (fun t q => XS.lrem (g := mkF m pc Ls (.long y :: .long x :: rest)) X.here hx rfl hd rfl hy q) r
theorem Run.x_iloadN (X : Stand p l e R s m args below meth c T locs cells slots) (hx : p.tables.exec = Jvm.exec) {pc q : Nat} {Ls : Array Slot} {S : List Value} {j : Fin 4} {v : Int32} (hd : decode c.code pc = .ok (.iload_n j, 1)) (hl : Ls[j.val]? = some (.val (.int v))) (hq : pc + 1 = q) (r : Run p e below s Q k n (T.setTop (mkF m q Ls (.int v :: S)))) : Run p e below s Q k n (T.setTop (mkF m pc Ls (S))) := by
  subst hq; exact Run.st (fun t kt => XS.iloadN X.here hx rfl hd hl kt) r
theorem Run.x_iload (X : Stand p l e R s m args below meth c T locs cells slots) (hx : p.tables.exec = Jvm.exec) {pc q : Nat} {Ls : Array Slot} {S : List Value} {j : Nat} {v : Int32} (hd : decode c.code pc = .ok (.iload j, 2)) (hl : Ls[j]? = some (.val (.int v))) (hq : pc + 2 = q) (r : Run p e below s Q k n (T.setTop (mkF m q Ls (.int v :: S)))) : Run p e below s Q k n (T.setTop (mkF m pc Ls (S))) := by
  subst hq; exact Run.st (fun t kt => XS.iload X.here hx rfl hd hl kt) r
theorem Run.x_lloadN (X : Stand p l e R s m args below meth c T locs cells slots) (hx : p.tables.exec = Jvm.exec) {pc q : Nat} {Ls : Array Slot} {S : List Value} {j : Fin 4} {v : Int64} (hd : decode c.code pc = .ok (.lload_n j, 1)) (hl : Ls[j.val]? = some (.val (.long v))) (hq : pc + 1 = q) (r : Run p e below s Q k n (T.setTop (mkF m q Ls (.long v :: S)))) : Run p e below s Q k n (T.setTop (mkF m pc Ls (S))) := by
  subst hq; exact Run.st (fun t kt => XS.lloadN X.here hx rfl hd hl kt) r
theorem Run.x_lload (X : Stand p l e R s m args below meth c T locs cells slots) (hx : p.tables.exec = Jvm.exec) {pc q : Nat} {Ls : Array Slot} {S : List Value} {j : Nat} {v : Int64} (hd : decode c.code pc = .ok (.lload j, 2)) (hl : Ls[j]? = some (.val (.long v))) (hq : pc + 2 = q) (r : Run p e below s Q k n (T.setTop (mkF m q Ls (.long v :: S)))) : Run p e below s Q k n (T.setTop (mkF m pc Ls (S))) := by
  subst hq; exact Run.st (fun t kt => XS.lload X.here hx rfl hd hl kt) r
theorem Run.x_aloadN (X : Stand p l e R s m args below meth c T locs cells slots) (hx : p.tables.exec = Jvm.exec) {pc q : Nat} {Ls : Array Slot} {S : List Value} {j : Fin 4} {v : Value} (hd : decode c.code pc = .ok (.aload_n j, 1)) (hl : Ls[j.val]? = some (.val v)) (hv : v.isRef = true) (hq : pc + 1 = q) (r : Run p e below s Q k n (T.setTop (mkF m q Ls (v :: S)))) : Run p e below s Q k n (T.setTop (mkF m pc Ls (S))) := by
  subst hq; exact Run.st (fun t kt => XS.aloadN X.here hx rfl hd hl hv kt) r
theorem Run.x_aload (X : Stand p l e R s m args below meth c T locs cells slots) (hx : p.tables.exec = Jvm.exec) {pc q : Nat} {Ls : Array Slot} {S : List Value} {j : Nat} {v : Value} (hd : decode c.code pc = .ok (.aload j, 2)) (hl : Ls[j]? = some (.val v)) (hv : v.isRef = true) (hq : pc + 2 = q) (r : Run p e below s Q k n (T.setTop (mkF m q Ls (v :: S)))) : Run p e below s Q k n (T.setTop (mkF m pc Ls (S))) := by
  subst hq; exact Run.st (fun t kt => XS.aload X.here hx rfl hd hl hv kt) r
theorem Run.x_istoreN (X : Stand p l e R s m args below meth c T locs cells slots) (hx : p.tables.exec = Jvm.exec) {pc q : Nat} {Ls : Array Slot} {S : List Value} {j : Fin 4} {v : Int32} (L' : Array Slot) (hd : decode c.code pc = .ok (.istore_n j, 1)) (hl : storeLocals Ls j.val (.int v) = some L') (hq : pc + 1 = q) (r : Run p e below s Q k n (T.setTop (mkF m q L' (S)))) : Run p e below s Q k n (T.setTop (mkF m pc Ls (.int v :: S))) := by
  subst hq; exact Run.st (fun t kt => XS.istoreN X.here hx rfl hd rfl hl kt) r
theorem Run.x_istore (X : Stand p l e R s m args below meth c T locs cells slots) (hx : p.tables.exec = Jvm.exec) {pc q : Nat} {Ls : Array Slot} {S : List Value} {j : Nat} {v : Int32} (L' : Array Slot) (hd : decode c.code pc = .ok (.istore j, 2)) (hl : storeLocals Ls j (.int v) = some L') (hq : pc + 2 = q) (r : Run p e below s Q k n (T.setTop (mkF m q L' (S)))) : Run p e below s Q k n (T.setTop (mkF m pc Ls (.int v :: S))) := by
  subst hq; exact Run.st (fun t kt => XS.istore X.here hx rfl hd rfl hl kt) r
theorem Run.x_lstoreN (X : Stand p l e R s m args below meth c T locs cells slots) (hx : p.tables.exec = Jvm.exec) {pc q : Nat} {Ls : Array Slot} {S : List Value} {j : Fin 4} {v : Int64} (L' : Array Slot) (hd : decode c.code pc = .ok (.lstore_n j, 1)) (hl : storeLocals Ls j.val (.long v) = some L') (hq : pc + 1 = q) (r : Run p e below s Q k n (T.setTop (mkF m q L' (S)))) : Run p e below s Q k n (T.setTop (mkF m pc Ls (.long v :: S))) := by
  subst hq; exact Run.st (fun t kt => XS.lstoreN X.here hx rfl hd rfl hl kt) r
theorem Run.x_lstore (X : Stand p l e R s m args below meth c T locs cells slots) (hx : p.tables.exec = Jvm.exec) {pc q : Nat} {Ls : Array Slot} {S : List Value} {j : Nat} {v : Int64} (L' : Array Slot) (hd : decode c.code pc = .ok (.lstore j, 2)) (hl : storeLocals Ls j (.long v) = some L') (hq : pc + 2 = q) (r : Run p e below s Q k n (T.setTop (mkF m q L' (S)))) : Run p e below s Q k n (T.setTop (mkF m pc Ls (.long v :: S))) := by
  subst hq; exact Run.st (fun t kt => XS.lstore X.here hx rfl hd rfl hl kt) r
theorem Run.x_astoreN (X : Stand p l e R s m args below meth c T locs cells slots) (hx : p.tables.exec = Jvm.exec) {pc q : Nat} {Ls : Array Slot} {S : List Value} {j : Fin 4} {v : Value} (L' : Array Slot) (hd : decode c.code pc = .ok (.astore_n j, 1)) (hv : v.isRef = true) (hl : storeLocals Ls j.val v = some L') (hq : pc + 1 = q) (r : Run p e below s Q k n (T.setTop (mkF m q L' (S)))) : Run p e below s Q k n (T.setTop (mkF m pc Ls (v :: S))) := by
  subst hq; exact Run.st (fun t kt => XS.astoreN X.here hx rfl hd rfl hv hl kt) r
theorem Run.x_astore (X : Stand p l e R s m args below meth c T locs cells slots) (hx : p.tables.exec = Jvm.exec) {pc q : Nat} {Ls : Array Slot} {S : List Value} {j : Nat} {v : Value} (L' : Array Slot) (hd : decode c.code pc = .ok (.astore j, 2)) (hv : v.isRef = true) (hl : storeLocals Ls j v = some L') (hq : pc + 2 = q) (r : Run p e below s Q k n (T.setTop (mkF m q L' (S)))) : Run p e below s Q k n (T.setTop (mkF m pc Ls (v :: S))) := by
  subst hq; exact Run.st (fun t kt => XS.astore X.here hx rfl hd rfl hv hl kt) r
theorem Run.x_iconst (X : Stand p l e R s m args below meth c T locs cells slots) (hx : p.tables.exec = Jvm.exec) {pc q : Nat} {Ls : Array Slot} {S : List Value} {i : Int} {z : Int32} (hd : decode c.code pc = .ok (.iconst i, 1)) (hz : Int32.ofInt i = z) (hq : pc + 1 = q) (r : Run p e below s Q k n (T.setTop (mkF m q Ls (.int z :: S)))) : Run p e below s Q k n (T.setTop (mkF m pc Ls (S))) := by
  subst hq; subst hz; exact Run.st (fun t kt => XS.iconst X.here hx rfl hd kt) r
theorem Run.x_bipush (X : Stand p l e R s m args below meth c T locs cells slots) (hx : p.tables.exec = Jvm.exec) {pc q : Nat} {Ls : Array Slot} {S : List Value} {i : Int} {z : Int32} (hd : decode c.code pc = .ok (.bipush i, 2)) (hz : (Int8.ofInt i).toInt32 = z) (hq : pc + 2 = q) (r : Run p e below s Q k n (T.setTop (mkF m q Ls (.int z :: S)))) : Run p e below s Q k n (T.setTop (mkF m pc Ls (S))) := by
  subst hq; subst hz; exact Run.st (fun t kt => XS.bipush X.here hx rfl hd kt) r
theorem Run.x_sipush (X : Stand p l e R s m args below meth c T locs cells slots) (hx : p.tables.exec = Jvm.exec) {pc q : Nat} {Ls : Array Slot} {S : List Value} {i : Int} {z : Int32} (hd : decode c.code pc = .ok (.sipush i, 3)) (hz : (Int16.ofInt i).toInt32 = z) (hq : pc + 3 = q) (r : Run p e below s Q k n (T.setTop (mkF m q Ls (.int z :: S)))) : Run p e below s Q k n (T.setTop (mkF m pc Ls (S))) := by
  subst hq; subst hz; exact Run.st (fun t kt => XS.sipush X.here hx rfl hd kt) r
theorem Run.x_lconst (X : Stand p l e R s m args below meth c T locs cells slots) (hx : p.tables.exec = Jvm.exec) {pc q : Nat} {Ls : Array Slot} {S : List Value} {i : Fin 2} {z : Int64} (hd : decode c.code pc = .ok (.lconst i, 1)) (hz : Int64.ofNat i = z) (hq : pc + 1 = q) (r : Run p e below s Q k n (T.setTop (mkF m q Ls (.long z :: S)))) : Run p e below s Q k n (T.setTop (mkF m pc Ls (S))) := by
  subst hq; subst hz; exact Run.st (fun t kt => XS.lconst X.here hx rfl hd kt) r
theorem Run.x_null (X : Stand p l e R s m args below meth c T locs cells slots) (hx : p.tables.exec = Jvm.exec) {pc q : Nat} {Ls : Array Slot} {S : List Value}  (hd : decode c.code pc = .ok (.aconst_null, 1)) (hq : pc + 1 = q) (r : Run p e below s Q k n (T.setTop (mkF m q Ls (.null :: S)))) : Run p e below s Q k n (T.setTop (mkF m pc Ls (S))) := by
  subst hq; exact Run.st (fun t kt => XS.aconstNull X.here hx rfl hd kt) r
theorem Run.x_iadd (X : Stand p l e R s m args below meth c T locs cells slots) (hx : p.tables.exec = Jvm.exec) {pc q : Nat} {Ls : Array Slot} {S : List Value} {x y z : Int32} (hd : decode c.code pc = .ok (.iadd, 1)) (hz : x + y = z) (hq : pc + 1 = q) (r : Run p e below s Q k n (T.setTop (mkF m q Ls (.int z :: S)))) : Run p e below s Q k n (T.setTop (mkF m pc Ls (.int y :: .int x :: S))) := by
  subst hq; subst hz; exact Run.st (fun t kt => XS.iadd X.here hx rfl hd rfl kt) r
theorem Run.x_ladd (X : Stand p l e R s m args below meth c T locs cells slots) (hx : p.tables.exec = Jvm.exec) {pc q : Nat} {Ls : Array Slot} {S : List Value} {x y z : Int64} (hd : decode c.code pc = .ok (.ladd, 1)) (hz : x + y = z) (hq : pc + 1 = q) (r : Run p e below s Q k n (T.setTop (mkF m q Ls (.long z :: S)))) : Run p e below s Q k n (T.setTop (mkF m pc Ls (.long y :: .long x :: S))) := by
  subst hq; subst hz; exact Run.st (fun t kt => XS.ladd X.here hx rfl hd rfl kt) r
theorem Run.x_isub (X : Stand p l e R s m args below meth c T locs cells slots) (hx : p.tables.exec = Jvm.exec) {pc q : Nat} {Ls : Array Slot} {S : List Value} {x y z : Int32} (hd : decode c.code pc = .ok (.isub, 1)) (hz : x - y = z) (hq : pc + 1 = q) (r : Run p e below s Q k n (T.setTop (mkF m q Ls (.int z :: S)))) : Run p e below s Q k n (T.setTop (mkF m pc Ls (.int y :: .int x :: S))) := by
  subst hq; subst hz; exact Run.st (fun t kt => XS.isub X.here hx rfl hd rfl kt) r
theorem Run.x_lsub (X : Stand p l e R s m args below meth c T locs cells slots) (hx : p.tables.exec = Jvm.exec) {pc q : Nat} {Ls : Array Slot} {S : List Value} {x y z : Int64} (hd : decode c.code pc = .ok (.lsub, 1)) (hz : x - y = z) (hq : pc + 1 = q) (r : Run p e below s Q k n (T.setTop (mkF m q Ls (.long z :: S)))) : Run p e below s Q k n (T.setTop (mkF m pc Ls (.long y :: .long x :: S))) := by
  subst hq; subst hz; exact Run.st (fun t kt => XS.lsub X.here hx rfl hd rfl kt) r
theorem Run.x_imul (X : Stand p l e R s m args below meth c T locs cells slots) (hx : p.tables.exec = Jvm.exec) {pc q : Nat} {Ls : Array Slot} {S : List Value} {x y z : Int32} (hd : decode c.code pc = .ok (.imul, 1)) (hz : x * y = z) (hq : pc + 1 = q) (r : Run p e below s Q k n (T.setTop (mkF m q Ls (.int z :: S)))) : Run p e below s Q k n (T.setTop (mkF m pc Ls (.int y :: .int x :: S))) := by
  subst hq; subst hz; exact Run.st (fun t kt => XS.imul X.here hx rfl hd rfl kt) r
theorem Run.x_lmul (X : Stand p l e R s m args below meth c T locs cells slots) (hx : p.tables.exec = Jvm.exec) {pc q : Nat} {Ls : Array Slot} {S : List Value} {x y z : Int64} (hd : decode c.code pc = .ok (.lmul, 1)) (hz : x * y = z) (hq : pc + 1 = q) (r : Run p e below s Q k n (T.setTop (mkF m q Ls (.long z :: S)))) : Run p e below s Q k n (T.setTop (mkF m pc Ls (.long y :: .long x :: S))) := by
  subst hq; subst hz; exact Run.st (fun t kt => XS.lmul X.here hx rfl hd rfl kt) r
theorem Run.x_iand (X : Stand p l e R s m args below meth c T locs cells slots) (hx : p.tables.exec = Jvm.exec) {pc q : Nat} {Ls : Array Slot} {S : List Value} {x y z : Int32} (hd : decode c.code pc = .ok (.iand, 1)) (hz : x &&& y = z) (hq : pc + 1 = q) (r : Run p e below s Q k n (T.setTop (mkF m q Ls (.int z :: S)))) : Run p e below s Q k n (T.setTop (mkF m pc Ls (.int y :: .int x :: S))) := by
  subst hq; subst hz; exact Run.st (fun t kt => XS.iand X.here hx rfl hd rfl kt) r
theorem Run.x_land (X : Stand p l e R s m args below meth c T locs cells slots) (hx : p.tables.exec = Jvm.exec) {pc q : Nat} {Ls : Array Slot} {S : List Value} {x y z : Int64} (hd : decode c.code pc = .ok (.land, 1)) (hz : x &&& y = z) (hq : pc + 1 = q) (r : Run p e below s Q k n (T.setTop (mkF m q Ls (.long z :: S)))) : Run p e below s Q k n (T.setTop (mkF m pc Ls (.long y :: .long x :: S))) := by
  subst hq; subst hz; exact Run.st (fun t kt => XS.land X.here hx rfl hd rfl kt) r
theorem Run.x_ior (X : Stand p l e R s m args below meth c T locs cells slots) (hx : p.tables.exec = Jvm.exec) {pc q : Nat} {Ls : Array Slot} {S : List Value} {x y z : Int32} (hd : decode c.code pc = .ok (.ior, 1)) (hz : x ||| y = z) (hq : pc + 1 = q) (r : Run p e below s Q k n (T.setTop (mkF m q Ls (.int z :: S)))) : Run p e below s Q k n (T.setTop (mkF m pc Ls (.int y :: .int x :: S))) := by
  subst hq; subst hz; exact Run.st (fun t kt => XS.ior X.here hx rfl hd rfl kt) r
theorem Run.x_lor (X : Stand p l e R s m args below meth c T locs cells slots) (hx : p.tables.exec = Jvm.exec) {pc q : Nat} {Ls : Array Slot} {S : List Value} {x y z : Int64} (hd : decode c.code pc = .ok (.lor, 1)) (hz : x ||| y = z) (hq : pc + 1 = q) (r : Run p e below s Q k n (T.setTop (mkF m q Ls (.long z :: S)))) : Run p e below s Q k n (T.setTop (mkF m pc Ls (.long y :: .long x :: S))) := by
  subst hq; subst hz; exact Run.st (fun t kt => XS.lor X.here hx rfl hd rfl kt) r
theorem Run.x_ixor (X : Stand p l e R s m args below meth c T locs cells slots) (hx : p.tables.exec = Jvm.exec) {pc q : Nat} {Ls : Array Slot} {S : List Value} {x y z : Int32} (hd : decode c.code pc = .ok (.ixor, 1)) (hz : x ^^^ y = z) (hq : pc + 1 = q) (r : Run p e below s Q k n (T.setTop (mkF m q Ls (.int z :: S)))) : Run p e below s Q k n (T.setTop (mkF m pc Ls (.int y :: .int x :: S))) := by
  subst hq; subst hz; exact Run.st (fun t kt => XS.ixor X.here hx rfl hd rfl kt) r
theorem Run.x_lxor (X : Stand p l e R s m args below meth c T locs cells slots) (hx : p.tables.exec = Jvm.exec) {pc q : Nat} {Ls : Array Slot} {S : List Value} {x y z : Int64} (hd : decode c.code pc = .ok (.lxor, 1)) (hz : x ^^^ y = z) (hq : pc + 1 = q) (r : Run p e below s Q k n (T.setTop (mkF m q Ls (.long z :: S)))) : Run p e below s Q k n (T.setTop (mkF m pc Ls (.long y :: .long x :: S))) := by
  subst hq; subst hz; exact Run.st (fun t kt => XS.lxor X.here hx rfl hd rfl kt) r
theorem Run.x_ishl (X : Stand p l e R s m args below meth c T locs cells slots) (hx : p.tables.exec = Jvm.exec) {pc q : Nat} {Ls : Array Slot} {S : List Value} {x y z : Int32} (hd : decode c.code pc = .ok (.ishl, 1)) (hz : x <<< (y &&& 31) = z) (hq : pc + 1 = q) (r : Run p e below s Q k n (T.setTop (mkF m q Ls (.int z :: S)))) : Run p e below s Q k n (T.setTop (mkF m pc Ls (.int y :: .int x :: S))) := by
  subst hq; subst hz; exact Run.st (fun t kt => XS.ishl X.here hx rfl hd rfl kt) r
theorem Run.x_ishr (X : Stand p l e R s m args below meth c T locs cells slots) (hx : p.tables.exec = Jvm.exec) {pc q : Nat} {Ls : Array Slot} {S : List Value} {x y z : Int32} (hd : decode c.code pc = .ok (.ishr, 1)) (hz : x >>> (y &&& 31) = z) (hq : pc + 1 = q) (r : Run p e below s Q k n (T.setTop (mkF m q Ls (.int z :: S)))) : Run p e below s Q k n (T.setTop (mkF m pc Ls (.int y :: .int x :: S))) := by
  subst hq; subst hz; exact Run.st (fun t kt => XS.ishr X.here hx rfl hd rfl kt) r
theorem Run.x_iushr (X : Stand p l e R s m args below meth c T locs cells slots) (hx : p.tables.exec = Jvm.exec) {pc q : Nat} {Ls : Array Slot} {S : List Value} {x y z : Int32} (hd : decode c.code pc = .ok (.iushr, 1)) (hz : (x.toUInt32 >>> (y &&& 31).toUInt32).toInt32 = z) (hq : pc + 1 = q) (r : Run p e below s Q k n (T.setTop (mkF m q Ls (.int z :: S)))) : Run p e below s Q k n (T.setTop (mkF m pc Ls (.int y :: .int x :: S))) := by
  subst hq; subst hz; exact Run.st (fun t kt => XS.iushr X.here hx rfl hd rfl kt) r
theorem Run.x_lshl (X : Stand p l e R s m args below meth c T locs cells slots) (hx : p.tables.exec = Jvm.exec) {pc q : Nat} {Ls : Array Slot} {S : List Value} {x z : Int64} {y : Int32} (hd : decode c.code pc = .ok (.lshl, 1)) (hz : x <<< (y &&& 0x3f).toInt64 = z) (hq : pc + 1 = q) (r : Run p e below s Q k n (T.setTop (mkF m q Ls (.long z :: S)))) : Run p e below s Q k n (T.setTop (mkF m pc Ls (.int y :: .long x :: S))) := by
  subst hq; subst hz; exact Run.st (fun t kt => XS.lshl X.here hx rfl hd rfl kt) r
theorem Run.x_lshr (X : Stand p l e R s m args below meth c T locs cells slots) (hx : p.tables.exec = Jvm.exec) {pc q : Nat} {Ls : Array Slot} {S : List Value} {x z : Int64} {y : Int32} (hd : decode c.code pc = .ok (.lshr, 1)) (hz : x >>> (y &&& 0x3f).toInt64 = z) (hq : pc + 1 = q) (r : Run p e below s Q k n (T.setTop (mkF m q Ls (.long z :: S)))) : Run p e below s Q k n (T.setTop (mkF m pc Ls (.int y :: .long x :: S))) := by
  subst hq; subst hz; exact Run.st (fun t kt => XS.lshr X.here hx rfl hd rfl kt) r
theorem Run.x_lushr (X : Stand p l e R s m args below meth c T locs cells slots) (hx : p.tables.exec = Jvm.exec) {pc q : Nat} {Ls : Array Slot} {S : List Value} {x z : Int64} {y : Int32} (hd : decode c.code pc = .ok (.lushr, 1)) (hz : (x.toUInt64 >>> (y &&& 0x3f).toInt64.toUInt64).toInt64 = z) (hq : pc + 1 = q) (r : Run p e below s Q k n (T.setTop (mkF m q Ls (.long z :: S)))) : Run p e below s Q k n (T.setTop (mkF m pc Ls (.int y :: .long x :: S))) := by
  subst hq; subst hz; exact Run.st (fun t kt => XS.lushr X.here hx rfl hd rfl kt) r
theorem Run.x_ineg (X : Stand p l e R s m args below meth c T locs cells slots) (hx : p.tables.exec = Jvm.exec) {pc q : Nat} {Ls : Array Slot} {S : List Value} {x : Int32} {z : Int32} (hd : decode c.code pc = .ok (.ineg, 1)) (hz : -x = z) (hq : pc + 1 = q) (r : Run p e below s Q k n (T.setTop (mkF m q Ls (.int z :: S)))) : Run p e below s Q k n (T.setTop (mkF m pc Ls (.int x :: S))) := by
  subst hq; subst hz; exact Run.st (fun t kt => XS.ineg X.here hx rfl hd rfl kt) r
theorem Run.x_lneg (X : Stand p l e R s m args below meth c T locs cells slots) (hx : p.tables.exec = Jvm.exec) {pc q : Nat} {Ls : Array Slot} {S : List Value} {x : Int64} {z : Int64} (hd : decode c.code pc = .ok (.lneg, 1)) (hz : -x = z) (hq : pc + 1 = q) (r : Run p e below s Q k n (T.setTop (mkF m q Ls (.long z :: S)))) : Run p e below s Q k n (T.setTop (mkF m pc Ls (.long x :: S))) := by
  subst hq; subst hz; exact Run.st (fun t kt => XS.lneg X.here hx rfl hd rfl kt) r
theorem Run.x_i2l (X : Stand p l e R s m args below meth c T locs cells slots) (hx : p.tables.exec = Jvm.exec) {pc q : Nat} {Ls : Array Slot} {S : List Value} {x : Int32} {z : Int64} (hd : decode c.code pc = .ok (.i2l, 1)) (hz : x.toInt64 = z) (hq : pc + 1 = q) (r : Run p e below s Q k n (T.setTop (mkF m q Ls (.long z :: S)))) : Run p e below s Q k n (T.setTop (mkF m pc Ls (.int x :: S))) := by
  subst hq; subst hz; exact Run.st (fun t kt => XS.i2l X.here hx rfl hd rfl kt) r
theorem Run.x_l2i (X : Stand p l e R s m args below meth c T locs cells slots) (hx : p.tables.exec = Jvm.exec) {pc q : Nat} {Ls : Array Slot} {S : List Value} {x : Int64} {z : Int32} (hd : decode c.code pc = .ok (.l2i, 1)) (hz : x.toInt32 = z) (hq : pc + 1 = q) (r : Run p e below s Q k n (T.setTop (mkF m q Ls (.int z :: S)))) : Run p e below s Q k n (T.setTop (mkF m pc Ls (.long x :: S))) := by
  subst hq; subst hz; exact Run.st (fun t kt => XS.l2i X.here hx rfl hd rfl kt) r
theorem Run.x_i2b (X : Stand p l e R s m args below meth c T locs cells slots) (hx : p.tables.exec = Jvm.exec) {pc q : Nat} {Ls : Array Slot} {S : List Value} {x : Int32} {z : Int32} (hd : decode c.code pc = .ok (.i2b, 1)) (hz : x.toInt8.toInt32 = z) (hq : pc + 1 = q) (r : Run p e below s Q k n (T.setTop (mkF m q Ls (.int z :: S)))) : Run p e below s Q k n (T.setTop (mkF m pc Ls (.int x :: S))) := by
  subst hq; subst hz; exact Run.st (fun t kt => XS.i2b X.here hx rfl hd rfl kt) r
theorem Run.x_i2s (X : Stand p l e R s m args below meth c T locs cells slots) (hx : p.tables.exec = Jvm.exec) {pc q : Nat} {Ls : Array Slot} {S : List Value} {x : Int32} {z : Int32} (hd : decode c.code pc = .ok (.i2s, 1)) (hz : x.toInt16.toInt32 = z) (hq : pc + 1 = q) (r : Run p e below s Q k n (T.setTop (mkF m q Ls (.int z :: S)))) : Run p e below s Q k n (T.setTop (mkF m pc Ls (.int x :: S))) := by
  subst hq; subst hz; exact Run.st (fun t kt => XS.i2s X.here hx rfl hd rfl kt) r
theorem Run.x_i2c (X : Stand p l e R s m args below meth c T locs cells slots) (hx : p.tables.exec = Jvm.exec) {pc q : Nat} {Ls : Array Slot} {S : List Value} {x : Int32} {z : Int32} (hd : decode c.code pc = .ok (.i2c, 1)) (hz : x.toUInt32.toUInt16.toUInt32.toInt32 = z) (hq : pc + 1 = q) (r : Run p e below s Q k n (T.setTop (mkF m q Ls (.int z :: S)))) : Run p e below s Q k n (T.setTop (mkF m pc Ls (.int x :: S))) := by
  subst hq; subst hz; exact Run.st (fun t kt => XS.i2c X.here hx rfl hd rfl kt) r
theorem Run.x_lcmp (X : Stand p l e R s m args below meth c T locs cells slots) (hx : p.tables.exec = Jvm.exec) {pc q : Nat} {Ls : Array Slot} {S : List Value} {x y : Int64} (hd : decode c.code pc = .ok (.lcmp, 1)) (hq : pc + 1 = q) (r : Run p e below s Q k n (T.setTop (mkF m q Ls (.int (lcmpW x y) :: S)))) : Run p e below s Q k n (T.setTop (mkF m pc Ls (.long y :: .long x :: S))) := by
  subst hq; exact Run.st (fun t kt => XS.lcmp X.here hx rfl hd rfl kt) r
theorem Run.x_idiv (X : Stand p l e R s m args below meth c T locs cells slots) (hx : p.tables.exec = Jvm.exec) {pc q : Nat} {Ls : Array Slot} {S : List Value} {x y z : Int32} (hd : decode c.code pc = .ok (.idiv, 1)) (hy : y ≠ 0) (hz : x / y = z) (hq : pc + 1 = q) (r : Run p e below s Q k n (T.setTop (mkF m q Ls (.int z :: S)))) : Run p e below s Q k n (T.setTop (mkF m pc Ls (.int y :: .int x :: S))) := by
  subst hq; subst hz; exact Run.st (fun t kt => XS.idiv X.here hx rfl hd rfl hy kt) r
theorem Run.x_ldiv (X : Stand p l e R s m args below meth c T locs cells slots) (hx : p.tables.exec = Jvm.exec) {pc q : Nat} {Ls : Array Slot} {S : List Value} {x y z : Int64} (hd : decode c.code pc = .ok (.ldiv, 1)) (hy : y ≠ 0) (hz : x / y = z) (hq : pc + 1 = q) (r : Run p e below s Q k n (T.setTop (mkF m q Ls (.long z :: S)))) : Run p e below s Q k n (T.setTop (mkF m pc Ls (.long y :: .long x :: S))) := by
  subst hq; subst hz; exact Run.st (fun t kt => XS.ldiv X.here hx rfl hd rfl hy kt) r
theorem Run.x_irem (X : Stand p l e R s m args below meth c T locs cells slots) (hx : p.tables.exec = Jvm.exec) {pc q : Nat} {Ls : Array Slot} {S : List Value} {x y z : Int32} (hd : decode c.code pc = .ok (.irem, 1)) (hy : y ≠ 0) (hz : x % y = z) (hq : pc + 1 = q) (r : Run p e below s Q k n (T.setTop (mkF m q Ls (.int z :: S)))) : Run p e below s Q k n (T.setTop (mkF m pc Ls (.int y :: .int x :: S))) := by
  subst hq; subst hz; exact Run.st (fun t kt => iremM (g := mkF m pc Ls (.int y :: .int x :: S)) X hx rfl hd rfl hy kt) r
theorem Run.x_lrem (X : Stand p l e R s m args below meth c T locs cells slots) (hx : p.tables.exec = Jvm.exec) {pc q : Nat} {Ls : Array Slot} {S : List Value} {x y z : Int64} (hd : decode c.code pc = .ok (.lrem, 1)) (hy : y ≠ 0) (hz : x % y = z) (hq : pc + 1 = q) (r : Run p e below s Q k n (T.setTop (mkF m q Ls (.long z :: S)))) : Run p e below s Q k n (T.setTop (mkF m pc Ls (.long y :: .long x :: S))) := by
  subst hq; subst hz; rw [← lrem_mod] at r; exact Run.st (fun t kt => XS.lrem X.here hx rfl hd rfl hy kt) r
theorem Run.x_iinc (X : Stand p l e R s m args below meth c T locs cells slots) (hx : p.tables.exec = Jvm.exec) {pc q : Nat} {Ls : Array Slot} {S : List Value} {j : Nat} {i : Int} {x z : Int32} (L' : Array Slot) (hd : decode c.code pc = .ok (.iinc j i, 3)) (hl : Ls[j]? = some (.val (.int x))) (hz : x + Int32.ofInt i = z) (hl' : storeLocals Ls j (.int z) = some L') (hq : pc + 3 = q) (r : Run p e below s Q k n (T.setTop (mkF m q L' (S)))) : Run p e below s Q k n (T.setTop (mkF m pc Ls (S))) := by
  subst hq; subst hz; exact Run.st (fun t kt => XS.iinc X.here hx rfl hd hl hl' kt) r
theorem Run.x_dup (X : Stand p l e R s m args below meth c T locs cells slots) (hx : p.tables.exec = Jvm.exec) {pc q : Nat} {Ls : Array Slot} {S : List Value} {v : Value} (hd : decode c.code pc = .ok (.dup, 1)) (hc : v.category = 1) (hq : pc + 1 = q) (r : Run p e below s Q k n (T.setTop (mkF m q Ls (v :: v :: S)))) : Run p e below s Q k n (T.setTop (mkF m pc Ls (v :: S))) := by
  subst hq; exact Run.st (fun t kt => XS.dup X.here hx rfl hd rfl hc kt) r
theorem Run.x_dup_x1 (X : Stand p l e R s m args below meth c T locs cells slots) (hx : p.tables.exec = Jvm.exec) {pc q : Nat} {Ls : Array Slot} {S : List Value} {v w : Value} (hd : decode c.code pc = .ok (.dup_x1, 1)) (hc : v.category = 1) (hc' : w.category = 1) (hq : pc + 1 = q) (r : Run p e below s Q k n (T.setTop (mkF m q Ls (v :: w :: v :: S)))) : Run p e below s Q k n (T.setTop (mkF m pc Ls (v :: w :: S))) := by
  subst hq; exact Run.st (fun t kt => XS.dupX1 X.here hx rfl hd rfl hc hc' kt) r
theorem Run.x_dup2 (X : Stand p l e R s m args below meth c T locs cells slots) (hx : p.tables.exec = Jvm.exec) {pc q : Nat} {Ls : Array Slot} {S : List Value} {v w : Value} (hd : decode c.code pc = .ok (.dup2, 1)) (hc : v.category = 1) (hc' : w.category = 1) (hq : pc + 1 = q) (r : Run p e below s Q k n (T.setTop (mkF m q Ls (v :: w :: v :: w :: S)))) : Run p e below s Q k n (T.setTop (mkF m pc Ls (v :: w :: S))) := by
  subst hq; exact Run.st (fun t kt => XT.dup2 X.here hx rfl hd rfl hc hc' kt) r
theorem Run.x_pop (X : Stand p l e R s m args below meth c T locs cells slots) (hx : p.tables.exec = Jvm.exec) {pc q : Nat} {Ls : Array Slot} {S : List Value} {v : Value} (hd : decode c.code pc = .ok (.pop, 1)) (hc : v.category = 1) (hq : pc + 1 = q) (r : Run p e below s Q k n (T.setTop (mkF m q Ls (S)))) : Run p e below s Q k n (T.setTop (mkF m pc Ls (v :: S))) := by
  subst hq; exact Run.st (fun t kt => XS.pop X.here hx rfl hd rfl hc kt) r
theorem Run.x_goto (X : Stand p l e R s m args below meth c T locs cells slots) (hx : p.tables.exec = Jvm.exec) {pc q : Nat} {Ls : Array Slot} {S : List Value}  {o : Int} (hd : decode c.code pc = .ok (.goto o, 3)) (ho : 0 ≤ (pc : Int) + o) (hq : ((pc : Int) + o).toNat = q) (r : Run p e below s Q k n (T.setTop (mkF m q Ls (S)))) : Run p e below s Q k n (T.setTop (mkF m pc Ls (S))) :=
  Run.st (fun t kt => XS.goto X.here hx rfl (pc0 := pc) (pc' := q) rfl hd ho hq kt) r
theorem Run.x_ifYes (X : Stand p l e R s m args below meth c T locs cells slots) (hx : p.tables.exec = Jvm.exec) {pc q : Nat} {Ls : Array Slot} {S : List Value} {cd : ClassFile.Cond} {x : Int32} {o : Int} (hd : decode c.code pc = .ok (.ifCond cd o, 3)) (hc : ifCond.holds cd x = true) (ho : 0 ≤ (pc : Int) + o) (hq : ((pc : Int) + o).toNat = q) (r : Run p e below s Q k n (T.setTop (mkF m q Ls (S)))) : Run p e below s Q k n (T.setTop (mkF m pc Ls (.int x :: S))) :=
  Run.st (fun t kt => XS.ifYes X.here hx rfl (pc0 := pc) (pc' := q) rfl hd rfl hc ho hq kt) r
theorem Run.x_icmpYes (X : Stand p l e R s m args below meth c T locs cells slots) (hx : p.tables.exec = Jvm.exec) {pc q : Nat} {Ls : Array Slot} {S : List Value} {cd : ClassFile.Cond} {x y : Int32} {o : Int} (hd : decode c.code pc = .ok (.if_icmp cd o, 3)) (hc : if_icmp.holds cd x y = true) (ho : 0 ≤ (pc : Int) + o) (hq : ((pc : Int) + o).toNat = q) (r : Run p e below s Q k n (T.setTop (mkF m q Ls (S)))) : Run p e below s Q k n (T.setTop (mkF m pc Ls (.int y :: .int x :: S))) :=
  Run.st (fun t kt => XS.icmpYes X.here hx rfl (pc0 := pc) (pc' := q) rfl hd rfl hc ho hq kt) r
theorem Run.x_ifNo (X : Stand p l e R s m args below meth c T locs cells slots) (hx : p.tables.exec = Jvm.exec) {pc q : Nat} {Ls : Array Slot} {S : List Value} {cd : ClassFile.Cond} {x : Int32} {o : Int} (hd : decode c.code pc = .ok (.ifCond cd o, 3)) (hc : ifCond.holds cd x = false) (hq : pc + 3 = q) (r : Run p e below s Q k n (T.setTop (mkF m q Ls (S)))) : Run p e below s Q k n (T.setTop (mkF m pc Ls (.int x :: S))) := by
  subst hq; exact Run.st (fun t kt => XS.ifNo X.here hx rfl hd rfl hc kt) r
theorem Run.x_icmpNo (X : Stand p l e R s m args below meth c T locs cells slots) (hx : p.tables.exec = Jvm.exec) {pc q : Nat} {Ls : Array Slot} {S : List Value} {cd : ClassFile.Cond} {x y : Int32} {o : Int} (hd : decode c.code pc = .ok (.if_icmp cd o, 3)) (hc : if_icmp.holds cd x y = false) (hq : pc + 3 = q) (r : Run p e below s Q k n (T.setTop (mkF m q Ls (S)))) : Run p e below s Q k n (T.setTop (mkF m pc Ls (.int y :: .int x :: S))) := by
  subst hq; exact Run.st (fun t kt => XS.icmpNo X.here hx rfl hd rfl hc kt) r
/-- an array and all that it holds -/
def Ars (Z : State) (h : Heap) (a : Addr) (ty : FieldType) (vs : List Value) : Prop := ∃ c : Cell, Arr Z h a c ty ∧ c.slots.toList = vs
variable {a b : Addr} {ty : FieldType} {vs : List Value} {v : Value} {sl : Nat} {ws : List Addr}
theorem Ars.lt (A : Ars Z h a ty vs) : a < h.size := by obtain ⟨c, A, -⟩ := A; exact A.lt
theorem Ars.ext (A : Ars Z h a ty vs) (E : Ext h h') : Ars Z h' a ty vs := by obtain ⟨c, A, r⟩ := A; exact ⟨c, A.ext E, r⟩
theorem Ars.other (A : Ars Z h b ty vs) (W : Wr h h' a sl v) (q : b ≠ a) : Ars Z h' b ty vs := by obtain ⟨c, A, r⟩ := A; exact ⟨c, A.other W q, r⟩
theorem Ars.keep (A : Ars Z h a ty vs) (K : Keep h h' ws) (q : a ∉ ws) : Ars Z h' a ty vs := by obtain ⟨c, A, r⟩ := A; exact ⟨c, ⟨K.2.1 a c A.1 q, A.2⟩, r⟩
theorem Ars.same (A : Ars Z h a ty vs) (W : Wr h h' a sl v) : Ars Z h' a ty (vs.set sl v) := by
  obtain ⟨c, A, r⟩ := A
  exact ⟨_, A.same W, by subst r; simp [Cell.setSlot]⟩
theorem Ars.new {k : ClassId} {z : Int32} (A : Arr Z h a (newA k ty z) ty) : Ars Z h a ty (List.replicate z.toNatClampNeg (defaultValue ty)) := ⟨_, A, by simp [newA]⟩
theorem in_of {c : Cell} {j : Int32} {i : Nat} (e : c.slots.toList = vs) (hj : j.toInt = i) (hi : i < vs.length) : ¬ (j < 0 ∨ c.slots.size ≤ j.toNatClampNeg) ∧ j.toNatClampNeg = i := by
  have e2 : j.toNatClampNeg = i := by show j.toInt.toNat = i; rw [hj]; rfl
  have e3 : c.slots.size = vs.length := by rw [← e]; simp
  refine ⟨?_, e2⟩
  rw [e2, e3, Int32.lt_iff_toInt_lt, hj]
  have : (0 : Int32).toInt = 0 := rfl
  omega
theorem at_of {c : Cell} {j : Int32} {i : Nat} (e : c.slots.toList = vs) (hj : j.toInt = i) (hi : vs[i]? = some v) : ¬ (j < 0 ∨ c.slots.size ≤ j.toNatClampNeg) ∧ c.slots[j.toNatClampNeg]? = some v := by
  obtain ⟨q, e2⟩ := in_of e hj (List.getElem?_eq_some_iff.mp hi).1
  refine ⟨q, ?_⟩
  rw [e2, ← hi, ← e]; simp
theorem Run.newP (X : Stand p l e R s m args below meth c T locs cells slots) (hx : p.tables.exec = Jvm.exec) (hZ : Z.Warmed39 s.vm) (eT : T.heap = h) {aty : ArrayType} (w : (Jvm.Cond.arrayClass (newarray.typeOf aty)).before a0 Z = true) {pc : Nat} {Ls : Array Slot} {z : Int32} {rest : List Value} (hd : decode c.code pc = .ok (.newarray aty, 2))
    {len : Nat} (hz : ¬ z < 0) (hlen : z.toNatClampNeg = len) {cap : Nat} (hcap : len ≤ cap) (hb : cap * 8 ≤ 536870912) (hc : cells + 1 ≤ R.cells) (hl : slots + cap ≤ R.slots)
    (kk : ∀ (T' : State) (h' : Heap) (b : Addr), b = h.size → Stand p l e R s m args below meth c T' locs (cells + 1) (slots + cap) → T'.heap = h' → Ext h h' → Ars Z h' b (newarray.typeOf aty) (List.replicate len (defaultValue (newarray.typeOf aty))) → Run p e below s Q k n (T'.setTop (mkF m (pc + 2) Ls (.ref b :: rest)))) :
    Run p e below s Q k n (T.setTop (mkF m pc Ls (.int z :: rest))) := by
  obtain ⟨T', h', k', X', e', E', A', st'⟩ := RoadKit.newP X hx hZ w eT (g := mkF m pc Ls (.int z :: rest)) rfl hd rfl hz (cap := cap) (by rw [hlen]; exact hcap) hb hc hl
  have A2 := Ars.new A'
  rw [hlen] at A2
  exact Run.st st' (kk T' h' _ rfl X' e' E' A2)
theorem Run.newR (X : Stand p l e R s m args below meth c T locs cells slots) (hx : p.tables.exec = Jvm.exec) (hZ : Z.Warmed39 s.vm) (eT : T.heap = h) {own C : String} {index : Nat} (hown : s.vm.findClass own = some m.cls) (w1 : (Jvm.Cond.classLink own index C).before a0 Z = true) (w2 : (Jvm.Cond.arrayOver (.object C)).before a0 Z = true) {pc : Nat} {Ls : Array Slot} {z : Int32} {rest : List Value} (hd : decode c.code pc = .ok (.anewarray index, 3))
    {len : Nat} (hz : ¬ z < 0) (hlen : z.toNatClampNeg = len) {cap : Nat} (hcap : len ≤ cap) (hb : cap * 8 ≤ 536870912) (hc : cells + 1 ≤ R.cells) (hl : slots + cap ≤ R.slots)
    (kk : ∀ (T' : State) (h' : Heap) (b : Addr), b = h.size → Stand p l e R s m args below meth c T' locs (cells + 1) (slots + cap) → T'.heap = h' → Ext h h' → Ars Z h' b (.object C) (List.replicate len .null) → Run p e below s Q k n (T'.setTop (mkF m (pc + 3) Ls (.ref b :: rest)))) :
    Run p e below s Q k n (T.setTop (mkF m pc Ls (.int z :: rest))) := by
  obtain ⟨T', h', k', X', e', E', A', -, st'⟩ := RoadKit.newR X hx hZ hown w1 w2 eT (g := mkF m pc Ls (.int z :: rest)) rfl hd rfl hz (cap := cap) (by rw [hlen]; exact hcap) hb hc hl
  have A2 := Ars.new A'
  rw [hlen] at A2
  exact Run.st st' (kk T' h' _ rfl X' e' E' A2)
theorem Run.ldI (X : Stand p l e R s m args below meth c T locs cells slots) (hx : p.tables.exec = Jvm.exec) (hZ : Z.Warmed39 s.vm) (eT : T.heap = h) (A : Ars Z h a .int vs) {j : Int32} {i : Nat} (hj : j.toInt = i) (hi : vs[i]? = some v) {pc : Nat} {Ls : Array Slot} {rest : List Value} (hd : decode c.code pc = .ok (.iaload, 1))
    (r : Run p e below s Q k n (T.setTop (mkF m (pc + 1) Ls (v :: rest)))) : Run p e below s Q k n (T.setTop (mkF m pc Ls (.int j :: .ref a :: rest))) := by
  obtain ⟨cl, A, q⟩ := A
  obtain ⟨q1, q2⟩ := at_of q hj hi
  exact Run.st (fun t kt => X.iaload hx (j := j) (v := v) (by rw [eT]; exact A.1) (State.isArrayOf_alike hZ.alike A.2.1) A.2.2 q1 q2 (g := mkF m pc Ls (.int j :: .ref a :: rest)) rfl rfl hd _ kt) r
theorem Run.ldC (X : Stand p l e R s m args below meth c T locs cells slots) (hx : p.tables.exec = Jvm.exec) (hZ : Z.Warmed39 s.vm) (eT : T.heap = h) (A : Ars Z h a .char vs) {j : Int32} {i : Nat} (hj : j.toInt = i) (hi : vs[i]? = some v) {pc : Nat} {Ls : Array Slot} {rest : List Value} (hd : decode c.code pc = .ok (.caload, 1))
    (r : Run p e below s Q k n (T.setTop (mkF m (pc + 1) Ls (v :: rest)))) : Run p e below s Q k n (T.setTop (mkF m pc Ls (.int j :: .ref a :: rest))) := by
  obtain ⟨cl, A, q⟩ := A
  obtain ⟨q1, q2⟩ := at_of q hj hi
  exact Run.st (fun t kt => X.caload hx (j := j) (v := v) (by rw [eT]; exact A.1) (State.isArrayOf_alike hZ.alike A.2.1) A.2.2 q1 q2 (g := mkF m pc Ls (.int j :: .ref a :: rest)) rfl rfl hd _ kt) r
theorem Run.ldJ (X : Stand p l e R s m args below meth c T locs cells slots) (hx : p.tables.exec = Jvm.exec) (hZ : Z.Warmed39 s.vm) (eT : T.heap = h) (A : Ars Z h a .long vs) {j : Int32} {i : Nat} (hj : j.toInt = i) (hi : vs[i]? = some v) {pc : Nat} {Ls : Array Slot} {rest : List Value} (hd : decode c.code pc = .ok (.laload, 1))
    (r : Run p e below s Q k n (T.setTop (mkF m (pc + 1) Ls (v :: rest)))) : Run p e below s Q k n (T.setTop (mkF m pc Ls (.int j :: .ref a :: rest))) := by
  obtain ⟨cl, A, q⟩ := A
  obtain ⟨q1, q2⟩ := at_of q hj hi
  exact Run.st (fun t kt => X.laload hx (j := j) (v := v) (by rw [eT]; exact A.1) (State.isArrayOf_alike hZ.alike A.2.1) A.2.2 q1 q2 (g := mkF m pc Ls (.int j :: .ref a :: rest)) rfl rfl hd _ kt) r
theorem Run.ldB (X : Stand p l e R s m args below meth c T locs cells slots) (hx : p.tables.exec = Jvm.exec) (hZ : Z.Warmed39 s.vm) (eT : T.heap = h) (A : Ars Z h a .byte vs) {j : Int32} {i : Nat} (hj : j.toInt = i) (hi : vs[i]? = some v) {pc : Nat} {Ls : Array Slot} {rest : List Value} (hd : decode c.code pc = .ok (.baload, 1))
    (r : Run p e below s Q k n (T.setTop (mkF m (pc + 1) Ls (v :: rest)))) : Run p e below s Q k n (T.setTop (mkF m pc Ls (.int j :: .ref a :: rest))) := by
  obtain ⟨cl, A, q⟩ := A
  obtain ⟨q1, q2⟩ := at_of q hj hi
  exact Run.st (fun t kt => X.baloadBytes hx (j := j) (v := v) (by rw [eT]; exact A.1) (State.isArrayOf_alike hZ.alike A.2.1) A.2.2 q1 q2 (g := mkF m pc Ls (.int j :: .ref a :: rest)) rfl rfl hd _ kt) r
theorem Run.ldZ (X : Stand p l e R s m args below meth c T locs cells slots) (hx : p.tables.exec = Jvm.exec) (hZ : Z.Warmed39 s.vm) (eT : T.heap = h) (A : Ars Z h a .boolean vs) {j : Int32} {i : Nat} (hj : j.toInt = i) (hi : vs[i]? = some v) {pc : Nat} {Ls : Array Slot} {rest : List Value} (hd : decode c.code pc = .ok (.baload, 1))
    (r : Run p e below s Q k n (T.setTop (mkF m (pc + 1) Ls (v :: rest)))) : Run p e below s Q k n (T.setTop (mkF m pc Ls (.int j :: .ref a :: rest))) := by
  obtain ⟨cl, A, q⟩ := A
  obtain ⟨q1, q2⟩ := at_of q hj hi
  exact Run.st (fun t kt => X.baloadBooleans hx (j := j) (v := v) (by rw [eT]; exact A.1) (State.isArrayOf_alike hZ.alike A.2.1) A.2.2 q1 q2 (g := mkF m pc Ls (.int j :: .ref a :: rest)) rfl rfl hd _ kt) r
theorem Run.ldR (X : Stand p l e R s m args below meth c T locs cells slots) (hx : p.tables.exec = Jvm.exec) (hZ : Z.Warmed39 s.vm) (eT : T.heap = h) (A : Ars Z h a ty vs) {j : Int32} {i : Nat} (hj : j.toInt = i) (hi : vs[i]? = some v) (hty : ty.isReference = true) {pc : Nat} {Ls : Array Slot} {rest : List Value} (hd : decode c.code pc = .ok (.aaload, 1))
    (r : Run p e below s Q k n (T.setTop (mkF m (pc + 1) Ls (v :: rest)))) : Run p e below s Q k n (T.setTop (mkF m pc Ls (.int j :: .ref a :: rest))) := by
  obtain ⟨cl, A, q⟩ := A
  obtain ⟨q1, q2⟩ := at_of q hj hi
  exact Run.st (fun t kt => X.aaload hx (j := j) (v := v) (by rw [eT]; exact A.1) (State.isArrayOf_alike hZ.alike A.2.1) hty A.2.2 q1 q2 (g := mkF m pc Ls (.int j :: .ref a :: rest)) rfl rfl hd _ kt) r
theorem Run.alen (X : Stand p l e R s m args below meth c T locs cells slots) (hx : p.tables.exec = Jvm.exec) (hZ : Z.Warmed39 s.vm) (eT : T.heap = h) (A : Ars Z h a ty vs) {z : Int32} (hz : vs.length.toInt32 = z) {pc : Nat} {Ls : Array Slot} {rest : List Value} (hd : decode c.code pc = .ok (.arraylength, 1))
    (r : Run p e below s Q k n (T.setTop (mkF m (pc + 1) Ls (.int z :: rest)))) : Run p e below s Q k n (T.setTop (mkF m pc Ls (.ref a :: rest))) := by
  obtain ⟨cl, A, q⟩ := A
  have e1 : cl.slots.size.toInt32 = z := by rw [← hz, ← q]; simp
  rw [← e1] at r
  exact Run.st (fun t kt => X.arraylength hx (by rw [eT]; exact A.1) (State.isArrayOf_alike hZ.alike A.2.1) (g := mkF m pc Ls (.ref a :: rest)) rfl rfl hd _ kt) r
theorem Run.stI (X : Stand p l e R s m args below meth c T locs cells slots) (hx : p.tables.exec = Jvm.exec) (hZ : Z.Warmed39 s.vm) (eT : T.heap = h) (A : Ars Z h a .int vs) {j z : Int32} {i : Nat} (hj : j.toInt = i) (hi : i < vs.length) {pc : Nat} {Ls : Array Slot} {rest : List Value} (hd : decode c.code pc = .ok (.iastore, 1))
    (kk : ∀ (T' : State) (h' : Heap), Stand p l e R s m args below meth c T' (locs ++ [⟨a, i⟩]) cells slots → T'.heap = h' → Wr h h' a i (.int z) → Ars Z h' a .int (vs.set i (.int z)) → Run p e below s Q k n (T'.setTop (mkF m (pc + 1) Ls rest))) : Run p e below s Q k n (T.setTop (mkF m pc Ls (.int z :: .int j :: .ref a :: rest))) := by
  obtain ⟨cl, A1, q⟩ := id A
  obtain ⟨q1, q2⟩ := in_of q hj hi
  obtain ⟨T', h', X', e', W', st'⟩ := RoadKit.stI X hx hZ eT A1 (j := j) (x := z) q1 (g := mkF m pc Ls (.int z :: .int j :: .ref a :: rest)) rfl rfl hd
  rw [q2] at X' W'
  exact Run.st st' (kk T' h' X' e' W' (A.same W'))
theorem Run.stJ (X : Stand p l e R s m args below meth c T locs cells slots) (hx : p.tables.exec = Jvm.exec) (hZ : Z.Warmed39 s.vm) (eT : T.heap = h) (A : Ars Z h a .long vs) {j : Int32} {z : Int64} {i : Nat} (hj : j.toInt = i) (hi : i < vs.length) {pc : Nat} {Ls : Array Slot} {rest : List Value} (hd : decode c.code pc = .ok (.lastore, 1))
    (kk : ∀ (T' : State) (h' : Heap), Stand p l e R s m args below meth c T' (locs ++ [⟨a, i⟩]) cells slots → T'.heap = h' → Wr h h' a i (.long z) → Ars Z h' a .long (vs.set i (.long z)) → Run p e below s Q k n (T'.setTop (mkF m (pc + 1) Ls rest))) : Run p e below s Q k n (T.setTop (mkF m pc Ls (.long z :: .int j :: .ref a :: rest))) := by
  obtain ⟨cl, A1, q⟩ := id A
  obtain ⟨q1, q2⟩ := in_of q hj hi
  obtain ⟨T', h', X', e', W', st'⟩ := RoadKit.stJ X hx hZ eT A1 (j := j) (x := z) q1 (g := mkF m pc Ls (.long z :: .int j :: .ref a :: rest)) rfl rfl hd
  rw [q2] at X' W'
  exact Run.st st' (kk T' h' X' e' W' (A.same W'))
theorem Run.stC (X : Stand p l e R s m args below meth c T locs cells slots) (hx : p.tables.exec = Jvm.exec) (hZ : Z.Warmed39 s.vm) (eT : T.heap = h) (A : Ars Z h a .char vs) {j z : Int32} {i : Nat} (hj : j.toInt = i) (hi : i < vs.length) {z' : Int32} (hz : nar .char z = z') {pc : Nat} {Ls : Array Slot} {rest : List Value} (hd : decode c.code pc = .ok (.castore, 1))
    (kk : ∀ (T' : State) (h' : Heap), Stand p l e R s m args below meth c T' (locs ++ [⟨a, i⟩]) cells slots → T'.heap = h' → Wr h h' a i (.int z') → Ars Z h' a .char (vs.set i (.int z')) → Run p e below s Q k n (T'.setTop (mkF m (pc + 1) Ls rest))) : Run p e below s Q k n (T.setTop (mkF m pc Ls (.int z :: .int j :: .ref a :: rest))) := by
  obtain ⟨cl, A1, q⟩ := id A
  obtain ⟨q1, q2⟩ := in_of q hj hi
  obtain ⟨T', h', X', e', W', st'⟩ := RoadKit.stC X hx hZ eT A1 (j := j) (x := z) q1 (g := mkF m pc Ls (.int z :: .int j :: .ref a :: rest)) rfl rfl hd
  rw [q2] at X' W'
  rw [hz] at W'
  exact Run.st st' (kk T' h' X' e' W' (A.same W'))
theorem Run.stB (X : Stand p l e R s m args below meth c T locs cells slots) (hx : p.tables.exec = Jvm.exec) (hZ : Z.Warmed39 s.vm) (eT : T.heap = h) (A : Ars Z h a .byte vs) {j z : Int32} {i : Nat} (hj : j.toInt = i) (hi : i < vs.length) {z' : Int32} (hz : nar .byte z = z') {pc : Nat} {Ls : Array Slot} {rest : List Value} (hd : decode c.code pc = .ok (.bastore, 1))
    (kk : ∀ (T' : State) (h' : Heap), Stand p l e R s m args below meth c T' (locs ++ [⟨a, i⟩]) cells slots → T'.heap = h' → Wr h h' a i (.int z') → Ars Z h' a .byte (vs.set i (.int z')) → Run p e below s Q k n (T'.setTop (mkF m (pc + 1) Ls rest))) : Run p e below s Q k n (T.setTop (mkF m pc Ls (.int z :: .int j :: .ref a :: rest))) := by
  obtain ⟨cl, A1, q⟩ := id A
  obtain ⟨q1, q2⟩ := in_of q hj hi
  obtain ⟨T', h', X', e', W', st'⟩ := RoadKit.stB X hx hZ eT A1 (j := j) (x := z) q1 (g := mkF m pc Ls (.int z :: .int j :: .ref a :: rest)) rfl rfl hd
  rw [q2] at X' W'
  rw [hz] at W'
  exact Run.st st' (kk T' h' X' e' W' (A.same W'))
theorem Run.stZ (X : Stand p l e R s m args below meth c T locs cells slots) (hx : p.tables.exec = Jvm.exec) (hZ : Z.Warmed39 s.vm) (eT : T.heap = h) (A : Ars Z h a .boolean vs) {j z : Int32} {i : Nat} (hj : j.toInt = i) (hi : i < vs.length) {z' : Int32} (hz : nar .boolean z = z') {pc : Nat} {Ls : Array Slot} {rest : List Value} (hd : decode c.code pc = .ok (.bastore, 1))
    (kk : ∀ (T' : State) (h' : Heap), Stand p l e R s m args below meth c T' (locs ++ [⟨a, i⟩]) cells slots → T'.heap = h' → Wr h h' a i (.int z') → Ars Z h' a .boolean (vs.set i (.int z')) → Run p e below s Q k n (T'.setTop (mkF m (pc + 1) Ls rest))) : Run p e below s Q k n (T.setTop (mkF m pc Ls (.int z :: .int j :: .ref a :: rest))) := by
  obtain ⟨cl, A1, q⟩ := id A
  obtain ⟨q1, q2⟩ := in_of q hj hi
  obtain ⟨T', h', X', e', W', st'⟩ := RoadKit.stZ X hx hZ eT A1 (j := j) (x := z) q1 (g := mkF m pc Ls (.int z :: .int j :: .ref a :: rest)) rfl rfl hd
  rw [q2] at X' W'
  rw [hz] at W'
  exact Run.st st' (kk T' h' X' e' W' (A.same W'))
end Laws
theorem nar_b01 {z : Int32} (hz : z = 0 ∨ z = 1) : nar .boolean z = z := by rcases hz with rfl | rfl <;> decide
theorem nar_b (x : Int32) : nar .byte x.toInt8.toInt32 = x.toInt8.toInt32 := by
  show x.toInt8.toInt32.toInt8.toInt32 = x.toInt8.toInt32
  simp
theorem nar_c (x : Int32) : nar .char x.toUInt32.toUInt16.toUInt32.toInt32 = x.toUInt32.toUInt16.toUInt32.toInt32 := by
  show x.toUInt32.toUInt16.toUInt32.toInt32.toUInt32.toUInt16.toUInt32.toInt32 = _
  have q : ∀ y : UInt16, y.toUInt32.toInt32.toUInt32.toUInt16 = y := fun y => by simp
  rw [q]
theorem ints_at (xs : List Int32) {i : Nat} (h : i < xs.length) : ∃ x, (xs.map Value.int)[i]? = some (.int x) := ⟨xs[i], by simp [h]⟩
/-- 1 or 0 -/
def own_b (c : Prop) [Decidable c] : Int32 := if c then 1 else 0
theorem own_b1 {c : Prop} [Decidable c] (h : c) : own_b c = 1 := if_pos h
theorem own_b0 {c : Prop} [Decidable c] (h : ¬ c) : own_b c = 0 := if_neg h
theorem own_b01 (c : Prop) [Decidable c] : own_b c = 0 ∨ own_b c = 1 := by unfold own_b; split <;> simp
theorem sub_w (a b : Int32) : (a.toInt64 - b.toInt64).toInt = a.toInt - b.toInt := by
  have h1 := c_lsub a.toInt64 b.toInt64
  have h2 := rng64 (a.toInt64 - b.toInt64)
  have h3 := rng32 a
  have h4 := rng32 b
  rw [c_i2l, c_i2l] at h1
  omega
theorem lt32 (a b : Int32) : a < b ↔ a.toInt < b.toInt := Int32.lt_iff_toInt_lt
theorem lt64 (a b : Int64) : a < b ↔ a.toInt < b.toInt := Int64.lt_iff_toInt_lt
theorem eq32 (a b : Int32) : a = b ↔ a.toInt = b.toInt := Int32.toInt_inj.symm
theorem eq64 (a b : Int64) : a = b ↔ a.toInt = b.toInt := Int64.toInt_inj.symm
/-- an int comes back, nothing is touched -/
def PureI (h0 : Heap) (n0 : Nat) (z : Int32) (v : Option Value) (h : Heap) (L : List Loc) : Prop := v = some (.int z) ∧ Fr n0 L ∧ h = h0
def PureJ (h0 : Heap) (n0 : Nat) (z : Int64) (v : Option Value) (h : Heap) (L : List Loc) : Prop := v = some (.long z) ∧ Fr n0 L ∧ h = h0
def PureR (h0 : Heap) (n0 : Nat) (z : Value) (v : Option Value) (h : Heap) (L : List Loc) : Prop := v = some z ∧ Fr n0 L ∧ h = h0
theorem PureI.mk {h0 : Heap} {n0 : Nat} {z z' : Int32} {L : List Loc} (e : z' = z) (N : Fr n0 L) : PureI h0 n0 z (some (.int z')) h0 L := ⟨by rw [e], N, rfl⟩
theorem PureJ.mk {h0 : Heap} {n0 : Nat} {z z' : Int64} {L : List Loc} (e : z' = z) (N : Fr n0 L) : PureJ h0 n0 z (some (.long z')) h0 L := ⟨by rw [e], N, rfl⟩
/-- the law's own end -/
def Tru (n0 : Nat) (v : Option Value) (h : Heap) (L : List Loc) : Prop := v = some (.int 1) ∧ Fr n0 L
end Jvm.OwnRun
namespace Jvm.Pilot.@@N@@
open Jvm Jvm.ClassFile Sem Op Lib Jvm.Free Jvm.Stand Jvm.LawKit Jvm.RoadKit Jvm.OwnRun Bundle Jvm.Pilot.@@N@@.Jvm.D
theorem own_add {x y z : Int64} (h : x + y = z) (h1 : -4611686018427387904 ≤ x.toInt + y.toInt) (h2 : x.toInt + y.toInt ≤ 4611686018427387904) : z.toInt = x.toInt + y.toInt := by
  have q := c_ladd x y
  have r := rng64 (x + y)
  rw [h] at q r
  omega
theorem own_sub {x y z : Int64} (h : x - y = z) (h1 : -4611686018427387904 ≤ x.toInt - y.toInt) (h2 : x.toInt - y.toInt ≤ 4611686018427387904) : z.toInt = x.toInt - y.toInt := by
  have q := c_lsub x y
  have r := rng64 (x - y)
  rw [h] at q r
  omega
theorem own_mul {a s w : Int64} {M : Int} (h : a * s = w) (ha : 0 ≤ a.toInt) (ha' : a.toInt ≤ M) (hM : M ≤ 1023) (hs : 1 ≤ s.toInt) (hs' : s.toInt ≤ 32768) : 0 ≤ w.toInt ∧ w.toInt ≤ 33521664 := by
  have q := c_lmul a s
  have r := rng64 (a * s)
  rw [h] at q r
  have h1 : 0 ≤ a.toInt * s.toInt := Int.mul_nonneg ha (by omega)
  have h2 : a.toInt * s.toInt ≤ 1023 * 32768 := Int.mul_le_mul (by omega) hs' (by omega) (by decide)
  omega
theorem own_sh {x : Int32} {s : Int64} (h : (1 : Int64) <<< ((x &&& 15) &&& 0x3f).toInt64 = s) : 1 ≤ s.toInt ∧ s.toInt ≤ 32768 := by
  have q := c_mask x 15 4 (by decide) (by decide)
  obtain ⟨k, hk⟩ : ∃ k, k = x &&& 15 := ⟨_, rfl⟩
  rw [← hk] at h q
  have : k = 0 ∨ k = 1 ∨ k = 2 ∨ k = 3 ∨ k = 4 ∨ k = 5 ∨ k = 6 ∨ k = 7 ∨ k = 8 ∨ k = 9 ∨ k = 10 ∨ k = 11 ∨ k = 12 ∨ k = 13 ∨ k = 14 ∨ k = 15 := by
    simp only [eq32]
    have : (0 : Int32).toInt = 0 ∧ (1 : Int32).toInt = 1 ∧ (2 : Int32).toInt = 2 ∧ (3 : Int32).toInt = 3 ∧ (4 : Int32).toInt = 4 ∧ (5 : Int32).toInt = 5 ∧ (6 : Int32).toInt = 6 ∧ (7 : Int32).toInt = 7 ∧ (8 : Int32).toInt = 8 ∧ (9 : Int32).toInt = 9 ∧ (10 : Int32).toInt = 10 ∧ (11 : Int32).toInt = 11 ∧ (12 : Int32).toInt = 12 ∧ (13 : Int32).toInt = 13 ∧ (14 : Int32).toInt = 14 ∧ (15 : Int32).toInt = 15 := by decide
    omega
  subst h
  rcases this with h | h | h | h | h | h | h | h | h | h | h | h | h | h | h | h <;> subst h <;> decide
theorem own_w255 {x : Int32} {s w : Int64} (h : (x &&& 255).toInt64 * s = w) (hs : 1 ≤ s.toInt ∧ s.toInt ≤ 32768) : 0 ≤ w.toInt ∧ w.toInt ≤ 33521664 := by
  have q := c_mask x 255 8 (by decide) (by decide)
  exact own_mul h (by rw [c_i2l, q]; omega) (M := 1023) (by rw [c_i2l, q]; omega) (by decide) hs.1 hs.2
theorem own_w1023 {x : Int32} {s w : Int64} (h : (x &&& 1023).toInt64 * s = w) (hs : 1 ≤ s.toInt ∧ s.toInt ≤ 32768) : 0 ≤ w.toInt ∧ w.toInt ≤ 33521664 := by
  have q := c_mask x 1023 10 (by decide) (by decide)
  exact own_mul h (by rw [c_i2l, q]; omega) (M := 1023) (by rw [c_i2l, q]; omega) (by decide) hs.1 hs.2
theorem own_nar {x : Int64} (h : -2147483648 ≤ x.toInt) (h' : x.toInt ≤ 2147483647) : x.toInt32.toInt = x.toInt := by
  have q := c_l2i x
  have r := rng32 x.toInt32
  omega
theorem own_tot {w0 w1 w2 w3 g0 g1 g2 tot : Int64} (b0 : 0 ≤ w0.toInt ∧ w0.toInt ≤ 33521664) (b1 : 0 ≤ w1.toInt ∧ w1.toInt ≤ 33521664) (b2 : 0 ≤ w2.toInt ∧ w2.toInt ≤ 33521664) (b3 : 0 ≤ w3.toInt ∧ w3.toInt ≤ 33521664)
    (c0 : 0 ≤ g0.toInt ∧ g0.toInt ≤ 33521664) (c1 : 0 ≤ g1.toInt ∧ g1.toInt ≤ 33521664) (c2 : 0 ≤ g2.toInt ∧ g2.toInt ≤ 33521664)
    (ht : w0 + w1 + w2 + w3 + g0 + g1 + g2 + (6 : Int64) = tot) : tot.toInt = w0.toInt + w1.toInt + w2.toInt + w3.toInt + g0.toInt + g1.toInt + g2.toInt + 6 := by
  have k6 : (6 : Int64).toInt = 6 := rfl
  have t1 := own_add (x := w0) (y := w1) rfl (by omega) (by omega)
  have t2 := own_add (x := w0 + w1) (y := w2) rfl (by omega) (by omega)
  have t3 := own_add (x := w0 + w1 + w2) (y := w3) rfl (by omega) (by omega)
  have t4 := own_add (x := w0 + w1 + w2 + w3) (y := g0) rfl (by omega) (by omega)
  have t5 := own_add (x := w0 + w1 + w2 + w3 + g0) (y := g1) rfl (by omega) (by omega)
  have t6 := own_add (x := w0 + w1 + w2 + w3 + g0 + g1) (y := g2) rfl (by omega) (by omega)
  have t7 := own_add ht (by omega) (by omega)
  rw [t7, t6, t5, t4, t3, t2, t1, k6]
theorem own_f0 {st : Int32} {tot f0 : Int64} (ht : 0 ≤ tot.toInt) (ht' : tot.toInt ≤ 300000000) (hf0 : (if (2147483647 : Int64) - tot < st.toInt64 then (2147483647 : Int64) - tot else st.toInt64) = f0) : -2147483648 ≤ f0.toInt ∧ f0.toInt ≤ 2147483647 - tot.toInt := by
  have kM : (2147483647 : Int64).toInt = 2147483647 := rfl
  have m1 := own_sub (x := (2147483647 : Int64)) (y := tot) rfl (by omega) (by omega)
  have r := rng32 st
  have e := c_i2l st
  rw [kM] at m1
  rw [← hf0]
  split
  · rw [m1]; omega
  · rename_i q
    rw [Int64.lt_iff_toInt_lt, m1] at q
    omega
theorem own_step2 {l g f : Int64} (h : l + (2 : Int64) + g = f) (h1 : -2147483648 ≤ l.toInt) (h2 : l.toInt ≤ 2147483647) (h3 : 0 ≤ g.toInt) (h4 : g.toInt ≤ 33521664) : f.toInt = l.toInt + 2 + g.toInt := by
  have k2 : (2 : Int64).toInt = 2 := rfl
  have u2 := own_add (x := l) (y := 2) rfl (by omega) (by omega)
  have u3 := own_add h (by omega) (by omega)
  omega
theorem own_srt {st : Int32} {w0 w1 w2 w3 g0 g1 g2 tot f0 l0 f1 l1 f2 l2 f3 l3 : Int64} (b0 : 0 ≤ w0.toInt ∧ w0.toInt ≤ 33521664) (b1 : 0 ≤ w1.toInt ∧ w1.toInt ≤ 33521664) (b2 : 0 ≤ w2.toInt ∧ w2.toInt ≤ 33521664) (b3 : 0 ≤ w3.toInt ∧ w3.toInt ≤ 33521664)
    (c0 : 0 ≤ g0.toInt ∧ g0.toInt ≤ 33521664) (c1 : 0 ≤ g1.toInt ∧ g1.toInt ≤ 33521664) (c2 : 0 ≤ g2.toInt ∧ g2.toInt ≤ 33521664)
    (ht : w0 + w1 + w2 + w3 + g0 + g1 + g2 + (6 : Int64) = tot) (hf0 : (if (2147483647 : Int64) - tot < st.toInt64 then (2147483647 : Int64) - tot else st.toInt64) = f0)
    (hl0 : f0 + w0 = l0) (hf1 : l0 + (2 : Int64) + g0 = f1) (hl1 : f1 + w1 = l1) (hf2 : l1 + (2 : Int64) + g1 = f2) (hl2 : f2 + w2 = l2) (hf3 : l2 + (2 : Int64) + g2 = f3) (hl3 : f3 + w3 = l3) :
    f0.toInt32.toInt ≤ l0.toInt32.toInt ∧ l0.toInt32.toInt < f1.toInt32.toInt ∧ f1.toInt32.toInt ≤ l1.toInt32.toInt ∧ l1.toInt32.toInt < f2.toInt32.toInt ∧ f2.toInt32.toInt ≤ l2.toInt32.toInt ∧ l2.toInt32.toInt < f3.toInt32.toInt ∧ f3.toInt32.toInt ≤ l3.toInt32.toInt := by
  have t := own_tot b0 b1 b2 b3 c0 c1 c2 ht
  have hf := own_f0 (by omega) (by omega) hf0
  rw [t] at hf
  clear t hf0 ht
  have u1 := own_add hl0 (by omega) (by omega)
  have u3 := own_step2 hf1 (by omega) (by omega) (by omega) (by omega)
  have u4 := own_add hl1 (by omega) (by omega)
  have u6 := own_step2 hf2 (by omega) (by omega) (by omega) (by omega)
  have u7 := own_add hl2 (by omega) (by omega)
  have u9 := own_step2 hf3 (by omega) (by omega) (by omega) (by omega)
  have u10 := own_add hl3 (by omega) (by omega)
  rw [own_nar (x := f0) (by omega) (by omega), own_nar (x := l0) (by omega) (by omega), own_nar (x := f1) (by omega) (by omega), own_nar (x := l1) (by omega) (by omega), own_nar (x := f2) (by omega) (by omega), own_nar (x := l2) (by omega) (by omega), own_nar (x := f3) (by omega) (by omega), own_nar (x := l3) (by omega) (by omega)]
  omega
theorem own_cnt {p v w : Int32} (h : p &&& 7 = v) (h4 : (4 : Int32) < v) (hw : v - 4 = w) : w = 0 ∨ w = 1 ∨ w = 2 ∨ w = 3 ∨ w = 4 := by
  have q := c_mask p 7 3 (by decide) (by decide)
  have r := c_isub v 4
  have u := rng32 w
  rw [hw] at r
  rw [h] at q
  rw [lt32] at h4
  simp only [eq32]
  have : (0 : Int32).toInt = 0 ∧ (1 : Int32).toInt = 1 ∧ (2 : Int32).toInt = 2 ∧ (3 : Int32).toInt = 3 ∧ (4 : Int32).toInt = 4 := by decide
  omega
theorem own_cnt' {p v : Int32} (h : p &&& 7 = v) (h4 : ¬ (4 : Int32) < v) : v = 0 ∨ v = 1 ∨ v = 2 ∨ v = 3 ∨ v = 4 := by
  have q := c_mask p 7 3 (by decide) (by decide)
  rw [h] at q
  rw [lt32] at h4
  simp only [eq32]
  have : (0 : Int32).toInt = 0 ∧ (1 : Int32).toInt = 1 ∧ (2 : Int32).toInt = 2 ∧ (3 : Int32).toInt = 3 ∧ (4 : Int32).toInt = 4 := by decide
  omega
theorem own_idx (p : Int32) : ∃ i : Nat, (p &&& 7).toInt = i ∧ i < 8 := by
  have q := c_mask p 7 3 (by decide) (by decide)
  exact ⟨(p &&& 7).toInt.toNat, by omega, by omega⟩
theorem own_b_no {c : Prop} [Decidable c] (h : own_b c = 0) : ¬ c := fun q => by rw [own_b1 q] at h; cases h
theorem own_b_yes {c : Prop} [Decidable c] (h : ¬ own_b c = 0) : c := Decidable.byContradiction fun q => h (own_b0 q)
abbrev own_in (c a b : Int32) : Prop := ¬ c < a ∧ ¬ b < c
theorem d1_0 : decode jdk_29_method_70_code 0 = .ok (.lload_n 0, 1) := by decide +kernel
theorem d1_1 : decode jdk_29_method_70_code 1 = .ok (.lload_n 2, 1) := by decide +kernel
theorem d1_2 : decode jdk_29_method_70_code 2 = .ok (.lcmp, 1) := by decide +kernel
theorem d1_3 : decode jdk_29_method_70_code 3 = .ok (.ifCond .gt 7, 3) := by decide +kernel
theorem d1_6 : decode jdk_29_method_70_code 6 = .ok (.lload_n 0, 1) := by decide +kernel
theorem d1_7 : decode jdk_29_method_70_code 7 = .ok (.goto 4, 3) := by decide +kernel
theorem d1_10 : decode jdk_29_method_70_code 10 = .ok (.lload_n 2, 1) := by decide +kernel
theorem d1_11 : decode jdk_29_method_70_code 11 = .ok (.lreturn, 1) := by decide +kernel
theorem ef_c_min (m : MethodId) (p1 : Int64) (p2 : Int64) : entryFrame m #[(.long p1), (.long p2)] 4 = mkF m 0 #[.val (.long p1), .second, .val (.long p2), .second] [] := by first | (simp [entryFrame, mkF, argsToLocals, Value.category]; done) | rfl
set_option maxRecDepth 65536 in
set_option maxHeartbeats 40000000 in
theorem c_min (l : Launch) (Z : State) (a0 : Array Value) (hw : ∀ d ∈ tables_1, d.before a0 Z = true) (p1 : Int64) (p2 : Int64) (h0 : Heap) (n0 : Nat) (Z0 : n0 ≤ h0.size)  :
    Ctr l Z (⟨"java/lang/Math", "min", "(JJ)J"⟩ : MethodName) jdk_29_method_70_code 4 (some .long) ({ frames := 0, cells := 0, slots := 0, locals := 0 } : Room) #[(.long p1), (.long p2)] h0 (PureJ h0 n0 (if p2 < p1 then p2 else p1)) := by
  refine Ctr.of (Jvm.Free.JP.mathPlain rfl (by decide +kernel)) (fun m => ef_c_min m p1 p2) ?_
  intro p e s m below meth c T0 hx hby hml hown hnm hret hlk hZ e0 X0
  have N0 := Fr.nil n0
  replace hown : s.vm.findClass "java/lang/Math" = some m.cls := hown
  replace hml : c.maxLocals = 4 := hml
  refine Run.x_lloadN (q := 1) X0 hx (hb hby d1_0) rfl rfl ?_
  refine Run.x_lloadN (q := 2) X0 hx (hb hby d1_1) rfl rfl ?_
  refine Run.x_lcmp (q := 3) X0 hx (hb hby d1_2)  rfl ?_
  by_cases hc3 : p2 < p1
  · skip
    refine Run.x_ifYes (q := 10) X0 hx (hb hby d1_3) ((if0 _ _).trans (tlt ((lw_gt p1 p2).mpr hc3)).2.2.1) (by decide) (by decide) ?_
    refine Run.x_lloadN (q := 11) X0 hx (hb hby d1_10) rfl rfl ?_
    refine Run.retJ X0 hx hlk e0 hret (hb hby d1_11) (by decide) (by decide) ?_
    exact PureJ.mk (by simp [hc3]) N0
  · skip
    refine Run.x_ifNo (q := 6) X0 hx (hb hby d1_3) ((if0 _ _).trans (flt (mt (lw_gt p1 p2).mp hc3)).2.2.1) rfl ?_
    refine Run.x_lloadN (q := 7) X0 hx (hb hby d1_6) rfl rfl ?_
    refine Run.x_goto (q := 11) X0 hx (hb hby d1_7) (by decide) (by decide) ?_
    refine Run.retJ X0 hx hlk e0 hret (hb hby d1_11) (by decide) (by decide) ?_
    exact PureJ.mk (by simp [hc3]) N0
theorem d2_0 : decode method_3_code 0 = .ok (.iload_n 1, 1) := by decide +kernel
theorem d2_1 : decode method_3_code 1 = .ok (.iload_n 0, 1) := by decide +kernel
theorem d2_2 : decode method_3_code 2 = .ok (.if_icmp .gt 12, 3) := by decide +kernel
theorem d2_5 : decode method_3_code 5 = .ok (.iload_n 0, 1) := by decide +kernel
theorem d2_6 : decode method_3_code 6 = .ok (.iload_n 2, 1) := by decide +kernel
theorem d2_7 : decode method_3_code 7 = .ok (.if_icmp .gt 7, 3) := by decide +kernel
theorem d2_10 : decode method_3_code 10 = .ok (.iconst 1, 1) := by decide +kernel
theorem d2_11 : decode method_3_code 11 = .ok (.goto 4, 3) := by decide +kernel
theorem d2_14 : decode method_3_code 14 = .ok (.iconst 0, 1) := by decide +kernel
theorem d2_15 : decode method_3_code 15 = .ok (.ireturn, 1) := by decide +kernel
theorem pn_0 : plainName "com/example/corbel/corbel/core/regex/RangesContainsPinLaw" = true := by first | (simp [plainName, overriddenIn]; done) | decide +kernel
theorem ef_c_in (m : MethodId) (p1 : Int32) (p2 : Int32) (p3 : Int32) : entryFrame m #[(.int p1), (.int p2), (.int p3)] 3 = mkF m 0 #[.val (.int p1), .val (.int p2), .val (.int p3)] [] := by first | (simp [entryFrame, mkF, argsToLocals, Value.category]; done) | rfl
set_option maxRecDepth 65536 in
set_option maxHeartbeats 40000000 in
theorem c_in (l : Launch) (Z : State) (a0 : Array Value) (hw : ∀ d ∈ tables_1, d.before a0 Z = true) (p1 : Int32) (p2 : Int32) (p3 : Int32) (h0 : Heap) (n0 : Nat) (Z0 : n0 ≤ h0.size)  :
    Ctr l Z (⟨"com/example/corbel/corbel/core/regex/RangesContainsPinLaw", "in", "(III)Z"⟩ : MethodName) method_3_code 3 (some .boolean) ({ frames := 0, cells := 0, slots := 0, locals := 0 } : Room) #[(.int p1), (.int p2), (.int p3)] h0 (PureI h0 n0 (own_b (own_in p1 p2 p3))) := by
  refine Ctr.of (plainFor_of_name pn_0) (fun m => ef_c_in m p1 p2 p3) ?_
  intro p e s m below meth c T0 hx hby hml hown hnm hret hlk hZ e0 X0
  have N0 := Fr.nil n0
  replace hown : s.vm.findClass "com/example/corbel/corbel/core/regex/RangesContainsPinLaw" = some m.cls := hown
  replace hml : c.maxLocals = 3 := hml
  refine Run.x_iloadN (q := 1) X0 hx (hb hby d2_0) rfl rfl ?_
  refine Run.x_iloadN (q := 2) X0 hx (hb hby d2_1) rfl rfl ?_
  by_cases hc2 : p1 < p2
  · skip
    refine Run.x_icmpYes (q := 14) X0 hx (hb hby d2_2) (tlt hc2).2.2.1 (by decide) (by decide) ?_
    refine Run.x_iconst (q := 15) X0 hx (hb hby d2_14) (z := (0 : Int32)) rfl rfl ?_
    refine Run.retN X0 hx hlk e0 (t := .boolean) hret (by simp) (z' := (0 : Int32)) (by decide) (hb hby d2_15) (by decide) (by decide) ?_
    exact PureI.mk (by simp [own_b, own_in, hc2]) N0
  · skip
    refine Run.x_icmpNo (q := 5) X0 hx (hb hby d2_2) (flt hc2).2.2.1 rfl ?_
    refine Run.x_iloadN (q := 6) X0 hx (hb hby d2_5) rfl rfl ?_
    refine Run.x_iloadN (q := 7) X0 hx (hb hby d2_6) rfl rfl ?_
    by_cases hc7 : p3 < p1
    · skip
      refine Run.x_icmpYes (q := 14) X0 hx (hb hby d2_7) (tlt hc7).2.2.1 (by decide) (by decide) ?_
      refine Run.x_iconst (q := 15) X0 hx (hb hby d2_14) (z := (0 : Int32)) rfl rfl ?_
      refine Run.retN X0 hx hlk e0 (t := .boolean) hret (by simp) (z' := (0 : Int32)) (by decide) (hb hby d2_15) (by decide) (by decide) ?_
      exact PureI.mk (by simp [own_b, own_in, hc2, hc7]) N0
    · skip
      refine Run.x_icmpNo (q := 10) X0 hx (hb hby d2_7) (flt hc7).2.2.1 rfl ?_
      refine Run.x_iconst (q := 11) X0 hx (hb hby d2_10) (z := (1 : Int32)) rfl rfl ?_
      refine Run.x_goto (q := 15) X0 hx (hb hby d2_11) (by decide) (by decide) ?_
      refine Run.retN X0 hx hlk e0 (t := .boolean) hret (by simp) (z' := (1 : Int32)) (by decide) (hb hby d2_15) (by decide) (by decide) ?_
      exact PureI.mk (by simp [own_b, own_in, hc2, hc7]) N0
theorem d3_0 : decode prog_44_method_1_code 0 = .ok (.aload_n 0, 1) := by decide +kernel
theorem d3_1 : decode prog_44_method_1_code 1 = .ok (.invokespecial 1, 3) := by decide +kernel
theorem d3_4 : decode prog_44_method_1_code 4 = .ok (.return_, 1) := by decide +kernel
theorem pn_1 : plainName "com/example/corbel/corbel/core/regex/CharSet" = true := by first | (simp [plainName, overriddenIn]; done) | decide +kernel
theorem ef_c_sup (m : MethodId) (this : Addr) : entryFrame m #[(.ref this)] 1 = mkF m 0 #[.val (.ref this)] [] := by first | (simp [entryFrame, mkF, argsToLocals, Value.category]; done) | rfl
set_option maxRecDepth 65536 in
set_option maxHeartbeats 40000000 in
theorem c_sup (l : Launch) (Z : State) (a0 : Array Value) (hw : ∀ d ∈ tables_1, d.before a0 Z = true) (this : Addr) (h0 : Heap) (n0 : Nat) (Z0 : n0 ≤ h0.size)  :
    Ctr l Z (⟨"com/example/corbel/corbel/core/regex/CharSet", "<init>", "()V"⟩ : MethodName) prog_44_method_1_code 1 none ({ frames := 1, cells := 0, slots := 0, locals := 12 } : Room) #[(.ref this)] h0 (fun v h L => v = none ∧ Fr n0 L ∧ h = h0) := by
  refine Ctr.of (plainFor_of_name pn_1) (fun m => ef_c_sup m this) ?_
  intro p e s m below meth c T0 hx hby hml hown hnm hret hlk hZ e0 X0
  have N0 := Fr.nil n0
  replace hown : s.vm.findClass "com/example/corbel/corbel/core/regex/CharSet" = some m.cls := hown
  replace hml : c.maxLocals = 1 := hml
  refine Run.x_aloadN (q := 1) X0 hx (hb hby d3_0) rfl rfl rfl ?_
  refine Run.init X0 hx hZ e0 hown (hw _ (List.mem_of_getElem? (i := 19) rfl)) (hw _ (List.mem_of_getElem? (i := 20) rfl)) (hw _ (List.mem_of_getElem? (i := 21) rfl)) (by rw [hml]; rfl) (hb hby d3_1) (by decide) (W := 0) rfl (by decide) ?_
  intro T1 X1 e1
  show Run p e below s _ _ _ (T1.setTop (mkF m 4 #[.val (.ref this)] []))
  refine Run.retV X1 hx hlk e1 hret (hb hby d3_4) (by decide) (by decide) ?_
  exact ⟨rfl, N0, rfl⟩
theorem d4_0 : decode prog_50_method_1_code 0 = .ok (.aload_n 0, 1) := by decide +kernel
theorem d4_1 : decode prog_50_method_1_code 1 = .ok (.invokespecial 1, 3) := by decide +kernel
theorem d4_4 : decode prog_50_method_1_code 4 = .ok (.aload_n 0, 1) := by decide +kernel
theorem d4_5 : decode prog_50_method_1_code 5 = .ok (.aload_n 1, 1) := by decide +kernel
theorem d4_6 : decode prog_50_method_1_code 6 = .ok (.putfield 7, 3) := by decide +kernel
theorem d4_9 : decode prog_50_method_1_code 9 = .ok (.return_, 1) := by decide +kernel
theorem pn_2 : plainName "com/example/corbel/corbel/core/regex/CharSet$Ranges" = true := by first | (simp [plainName, overriddenIn]; done) | decide +kernel
theorem ef_c_init (m : MethodId) (this : Addr) (r1 : Addr) : entryFrame m #[(.ref this), (.ref r1)] 2 = mkF m 0 #[.val (.ref this), .val (.ref r1)] [] := by first | (simp [entryFrame, mkF, argsToLocals, Value.category]; done) | rfl
theorem pd_0 : parseMethodDescriptor "()V" = some ⟨[], none⟩ := by decide +kernel
set_option maxRecDepth 65536 in
set_option maxHeartbeats 40000000 in
theorem c_init (l : Launch) (Z : State) (a0 : Array Value) (hw : ∀ d ∈ tables_1, d.before a0 Z = true) (this : Addr) (r1 : Addr) (h0 : Heap) (n0 : Nat) (Z0 : n0 ≤ h0.size) (E_this : Exa Z h0 this "com/example/corbel/corbel/core/regex/CharSet$Ranges") (F_this_bounds : Fld Z h0 this "com/example/corbel/corbel/core/regex/CharSet$Ranges" "bounds" "[I" .null) (g_this : n0 ≤ this) :
    Ctr l Z (⟨"com/example/corbel/corbel/core/regex/CharSet$Ranges", "<init>", "([I)V"⟩ : MethodName) prog_50_method_1_code 2 none ({ frames := 2, cells := 0, slots := 0, locals := 24 } : Room) #[(.ref this), (.ref r1)] h0 (fun v h L => v = none ∧ Fr n0 L ∧ Keep h0 h [this] ∧ Exa Z h this "com/example/corbel/corbel/core/regex/CharSet$Ranges" ∧ Fld Z h this "com/example/corbel/corbel/core/regex/CharSet$Ranges" "bounds" "[I" (.ref r1)) := by
  refine Ctr.of (plainFor_of_name pn_2) (fun m => ef_c_init m this r1) ?_
  intro p e s m below meth c T0 hx hby hml hown hnm hret hlk hZ e0 X0
  have N0 := Fr.nil n0
  replace hown : s.vm.findClass "com/example/corbel/corbel/core/regex/CharSet$Ranges" = some m.cls := hown
  replace hml : c.maxLocals = 2 := hml
  have KP := Keep.refl h0 [this]
  refine Run.x_aloadN (q := 1) X0 hx (hb hby d4_0) rfl rfl rfl ?_
  refine Run.callC X0 hx hZ e0 (y := (⟨"com/example/corbel/corbel/core/regex/CharSet", "<init>", "()V"⟩ : MethodName)) hown rfl (hw _ (List.mem_of_getElem? (i := 14) rfl)) (hw _ (List.mem_of_getElem? (i := 15) rfl)) (hw _ (List.mem_of_getElem? (i := 17) rfl)) (hw _ (List.mem_of_getElem? (i := 18) rfl)) (by decide) (a := this) (argsL := []) (rest := []) (c_sup l Z a0 hw this h0 n0 Z0) pd_0 rfl (by rw [hml]; rfl) (W := 0) rfl (by decide) (by decide) (by decide) (by decide) (hb hby d4_1) rfl ?_
  intro T1 v1 L1 X1 q1
  obtain ⟨rfl, M1, e1⟩ := q1
  have N1 := Fr.app N0 M1
  show Run p e below s _ _ _ (T1.setTop (mkF m 4 #[.val (.ref this), .val (.ref r1)] []))
  refine Run.x_aloadN (q := 5) X1 hx (hb hby d4_4) rfl rfl rfl ?_
  refine Run.x_aloadN (q := 6) X1 hx (hb hby d4_5) rfl rfl rfl ?_
  obtain ⟨T2, h2, X2, e2, W2, st2⟩ := putF X1 hx hZ hown (host := "") (Or.inl (hw _ (List.mem_of_getElem? (i := 22) rfl))) Via.refl e1 F_this_bounds E_this (Or.inr ⟨(hw _ (List.mem_of_getElem? (i := 23) rfl)), rfl, hnm⟩) (hw _ (List.mem_of_getElem? (i := 9) rfl)) (ty := (.array .int)) (by decide) rfl rfl (g := (mkF m 6 #[.val (.ref this), .val (.ref r1)] [(.ref r1), (.ref this)])) rfl rfl (hb hby d4_6)
  replace F_this_bounds := F_this_bounds.same W2
  have Z2 : n0 ≤ h2.size := Nat.le_trans Z0 (Nat.le_of_eq W2.size.symm)
  replace KP := KP.wr W2 (Or.inl (by simp))
  have N2 := Fr.snoc X2 N1 g_this
  refine Run.st st2 ?_
  show Run p e below s _ _ _ (T2.setTop (mkF m 9 #[.val (.ref this), .val (.ref r1)] []))
  replace E_this := E_this.wr W2
  refine Run.retV X2 hx hlk e2 hret (hb hby d4_9) (by decide) (by decide) ?_
  exact ⟨rfl, N2, KP, E_this, F_this_bounds⟩
theorem d5_0 : decode prog_50_method_4_code 0 = .ok (.iconst 0, 1) := by decide +kernel
theorem d5_1 : decode prog_50_method_4_code 1 = .ok (.istore_n 2, 1) := by decide +kernel
theorem d5_2 : decode prog_50_method_4_code 2 = .ok (.aload_n 0, 1) := by decide +kernel
theorem d5_3 : decode prog_50_method_4_code 3 = .ok (.getfield 7, 3) := by decide +kernel
theorem d5_6 : decode prog_50_method_4_code 6 = .ok (.arraylength, 1) := by decide +kernel
theorem d5_7 : decode prog_50_method_4_code 7 = .ok (.iconst 2, 1) := by decide +kernel
theorem d5_8 : decode prog_50_method_4_code 8 = .ok (.idiv, 1) := by decide +kernel
theorem d5_9 : decode prog_50_method_4_code 9 = .ok (.iconst 1, 1) := by decide +kernel
theorem d5_10 : decode prog_50_method_4_code 10 = .ok (.isub, 1) := by decide +kernel
theorem d5_11 : decode prog_50_method_4_code 11 = .ok (.istore_n 3, 1) := by decide +kernel
theorem d5_12 : decode prog_50_method_4_code 12 = .ok (.iload_n 2, 1) := by decide +kernel
theorem d5_13 : decode prog_50_method_4_code 13 = .ok (.iload_n 3, 1) := by decide +kernel
theorem d5_14 : decode prog_50_method_4_code 14 = .ok (.if_icmp .gt 59, 3) := by decide +kernel
theorem d5_17 : decode prog_50_method_4_code 17 = .ok (.iload_n 2, 1) := by decide +kernel
theorem d5_18 : decode prog_50_method_4_code 18 = .ok (.iload_n 3, 1) := by decide +kernel
theorem d5_19 : decode prog_50_method_4_code 19 = .ok (.iadd, 1) := by decide +kernel
theorem d5_20 : decode prog_50_method_4_code 20 = .ok (.iconst 1, 1) := by decide +kernel
theorem d5_21 : decode prog_50_method_4_code 21 = .ok (.iushr, 1) := by decide +kernel
theorem d5_22 : decode prog_50_method_4_code 22 = .ok (.istore 4, 2) := by decide +kernel
theorem d5_24 : decode prog_50_method_4_code 24 = .ok (.iload_n 1, 1) := by decide +kernel
theorem d5_25 : decode prog_50_method_4_code 25 = .ok (.aload_n 0, 1) := by decide +kernel
theorem d5_26 : decode prog_50_method_4_code 26 = .ok (.getfield 7, 3) := by decide +kernel
theorem d5_29 : decode prog_50_method_4_code 29 = .ok (.iconst 2, 1) := by decide +kernel
theorem d5_30 : decode prog_50_method_4_code 30 = .ok (.iload 4, 2) := by decide +kernel
theorem d5_32 : decode prog_50_method_4_code 32 = .ok (.imul, 1) := by decide +kernel
theorem d5_33 : decode prog_50_method_4_code 33 = .ok (.iaload, 1) := by decide +kernel
theorem d5_34 : decode prog_50_method_4_code 34 = .ok (.if_icmp .ge 11, 3) := by decide +kernel
theorem d5_37 : decode prog_50_method_4_code 37 = .ok (.iload 4, 2) := by decide +kernel
theorem d5_39 : decode prog_50_method_4_code 39 = .ok (.iconst 1, 1) := by decide +kernel
theorem d5_40 : decode prog_50_method_4_code 40 = .ok (.isub, 1) := by decide +kernel
theorem d5_41 : decode prog_50_method_4_code 41 = .ok (.istore_n 3, 1) := by decide +kernel
theorem d5_42 : decode prog_50_method_4_code 42 = .ok (.goto 28, 3) := by decide +kernel
theorem d5_45 : decode prog_50_method_4_code 45 = .ok (.iload_n 1, 1) := by decide +kernel
theorem d5_46 : decode prog_50_method_4_code 46 = .ok (.aload_n 0, 1) := by decide +kernel
theorem d5_47 : decode prog_50_method_4_code 47 = .ok (.getfield 7, 3) := by decide +kernel
theorem d5_50 : decode prog_50_method_4_code 50 = .ok (.iconst 2, 1) := by decide +kernel
theorem d5_51 : decode prog_50_method_4_code 51 = .ok (.iload 4, 2) := by decide +kernel
theorem d5_53 : decode prog_50_method_4_code 53 = .ok (.imul, 1) := by decide +kernel
theorem d5_54 : decode prog_50_method_4_code 54 = .ok (.iconst 1, 1) := by decide +kernel
theorem d5_55 : decode prog_50_method_4_code 55 = .ok (.iadd, 1) := by decide +kernel
theorem d5_56 : decode prog_50_method_4_code 56 = .ok (.iaload, 1) := by decide +kernel
theorem d5_57 : decode prog_50_method_4_code 57 = .ok (.if_icmp .le 11, 3) := by decide +kernel
theorem d5_60 : decode prog_50_method_4_code 60 = .ok (.iload 4, 2) := by decide +kernel
theorem d5_62 : decode prog_50_method_4_code 62 = .ok (.iconst 1, 1) := by decide +kernel
theorem d5_63 : decode prog_50_method_4_code 63 = .ok (.iadd, 1) := by decide +kernel
theorem d5_64 : decode prog_50_method_4_code 64 = .ok (.istore_n 2, 1) := by decide +kernel
theorem d5_65 : decode prog_50_method_4_code 65 = .ok (.goto 5, 3) := by decide +kernel
theorem d5_68 : decode prog_50_method_4_code 68 = .ok (.iconst 1, 1) := by decide +kernel
theorem d5_69 : decode prog_50_method_4_code 69 = .ok (.ireturn, 1) := by decide +kernel
theorem d5_70 : decode prog_50_method_4_code 70 = .ok (.goto (-58), 3) := by decide +kernel
theorem d5_73 : decode prog_50_method_4_code 73 = .ok (.iconst 0, 1) := by decide +kernel
theorem d5_74 : decode prog_50_method_4_code 74 = .ok (.ireturn, 1) := by decide +kernel
theorem ef_c_con0 (m : MethodId) (this : Addr) (p1 : Int32) : entryFrame m #[(.ref this), (.int p1)] 5 = mkF m 0 #[.val (.ref this), .val (.int p1), .unset, .unset, .unset] [] := by first | (simp [entryFrame, mkF, argsToLocals, Value.category]; done) | rfl
set_option maxRecDepth 65536 in
set_option maxHeartbeats 40000000 in
theorem c_con0 (l : Launch) (Z : State) (a0 : Array Value) (hw : ∀ d ∈ tables_1, d.before a0 Z = true) (this : Addr) (p1 : Int32) (h0 : Heap) (n0 : Nat) (Z0 : n0 ≤ h0.size) (r1 : Addr) (E_this : Exa Z h0 this "com/example/corbel/corbel/core/regex/CharSet$Ranges") (F_this_bounds : Fld Z h0 this "com/example/corbel/corbel/core/regex/CharSet$Ranges" "bounds" "[I" (.ref r1)) (A_r1 : Ars Z h0 r1 .int []) (hs : True) :
    Ctr l Z (⟨"com/example/corbel/corbel/core/regex/CharSet$Ranges", "contains", "(I)Z"⟩ : MethodName) prog_50_method_4_code 5 (some .boolean) ({ frames := 0, cells := 0, slots := 0, locals := 0 } : Room) #[(.ref this), (.int p1)] h0 (PureI h0 n0 (own_b (False))) := by
  refine Ctr.of (plainFor_of_name pn_2) (fun m => ef_c_con0 m this p1) ?_
  intro p e s m below meth c T0 hx hby hml hown hnm hret hlk hZ e0 X0
  have N0 := Fr.nil n0
  replace hown : s.vm.findClass "com/example/corbel/corbel/core/regex/CharSet$Ranges" = some m.cls := hown
  replace hml : c.maxLocals = 5 := hml
  refine Run.x_iconst (q := 1) X0 hx (hb hby d5_0) (z := (0 : Int32)) rfl rfl ?_
  refine Run.x_istoreN (q := 2) X0 hx #[.val (.ref this), .val (.int p1), .val (.int (0 : Int32)), .unset, .unset] (hb hby d5_1) rfl rfl ?_
  refine Run.x_aloadN (q := 3) X0 hx (hb hby d5_2) rfl rfl rfl ?_
  obtain ⟨T1, X1, e1, st1⟩ := getF X0 hx hZ hown (host := "") (Or.inl (hw _ (List.mem_of_getElem? (i := 22) rfl))) Via.refl e0 F_this_bounds (g := (mkF m 3 #[.val (.ref this), .val (.int p1), .val (.int (0 : Int32)), .unset, .unset] [(.ref this)])) rfl rfl (hb hby d5_3)
  refine Run.st st1 ?_
  show Run p e below s _ _ _ (T1.setTop (mkF m 6 #[.val (.ref this), .val (.int p1), .val (.int (0 : Int32)), .unset, .unset] [(.ref r1)]))
  refine Run.alen X1 hx hZ e1 A_r1 (z := (0 : Int32)) (by decide) (hb hby d5_6) ?_
  show Run p e below s _ _ _ (T1.setTop (mkF m 7 #[.val (.ref this), .val (.int p1), .val (.int (0 : Int32)), .unset, .unset] [(.int (0 : Int32))]))
  refine Run.x_iconst (q := 8) X1 hx (hb hby d5_7) (z := (2 : Int32)) rfl rfl ?_
  refine Run.x_idiv (q := 9) X1 hx (hb hby d5_8) (by decide) (z := (0 : Int32)) (by decide) rfl ?_
  refine Run.x_iconst (q := 10) X1 hx (hb hby d5_9) (z := (1 : Int32)) rfl rfl ?_
  refine Run.x_isub (q := 11) X1 hx (hb hby d5_10) (z := (-1 : Int32)) (by decide) rfl ?_
  refine Run.x_istoreN (q := 12) X1 hx #[.val (.ref this), .val (.int p1), .val (.int (0 : Int32)), .val (.int (-1 : Int32)), .unset] (hb hby d5_11) rfl rfl ?_
  refine Run.x_iloadN (q := 13) X1 hx (hb hby d5_12) rfl rfl ?_
  refine Run.x_iloadN (q := 14) X1 hx (hb hby d5_13) rfl rfl ?_
  refine Run.x_icmpYes (q := 73) X1 hx (hb hby d5_14) (tlt (by decide : (-1 : Int32) < (0 : Int32))).2.2.1 (by decide) (by decide) ?_
  refine Run.x_iconst (q := 74) X1 hx (hb hby d5_73) (z := (0 : Int32)) rfl rfl ?_
  refine Run.retN X1 hx hlk e1 (t := .boolean) hret (by simp) (z' := (0 : Int32)) (by decide) (hb hby d5_74) (by decide) (by decide) ?_
  exact PureI.mk (by exact (own_b0 id).symm) N0
theorem ef_c_con1 (m : MethodId) (this : Addr) (p1 : Int32) : entryFrame m #[(.ref this), (.int p1)] 5 = mkF m 0 #[.val (.ref this), .val (.int p1), .unset, .unset, .unset] [] := by first | (simp [entryFrame, mkF, argsToLocals, Value.category]; done) | rfl
set_option maxRecDepth 65536 in
set_option maxHeartbeats 40000000 in
theorem c_con1 (l : Launch) (Z : State) (a0 : Array Value) (hw : ∀ d ∈ tables_1, d.before a0 Z = true) (this : Addr) (p1 : Int32) (h0 : Heap) (n0 : Nat) (Z0 : n0 ≤ h0.size) (r1 : Addr) (b0 : Int32) (b1 : Int32) (E_this : Exa Z h0 this "com/example/corbel/corbel/core/regex/CharSet$Ranges") (F_this_bounds : Fld Z h0 this "com/example/corbel/corbel/core/regex/CharSet$Ranges" "bounds" "[I" (.ref r1)) (A_r1 : Ars Z h0 r1 .int [(.int b0), (.int b1)]) (hs : b0.toInt ≤ b1.toInt) :
    Ctr l Z (⟨"com/example/corbel/corbel/core/regex/CharSet$Ranges", "contains", "(I)Z"⟩ : MethodName) prog_50_method_4_code 5 (some .boolean) ({ frames := 0, cells := 0, slots := 0, locals := 0 } : Room) #[(.ref this), (.int p1)] h0 (PureI h0 n0 (own_b (own_in p1 b0 b1))) := by
  refine Ctr.of (plainFor_of_name pn_2) (fun m => ef_c_con1 m this p1) ?_
  intro p e s m below meth c T0 hx hby hml hown hnm hret hlk hZ e0 X0
  have N0 := Fr.nil n0
  replace hown : s.vm.findClass "com/example/corbel/corbel/core/regex/CharSet$Ranges" = some m.cls := hown
  replace hml : c.maxLocals = 5 := hml
  refine Run.x_iconst (q := 1) X0 hx (hb hby d5_0) (z := (0 : Int32)) rfl rfl ?_
  refine Run.x_istoreN (q := 2) X0 hx #[.val (.ref this), .val (.int p1), .val (.int (0 : Int32)), .unset, .unset] (hb hby d5_1) rfl rfl ?_
  refine Run.x_aloadN (q := 3) X0 hx (hb hby d5_2) rfl rfl rfl ?_
  obtain ⟨T1, X1, e1, st1⟩ := getF X0 hx hZ hown (host := "") (Or.inl (hw _ (List.mem_of_getElem? (i := 22) rfl))) Via.refl e0 F_this_bounds (g := (mkF m 3 #[.val (.ref this), .val (.int p1), .val (.int (0 : Int32)), .unset, .unset] [(.ref this)])) rfl rfl (hb hby d5_3)
  refine Run.st st1 ?_
  show Run p e below s _ _ _ (T1.setTop (mkF m 6 #[.val (.ref this), .val (.int p1), .val (.int (0 : Int32)), .unset, .unset] [(.ref r1)]))
  refine Run.alen X1 hx hZ e1 A_r1 (z := (2 : Int32)) rfl (hb hby d5_6) ?_
  show Run p e below s _ _ _ (T1.setTop (mkF m 7 #[.val (.ref this), .val (.int p1), .val (.int (0 : Int32)), .unset, .unset] [(.int (2 : Int32))]))
  refine Run.x_iconst (q := 8) X1 hx (hb hby d5_7) (z := (2 : Int32)) rfl rfl ?_
  refine Run.x_idiv (q := 9) X1 hx (hb hby d5_8) (by decide) (z := (1 : Int32)) (by decide) rfl ?_
  refine Run.x_iconst (q := 10) X1 hx (hb hby d5_9) (z := (1 : Int32)) rfl rfl ?_
  refine Run.x_isub (q := 11) X1 hx (hb hby d5_10) (z := (0 : Int32)) (by decide) rfl ?_
  refine Run.x_istoreN (q := 12) X1 hx #[.val (.ref this), .val (.int p1), .val (.int (0 : Int32)), .val (.int (0 : Int32)), .unset] (hb hby d5_11) rfl rfl ?_
  refine Run.x_iloadN (q := 13) X1 hx (hb hby d5_12) rfl rfl ?_
  refine Run.x_iloadN (q := 14) X1 hx (hb hby d5_13) rfl rfl ?_
  refine Run.x_icmpNo (q := 17) X1 hx (hb hby d5_14) (flt (by decide : ¬ ((0 : Int32) < (0 : Int32)))).2.2.1 rfl ?_
  refine Run.x_iloadN (q := 18) X1 hx (hb hby d5_17) rfl rfl ?_
  refine Run.x_iloadN (q := 19) X1 hx (hb hby d5_18) rfl rfl ?_
  refine Run.x_iadd (q := 20) X1 hx (hb hby d5_19) (z := (0 : Int32)) (by decide) rfl ?_
  refine Run.x_iconst (q := 21) X1 hx (hb hby d5_20) (z := (1 : Int32)) rfl rfl ?_
  refine Run.x_iushr (q := 22) X1 hx (hb hby d5_21) (z := (0 : Int32)) (by decide) rfl ?_
  refine Run.x_istore (q := 24) X1 hx #[.val (.ref this), .val (.int p1), .val (.int (0 : Int32)), .val (.int (0 : Int32)), .val (.int (0 : Int32))] (hb hby d5_22) rfl rfl ?_
  refine Run.x_iloadN (q := 25) X1 hx (hb hby d5_24) rfl rfl ?_
  refine Run.x_aloadN (q := 26) X1 hx (hb hby d5_25) rfl rfl rfl ?_
  obtain ⟨T2, X2, e2, st2⟩ := getF X1 hx hZ hown (host := "") (Or.inl (hw _ (List.mem_of_getElem? (i := 22) rfl))) Via.refl e1 F_this_bounds (g := (mkF m 26 #[.val (.ref this), .val (.int p1), .val (.int (0 : Int32)), .val (.int (0 : Int32)), .val (.int (0 : Int32))] [(.ref this), (.int p1)])) rfl rfl (hb hby d5_26)
  refine Run.st st2 ?_
  show Run p e below s _ _ _ (T2.setTop (mkF m 29 #[.val (.ref this), .val (.int p1), .val (.int (0 : Int32)), .val (.int (0 : Int32)), .val (.int (0 : Int32))] [(.ref r1), (.int p1)]))
  refine Run.x_iconst (q := 30) X2 hx (hb hby d5_29) (z := (2 : Int32)) rfl rfl ?_
  refine Run.x_iload (q := 32) X2 hx (hb hby d5_30) rfl rfl ?_
  refine Run.x_imul (q := 33) X2 hx (hb hby d5_32) (z := (0 : Int32)) (by decide) rfl ?_
  refine Run.ldI X2 hx hZ e2 A_r1 (i := 0) (v := (.int b0)) (by decide) rfl (hb hby d5_33) ?_
  show Run p e below s _ _ _ (T2.setTop (mkF m 34 #[.val (.ref this), .val (.int p1), .val (.int (0 : Int32)), .val (.int (0 : Int32)), .val (.int (0 : Int32))] [(.int b0), (.int p1)]))
  by_cases hc34 : p1 < b0
  · skip
    refine Run.x_icmpNo (q := 37) X2 hx (hb hby d5_34) (tlt hc34).2.1 rfl ?_
    refine Run.x_iload (q := 39) X2 hx (hb hby d5_37) rfl rfl ?_
    refine Run.x_iconst (q := 40) X2 hx (hb hby d5_39) (z := (1 : Int32)) rfl rfl ?_
    refine Run.x_isub (q := 41) X2 hx (hb hby d5_40) (z := (-1 : Int32)) (by decide) rfl ?_
    refine Run.x_istoreN (q := 42) X2 hx #[.val (.ref this), .val (.int p1), .val (.int (0 : Int32)), .val (.int (-1 : Int32)), .val (.int (0 : Int32))] (hb hby d5_41) rfl rfl ?_
    refine Run.x_goto (q := 70) X2 hx (hb hby d5_42) (by decide) (by decide) ?_
    refine Run.x_goto (q := 12) X2 hx (hb hby d5_70) (by decide) (by decide) ?_
    refine Run.x_iloadN (q := 13) X2 hx (hb hby d5_12) rfl rfl ?_
    refine Run.x_iloadN (q := 14) X2 hx (hb hby d5_13) rfl rfl ?_
    refine Run.x_icmpYes (q := 73) X2 hx (hb hby d5_14) (tlt (by decide : (-1 : Int32) < (0 : Int32))).2.2.1 (by decide) (by decide) ?_
    refine Run.x_iconst (q := 74) X2 hx (hb hby d5_73) (z := (0 : Int32)) rfl rfl ?_
    refine Run.retN X2 hx hlk e2 (t := .boolean) hret (by simp) (z' := (0 : Int32)) (by decide) (hb hby d5_74) (by decide) (by decide) ?_
    exact PureI.mk (by refine (own_b0 ?_).symm; simp only [own_in, lt32, false_or, or_false, not_false_eq_true] at hs hc34 ⊢; omega) N0
  · skip
    refine Run.x_icmpYes (q := 45) X2 hx (hb hby d5_34) (flt hc34).2.1 (by decide) (by decide) ?_
    refine Run.x_iloadN (q := 46) X2 hx (hb hby d5_45) rfl rfl ?_
    refine Run.x_aloadN (q := 47) X2 hx (hb hby d5_46) rfl rfl rfl ?_
    obtain ⟨T3, X3, e3, st3⟩ := getF X2 hx hZ hown (host := "") (Or.inl (hw _ (List.mem_of_getElem? (i := 22) rfl))) Via.refl e2 F_this_bounds (g := (mkF m 47 #[.val (.ref this), .val (.int p1), .val (.int (0 : Int32)), .val (.int (0 : Int32)), .val (.int (0 : Int32))] [(.ref this), (.int p1)])) rfl rfl (hb hby d5_47)
    refine Run.st st3 ?_
    show Run p e below s _ _ _ (T3.setTop (mkF m 50 #[.val (.ref this), .val (.int p1), .val (.int (0 : Int32)), .val (.int (0 : Int32)), .val (.int (0 : Int32))] [(.ref r1), (.int p1)]))
    refine Run.x_iconst (q := 51) X3 hx (hb hby d5_50) (z := (2 : Int32)) rfl rfl ?_
    refine Run.x_iload (q := 53) X3 hx (hb hby d5_51) rfl rfl ?_
    refine Run.x_imul (q := 54) X3 hx (hb hby d5_53) (z := (0 : Int32)) (by decide) rfl ?_
    refine Run.x_iconst (q := 55) X3 hx (hb hby d5_54) (z := (1 : Int32)) rfl rfl ?_
    refine Run.x_iadd (q := 56) X3 hx (hb hby d5_55) (z := (1 : Int32)) (by decide) rfl ?_
    refine Run.ldI X3 hx hZ e3 A_r1 (i := 1) (v := (.int b1)) (by decide) rfl (hb hby d5_56) ?_
    show Run p e below s _ _ _ (T3.setTop (mkF m 57 #[.val (.ref this), .val (.int p1), .val (.int (0 : Int32)), .val (.int (0 : Int32)), .val (.int (0 : Int32))] [(.int b1), (.int p1)]))
    by_cases hc57 : b1 < p1
    · skip
      refine Run.x_icmpNo (q := 60) X3 hx (hb hby d5_57) (tlt hc57).2.2.2 rfl ?_
      refine Run.x_iload (q := 62) X3 hx (hb hby d5_60) rfl rfl ?_
      refine Run.x_iconst (q := 63) X3 hx (hb hby d5_62) (z := (1 : Int32)) rfl rfl ?_
      refine Run.x_iadd (q := 64) X3 hx (hb hby d5_63) (z := (1 : Int32)) (by decide) rfl ?_
      refine Run.x_istoreN (q := 65) X3 hx #[.val (.ref this), .val (.int p1), .val (.int (1 : Int32)), .val (.int (0 : Int32)), .val (.int (0 : Int32))] (hb hby d5_64) rfl rfl ?_
      refine Run.x_goto (q := 70) X3 hx (hb hby d5_65) (by decide) (by decide) ?_
      refine Run.x_goto (q := 12) X3 hx (hb hby d5_70) (by decide) (by decide) ?_
      refine Run.x_iloadN (q := 13) X3 hx (hb hby d5_12) rfl rfl ?_
      refine Run.x_iloadN (q := 14) X3 hx (hb hby d5_13) rfl rfl ?_
      refine Run.x_icmpYes (q := 73) X3 hx (hb hby d5_14) (tlt (by decide : (0 : Int32) < (1 : Int32))).2.2.1 (by decide) (by decide) ?_
      refine Run.x_iconst (q := 74) X3 hx (hb hby d5_73) (z := (0 : Int32)) rfl rfl ?_
      refine Run.retN X3 hx hlk e3 (t := .boolean) hret (by simp) (z' := (0 : Int32)) (by decide) (hb hby d5_74) (by decide) (by decide) ?_
      exact PureI.mk (by refine (own_b0 ?_).symm; simp only [own_in, lt32, false_or, or_false, not_false_eq_true] at hs hc34 hc57 ⊢; omega) N0
    · skip
      refine Run.x_icmpYes (q := 68) X3 hx (hb hby d5_57) (flt hc57).2.2.2 (by decide) (by decide) ?_
      refine Run.x_iconst (q := 69) X3 hx (hb hby d5_68) (z := (1 : Int32)) rfl rfl ?_
      refine Run.retN X3 hx hlk e3 (t := .boolean) hret (by simp) (z' := (1 : Int32)) (by decide) (hb hby d5_69) (by decide) (by decide) ?_
      exact PureI.mk (by refine (own_b1 ?_).symm; simp only [own_in, lt32, false_or, or_false, not_false_eq_true] at hs hc34 hc57 ⊢; omega) N0
theorem ef_c_con2 (m : MethodId) (this : Addr) (p1 : Int32) : entryFrame m #[(.ref this), (.int p1)] 5 = mkF m 0 #[.val (.ref this), .val (.int p1), .unset, .unset, .unset] [] := by first | (simp [entryFrame, mkF, argsToLocals, Value.category]; done) | rfl
set_option maxRecDepth 65536 in
set_option maxHeartbeats 40000000 in
theorem c_con2 (l : Launch) (Z : State) (a0 : Array Value) (hw : ∀ d ∈ tables_1, d.before a0 Z = true) (this : Addr) (p1 : Int32) (h0 : Heap) (n0 : Nat) (Z0 : n0 ≤ h0.size) (r1 : Addr) (b0 : Int32) (b1 : Int32) (b2 : Int32) (b3 : Int32) (E_this : Exa Z h0 this "com/example/corbel/corbel/core/regex/CharSet$Ranges") (F_this_bounds : Fld Z h0 this "com/example/corbel/corbel/core/regex/CharSet$Ranges" "bounds" "[I" (.ref r1)) (A_r1 : Ars Z h0 r1 .int [(.int b0), (.int b1), (.int b2), (.int b3)]) (hs : b0.toInt ≤ b1.toInt ∧ b1.toInt < b2.toInt ∧ b2.toInt ≤ b3.toInt) :
    Ctr l Z (⟨"com/example/corbel/corbel/core/regex/CharSet$Ranges", "contains", "(I)Z"⟩ : MethodName) prog_50_method_4_code 5 (some .boolean) ({ frames := 0, cells := 0, slots := 0, locals := 0 } : Room) #[(.ref this), (.int p1)] h0 (PureI h0 n0 (own_b (own_in p1 b0 b1 ∨ own_in p1 b2 b3))) := by
  refine Ctr.of (plainFor_of_name pn_2) (fun m => ef_c_con2 m this p1) ?_
  intro p e s m below meth c T0 hx hby hml hown hnm hret hlk hZ e0 X0
  have N0 := Fr.nil n0
  replace hown : s.vm.findClass "com/example/corbel/corbel/core/regex/CharSet$Ranges" = some m.cls := hown
  replace hml : c.maxLocals = 5 := hml
  refine Run.x_iconst (q := 1) X0 hx (hb hby d5_0) (z := (0 : Int32)) rfl rfl ?_
  refine Run.x_istoreN (q := 2) X0 hx #[.val (.ref this), .val (.int p1), .val (.int (0 : Int32)), .unset, .unset] (hb hby d5_1) rfl rfl ?_
  refine Run.x_aloadN (q := 3) X0 hx (hb hby d5_2) rfl rfl rfl ?_
  obtain ⟨T1, X1, e1, st1⟩ := getF X0 hx hZ hown (host := "") (Or.inl (hw _ (List.mem_of_getElem? (i := 22) rfl))) Via.refl e0 F_this_bounds (g := (mkF m 3 #[.val (.ref this), .val (.int p1), .val (.int (0 : Int32)), .unset, .unset] [(.ref this)])) rfl rfl (hb hby d5_3)
  refine Run.st st1 ?_
  show Run p e below s _ _ _ (T1.setTop (mkF m 6 #[.val (.ref this), .val (.int p1), .val (.int (0 : Int32)), .unset, .unset] [(.ref r1)]))
  refine Run.alen X1 hx hZ e1 A_r1 (z := (4 : Int32)) rfl (hb hby d5_6) ?_
  show Run p e below s _ _ _ (T1.setTop (mkF m 7 #[.val (.ref this), .val (.int p1), .val (.int (0 : Int32)), .unset, .unset] [(.int (4 : Int32))]))
  refine Run.x_iconst (q := 8) X1 hx (hb hby d5_7) (z := (2 : Int32)) rfl rfl ?_
  refine Run.x_idiv (q := 9) X1 hx (hb hby d5_8) (by decide) (z := (2 : Int32)) (by decide) rfl ?_
  refine Run.x_iconst (q := 10) X1 hx (hb hby d5_9) (z := (1 : Int32)) rfl rfl ?_
  refine Run.x_isub (q := 11) X1 hx (hb hby d5_10) (z := (1 : Int32)) (by decide) rfl ?_
  refine Run.x_istoreN (q := 12) X1 hx #[.val (.ref this), .val (.int p1), .val (.int (0 : Int32)), .val (.int (1 : Int32)), .unset] (hb hby d5_11) rfl rfl ?_
  refine Run.x_iloadN (q := 13) X1 hx (hb hby d5_12) rfl rfl ?_
  refine Run.x_iloadN (q := 14) X1 hx (hb hby d5_13) rfl rfl ?_
  refine Run.x_icmpNo (q := 17) X1 hx (hb hby d5_14) (flt (by decide : ¬ ((1 : Int32) < (0 : Int32)))).2.2.1 rfl ?_
  refine Run.x_iloadN (q := 18) X1 hx (hb hby d5_17) rfl rfl ?_
  refine Run.x_iloadN (q := 19) X1 hx (hb hby d5_18) rfl rfl ?_
  refine Run.x_iadd (q := 20) X1 hx (hb hby d5_19) (z := (1 : Int32)) (by decide) rfl ?_
  refine Run.x_iconst (q := 21) X1 hx (hb hby d5_20) (z := (1 : Int32)) rfl rfl ?_
  refine Run.x_iushr (q := 22) X1 hx (hb hby d5_21) (z := (0 : Int32)) (by decide) rfl ?_
  refine Run.x_istore (q := 24) X1 hx #[.val (.ref this), .val (.int p1), .val (.int (0 : Int32)), .val (.int (1 : Int32)), .val (.int (0 : Int32))] (hb hby d5_22) rfl rfl ?_
  refine Run.x_iloadN (q := 25) X1 hx (hb hby d5_24) rfl rfl ?_
  refine Run.x_aloadN (q := 26) X1 hx (hb hby d5_25) rfl rfl rfl ?_
  obtain ⟨T2, X2, e2, st2⟩ := getF X1 hx hZ hown (host := "") (Or.inl (hw _ (List.mem_of_getElem? (i := 22) rfl))) Via.refl e1 F_this_bounds (g := (mkF m 26 #[.val (.ref this), .val (.int p1), .val (.int (0 : Int32)), .val (.int (1 : Int32)), .val (.int (0 : Int32))] [(.ref this), (.int p1)])) rfl rfl (hb hby d5_26)
  refine Run.st st2 ?_
  show Run p e below s _ _ _ (T2.setTop (mkF m 29 #[.val (.ref this), .val (.int p1), .val (.int (0 : Int32)), .val (.int (1 : Int32)), .val (.int (0 : Int32))] [(.ref r1), (.int p1)]))
  refine Run.x_iconst (q := 30) X2 hx (hb hby d5_29) (z := (2 : Int32)) rfl rfl ?_
  refine Run.x_iload (q := 32) X2 hx (hb hby d5_30) rfl rfl ?_
  refine Run.x_imul (q := 33) X2 hx (hb hby d5_32) (z := (0 : Int32)) (by decide) rfl ?_
  refine Run.ldI X2 hx hZ e2 A_r1 (i := 0) (v := (.int b0)) (by decide) rfl (hb hby d5_33) ?_
  show Run p e below s _ _ _ (T2.setTop (mkF m 34 #[.val (.ref this), .val (.int p1), .val (.int (0 : Int32)), .val (.int (1 : Int32)), .val (.int (0 : Int32))] [(.int b0), (.int p1)]))
  by_cases hc34 : p1 < b0
  · skip
    refine Run.x_icmpNo (q := 37) X2 hx (hb hby d5_34) (tlt hc34).2.1 rfl ?_
    refine Run.x_iload (q := 39) X2 hx (hb hby d5_37) rfl rfl ?_
    refine Run.x_iconst (q := 40) X2 hx (hb hby d5_39) (z := (1 : Int32)) rfl rfl ?_
    refine Run.x_isub (q := 41) X2 hx (hb hby d5_40) (z := (-1 : Int32)) (by decide) rfl ?_
    refine Run.x_istoreN (q := 42) X2 hx #[.val (.ref this), .val (.int p1), .val (.int (0 : Int32)), .val (.int (-1 : Int32)), .val (.int (0 : Int32))] (hb hby d5_41) rfl rfl ?_
    refine Run.x_goto (q := 70) X2 hx (hb hby d5_42) (by decide) (by decide) ?_
    refine Run.x_goto (q := 12) X2 hx (hb hby d5_70) (by decide) (by decide) ?_
    refine Run.x_iloadN (q := 13) X2 hx (hb hby d5_12) rfl rfl ?_
    refine Run.x_iloadN (q := 14) X2 hx (hb hby d5_13) rfl rfl ?_
    refine Run.x_icmpYes (q := 73) X2 hx (hb hby d5_14) (tlt (by decide : (-1 : Int32) < (0 : Int32))).2.2.1 (by decide) (by decide) ?_
    refine Run.x_iconst (q := 74) X2 hx (hb hby d5_73) (z := (0 : Int32)) rfl rfl ?_
    refine Run.retN X2 hx hlk e2 (t := .boolean) hret (by simp) (z' := (0 : Int32)) (by decide) (hb hby d5_74) (by decide) (by decide) ?_
    exact PureI.mk (by refine (own_b0 ?_).symm; simp only [own_in, lt32, false_or, or_false, not_false_eq_true] at hs hc34 ⊢; omega) N0
  · skip
    refine Run.x_icmpYes (q := 45) X2 hx (hb hby d5_34) (flt hc34).2.1 (by decide) (by decide) ?_
    refine Run.x_iloadN (q := 46) X2 hx (hb hby d5_45) rfl rfl ?_
    refine Run.x_aloadN (q := 47) X2 hx (hb hby d5_46) rfl rfl rfl ?_
    obtain ⟨T3, X3, e3, st3⟩ := getF X2 hx hZ hown (host := "") (Or.inl (hw _ (List.mem_of_getElem? (i := 22) rfl))) Via.refl e2 F_this_bounds (g := (mkF m 47 #[.val (.ref this), .val (.int p1), .val (.int (0 : Int32)), .val (.int (1 : Int32)), .val (.int (0 : Int32))] [(.ref this), (.int p1)])) rfl rfl (hb hby d5_47)
    refine Run.st st3 ?_
    show Run p e below s _ _ _ (T3.setTop (mkF m 50 #[.val (.ref this), .val (.int p1), .val (.int (0 : Int32)), .val (.int (1 : Int32)), .val (.int (0 : Int32))] [(.ref r1), (.int p1)]))
    refine Run.x_iconst (q := 51) X3 hx (hb hby d5_50) (z := (2 : Int32)) rfl rfl ?_
    refine Run.x_iload (q := 53) X3 hx (hb hby d5_51) rfl rfl ?_
    refine Run.x_imul (q := 54) X3 hx (hb hby d5_53) (z := (0 : Int32)) (by decide) rfl ?_
    refine Run.x_iconst (q := 55) X3 hx (hb hby d5_54) (z := (1 : Int32)) rfl rfl ?_
    refine Run.x_iadd (q := 56) X3 hx (hb hby d5_55) (z := (1 : Int32)) (by decide) rfl ?_
    refine Run.ldI X3 hx hZ e3 A_r1 (i := 1) (v := (.int b1)) (by decide) rfl (hb hby d5_56) ?_
    show Run p e below s _ _ _ (T3.setTop (mkF m 57 #[.val (.ref this), .val (.int p1), .val (.int (0 : Int32)), .val (.int (1 : Int32)), .val (.int (0 : Int32))] [(.int b1), (.int p1)]))
    by_cases hc57 : b1 < p1
    · skip
      refine Run.x_icmpNo (q := 60) X3 hx (hb hby d5_57) (tlt hc57).2.2.2 rfl ?_
      refine Run.x_iload (q := 62) X3 hx (hb hby d5_60) rfl rfl ?_
      refine Run.x_iconst (q := 63) X3 hx (hb hby d5_62) (z := (1 : Int32)) rfl rfl ?_
      refine Run.x_iadd (q := 64) X3 hx (hb hby d5_63) (z := (1 : Int32)) (by decide) rfl ?_
      refine Run.x_istoreN (q := 65) X3 hx #[.val (.ref this), .val (.int p1), .val (.int (1 : Int32)), .val (.int (1 : Int32)), .val (.int (0 : Int32))] (hb hby d5_64) rfl rfl ?_
      refine Run.x_goto (q := 70) X3 hx (hb hby d5_65) (by decide) (by decide) ?_
      refine Run.x_goto (q := 12) X3 hx (hb hby d5_70) (by decide) (by decide) ?_
      refine Run.x_iloadN (q := 13) X3 hx (hb hby d5_12) rfl rfl ?_
      refine Run.x_iloadN (q := 14) X3 hx (hb hby d5_13) rfl rfl ?_
      refine Run.x_icmpNo (q := 17) X3 hx (hb hby d5_14) (flt (by decide : ¬ ((1 : Int32) < (1 : Int32)))).2.2.1 rfl ?_
      refine Run.x_iloadN (q := 18) X3 hx (hb hby d5_17) rfl rfl ?_
      refine Run.x_iloadN (q := 19) X3 hx (hb hby d5_18) rfl rfl ?_
      refine Run.x_iadd (q := 20) X3 hx (hb hby d5_19) (z := (2 : Int32)) (by decide) rfl ?_
      refine Run.x_iconst (q := 21) X3 hx (hb hby d5_20) (z := (1 : Int32)) rfl rfl ?_
      refine Run.x_iushr (q := 22) X3 hx (hb hby d5_21) (z := (1 : Int32)) (by decide) rfl ?_
      refine Run.x_istore (q := 24) X3 hx #[.val (.ref this), .val (.int p1), .val (.int (1 : Int32)), .val (.int (1 : Int32)), .val (.int (1 : Int32))] (hb hby d5_22) rfl rfl ?_
      refine Run.x_iloadN (q := 25) X3 hx (hb hby d5_24) rfl rfl ?_
      refine Run.x_aloadN (q := 26) X3 hx (hb hby d5_25) rfl rfl rfl ?_
      obtain ⟨T4, X4, e4, st4⟩ := getF X3 hx hZ hown (host := "") (Or.inl (hw _ (List.mem_of_getElem? (i := 22) rfl))) Via.refl e3 F_this_bounds (g := (mkF m 26 #[.val (.ref this), .val (.int p1), .val (.int (1 : Int32)), .val (.int (1 : Int32)), .val (.int (1 : Int32))] [(.ref this), (.int p1)])) rfl rfl (hb hby d5_26)
      refine Run.st st4 ?_
      show Run p e below s _ _ _ (T4.setTop (mkF m 29 #[.val (.ref this), .val (.int p1), .val (.int (1 : Int32)), .val (.int (1 : Int32)), .val (.int (1 : Int32))] [(.ref r1), (.int p1)]))
      refine Run.x_iconst (q := 30) X4 hx (hb hby d5_29) (z := (2 : Int32)) rfl rfl ?_
      refine Run.x_iload (q := 32) X4 hx (hb hby d5_30) rfl rfl ?_
      refine Run.x_imul (q := 33) X4 hx (hb hby d5_32) (z := (2 : Int32)) (by decide) rfl ?_
      refine Run.ldI X4 hx hZ e4 A_r1 (i := 2) (v := (.int b2)) (by decide) rfl (hb hby d5_33) ?_
      show Run p e below s _ _ _ (T4.setTop (mkF m 34 #[.val (.ref this), .val (.int p1), .val (.int (1 : Int32)), .val (.int (1 : Int32)), .val (.int (1 : Int32))] [(.int b2), (.int p1)]))
      by_cases hc34' : p1 < b2
      · skip
        refine Run.x_icmpNo (q := 37) X4 hx (hb hby d5_34) (tlt hc34').2.1 rfl ?_
        refine Run.x_iload (q := 39) X4 hx (hb hby d5_37) rfl rfl ?_
        refine Run.x_iconst (q := 40) X4 hx (hb hby d5_39) (z := (1 : Int32)) rfl rfl ?_
        refine Run.x_isub (q := 41) X4 hx (hb hby d5_40) (z := (0 : Int32)) (by decide) rfl ?_
        refine Run.x_istoreN (q := 42) X4 hx #[.val (.ref this), .val (.int p1), .val (.int (1 : Int32)), .val (.int (0 : Int32)), .val (.int (1 : Int32))] (hb hby d5_41) rfl rfl ?_
        refine Run.x_goto (q := 70) X4 hx (hb hby d5_42) (by decide) (by decide) ?_
        refine Run.x_goto (q := 12) X4 hx (hb hby d5_70) (by decide) (by decide) ?_
        refine Run.x_iloadN (q := 13) X4 hx (hb hby d5_12) rfl rfl ?_
        refine Run.x_iloadN (q := 14) X4 hx (hb hby d5_13) rfl rfl ?_
        refine Run.x_icmpYes (q := 73) X4 hx (hb hby d5_14) (tlt (by decide : (0 : Int32) < (1 : Int32))).2.2.1 (by decide) (by decide) ?_
        refine Run.x_iconst (q := 74) X4 hx (hb hby d5_73) (z := (0 : Int32)) rfl rfl ?_
        refine Run.retN X4 hx hlk e4 (t := .boolean) hret (by simp) (z' := (0 : Int32)) (by decide) (hb hby d5_74) (by decide) (by decide) ?_
        exact PureI.mk (by refine (own_b0 ?_).symm; simp only [own_in, lt32, false_or, or_false, not_false_eq_true] at hs hc34 hc57 hc34' ⊢; omega) N0
      · skip
        refine Run.x_icmpYes (q := 45) X4 hx (hb hby d5_34) (flt hc34').2.1 (by decide) (by decide) ?_
        refine Run.x_iloadN (q := 46) X4 hx (hb hby d5_45) rfl rfl ?_
        refine Run.x_aloadN (q := 47) X4 hx (hb hby d5_46) rfl rfl rfl ?_
        obtain ⟨T5, X5, e5, st5⟩ := getF X4 hx hZ hown (host := "") (Or.inl (hw _ (List.mem_of_getElem? (i := 22) rfl))) Via.refl e4 F_this_bounds (g := (mkF m 47 #[.val (.ref this), .val (.int p1), .val (.int (1 : Int32)), .val (.int (1 : Int32)), .val (.int (1 : Int32))] [(.ref this), (.int p1)])) rfl rfl (hb hby d5_47)
        refine Run.st st5 ?_
        show Run p e below s _ _ _ (T5.setTop (mkF m 50 #[.val (.ref this), .val (.int p1), .val (.int (1 : Int32)), .val (.int (1 : Int32)), .val (.int (1 : Int32))] [(.ref r1), (.int p1)]))
        refine Run.x_iconst (q := 51) X5 hx (hb hby d5_50) (z := (2 : Int32)) rfl rfl ?_
        refine Run.x_iload (q := 53) X5 hx (hb hby d5_51) rfl rfl ?_
        refine Run.x_imul (q := 54) X5 hx (hb hby d5_53) (z := (2 : Int32)) (by decide) rfl ?_
        refine Run.x_iconst (q := 55) X5 hx (hb hby d5_54) (z := (1 : Int32)) rfl rfl ?_
        refine Run.x_iadd (q := 56) X5 hx (hb hby d5_55) (z := (3 : Int32)) (by decide) rfl ?_
        refine Run.ldI X5 hx hZ e5 A_r1 (i := 3) (v := (.int b3)) (by decide) rfl (hb hby d5_56) ?_
        show Run p e below s _ _ _ (T5.setTop (mkF m 57 #[.val (.ref this), .val (.int p1), .val (.int (1 : Int32)), .val (.int (1 : Int32)), .val (.int (1 : Int32))] [(.int b3), (.int p1)]))
        by_cases hc57' : b3 < p1
        · skip
          refine Run.x_icmpNo (q := 60) X5 hx (hb hby d5_57) (tlt hc57').2.2.2 rfl ?_
          refine Run.x_iload (q := 62) X5 hx (hb hby d5_60) rfl rfl ?_
          refine Run.x_iconst (q := 63) X5 hx (hb hby d5_62) (z := (1 : Int32)) rfl rfl ?_
          refine Run.x_iadd (q := 64) X5 hx (hb hby d5_63) (z := (2 : Int32)) (by decide) rfl ?_
          refine Run.x_istoreN (q := 65) X5 hx #[.val (.ref this), .val (.int p1), .val (.int (2 : Int32)), .val (.int (1 : Int32)), .val (.int (1 : Int32))] (hb hby d5_64) rfl rfl ?_
          refine Run.x_goto (q := 70) X5 hx (hb hby d5_65) (by decide) (by decide) ?_
          refine Run.x_goto (q := 12) X5 hx (hb hby d5_70) (by decide) (by decide) ?_
          refine Run.x_iloadN (q := 13) X5 hx (hb hby d5_12) rfl rfl ?_
          refine Run.x_iloadN (q := 14) X5 hx (hb hby d5_13) rfl rfl ?_
          refine Run.x_icmpYes (q := 73) X5 hx (hb hby d5_14) (tlt (by decide : (1 : Int32) < (2 : Int32))).2.2.1 (by decide) (by decide) ?_
          refine Run.x_iconst (q := 74) X5 hx (hb hby d5_73) (z := (0 : Int32)) rfl rfl ?_
          refine Run.retN X5 hx hlk e5 (t := .boolean) hret (by simp) (z' := (0 : Int32)) (by decide) (hb hby d5_74) (by decide) (by decide) ?_
          exact PureI.mk (by refine (own_b0 ?_).symm; simp only [own_in, lt32, false_or, or_false, not_false_eq_true] at hs hc34 hc57 hc34' hc57' ⊢; omega) N0
        · skip
          refine Run.x_icmpYes (q := 68) X5 hx (hb hby d5_57) (flt hc57').2.2.2 (by decide) (by decide) ?_
          refine Run.x_iconst (q := 69) X5 hx (hb hby d5_68) (z := (1 : Int32)) rfl rfl ?_
          refine Run.retN X5 hx hlk e5 (t := .boolean) hret (by simp) (z' := (1 : Int32)) (by decide) (hb hby d5_69) (by decide) (by decide) ?_
          exact PureI.mk (by refine (own_b1 ?_).symm; simp only [own_in, lt32, false_or, or_false, not_false_eq_true] at hs hc34 hc57 hc34' hc57' ⊢; omega) N0
    · skip
      refine Run.x_icmpYes (q := 68) X3 hx (hb hby d5_57) (flt hc57).2.2.2 (by decide) (by decide) ?_
      refine Run.x_iconst (q := 69) X3 hx (hb hby d5_68) (z := (1 : Int32)) rfl rfl ?_
      refine Run.retN X3 hx hlk e3 (t := .boolean) hret (by simp) (z' := (1 : Int32)) (by decide) (hb hby d5_69) (by decide) (by decide) ?_
      exact PureI.mk (by refine (own_b1 ?_).symm; simp only [own_in, lt32, false_or, or_false, not_false_eq_true] at hs hc34 hc57 ⊢; omega) N0
theorem ef_c_con3 (m : MethodId) (this : Addr) (p1 : Int32) : entryFrame m #[(.ref this), (.int p1)] 5 = mkF m 0 #[.val (.ref this), .val (.int p1), .unset, .unset, .unset] [] := by first | (simp [entryFrame, mkF, argsToLocals, Value.category]; done) | rfl
set_option maxRecDepth 65536 in
set_option maxHeartbeats 40000000 in
theorem c_con3 (l : Launch) (Z : State) (a0 : Array Value) (hw : ∀ d ∈ tables_1, d.before a0 Z = true) (this : Addr) (p1 : Int32) (h0 : Heap) (n0 : Nat) (Z0 : n0 ≤ h0.size) (r1 : Addr) (b0 : Int32) (b1 : Int32) (b2 : Int32) (b3 : Int32) (b4 : Int32) (b5 : Int32) (E_this : Exa Z h0 this "com/example/corbel/corbel/core/regex/CharSet$Ranges") (F_this_bounds : Fld Z h0 this "com/example/corbel/corbel/core/regex/CharSet$Ranges" "bounds" "[I" (.ref r1)) (A_r1 : Ars Z h0 r1 .int [(.int b0), (.int b1), (.int b2), (.int b3), (.int b4), (.int b5)]) (hs : b0.toInt ≤ b1.toInt ∧ b1.toInt < b2.toInt ∧ b2.toInt ≤ b3.toInt ∧ b3.toInt < b4.toInt ∧ b4.toInt ≤ b5.toInt) :
    Ctr l Z (⟨"com/example/corbel/corbel/core/regex/CharSet$Ranges", "contains", "(I)Z"⟩ : MethodName) prog_50_method_4_code 5 (some .boolean) ({ frames := 0, cells := 0, slots := 0, locals := 0 } : Room) #[(.ref this), (.int p1)] h0 (PureI h0 n0 (own_b (own_in p1 b0 b1 ∨ own_in p1 b2 b3 ∨ own_in p1 b4 b5))) := by
  refine Ctr.of (plainFor_of_name pn_2) (fun m => ef_c_con3 m this p1) ?_
  intro p e s m below meth c T0 hx hby hml hown hnm hret hlk hZ e0 X0
  have N0 := Fr.nil n0
  replace hown : s.vm.findClass "com/example/corbel/corbel/core/regex/CharSet$Ranges" = some m.cls := hown
  replace hml : c.maxLocals = 5 := hml
  refine Run.x_iconst (q := 1) X0 hx (hb hby d5_0) (z := (0 : Int32)) rfl rfl ?_
  refine Run.x_istoreN (q := 2) X0 hx #[.val (.ref this), .val (.int p1), .val (.int (0 : Int32)), .unset, .unset] (hb hby d5_1) rfl rfl ?_
  refine Run.x_aloadN (q := 3) X0 hx (hb hby d5_2) rfl rfl rfl ?_
  obtain ⟨T1, X1, e1, st1⟩ := getF X0 hx hZ hown (host := "") (Or.inl (hw _ (List.mem_of_getElem? (i := 22) rfl))) Via.refl e0 F_this_bounds (g := (mkF m 3 #[.val (.ref this), .val (.int p1), .val (.int (0 : Int32)), .unset, .unset] [(.ref this)])) rfl rfl (hb hby d5_3)
  refine Run.st st1 ?_
  show Run p e below s _ _ _ (T1.setTop (mkF m 6 #[.val (.ref this), .val (.int p1), .val (.int (0 : Int32)), .unset, .unset] [(.ref r1)]))
  refine Run.alen X1 hx hZ e1 A_r1 (z := (6 : Int32)) rfl (hb hby d5_6) ?_
  show Run p e below s _ _ _ (T1.setTop (mkF m 7 #[.val (.ref this), .val (.int p1), .val (.int (0 : Int32)), .unset, .unset] [(.int (6 : Int32))]))
  refine Run.x_iconst (q := 8) X1 hx (hb hby d5_7) (z := (2 : Int32)) rfl rfl ?_
  refine Run.x_idiv (q := 9) X1 hx (hb hby d5_8) (by decide) (z := (3 : Int32)) (by decide) rfl ?_
  refine Run.x_iconst (q := 10) X1 hx (hb hby d5_9) (z := (1 : Int32)) rfl rfl ?_
  refine Run.x_isub (q := 11) X1 hx (hb hby d5_10) (z := (2 : Int32)) (by decide) rfl ?_
  refine Run.x_istoreN (q := 12) X1 hx #[.val (.ref this), .val (.int p1), .val (.int (0 : Int32)), .val (.int (2 : Int32)), .unset] (hb hby d5_11) rfl rfl ?_
  refine Run.x_iloadN (q := 13) X1 hx (hb hby d5_12) rfl rfl ?_
  refine Run.x_iloadN (q := 14) X1 hx (hb hby d5_13) rfl rfl ?_
  refine Run.x_icmpNo (q := 17) X1 hx (hb hby d5_14) (flt (by decide : ¬ ((2 : Int32) < (0 : Int32)))).2.2.1 rfl ?_
  refine Run.x_iloadN (q := 18) X1 hx (hb hby d5_17) rfl rfl ?_
  refine Run.x_iloadN (q := 19) X1 hx (hb hby d5_18) rfl rfl ?_
  refine Run.x_iadd (q := 20) X1 hx (hb hby d5_19) (z := (2 : Int32)) (by decide) rfl ?_
  refine Run.x_iconst (q := 21) X1 hx (hb hby d5_20) (z := (1 : Int32)) rfl rfl ?_
  refine Run.x_iushr (q := 22) X1 hx (hb hby d5_21) (z := (1 : Int32)) (by decide) rfl ?_
  refine Run.x_istore (q := 24) X1 hx #[.val (.ref this), .val (.int p1), .val (.int (0 : Int32)), .val (.int (2 : Int32)), .val (.int (1 : Int32))] (hb hby d5_22) rfl rfl ?_
  refine Run.x_iloadN (q := 25) X1 hx (hb hby d5_24) rfl rfl ?_
  refine Run.x_aloadN (q := 26) X1 hx (hb hby d5_25) rfl rfl rfl ?_
  obtain ⟨T2, X2, e2, st2⟩ := getF X1 hx hZ hown (host := "") (Or.inl (hw _ (List.mem_of_getElem? (i := 22) rfl))) Via.refl e1 F_this_bounds (g := (mkF m 26 #[.val (.ref this), .val (.int p1), .val (.int (0 : Int32)), .val (.int (2 : Int32)), .val (.int (1 : Int32))] [(.ref this), (.int p1)])) rfl rfl (hb hby d5_26)
  refine Run.st st2 ?_
  show Run p e below s _ _ _ (T2.setTop (mkF m 29 #[.val (.ref this), .val (.int p1), .val (.int (0 : Int32)), .val (.int (2 : Int32)), .val (.int (1 : Int32))] [(.ref r1), (.int p1)]))
  refine Run.x_iconst (q := 30) X2 hx (hb hby d5_29) (z := (2 : Int32)) rfl rfl ?_
  refine Run.x_iload (q := 32) X2 hx (hb hby d5_30) rfl rfl ?_
  refine Run.x_imul (q := 33) X2 hx (hb hby d5_32) (z := (2 : Int32)) (by decide) rfl ?_
  refine Run.ldI X2 hx hZ e2 A_r1 (i := 2) (v := (.int b2)) (by decide) rfl (hb hby d5_33) ?_
  show Run p e below s _ _ _ (T2.setTop (mkF m 34 #[.val (.ref this), .val (.int p1), .val (.int (0 : Int32)), .val (.int (2 : Int32)), .val (.int (1 : Int32))] [(.int b2), (.int p1)]))
  by_cases hc34 : p1 < b2
  · skip
    refine Run.x_icmpNo (q := 37) X2 hx (hb hby d5_34) (tlt hc34).2.1 rfl ?_
    refine Run.x_iload (q := 39) X2 hx (hb hby d5_37) rfl rfl ?_
    refine Run.x_iconst (q := 40) X2 hx (hb hby d5_39) (z := (1 : Int32)) rfl rfl ?_
    refine Run.x_isub (q := 41) X2 hx (hb hby d5_40) (z := (0 : Int32)) (by decide) rfl ?_
    refine Run.x_istoreN (q := 42) X2 hx #[.val (.ref this), .val (.int p1), .val (.int (0 : Int32)), .val (.int (0 : Int32)), .val (.int (1 : Int32))] (hb hby d5_41) rfl rfl ?_
    refine Run.x_goto (q := 70) X2 hx (hb hby d5_42) (by decide) (by decide) ?_
    refine Run.x_goto (q := 12) X2 hx (hb hby d5_70) (by decide) (by decide) ?_
    refine Run.x_iloadN (q := 13) X2 hx (hb hby d5_12) rfl rfl ?_
    refine Run.x_iloadN (q := 14) X2 hx (hb hby d5_13) rfl rfl ?_
    refine Run.x_icmpNo (q := 17) X2 hx (hb hby d5_14) (flt (by decide : ¬ ((0 : Int32) < (0 : Int32)))).2.2.1 rfl ?_
    refine Run.x_iloadN (q := 18) X2 hx (hb hby d5_17) rfl rfl ?_
    refine Run.x_iloadN (q := 19) X2 hx (hb hby d5_18) rfl rfl ?_
    refine Run.x_iadd (q := 20) X2 hx (hb hby d5_19) (z := (0 : Int32)) (by decide) rfl ?_
    refine Run.x_iconst (q := 21) X2 hx (hb hby d5_20) (z := (1 : Int32)) rfl rfl ?_
    refine Run.x_iushr (q := 22) X2 hx (hb hby d5_21) (z := (0 : Int32)) (by decide) rfl ?_
    refine Run.x_istore (q := 24) X2 hx #[.val (.ref this), .val (.int p1), .val (.int (0 : Int32)), .val (.int (0 : Int32)), .val (.int (0 : Int32))] (hb hby d5_22) rfl rfl ?_
    refine Run.x_iloadN (q := 25) X2 hx (hb hby d5_24) rfl rfl ?_
    refine Run.x_aloadN (q := 26) X2 hx (hb hby d5_25) rfl rfl rfl ?_
    obtain ⟨T3, X3, e3, st3⟩ := getF X2 hx hZ hown (host := "") (Or.inl (hw _ (List.mem_of_getElem? (i := 22) rfl))) Via.refl e2 F_this_bounds (g := (mkF m 26 #[.val (.ref this), .val (.int p1), .val (.int (0 : Int32)), .val (.int (0 : Int32)), .val (.int (0 : Int32))] [(.ref this), (.int p1)])) rfl rfl (hb hby d5_26)
    refine Run.st st3 ?_
    show Run p e below s _ _ _ (T3.setTop (mkF m 29 #[.val (.ref this), .val (.int p1), .val (.int (0 : Int32)), .val (.int (0 : Int32)), .val (.int (0 : Int32))] [(.ref r1), (.int p1)]))
    refine Run.x_iconst (q := 30) X3 hx (hb hby d5_29) (z := (2 : Int32)) rfl rfl ?_
    refine Run.x_iload (q := 32) X3 hx (hb hby d5_30) rfl rfl ?_
    refine Run.x_imul (q := 33) X3 hx (hb hby d5_32) (z := (0 : Int32)) (by decide) rfl ?_
    refine Run.ldI X3 hx hZ e3 A_r1 (i := 0) (v := (.int b0)) (by decide) rfl (hb hby d5_33) ?_
    show Run p e below s _ _ _ (T3.setTop (mkF m 34 #[.val (.ref this), .val (.int p1), .val (.int (0 : Int32)), .val (.int (0 : Int32)), .val (.int (0 : Int32))] [(.int b0), (.int p1)]))
    by_cases hc34' : p1 < b0
    · skip
      refine Run.x_icmpNo (q := 37) X3 hx (hb hby d5_34) (tlt hc34').2.1 rfl ?_
      refine Run.x_iload (q := 39) X3 hx (hb hby d5_37) rfl rfl ?_
      refine Run.x_iconst (q := 40) X3 hx (hb hby d5_39) (z := (1 : Int32)) rfl rfl ?_
      refine Run.x_isub (q := 41) X3 hx (hb hby d5_40) (z := (-1 : Int32)) (by decide) rfl ?_
      refine Run.x_istoreN (q := 42) X3 hx #[.val (.ref this), .val (.int p1), .val (.int (0 : Int32)), .val (.int (-1 : Int32)), .val (.int (0 : Int32))] (hb hby d5_41) rfl rfl ?_
      refine Run.x_goto (q := 70) X3 hx (hb hby d5_42) (by decide) (by decide) ?_
      refine Run.x_goto (q := 12) X3 hx (hb hby d5_70) (by decide) (by decide) ?_
      refine Run.x_iloadN (q := 13) X3 hx (hb hby d5_12) rfl rfl ?_
      refine Run.x_iloadN (q := 14) X3 hx (hb hby d5_13) rfl rfl ?_
      refine Run.x_icmpYes (q := 73) X3 hx (hb hby d5_14) (tlt (by decide : (-1 : Int32) < (0 : Int32))).2.2.1 (by decide) (by decide) ?_
      refine Run.x_iconst (q := 74) X3 hx (hb hby d5_73) (z := (0 : Int32)) rfl rfl ?_
      refine Run.retN X3 hx hlk e3 (t := .boolean) hret (by simp) (z' := (0 : Int32)) (by decide) (hb hby d5_74) (by decide) (by decide) ?_
      exact PureI.mk (by refine (own_b0 ?_).symm; simp only [own_in, lt32, false_or, or_false, not_false_eq_true] at hs hc34 hc34' ⊢; omega) N0
    · skip
      refine Run.x_icmpYes (q := 45) X3 hx (hb hby d5_34) (flt hc34').2.1 (by decide) (by decide) ?_
      refine Run.x_iloadN (q := 46) X3 hx (hb hby d5_45) rfl rfl ?_
      refine Run.x_aloadN (q := 47) X3 hx (hb hby d5_46) rfl rfl rfl ?_
      obtain ⟨T4, X4, e4, st4⟩ := getF X3 hx hZ hown (host := "") (Or.inl (hw _ (List.mem_of_getElem? (i := 22) rfl))) Via.refl e3 F_this_bounds (g := (mkF m 47 #[.val (.ref this), .val (.int p1), .val (.int (0 : Int32)), .val (.int (0 : Int32)), .val (.int (0 : Int32))] [(.ref this), (.int p1)])) rfl rfl (hb hby d5_47)
      refine Run.st st4 ?_
      show Run p e below s _ _ _ (T4.setTop (mkF m 50 #[.val (.ref this), .val (.int p1), .val (.int (0 : Int32)), .val (.int (0 : Int32)), .val (.int (0 : Int32))] [(.ref r1), (.int p1)]))
      refine Run.x_iconst (q := 51) X4 hx (hb hby d5_50) (z := (2 : Int32)) rfl rfl ?_
      refine Run.x_iload (q := 53) X4 hx (hb hby d5_51) rfl rfl ?_
      refine Run.x_imul (q := 54) X4 hx (hb hby d5_53) (z := (0 : Int32)) (by decide) rfl ?_
      refine Run.x_iconst (q := 55) X4 hx (hb hby d5_54) (z := (1 : Int32)) rfl rfl ?_
      refine Run.x_iadd (q := 56) X4 hx (hb hby d5_55) (z := (1 : Int32)) (by decide) rfl ?_
      refine Run.ldI X4 hx hZ e4 A_r1 (i := 1) (v := (.int b1)) (by decide) rfl (hb hby d5_56) ?_
      show Run p e below s _ _ _ (T4.setTop (mkF m 57 #[.val (.ref this), .val (.int p1), .val (.int (0 : Int32)), .val (.int (0 : Int32)), .val (.int (0 : Int32))] [(.int b1), (.int p1)]))
      by_cases hc57 : b1 < p1
      · skip
        refine Run.x_icmpNo (q := 60) X4 hx (hb hby d5_57) (tlt hc57).2.2.2 rfl ?_
        refine Run.x_iload (q := 62) X4 hx (hb hby d5_60) rfl rfl ?_
        refine Run.x_iconst (q := 63) X4 hx (hb hby d5_62) (z := (1 : Int32)) rfl rfl ?_
        refine Run.x_iadd (q := 64) X4 hx (hb hby d5_63) (z := (1 : Int32)) (by decide) rfl ?_
        refine Run.x_istoreN (q := 65) X4 hx #[.val (.ref this), .val (.int p1), .val (.int (1 : Int32)), .val (.int (0 : Int32)), .val (.int (0 : Int32))] (hb hby d5_64) rfl rfl ?_
        refine Run.x_goto (q := 70) X4 hx (hb hby d5_65) (by decide) (by decide) ?_
        refine Run.x_goto (q := 12) X4 hx (hb hby d5_70) (by decide) (by decide) ?_
        refine Run.x_iloadN (q := 13) X4 hx (hb hby d5_12) rfl rfl ?_
        refine Run.x_iloadN (q := 14) X4 hx (hb hby d5_13) rfl rfl ?_
        refine Run.x_icmpYes (q := 73) X4 hx (hb hby d5_14) (tlt (by decide : (0 : Int32) < (1 : Int32))).2.2.1 (by decide) (by decide) ?_
        refine Run.x_iconst (q := 74) X4 hx (hb hby d5_73) (z := (0 : Int32)) rfl rfl ?_
        refine Run.retN X4 hx hlk e4 (t := .boolean) hret (by simp) (z' := (0 : Int32)) (by decide) (hb hby d5_74) (by decide) (by decide) ?_
        exact PureI.mk (by refine (own_b0 ?_).symm; simp only [own_in, lt32, false_or, or_false, not_false_eq_true] at hs hc34 hc34' hc57 ⊢; omega) N0
      · skip
        refine Run.x_icmpYes (q := 68) X4 hx (hb hby d5_57) (flt hc57).2.2.2 (by decide) (by decide) ?_
        refine Run.x_iconst (q := 69) X4 hx (hb hby d5_68) (z := (1 : Int32)) rfl rfl ?_
        refine Run.retN X4 hx hlk e4 (t := .boolean) hret (by simp) (z' := (1 : Int32)) (by decide) (hb hby d5_69) (by decide) (by decide) ?_
        exact PureI.mk (by refine (own_b1 ?_).symm; simp only [own_in, lt32, false_or, or_false, not_false_eq_true] at hs hc34 hc34' hc57 ⊢; omega) N0
  · skip
    refine Run.x_icmpYes (q := 45) X2 hx (hb hby d5_34) (flt hc34).2.1 (by decide) (by decide) ?_
    refine Run.x_iloadN (q := 46) X2 hx (hb hby d5_45) rfl rfl ?_
    refine Run.x_aloadN (q := 47) X2 hx (hb hby d5_46) rfl rfl rfl ?_
    obtain ⟨T5, X5, e5, st5⟩ := getF X2 hx hZ hown (host := "") (Or.inl (hw _ (List.mem_of_getElem? (i := 22) rfl))) Via.refl e2 F_this_bounds (g := (mkF m 47 #[.val (.ref this), .val (.int p1), .val (.int (0 : Int32)), .val (.int (2 : Int32)), .val (.int (1 : Int32))] [(.ref this), (.int p1)])) rfl rfl (hb hby d5_47)
    refine Run.st st5 ?_
    show Run p e below s _ _ _ (T5.setTop (mkF m 50 #[.val (.ref this), .val (.int p1), .val (.int (0 : Int32)), .val (.int (2 : Int32)), .val (.int (1 : Int32))] [(.ref r1), (.int p1)]))
    refine Run.x_iconst (q := 51) X5 hx (hb hby d5_50) (z := (2 : Int32)) rfl rfl ?_
    refine Run.x_iload (q := 53) X5 hx (hb hby d5_51) rfl rfl ?_
    refine Run.x_imul (q := 54) X5 hx (hb hby d5_53) (z := (2 : Int32)) (by decide) rfl ?_
    refine Run.x_iconst (q := 55) X5 hx (hb hby d5_54) (z := (1 : Int32)) rfl rfl ?_
    refine Run.x_iadd (q := 56) X5 hx (hb hby d5_55) (z := (3 : Int32)) (by decide) rfl ?_
    refine Run.ldI X5 hx hZ e5 A_r1 (i := 3) (v := (.int b3)) (by decide) rfl (hb hby d5_56) ?_
    show Run p e below s _ _ _ (T5.setTop (mkF m 57 #[.val (.ref this), .val (.int p1), .val (.int (0 : Int32)), .val (.int (2 : Int32)), .val (.int (1 : Int32))] [(.int b3), (.int p1)]))
    by_cases hc57 : b3 < p1
    · skip
      refine Run.x_icmpNo (q := 60) X5 hx (hb hby d5_57) (tlt hc57).2.2.2 rfl ?_
      refine Run.x_iload (q := 62) X5 hx (hb hby d5_60) rfl rfl ?_
      refine Run.x_iconst (q := 63) X5 hx (hb hby d5_62) (z := (1 : Int32)) rfl rfl ?_
      refine Run.x_iadd (q := 64) X5 hx (hb hby d5_63) (z := (2 : Int32)) (by decide) rfl ?_
      refine Run.x_istoreN (q := 65) X5 hx #[.val (.ref this), .val (.int p1), .val (.int (2 : Int32)), .val (.int (2 : Int32)), .val (.int (1 : Int32))] (hb hby d5_64) rfl rfl ?_
      refine Run.x_goto (q := 70) X5 hx (hb hby d5_65) (by decide) (by decide) ?_
      refine Run.x_goto (q := 12) X5 hx (hb hby d5_70) (by decide) (by decide) ?_
      refine Run.x_iloadN (q := 13) X5 hx (hb hby d5_12) rfl rfl ?_
      refine Run.x_iloadN (q := 14) X5 hx (hb hby d5_13) rfl rfl ?_
      refine Run.x_icmpNo (q := 17) X5 hx (hb hby d5_14) (flt (by decide : ¬ ((2 : Int32) < (2 : Int32)))).2.2.1 rfl ?_
      refine Run.x_iloadN (q := 18) X5 hx (hb hby d5_17) rfl rfl ?_
      refine Run.x_iloadN (q := 19) X5 hx (hb hby d5_18) rfl rfl ?_
      refine Run.x_iadd (q := 20) X5 hx (hb hby d5_19) (z := (4 : Int32)) (by decide) rfl ?_
      refine Run.x_iconst (q := 21) X5 hx (hb hby d5_20) (z := (1 : Int32)) rfl rfl ?_
      refine Run.x_iushr (q := 22) X5 hx (hb hby d5_21) (z := (2 : Int32)) (by decide) rfl ?_
      refine Run.x_istore (q := 24) X5 hx #[.val (.ref this), .val (.int p1), .val (.int (2 : Int32)), .val (.int (2 : Int32)), .val (.int (2 : Int32))] (hb hby d5_22) rfl rfl ?_
      refine Run.x_iloadN (q := 25) X5 hx (hb hby d5_24) rfl rfl ?_
      refine Run.x_aloadN (q := 26) X5 hx (hb hby d5_25) rfl rfl rfl ?_
      obtain ⟨T6, X6, e6, st6⟩ := getF X5 hx hZ hown (host := "") (Or.inl (hw _ (List.mem_of_getElem? (i := 22) rfl))) Via.refl e5 F_this_bounds (g := (mkF m 26 #[.val (.ref this), .val (.int p1), .val (.int (2 : Int32)), .val (.int (2 : Int32)), .val (.int (2 : Int32))] [(.ref this), (.int p1)])) rfl rfl (hb hby d5_26)
      refine Run.st st6 ?_
      show Run p e below s _ _ _ (T6.setTop (mkF m 29 #[.val (.ref this), .val (.int p1), .val (.int (2 : Int32)), .val (.int (2 : Int32)), .val (.int (2 : Int32))] [(.ref r1), (.int p1)]))
      refine Run.x_iconst (q := 30) X6 hx (hb hby d5_29) (z := (2 : Int32)) rfl rfl ?_
      refine Run.x_iload (q := 32) X6 hx (hb hby d5_30) rfl rfl ?_
      refine Run.x_imul (q := 33) X6 hx (hb hby d5_32) (z := (4 : Int32)) (by decide) rfl ?_
      refine Run.ldI X6 hx hZ e6 A_r1 (i := 4) (v := (.int b4)) (by decide) rfl (hb hby d5_33) ?_
      show Run p e below s _ _ _ (T6.setTop (mkF m 34 #[.val (.ref this), .val (.int p1), .val (.int (2 : Int32)), .val (.int (2 : Int32)), .val (.int (2 : Int32))] [(.int b4), (.int p1)]))
      by_cases hc34' : p1 < b4
      · skip
        refine Run.x_icmpNo (q := 37) X6 hx (hb hby d5_34) (tlt hc34').2.1 rfl ?_
        refine Run.x_iload (q := 39) X6 hx (hb hby d5_37) rfl rfl ?_
        refine Run.x_iconst (q := 40) X6 hx (hb hby d5_39) (z := (1 : Int32)) rfl rfl ?_
        refine Run.x_isub (q := 41) X6 hx (hb hby d5_40) (z := (1 : Int32)) (by decide) rfl ?_
        refine Run.x_istoreN (q := 42) X6 hx #[.val (.ref this), .val (.int p1), .val (.int (2 : Int32)), .val (.int (1 : Int32)), .val (.int (2 : Int32))] (hb hby d5_41) rfl rfl ?_
        refine Run.x_goto (q := 70) X6 hx (hb hby d5_42) (by decide) (by decide) ?_
        refine Run.x_goto (q := 12) X6 hx (hb hby d5_70) (by decide) (by decide) ?_
        refine Run.x_iloadN (q := 13) X6 hx (hb hby d5_12) rfl rfl ?_
        refine Run.x_iloadN (q := 14) X6 hx (hb hby d5_13) rfl rfl ?_
        refine Run.x_icmpYes (q := 73) X6 hx (hb hby d5_14) (tlt (by decide : (1 : Int32) < (2 : Int32))).2.2.1 (by decide) (by decide) ?_
        refine Run.x_iconst (q := 74) X6 hx (hb hby d5_73) (z := (0 : Int32)) rfl rfl ?_
        refine Run.retN X6 hx hlk e6 (t := .boolean) hret (by simp) (z' := (0 : Int32)) (by decide) (hb hby d5_74) (by decide) (by decide) ?_
        exact PureI.mk (by refine (own_b0 ?_).symm; simp only [own_in, lt32, false_or, or_false, not_false_eq_true] at hs hc34 hc57 hc34' ⊢; omega) N0
      · skip
        refine Run.x_icmpYes (q := 45) X6 hx (hb hby d5_34) (flt hc34').2.1 (by decide) (by decide) ?_
        refine Run.x_iloadN (q := 46) X6 hx (hb hby d5_45) rfl rfl ?_
        refine Run.x_aloadN (q := 47) X6 hx (hb hby d5_46) rfl rfl rfl ?_
        obtain ⟨T7, X7, e7, st7⟩ := getF X6 hx hZ hown (host := "") (Or.inl (hw _ (List.mem_of_getElem? (i := 22) rfl))) Via.refl e6 F_this_bounds (g := (mkF m 47 #[.val (.ref this), .val (.int p1), .val (.int (2 : Int32)), .val (.int (2 : Int32)), .val (.int (2 : Int32))] [(.ref this), (.int p1)])) rfl rfl (hb hby d5_47)
        refine Run.st st7 ?_
        show Run p e below s _ _ _ (T7.setTop (mkF m 50 #[.val (.ref this), .val (.int p1), .val (.int (2 : Int32)), .val (.int (2 : Int32)), .val (.int (2 : Int32))] [(.ref r1), (.int p1)]))
        refine Run.x_iconst (q := 51) X7 hx (hb hby d5_50) (z := (2 : Int32)) rfl rfl ?_
        refine Run.x_iload (q := 53) X7 hx (hb hby d5_51) rfl rfl ?_
        refine Run.x_imul (q := 54) X7 hx (hb hby d5_53) (z := (4 : Int32)) (by decide) rfl ?_
        refine Run.x_iconst (q := 55) X7 hx (hb hby d5_54) (z := (1 : Int32)) rfl rfl ?_
        refine Run.x_iadd (q := 56) X7 hx (hb hby d5_55) (z := (5 : Int32)) (by decide) rfl ?_
        refine Run.ldI X7 hx hZ e7 A_r1 (i := 5) (v := (.int b5)) (by decide) rfl (hb hby d5_56) ?_
        show Run p e below s _ _ _ (T7.setTop (mkF m 57 #[.val (.ref this), .val (.int p1), .val (.int (2 : Int32)), .val (.int (2 : Int32)), .val (.int (2 : Int32))] [(.int b5), (.int p1)]))
        by_cases hc57' : b5 < p1
        · skip
          refine Run.x_icmpNo (q := 60) X7 hx (hb hby d5_57) (tlt hc57').2.2.2 rfl ?_
          refine Run.x_iload (q := 62) X7 hx (hb hby d5_60) rfl rfl ?_
          refine Run.x_iconst (q := 63) X7 hx (hb hby d5_62) (z := (1 : Int32)) rfl rfl ?_
          refine Run.x_iadd (q := 64) X7 hx (hb hby d5_63) (z := (3 : Int32)) (by decide) rfl ?_
          refine Run.x_istoreN (q := 65) X7 hx #[.val (.ref this), .val (.int p1), .val (.int (3 : Int32)), .val (.int (2 : Int32)), .val (.int (2 : Int32))] (hb hby d5_64) rfl rfl ?_
          refine Run.x_goto (q := 70) X7 hx (hb hby d5_65) (by decide) (by decide) ?_
          refine Run.x_goto (q := 12) X7 hx (hb hby d5_70) (by decide) (by decide) ?_
          refine Run.x_iloadN (q := 13) X7 hx (hb hby d5_12) rfl rfl ?_
          refine Run.x_iloadN (q := 14) X7 hx (hb hby d5_13) rfl rfl ?_
          refine Run.x_icmpYes (q := 73) X7 hx (hb hby d5_14) (tlt (by decide : (2 : Int32) < (3 : Int32))).2.2.1 (by decide) (by decide) ?_
          refine Run.x_iconst (q := 74) X7 hx (hb hby d5_73) (z := (0 : Int32)) rfl rfl ?_
          refine Run.retN X7 hx hlk e7 (t := .boolean) hret (by simp) (z' := (0 : Int32)) (by decide) (hb hby d5_74) (by decide) (by decide) ?_
          exact PureI.mk (by refine (own_b0 ?_).symm; simp only [own_in, lt32, false_or, or_false, not_false_eq_true] at hs hc34 hc57 hc34' hc57' ⊢; omega) N0
        · skip
          refine Run.x_icmpYes (q := 68) X7 hx (hb hby d5_57) (flt hc57').2.2.2 (by decide) (by decide) ?_
          refine Run.x_iconst (q := 69) X7 hx (hb hby d5_68) (z := (1 : Int32)) rfl rfl ?_
          refine Run.retN X7 hx hlk e7 (t := .boolean) hret (by simp) (z' := (1 : Int32)) (by decide) (hb hby d5_69) (by decide) (by decide) ?_
          exact PureI.mk (by refine (own_b1 ?_).symm; simp only [own_in, lt32, false_or, or_false, not_false_eq_true] at hs hc34 hc57 hc34' hc57' ⊢; omega) N0
    · skip
      refine Run.x_icmpYes (q := 68) X5 hx (hb hby d5_57) (flt hc57).2.2.2 (by decide) (by decide) ?_
      refine Run.x_iconst (q := 69) X5 hx (hb hby d5_68) (z := (1 : Int32)) rfl rfl ?_
      refine Run.retN X5 hx hlk e5 (t := .boolean) hret (by simp) (z' := (1 : Int32)) (by decide) (hb hby d5_69) (by decide) (by decide) ?_
      exact PureI.mk (by refine (own_b1 ?_).symm; simp only [own_in, lt32, false_or, or_false, not_false_eq_true] at hs hc34 hc57 ⊢; omega) N0
theorem ef_c_con4 (m : MethodId) (this : Addr) (p1 : Int32) : entryFrame m #[(.ref this), (.int p1)] 5 = mkF m 0 #[.val (.ref this), .val (.int p1), .unset, .unset, .unset] [] := by first | (simp [entryFrame, mkF, argsToLocals, Value.category]; done) | rfl
set_option maxRecDepth 65536 in
set_option maxHeartbeats 40000000 in
theorem c_con4 (l : Launch) (Z : State) (a0 : Array Value) (hw : ∀ d ∈ tables_1, d.before a0 Z = true) (this : Addr) (p1 : Int32) (h0 : Heap) (n0 : Nat) (Z0 : n0 ≤ h0.size) (r1 : Addr) (b0 : Int32) (b1 : Int32) (b2 : Int32) (b3 : Int32) (b4 : Int32) (b5 : Int32) (b6 : Int32) (b7 : Int32) (E_this : Exa Z h0 this "com/example/corbel/corbel/core/regex/CharSet$Ranges") (F_this_bounds : Fld Z h0 this "com/example/corbel/corbel/core/regex/CharSet$Ranges" "bounds" "[I" (.ref r1)) (A_r1 : Ars Z h0 r1 .int [(.int b0), (.int b1), (.int b2), (.int b3), (.int b4), (.int b5), (.int b6), (.int b7)]) (hs : b0.toInt ≤ b1.toInt ∧ b1.toInt < b2.toInt ∧ b2.toInt ≤ b3.toInt ∧ b3.toInt < b4.toInt ∧ b4.toInt ≤ b5.toInt ∧ b5.toInt < b6.toInt ∧ b6.toInt ≤ b7.toInt) :
    Ctr l Z (⟨"com/example/corbel/corbel/core/regex/CharSet$Ranges", "contains", "(I)Z"⟩ : MethodName) prog_50_method_4_code 5 (some .boolean) ({ frames := 0, cells := 0, slots := 0, locals := 0 } : Room) #[(.ref this), (.int p1)] h0 (PureI h0 n0 (own_b (own_in p1 b0 b1 ∨ own_in p1 b2 b3 ∨ own_in p1 b4 b5 ∨ own_in p1 b6 b7))) := by
  refine Ctr.of (plainFor_of_name pn_2) (fun m => ef_c_con4 m this p1) ?_
  intro p e s m below meth c T0 hx hby hml hown hnm hret hlk hZ e0 X0
  have N0 := Fr.nil n0
  replace hown : s.vm.findClass "com/example/corbel/corbel/core/regex/CharSet$Ranges" = some m.cls := hown
  replace hml : c.maxLocals = 5 := hml
  refine Run.x_iconst (q := 1) X0 hx (hb hby d5_0) (z := (0 : Int32)) rfl rfl ?_
  refine Run.x_istoreN (q := 2) X0 hx #[.val (.ref this), .val (.int p1), .val (.int (0 : Int32)), .unset, .unset] (hb hby d5_1) rfl rfl ?_
  refine Run.x_aloadN (q := 3) X0 hx (hb hby d5_2) rfl rfl rfl ?_
  obtain ⟨T1, X1, e1, st1⟩ := getF X0 hx hZ hown (host := "") (Or.inl (hw _ (List.mem_of_getElem? (i := 22) rfl))) Via.refl e0 F_this_bounds (g := (mkF m 3 #[.val (.ref this), .val (.int p1), .val (.int (0 : Int32)), .unset, .unset] [(.ref this)])) rfl rfl (hb hby d5_3)
  refine Run.st st1 ?_
  show Run p e below s _ _ _ (T1.setTop (mkF m 6 #[.val (.ref this), .val (.int p1), .val (.int (0 : Int32)), .unset, .unset] [(.ref r1)]))
  refine Run.alen X1 hx hZ e1 A_r1 (z := (8 : Int32)) rfl (hb hby d5_6) ?_
  show Run p e below s _ _ _ (T1.setTop (mkF m 7 #[.val (.ref this), .val (.int p1), .val (.int (0 : Int32)), .unset, .unset] [(.int (8 : Int32))]))
  refine Run.x_iconst (q := 8) X1 hx (hb hby d5_7) (z := (2 : Int32)) rfl rfl ?_
  refine Run.x_idiv (q := 9) X1 hx (hb hby d5_8) (by decide) (z := (4 : Int32)) (by decide) rfl ?_
  refine Run.x_iconst (q := 10) X1 hx (hb hby d5_9) (z := (1 : Int32)) rfl rfl ?_
  refine Run.x_isub (q := 11) X1 hx (hb hby d5_10) (z := (3 : Int32)) (by decide) rfl ?_
  refine Run.x_istoreN (q := 12) X1 hx #[.val (.ref this), .val (.int p1), .val (.int (0 : Int32)), .val (.int (3 : Int32)), .unset] (hb hby d5_11) rfl rfl ?_
  refine Run.x_iloadN (q := 13) X1 hx (hb hby d5_12) rfl rfl ?_
  refine Run.x_iloadN (q := 14) X1 hx (hb hby d5_13) rfl rfl ?_
  refine Run.x_icmpNo (q := 17) X1 hx (hb hby d5_14) (flt (by decide : ¬ ((3 : Int32) < (0 : Int32)))).2.2.1 rfl ?_
  refine Run.x_iloadN (q := 18) X1 hx (hb hby d5_17) rfl rfl ?_
  refine Run.x_iloadN (q := 19) X1 hx (hb hby d5_18) rfl rfl ?_
  refine Run.x_iadd (q := 20) X1 hx (hb hby d5_19) (z := (3 : Int32)) (by decide) rfl ?_
  refine Run.x_iconst (q := 21) X1 hx (hb hby d5_20) (z := (1 : Int32)) rfl rfl ?_
  refine Run.x_iushr (q := 22) X1 hx (hb hby d5_21) (z := (1 : Int32)) (by decide) rfl ?_
  refine Run.x_istore (q := 24) X1 hx #[.val (.ref this), .val (.int p1), .val (.int (0 : Int32)), .val (.int (3 : Int32)), .val (.int (1 : Int32))] (hb hby d5_22) rfl rfl ?_
  refine Run.x_iloadN (q := 25) X1 hx (hb hby d5_24) rfl rfl ?_
  refine Run.x_aloadN (q := 26) X1 hx (hb hby d5_25) rfl rfl rfl ?_
  obtain ⟨T2, X2, e2, st2⟩ := getF X1 hx hZ hown (host := "") (Or.inl (hw _ (List.mem_of_getElem? (i := 22) rfl))) Via.refl e1 F_this_bounds (g := (mkF m 26 #[.val (.ref this), .val (.int p1), .val (.int (0 : Int32)), .val (.int (3 : Int32)), .val (.int (1 : Int32))] [(.ref this), (.int p1)])) rfl rfl (hb hby d5_26)
  refine Run.st st2 ?_
  show Run p e below s _ _ _ (T2.setTop (mkF m 29 #[.val (.ref this), .val (.int p1), .val (.int (0 : Int32)), .val (.int (3 : Int32)), .val (.int (1 : Int32))] [(.ref r1), (.int p1)]))
  refine Run.x_iconst (q := 30) X2 hx (hb hby d5_29) (z := (2 : Int32)) rfl rfl ?_
  refine Run.x_iload (q := 32) X2 hx (hb hby d5_30) rfl rfl ?_
  refine Run.x_imul (q := 33) X2 hx (hb hby d5_32) (z := (2 : Int32)) (by decide) rfl ?_
  refine Run.ldI X2 hx hZ e2 A_r1 (i := 2) (v := (.int b2)) (by decide) rfl (hb hby d5_33) ?_
  show Run p e below s _ _ _ (T2.setTop (mkF m 34 #[.val (.ref this), .val (.int p1), .val (.int (0 : Int32)), .val (.int (3 : Int32)), .val (.int (1 : Int32))] [(.int b2), (.int p1)]))
  by_cases hc34 : p1 < b2
  · skip
    refine Run.x_icmpNo (q := 37) X2 hx (hb hby d5_34) (tlt hc34).2.1 rfl ?_
    refine Run.x_iload (q := 39) X2 hx (hb hby d5_37) rfl rfl ?_
    refine Run.x_iconst (q := 40) X2 hx (hb hby d5_39) (z := (1 : Int32)) rfl rfl ?_
    refine Run.x_isub (q := 41) X2 hx (hb hby d5_40) (z := (0 : Int32)) (by decide) rfl ?_
    refine Run.x_istoreN (q := 42) X2 hx #[.val (.ref this), .val (.int p1), .val (.int (0 : Int32)), .val (.int (0 : Int32)), .val (.int (1 : Int32))] (hb hby d5_41) rfl rfl ?_
    refine Run.x_goto (q := 70) X2 hx (hb hby d5_42) (by decide) (by decide) ?_
    refine Run.x_goto (q := 12) X2 hx (hb hby d5_70) (by decide) (by decide) ?_
    refine Run.x_iloadN (q := 13) X2 hx (hb hby d5_12) rfl rfl ?_
    refine Run.x_iloadN (q := 14) X2 hx (hb hby d5_13) rfl rfl ?_
    refine Run.x_icmpNo (q := 17) X2 hx (hb hby d5_14) (flt (by decide : ¬ ((0 : Int32) < (0 : Int32)))).2.2.1 rfl ?_
    refine Run.x_iloadN (q := 18) X2 hx (hb hby d5_17) rfl rfl ?_
    refine Run.x_iloadN (q := 19) X2 hx (hb hby d5_18) rfl rfl ?_
    refine Run.x_iadd (q := 20) X2 hx (hb hby d5_19) (z := (0 : Int32)) (by decide) rfl ?_
    refine Run.x_iconst (q := 21) X2 hx (hb hby d5_20) (z := (1 : Int32)) rfl rfl ?_
    refine Run.x_iushr (q := 22) X2 hx (hb hby d5_21) (z := (0 : Int32)) (by decide) rfl ?_
    refine Run.x_istore (q := 24) X2 hx #[.val (.ref this), .val (.int p1), .val (.int (0 : Int32)), .val (.int (0 : Int32)), .val (.int (0 : Int32))] (hb hby d5_22) rfl rfl ?_
    refine Run.x_iloadN (q := 25) X2 hx (hb hby d5_24) rfl rfl ?_
    refine Run.x_aloadN (q := 26) X2 hx (hb hby d5_25) rfl rfl rfl ?_
    obtain ⟨T3, X3, e3, st3⟩ := getF X2 hx hZ hown (host := "") (Or.inl (hw _ (List.mem_of_getElem? (i := 22) rfl))) Via.refl e2 F_this_bounds (g := (mkF m 26 #[.val (.ref this), .val (.int p1), .val (.int (0 : Int32)), .val (.int (0 : Int32)), .val (.int (0 : Int32))] [(.ref this), (.int p1)])) rfl rfl (hb hby d5_26)
    refine Run.st st3 ?_
    show Run p e below s _ _ _ (T3.setTop (mkF m 29 #[.val (.ref this), .val (.int p1), .val (.int (0 : Int32)), .val (.int (0 : Int32)), .val (.int (0 : Int32))] [(.ref r1), (.int p1)]))
    refine Run.x_iconst (q := 30) X3 hx (hb hby d5_29) (z := (2 : Int32)) rfl rfl ?_
    refine Run.x_iload (q := 32) X3 hx (hb hby d5_30) rfl rfl ?_
    refine Run.x_imul (q := 33) X3 hx (hb hby d5_32) (z := (0 : Int32)) (by decide) rfl ?_
    refine Run.ldI X3 hx hZ e3 A_r1 (i := 0) (v := (.int b0)) (by decide) rfl (hb hby d5_33) ?_
    show Run p e below s _ _ _ (T3.setTop (mkF m 34 #[.val (.ref this), .val (.int p1), .val (.int (0 : Int32)), .val (.int (0 : Int32)), .val (.int (0 : Int32))] [(.int b0), (.int p1)]))
    by_cases hc34' : p1 < b0
    · skip
      refine Run.x_icmpNo (q := 37) X3 hx (hb hby d5_34) (tlt hc34').2.1 rfl ?_
      refine Run.x_iload (q := 39) X3 hx (hb hby d5_37) rfl rfl ?_
      refine Run.x_iconst (q := 40) X3 hx (hb hby d5_39) (z := (1 : Int32)) rfl rfl ?_
      refine Run.x_isub (q := 41) X3 hx (hb hby d5_40) (z := (-1 : Int32)) (by decide) rfl ?_
      refine Run.x_istoreN (q := 42) X3 hx #[.val (.ref this), .val (.int p1), .val (.int (0 : Int32)), .val (.int (-1 : Int32)), .val (.int (0 : Int32))] (hb hby d5_41) rfl rfl ?_
      refine Run.x_goto (q := 70) X3 hx (hb hby d5_42) (by decide) (by decide) ?_
      refine Run.x_goto (q := 12) X3 hx (hb hby d5_70) (by decide) (by decide) ?_
      refine Run.x_iloadN (q := 13) X3 hx (hb hby d5_12) rfl rfl ?_
      refine Run.x_iloadN (q := 14) X3 hx (hb hby d5_13) rfl rfl ?_
      refine Run.x_icmpYes (q := 73) X3 hx (hb hby d5_14) (tlt (by decide : (-1 : Int32) < (0 : Int32))).2.2.1 (by decide) (by decide) ?_
      refine Run.x_iconst (q := 74) X3 hx (hb hby d5_73) (z := (0 : Int32)) rfl rfl ?_
      refine Run.retN X3 hx hlk e3 (t := .boolean) hret (by simp) (z' := (0 : Int32)) (by decide) (hb hby d5_74) (by decide) (by decide) ?_
      exact PureI.mk (by refine (own_b0 ?_).symm; simp only [own_in, lt32, false_or, or_false, not_false_eq_true] at hs hc34 hc34' ⊢; omega) N0
    · skip
      refine Run.x_icmpYes (q := 45) X3 hx (hb hby d5_34) (flt hc34').2.1 (by decide) (by decide) ?_
      refine Run.x_iloadN (q := 46) X3 hx (hb hby d5_45) rfl rfl ?_
      refine Run.x_aloadN (q := 47) X3 hx (hb hby d5_46) rfl rfl rfl ?_
      obtain ⟨T4, X4, e4, st4⟩ := getF X3 hx hZ hown (host := "") (Or.inl (hw _ (List.mem_of_getElem? (i := 22) rfl))) Via.refl e3 F_this_bounds (g := (mkF m 47 #[.val (.ref this), .val (.int p1), .val (.int (0 : Int32)), .val (.int (0 : Int32)), .val (.int (0 : Int32))] [(.ref this), (.int p1)])) rfl rfl (hb hby d5_47)
      refine Run.st st4 ?_
      show Run p e below s _ _ _ (T4.setTop (mkF m 50 #[.val (.ref this), .val (.int p1), .val (.int (0 : Int32)), .val (.int (0 : Int32)), .val (.int (0 : Int32))] [(.ref r1), (.int p1)]))
      refine Run.x_iconst (q := 51) X4 hx (hb hby d5_50) (z := (2 : Int32)) rfl rfl ?_
      refine Run.x_iload (q := 53) X4 hx (hb hby d5_51) rfl rfl ?_
      refine Run.x_imul (q := 54) X4 hx (hb hby d5_53) (z := (0 : Int32)) (by decide) rfl ?_
      refine Run.x_iconst (q := 55) X4 hx (hb hby d5_54) (z := (1 : Int32)) rfl rfl ?_
      refine Run.x_iadd (q := 56) X4 hx (hb hby d5_55) (z := (1 : Int32)) (by decide) rfl ?_
      refine Run.ldI X4 hx hZ e4 A_r1 (i := 1) (v := (.int b1)) (by decide) rfl (hb hby d5_56) ?_
      show Run p e below s _ _ _ (T4.setTop (mkF m 57 #[.val (.ref this), .val (.int p1), .val (.int (0 : Int32)), .val (.int (0 : Int32)), .val (.int (0 : Int32))] [(.int b1), (.int p1)]))
      by_cases hc57 : b1 < p1
      · skip
        refine Run.x_icmpNo (q := 60) X4 hx (hb hby d5_57) (tlt hc57).2.2.2 rfl ?_
        refine Run.x_iload (q := 62) X4 hx (hb hby d5_60) rfl rfl ?_
        refine Run.x_iconst (q := 63) X4 hx (hb hby d5_62) (z := (1 : Int32)) rfl rfl ?_
        refine Run.x_iadd (q := 64) X4 hx (hb hby d5_63) (z := (1 : Int32)) (by decide) rfl ?_
        refine Run.x_istoreN (q := 65) X4 hx #[.val (.ref this), .val (.int p1), .val (.int (1 : Int32)), .val (.int (0 : Int32)), .val (.int (0 : Int32))] (hb hby d5_64) rfl rfl ?_
        refine Run.x_goto (q := 70) X4 hx (hb hby d5_65) (by decide) (by decide) ?_
        refine Run.x_goto (q := 12) X4 hx (hb hby d5_70) (by decide) (by decide) ?_
        refine Run.x_iloadN (q := 13) X4 hx (hb hby d5_12) rfl rfl ?_
        refine Run.x_iloadN (q := 14) X4 hx (hb hby d5_13) rfl rfl ?_
        refine Run.x_icmpYes (q := 73) X4 hx (hb hby d5_14) (tlt (by decide : (0 : Int32) < (1 : Int32))).2.2.1 (by decide) (by decide) ?_
        refine Run.x_iconst (q := 74) X4 hx (hb hby d5_73) (z := (0 : Int32)) rfl rfl ?_
        refine Run.retN X4 hx hlk e4 (t := .boolean) hret (by simp) (z' := (0 : Int32)) (by decide) (hb hby d5_74) (by decide) (by decide) ?_
        exact PureI.mk (by refine (own_b0 ?_).symm; simp only [own_in, lt32, false_or, or_false, not_false_eq_true] at hs hc34 hc34' hc57 ⊢; omega) N0
      · skip
        refine Run.x_icmpYes (q := 68) X4 hx (hb hby d5_57) (flt hc57).2.2.2 (by decide) (by decide) ?_
        refine Run.x_iconst (q := 69) X4 hx (hb hby d5_68) (z := (1 : Int32)) rfl rfl ?_
        refine Run.retN X4 hx hlk e4 (t := .boolean) hret (by simp) (z' := (1 : Int32)) (by decide) (hb hby d5_69) (by decide) (by decide) ?_
        exact PureI.mk (by refine (own_b1 ?_).symm; simp only [own_in, lt32, false_or, or_false, not_false_eq_true] at hs hc34 hc34' hc57 ⊢; omega) N0
  · skip
    refine Run.x_icmpYes (q := 45) X2 hx (hb hby d5_34) (flt hc34).2.1 (by decide) (by decide) ?_
    refine Run.x_iloadN (q := 46) X2 hx (hb hby d5_45) rfl rfl ?_
    refine Run.x_aloadN (q := 47) X2 hx (hb hby d5_46) rfl rfl rfl ?_
    obtain ⟨T5, X5, e5, st5⟩ := getF X2 hx hZ hown (host := "") (Or.inl (hw _ (List.mem_of_getElem? (i := 22) rfl))) Via.refl e2 F_this_bounds (g := (mkF m 47 #[.val (.ref this), .val (.int p1), .val (.int (0 : Int32)), .val (.int (3 : Int32)), .val (.int (1 : Int32))] [(.ref this), (.int p1)])) rfl rfl (hb hby d5_47)
    refine Run.st st5 ?_
    show Run p e below s _ _ _ (T5.setTop (mkF m 50 #[.val (.ref this), .val (.int p1), .val (.int (0 : Int32)), .val (.int (3 : Int32)), .val (.int (1 : Int32))] [(.ref r1), (.int p1)]))
    refine Run.x_iconst (q := 51) X5 hx (hb hby d5_50) (z := (2 : Int32)) rfl rfl ?_
    refine Run.x_iload (q := 53) X5 hx (hb hby d5_51) rfl rfl ?_
    refine Run.x_imul (q := 54) X5 hx (hb hby d5_53) (z := (2 : Int32)) (by decide) rfl ?_
    refine Run.x_iconst (q := 55) X5 hx (hb hby d5_54) (z := (1 : Int32)) rfl rfl ?_
    refine Run.x_iadd (q := 56) X5 hx (hb hby d5_55) (z := (3 : Int32)) (by decide) rfl ?_
    refine Run.ldI X5 hx hZ e5 A_r1 (i := 3) (v := (.int b3)) (by decide) rfl (hb hby d5_56) ?_
    show Run p e below s _ _ _ (T5.setTop (mkF m 57 #[.val (.ref this), .val (.int p1), .val (.int (0 : Int32)), .val (.int (3 : Int32)), .val (.int (1 : Int32))] [(.int b3), (.int p1)]))
    by_cases hc57 : b3 < p1
    · skip
      refine Run.x_icmpNo (q := 60) X5 hx (hb hby d5_57) (tlt hc57).2.2.2 rfl ?_
      refine Run.x_iload (q := 62) X5 hx (hb hby d5_60) rfl rfl ?_
      refine Run.x_iconst (q := 63) X5 hx (hb hby d5_62) (z := (1 : Int32)) rfl rfl ?_
      refine Run.x_iadd (q := 64) X5 hx (hb hby d5_63) (z := (2 : Int32)) (by decide) rfl ?_
      refine Run.x_istoreN (q := 65) X5 hx #[.val (.ref this), .val (.int p1), .val (.int (2 : Int32)), .val (.int (3 : Int32)), .val (.int (1 : Int32))] (hb hby d5_64) rfl rfl ?_
      refine Run.x_goto (q := 70) X5 hx (hb hby d5_65) (by decide) (by decide) ?_
      refine Run.x_goto (q := 12) X5 hx (hb hby d5_70) (by decide) (by decide) ?_
      refine Run.x_iloadN (q := 13) X5 hx (hb hby d5_12) rfl rfl ?_
      refine Run.x_iloadN (q := 14) X5 hx (hb hby d5_13) rfl rfl ?_
      refine Run.x_icmpNo (q := 17) X5 hx (hb hby d5_14) (flt (by decide : ¬ ((3 : Int32) < (2 : Int32)))).2.2.1 rfl ?_
      refine Run.x_iloadN (q := 18) X5 hx (hb hby d5_17) rfl rfl ?_
      refine Run.x_iloadN (q := 19) X5 hx (hb hby d5_18) rfl rfl ?_
      refine Run.x_iadd (q := 20) X5 hx (hb hby d5_19) (z := (5 : Int32)) (by decide) rfl ?_
      refine Run.x_iconst (q := 21) X5 hx (hb hby d5_20) (z := (1 : Int32)) rfl rfl ?_
      refine Run.x_iushr (q := 22) X5 hx (hb hby d5_21) (z := (2 : Int32)) (by decide) rfl ?_
      refine Run.x_istore (q := 24) X5 hx #[.val (.ref this), .val (.int p1), .val (.int (2 : Int32)), .val (.int (3 : Int32)), .val (.int (2 : Int32))] (hb hby d5_22) rfl rfl ?_
      refine Run.x_iloadN (q := 25) X5 hx (hb hby d5_24) rfl rfl ?_
      refine Run.x_aloadN (q := 26) X5 hx (hb hby d5_25) rfl rfl rfl ?_
      obtain ⟨T6, X6, e6, st6⟩ := getF X5 hx hZ hown (host := "") (Or.inl (hw _ (List.mem_of_getElem? (i := 22) rfl))) Via.refl e5 F_this_bounds (g := (mkF m 26 #[.val (.ref this), .val (.int p1), .val (.int (2 : Int32)), .val (.int (3 : Int32)), .val (.int (2 : Int32))] [(.ref this), (.int p1)])) rfl rfl (hb hby d5_26)
      refine Run.st st6 ?_
      show Run p e below s _ _ _ (T6.setTop (mkF m 29 #[.val (.ref this), .val (.int p1), .val (.int (2 : Int32)), .val (.int (3 : Int32)), .val (.int (2 : Int32))] [(.ref r1), (.int p1)]))
      refine Run.x_iconst (q := 30) X6 hx (hb hby d5_29) (z := (2 : Int32)) rfl rfl ?_
      refine Run.x_iload (q := 32) X6 hx (hb hby d5_30) rfl rfl ?_
      refine Run.x_imul (q := 33) X6 hx (hb hby d5_32) (z := (4 : Int32)) (by decide) rfl ?_
      refine Run.ldI X6 hx hZ e6 A_r1 (i := 4) (v := (.int b4)) (by decide) rfl (hb hby d5_33) ?_
      show Run p e below s _ _ _ (T6.setTop (mkF m 34 #[.val (.ref this), .val (.int p1), .val (.int (2 : Int32)), .val (.int (3 : Int32)), .val (.int (2 : Int32))] [(.int b4), (.int p1)]))
      by_cases hc34' : p1 < b4
      · skip
        refine Run.x_icmpNo (q := 37) X6 hx (hb hby d5_34) (tlt hc34').2.1 rfl ?_
        refine Run.x_iload (q := 39) X6 hx (hb hby d5_37) rfl rfl ?_
        refine Run.x_iconst (q := 40) X6 hx (hb hby d5_39) (z := (1 : Int32)) rfl rfl ?_
        refine Run.x_isub (q := 41) X6 hx (hb hby d5_40) (z := (1 : Int32)) (by decide) rfl ?_
        refine Run.x_istoreN (q := 42) X6 hx #[.val (.ref this), .val (.int p1), .val (.int (2 : Int32)), .val (.int (1 : Int32)), .val (.int (2 : Int32))] (hb hby d5_41) rfl rfl ?_
        refine Run.x_goto (q := 70) X6 hx (hb hby d5_42) (by decide) (by decide) ?_
        refine Run.x_goto (q := 12) X6 hx (hb hby d5_70) (by decide) (by decide) ?_
        refine Run.x_iloadN (q := 13) X6 hx (hb hby d5_12) rfl rfl ?_
        refine Run.x_iloadN (q := 14) X6 hx (hb hby d5_13) rfl rfl ?_
        refine Run.x_icmpYes (q := 73) X6 hx (hb hby d5_14) (tlt (by decide : (1 : Int32) < (2 : Int32))).2.2.1 (by decide) (by decide) ?_
        refine Run.x_iconst (q := 74) X6 hx (hb hby d5_73) (z := (0 : Int32)) rfl rfl ?_
        refine Run.retN X6 hx hlk e6 (t := .boolean) hret (by simp) (z' := (0 : Int32)) (by decide) (hb hby d5_74) (by decide) (by decide) ?_
        exact PureI.mk (by refine (own_b0 ?_).symm; simp only [own_in, lt32, false_or, or_false, not_false_eq_true] at hs hc34 hc57 hc34' ⊢; omega) N0
      · skip
        refine Run.x_icmpYes (q := 45) X6 hx (hb hby d5_34) (flt hc34').2.1 (by decide) (by decide) ?_
        refine Run.x_iloadN (q := 46) X6 hx (hb hby d5_45) rfl rfl ?_
        refine Run.x_aloadN (q := 47) X6 hx (hb hby d5_46) rfl rfl rfl ?_
        obtain ⟨T7, X7, e7, st7⟩ := getF X6 hx hZ hown (host := "") (Or.inl (hw _ (List.mem_of_getElem? (i := 22) rfl))) Via.refl e6 F_this_bounds (g := (mkF m 47 #[.val (.ref this), .val (.int p1), .val (.int (2 : Int32)), .val (.int (3 : Int32)), .val (.int (2 : Int32))] [(.ref this), (.int p1)])) rfl rfl (hb hby d5_47)
        refine Run.st st7 ?_
        show Run p e below s _ _ _ (T7.setTop (mkF m 50 #[.val (.ref this), .val (.int p1), .val (.int (2 : Int32)), .val (.int (3 : Int32)), .val (.int (2 : Int32))] [(.ref r1), (.int p1)]))
        refine Run.x_iconst (q := 51) X7 hx (hb hby d5_50) (z := (2 : Int32)) rfl rfl ?_
        refine Run.x_iload (q := 53) X7 hx (hb hby d5_51) rfl rfl ?_
        refine Run.x_imul (q := 54) X7 hx (hb hby d5_53) (z := (4 : Int32)) (by decide) rfl ?_
        refine Run.x_iconst (q := 55) X7 hx (hb hby d5_54) (z := (1 : Int32)) rfl rfl ?_
        refine Run.x_iadd (q := 56) X7 hx (hb hby d5_55) (z := (5 : Int32)) (by decide) rfl ?_
        refine Run.ldI X7 hx hZ e7 A_r1 (i := 5) (v := (.int b5)) (by decide) rfl (hb hby d5_56) ?_
        show Run p e below s _ _ _ (T7.setTop (mkF m 57 #[.val (.ref this), .val (.int p1), .val (.int (2 : Int32)), .val (.int (3 : Int32)), .val (.int (2 : Int32))] [(.int b5), (.int p1)]))
        by_cases hc57' : b5 < p1
        · skip
          refine Run.x_icmpNo (q := 60) X7 hx (hb hby d5_57) (tlt hc57').2.2.2 rfl ?_
          refine Run.x_iload (q := 62) X7 hx (hb hby d5_60) rfl rfl ?_
          refine Run.x_iconst (q := 63) X7 hx (hb hby d5_62) (z := (1 : Int32)) rfl rfl ?_
          refine Run.x_iadd (q := 64) X7 hx (hb hby d5_63) (z := (3 : Int32)) (by decide) rfl ?_
          refine Run.x_istoreN (q := 65) X7 hx #[.val (.ref this), .val (.int p1), .val (.int (3 : Int32)), .val (.int (3 : Int32)), .val (.int (2 : Int32))] (hb hby d5_64) rfl rfl ?_
          refine Run.x_goto (q := 70) X7 hx (hb hby d5_65) (by decide) (by decide) ?_
          refine Run.x_goto (q := 12) X7 hx (hb hby d5_70) (by decide) (by decide) ?_
          refine Run.x_iloadN (q := 13) X7 hx (hb hby d5_12) rfl rfl ?_
          refine Run.x_iloadN (q := 14) X7 hx (hb hby d5_13) rfl rfl ?_
          refine Run.x_icmpNo (q := 17) X7 hx (hb hby d5_14) (flt (by decide : ¬ ((3 : Int32) < (3 : Int32)))).2.2.1 rfl ?_
          refine Run.x_iloadN (q := 18) X7 hx (hb hby d5_17) rfl rfl ?_
          refine Run.x_iloadN (q := 19) X7 hx (hb hby d5_18) rfl rfl ?_
          refine Run.x_iadd (q := 20) X7 hx (hb hby d5_19) (z := (6 : Int32)) (by decide) rfl ?_
          refine Run.x_iconst (q := 21) X7 hx (hb hby d5_20) (z := (1 : Int32)) rfl rfl ?_
          refine Run.x_iushr (q := 22) X7 hx (hb hby d5_21) (z := (3 : Int32)) (by decide) rfl ?_
          refine Run.x_istore (q := 24) X7 hx #[.val (.ref this), .val (.int p1), .val (.int (3 : Int32)), .val (.int (3 : Int32)), .val (.int (3 : Int32))] (hb hby d5_22) rfl rfl ?_
          refine Run.x_iloadN (q := 25) X7 hx (hb hby d5_24) rfl rfl ?_
          refine Run.x_aloadN (q := 26) X7 hx (hb hby d5_25) rfl rfl rfl ?_
          obtain ⟨T8, X8, e8, st8⟩ := getF X7 hx hZ hown (host := "") (Or.inl (hw _ (List.mem_of_getElem? (i := 22) rfl))) Via.refl e7 F_this_bounds (g := (mkF m 26 #[.val (.ref this), .val (.int p1), .val (.int (3 : Int32)), .val (.int (3 : Int32)), .val (.int (3 : Int32))] [(.ref this), (.int p1)])) rfl rfl (hb hby d5_26)
          refine Run.st st8 ?_
          show Run p e below s _ _ _ (T8.setTop (mkF m 29 #[.val (.ref this), .val (.int p1), .val (.int (3 : Int32)), .val (.int (3 : Int32)), .val (.int (3 : Int32))] [(.ref r1), (.int p1)]))
          refine Run.x_iconst (q := 30) X8 hx (hb hby d5_29) (z := (2 : Int32)) rfl rfl ?_
          refine Run.x_iload (q := 32) X8 hx (hb hby d5_30) rfl rfl ?_
          refine Run.x_imul (q := 33) X8 hx (hb hby d5_32) (z := (6 : Int32)) (by decide) rfl ?_
          refine Run.ldI X8 hx hZ e8 A_r1 (i := 6) (v := (.int b6)) (by decide) rfl (hb hby d5_33) ?_
          show Run p e below s _ _ _ (T8.setTop (mkF m 34 #[.val (.ref this), .val (.int p1), .val (.int (3 : Int32)), .val (.int (3 : Int32)), .val (.int (3 : Int32))] [(.int b6), (.int p1)]))
          by_cases hc34'' : p1 < b6
          · skip
            refine Run.x_icmpNo (q := 37) X8 hx (hb hby d5_34) (tlt hc34'').2.1 rfl ?_
            refine Run.x_iload (q := 39) X8 hx (hb hby d5_37) rfl rfl ?_
            refine Run.x_iconst (q := 40) X8 hx (hb hby d5_39) (z := (1 : Int32)) rfl rfl ?_
            refine Run.x_isub (q := 41) X8 hx (hb hby d5_40) (z := (2 : Int32)) (by decide) rfl ?_
            refine Run.x_istoreN (q := 42) X8 hx #[.val (.ref this), .val (.int p1), .val (.int (3 : Int32)), .val (.int (2 : Int32)), .val (.int (3 : Int32))] (hb hby d5_41) rfl rfl ?_
            refine Run.x_goto (q := 70) X8 hx (hb hby d5_42) (by decide) (by decide) ?_
            refine Run.x_goto (q := 12) X8 hx (hb hby d5_70) (by decide) (by decide) ?_
            refine Run.x_iloadN (q := 13) X8 hx (hb hby d5_12) rfl rfl ?_
            refine Run.x_iloadN (q := 14) X8 hx (hb hby d5_13) rfl rfl ?_
            refine Run.x_icmpYes (q := 73) X8 hx (hb hby d5_14) (tlt (by decide : (2 : Int32) < (3 : Int32))).2.2.1 (by decide) (by decide) ?_
            refine Run.x_iconst (q := 74) X8 hx (hb hby d5_73) (z := (0 : Int32)) rfl rfl ?_
            refine Run.retN X8 hx hlk e8 (t := .boolean) hret (by simp) (z' := (0 : Int32)) (by decide) (hb hby d5_74) (by decide) (by decide) ?_
            exact PureI.mk (by refine (own_b0 ?_).symm; simp only [own_in, lt32, false_or, or_false, not_false_eq_true] at hs hc34 hc57 hc34' hc57' hc34'' ⊢; omega) N0
          · skip
            refine Run.x_icmpYes (q := 45) X8 hx (hb hby d5_34) (flt hc34'').2.1 (by decide) (by decide) ?_
            refine Run.x_iloadN (q := 46) X8 hx (hb hby d5_45) rfl rfl ?_
            refine Run.x_aloadN (q := 47) X8 hx (hb hby d5_46) rfl rfl rfl ?_
            obtain ⟨T9, X9, e9, st9⟩ := getF X8 hx hZ hown (host := "") (Or.inl (hw _ (List.mem_of_getElem? (i := 22) rfl))) Via.refl e8 F_this_bounds (g := (mkF m 47 #[.val (.ref this), .val (.int p1), .val (.int (3 : Int32)), .val (.int (3 : Int32)), .val (.int (3 : Int32))] [(.ref this), (.int p1)])) rfl rfl (hb hby d5_47)
            refine Run.st st9 ?_
            show Run p e below s _ _ _ (T9.setTop (mkF m 50 #[.val (.ref this), .val (.int p1), .val (.int (3 : Int32)), .val (.int (3 : Int32)), .val (.int (3 : Int32))] [(.ref r1), (.int p1)]))
            refine Run.x_iconst (q := 51) X9 hx (hb hby d5_50) (z := (2 : Int32)) rfl rfl ?_
            refine Run.x_iload (q := 53) X9 hx (hb hby d5_51) rfl rfl ?_
            refine Run.x_imul (q := 54) X9 hx (hb hby d5_53) (z := (6 : Int32)) (by decide) rfl ?_
            refine Run.x_iconst (q := 55) X9 hx (hb hby d5_54) (z := (1 : Int32)) rfl rfl ?_
            refine Run.x_iadd (q := 56) X9 hx (hb hby d5_55) (z := (7 : Int32)) (by decide) rfl ?_
            refine Run.ldI X9 hx hZ e9 A_r1 (i := 7) (v := (.int b7)) (by decide) rfl (hb hby d5_56) ?_
            show Run p e below s _ _ _ (T9.setTop (mkF m 57 #[.val (.ref this), .val (.int p1), .val (.int (3 : Int32)), .val (.int (3 : Int32)), .val (.int (3 : Int32))] [(.int b7), (.int p1)]))
            by_cases hc57'' : b7 < p1
            · skip
              refine Run.x_icmpNo (q := 60) X9 hx (hb hby d5_57) (tlt hc57'').2.2.2 rfl ?_
              refine Run.x_iload (q := 62) X9 hx (hb hby d5_60) rfl rfl ?_
              refine Run.x_iconst (q := 63) X9 hx (hb hby d5_62) (z := (1 : Int32)) rfl rfl ?_
              refine Run.x_iadd (q := 64) X9 hx (hb hby d5_63) (z := (4 : Int32)) (by decide) rfl ?_
              refine Run.x_istoreN (q := 65) X9 hx #[.val (.ref this), .val (.int p1), .val (.int (4 : Int32)), .val (.int (3 : Int32)), .val (.int (3 : Int32))] (hb hby d5_64) rfl rfl ?_
              refine Run.x_goto (q := 70) X9 hx (hb hby d5_65) (by decide) (by decide) ?_
              refine Run.x_goto (q := 12) X9 hx (hb hby d5_70) (by decide) (by decide) ?_
              refine Run.x_iloadN (q := 13) X9 hx (hb hby d5_12) rfl rfl ?_
              refine Run.x_iloadN (q := 14) X9 hx (hb hby d5_13) rfl rfl ?_
              refine Run.x_icmpYes (q := 73) X9 hx (hb hby d5_14) (tlt (by decide : (3 : Int32) < (4 : Int32))).2.2.1 (by decide) (by decide) ?_
              refine Run.x_iconst (q := 74) X9 hx (hb hby d5_73) (z := (0 : Int32)) rfl rfl ?_
              refine Run.retN X9 hx hlk e9 (t := .boolean) hret (by simp) (z' := (0 : Int32)) (by decide) (hb hby d5_74) (by decide) (by decide) ?_
              exact PureI.mk (by refine (own_b0 ?_).symm; simp only [own_in, lt32, false_or, or_false, not_false_eq_true] at hs hc34 hc57 hc34' hc57' hc34'' hc57'' ⊢; omega) N0
            · skip
              refine Run.x_icmpYes (q := 68) X9 hx (hb hby d5_57) (flt hc57'').2.2.2 (by decide) (by decide) ?_
              refine Run.x_iconst (q := 69) X9 hx (hb hby d5_68) (z := (1 : Int32)) rfl rfl ?_
              refine Run.retN X9 hx hlk e9 (t := .boolean) hret (by simp) (z' := (1 : Int32)) (by decide) (hb hby d5_69) (by decide) (by decide) ?_
              exact PureI.mk (by refine (own_b1 ?_).symm; simp only [own_in, lt32, false_or, or_false, not_false_eq_true] at hs hc34 hc57 hc34' hc57' hc34'' hc57'' ⊢; omega) N0
        · skip
          refine Run.x_icmpYes (q := 68) X7 hx (hb hby d5_57) (flt hc57').2.2.2 (by decide) (by decide) ?_
          refine Run.x_iconst (q := 69) X7 hx (hb hby d5_68) (z := (1 : Int32)) rfl rfl ?_
          refine Run.retN X7 hx hlk e7 (t := .boolean) hret (by simp) (z' := (1 : Int32)) (by decide) (hb hby d5_69) (by decide) (by decide) ?_
          exact PureI.mk (by refine (own_b1 ?_).symm; simp only [own_in, lt32, false_or, or_false, not_false_eq_true] at hs hc34 hc57 hc34' hc57' ⊢; omega) N0
    · skip
      refine Run.x_icmpYes (q := 68) X5 hx (hb hby d5_57) (flt hc57).2.2.2 (by decide) (by decide) ?_
      refine Run.x_iconst (q := 69) X5 hx (hb hby d5_68) (z := (1 : Int32)) rfl rfl ?_
      refine Run.retN X5 hx hlk e5 (t := .boolean) hret (by simp) (z' := (1 : Int32)) (by decide) (hb hby d5_69) (by decide) (by decide) ?_
      exact PureI.mk (by refine (own_b1 ?_).symm; simp only [own_in, lt32, false_or, or_false, not_false_eq_true] at hs hc34 hc57 ⊢; omega) N0
theorem ef_c_law (m : MethodId) (p1 : Int32) (p2 : Int32) (p3 : Int32) (p4 : Int32) (p5 : Int32) : entryFrame m #[(.int p1), (.int p2), (.int p3), (.int p4), (.int p5)] maxLocals = mkF m 0 #[.val (.int p1), .val (.int p2), .val (.int p3), .val (.int p4), .val (.int p5), .unset, .unset, .unset, .unset, .unset, .unset, .unset, .unset, .unset, .unset, .unset, .unset, .unset, .unset, .unset, .unset, .unset, .unset, .unset, .unset, .unset, .unset, .unset, .unset, .unset, .unset, .unset, .unset, .unset, .unset, .unset, .unset, .unset, .unset, .unset, .unset, .unset, .unset, .unset, .unset] [] := by first | (simp [entryFrame, mkF, argsToLocals, Value.category, maxLocals]; done) | rfl
theorem pd_1 : parseMethodDescriptor "(JJ)J" = some ⟨[.long, .long], some .long⟩ := by decide +kernel
theorem pd_2 : parseMethodDescriptor "([I)V" = some ⟨[(.array .int)], none⟩ := by decide +kernel
theorem pd_3 : parseMethodDescriptor "(I)Z" = some ⟨[.int], some .boolean⟩ := by decide +kernel
theorem pd_4 : parseMethodDescriptor "(III)Z" = some ⟨[.int, .int, .int], some .boolean⟩ := by decide +kernel
set_option maxRecDepth 65536 in
set_option maxHeartbeats 40000000 in
theorem c_law (l : Launch) (Z : State) (a0 : Array Value) (hw : ∀ d ∈ tables_1, d.before a0 Z = true) (p1 : Int32) (p2 : Int32) (p3 : Int32) (p4 : Int32) (p5 : Int32) (h0 : Heap) (n0 : Nat) (Z0 : n0 ≤ h0.size)  :
    Ctr l Z x code maxLocals ret room_1 #[(.int p1), (.int p2), (.int p3), (.int p4), (.int p5)] h0 (Tru n0) := by
  refine Ctr.of (plainFor_of_name pn_0) (fun m => ef_c_law m p1 p2 p3 p4 p5) ?_
  intro p e s m below meth c T0 hx hby hml hown hnm hret hlk hZ e0 X0
  have N0 := Fr.nil n0
  replace hown : s.vm.findClass "com/example/corbel/corbel/core/regex/RangesContainsPinLaw" = some m.cls := hown
  replace hml : c.maxLocals = 45 := hml
  refine Run.x_iload (q := 2) X0 hx (hb hby at_0) rfl rfl ?_
  refine Run.x_bipush (q := 4) X0 hx (hb hby at_2) (z := (7 : Int32)) rfl rfl ?_
  refine Run.x_iand (q := 5) X0 hx (hb hby at_4) rfl rfl ?_
  refine Run.x_istore (q := 7) X0 hx #[.val (.int p1), .val (.int p2), .val (.int p3), .val (.int p4), .val (.int p5), .val (.int (p5 &&& (7 : Int32))), .unset, .unset, .unset, .unset, .unset, .unset, .unset, .unset, .unset, .unset, .unset, .unset, .unset, .unset, .unset, .unset, .unset, .unset, .unset, .unset, .unset, .unset, .unset, .unset, .unset, .unset, .unset, .unset, .unset, .unset, .unset, .unset, .unset, .unset, .unset, .unset, .unset, .unset, .unset] (hb hby at_5) rfl rfl ?_
  generalize hv1 : (p5 &&& (7 : Int32)) = v1
  have J19 : ∀ cn : Int32, (cn = 0 ∨ cn = 1 ∨ cn = 2 ∨ cn = 3 ∨ cn = 4) → Run p e below s (Tru n0) room_1.cells room_1.slots (T0.setTop (mkF m 19 #[.val (.int p1), .val (.int p2), .val (.int p3), .val (.int p4), .val (.int p5), .val (.int cn), .unset, .unset, .unset, .unset, .unset, .unset, .unset, .unset, .unset, .unset, .unset, .unset, .unset, .unset, .unset, .unset, .unset, .unset, .unset, .unset, .unset, .unset, .unset, .unset, .unset, .unset, .unset, .unset, .unset, .unset, .unset, .unset, .unset, .unset, .unset, .unset, .unset, .unset, .unset] [])) := by
    intro cn hcn
    refine Run.x_lconst (q := 20) X0 hx (hb hby at_19) (z := (1 : Int64)) rfl rfl ?_
    refine Run.x_iload (q := 22) X0 hx (hb hby at_20) rfl rfl ?_
    refine Run.x_iconst (q := 23) X0 hx (hb hby at_22) (z := (3 : Int32)) rfl rfl ?_
    refine Run.x_iushr (q := 24) X0 hx (hb hby at_23) rfl rfl ?_
    refine Run.x_bipush (q := 26) X0 hx (hb hby at_24) (z := (15 : Int32)) rfl rfl ?_
    refine Run.x_iand (q := 27) X0 hx (hb hby at_26) rfl rfl ?_
    refine Run.x_lshl (q := 28) X0 hx (hb hby at_27) rfl rfl ?_
    refine Run.x_lstore (q := 30) X0 hx #[.val (.int p1), .val (.int p2), .val (.int p3), .val (.int p4), .val (.int p5), .val (.int cn), .val (.long ((1 : Int64) <<< ((((p5.toUInt32 >>> ((3 : Int32) &&& 31).toUInt32).toInt32) &&& (15 : Int32)) &&& 0x3f).toInt64)), .second, .unset, .unset, .unset, .unset, .unset, .unset, .unset, .unset, .unset, .unset, .unset, .unset, .unset, .unset, .unset, .unset, .unset, .unset, .unset, .unset, .unset, .unset, .unset, .unset, .unset, .unset, .unset, .unset, .unset, .unset, .unset, .unset, .unset, .unset, .unset, .unset, .unset] (hb hby at_28) rfl rfl ?_
    generalize hv2 : ((1 : Int64) <<< ((((p5.toUInt32 >>> ((3 : Int32) &&& 31).toUInt32).toInt32) &&& (15 : Int32)) &&& 0x3f).toInt64) = v2
    refine Run.x_iloadN (q := 31) X0 hx (hb hby at_30) rfl rfl ?_
    refine Run.x_sipush (q := 34) X0 hx (hb hby at_31) (z := (255 : Int32)) rfl rfl ?_
    refine Run.x_iand (q := 35) X0 hx (hb hby at_34) rfl rfl ?_
    refine Run.x_i2l (q := 36) X0 hx (hb hby at_35) rfl rfl ?_
    refine Run.x_lload (q := 38) X0 hx (hb hby at_36) rfl rfl ?_
    refine Run.x_lmul (q := 39) X0 hx (hb hby at_38) rfl rfl ?_
    refine Run.x_lstore (q := 41) X0 hx #[.val (.int p1), .val (.int p2), .val (.int p3), .val (.int p4), .val (.int p5), .val (.int cn), .val (.long v2), .second, .val (.long ((p4 &&& (255 : Int32)).toInt64 * v2)), .second, .unset, .unset, .unset, .unset, .unset, .unset, .unset, .unset, .unset, .unset, .unset, .unset, .unset, .unset, .unset, .unset, .unset, .unset, .unset, .unset, .unset, .unset, .unset, .unset, .unset, .unset, .unset, .unset, .unset, .unset, .unset, .unset, .unset, .unset, .unset] (hb hby at_39) rfl rfl ?_
    generalize hv3 : ((p4 &&& (255 : Int32)).toInt64 * v2) = v3
    refine Run.x_iloadN (q := 42) X0 hx (hb hby at_41) rfl rfl ?_
    refine Run.x_bipush (q := 44) X0 hx (hb hby at_42) (z := (8 : Int32)) rfl rfl ?_
    refine Run.x_iushr (q := 45) X0 hx (hb hby at_44) rfl rfl ?_
    refine Run.x_sipush (q := 48) X0 hx (hb hby at_45) (z := (255 : Int32)) rfl rfl ?_
    refine Run.x_iand (q := 49) X0 hx (hb hby at_48) rfl rfl ?_
    refine Run.x_i2l (q := 50) X0 hx (hb hby at_49) rfl rfl ?_
    refine Run.x_lload (q := 52) X0 hx (hb hby at_50) rfl rfl ?_
    refine Run.x_lmul (q := 53) X0 hx (hb hby at_52) rfl rfl ?_
    refine Run.x_lstore (q := 55) X0 hx #[.val (.int p1), .val (.int p2), .val (.int p3), .val (.int p4), .val (.int p5), .val (.int cn), .val (.long v2), .second, .val (.long v3), .second, .val (.long ((((p4.toUInt32 >>> ((8 : Int32) &&& 31).toUInt32).toInt32) &&& (255 : Int32)).toInt64 * v2)), .second, .unset, .unset, .unset, .unset, .unset, .unset, .unset, .unset, .unset, .unset, .unset, .unset, .unset, .unset, .unset, .unset, .unset, .unset, .unset, .unset, .unset, .unset, .unset, .unset, .unset, .unset, .unset, .unset, .unset, .unset, .unset, .unset, .unset] (hb hby at_53) rfl rfl ?_
    generalize hv4 : ((((p4.toUInt32 >>> ((8 : Int32) &&& 31).toUInt32).toInt32) &&& (255 : Int32)).toInt64 * v2) = v4
    refine Run.x_iloadN (q := 56) X0 hx (hb hby at_55) rfl rfl ?_
    refine Run.x_bipush (q := 58) X0 hx (hb hby at_56) (z := (16 : Int32)) rfl rfl ?_
    refine Run.x_iushr (q := 59) X0 hx (hb hby at_58) rfl rfl ?_
    refine Run.x_sipush (q := 62) X0 hx (hb hby at_59) (z := (255 : Int32)) rfl rfl ?_
    refine Run.x_iand (q := 63) X0 hx (hb hby at_62) rfl rfl ?_
    refine Run.x_i2l (q := 64) X0 hx (hb hby at_63) rfl rfl ?_
    refine Run.x_lload (q := 66) X0 hx (hb hby at_64) rfl rfl ?_
    refine Run.x_lmul (q := 67) X0 hx (hb hby at_66) rfl rfl ?_
    refine Run.x_lstore (q := 69) X0 hx #[.val (.int p1), .val (.int p2), .val (.int p3), .val (.int p4), .val (.int p5), .val (.int cn), .val (.long v2), .second, .val (.long v3), .second, .val (.long v4), .second, .val (.long ((((p4.toUInt32 >>> ((16 : Int32) &&& 31).toUInt32).toInt32) &&& (255 : Int32)).toInt64 * v2)), .second, .unset, .unset, .unset, .unset, .unset, .unset, .unset, .unset, .unset, .unset, .unset, .unset, .unset, .unset, .unset, .unset, .unset, .unset, .unset, .unset, .unset, .unset, .unset, .unset, .unset, .unset, .unset, .unset, .unset, .unset, .unset] (hb hby at_67) rfl rfl ?_
    generalize hv5 : ((((p4.toUInt32 >>> ((16 : Int32) &&& 31).toUInt32).toInt32) &&& (255 : Int32)).toInt64 * v2) = v5
    refine Run.x_iloadN (q := 70) X0 hx (hb hby at_69) rfl rfl ?_
    refine Run.x_bipush (q := 72) X0 hx (hb hby at_70) (z := (24 : Int32)) rfl rfl ?_
    refine Run.x_iushr (q := 73) X0 hx (hb hby at_72) rfl rfl ?_
    refine Run.x_sipush (q := 76) X0 hx (hb hby at_73) (z := (255 : Int32)) rfl rfl ?_
    refine Run.x_iand (q := 77) X0 hx (hb hby at_76) rfl rfl ?_
    refine Run.x_i2l (q := 78) X0 hx (hb hby at_77) rfl rfl ?_
    refine Run.x_lload (q := 80) X0 hx (hb hby at_78) rfl rfl ?_
    refine Run.x_lmul (q := 81) X0 hx (hb hby at_80) rfl rfl ?_
    refine Run.x_lstore (q := 83) X0 hx #[.val (.int p1), .val (.int p2), .val (.int p3), .val (.int p4), .val (.int p5), .val (.int cn), .val (.long v2), .second, .val (.long v3), .second, .val (.long v4), .second, .val (.long v5), .second, .val (.long ((((p4.toUInt32 >>> ((24 : Int32) &&& 31).toUInt32).toInt32) &&& (255 : Int32)).toInt64 * v2)), .second, .unset, .unset, .unset, .unset, .unset, .unset, .unset, .unset, .unset, .unset, .unset, .unset, .unset, .unset, .unset, .unset, .unset, .unset, .unset, .unset, .unset, .unset, .unset, .unset, .unset, .unset, .unset, .unset, .unset] (hb hby at_81) rfl rfl ?_
    generalize hv6 : ((((p4.toUInt32 >>> ((24 : Int32) &&& 31).toUInt32).toInt32) &&& (255 : Int32)).toInt64 * v2) = v6
    refine Run.x_iloadN (q := 84) X0 hx (hb hby at_83) rfl rfl ?_
    refine Run.x_sipush (q := 87) X0 hx (hb hby at_84) (z := (1023 : Int32)) rfl rfl ?_
    refine Run.x_iand (q := 88) X0 hx (hb hby at_87) rfl rfl ?_
    refine Run.x_i2l (q := 89) X0 hx (hb hby at_88) rfl rfl ?_
    refine Run.x_lload (q := 91) X0 hx (hb hby at_89) rfl rfl ?_
    refine Run.x_lmul (q := 92) X0 hx (hb hby at_91) rfl rfl ?_
    refine Run.x_lstore (q := 94) X0 hx #[.val (.int p1), .val (.int p2), .val (.int p3), .val (.int p4), .val (.int p5), .val (.int cn), .val (.long v2), .second, .val (.long v3), .second, .val (.long v4), .second, .val (.long v5), .second, .val (.long v6), .second, .val (.long ((p3 &&& (1023 : Int32)).toInt64 * v2)), .second, .unset, .unset, .unset, .unset, .unset, .unset, .unset, .unset, .unset, .unset, .unset, .unset, .unset, .unset, .unset, .unset, .unset, .unset, .unset, .unset, .unset, .unset, .unset, .unset, .unset, .unset, .unset] (hb hby at_92) rfl rfl ?_
    generalize hv7 : ((p3 &&& (1023 : Int32)).toInt64 * v2) = v7
    refine Run.x_iloadN (q := 95) X0 hx (hb hby at_94) rfl rfl ?_
    refine Run.x_bipush (q := 97) X0 hx (hb hby at_95) (z := (10 : Int32)) rfl rfl ?_
    refine Run.x_iushr (q := 98) X0 hx (hb hby at_97) rfl rfl ?_
    refine Run.x_sipush (q := 101) X0 hx (hb hby at_98) (z := (1023 : Int32)) rfl rfl ?_
    refine Run.x_iand (q := 102) X0 hx (hb hby at_101) rfl rfl ?_
    refine Run.x_i2l (q := 103) X0 hx (hb hby at_102) rfl rfl ?_
    refine Run.x_lload (q := 105) X0 hx (hb hby at_103) rfl rfl ?_
    refine Run.x_lmul (q := 106) X0 hx (hb hby at_105) rfl rfl ?_
    refine Run.x_lstore (q := 108) X0 hx #[.val (.int p1), .val (.int p2), .val (.int p3), .val (.int p4), .val (.int p5), .val (.int cn), .val (.long v2), .second, .val (.long v3), .second, .val (.long v4), .second, .val (.long v5), .second, .val (.long v6), .second, .val (.long v7), .second, .val (.long ((((p3.toUInt32 >>> ((10 : Int32) &&& 31).toUInt32).toInt32) &&& (1023 : Int32)).toInt64 * v2)), .second, .unset, .unset, .unset, .unset, .unset, .unset, .unset, .unset, .unset, .unset, .unset, .unset, .unset, .unset, .unset, .unset, .unset, .unset, .unset, .unset, .unset, .unset, .unset, .unset, .unset] (hb hby at_106) rfl rfl ?_
    generalize hv8 : ((((p3.toUInt32 >>> ((10 : Int32) &&& 31).toUInt32).toInt32) &&& (1023 : Int32)).toInt64 * v2) = v8
    refine Run.x_iloadN (q := 109) X0 hx (hb hby at_108) rfl rfl ?_
    refine Run.x_bipush (q := 111) X0 hx (hb hby at_109) (z := (20 : Int32)) rfl rfl ?_
    refine Run.x_iushr (q := 112) X0 hx (hb hby at_111) rfl rfl ?_
    refine Run.x_sipush (q := 115) X0 hx (hb hby at_112) (z := (1023 : Int32)) rfl rfl ?_
    refine Run.x_iand (q := 116) X0 hx (hb hby at_115) rfl rfl ?_
    refine Run.x_i2l (q := 117) X0 hx (hb hby at_116) rfl rfl ?_
    refine Run.x_lload (q := 119) X0 hx (hb hby at_117) rfl rfl ?_
    refine Run.x_lmul (q := 120) X0 hx (hb hby at_119) rfl rfl ?_
    refine Run.x_lstore (q := 122) X0 hx #[.val (.int p1), .val (.int p2), .val (.int p3), .val (.int p4), .val (.int p5), .val (.int cn), .val (.long v2), .second, .val (.long v3), .second, .val (.long v4), .second, .val (.long v5), .second, .val (.long v6), .second, .val (.long v7), .second, .val (.long v8), .second, .val (.long ((((p3.toUInt32 >>> ((20 : Int32) &&& 31).toUInt32).toInt32) &&& (1023 : Int32)).toInt64 * v2)), .second, .unset, .unset, .unset, .unset, .unset, .unset, .unset, .unset, .unset, .unset, .unset, .unset, .unset, .unset, .unset, .unset, .unset, .unset, .unset, .unset, .unset, .unset, .unset] (hb hby at_120) rfl rfl ?_
    generalize hv9 : ((((p3.toUInt32 >>> ((20 : Int32) &&& 31).toUInt32).toInt32) &&& (1023 : Int32)).toInt64 * v2) = v9
    refine Run.x_lload (q := 124) X0 hx (hb hby at_122) rfl rfl ?_
    refine Run.x_lload (q := 126) X0 hx (hb hby at_124) rfl rfl ?_
    refine Run.x_ladd (q := 127) X0 hx (hb hby at_126) rfl rfl ?_
    refine Run.x_lload (q := 129) X0 hx (hb hby at_127) rfl rfl ?_
    refine Run.x_ladd (q := 130) X0 hx (hb hby at_129) rfl rfl ?_
    refine Run.x_lload (q := 132) X0 hx (hb hby at_130) rfl rfl ?_
    refine Run.x_ladd (q := 133) X0 hx (hb hby at_132) rfl rfl ?_
    refine Run.x_lload (q := 135) X0 hx (hb hby at_133) rfl rfl ?_
    refine Run.x_ladd (q := 136) X0 hx (hb hby at_135) rfl rfl ?_
    refine Run.x_lload (q := 138) X0 hx (hb hby at_136) rfl rfl ?_
    refine Run.x_ladd (q := 139) X0 hx (hb hby at_138) rfl rfl ?_
    refine Run.x_lload (q := 141) X0 hx (hb hby at_139) rfl rfl ?_
    refine Run.x_ladd (q := 142) X0 hx (hb hby at_141) rfl rfl ?_
    refine Run.st (B := T0.setTop (mkF m 145 #[.val (.int p1), .val (.int p2), .val (.int p3), .val (.int p4), .val (.int p5), .val (.int cn), .val (.long v2), .second, .val (.long v3), .second, .val (.long v4), .second, .val (.long v5), .second, .val (.long v6), .second, .val (.long v7), .second, .val (.long v8), .second, .val (.long v9), .second, .unset, .unset, .unset, .unset, .unset, .unset, .unset, .unset, .unset, .unset, .unset, .unset, .unset, .unset, .unset, .unset, .unset, .unset, .unset, .unset, .unset, .unset, .unset] [(.long (6 : Int64)), (.long ((((((v3 + v4) + v5) + v6) + v7) + v8) + v9))])) (fun t kt => X0.ldc2Long hx hown (mvT hZ (hw _ (List.mem_of_getElem? (i := 0) rfl))) (g := (mkF m 142 #[.val (.int p1), .val (.int p2), .val (.int p3), .val (.int p4), .val (.int p5), .val (.int cn), .val (.long v2), .second, .val (.long v3), .second, .val (.long v4), .second, .val (.long v5), .second, .val (.long v6), .second, .val (.long v7), .second, .val (.long v8), .second, .val (.long v9), .second, .unset, .unset, .unset, .unset, .unset, .unset, .unset, .unset, .unset, .unset, .unset, .unset, .unset, .unset, .unset, .unset, .unset, .unset, .unset, .unset, .unset, .unset, .unset] [(.long ((((((v3 + v4) + v5) + v6) + v7) + v8) + v9))])) rfl (hb hby at_142) _ kt) ?_
    refine Run.x_ladd (q := 146) X0 hx (hb hby at_145) rfl rfl ?_
    refine Run.x_lstore (q := 148) X0 hx #[.val (.int p1), .val (.int p2), .val (.int p3), .val (.int p4), .val (.int p5), .val (.int cn), .val (.long v2), .second, .val (.long v3), .second, .val (.long v4), .second, .val (.long v5), .second, .val (.long v6), .second, .val (.long v7), .second, .val (.long v8), .second, .val (.long v9), .second, .val (.long (((((((v3 + v4) + v5) + v6) + v7) + v8) + v9) + (6 : Int64))), .second, .unset, .unset, .unset, .unset, .unset, .unset, .unset, .unset, .unset, .unset, .unset, .unset, .unset, .unset, .unset, .unset, .unset, .unset, .unset, .unset, .unset] (hb hby at_146) rfl rfl ?_
    generalize hv10 : (((((((v3 + v4) + v5) + v6) + v7) + v8) + v9) + (6 : Int64)) = v10
    refine Run.x_iloadN (q := 149) X0 hx (hb hby at_148) rfl rfl ?_
    refine Run.x_i2l (q := 150) X0 hx (hb hby at_149) rfl rfl ?_
    refine Run.st (B := T0.setTop (mkF m 153 #[.val (.int p1), .val (.int p2), .val (.int p3), .val (.int p4), .val (.int p5), .val (.int cn), .val (.long v2), .second, .val (.long v3), .second, .val (.long v4), .second, .val (.long v5), .second, .val (.long v6), .second, .val (.long v7), .second, .val (.long v8), .second, .val (.long v9), .second, .val (.long v10), .second, .unset, .unset, .unset, .unset, .unset, .unset, .unset, .unset, .unset, .unset, .unset, .unset, .unset, .unset, .unset, .unset, .unset, .unset, .unset, .unset, .unset] [(.long (2147483647 : Int64)), (.long p2.toInt64)])) (fun t kt => X0.ldc2Long hx hown (mvT hZ (hw _ (List.mem_of_getElem? (i := 1) rfl))) (g := (mkF m 150 #[.val (.int p1), .val (.int p2), .val (.int p3), .val (.int p4), .val (.int p5), .val (.int cn), .val (.long v2), .second, .val (.long v3), .second, .val (.long v4), .second, .val (.long v5), .second, .val (.long v6), .second, .val (.long v7), .second, .val (.long v8), .second, .val (.long v9), .second, .val (.long v10), .second, .unset, .unset, .unset, .unset, .unset, .unset, .unset, .unset, .unset, .unset, .unset, .unset, .unset, .unset, .unset, .unset, .unset, .unset, .unset, .unset, .unset] [(.long p2.toInt64)])) rfl (hb hby at_150) _ kt) ?_
    refine Run.x_lload (q := 155) X0 hx (hb hby at_153) rfl rfl ?_
    refine Run.x_lsub (q := 156) X0 hx (hb hby at_155) rfl rfl ?_
    refine Run.callS X0 hx hZ e0 (y := (⟨"java/lang/Math", "min", "(JJ)J"⟩ : MethodName)) hown (hw _ (List.mem_of_getElem? (i := 2) rfl)) (hw _ (List.mem_of_getElem? (i := 3) rfl)) (hw _ (List.mem_of_getElem? (i := 4) rfl)) (hw _ (List.mem_of_getElem? (i := 5) rfl)) (by decide) (argsL := [(.long p2.toInt64), (.long ((2147483647 : Int64) - v10))]) (rest := []) (c_min l Z a0 hw p2.toInt64 ((2147483647 : Int64) - v10) h0 n0 Z0) pd_1 rfl (by rw [hml]; rfl) (W := 0) rfl (by decide) (by decide) (by decide) (by decide) (hb hby at_156) rfl ?_
    intro T11 v11 L11 X11 q11
    obtain ⟨rfl, M11, e11⟩ := q11
    have N11 := Fr.app N0 M11
    show Run p e below s _ _ _ (T11.setTop (mkF m 159 #[.val (.int p1), .val (.int p2), .val (.int p3), .val (.int p4), .val (.int p5), .val (.int cn), .val (.long v2), .second, .val (.long v3), .second, .val (.long v4), .second, .val (.long v5), .second, .val (.long v6), .second, .val (.long v7), .second, .val (.long v8), .second, .val (.long v9), .second, .val (.long v10), .second, .unset, .unset, .unset, .unset, .unset, .unset, .unset, .unset, .unset, .unset, .unset, .unset, .unset, .unset, .unset, .unset, .unset, .unset, .unset, .unset, .unset] [(.long (if ((2147483647 : Int64) - v10) < p2.toInt64 then ((2147483647 : Int64) - v10) else p2.toInt64))]))
    refine Run.x_lstore (q := 161) X11 hx #[.val (.int p1), .val (.int p2), .val (.int p3), .val (.int p4), .val (.int p5), .val (.int cn), .val (.long v2), .second, .val (.long v3), .second, .val (.long v4), .second, .val (.long v5), .second, .val (.long v6), .second, .val (.long v7), .second, .val (.long v8), .second, .val (.long v9), .second, .val (.long v10), .second, .val (.long (if ((2147483647 : Int64) - v10) < p2.toInt64 then ((2147483647 : Int64) - v10) else p2.toInt64)), .second, .unset, .unset, .unset, .unset, .unset, .unset, .unset, .unset, .unset, .unset, .unset, .unset, .unset, .unset, .unset, .unset, .unset, .unset, .unset] (hb hby at_159) rfl rfl ?_
    generalize hv12 : (if ((2147483647 : Int64) - v10) < p2.toInt64 then ((2147483647 : Int64) - v10) else p2.toInt64) = v12
    refine Run.x_lload (q := 163) X11 hx (hb hby at_161) rfl rfl ?_
    refine Run.x_lload (q := 165) X11 hx (hb hby at_163) rfl rfl ?_
    refine Run.x_ladd (q := 166) X11 hx (hb hby at_165) rfl rfl ?_
    refine Run.x_lstore (q := 168) X11 hx #[.val (.int p1), .val (.int p2), .val (.int p3), .val (.int p4), .val (.int p5), .val (.int cn), .val (.long v2), .second, .val (.long v3), .second, .val (.long v4), .second, .val (.long v5), .second, .val (.long v6), .second, .val (.long v7), .second, .val (.long v8), .second, .val (.long v9), .second, .val (.long v10), .second, .val (.long v12), .second, .val (.long (v12 + v3)), .second, .unset, .unset, .unset, .unset, .unset, .unset, .unset, .unset, .unset, .unset, .unset, .unset, .unset, .unset, .unset, .unset, .unset] (hb hby at_166) rfl rfl ?_
    generalize hv13 : (v12 + v3) = v13
    refine Run.x_lload (q := 170) X11 hx (hb hby at_168) rfl rfl ?_
    refine Run.st (B := T11.setTop (mkF m 173 #[.val (.int p1), .val (.int p2), .val (.int p3), .val (.int p4), .val (.int p5), .val (.int cn), .val (.long v2), .second, .val (.long v3), .second, .val (.long v4), .second, .val (.long v5), .second, .val (.long v6), .second, .val (.long v7), .second, .val (.long v8), .second, .val (.long v9), .second, .val (.long v10), .second, .val (.long v12), .second, .val (.long v13), .second, .unset, .unset, .unset, .unset, .unset, .unset, .unset, .unset, .unset, .unset, .unset, .unset, .unset, .unset, .unset, .unset, .unset] [(.long (2 : Int64)), (.long v13)])) (fun t kt => X11.ldc2Long hx hown (mvT hZ (hw _ (List.mem_of_getElem? (i := 6) rfl))) (g := (mkF m 170 #[.val (.int p1), .val (.int p2), .val (.int p3), .val (.int p4), .val (.int p5), .val (.int cn), .val (.long v2), .second, .val (.long v3), .second, .val (.long v4), .second, .val (.long v5), .second, .val (.long v6), .second, .val (.long v7), .second, .val (.long v8), .second, .val (.long v9), .second, .val (.long v10), .second, .val (.long v12), .second, .val (.long v13), .second, .unset, .unset, .unset, .unset, .unset, .unset, .unset, .unset, .unset, .unset, .unset, .unset, .unset, .unset, .unset, .unset, .unset] [(.long v13)])) rfl (hb hby at_170) _ kt) ?_
    refine Run.x_ladd (q := 174) X11 hx (hb hby at_173) rfl rfl ?_
    refine Run.x_lload (q := 176) X11 hx (hb hby at_174) rfl rfl ?_
    refine Run.x_ladd (q := 177) X11 hx (hb hby at_176) rfl rfl ?_
    refine Run.x_lstore (q := 179) X11 hx #[.val (.int p1), .val (.int p2), .val (.int p3), .val (.int p4), .val (.int p5), .val (.int cn), .val (.long v2), .second, .val (.long v3), .second, .val (.long v4), .second, .val (.long v5), .second, .val (.long v6), .second, .val (.long v7), .second, .val (.long v8), .second, .val (.long v9), .second, .val (.long v10), .second, .val (.long v12), .second, .val (.long v13), .second, .val (.long ((v13 + (2 : Int64)) + v7)), .second, .unset, .unset, .unset, .unset, .unset, .unset, .unset, .unset, .unset, .unset, .unset, .unset, .unset, .unset, .unset] (hb hby at_177) rfl rfl ?_
    generalize hv14 : ((v13 + (2 : Int64)) + v7) = v14
    refine Run.x_lload (q := 181) X11 hx (hb hby at_179) rfl rfl ?_
    refine Run.x_lload (q := 183) X11 hx (hb hby at_181) rfl rfl ?_
    refine Run.x_ladd (q := 184) X11 hx (hb hby at_183) rfl rfl ?_
    refine Run.x_lstore (q := 186) X11 hx #[.val (.int p1), .val (.int p2), .val (.int p3), .val (.int p4), .val (.int p5), .val (.int cn), .val (.long v2), .second, .val (.long v3), .second, .val (.long v4), .second, .val (.long v5), .second, .val (.long v6), .second, .val (.long v7), .second, .val (.long v8), .second, .val (.long v9), .second, .val (.long v10), .second, .val (.long v12), .second, .val (.long v13), .second, .val (.long v14), .second, .val (.long (v14 + v4)), .second, .unset, .unset, .unset, .unset, .unset, .unset, .unset, .unset, .unset, .unset, .unset, .unset, .unset] (hb hby at_184) rfl rfl ?_
    generalize hv15 : (v14 + v4) = v15
    refine Run.x_lload (q := 188) X11 hx (hb hby at_186) rfl rfl ?_
    refine Run.st (B := T11.setTop (mkF m 191 #[.val (.int p1), .val (.int p2), .val (.int p3), .val (.int p4), .val (.int p5), .val (.int cn), .val (.long v2), .second, .val (.long v3), .second, .val (.long v4), .second, .val (.long v5), .second, .val (.long v6), .second, .val (.long v7), .second, .val (.long v8), .second, .val (.long v9), .second, .val (.long v10), .second, .val (.long v12), .second, .val (.long v13), .second, .val (.long v14), .second, .val (.long v15), .second, .unset, .unset, .unset, .unset, .unset, .unset, .unset, .unset, .unset, .unset, .unset, .unset, .unset] [(.long (2 : Int64)), (.long v15)])) (fun t kt => X11.ldc2Long hx hown (mvT hZ (hw _ (List.mem_of_getElem? (i := 6) rfl))) (g := (mkF m 188 #[.val (.int p1), .val (.int p2), .val (.int p3), .val (.int p4), .val (.int p5), .val (.int cn), .val (.long v2), .second, .val (.long v3), .second, .val (.long v4), .second, .val (.long v5), .second, .val (.long v6), .second, .val (.long v7), .second, .val (.long v8), .second, .val (.long v9), .second, .val (.long v10), .second, .val (.long v12), .second, .val (.long v13), .second, .val (.long v14), .second, .val (.long v15), .second, .unset, .unset, .unset, .unset, .unset, .unset, .unset, .unset, .unset, .unset, .unset, .unset, .unset] [(.long v15)])) rfl (hb hby at_188) _ kt) ?_
    refine Run.x_ladd (q := 192) X11 hx (hb hby at_191) rfl rfl ?_
    refine Run.x_lload (q := 194) X11 hx (hb hby at_192) rfl rfl ?_
    refine Run.x_ladd (q := 195) X11 hx (hb hby at_194) rfl rfl ?_
    refine Run.x_lstore (q := 197) X11 hx #[.val (.int p1), .val (.int p2), .val (.int p3), .val (.int p4), .val (.int p5), .val (.int cn), .val (.long v2), .second, .val (.long v3), .second, .val (.long v4), .second, .val (.long v5), .second, .val (.long v6), .second, .val (.long v7), .second, .val (.long v8), .second, .val (.long v9), .second, .val (.long v10), .second, .val (.long v12), .second, .val (.long v13), .second, .val (.long v14), .second, .val (.long v15), .second, .val (.long ((v15 + (2 : Int64)) + v8)), .second, .unset, .unset, .unset, .unset, .unset, .unset, .unset, .unset, .unset, .unset, .unset] (hb hby at_195) rfl rfl ?_
    generalize hv16 : ((v15 + (2 : Int64)) + v8) = v16
    refine Run.x_lload (q := 199) X11 hx (hb hby at_197) rfl rfl ?_
    refine Run.x_lload (q := 201) X11 hx (hb hby at_199) rfl rfl ?_
    refine Run.x_ladd (q := 202) X11 hx (hb hby at_201) rfl rfl ?_
    refine Run.x_lstore (q := 204) X11 hx #[.val (.int p1), .val (.int p2), .val (.int p3), .val (.int p4), .val (.int p5), .val (.int cn), .val (.long v2), .second, .val (.long v3), .second, .val (.long v4), .second, .val (.long v5), .second, .val (.long v6), .second, .val (.long v7), .second, .val (.long v8), .second, .val (.long v9), .second, .val (.long v10), .second, .val (.long v12), .second, .val (.long v13), .second, .val (.long v14), .second, .val (.long v15), .second, .val (.long v16), .second, .val (.long (v16 + v5)), .second, .unset, .unset, .unset, .unset, .unset, .unset, .unset, .unset, .unset] (hb hby at_202) rfl rfl ?_
    generalize hv17 : (v16 + v5) = v17
    refine Run.x_lload (q := 206) X11 hx (hb hby at_204) rfl rfl ?_
    refine Run.st (B := T11.setTop (mkF m 209 #[.val (.int p1), .val (.int p2), .val (.int p3), .val (.int p4), .val (.int p5), .val (.int cn), .val (.long v2), .second, .val (.long v3), .second, .val (.long v4), .second, .val (.long v5), .second, .val (.long v6), .second, .val (.long v7), .second, .val (.long v8), .second, .val (.long v9), .second, .val (.long v10), .second, .val (.long v12), .second, .val (.long v13), .second, .val (.long v14), .second, .val (.long v15), .second, .val (.long v16), .second, .val (.long v17), .second, .unset, .unset, .unset, .unset, .unset, .unset, .unset, .unset, .unset] [(.long (2 : Int64)), (.long v17)])) (fun t kt => X11.ldc2Long hx hown (mvT hZ (hw _ (List.mem_of_getElem? (i := 6) rfl))) (g := (mkF m 206 #[.val (.int p1), .val (.int p2), .val (.int p3), .val (.int p4), .val (.int p5), .val (.int cn), .val (.long v2), .second, .val (.long v3), .second, .val (.long v4), .second, .val (.long v5), .second, .val (.long v6), .second, .val (.long v7), .second, .val (.long v8), .second, .val (.long v9), .second, .val (.long v10), .second, .val (.long v12), .second, .val (.long v13), .second, .val (.long v14), .second, .val (.long v15), .second, .val (.long v16), .second, .val (.long v17), .second, .unset, .unset, .unset, .unset, .unset, .unset, .unset, .unset, .unset] [(.long v17)])) rfl (hb hby at_206) _ kt) ?_
    refine Run.x_ladd (q := 210) X11 hx (hb hby at_209) rfl rfl ?_
    refine Run.x_lload (q := 212) X11 hx (hb hby at_210) rfl rfl ?_
    refine Run.x_ladd (q := 213) X11 hx (hb hby at_212) rfl rfl ?_
    refine Run.x_lstore (q := 215) X11 hx #[.val (.int p1), .val (.int p2), .val (.int p3), .val (.int p4), .val (.int p5), .val (.int cn), .val (.long v2), .second, .val (.long v3), .second, .val (.long v4), .second, .val (.long v5), .second, .val (.long v6), .second, .val (.long v7), .second, .val (.long v8), .second, .val (.long v9), .second, .val (.long v10), .second, .val (.long v12), .second, .val (.long v13), .second, .val (.long v14), .second, .val (.long v15), .second, .val (.long v16), .second, .val (.long v17), .second, .val (.long ((v17 + (2 : Int64)) + v9)), .second, .unset, .unset, .unset, .unset, .unset, .unset, .unset] (hb hby at_213) rfl rfl ?_
    generalize hv18 : ((v17 + (2 : Int64)) + v9) = v18
    refine Run.x_lload (q := 217) X11 hx (hb hby at_215) rfl rfl ?_
    refine Run.x_lload (q := 219) X11 hx (hb hby at_217) rfl rfl ?_
    refine Run.x_ladd (q := 220) X11 hx (hb hby at_219) rfl rfl ?_
    refine Run.x_lstore (q := 222) X11 hx #[.val (.int p1), .val (.int p2), .val (.int p3), .val (.int p4), .val (.int p5), .val (.int cn), .val (.long v2), .second, .val (.long v3), .second, .val (.long v4), .second, .val (.long v5), .second, .val (.long v6), .second, .val (.long v7), .second, .val (.long v8), .second, .val (.long v9), .second, .val (.long v10), .second, .val (.long v12), .second, .val (.long v13), .second, .val (.long v14), .second, .val (.long v15), .second, .val (.long v16), .second, .val (.long v17), .second, .val (.long v18), .second, .val (.long (v18 + v6)), .second, .unset, .unset, .unset, .unset, .unset] (hb hby at_220) rfl rfl ?_
    generalize hv19 : (v18 + v6) = v19
    have hsh := own_sh hv2
    have hsrt := own_srt (own_w255 hv3 hsh) (own_w255 hv4 hsh) (own_w255 hv5 hsh) (own_w255 hv6 hsh) (own_w1023 hv7 hsh) (own_w1023 hv8 hsh) (own_w1023 hv9 hsh) hv10 hv12 hv13 hv14 hv15 hv16 hv17 hv18 hv19
    refine Run.x_bipush (q := 224) X11 hx (hb hby at_222) (z := (8 : Int32)) rfl rfl ?_
    refine Run.newP X11 hx hZ e11 (hw _ (List.mem_of_getElem? (i := 7) rfl)) (hb hby at_224) (len := 8) (by decide) (by decide) (cap := 8) (by decide) (by decide) (by decide) (by decide) ?_
    intro T20 h20 b20 gg20 X20 e20 E20 A_b20
    have g_b20 : n0 ≤ b20 := Nat.le_trans Z0 (Nat.le_of_eq gg20.symm)
    have Z20 : n0 ≤ h20.size := Nat.le_trans Z0 E20.1
    replace A_b20 : Ars Z h20 b20 .int [(.int (0 : Int32)), (.int (0 : Int32)), (.int (0 : Int32)), (.int (0 : Int32)), (.int (0 : Int32)), (.int (0 : Int32)), (.int (0 : Int32)), (.int (0 : Int32))] := A_b20
    show Run p e below s _ _ _ (T20.setTop (mkF m 226 #[.val (.int p1), .val (.int p2), .val (.int p3), .val (.int p4), .val (.int p5), .val (.int cn), .val (.long v2), .second, .val (.long v3), .second, .val (.long v4), .second, .val (.long v5), .second, .val (.long v6), .second, .val (.long v7), .second, .val (.long v8), .second, .val (.long v9), .second, .val (.long v10), .second, .val (.long v12), .second, .val (.long v13), .second, .val (.long v14), .second, .val (.long v15), .second, .val (.long v16), .second, .val (.long v17), .second, .val (.long v18), .second, .val (.long v19), .second, .unset, .unset, .unset, .unset, .unset] [(.ref b20)]))
    refine Run.x_dup (q := 227) X20 hx (hb hby at_226) rfl rfl ?_
    refine Run.x_iconst (q := 228) X20 hx (hb hby at_227) (z := (0 : Int32)) rfl rfl ?_
    refine Run.x_lload (q := 230) X20 hx (hb hby at_228) rfl rfl ?_
    refine Run.x_l2i (q := 231) X20 hx (hb hby at_230) rfl rfl ?_
    refine Run.stI X20 hx hZ e20 A_b20 (i := 0) (by decide) (Nat.le_of_ble_eq_true rfl) (hb hby at_231) ?_
    intro T21 h21 X21 e21 W21 A21
    replace A_b20 : Ars Z h21 b20 .int [(.int v12.toInt32), (.int (0 : Int32)), (.int (0 : Int32)), (.int (0 : Int32)), (.int (0 : Int32)), (.int (0 : Int32)), (.int (0 : Int32)), (.int (0 : Int32))] := A21
    have N21 := Fr.snoc X21 N11 g_b20
    have Z21 : n0 ≤ h21.size := Nat.le_trans Z20 (Nat.le_of_eq W21.size.symm)
    show Run p e below s _ _ _ (T21.setTop (mkF m 232 #[.val (.int p1), .val (.int p2), .val (.int p3), .val (.int p4), .val (.int p5), .val (.int cn), .val (.long v2), .second, .val (.long v3), .second, .val (.long v4), .second, .val (.long v5), .second, .val (.long v6), .second, .val (.long v7), .second, .val (.long v8), .second, .val (.long v9), .second, .val (.long v10), .second, .val (.long v12), .second, .val (.long v13), .second, .val (.long v14), .second, .val (.long v15), .second, .val (.long v16), .second, .val (.long v17), .second, .val (.long v18), .second, .val (.long v19), .second, .unset, .unset, .unset, .unset, .unset] [(.ref b20)]))
    refine Run.x_dup (q := 233) X21 hx (hb hby at_232) rfl rfl ?_
    refine Run.x_iconst (q := 234) X21 hx (hb hby at_233) (z := (1 : Int32)) rfl rfl ?_
    refine Run.x_lload (q := 236) X21 hx (hb hby at_234) rfl rfl ?_
    refine Run.x_l2i (q := 237) X21 hx (hb hby at_236) rfl rfl ?_
    refine Run.stI X21 hx hZ e21 A_b20 (i := 1) (by decide) (Nat.le_of_ble_eq_true rfl) (hb hby at_237) ?_
    intro T22 h22 X22 e22 W22 A22
    replace A_b20 : Ars Z h22 b20 .int [(.int v12.toInt32), (.int v13.toInt32), (.int (0 : Int32)), (.int (0 : Int32)), (.int (0 : Int32)), (.int (0 : Int32)), (.int (0 : Int32)), (.int (0 : Int32))] := A22
    have N22 := Fr.snoc X22 N21 g_b20
    have Z22 : n0 ≤ h22.size := Nat.le_trans Z21 (Nat.le_of_eq W22.size.symm)
    show Run p e below s _ _ _ (T22.setTop (mkF m 238 #[.val (.int p1), .val (.int p2), .val (.int p3), .val (.int p4), .val (.int p5), .val (.int cn), .val (.long v2), .second, .val (.long v3), .second, .val (.long v4), .second, .val (.long v5), .second, .val (.long v6), .second, .val (.long v7), .second, .val (.long v8), .second, .val (.long v9), .second, .val (.long v10), .second, .val (.long v12), .second, .val (.long v13), .second, .val (.long v14), .second, .val (.long v15), .second, .val (.long v16), .second, .val (.long v17), .second, .val (.long v18), .second, .val (.long v19), .second, .unset, .unset, .unset, .unset, .unset] [(.ref b20)]))
    refine Run.x_dup (q := 239) X22 hx (hb hby at_238) rfl rfl ?_
    refine Run.x_iconst (q := 240) X22 hx (hb hby at_239) (z := (2 : Int32)) rfl rfl ?_
    refine Run.x_lload (q := 242) X22 hx (hb hby at_240) rfl rfl ?_
    refine Run.x_l2i (q := 243) X22 hx (hb hby at_242) rfl rfl ?_
    refine Run.stI X22 hx hZ e22 A_b20 (i := 2) (by decide) (Nat.le_of_ble_eq_true rfl) (hb hby at_243) ?_
    intro T23 h23 X23 e23 W23 A23
    replace A_b20 : Ars Z h23 b20 .int [(.int v12.toInt32), (.int v13.toInt32), (.int v14.toInt32), (.int (0 : Int32)), (.int (0 : Int32)), (.int (0 : Int32)), (.int (0 : Int32)), (.int (0 : Int32))] := A23
    have N23 := Fr.snoc X23 N22 g_b20
    have Z23 : n0 ≤ h23.size := Nat.le_trans Z22 (Nat.le_of_eq W23.size.symm)
    show Run p e below s _ _ _ (T23.setTop (mkF m 244 #[.val (.int p1), .val (.int p2), .val (.int p3), .val (.int p4), .val (.int p5), .val (.int cn), .val (.long v2), .second, .val (.long v3), .second, .val (.long v4), .second, .val (.long v5), .second, .val (.long v6), .second, .val (.long v7), .second, .val (.long v8), .second, .val (.long v9), .second, .val (.long v10), .second, .val (.long v12), .second, .val (.long v13), .second, .val (.long v14), .second, .val (.long v15), .second, .val (.long v16), .second, .val (.long v17), .second, .val (.long v18), .second, .val (.long v19), .second, .unset, .unset, .unset, .unset, .unset] [(.ref b20)]))
    refine Run.x_dup (q := 245) X23 hx (hb hby at_244) rfl rfl ?_
    refine Run.x_iconst (q := 246) X23 hx (hb hby at_245) (z := (3 : Int32)) rfl rfl ?_
    refine Run.x_lload (q := 248) X23 hx (hb hby at_246) rfl rfl ?_
    refine Run.x_l2i (q := 249) X23 hx (hb hby at_248) rfl rfl ?_
    refine Run.stI X23 hx hZ e23 A_b20 (i := 3) (by decide) (Nat.le_of_ble_eq_true rfl) (hb hby at_249) ?_
    intro T24 h24 X24 e24 W24 A24
    replace A_b20 : Ars Z h24 b20 .int [(.int v12.toInt32), (.int v13.toInt32), (.int v14.toInt32), (.int v15.toInt32), (.int (0 : Int32)), (.int (0 : Int32)), (.int (0 : Int32)), (.int (0 : Int32))] := A24
    have N24 := Fr.snoc X24 N23 g_b20
    have Z24 : n0 ≤ h24.size := Nat.le_trans Z23 (Nat.le_of_eq W24.size.symm)
    show Run p e below s _ _ _ (T24.setTop (mkF m 250 #[.val (.int p1), .val (.int p2), .val (.int p3), .val (.int p4), .val (.int p5), .val (.int cn), .val (.long v2), .second, .val (.long v3), .second, .val (.long v4), .second, .val (.long v5), .second, .val (.long v6), .second, .val (.long v7), .second, .val (.long v8), .second, .val (.long v9), .second, .val (.long v10), .second, .val (.long v12), .second, .val (.long v13), .second, .val (.long v14), .second, .val (.long v15), .second, .val (.long v16), .second, .val (.long v17), .second, .val (.long v18), .second, .val (.long v19), .second, .unset, .unset, .unset, .unset, .unset] [(.ref b20)]))
    refine Run.x_dup (q := 251) X24 hx (hb hby at_250) rfl rfl ?_
    refine Run.x_iconst (q := 252) X24 hx (hb hby at_251) (z := (4 : Int32)) rfl rfl ?_
    refine Run.x_lload (q := 254) X24 hx (hb hby at_252) rfl rfl ?_
    refine Run.x_l2i (q := 255) X24 hx (hb hby at_254) rfl rfl ?_
    refine Run.stI X24 hx hZ e24 A_b20 (i := 4) (by decide) (Nat.le_of_ble_eq_true rfl) (hb hby at_255) ?_
    intro T25 h25 X25 e25 W25 A25
    replace A_b20 : Ars Z h25 b20 .int [(.int v12.toInt32), (.int v13.toInt32), (.int v14.toInt32), (.int v15.toInt32), (.int v16.toInt32), (.int (0 : Int32)), (.int (0 : Int32)), (.int (0 : Int32))] := A25
    have N25 := Fr.snoc X25 N24 g_b20
    have Z25 : n0 ≤ h25.size := Nat.le_trans Z24 (Nat.le_of_eq W25.size.symm)
    show Run p e below s _ _ _ (T25.setTop (mkF m 256 #[.val (.int p1), .val (.int p2), .val (.int p3), .val (.int p4), .val (.int p5), .val (.int cn), .val (.long v2), .second, .val (.long v3), .second, .val (.long v4), .second, .val (.long v5), .second, .val (.long v6), .second, .val (.long v7), .second, .val (.long v8), .second, .val (.long v9), .second, .val (.long v10), .second, .val (.long v12), .second, .val (.long v13), .second, .val (.long v14), .second, .val (.long v15), .second, .val (.long v16), .second, .val (.long v17), .second, .val (.long v18), .second, .val (.long v19), .second, .unset, .unset, .unset, .unset, .unset] [(.ref b20)]))
    refine Run.x_dup (q := 257) X25 hx (hb hby at_256) rfl rfl ?_
    refine Run.x_iconst (q := 258) X25 hx (hb hby at_257) (z := (5 : Int32)) rfl rfl ?_
    refine Run.x_lload (q := 260) X25 hx (hb hby at_258) rfl rfl ?_
    refine Run.x_l2i (q := 261) X25 hx (hb hby at_260) rfl rfl ?_
    refine Run.stI X25 hx hZ e25 A_b20 (i := 5) (by decide) (Nat.le_of_ble_eq_true rfl) (hb hby at_261) ?_
    intro T26 h26 X26 e26 W26 A26
    replace A_b20 : Ars Z h26 b20 .int [(.int v12.toInt32), (.int v13.toInt32), (.int v14.toInt32), (.int v15.toInt32), (.int v16.toInt32), (.int v17.toInt32), (.int (0 : Int32)), (.int (0 : Int32))] := A26
    have N26 := Fr.snoc X26 N25 g_b20
    have Z26 : n0 ≤ h26.size := Nat.le_trans Z25 (Nat.le_of_eq W26.size.symm)
    show Run p e below s _ _ _ (T26.setTop (mkF m 262 #[.val (.int p1), .val (.int p2), .val (.int p3), .val (.int p4), .val (.int p5), .val (.int cn), .val (.long v2), .second, .val (.long v3), .second, .val (.long v4), .second, .val (.long v5), .second, .val (.long v6), .second, .val (.long v7), .second, .val (.long v8), .second, .val (.long v9), .second, .val (.long v10), .second, .val (.long v12), .second, .val (.long v13), .second, .val (.long v14), .second, .val (.long v15), .second, .val (.long v16), .second, .val (.long v17), .second, .val (.long v18), .second, .val (.long v19), .second, .unset, .unset, .unset, .unset, .unset] [(.ref b20)]))
    refine Run.x_dup (q := 263) X26 hx (hb hby at_262) rfl rfl ?_
    refine Run.x_bipush (q := 265) X26 hx (hb hby at_263) (z := (6 : Int32)) rfl rfl ?_
    refine Run.x_lload (q := 267) X26 hx (hb hby at_265) rfl rfl ?_
    refine Run.x_l2i (q := 268) X26 hx (hb hby at_267) rfl rfl ?_
    refine Run.stI X26 hx hZ e26 A_b20 (i := 6) (by decide) (Nat.le_of_ble_eq_true rfl) (hb hby at_268) ?_
    intro T27 h27 X27 e27 W27 A27
    replace A_b20 : Ars Z h27 b20 .int [(.int v12.toInt32), (.int v13.toInt32), (.int v14.toInt32), (.int v15.toInt32), (.int v16.toInt32), (.int v17.toInt32), (.int v18.toInt32), (.int (0 : Int32))] := A27
    have N27 := Fr.snoc X27 N26 g_b20
    have Z27 : n0 ≤ h27.size := Nat.le_trans Z26 (Nat.le_of_eq W27.size.symm)
    show Run p e below s _ _ _ (T27.setTop (mkF m 269 #[.val (.int p1), .val (.int p2), .val (.int p3), .val (.int p4), .val (.int p5), .val (.int cn), .val (.long v2), .second, .val (.long v3), .second, .val (.long v4), .second, .val (.long v5), .second, .val (.long v6), .second, .val (.long v7), .second, .val (.long v8), .second, .val (.long v9), .second, .val (.long v10), .second, .val (.long v12), .second, .val (.long v13), .second, .val (.long v14), .second, .val (.long v15), .second, .val (.long v16), .second, .val (.long v17), .second, .val (.long v18), .second, .val (.long v19), .second, .unset, .unset, .unset, .unset, .unset] [(.ref b20)]))
    refine Run.x_dup (q := 270) X27 hx (hb hby at_269) rfl rfl ?_
    refine Run.x_bipush (q := 272) X27 hx (hb hby at_270) (z := (7 : Int32)) rfl rfl ?_
    refine Run.x_lload (q := 274) X27 hx (hb hby at_272) rfl rfl ?_
    refine Run.x_l2i (q := 275) X27 hx (hb hby at_274) rfl rfl ?_
    refine Run.stI X27 hx hZ e27 A_b20 (i := 7) (by decide) (Nat.le_of_ble_eq_true rfl) (hb hby at_275) ?_
    intro T28 h28 X28 e28 W28 A28
    replace A_b20 : Ars Z h28 b20 .int [(.int v12.toInt32), (.int v13.toInt32), (.int v14.toInt32), (.int v15.toInt32), (.int v16.toInt32), (.int v17.toInt32), (.int v18.toInt32), (.int v19.toInt32)] := A28
    have N28 := Fr.snoc X28 N27 g_b20
    have Z28 : n0 ≤ h28.size := Nat.le_trans Z27 (Nat.le_of_eq W28.size.symm)
    show Run p e below s _ _ _ (T28.setTop (mkF m 276 #[.val (.int p1), .val (.int p2), .val (.int p3), .val (.int p4), .val (.int p5), .val (.int cn), .val (.long v2), .second, .val (.long v3), .second, .val (.long v4), .second, .val (.long v5), .second, .val (.long v6), .second, .val (.long v7), .second, .val (.long v8), .second, .val (.long v9), .second, .val (.long v10), .second, .val (.long v12), .second, .val (.long v13), .second, .val (.long v14), .second, .val (.long v15), .second, .val (.long v16), .second, .val (.long v17), .second, .val (.long v18), .second, .val (.long v19), .second, .unset, .unset, .unset, .unset, .unset] [(.ref b20)]))
    refine Run.x_astore (q := 278) X28 hx #[.val (.int p1), .val (.int p2), .val (.int p3), .val (.int p4), .val (.int p5), .val (.int cn), .val (.long v2), .second, .val (.long v3), .second, .val (.long v4), .second, .val (.long v5), .second, .val (.long v6), .second, .val (.long v7), .second, .val (.long v8), .second, .val (.long v9), .second, .val (.long v10), .second, .val (.long v12), .second, .val (.long v13), .second, .val (.long v14), .second, .val (.long v15), .second, .val (.long v16), .second, .val (.long v17), .second, .val (.long v18), .second, .val (.long v19), .second, .val (.ref b20), .unset, .unset, .unset, .unset] (hb hby at_276) rfl rfl rfl ?_
    rcases hcn with rfl | rfl | rfl | rfl | rfl
    · skip
      show Run p e below s _ _ _ (T28.setTop (mkF m 278 #[.val (.int p1), .val (.int p2), .val (.int p3), .val (.int p4), .val (.int p5), .val (.int (0 : Int32)), .val (.long v2), .second, .val (.long v3), .second, .val (.long v4), .second, .val (.long v5), .second, .val (.long v6), .second, .val (.long v7), .second, .val (.long v8), .second, .val (.long v9), .second, .val (.long v10), .second, .val (.long v12), .second, .val (.long v13), .second, .val (.long v14), .second, .val (.long v15), .second, .val (.long v16), .second, .val (.long v17), .second, .val (.long v18), .second, .val (.long v19), .second, .val (.ref b20), .unset, .unset, .unset, .unset] []))
      refine Run.x_iconst (q := 279) X28 hx (hb hby at_278) (z := (2 : Int32)) rfl rfl ?_
      refine Run.x_iload (q := 281) X28 hx (hb hby at_279) rfl rfl ?_
      refine Run.x_imul (q := 282) X28 hx (hb hby at_281) (z := (0 : Int32)) (by decide) rfl ?_
      refine Run.newP X28 hx hZ e28 (hw _ (List.mem_of_getElem? (i := 7) rfl)) (hb hby at_282) (len := 0) (by decide) (by decide) (cap := 0) (by decide) (by decide) (by decide) (by decide) ?_
      intro T29 h29 b29 gg29 X29 e29 E29 A_b29
      have g_b29 : n0 ≤ b29 := Nat.le_trans Z28 (Nat.le_of_eq gg29.symm)
      have ne_b20_b29 : b20 ≠ b29 := Nat.ne_of_lt (Nat.lt_of_lt_of_le A_b20.lt (Nat.le_of_eq gg29.symm))
      have Z29 : n0 ≤ h29.size := Nat.le_trans Z28 E29.1
      replace A_b29 : Ars Z h29 b29 .int [] := A_b29
      show Run p e below s _ _ _ (T29.setTop (mkF m 284 #[.val (.int p1), .val (.int p2), .val (.int p3), .val (.int p4), .val (.int p5), .val (.int (0 : Int32)), .val (.long v2), .second, .val (.long v3), .second, .val (.long v4), .second, .val (.long v5), .second, .val (.long v6), .second, .val (.long v7), .second, .val (.long v8), .second, .val (.long v9), .second, .val (.long v10), .second, .val (.long v12), .second, .val (.long v13), .second, .val (.long v14), .second, .val (.long v15), .second, .val (.long v16), .second, .val (.long v17), .second, .val (.long v18), .second, .val (.long v19), .second, .val (.ref b20), .unset, .unset, .unset, .unset] [(.ref b29)]))
      refine Run.x_astore (q := 286) X29 hx #[.val (.int p1), .val (.int p2), .val (.int p3), .val (.int p4), .val (.int p5), .val (.int (0 : Int32)), .val (.long v2), .second, .val (.long v3), .second, .val (.long v4), .second, .val (.long v5), .second, .val (.long v6), .second, .val (.long v7), .second, .val (.long v8), .second, .val (.long v9), .second, .val (.long v10), .second, .val (.long v12), .second, .val (.long v13), .second, .val (.long v14), .second, .val (.long v15), .second, .val (.long v16), .second, .val (.long v17), .second, .val (.long v18), .second, .val (.long v19), .second, .val (.ref b20), .val (.ref b29), .unset, .unset, .unset] (hb hby at_284) rfl rfl rfl ?_
      refine Run.x_iload (q := 288) X29 hx (hb hby at_286) rfl rfl ?_
      refine Run.x_iconst (q := 289) X29 hx (hb hby at_288) (z := (1 : Int32)) rfl rfl ?_
      refine Run.x_icmpYes (q := 308) X29 hx (hb hby at_289) (tlt (by decide : (0 : Int32) < (1 : Int32))).1 (by decide) (by decide) ?_
      refine Run.x_iload (q := 310) X29 hx (hb hby at_308) rfl rfl ?_
      refine Run.x_iconst (q := 311) X29 hx (hb hby at_310) (z := (2 : Int32)) rfl rfl ?_
      refine Run.x_icmpYes (q := 330) X29 hx (hb hby at_311) (tlt (by decide : (0 : Int32) < (2 : Int32))).1 (by decide) (by decide) ?_
      refine Run.x_iload (q := 332) X29 hx (hb hby at_330) rfl rfl ?_
      refine Run.x_iconst (q := 333) X29 hx (hb hby at_332) (z := (3 : Int32)) rfl rfl ?_
      refine Run.x_icmpYes (q := 352) X29 hx (hb hby at_333) (tlt (by decide : (0 : Int32) < (3 : Int32))).1 (by decide) (by decide) ?_
      refine Run.x_iload (q := 354) X29 hx (hb hby at_352) rfl rfl ?_
      refine Run.x_iconst (q := 355) X29 hx (hb hby at_354) (z := (4 : Int32)) rfl rfl ?_
      refine Run.x_icmpYes (q := 378) X29 hx (hb hby at_355) (tlt (by decide : (0 : Int32) < (4 : Int32))).1 (by decide) (by decide) ?_
      refine Run.x_iloadN (q := 379) X29 hx (hb hby at_378) rfl rfl ?_
      refine Run.x_istore (q := 381) X29 hx #[.val (.int p1), .val (.int p2), .val (.int p3), .val (.int p4), .val (.int p5), .val (.int (0 : Int32)), .val (.long v2), .second, .val (.long v3), .second, .val (.long v4), .second, .val (.long v5), .second, .val (.long v6), .second, .val (.long v7), .second, .val (.long v8), .second, .val (.long v9), .second, .val (.long v10), .second, .val (.long v12), .second, .val (.long v13), .second, .val (.long v14), .second, .val (.long v15), .second, .val (.long v16), .second, .val (.long v17), .second, .val (.long v18), .second, .val (.long v19), .second, .val (.ref b20), .val (.ref b29), .val (.int p1), .unset, .unset] (hb hby at_379) rfl rfl ?_
      have J408 : ∀ cx : Int32, Run p e below s (Tru n0) room_1.cells room_1.slots (T29.setTop (mkF m 408 #[.val (.int p1), .val (.int p2), .val (.int p3), .val (.int p4), .val (.int p5), .val (.int (0 : Int32)), .val (.long v2), .second, .val (.long v3), .second, .val (.long v4), .second, .val (.long v5), .second, .val (.long v6), .second, .val (.long v7), .second, .val (.long v8), .second, .val (.long v9), .second, .val (.long v10), .second, .val (.long v12), .second, .val (.long v13), .second, .val (.long v14), .second, .val (.long v15), .second, .val (.long v16), .second, .val (.long v17), .second, .val (.long v18), .second, .val (.long v19), .second, .val (.ref b20), .val (.ref b29), .val (.int cx), .unset, .unset] [])) := by
        intro cx
        refine Run.x_iload (q := 410) X29 hx (hb hby at_408) rfl rfl ?_
        refine Run.x_iconst (q := 411) X29 hx (hb hby at_410) (z := (1 : Int32)) rfl rfl ?_
        refine Run.x_icmpYes (q := 430) X29 hx (hb hby at_411) (tlt (by decide : (0 : Int32) < (1 : Int32))).1 (by decide) (by decide) ?_
        refine Run.x_iload (q := 432) X29 hx (hb hby at_430) rfl rfl ?_
        refine Run.x_iconst (q := 433) X29 hx (hb hby at_432) (z := (2 : Int32)) rfl rfl ?_
        refine Run.x_icmpYes (q := 452) X29 hx (hb hby at_433) (tlt (by decide : (0 : Int32) < (2 : Int32))).1 (by decide) (by decide) ?_
        refine Run.x_iload (q := 454) X29 hx (hb hby at_452) rfl rfl ?_
        refine Run.x_iconst (q := 455) X29 hx (hb hby at_454) (z := (3 : Int32)) rfl rfl ?_
        refine Run.x_icmpYes (q := 474) X29 hx (hb hby at_455) (tlt (by decide : (0 : Int32) < (3 : Int32))).1 (by decide) (by decide) ?_
        refine Run.x_iload (q := 476) X29 hx (hb hby at_474) rfl rfl ?_
        refine Run.x_iconst (q := 477) X29 hx (hb hby at_476) (z := (4 : Int32)) rfl rfl ?_
        refine Run.x_icmpYes (q := 502) X29 hx (hb hby at_477) (tlt (by decide : (0 : Int32) < (4 : Int32))).1 (by decide) (by decide) ?_
        refine Run.x_iconst (q := 503) X29 hx (hb hby at_502) (z := (0 : Int32)) rfl rfl ?_
        refine Run.x_istore (q := 505) X29 hx #[.val (.int p1), .val (.int p2), .val (.int p3), .val (.int p4), .val (.int p5), .val (.int (0 : Int32)), .val (.long v2), .second, .val (.long v3), .second, .val (.long v4), .second, .val (.long v5), .second, .val (.long v6), .second, .val (.long v7), .second, .val (.long v8), .second, .val (.long v9), .second, .val (.long v10), .second, .val (.long v12), .second, .val (.long v13), .second, .val (.long v14), .second, .val (.long v15), .second, .val (.long v16), .second, .val (.long v17), .second, .val (.long v18), .second, .val (.long v19), .second, .val (.ref b20), .val (.ref b29), .val (.int cx), .val (.int (0 : Int32)), .unset] (hb hby at_503) rfl rfl ?_
        obtain ⟨T30, h30, X30, e30, E30, A30, D30, -, st30⟩ := newO X29 hx hZ hown (hw _ (List.mem_of_getElem? (i := 8) rfl)) (hw _ (List.mem_of_getElem? (i := 9) rfl)) (hw _ (List.mem_of_getElem? (i := 10) rfl)) e29 (g := (mkF m 505 #[.val (.int p1), .val (.int p2), .val (.int p3), .val (.int p4), .val (.int p5), .val (.int (0 : Int32)), .val (.long v2), .second, .val (.long v3), .second, .val (.long v4), .second, .val (.long v5), .second, .val (.long v6), .second, .val (.long v7), .second, .val (.long v8), .second, .val (.long v9), .second, .val (.long v10), .second, .val (.long v12), .second, .val (.long v13), .second, .val (.long v14), .second, .val (.long v15), .second, .val (.long v16), .second, .val (.long v17), .second, .val (.long v18), .second, .val (.long v19), .second, .val (.ref b20), .val (.ref b29), .val (.int cx), .val (.int (0 : Int32)), .unset] [])) rfl (hb hby at_505) (by decide) (by decide)
        obtain ⟨b30, gg30⟩ : ∃ z, z = h29.size := ⟨_, rfl⟩
        rw [← gg30] at A30 D30 st30
        have g_b30 : n0 ≤ b30 := Nat.le_trans Z29 (Nat.le_of_eq gg30.symm)
        replace A_b20 := A_b20.ext E29
        have ne_b20_b30 : b20 ≠ b30 := Nat.ne_of_lt (Nat.lt_of_lt_of_le A_b20.lt (Nat.le_of_eq gg30.symm))
        have ne_b29_b30 : b29 ≠ b30 := Nat.ne_of_lt (Nat.lt_of_lt_of_le A_b29.lt (Nat.le_of_eq gg30.symm))
        have Z30 : n0 ≤ h30.size := Nat.le_trans Z29 E30.1
        have E_b30 := A30
        have F_b30_bounds : Fld Z h30 b30 "com/example/corbel/corbel/core/regex/CharSet$Ranges" "bounds" "[I" .null := D30 (Or.inr (hw _ (List.mem_of_getElem? (i := 23) rfl))) (ty := (.array .int)) (by decide)
        refine Run.st st30 ?_
        show Run p e below s _ _ _ (T30.setTop (mkF m 508 #[.val (.int p1), .val (.int p2), .val (.int p3), .val (.int p4), .val (.int p5), .val (.int (0 : Int32)), .val (.long v2), .second, .val (.long v3), .second, .val (.long v4), .second, .val (.long v5), .second, .val (.long v6), .second, .val (.long v7), .second, .val (.long v8), .second, .val (.long v9), .second, .val (.long v10), .second, .val (.long v12), .second, .val (.long v13), .second, .val (.long v14), .second, .val (.long v15), .second, .val (.long v16), .second, .val (.long v17), .second, .val (.long v18), .second, .val (.long v19), .second, .val (.ref b20), .val (.ref b29), .val (.int cx), .val (.int (0 : Int32)), .unset] [(.ref b30)]))
        refine Run.x_dup (q := 509) X30 hx (hb hby at_508) rfl rfl ?_
        refine Run.x_aload (q := 511) X30 hx (hb hby at_509) rfl rfl rfl ?_
        refine Run.callC X30 hx hZ e30 (y := (⟨"com/example/corbel/corbel/core/regex/CharSet$Ranges", "<init>", "([I)V"⟩ : MethodName)) hown rfl (hw _ (List.mem_of_getElem? (i := 11) rfl)) (hw _ (List.mem_of_getElem? (i := 12) rfl)) (hw _ (List.mem_of_getElem? (i := 10) rfl)) (hw _ (List.mem_of_getElem? (i := 13) rfl)) (by decide) (a := b30) (argsL := [(.ref b29)]) (rest := [(.ref b30)]) (c_init l Z a0 hw b30 b29 h30 n0 Z30 E_b30 F_b30_bounds g_b30) pd_2 rfl (by rw [hml]; rfl) (W := 1) rfl (by decide) (by decide) (by decide) (by decide) (hb hby at_511) rfl ?_
        intro T31 v31 L31 X31 q31
        obtain ⟨rfl, M31, K31, E31, F31_0⟩ := q31
        have N31 := Fr.app N28 M31
        show Run p e below s _ _ _ (T31.setTop (mkF m 514 #[.val (.int p1), .val (.int p2), .val (.int p3), .val (.int p4), .val (.int p5), .val (.int (0 : Int32)), .val (.long v2), .second, .val (.long v3), .second, .val (.long v4), .second, .val (.long v5), .second, .val (.long v6), .second, .val (.long v7), .second, .val (.long v8), .second, .val (.long v9), .second, .val (.long v10), .second, .val (.long v12), .second, .val (.long v13), .second, .val (.long v14), .second, .val (.long v15), .second, .val (.long v16), .second, .val (.long v17), .second, .val (.long v18), .second, .val (.long v19), .second, .val (.ref b20), .val (.ref b29), .val (.int cx), .val (.int (0 : Int32)), .unset] [(.ref b30)]))
        have Z31 : n0 ≤ T31.heap.size := Nat.le_trans Z30 K31.1
        refine Run.x_iload (q := 516) X31 hx (hb hby at_514) rfl rfl ?_
        replace E_b30 := E_b30.keep K31
        replace A_b29 := (A_b29.ext E30).keep K31 (ninS ne_b29_b30 nin0)
        refine Run.callV X31 hx hZ rfl (y := (⟨"com/example/corbel/corbel/core/regex/CharSet$Ranges", "contains", "(I)Z"⟩ : MethodName)) (z := (⟨"com/example/corbel/corbel/core/regex/CharSet$Ranges", "contains", "(I)Z"⟩ : MethodName)) hown (hw _ (List.mem_of_getElem? (i := 24) rfl)) (hw _ (List.mem_of_getElem? (i := 25) rfl)) (notFace_of_selects (args := #[]) (mvT hZ (hw _ (List.mem_of_getElem? (i := 27) rfl)))) (hw _ (List.mem_of_getElem? (i := 27) rfl)) (hw _ (List.mem_of_getElem? (i := 26) rfl)) (hw _ (List.mem_of_getElem? (i := 10) rfl)) (hw _ (List.mem_of_getElem? (i := 28) rfl)) (by decide) (a := b30) E_b30 (argsL := [(.int cx)]) (rest := []) (c_con0 l Z a0 hw b30 cx T31.heap n0 Z31 b29 E_b30 F31_0 A_b29 trivial) pd_3 rfl (by rw [hml]; rfl) (W := 0) rfl (by decide) (by decide) (by decide) (by decide) (hb hby at_516) rfl ?_
        intro T32 v32 L32 X32 q32
        obtain ⟨rfl, M32, e32⟩ := q32
        have N32 := Fr.app N31 M32
        show Run p e below s _ _ _ (T32.setTop (mkF m 519 #[.val (.int p1), .val (.int p2), .val (.int p3), .val (.int p4), .val (.int p5), .val (.int (0 : Int32)), .val (.long v2), .second, .val (.long v3), .second, .val (.long v4), .second, .val (.long v5), .second, .val (.long v6), .second, .val (.long v7), .second, .val (.long v8), .second, .val (.long v9), .second, .val (.long v10), .second, .val (.long v12), .second, .val (.long v13), .second, .val (.long v14), .second, .val (.long v15), .second, .val (.long v16), .second, .val (.long v17), .second, .val (.long v18), .second, .val (.long v19), .second, .val (.ref b20), .val (.ref b29), .val (.int cx), .val (.int (0 : Int32)), .unset] [(.int (own_b (False)))]))
        refine Run.x_istore (q := 521) X32 hx #[.val (.int p1), .val (.int p2), .val (.int p3), .val (.int p4), .val (.int p5), .val (.int (0 : Int32)), .val (.long v2), .second, .val (.long v3), .second, .val (.long v4), .second, .val (.long v5), .second, .val (.long v6), .second, .val (.long v7), .second, .val (.long v8), .second, .val (.long v9), .second, .val (.long v10), .second, .val (.long v12), .second, .val (.long v13), .second, .val (.long v14), .second, .val (.long v15), .second, .val (.long v16), .second, .val (.long v17), .second, .val (.long v18), .second, .val (.long v19), .second, .val (.ref b20), .val (.ref b29), .val (.int cx), .val (.int (0 : Int32)), .val (.int (own_b (False)))] (hb hby at_519) rfl rfl ?_
        generalize hv33 : (own_b (False)) = v33
        refine Run.x_iload (q := 523) X32 hx (hb hby at_521) rfl rfl ?_
        refine Run.x_iload (q := 525) X32 hx (hb hby at_523) rfl rfl ?_
        refine Run.x_icmpNo (q := 528) X32 hx (hb hby at_525) (teq (hv33.symm.trans (own_b0 id))).2 rfl ?_
        refine Run.x_iconst (q := 529) X32 hx (hb hby at_528) (z := (1 : Int32)) rfl rfl ?_
        refine Run.x_goto (q := 533) X32 hx (hb hby at_529) (by decide) (by decide) ?_
        refine Run.retN X32 hx hlk e32 (t := .boolean) hret (by simp) (z' := (1 : Int32)) (by decide) (hb hby at_533) (by decide) (by decide) ?_
        exact ⟨rfl, N32⟩
      refine Run.x_iload (q := 383) X29 hx (hb hby at_381) rfl rfl ?_
      refine Run.x_bipush (q := 385) X29 hx (hb hby at_383) (z := (7 : Int32)) rfl rfl ?_
      refine Run.x_iushr (q := 386) X29 hx (hb hby at_385) rfl rfl ?_
      refine Run.x_iconst (q := 387) X29 hx (hb hby at_386) (z := (2 : Int32)) rfl rfl ?_
      refine Run.x_iand (q := 388) X29 hx (hb hby at_387) rfl rfl ?_
      by_cases hc388 : (((p5.toUInt32 >>> ((7 : Int32) &&& 31).toUInt32).toInt32) &&& (2 : Int32)) = (0 : Int32)
      · skip
        refine Run.x_ifYes (q := 408) X29 hx (hb hby at_388) ((if0 _ _).trans (teq hc388).1) (by decide) (by decide) ?_
        exact J408 _
      · skip
        refine Run.x_ifNo (q := 391) X29 hx (hb hby at_388) ((if0 _ _).trans (feq hc388).1) rfl ?_
        refine Run.x_aload (q := 393) X29 hx (hb hby at_391) rfl rfl rfl ?_
        refine Run.x_iloadN (q := 394) X29 hx (hb hby at_393) rfl rfl ?_
        refine Run.x_iconst (q := 395) X29 hx (hb hby at_394) (z := (2 : Int32)) rfl rfl ?_
        refine Run.x_iushr (q := 396) X29 hx (hb hby at_395) rfl rfl ?_
        refine Run.x_bipush (q := 398) X29 hx (hb hby at_396) (z := (7 : Int32)) rfl rfl ?_
        refine Run.x_iand (q := 399) X29 hx (hb hby at_398) rfl rfl ?_
        replace A_b20 := A_b20.ext E29
        obtain ⟨ix, hix, hlt⟩ := own_idx ((p1.toUInt32 >>> ((2 : Int32) &&& 31).toUInt32).toInt32)
        obtain ⟨xv, hxv⟩ := ints_at [v12.toInt32, v13.toInt32, v14.toInt32, v15.toInt32, v16.toInt32, v17.toInt32, v18.toInt32, v19.toInt32] (i := ix) hlt
        refine Run.ldI X29 hx hZ e29 A_b20 (i := ix) (v := (.int xv)) hix hxv (hb hby at_399) ?_
        show Run p e below s _ _ _ (T29.setTop (mkF m 400 #[.val (.int p1), .val (.int p2), .val (.int p3), .val (.int p4), .val (.int p5), .val (.int (0 : Int32)), .val (.long v2), .second, .val (.long v3), .second, .val (.long v4), .second, .val (.long v5), .second, .val (.long v6), .second, .val (.long v7), .second, .val (.long v8), .second, .val (.long v9), .second, .val (.long v10), .second, .val (.long v12), .second, .val (.long v13), .second, .val (.long v14), .second, .val (.long v15), .second, .val (.long v16), .second, .val (.long v17), .second, .val (.long v18), .second, .val (.long v19), .second, .val (.ref b20), .val (.ref b29), .val (.int p1), .unset, .unset] [(.int xv)]))
        refine Run.x_iloadN (q := 401) X29 hx (hb hby at_400) rfl rfl ?_
        refine Run.x_iconst (q := 402) X29 hx (hb hby at_401) (z := (3 : Int32)) rfl rfl ?_
        refine Run.x_iand (q := 403) X29 hx (hb hby at_402) rfl rfl ?_
        refine Run.x_iadd (q := 404) X29 hx (hb hby at_403) rfl rfl ?_
        refine Run.x_iconst (q := 405) X29 hx (hb hby at_404) (z := (1 : Int32)) rfl rfl ?_
        refine Run.x_isub (q := 406) X29 hx (hb hby at_405) rfl rfl ?_
        refine Run.x_istore (q := 408) X29 hx #[.val (.int p1), .val (.int p2), .val (.int p3), .val (.int p4), .val (.int p5), .val (.int (0 : Int32)), .val (.long v2), .second, .val (.long v3), .second, .val (.long v4), .second, .val (.long v5), .second, .val (.long v6), .second, .val (.long v7), .second, .val (.long v8), .second, .val (.long v9), .second, .val (.long v10), .second, .val (.long v12), .second, .val (.long v13), .second, .val (.long v14), .second, .val (.long v15), .second, .val (.long v16), .second, .val (.long v17), .second, .val (.long v18), .second, .val (.long v19), .second, .val (.ref b20), .val (.ref b29), .val (.int ((xv + (p1 &&& (3 : Int32))) - (1 : Int32))), .unset, .unset] (hb hby at_406) rfl rfl ?_
        generalize hv34 : ((xv + (p1 &&& (3 : Int32))) - (1 : Int32)) = v34
        exact J408 _
    · skip
      show Run p e below s _ _ _ (T28.setTop (mkF m 278 #[.val (.int p1), .val (.int p2), .val (.int p3), .val (.int p4), .val (.int p5), .val (.int (1 : Int32)), .val (.long v2), .second, .val (.long v3), .second, .val (.long v4), .second, .val (.long v5), .second, .val (.long v6), .second, .val (.long v7), .second, .val (.long v8), .second, .val (.long v9), .second, .val (.long v10), .second, .val (.long v12), .second, .val (.long v13), .second, .val (.long v14), .second, .val (.long v15), .second, .val (.long v16), .second, .val (.long v17), .second, .val (.long v18), .second, .val (.long v19), .second, .val (.ref b20), .unset, .unset, .unset, .unset] []))
      refine Run.x_iconst (q := 279) X28 hx (hb hby at_278) (z := (2 : Int32)) rfl rfl ?_
      refine Run.x_iload (q := 281) X28 hx (hb hby at_279) rfl rfl ?_
      refine Run.x_imul (q := 282) X28 hx (hb hby at_281) (z := (2 : Int32)) (by decide) rfl ?_
      refine Run.newP X28 hx hZ e28 (hw _ (List.mem_of_getElem? (i := 7) rfl)) (hb hby at_282) (len := 2) (by decide) (by decide) (cap := 2) (by decide) (by decide) (by decide) (by decide) ?_
      intro T35 h35 b35 gg35 X35 e35 E35 A_b35
      have g_b35 : n0 ≤ b35 := Nat.le_trans Z28 (Nat.le_of_eq gg35.symm)
      have ne_b20_b35 : b20 ≠ b35 := Nat.ne_of_lt (Nat.lt_of_lt_of_le A_b20.lt (Nat.le_of_eq gg35.symm))
      have Z35 : n0 ≤ h35.size := Nat.le_trans Z28 E35.1
      replace A_b35 : Ars Z h35 b35 .int [(.int (0 : Int32)), (.int (0 : Int32))] := A_b35
      show Run p e below s _ _ _ (T35.setTop (mkF m 284 #[.val (.int p1), .val (.int p2), .val (.int p3), .val (.int p4), .val (.int p5), .val (.int (1 : Int32)), .val (.long v2), .second, .val (.long v3), .second, .val (.long v4), .second, .val (.long v5), .second, .val (.long v6), .second, .val (.long v7), .second, .val (.long v8), .second, .val (.long v9), .second, .val (.long v10), .second, .val (.long v12), .second, .val (.long v13), .second, .val (.long v14), .second, .val (.long v15), .second, .val (.long v16), .second, .val (.long v17), .second, .val (.long v18), .second, .val (.long v19), .second, .val (.ref b20), .unset, .unset, .unset, .unset] [(.ref b35)]))
      refine Run.x_astore (q := 286) X35 hx #[.val (.int p1), .val (.int p2), .val (.int p3), .val (.int p4), .val (.int p5), .val (.int (1 : Int32)), .val (.long v2), .second, .val (.long v3), .second, .val (.long v4), .second, .val (.long v5), .second, .val (.long v6), .second, .val (.long v7), .second, .val (.long v8), .second, .val (.long v9), .second, .val (.long v10), .second, .val (.long v12), .second, .val (.long v13), .second, .val (.long v14), .second, .val (.long v15), .second, .val (.long v16), .second, .val (.long v17), .second, .val (.long v18), .second, .val (.long v19), .second, .val (.ref b20), .val (.ref b35), .unset, .unset, .unset] (hb hby at_284) rfl rfl rfl ?_
      refine Run.x_iload (q := 288) X35 hx (hb hby at_286) rfl rfl ?_
      refine Run.x_iconst (q := 289) X35 hx (hb hby at_288) (z := (1 : Int32)) rfl rfl ?_
      refine Run.x_icmpNo (q := 292) X35 hx (hb hby at_289) (flt (by decide : ¬ ((1 : Int32) < (1 : Int32)))).1 rfl ?_
      refine Run.x_aload (q := 294) X35 hx (hb hby at_292) rfl rfl rfl ?_
      refine Run.x_iconst (q := 295) X35 hx (hb hby at_294) (z := (0 : Int32)) rfl rfl ?_
      refine Run.x_aload (q := 297) X35 hx (hb hby at_295) rfl rfl rfl ?_
      refine Run.x_iconst (q := 298) X35 hx (hb hby at_297) (z := (0 : Int32)) rfl rfl ?_
      replace A_b20 := A_b20.ext E35
      refine Run.ldI X35 hx hZ e35 A_b20 (i := 0) (v := (.int v12.toInt32)) (by decide) rfl (hb hby at_298) ?_
      show Run p e below s _ _ _ (T35.setTop (mkF m 299 #[.val (.int p1), .val (.int p2), .val (.int p3), .val (.int p4), .val (.int p5), .val (.int (1 : Int32)), .val (.long v2), .second, .val (.long v3), .second, .val (.long v4), .second, .val (.long v5), .second, .val (.long v6), .second, .val (.long v7), .second, .val (.long v8), .second, .val (.long v9), .second, .val (.long v10), .second, .val (.long v12), .second, .val (.long v13), .second, .val (.long v14), .second, .val (.long v15), .second, .val (.long v16), .second, .val (.long v17), .second, .val (.long v18), .second, .val (.long v19), .second, .val (.ref b20), .val (.ref b35), .unset, .unset, .unset] [(.int v12.toInt32), (.int (0 : Int32)), (.ref b35)]))
      refine Run.stI X35 hx hZ e35 A_b35 (i := 0) (by decide) (Nat.le_of_ble_eq_true rfl) (hb hby at_299) ?_
      intro T36 h36 X36 e36 W36 A36
      replace A_b35 : Ars Z h36 b35 .int [(.int v12.toInt32), (.int (0 : Int32))] := A36
      have N36 := Fr.snoc X36 N28 g_b35
      have Z36 : n0 ≤ h36.size := Nat.le_trans Z35 (Nat.le_of_eq W36.size.symm)
      show Run p e below s _ _ _ (T36.setTop (mkF m 300 #[.val (.int p1), .val (.int p2), .val (.int p3), .val (.int p4), .val (.int p5), .val (.int (1 : Int32)), .val (.long v2), .second, .val (.long v3), .second, .val (.long v4), .second, .val (.long v5), .second, .val (.long v6), .second, .val (.long v7), .second, .val (.long v8), .second, .val (.long v9), .second, .val (.long v10), .second, .val (.long v12), .second, .val (.long v13), .second, .val (.long v14), .second, .val (.long v15), .second, .val (.long v16), .second, .val (.long v17), .second, .val (.long v18), .second, .val (.long v19), .second, .val (.ref b20), .val (.ref b35), .unset, .unset, .unset] []))
      refine Run.x_aload (q := 302) X36 hx (hb hby at_300) rfl rfl rfl ?_
      refine Run.x_iconst (q := 303) X36 hx (hb hby at_302) (z := (1 : Int32)) rfl rfl ?_
      refine Run.x_aload (q := 305) X36 hx (hb hby at_303) rfl rfl rfl ?_
      refine Run.x_iconst (q := 306) X36 hx (hb hby at_305) (z := (1 : Int32)) rfl rfl ?_
      replace A_b20 := A_b20.other W36 ne_b20_b35
      refine Run.ldI X36 hx hZ e36 A_b20 (i := 1) (v := (.int v13.toInt32)) (by decide) rfl (hb hby at_306) ?_
      show Run p e below s _ _ _ (T36.setTop (mkF m 307 #[.val (.int p1), .val (.int p2), .val (.int p3), .val (.int p4), .val (.int p5), .val (.int (1 : Int32)), .val (.long v2), .second, .val (.long v3), .second, .val (.long v4), .second, .val (.long v5), .second, .val (.long v6), .second, .val (.long v7), .second, .val (.long v8), .second, .val (.long v9), .second, .val (.long v10), .second, .val (.long v12), .second, .val (.long v13), .second, .val (.long v14), .second, .val (.long v15), .second, .val (.long v16), .second, .val (.long v17), .second, .val (.long v18), .second, .val (.long v19), .second, .val (.ref b20), .val (.ref b35), .unset, .unset, .unset] [(.int v13.toInt32), (.int (1 : Int32)), (.ref b35)]))
      refine Run.stI X36 hx hZ e36 A_b35 (i := 1) (by decide) (Nat.le_of_ble_eq_true rfl) (hb hby at_307) ?_
      intro T37 h37 X37 e37 W37 A37
      replace A_b35 : Ars Z h37 b35 .int [(.int v12.toInt32), (.int v13.toInt32)] := A37
      have N37 := Fr.snoc X37 N36 g_b35
      have Z37 : n0 ≤ h37.size := Nat.le_trans Z36 (Nat.le_of_eq W37.size.symm)
      show Run p e below s _ _ _ (T37.setTop (mkF m 308 #[.val (.int p1), .val (.int p2), .val (.int p3), .val (.int p4), .val (.int p5), .val (.int (1 : Int32)), .val (.long v2), .second, .val (.long v3), .second, .val (.long v4), .second, .val (.long v5), .second, .val (.long v6), .second, .val (.long v7), .second, .val (.long v8), .second, .val (.long v9), .second, .val (.long v10), .second, .val (.long v12), .second, .val (.long v13), .second, .val (.long v14), .second, .val (.long v15), .second, .val (.long v16), .second, .val (.long v17), .second, .val (.long v18), .second, .val (.long v19), .second, .val (.ref b20), .val (.ref b35), .unset, .unset, .unset] []))
      refine Run.x_iload (q := 310) X37 hx (hb hby at_308) rfl rfl ?_
      refine Run.x_iconst (q := 311) X37 hx (hb hby at_310) (z := (2 : Int32)) rfl rfl ?_
      refine Run.x_icmpYes (q := 330) X37 hx (hb hby at_311) (tlt (by decide : (1 : Int32) < (2 : Int32))).1 (by decide) (by decide) ?_
      refine Run.x_iload (q := 332) X37 hx (hb hby at_330) rfl rfl ?_
      refine Run.x_iconst (q := 333) X37 hx (hb hby at_332) (z := (3 : Int32)) rfl rfl ?_
      refine Run.x_icmpYes (q := 352) X37 hx (hb hby at_333) (tlt (by decide : (1 : Int32) < (3 : Int32))).1 (by decide) (by decide) ?_
      refine Run.x_iload (q := 354) X37 hx (hb hby at_352) rfl rfl ?_
      refine Run.x_iconst (q := 355) X37 hx (hb hby at_354) (z := (4 : Int32)) rfl rfl ?_
      refine Run.x_icmpYes (q := 378) X37 hx (hb hby at_355) (tlt (by decide : (1 : Int32) < (4 : Int32))).1 (by decide) (by decide) ?_
      refine Run.x_iloadN (q := 379) X37 hx (hb hby at_378) rfl rfl ?_
      refine Run.x_istore (q := 381) X37 hx #[.val (.int p1), .val (.int p2), .val (.int p3), .val (.int p4), .val (.int p5), .val (.int (1 : Int32)), .val (.long v2), .second, .val (.long v3), .second, .val (.long v4), .second, .val (.long v5), .second, .val (.long v6), .second, .val (.long v7), .second, .val (.long v8), .second, .val (.long v9), .second, .val (.long v10), .second, .val (.long v12), .second, .val (.long v13), .second, .val (.long v14), .second, .val (.long v15), .second, .val (.long v16), .second, .val (.long v17), .second, .val (.long v18), .second, .val (.long v19), .second, .val (.ref b20), .val (.ref b35), .val (.int p1), .unset, .unset] (hb hby at_379) rfl rfl ?_
      have J408 : ∀ cx : Int32, Run p e below s (Tru n0) room_1.cells room_1.slots (T37.setTop (mkF m 408 #[.val (.int p1), .val (.int p2), .val (.int p3), .val (.int p4), .val (.int p5), .val (.int (1 : Int32)), .val (.long v2), .second, .val (.long v3), .second, .val (.long v4), .second, .val (.long v5), .second, .val (.long v6), .second, .val (.long v7), .second, .val (.long v8), .second, .val (.long v9), .second, .val (.long v10), .second, .val (.long v12), .second, .val (.long v13), .second, .val (.long v14), .second, .val (.long v15), .second, .val (.long v16), .second, .val (.long v17), .second, .val (.long v18), .second, .val (.long v19), .second, .val (.ref b20), .val (.ref b35), .val (.int cx), .unset, .unset] [])) := by
        intro cx
        refine Run.x_iload (q := 410) X37 hx (hb hby at_408) rfl rfl ?_
        refine Run.x_iconst (q := 411) X37 hx (hb hby at_410) (z := (1 : Int32)) rfl rfl ?_
        refine Run.x_icmpNo (q := 414) X37 hx (hb hby at_411) (flt (by decide : ¬ ((1 : Int32) < (1 : Int32)))).1 rfl ?_
        refine Run.x_iload (q := 416) X37 hx (hb hby at_414) rfl rfl ?_
        refine Run.x_aload (q := 418) X37 hx (hb hby at_416) rfl rfl rfl ?_
        refine Run.x_iconst (q := 419) X37 hx (hb hby at_418) (z := (0 : Int32)) rfl rfl ?_
        replace A_b20 := A_b20.other W37 ne_b20_b35
        refine Run.ldI X37 hx hZ e37 A_b20 (i := 0) (v := (.int v12.toInt32)) (by decide) rfl (hb hby at_419) ?_
        show Run p e below s _ _ _ (T37.setTop (mkF m 420 #[.val (.int p1), .val (.int p2), .val (.int p3), .val (.int p4), .val (.int p5), .val (.int (1 : Int32)), .val (.long v2), .second, .val (.long v3), .second, .val (.long v4), .second, .val (.long v5), .second, .val (.long v6), .second, .val (.long v7), .second, .val (.long v8), .second, .val (.long v9), .second, .val (.long v10), .second, .val (.long v12), .second, .val (.long v13), .second, .val (.long v14), .second, .val (.long v15), .second, .val (.long v16), .second, .val (.long v17), .second, .val (.long v18), .second, .val (.long v19), .second, .val (.ref b20), .val (.ref b35), .val (.int cx), .unset, .unset] [(.int v12.toInt32), (.int cx)]))
        refine Run.x_aload (q := 422) X37 hx (hb hby at_420) rfl rfl rfl ?_
        refine Run.x_iconst (q := 423) X37 hx (hb hby at_422) (z := (1 : Int32)) rfl rfl ?_
        refine Run.ldI X37 hx hZ e37 A_b20 (i := 1) (v := (.int v13.toInt32)) (by decide) rfl (hb hby at_423) ?_
        show Run p e below s _ _ _ (T37.setTop (mkF m 424 #[.val (.int p1), .val (.int p2), .val (.int p3), .val (.int p4), .val (.int p5), .val (.int (1 : Int32)), .val (.long v2), .second, .val (.long v3), .second, .val (.long v4), .second, .val (.long v5), .second, .val (.long v6), .second, .val (.long v7), .second, .val (.long v8), .second, .val (.long v9), .second, .val (.long v10), .second, .val (.long v12), .second, .val (.long v13), .second, .val (.long v14), .second, .val (.long v15), .second, .val (.long v16), .second, .val (.long v17), .second, .val (.long v18), .second, .val (.long v19), .second, .val (.ref b20), .val (.ref b35), .val (.int cx), .unset, .unset] [(.int v13.toInt32), (.int v12.toInt32), (.int cx)]))
        refine Run.callS X37 hx hZ e37 (y := (⟨"com/example/corbel/corbel/core/regex/RangesContainsPinLaw", "in", "(III)Z"⟩ : MethodName)) hown (hw _ (List.mem_of_getElem? (i := 29) rfl)) (hw _ (List.mem_of_getElem? (i := 30) rfl)) (hw _ (List.mem_of_getElem? (i := 31) rfl)) (hw _ (List.mem_of_getElem? (i := 32) rfl)) (by decide) (argsL := [(.int cx), (.int v12.toInt32), (.int v13.toInt32)]) (rest := []) (c_in l Z a0 hw cx v12.toInt32 v13.toInt32 h37 n0 Z37 ) pd_4 rfl (by rw [hml]; rfl) (W := 0) rfl (by decide) (by decide) (by decide) (by decide) (hb hby at_424) rfl ?_
        intro T38 v38 L38 X38 q38
        obtain ⟨rfl, M38, e38⟩ := q38
        have N38 := Fr.app N37 M38
        show Run p e below s _ _ _ (T38.setTop (mkF m 427 #[.val (.int p1), .val (.int p2), .val (.int p3), .val (.int p4), .val (.int p5), .val (.int (1 : Int32)), .val (.long v2), .second, .val (.long v3), .second, .val (.long v4), .second, .val (.long v5), .second, .val (.long v6), .second, .val (.long v7), .second, .val (.long v8), .second, .val (.long v9), .second, .val (.long v10), .second, .val (.long v12), .second, .val (.long v13), .second, .val (.long v14), .second, .val (.long v15), .second, .val (.long v16), .second, .val (.long v17), .second, .val (.long v18), .second, .val (.long v19), .second, .val (.ref b20), .val (.ref b35), .val (.int cx), .unset, .unset] [(.int (own_b (own_in cx v12.toInt32 v13.toInt32)))]))
        by_cases hc427 : (own_b (own_in cx v12.toInt32 v13.toInt32)) = (0 : Int32)
        · skip
          refine Run.x_ifNo (q := 430) X38 hx (hb hby at_427) ((if0 _ _).trans (teq hc427).2) rfl ?_
          refine Run.x_iload (q := 432) X38 hx (hb hby at_430) rfl rfl ?_
          refine Run.x_iconst (q := 433) X38 hx (hb hby at_432) (z := (2 : Int32)) rfl rfl ?_
          refine Run.x_icmpYes (q := 452) X38 hx (hb hby at_433) (tlt (by decide : (1 : Int32) < (2 : Int32))).1 (by decide) (by decide) ?_
          refine Run.x_iload (q := 454) X38 hx (hb hby at_452) rfl rfl ?_
          refine Run.x_iconst (q := 455) X38 hx (hb hby at_454) (z := (3 : Int32)) rfl rfl ?_
          refine Run.x_icmpYes (q := 474) X38 hx (hb hby at_455) (tlt (by decide : (1 : Int32) < (3 : Int32))).1 (by decide) (by decide) ?_
          refine Run.x_iload (q := 476) X38 hx (hb hby at_474) rfl rfl ?_
          refine Run.x_iconst (q := 477) X38 hx (hb hby at_476) (z := (4 : Int32)) rfl rfl ?_
          refine Run.x_icmpYes (q := 502) X38 hx (hb hby at_477) (tlt (by decide : (1 : Int32) < (4 : Int32))).1 (by decide) (by decide) ?_
          refine Run.x_iconst (q := 503) X38 hx (hb hby at_502) (z := (0 : Int32)) rfl rfl ?_
          refine Run.x_istore (q := 505) X38 hx #[.val (.int p1), .val (.int p2), .val (.int p3), .val (.int p4), .val (.int p5), .val (.int (1 : Int32)), .val (.long v2), .second, .val (.long v3), .second, .val (.long v4), .second, .val (.long v5), .second, .val (.long v6), .second, .val (.long v7), .second, .val (.long v8), .second, .val (.long v9), .second, .val (.long v10), .second, .val (.long v12), .second, .val (.long v13), .second, .val (.long v14), .second, .val (.long v15), .second, .val (.long v16), .second, .val (.long v17), .second, .val (.long v18), .second, .val (.long v19), .second, .val (.ref b20), .val (.ref b35), .val (.int cx), .val (.int (0 : Int32)), .unset] (hb hby at_503) rfl rfl ?_
          obtain ⟨T39, h39, X39, e39, E39, A39, D39, -, st39⟩ := newO X38 hx hZ hown (hw _ (List.mem_of_getElem? (i := 8) rfl)) (hw _ (List.mem_of_getElem? (i := 9) rfl)) (hw _ (List.mem_of_getElem? (i := 10) rfl)) e38 (g := (mkF m 505 #[.val (.int p1), .val (.int p2), .val (.int p3), .val (.int p4), .val (.int p5), .val (.int (1 : Int32)), .val (.long v2), .second, .val (.long v3), .second, .val (.long v4), .second, .val (.long v5), .second, .val (.long v6), .second, .val (.long v7), .second, .val (.long v8), .second, .val (.long v9), .second, .val (.long v10), .second, .val (.long v12), .second, .val (.long v13), .second, .val (.long v14), .second, .val (.long v15), .second, .val (.long v16), .second, .val (.long v17), .second, .val (.long v18), .second, .val (.long v19), .second, .val (.ref b20), .val (.ref b35), .val (.int cx), .val (.int (0 : Int32)), .unset] [])) rfl (hb hby at_505) (by decide) (by decide)
          obtain ⟨b39, gg39⟩ : ∃ z, z = h37.size := ⟨_, rfl⟩
          rw [← gg39] at A39 D39 st39
          have g_b39 : n0 ≤ b39 := Nat.le_trans Z37 (Nat.le_of_eq gg39.symm)
          have ne_b20_b39 : b20 ≠ b39 := Nat.ne_of_lt (Nat.lt_of_lt_of_le A_b20.lt (Nat.le_of_eq gg39.symm))
          have ne_b35_b39 : b35 ≠ b39 := Nat.ne_of_lt (Nat.lt_of_lt_of_le A_b35.lt (Nat.le_of_eq gg39.symm))
          have Z39 : n0 ≤ h39.size := Nat.le_trans Z37 E39.1
          have E_b39 := A39
          have F_b39_bounds : Fld Z h39 b39 "com/example/corbel/corbel/core/regex/CharSet$Ranges" "bounds" "[I" .null := D39 (Or.inr (hw _ (List.mem_of_getElem? (i := 23) rfl))) (ty := (.array .int)) (by decide)
          refine Run.st st39 ?_
          show Run p e below s _ _ _ (T39.setTop (mkF m 508 #[.val (.int p1), .val (.int p2), .val (.int p3), .val (.int p4), .val (.int p5), .val (.int (1 : Int32)), .val (.long v2), .second, .val (.long v3), .second, .val (.long v4), .second, .val (.long v5), .second, .val (.long v6), .second, .val (.long v7), .second, .val (.long v8), .second, .val (.long v9), .second, .val (.long v10), .second, .val (.long v12), .second, .val (.long v13), .second, .val (.long v14), .second, .val (.long v15), .second, .val (.long v16), .second, .val (.long v17), .second, .val (.long v18), .second, .val (.long v19), .second, .val (.ref b20), .val (.ref b35), .val (.int cx), .val (.int (0 : Int32)), .unset] [(.ref b39)]))
          refine Run.x_dup (q := 509) X39 hx (hb hby at_508) rfl rfl ?_
          refine Run.x_aload (q := 511) X39 hx (hb hby at_509) rfl rfl rfl ?_
          refine Run.callC X39 hx hZ e39 (y := (⟨"com/example/corbel/corbel/core/regex/CharSet$Ranges", "<init>", "([I)V"⟩ : MethodName)) hown rfl (hw _ (List.mem_of_getElem? (i := 11) rfl)) (hw _ (List.mem_of_getElem? (i := 12) rfl)) (hw _ (List.mem_of_getElem? (i := 10) rfl)) (hw _ (List.mem_of_getElem? (i := 13) rfl)) (by decide) (a := b39) (argsL := [(.ref b35)]) (rest := [(.ref b39)]) (c_init l Z a0 hw b39 b35 h39 n0 Z39 E_b39 F_b39_bounds g_b39) pd_2 rfl (by rw [hml]; rfl) (W := 1) rfl (by decide) (by decide) (by decide) (by decide) (hb hby at_511) rfl ?_
          intro T40 v40 L40 X40 q40
          obtain ⟨rfl, M40, K40, E40, F40_0⟩ := q40
          have N40 := Fr.app N38 M40
          show Run p e below s _ _ _ (T40.setTop (mkF m 514 #[.val (.int p1), .val (.int p2), .val (.int p3), .val (.int p4), .val (.int p5), .val (.int (1 : Int32)), .val (.long v2), .second, .val (.long v3), .second, .val (.long v4), .second, .val (.long v5), .second, .val (.long v6), .second, .val (.long v7), .second, .val (.long v8), .second, .val (.long v9), .second, .val (.long v10), .second, .val (.long v12), .second, .val (.long v13), .second, .val (.long v14), .second, .val (.long v15), .second, .val (.long v16), .second, .val (.long v17), .second, .val (.long v18), .second, .val (.long v19), .second, .val (.ref b20), .val (.ref b35), .val (.int cx), .val (.int (0 : Int32)), .unset] [(.ref b39)]))
          have Z40 : n0 ≤ T40.heap.size := Nat.le_trans Z39 K40.1
          refine Run.x_iload (q := 516) X40 hx (hb hby at_514) rfl rfl ?_
          replace E_b39 := E_b39.keep K40
          replace A_b35 := (A_b35.ext E39).keep K40 (ninS ne_b35_b39 nin0)
          refine Run.callV X40 hx hZ rfl (y := (⟨"com/example/corbel/corbel/core/regex/CharSet$Ranges", "contains", "(I)Z"⟩ : MethodName)) (z := (⟨"com/example/corbel/corbel/core/regex/CharSet$Ranges", "contains", "(I)Z"⟩ : MethodName)) hown (hw _ (List.mem_of_getElem? (i := 24) rfl)) (hw _ (List.mem_of_getElem? (i := 25) rfl)) (notFace_of_selects (args := #[]) (mvT hZ (hw _ (List.mem_of_getElem? (i := 27) rfl)))) (hw _ (List.mem_of_getElem? (i := 27) rfl)) (hw _ (List.mem_of_getElem? (i := 26) rfl)) (hw _ (List.mem_of_getElem? (i := 10) rfl)) (hw _ (List.mem_of_getElem? (i := 28) rfl)) (by decide) (a := b39) E_b39 (argsL := [(.int cx)]) (rest := []) (c_con1 l Z a0 hw b39 cx T40.heap n0 Z40 b35 v12.toInt32 v13.toInt32 E_b39 F40_0 A_b35 hsrt.1) pd_3 rfl (by rw [hml]; rfl) (W := 0) rfl (by decide) (by decide) (by decide) (by decide) (hb hby at_516) rfl ?_
          intro T41 v41 L41 X41 q41
          obtain ⟨rfl, M41, e41⟩ := q41
          have N41 := Fr.app N40 M41
          show Run p e below s _ _ _ (T41.setTop (mkF m 519 #[.val (.int p1), .val (.int p2), .val (.int p3), .val (.int p4), .val (.int p5), .val (.int (1 : Int32)), .val (.long v2), .second, .val (.long v3), .second, .val (.long v4), .second, .val (.long v5), .second, .val (.long v6), .second, .val (.long v7), .second, .val (.long v8), .second, .val (.long v9), .second, .val (.long v10), .second, .val (.long v12), .second, .val (.long v13), .second, .val (.long v14), .second, .val (.long v15), .second, .val (.long v16), .second, .val (.long v17), .second, .val (.long v18), .second, .val (.long v19), .second, .val (.ref b20), .val (.ref b35), .val (.int cx), .val (.int (0 : Int32)), .unset] [(.int (own_b (own_in cx v12.toInt32 v13.toInt32)))]))
          refine Run.x_istore (q := 521) X41 hx #[.val (.int p1), .val (.int p2), .val (.int p3), .val (.int p4), .val (.int p5), .val (.int (1 : Int32)), .val (.long v2), .second, .val (.long v3), .second, .val (.long v4), .second, .val (.long v5), .second, .val (.long v6), .second, .val (.long v7), .second, .val (.long v8), .second, .val (.long v9), .second, .val (.long v10), .second, .val (.long v12), .second, .val (.long v13), .second, .val (.long v14), .second, .val (.long v15), .second, .val (.long v16), .second, .val (.long v17), .second, .val (.long v18), .second, .val (.long v19), .second, .val (.ref b20), .val (.ref b35), .val (.int cx), .val (.int (0 : Int32)), .val (.int (own_b (own_in cx v12.toInt32 v13.toInt32)))] (hb hby at_519) rfl rfl ?_
          generalize hv42 : (own_b (own_in cx v12.toInt32 v13.toInt32)) = v42
          refine Run.x_iload (q := 523) X41 hx (hb hby at_521) rfl rfl ?_
          refine Run.x_iload (q := 525) X41 hx (hb hby at_523) rfl rfl ?_
          refine Run.x_icmpNo (q := 528) X41 hx (hb hby at_525) (teq (hv42.symm.trans (own_b0 (by simp only [own_b_no hc427, or_false, not_false_eq_true])))).2 rfl ?_
          refine Run.x_iconst (q := 529) X41 hx (hb hby at_528) (z := (1 : Int32)) rfl rfl ?_
          refine Run.x_goto (q := 533) X41 hx (hb hby at_529) (by decide) (by decide) ?_
          refine Run.retN X41 hx hlk e41 (t := .boolean) hret (by simp) (z' := (1 : Int32)) (by decide) (hb hby at_533) (by decide) (by decide) ?_
          exact ⟨rfl, N41⟩
        · skip
          refine Run.x_ifYes (q := 498) X38 hx (hb hby at_427) ((if0 _ _).trans (feq hc427).2) (by decide) (by decide) ?_
          refine Run.x_iconst (q := 499) X38 hx (hb hby at_498) (z := (1 : Int32)) rfl rfl ?_
          refine Run.x_goto (q := 503) X38 hx (hb hby at_499) (by decide) (by decide) ?_
          refine Run.x_istore (q := 505) X38 hx #[.val (.int p1), .val (.int p2), .val (.int p3), .val (.int p4), .val (.int p5), .val (.int (1 : Int32)), .val (.long v2), .second, .val (.long v3), .second, .val (.long v4), .second, .val (.long v5), .second, .val (.long v6), .second, .val (.long v7), .second, .val (.long v8), .second, .val (.long v9), .second, .val (.long v10), .second, .val (.long v12), .second, .val (.long v13), .second, .val (.long v14), .second, .val (.long v15), .second, .val (.long v16), .second, .val (.long v17), .second, .val (.long v18), .second, .val (.long v19), .second, .val (.ref b20), .val (.ref b35), .val (.int cx), .val (.int (1 : Int32)), .unset] (hb hby at_503) rfl rfl ?_
          obtain ⟨T43, h43, X43, e43, E43, A43, D43, -, st43⟩ := newO X38 hx hZ hown (hw _ (List.mem_of_getElem? (i := 8) rfl)) (hw _ (List.mem_of_getElem? (i := 9) rfl)) (hw _ (List.mem_of_getElem? (i := 10) rfl)) e38 (g := (mkF m 505 #[.val (.int p1), .val (.int p2), .val (.int p3), .val (.int p4), .val (.int p5), .val (.int (1 : Int32)), .val (.long v2), .second, .val (.long v3), .second, .val (.long v4), .second, .val (.long v5), .second, .val (.long v6), .second, .val (.long v7), .second, .val (.long v8), .second, .val (.long v9), .second, .val (.long v10), .second, .val (.long v12), .second, .val (.long v13), .second, .val (.long v14), .second, .val (.long v15), .second, .val (.long v16), .second, .val (.long v17), .second, .val (.long v18), .second, .val (.long v19), .second, .val (.ref b20), .val (.ref b35), .val (.int cx), .val (.int (1 : Int32)), .unset] [])) rfl (hb hby at_505) (by decide) (by decide)
          obtain ⟨b43, gg43⟩ : ∃ z, z = h37.size := ⟨_, rfl⟩
          rw [← gg43] at A43 D43 st43
          have g_b43 : n0 ≤ b43 := Nat.le_trans Z37 (Nat.le_of_eq gg43.symm)
          have ne_b20_b43 : b20 ≠ b43 := Nat.ne_of_lt (Nat.lt_of_lt_of_le A_b20.lt (Nat.le_of_eq gg43.symm))
          have ne_b35_b43 : b35 ≠ b43 := Nat.ne_of_lt (Nat.lt_of_lt_of_le A_b35.lt (Nat.le_of_eq gg43.symm))
          have Z43 : n0 ≤ h43.size := Nat.le_trans Z37 E43.1
          have E_b43 := A43
          have F_b43_bounds : Fld Z h43 b43 "com/example/corbel/corbel/core/regex/CharSet$Ranges" "bounds" "[I" .null := D43 (Or.inr (hw _ (List.mem_of_getElem? (i := 23) rfl))) (ty := (.array .int)) (by decide)
          refine Run.st st43 ?_
          show Run p e below s _ _ _ (T43.setTop (mkF m 508 #[.val (.int p1), .val (.int p2), .val (.int p3), .val (.int p4), .val (.int p5), .val (.int (1 : Int32)), .val (.long v2), .second, .val (.long v3), .second, .val (.long v4), .second, .val (.long v5), .second, .val (.long v6), .second, .val (.long v7), .second, .val (.long v8), .second, .val (.long v9), .second, .val (.long v10), .second, .val (.long v12), .second, .val (.long v13), .second, .val (.long v14), .second, .val (.long v15), .second, .val (.long v16), .second, .val (.long v17), .second, .val (.long v18), .second, .val (.long v19), .second, .val (.ref b20), .val (.ref b35), .val (.int cx), .val (.int (1 : Int32)), .unset] [(.ref b43)]))
          refine Run.x_dup (q := 509) X43 hx (hb hby at_508) rfl rfl ?_
          refine Run.x_aload (q := 511) X43 hx (hb hby at_509) rfl rfl rfl ?_
          refine Run.callC X43 hx hZ e43 (y := (⟨"com/example/corbel/corbel/core/regex/CharSet$Ranges", "<init>", "([I)V"⟩ : MethodName)) hown rfl (hw _ (List.mem_of_getElem? (i := 11) rfl)) (hw _ (List.mem_of_getElem? (i := 12) rfl)) (hw _ (List.mem_of_getElem? (i := 10) rfl)) (hw _ (List.mem_of_getElem? (i := 13) rfl)) (by decide) (a := b43) (argsL := [(.ref b35)]) (rest := [(.ref b43)]) (c_init l Z a0 hw b43 b35 h43 n0 Z43 E_b43 F_b43_bounds g_b43) pd_2 rfl (by rw [hml]; rfl) (W := 1) rfl (by decide) (by decide) (by decide) (by decide) (hb hby at_511) rfl ?_
          intro T44 v44 L44 X44 q44
          obtain ⟨rfl, M44, K44, E44, F44_0⟩ := q44
          have N44 := Fr.app N38 M44
          show Run p e below s _ _ _ (T44.setTop (mkF m 514 #[.val (.int p1), .val (.int p2), .val (.int p3), .val (.int p4), .val (.int p5), .val (.int (1 : Int32)), .val (.long v2), .second, .val (.long v3), .second, .val (.long v4), .second, .val (.long v5), .second, .val (.long v6), .second, .val (.long v7), .second, .val (.long v8), .second, .val (.long v9), .second, .val (.long v10), .second, .val (.long v12), .second, .val (.long v13), .second, .val (.long v14), .second, .val (.long v15), .second, .val (.long v16), .second, .val (.long v17), .second, .val (.long v18), .second, .val (.long v19), .second, .val (.ref b20), .val (.ref b35), .val (.int cx), .val (.int (1 : Int32)), .unset] [(.ref b43)]))
          have Z44 : n0 ≤ T44.heap.size := Nat.le_trans Z43 K44.1
          refine Run.x_iload (q := 516) X44 hx (hb hby at_514) rfl rfl ?_
          replace E_b43 := E_b43.keep K44
          replace A_b35 := (A_b35.ext E43).keep K44 (ninS ne_b35_b43 nin0)
          refine Run.callV X44 hx hZ rfl (y := (⟨"com/example/corbel/corbel/core/regex/CharSet$Ranges", "contains", "(I)Z"⟩ : MethodName)) (z := (⟨"com/example/corbel/corbel/core/regex/CharSet$Ranges", "contains", "(I)Z"⟩ : MethodName)) hown (hw _ (List.mem_of_getElem? (i := 24) rfl)) (hw _ (List.mem_of_getElem? (i := 25) rfl)) (notFace_of_selects (args := #[]) (mvT hZ (hw _ (List.mem_of_getElem? (i := 27) rfl)))) (hw _ (List.mem_of_getElem? (i := 27) rfl)) (hw _ (List.mem_of_getElem? (i := 26) rfl)) (hw _ (List.mem_of_getElem? (i := 10) rfl)) (hw _ (List.mem_of_getElem? (i := 28) rfl)) (by decide) (a := b43) E_b43 (argsL := [(.int cx)]) (rest := []) (c_con1 l Z a0 hw b43 cx T44.heap n0 Z44 b35 v12.toInt32 v13.toInt32 E_b43 F44_0 A_b35 hsrt.1) pd_3 rfl (by rw [hml]; rfl) (W := 0) rfl (by decide) (by decide) (by decide) (by decide) (hb hby at_516) rfl ?_
          intro T45 v45 L45 X45 q45
          obtain ⟨rfl, M45, e45⟩ := q45
          have N45 := Fr.app N44 M45
          show Run p e below s _ _ _ (T45.setTop (mkF m 519 #[.val (.int p1), .val (.int p2), .val (.int p3), .val (.int p4), .val (.int p5), .val (.int (1 : Int32)), .val (.long v2), .second, .val (.long v3), .second, .val (.long v4), .second, .val (.long v5), .second, .val (.long v6), .second, .val (.long v7), .second, .val (.long v8), .second, .val (.long v9), .second, .val (.long v10), .second, .val (.long v12), .second, .val (.long v13), .second, .val (.long v14), .second, .val (.long v15), .second, .val (.long v16), .second, .val (.long v17), .second, .val (.long v18), .second, .val (.long v19), .second, .val (.ref b20), .val (.ref b35), .val (.int cx), .val (.int (1 : Int32)), .unset] [(.int (own_b (own_in cx v12.toInt32 v13.toInt32)))]))
          refine Run.x_istore (q := 521) X45 hx #[.val (.int p1), .val (.int p2), .val (.int p3), .val (.int p4), .val (.int p5), .val (.int (1 : Int32)), .val (.long v2), .second, .val (.long v3), .second, .val (.long v4), .second, .val (.long v5), .second, .val (.long v6), .second, .val (.long v7), .second, .val (.long v8), .second, .val (.long v9), .second, .val (.long v10), .second, .val (.long v12), .second, .val (.long v13), .second, .val (.long v14), .second, .val (.long v15), .second, .val (.long v16), .second, .val (.long v17), .second, .val (.long v18), .second, .val (.long v19), .second, .val (.ref b20), .val (.ref b35), .val (.int cx), .val (.int (1 : Int32)), .val (.int (own_b (own_in cx v12.toInt32 v13.toInt32)))] (hb hby at_519) rfl rfl ?_
          generalize hv46 : (own_b (own_in cx v12.toInt32 v13.toInt32)) = v46
          refine Run.x_iload (q := 523) X45 hx (hb hby at_521) rfl rfl ?_
          refine Run.x_iload (q := 525) X45 hx (hb hby at_523) rfl rfl ?_
          refine Run.x_icmpNo (q := 528) X45 hx (hb hby at_525) (teq (hv46.symm.trans (own_b1 (own_b_yes hc427)))).2 rfl ?_
          refine Run.x_iconst (q := 529) X45 hx (hb hby at_528) (z := (1 : Int32)) rfl rfl ?_
          refine Run.x_goto (q := 533) X45 hx (hb hby at_529) (by decide) (by decide) ?_
          refine Run.retN X45 hx hlk e45 (t := .boolean) hret (by simp) (z' := (1 : Int32)) (by decide) (hb hby at_533) (by decide) (by decide) ?_
          exact ⟨rfl, N45⟩
      refine Run.x_iload (q := 383) X37 hx (hb hby at_381) rfl rfl ?_
      refine Run.x_bipush (q := 385) X37 hx (hb hby at_383) (z := (7 : Int32)) rfl rfl ?_
      refine Run.x_iushr (q := 386) X37 hx (hb hby at_385) rfl rfl ?_
      refine Run.x_iconst (q := 387) X37 hx (hb hby at_386) (z := (2 : Int32)) rfl rfl ?_
      refine Run.x_iand (q := 388) X37 hx (hb hby at_387) rfl rfl ?_
      by_cases hc388 : (((p5.toUInt32 >>> ((7 : Int32) &&& 31).toUInt32).toInt32) &&& (2 : Int32)) = (0 : Int32)
      · skip
        refine Run.x_ifYes (q := 408) X37 hx (hb hby at_388) ((if0 _ _).trans (teq hc388).1) (by decide) (by decide) ?_
        exact J408 _
      · skip
        refine Run.x_ifNo (q := 391) X37 hx (hb hby at_388) ((if0 _ _).trans (feq hc388).1) rfl ?_
        refine Run.x_aload (q := 393) X37 hx (hb hby at_391) rfl rfl rfl ?_
        refine Run.x_iloadN (q := 394) X37 hx (hb hby at_393) rfl rfl ?_
        refine Run.x_iconst (q := 395) X37 hx (hb hby at_394) (z := (2 : Int32)) rfl rfl ?_
        refine Run.x_iushr (q := 396) X37 hx (hb hby at_395) rfl rfl ?_
        refine Run.x_bipush (q := 398) X37 hx (hb hby at_396) (z := (7 : Int32)) rfl rfl ?_
        refine Run.x_iand (q := 399) X37 hx (hb hby at_398) rfl rfl ?_
        replace A_b20 := A_b20.other W37 ne_b20_b35
        obtain ⟨ix, hix, hlt⟩ := own_idx ((p1.toUInt32 >>> ((2 : Int32) &&& 31).toUInt32).toInt32)
        obtain ⟨xv, hxv⟩ := ints_at [v12.toInt32, v13.toInt32, v14.toInt32, v15.toInt32, v16.toInt32, v17.toInt32, v18.toInt32, v19.toInt32] (i := ix) hlt
        refine Run.ldI X37 hx hZ e37 A_b20 (i := ix) (v := (.int xv)) hix hxv (hb hby at_399) ?_
        show Run p e below s _ _ _ (T37.setTop (mkF m 400 #[.val (.int p1), .val (.int p2), .val (.int p3), .val (.int p4), .val (.int p5), .val (.int (1 : Int32)), .val (.long v2), .second, .val (.long v3), .second, .val (.long v4), .second, .val (.long v5), .second, .val (.long v6), .second, .val (.long v7), .second, .val (.long v8), .second, .val (.long v9), .second, .val (.long v10), .second, .val (.long v12), .second, .val (.long v13), .second, .val (.long v14), .second, .val (.long v15), .second, .val (.long v16), .second, .val (.long v17), .second, .val (.long v18), .second, .val (.long v19), .second, .val (.ref b20), .val (.ref b35), .val (.int p1), .unset, .unset] [(.int xv)]))
        refine Run.x_iloadN (q := 401) X37 hx (hb hby at_400) rfl rfl ?_
        refine Run.x_iconst (q := 402) X37 hx (hb hby at_401) (z := (3 : Int32)) rfl rfl ?_
        refine Run.x_iand (q := 403) X37 hx (hb hby at_402) rfl rfl ?_
        refine Run.x_iadd (q := 404) X37 hx (hb hby at_403) rfl rfl ?_
        refine Run.x_iconst (q := 405) X37 hx (hb hby at_404) (z := (1 : Int32)) rfl rfl ?_
        refine Run.x_isub (q := 406) X37 hx (hb hby at_405) rfl rfl ?_
        refine Run.x_istore (q := 408) X37 hx #[.val (.int p1), .val (.int p2), .val (.int p3), .val (.int p4), .val (.int p5), .val (.int (1 : Int32)), .val (.long v2), .second, .val (.long v3), .second, .val (.long v4), .second, .val (.long v5), .second, .val (.long v6), .second, .val (.long v7), .second, .val (.long v8), .second, .val (.long v9), .second, .val (.long v10), .second, .val (.long v12), .second, .val (.long v13), .second, .val (.long v14), .second, .val (.long v15), .second, .val (.long v16), .second, .val (.long v17), .second, .val (.long v18), .second, .val (.long v19), .second, .val (.ref b20), .val (.ref b35), .val (.int ((xv + (p1 &&& (3 : Int32))) - (1 : Int32))), .unset, .unset] (hb hby at_406) rfl rfl ?_
        generalize hv47 : ((xv + (p1 &&& (3 : Int32))) - (1 : Int32)) = v47
        exact J408 _
    · skip
      show Run p e below s _ _ _ (T28.setTop (mkF m 278 #[.val (.int p1), .val (.int p2), .val (.int p3), .val (.int p4), .val (.int p5), .val (.int (2 : Int32)), .val (.long v2), .second, .val (.long v3), .second, .val (.long v4), .second, .val (.long v5), .second, .val (.long v6), .second, .val (.long v7), .second, .val (.long v8), .second, .val (.long v9), .second, .val (.long v10), .second, .val (.long v12), .second, .val (.long v13), .second, .val (.long v14), .second, .val (.long v15), .second, .val (.long v16), .second, .val (.long v17), .second, .val (.long v18), .second, .val (.long v19), .second, .val (.ref b20), .unset, .unset, .unset, .unset] []))
      refine Run.x_iconst (q := 279) X28 hx (hb hby at_278) (z := (2 : Int32)) rfl rfl ?_
      refine Run.x_iload (q := 281) X28 hx (hb hby at_279) rfl rfl ?_
      refine Run.x_imul (q := 282) X28 hx (hb hby at_281) (z := (4 : Int32)) (by decide) rfl ?_
      refine Run.newP X28 hx hZ e28 (hw _ (List.mem_of_getElem? (i := 7) rfl)) (hb hby at_282) (len := 4) (by decide) (by decide) (cap := 4) (by decide) (by decide) (by decide) (by decide) ?_
      intro T48 h48 b48 gg48 X48 e48 E48 A_b48
      have g_b48 : n0 ≤ b48 := Nat.le_trans Z28 (Nat.le_of_eq gg48.symm)
      have ne_b20_b48 : b20 ≠ b48 := Nat.ne_of_lt (Nat.lt_of_lt_of_le A_b20.lt (Nat.le_of_eq gg48.symm))
      have Z48 : n0 ≤ h48.size := Nat.le_trans Z28 E48.1
      replace A_b48 : Ars Z h48 b48 .int [(.int (0 : Int32)), (.int (0 : Int32)), (.int (0 : Int32)), (.int (0 : Int32))] := A_b48
      show Run p e below s _ _ _ (T48.setTop (mkF m 284 #[.val (.int p1), .val (.int p2), .val (.int p3), .val (.int p4), .val (.int p5), .val (.int (2 : Int32)), .val (.long v2), .second, .val (.long v3), .second, .val (.long v4), .second, .val (.long v5), .second, .val (.long v6), .second, .val (.long v7), .second, .val (.long v8), .second, .val (.long v9), .second, .val (.long v10), .second, .val (.long v12), .second, .val (.long v13), .second, .val (.long v14), .second, .val (.long v15), .second, .val (.long v16), .second, .val (.long v17), .second, .val (.long v18), .second, .val (.long v19), .second, .val (.ref b20), .unset, .unset, .unset, .unset] [(.ref b48)]))
      refine Run.x_astore (q := 286) X48 hx #[.val (.int p1), .val (.int p2), .val (.int p3), .val (.int p4), .val (.int p5), .val (.int (2 : Int32)), .val (.long v2), .second, .val (.long v3), .second, .val (.long v4), .second, .val (.long v5), .second, .val (.long v6), .second, .val (.long v7), .second, .val (.long v8), .second, .val (.long v9), .second, .val (.long v10), .second, .val (.long v12), .second, .val (.long v13), .second, .val (.long v14), .second, .val (.long v15), .second, .val (.long v16), .second, .val (.long v17), .second, .val (.long v18), .second, .val (.long v19), .second, .val (.ref b20), .val (.ref b48), .unset, .unset, .unset] (hb hby at_284) rfl rfl rfl ?_
      refine Run.x_iload (q := 288) X48 hx (hb hby at_286) rfl rfl ?_
      refine Run.x_iconst (q := 289) X48 hx (hb hby at_288) (z := (1 : Int32)) rfl rfl ?_
      refine Run.x_icmpNo (q := 292) X48 hx (hb hby at_289) (flt (by decide : ¬ ((2 : Int32) < (1 : Int32)))).1 rfl ?_
      refine Run.x_aload (q := 294) X48 hx (hb hby at_292) rfl rfl rfl ?_
      refine Run.x_iconst (q := 295) X48 hx (hb hby at_294) (z := (0 : Int32)) rfl rfl ?_
      refine Run.x_aload (q := 297) X48 hx (hb hby at_295) rfl rfl rfl ?_
      refine Run.x_iconst (q := 298) X48 hx (hb hby at_297) (z := (0 : Int32)) rfl rfl ?_
      replace A_b20 := A_b20.ext E48
      refine Run.ldI X48 hx hZ e48 A_b20 (i := 0) (v := (.int v12.toInt32)) (by decide) rfl (hb hby at_298) ?_
      show Run p e below s _ _ _ (T48.setTop (mkF m 299 #[.val (.int p1), .val (.int p2), .val (.int p3), .val (.int p4), .val (.int p5), .val (.int (2 : Int32)), .val (.long v2), .second, .val (.long v3), .second, .val (.long v4), .second, .val (.long v5), .second, .val (.long v6), .second, .val (.long v7), .second, .val (.long v8), .second, .val (.long v9), .second, .val (.long v10), .second, .val (.long v12), .second, .val (.long v13), .second, .val (.long v14), .second, .val (.long v15), .second, .val (.long v16), .second, .val (.long v17), .second, .val (.long v18), .second, .val (.long v19), .second, .val (.ref b20), .val (.ref b48), .unset, .unset, .unset] [(.int v12.toInt32), (.int (0 : Int32)), (.ref b48)]))
      refine Run.stI X48 hx hZ e48 A_b48 (i := 0) (by decide) (Nat.le_of_ble_eq_true rfl) (hb hby at_299) ?_
      intro T49 h49 X49 e49 W49 A49
      replace A_b48 : Ars Z h49 b48 .int [(.int v12.toInt32), (.int (0 : Int32)), (.int (0 : Int32)), (.int (0 : Int32))] := A49
      have N49 := Fr.snoc X49 N28 g_b48
      have Z49 : n0 ≤ h49.size := Nat.le_trans Z48 (Nat.le_of_eq W49.size.symm)
      show Run p e below s _ _ _ (T49.setTop (mkF m 300 #[.val (.int p1), .val (.int p2), .val (.int p3), .val (.int p4), .val (.int p5), .val (.int (2 : Int32)), .val (.long v2), .second, .val (.long v3), .second, .val (.long v4), .second, .val (.long v5), .second, .val (.long v6), .second, .val (.long v7), .second, .val (.long v8), .second, .val (.long v9), .second, .val (.long v10), .second, .val (.long v12), .second, .val (.long v13), .second, .val (.long v14), .second, .val (.long v15), .second, .val (.long v16), .second, .val (.long v17), .second, .val (.long v18), .second, .val (.long v19), .second, .val (.ref b20), .val (.ref b48), .unset, .unset, .unset] []))
      refine Run.x_aload (q := 302) X49 hx (hb hby at_300) rfl rfl rfl ?_
      refine Run.x_iconst (q := 303) X49 hx (hb hby at_302) (z := (1 : Int32)) rfl rfl ?_
      refine Run.x_aload (q := 305) X49 hx (hb hby at_303) rfl rfl rfl ?_
      refine Run.x_iconst (q := 306) X49 hx (hb hby at_305) (z := (1 : Int32)) rfl rfl ?_
      replace A_b20 := A_b20.other W49 ne_b20_b48
      refine Run.ldI X49 hx hZ e49 A_b20 (i := 1) (v := (.int v13.toInt32)) (by decide) rfl (hb hby at_306) ?_
      show Run p e below s _ _ _ (T49.setTop (mkF m 307 #[.val (.int p1), .val (.int p2), .val (.int p3), .val (.int p4), .val (.int p5), .val (.int (2 : Int32)), .val (.long v2), .second, .val (.long v3), .second, .val (.long v4), .second, .val (.long v5), .second, .val (.long v6), .second, .val (.long v7), .second, .val (.long v8), .second, .val (.long v9), .second, .val (.long v10), .second, .val (.long v12), .second, .val (.long v13), .second, .val (.long v14), .second, .val (.long v15), .second, .val (.long v16), .second, .val (.long v17), .second, .val (.long v18), .second, .val (.long v19), .second, .val (.ref b20), .val (.ref b48), .unset, .unset, .unset] [(.int v13.toInt32), (.int (1 : Int32)), (.ref b48)]))
      refine Run.stI X49 hx hZ e49 A_b48 (i := 1) (by decide) (Nat.le_of_ble_eq_true rfl) (hb hby at_307) ?_
      intro T50 h50 X50 e50 W50 A50
      replace A_b48 : Ars Z h50 b48 .int [(.int v12.toInt32), (.int v13.toInt32), (.int (0 : Int32)), (.int (0 : Int32))] := A50
      have N50 := Fr.snoc X50 N49 g_b48
      have Z50 : n0 ≤ h50.size := Nat.le_trans Z49 (Nat.le_of_eq W50.size.symm)
      show Run p e below s _ _ _ (T50.setTop (mkF m 308 #[.val (.int p1), .val (.int p2), .val (.int p3), .val (.int p4), .val (.int p5), .val (.int (2 : Int32)), .val (.long v2), .second, .val (.long v3), .second, .val (.long v4), .second, .val (.long v5), .second, .val (.long v6), .second, .val (.long v7), .second, .val (.long v8), .second, .val (.long v9), .second, .val (.long v10), .second, .val (.long v12), .second, .val (.long v13), .second, .val (.long v14), .second, .val (.long v15), .second, .val (.long v16), .second, .val (.long v17), .second, .val (.long v18), .second, .val (.long v19), .second, .val (.ref b20), .val (.ref b48), .unset, .unset, .unset] []))
      refine Run.x_iload (q := 310) X50 hx (hb hby at_308) rfl rfl ?_
      refine Run.x_iconst (q := 311) X50 hx (hb hby at_310) (z := (2 : Int32)) rfl rfl ?_
      refine Run.x_icmpNo (q := 314) X50 hx (hb hby at_311) (flt (by decide : ¬ ((2 : Int32) < (2 : Int32)))).1 rfl ?_
      refine Run.x_aload (q := 316) X50 hx (hb hby at_314) rfl rfl rfl ?_
      refine Run.x_iconst (q := 317) X50 hx (hb hby at_316) (z := (2 : Int32)) rfl rfl ?_
      refine Run.x_aload (q := 319) X50 hx (hb hby at_317) rfl rfl rfl ?_
      refine Run.x_iconst (q := 320) X50 hx (hb hby at_319) (z := (2 : Int32)) rfl rfl ?_
      replace A_b20 := A_b20.other W50 ne_b20_b48
      refine Run.ldI X50 hx hZ e50 A_b20 (i := 2) (v := (.int v14.toInt32)) (by decide) rfl (hb hby at_320) ?_
      show Run p e below s _ _ _ (T50.setTop (mkF m 321 #[.val (.int p1), .val (.int p2), .val (.int p3), .val (.int p4), .val (.int p5), .val (.int (2 : Int32)), .val (.long v2), .second, .val (.long v3), .second, .val (.long v4), .second, .val (.long v5), .second, .val (.long v6), .second, .val (.long v7), .second, .val (.long v8), .second, .val (.long v9), .second, .val (.long v10), .second, .val (.long v12), .second, .val (.long v13), .second, .val (.long v14), .second, .val (.long v15), .second, .val (.long v16), .second, .val (.long v17), .second, .val (.long v18), .second, .val (.long v19), .second, .val (.ref b20), .val (.ref b48), .unset, .unset, .unset] [(.int v14.toInt32), (.int (2 : Int32)), (.ref b48)]))
      refine Run.stI X50 hx hZ e50 A_b48 (i := 2) (by decide) (Nat.le_of_ble_eq_true rfl) (hb hby at_321) ?_
      intro T51 h51 X51 e51 W51 A51
      replace A_b48 : Ars Z h51 b48 .int [(.int v12.toInt32), (.int v13.toInt32), (.int v14.toInt32), (.int (0 : Int32))] := A51
      have N51 := Fr.snoc X51 N50 g_b48
      have Z51 : n0 ≤ h51.size := Nat.le_trans Z50 (Nat.le_of_eq W51.size.symm)
      show Run p e below s _ _ _ (T51.setTop (mkF m 322 #[.val (.int p1), .val (.int p2), .val (.int p3), .val (.int p4), .val (.int p5), .val (.int (2 : Int32)), .val (.long v2), .second, .val (.long v3), .second, .val (.long v4), .second, .val (.long v5), .second, .val (.long v6), .second, .val (.long v7), .second, .val (.long v8), .second, .val (.long v9), .second, .val (.long v10), .second, .val (.long v12), .second, .val (.long v13), .second, .val (.long v14), .second, .val (.long v15), .second, .val (.long v16), .second, .val (.long v17), .second, .val (.long v18), .second, .val (.long v19), .second, .val (.ref b20), .val (.ref b48), .unset, .unset, .unset] []))
      refine Run.x_aload (q := 324) X51 hx (hb hby at_322) rfl rfl rfl ?_
      refine Run.x_iconst (q := 325) X51 hx (hb hby at_324) (z := (3 : Int32)) rfl rfl ?_
      refine Run.x_aload (q := 327) X51 hx (hb hby at_325) rfl rfl rfl ?_
      refine Run.x_iconst (q := 328) X51 hx (hb hby at_327) (z := (3 : Int32)) rfl rfl ?_
      replace A_b20 := A_b20.other W51 ne_b20_b48
      refine Run.ldI X51 hx hZ e51 A_b20 (i := 3) (v := (.int v15.toInt32)) (by decide) rfl (hb hby at_328) ?_
      show Run p e below s _ _ _ (T51.setTop (mkF m 329 #[.val (.int p1), .val (.int p2), .val (.int p3), .val (.int p4), .val (.int p5), .val (.int (2 : Int32)), .val (.long v2), .second, .val (.long v3), .second, .val (.long v4), .second, .val (.long v5), .second, .val (.long v6), .second, .val (.long v7), .second, .val (.long v8), .second, .val (.long v9), .second, .val (.long v10), .second, .val (.long v12), .second, .val (.long v13), .second, .val (.long v14), .second, .val (.long v15), .second, .val (.long v16), .second, .val (.long v17), .second, .val (.long v18), .second, .val (.long v19), .second, .val (.ref b20), .val (.ref b48), .unset, .unset, .unset] [(.int v15.toInt32), (.int (3 : Int32)), (.ref b48)]))
      refine Run.stI X51 hx hZ e51 A_b48 (i := 3) (by decide) (Nat.le_of_ble_eq_true rfl) (hb hby at_329) ?_
      intro T52 h52 X52 e52 W52 A52
      replace A_b48 : Ars Z h52 b48 .int [(.int v12.toInt32), (.int v13.toInt32), (.int v14.toInt32), (.int v15.toInt32)] := A52
      have N52 := Fr.snoc X52 N51 g_b48
      have Z52 : n0 ≤ h52.size := Nat.le_trans Z51 (Nat.le_of_eq W52.size.symm)
      show Run p e below s _ _ _ (T52.setTop (mkF m 330 #[.val (.int p1), .val (.int p2), .val (.int p3), .val (.int p4), .val (.int p5), .val (.int (2 : Int32)), .val (.long v2), .second, .val (.long v3), .second, .val (.long v4), .second, .val (.long v5), .second, .val (.long v6), .second, .val (.long v7), .second, .val (.long v8), .second, .val (.long v9), .second, .val (.long v10), .second, .val (.long v12), .second, .val (.long v13), .second, .val (.long v14), .second, .val (.long v15), .second, .val (.long v16), .second, .val (.long v17), .second, .val (.long v18), .second, .val (.long v19), .second, .val (.ref b20), .val (.ref b48), .unset, .unset, .unset] []))
      refine Run.x_iload (q := 332) X52 hx (hb hby at_330) rfl rfl ?_
      refine Run.x_iconst (q := 333) X52 hx (hb hby at_332) (z := (3 : Int32)) rfl rfl ?_
      refine Run.x_icmpYes (q := 352) X52 hx (hb hby at_333) (tlt (by decide : (2 : Int32) < (3 : Int32))).1 (by decide) (by decide) ?_
      refine Run.x_iload (q := 354) X52 hx (hb hby at_352) rfl rfl ?_
      refine Run.x_iconst (q := 355) X52 hx (hb hby at_354) (z := (4 : Int32)) rfl rfl ?_
      refine Run.x_icmpYes (q := 378) X52 hx (hb hby at_355) (tlt (by decide : (2 : Int32) < (4 : Int32))).1 (by decide) (by decide) ?_
      refine Run.x_iloadN (q := 379) X52 hx (hb hby at_378) rfl rfl ?_
      refine Run.x_istore (q := 381) X52 hx #[.val (.int p1), .val (.int p2), .val (.int p3), .val (.int p4), .val (.int p5), .val (.int (2 : Int32)), .val (.long v2), .second, .val (.long v3), .second, .val (.long v4), .second, .val (.long v5), .second, .val (.long v6), .second, .val (.long v7), .second, .val (.long v8), .second, .val (.long v9), .second, .val (.long v10), .second, .val (.long v12), .second, .val (.long v13), .second, .val (.long v14), .second, .val (.long v15), .second, .val (.long v16), .second, .val (.long v17), .second, .val (.long v18), .second, .val (.long v19), .second, .val (.ref b20), .val (.ref b48), .val (.int p1), .unset, .unset] (hb hby at_379) rfl rfl ?_
      have J408 : ∀ cx : Int32, Run p e below s (Tru n0) room_1.cells room_1.slots (T52.setTop (mkF m 408 #[.val (.int p1), .val (.int p2), .val (.int p3), .val (.int p4), .val (.int p5), .val (.int (2 : Int32)), .val (.long v2), .second, .val (.long v3), .second, .val (.long v4), .second, .val (.long v5), .second, .val (.long v6), .second, .val (.long v7), .second, .val (.long v8), .second, .val (.long v9), .second, .val (.long v10), .second, .val (.long v12), .second, .val (.long v13), .second, .val (.long v14), .second, .val (.long v15), .second, .val (.long v16), .second, .val (.long v17), .second, .val (.long v18), .second, .val (.long v19), .second, .val (.ref b20), .val (.ref b48), .val (.int cx), .unset, .unset] [])) := by
        intro cx
        refine Run.x_iload (q := 410) X52 hx (hb hby at_408) rfl rfl ?_
        refine Run.x_iconst (q := 411) X52 hx (hb hby at_410) (z := (1 : Int32)) rfl rfl ?_
        refine Run.x_icmpNo (q := 414) X52 hx (hb hby at_411) (flt (by decide : ¬ ((2 : Int32) < (1 : Int32)))).1 rfl ?_
        refine Run.x_iload (q := 416) X52 hx (hb hby at_414) rfl rfl ?_
        refine Run.x_aload (q := 418) X52 hx (hb hby at_416) rfl rfl rfl ?_
        refine Run.x_iconst (q := 419) X52 hx (hb hby at_418) (z := (0 : Int32)) rfl rfl ?_
        replace A_b20 := A_b20.other W52 ne_b20_b48
        refine Run.ldI X52 hx hZ e52 A_b20 (i := 0) (v := (.int v12.toInt32)) (by decide) rfl (hb hby at_419) ?_
        show Run p e below s _ _ _ (T52.setTop (mkF m 420 #[.val (.int p1), .val (.int p2), .val (.int p3), .val (.int p4), .val (.int p5), .val (.int (2 : Int32)), .val (.long v2), .second, .val (.long v3), .second, .val (.long v4), .second, .val (.long v5), .second, .val (.long v6), .second, .val (.long v7), .second, .val (.long v8), .second, .val (.long v9), .second, .val (.long v10), .second, .val (.long v12), .second, .val (.long v13), .second, .val (.long v14), .second, .val (.long v15), .second, .val (.long v16), .second, .val (.long v17), .second, .val (.long v18), .second, .val (.long v19), .second, .val (.ref b20), .val (.ref b48), .val (.int cx), .unset, .unset] [(.int v12.toInt32), (.int cx)]))
        refine Run.x_aload (q := 422) X52 hx (hb hby at_420) rfl rfl rfl ?_
        refine Run.x_iconst (q := 423) X52 hx (hb hby at_422) (z := (1 : Int32)) rfl rfl ?_
        refine Run.ldI X52 hx hZ e52 A_b20 (i := 1) (v := (.int v13.toInt32)) (by decide) rfl (hb hby at_423) ?_
        show Run p e below s _ _ _ (T52.setTop (mkF m 424 #[.val (.int p1), .val (.int p2), .val (.int p3), .val (.int p4), .val (.int p5), .val (.int (2 : Int32)), .val (.long v2), .second, .val (.long v3), .second, .val (.long v4), .second, .val (.long v5), .second, .val (.long v6), .second, .val (.long v7), .second, .val (.long v8), .second, .val (.long v9), .second, .val (.long v10), .second, .val (.long v12), .second, .val (.long v13), .second, .val (.long v14), .second, .val (.long v15), .second, .val (.long v16), .second, .val (.long v17), .second, .val (.long v18), .second, .val (.long v19), .second, .val (.ref b20), .val (.ref b48), .val (.int cx), .unset, .unset] [(.int v13.toInt32), (.int v12.toInt32), (.int cx)]))
        refine Run.callS X52 hx hZ e52 (y := (⟨"com/example/corbel/corbel/core/regex/RangesContainsPinLaw", "in", "(III)Z"⟩ : MethodName)) hown (hw _ (List.mem_of_getElem? (i := 29) rfl)) (hw _ (List.mem_of_getElem? (i := 30) rfl)) (hw _ (List.mem_of_getElem? (i := 31) rfl)) (hw _ (List.mem_of_getElem? (i := 32) rfl)) (by decide) (argsL := [(.int cx), (.int v12.toInt32), (.int v13.toInt32)]) (rest := []) (c_in l Z a0 hw cx v12.toInt32 v13.toInt32 h52 n0 Z52 ) pd_4 rfl (by rw [hml]; rfl) (W := 0) rfl (by decide) (by decide) (by decide) (by decide) (hb hby at_424) rfl ?_
        intro T53 v53 L53 X53 q53
        obtain ⟨rfl, M53, e53⟩ := q53
        have N53 := Fr.app N52 M53
        show Run p e below s _ _ _ (T53.setTop (mkF m 427 #[.val (.int p1), .val (.int p2), .val (.int p3), .val (.int p4), .val (.int p5), .val (.int (2 : Int32)), .val (.long v2), .second, .val (.long v3), .second, .val (.long v4), .second, .val (.long v5), .second, .val (.long v6), .second, .val (.long v7), .second, .val (.long v8), .second, .val (.long v9), .second, .val (.long v10), .second, .val (.long v12), .second, .val (.long v13), .second, .val (.long v14), .second, .val (.long v15), .second, .val (.long v16), .second, .val (.long v17), .second, .val (.long v18), .second, .val (.long v19), .second, .val (.ref b20), .val (.ref b48), .val (.int cx), .unset, .unset] [(.int (own_b (own_in cx v12.toInt32 v13.toInt32)))]))
        by_cases hc427 : (own_b (own_in cx v12.toInt32 v13.toInt32)) = (0 : Int32)
        · skip
          refine Run.x_ifNo (q := 430) X53 hx (hb hby at_427) ((if0 _ _).trans (teq hc427).2) rfl ?_
          refine Run.x_iload (q := 432) X53 hx (hb hby at_430) rfl rfl ?_
          refine Run.x_iconst (q := 433) X53 hx (hb hby at_432) (z := (2 : Int32)) rfl rfl ?_
          refine Run.x_icmpNo (q := 436) X53 hx (hb hby at_433) (flt (by decide : ¬ ((2 : Int32) < (2 : Int32)))).1 rfl ?_
          refine Run.x_iload (q := 438) X53 hx (hb hby at_436) rfl rfl ?_
          refine Run.x_aload (q := 440) X53 hx (hb hby at_438) rfl rfl rfl ?_
          refine Run.x_iconst (q := 441) X53 hx (hb hby at_440) (z := (2 : Int32)) rfl rfl ?_
          refine Run.ldI X53 hx hZ e53 A_b20 (i := 2) (v := (.int v14.toInt32)) (by decide) rfl (hb hby at_441) ?_
          show Run p e below s _ _ _ (T53.setTop (mkF m 442 #[.val (.int p1), .val (.int p2), .val (.int p3), .val (.int p4), .val (.int p5), .val (.int (2 : Int32)), .val (.long v2), .second, .val (.long v3), .second, .val (.long v4), .second, .val (.long v5), .second, .val (.long v6), .second, .val (.long v7), .second, .val (.long v8), .second, .val (.long v9), .second, .val (.long v10), .second, .val (.long v12), .second, .val (.long v13), .second, .val (.long v14), .second, .val (.long v15), .second, .val (.long v16), .second, .val (.long v17), .second, .val (.long v18), .second, .val (.long v19), .second, .val (.ref b20), .val (.ref b48), .val (.int cx), .unset, .unset] [(.int v14.toInt32), (.int cx)]))
          refine Run.x_aload (q := 444) X53 hx (hb hby at_442) rfl rfl rfl ?_
          refine Run.x_iconst (q := 445) X53 hx (hb hby at_444) (z := (3 : Int32)) rfl rfl ?_
          refine Run.ldI X53 hx hZ e53 A_b20 (i := 3) (v := (.int v15.toInt32)) (by decide) rfl (hb hby at_445) ?_
          show Run p e below s _ _ _ (T53.setTop (mkF m 446 #[.val (.int p1), .val (.int p2), .val (.int p3), .val (.int p4), .val (.int p5), .val (.int (2 : Int32)), .val (.long v2), .second, .val (.long v3), .second, .val (.long v4), .second, .val (.long v5), .second, .val (.long v6), .second, .val (.long v7), .second, .val (.long v8), .second, .val (.long v9), .second, .val (.long v10), .second, .val (.long v12), .second, .val (.long v13), .second, .val (.long v14), .second, .val (.long v15), .second, .val (.long v16), .second, .val (.long v17), .second, .val (.long v18), .second, .val (.long v19), .second, .val (.ref b20), .val (.ref b48), .val (.int cx), .unset, .unset] [(.int v15.toInt32), (.int v14.toInt32), (.int cx)]))
          refine Run.callS X53 hx hZ e53 (y := (⟨"com/example/corbel/corbel/core/regex/RangesContainsPinLaw", "in", "(III)Z"⟩ : MethodName)) hown (hw _ (List.mem_of_getElem? (i := 29) rfl)) (hw _ (List.mem_of_getElem? (i := 30) rfl)) (hw _ (List.mem_of_getElem? (i := 31) rfl)) (hw _ (List.mem_of_getElem? (i := 32) rfl)) (by decide) (argsL := [(.int cx), (.int v14.toInt32), (.int v15.toInt32)]) (rest := []) (c_in l Z a0 hw cx v14.toInt32 v15.toInt32 h52 n0 Z52 ) pd_4 rfl (by rw [hml]; rfl) (W := 0) rfl (by decide) (by decide) (by decide) (by decide) (hb hby at_446) rfl ?_
          intro T54 v54 L54 X54 q54
          obtain ⟨rfl, M54, e54⟩ := q54
          have N54 := Fr.app N53 M54
          show Run p e below s _ _ _ (T54.setTop (mkF m 449 #[.val (.int p1), .val (.int p2), .val (.int p3), .val (.int p4), .val (.int p5), .val (.int (2 : Int32)), .val (.long v2), .second, .val (.long v3), .second, .val (.long v4), .second, .val (.long v5), .second, .val (.long v6), .second, .val (.long v7), .second, .val (.long v8), .second, .val (.long v9), .second, .val (.long v10), .second, .val (.long v12), .second, .val (.long v13), .second, .val (.long v14), .second, .val (.long v15), .second, .val (.long v16), .second, .val (.long v17), .second, .val (.long v18), .second, .val (.long v19), .second, .val (.ref b20), .val (.ref b48), .val (.int cx), .unset, .unset] [(.int (own_b (own_in cx v14.toInt32 v15.toInt32)))]))
          by_cases hc449 : (own_b (own_in cx v14.toInt32 v15.toInt32)) = (0 : Int32)
          · skip
            refine Run.x_ifNo (q := 452) X54 hx (hb hby at_449) ((if0 _ _).trans (teq hc449).2) rfl ?_
            refine Run.x_iload (q := 454) X54 hx (hb hby at_452) rfl rfl ?_
            refine Run.x_iconst (q := 455) X54 hx (hb hby at_454) (z := (3 : Int32)) rfl rfl ?_
            refine Run.x_icmpYes (q := 474) X54 hx (hb hby at_455) (tlt (by decide : (2 : Int32) < (3 : Int32))).1 (by decide) (by decide) ?_
            refine Run.x_iload (q := 476) X54 hx (hb hby at_474) rfl rfl ?_
            refine Run.x_iconst (q := 477) X54 hx (hb hby at_476) (z := (4 : Int32)) rfl rfl ?_
            refine Run.x_icmpYes (q := 502) X54 hx (hb hby at_477) (tlt (by decide : (2 : Int32) < (4 : Int32))).1 (by decide) (by decide) ?_
            refine Run.x_iconst (q := 503) X54 hx (hb hby at_502) (z := (0 : Int32)) rfl rfl ?_
            refine Run.x_istore (q := 505) X54 hx #[.val (.int p1), .val (.int p2), .val (.int p3), .val (.int p4), .val (.int p5), .val (.int (2 : Int32)), .val (.long v2), .second, .val (.long v3), .second, .val (.long v4), .second, .val (.long v5), .second, .val (.long v6), .second, .val (.long v7), .second, .val (.long v8), .second, .val (.long v9), .second, .val (.long v10), .second, .val (.long v12), .second, .val (.long v13), .second, .val (.long v14), .second, .val (.long v15), .second, .val (.long v16), .second, .val (.long v17), .second, .val (.long v18), .second, .val (.long v19), .second, .val (.ref b20), .val (.ref b48), .val (.int cx), .val (.int (0 : Int32)), .unset] (hb hby at_503) rfl rfl ?_
            obtain ⟨T55, h55, X55, e55, E55, A55, D55, -, st55⟩ := newO X54 hx hZ hown (hw _ (List.mem_of_getElem? (i := 8) rfl)) (hw _ (List.mem_of_getElem? (i := 9) rfl)) (hw _ (List.mem_of_getElem? (i := 10) rfl)) e54 (g := (mkF m 505 #[.val (.int p1), .val (.int p2), .val (.int p3), .val (.int p4), .val (.int p5), .val (.int (2 : Int32)), .val (.long v2), .second, .val (.long v3), .second, .val (.long v4), .second, .val (.long v5), .second, .val (.long v6), .second, .val (.long v7), .second, .val (.long v8), .second, .val (.long v9), .second, .val (.long v10), .second, .val (.long v12), .second, .val (.long v13), .second, .val (.long v14), .second, .val (.long v15), .second, .val (.long v16), .second, .val (.long v17), .second, .val (.long v18), .second, .val (.long v19), .second, .val (.ref b20), .val (.ref b48), .val (.int cx), .val (.int (0 : Int32)), .unset] [])) rfl (hb hby at_505) (by decide) (by decide)
            obtain ⟨b55, gg55⟩ : ∃ z, z = h52.size := ⟨_, rfl⟩
            rw [← gg55] at A55 D55 st55
            have g_b55 : n0 ≤ b55 := Nat.le_trans Z52 (Nat.le_of_eq gg55.symm)
            have ne_b20_b55 : b20 ≠ b55 := Nat.ne_of_lt (Nat.lt_of_lt_of_le A_b20.lt (Nat.le_of_eq gg55.symm))
            have ne_b48_b55 : b48 ≠ b55 := Nat.ne_of_lt (Nat.lt_of_lt_of_le A_b48.lt (Nat.le_of_eq gg55.symm))
            have Z55 : n0 ≤ h55.size := Nat.le_trans Z52 E55.1
            have E_b55 := A55
            have F_b55_bounds : Fld Z h55 b55 "com/example/corbel/corbel/core/regex/CharSet$Ranges" "bounds" "[I" .null := D55 (Or.inr (hw _ (List.mem_of_getElem? (i := 23) rfl))) (ty := (.array .int)) (by decide)
            refine Run.st st55 ?_
            show Run p e below s _ _ _ (T55.setTop (mkF m 508 #[.val (.int p1), .val (.int p2), .val (.int p3), .val (.int p4), .val (.int p5), .val (.int (2 : Int32)), .val (.long v2), .second, .val (.long v3), .second, .val (.long v4), .second, .val (.long v5), .second, .val (.long v6), .second, .val (.long v7), .second, .val (.long v8), .second, .val (.long v9), .second, .val (.long v10), .second, .val (.long v12), .second, .val (.long v13), .second, .val (.long v14), .second, .val (.long v15), .second, .val (.long v16), .second, .val (.long v17), .second, .val (.long v18), .second, .val (.long v19), .second, .val (.ref b20), .val (.ref b48), .val (.int cx), .val (.int (0 : Int32)), .unset] [(.ref b55)]))
            refine Run.x_dup (q := 509) X55 hx (hb hby at_508) rfl rfl ?_
            refine Run.x_aload (q := 511) X55 hx (hb hby at_509) rfl rfl rfl ?_
            refine Run.callC X55 hx hZ e55 (y := (⟨"com/example/corbel/corbel/core/regex/CharSet$Ranges", "<init>", "([I)V"⟩ : MethodName)) hown rfl (hw _ (List.mem_of_getElem? (i := 11) rfl)) (hw _ (List.mem_of_getElem? (i := 12) rfl)) (hw _ (List.mem_of_getElem? (i := 10) rfl)) (hw _ (List.mem_of_getElem? (i := 13) rfl)) (by decide) (a := b55) (argsL := [(.ref b48)]) (rest := [(.ref b55)]) (c_init l Z a0 hw b55 b48 h55 n0 Z55 E_b55 F_b55_bounds g_b55) pd_2 rfl (by rw [hml]; rfl) (W := 1) rfl (by decide) (by decide) (by decide) (by decide) (hb hby at_511) rfl ?_
            intro T56 v56 L56 X56 q56
            obtain ⟨rfl, M56, K56, E56, F56_0⟩ := q56
            have N56 := Fr.app N54 M56
            show Run p e below s _ _ _ (T56.setTop (mkF m 514 #[.val (.int p1), .val (.int p2), .val (.int p3), .val (.int p4), .val (.int p5), .val (.int (2 : Int32)), .val (.long v2), .second, .val (.long v3), .second, .val (.long v4), .second, .val (.long v5), .second, .val (.long v6), .second, .val (.long v7), .second, .val (.long v8), .second, .val (.long v9), .second, .val (.long v10), .second, .val (.long v12), .second, .val (.long v13), .second, .val (.long v14), .second, .val (.long v15), .second, .val (.long v16), .second, .val (.long v17), .second, .val (.long v18), .second, .val (.long v19), .second, .val (.ref b20), .val (.ref b48), .val (.int cx), .val (.int (0 : Int32)), .unset] [(.ref b55)]))
            have Z56 : n0 ≤ T56.heap.size := Nat.le_trans Z55 K56.1
            refine Run.x_iload (q := 516) X56 hx (hb hby at_514) rfl rfl ?_
            replace E_b55 := E_b55.keep K56
            replace A_b48 := (A_b48.ext E55).keep K56 (ninS ne_b48_b55 nin0)
            refine Run.callV X56 hx hZ rfl (y := (⟨"com/example/corbel/corbel/core/regex/CharSet$Ranges", "contains", "(I)Z"⟩ : MethodName)) (z := (⟨"com/example/corbel/corbel/core/regex/CharSet$Ranges", "contains", "(I)Z"⟩ : MethodName)) hown (hw _ (List.mem_of_getElem? (i := 24) rfl)) (hw _ (List.mem_of_getElem? (i := 25) rfl)) (notFace_of_selects (args := #[]) (mvT hZ (hw _ (List.mem_of_getElem? (i := 27) rfl)))) (hw _ (List.mem_of_getElem? (i := 27) rfl)) (hw _ (List.mem_of_getElem? (i := 26) rfl)) (hw _ (List.mem_of_getElem? (i := 10) rfl)) (hw _ (List.mem_of_getElem? (i := 28) rfl)) (by decide) (a := b55) E_b55 (argsL := [(.int cx)]) (rest := []) (c_con2 l Z a0 hw b55 cx T56.heap n0 Z56 b48 v12.toInt32 v13.toInt32 v14.toInt32 v15.toInt32 E_b55 F56_0 A_b48 ⟨hsrt.1, hsrt.2.1, hsrt.2.2.1⟩) pd_3 rfl (by rw [hml]; rfl) (W := 0) rfl (by decide) (by decide) (by decide) (by decide) (hb hby at_516) rfl ?_
            intro T57 v57 L57 X57 q57
            obtain ⟨rfl, M57, e57⟩ := q57
            have N57 := Fr.app N56 M57
            show Run p e below s _ _ _ (T57.setTop (mkF m 519 #[.val (.int p1), .val (.int p2), .val (.int p3), .val (.int p4), .val (.int p5), .val (.int (2 : Int32)), .val (.long v2), .second, .val (.long v3), .second, .val (.long v4), .second, .val (.long v5), .second, .val (.long v6), .second, .val (.long v7), .second, .val (.long v8), .second, .val (.long v9), .second, .val (.long v10), .second, .val (.long v12), .second, .val (.long v13), .second, .val (.long v14), .second, .val (.long v15), .second, .val (.long v16), .second, .val (.long v17), .second, .val (.long v18), .second, .val (.long v19), .second, .val (.ref b20), .val (.ref b48), .val (.int cx), .val (.int (0 : Int32)), .unset] [(.int (own_b (own_in cx v12.toInt32 v13.toInt32 ∨ own_in cx v14.toInt32 v15.toInt32)))]))
            refine Run.x_istore (q := 521) X57 hx #[.val (.int p1), .val (.int p2), .val (.int p3), .val (.int p4), .val (.int p5), .val (.int (2 : Int32)), .val (.long v2), .second, .val (.long v3), .second, .val (.long v4), .second, .val (.long v5), .second, .val (.long v6), .second, .val (.long v7), .second, .val (.long v8), .second, .val (.long v9), .second, .val (.long v10), .second, .val (.long v12), .second, .val (.long v13), .second, .val (.long v14), .second, .val (.long v15), .second, .val (.long v16), .second, .val (.long v17), .second, .val (.long v18), .second, .val (.long v19), .second, .val (.ref b20), .val (.ref b48), .val (.int cx), .val (.int (0 : Int32)), .val (.int (own_b (own_in cx v12.toInt32 v13.toInt32 ∨ own_in cx v14.toInt32 v15.toInt32)))] (hb hby at_519) rfl rfl ?_
            generalize hv58 : (own_b (own_in cx v12.toInt32 v13.toInt32 ∨ own_in cx v14.toInt32 v15.toInt32)) = v58
            refine Run.x_iload (q := 523) X57 hx (hb hby at_521) rfl rfl ?_
            refine Run.x_iload (q := 525) X57 hx (hb hby at_523) rfl rfl ?_
            refine Run.x_icmpNo (q := 528) X57 hx (hb hby at_525) (teq (hv58.symm.trans (own_b0 (by simp only [own_b_no hc427, own_b_no hc449, or_false, not_false_eq_true])))).2 rfl ?_
            refine Run.x_iconst (q := 529) X57 hx (hb hby at_528) (z := (1 : Int32)) rfl rfl ?_
            refine Run.x_goto (q := 533) X57 hx (hb hby at_529) (by decide) (by decide) ?_
            refine Run.retN X57 hx hlk e57 (t := .boolean) hret (by simp) (z' := (1 : Int32)) (by decide) (hb hby at_533) (by decide) (by decide) ?_
            exact ⟨rfl, N57⟩
          · skip
            refine Run.x_ifYes (q := 498) X54 hx (hb hby at_449) ((if0 _ _).trans (feq hc449).2) (by decide) (by decide) ?_
            refine Run.x_iconst (q := 499) X54 hx (hb hby at_498) (z := (1 : Int32)) rfl rfl ?_
            refine Run.x_goto (q := 503) X54 hx (hb hby at_499) (by decide) (by decide) ?_
            refine Run.x_istore (q := 505) X54 hx #[.val (.int p1), .val (.int p2), .val (.int p3), .val (.int p4), .val (.int p5), .val (.int (2 : Int32)), .val (.long v2), .second, .val (.long v3), .second, .val (.long v4), .second, .val (.long v5), .second, .val (.long v6), .second, .val (.long v7), .second, .val (.long v8), .second, .val (.long v9), .second, .val (.long v10), .second, .val (.long v12), .second, .val (.long v13), .second, .val (.long v14), .second, .val (.long v15), .second, .val (.long v16), .second, .val (.long v17), .second, .val (.long v18), .second, .val (.long v19), .second, .val (.ref b20), .val (.ref b48), .val (.int cx), .val (.int (1 : Int32)), .unset] (hb hby at_503) rfl rfl ?_
            obtain ⟨T59, h59, X59, e59, E59, A59, D59, -, st59⟩ := newO X54 hx hZ hown (hw _ (List.mem_of_getElem? (i := 8) rfl)) (hw _ (List.mem_of_getElem? (i := 9) rfl)) (hw _ (List.mem_of_getElem? (i := 10) rfl)) e54 (g := (mkF m 505 #[.val (.int p1), .val (.int p2), .val (.int p3), .val (.int p4), .val (.int p5), .val (.int (2 : Int32)), .val (.long v2), .second, .val (.long v3), .second, .val (.long v4), .second, .val (.long v5), .second, .val (.long v6), .second, .val (.long v7), .second, .val (.long v8), .second, .val (.long v9), .second, .val (.long v10), .second, .val (.long v12), .second, .val (.long v13), .second, .val (.long v14), .second, .val (.long v15), .second, .val (.long v16), .second, .val (.long v17), .second, .val (.long v18), .second, .val (.long v19), .second, .val (.ref b20), .val (.ref b48), .val (.int cx), .val (.int (1 : Int32)), .unset] [])) rfl (hb hby at_505) (by decide) (by decide)
            obtain ⟨b59, gg59⟩ : ∃ z, z = h52.size := ⟨_, rfl⟩
            rw [← gg59] at A59 D59 st59
            have g_b59 : n0 ≤ b59 := Nat.le_trans Z52 (Nat.le_of_eq gg59.symm)
            have ne_b20_b59 : b20 ≠ b59 := Nat.ne_of_lt (Nat.lt_of_lt_of_le A_b20.lt (Nat.le_of_eq gg59.symm))
            have ne_b48_b59 : b48 ≠ b59 := Nat.ne_of_lt (Nat.lt_of_lt_of_le A_b48.lt (Nat.le_of_eq gg59.symm))
            have Z59 : n0 ≤ h59.size := Nat.le_trans Z52 E59.1
            have E_b59 := A59
            have F_b59_bounds : Fld Z h59 b59 "com/example/corbel/corbel/core/regex/CharSet$Ranges" "bounds" "[I" .null := D59 (Or.inr (hw _ (List.mem_of_getElem? (i := 23) rfl))) (ty := (.array .int)) (by decide)
            refine Run.st st59 ?_
            show Run p e below s _ _ _ (T59.setTop (mkF m 508 #[.val (.int p1), .val (.int p2), .val (.int p3), .val (.int p4), .val (.int p5), .val (.int (2 : Int32)), .val (.long v2), .second, .val (.long v3), .second, .val (.long v4), .second, .val (.long v5), .second, .val (.long v6), .second, .val (.long v7), .second, .val (.long v8), .second, .val (.long v9), .second, .val (.long v10), .second, .val (.long v12), .second, .val (.long v13), .second, .val (.long v14), .second, .val (.long v15), .second, .val (.long v16), .second, .val (.long v17), .second, .val (.long v18), .second, .val (.long v19), .second, .val (.ref b20), .val (.ref b48), .val (.int cx), .val (.int (1 : Int32)), .unset] [(.ref b59)]))
            refine Run.x_dup (q := 509) X59 hx (hb hby at_508) rfl rfl ?_
            refine Run.x_aload (q := 511) X59 hx (hb hby at_509) rfl rfl rfl ?_
            refine Run.callC X59 hx hZ e59 (y := (⟨"com/example/corbel/corbel/core/regex/CharSet$Ranges", "<init>", "([I)V"⟩ : MethodName)) hown rfl (hw _ (List.mem_of_getElem? (i := 11) rfl)) (hw _ (List.mem_of_getElem? (i := 12) rfl)) (hw _ (List.mem_of_getElem? (i := 10) rfl)) (hw _ (List.mem_of_getElem? (i := 13) rfl)) (by decide) (a := b59) (argsL := [(.ref b48)]) (rest := [(.ref b59)]) (c_init l Z a0 hw b59 b48 h59 n0 Z59 E_b59 F_b59_bounds g_b59) pd_2 rfl (by rw [hml]; rfl) (W := 1) rfl (by decide) (by decide) (by decide) (by decide) (hb hby at_511) rfl ?_
            intro T60 v60 L60 X60 q60
            obtain ⟨rfl, M60, K60, E60, F60_0⟩ := q60
            have N60 := Fr.app N54 M60
            show Run p e below s _ _ _ (T60.setTop (mkF m 514 #[.val (.int p1), .val (.int p2), .val (.int p3), .val (.int p4), .val (.int p5), .val (.int (2 : Int32)), .val (.long v2), .second, .val (.long v3), .second, .val (.long v4), .second, .val (.long v5), .second, .val (.long v6), .second, .val (.long v7), .second, .val (.long v8), .second, .val (.long v9), .second, .val (.long v10), .second, .val (.long v12), .second, .val (.long v13), .second, .val (.long v14), .second, .val (.long v15), .second, .val (.long v16), .second, .val (.long v17), .second, .val (.long v18), .second, .val (.long v19), .second, .val (.ref b20), .val (.ref b48), .val (.int cx), .val (.int (1 : Int32)), .unset] [(.ref b59)]))
            have Z60 : n0 ≤ T60.heap.size := Nat.le_trans Z59 K60.1
            refine Run.x_iload (q := 516) X60 hx (hb hby at_514) rfl rfl ?_
            replace E_b59 := E_b59.keep K60
            replace A_b48 := (A_b48.ext E59).keep K60 (ninS ne_b48_b59 nin0)
            refine Run.callV X60 hx hZ rfl (y := (⟨"com/example/corbel/corbel/core/regex/CharSet$Ranges", "contains", "(I)Z"⟩ : MethodName)) (z := (⟨"com/example/corbel/corbel/core/regex/CharSet$Ranges", "contains", "(I)Z"⟩ : MethodName)) hown (hw _ (List.mem_of_getElem? (i := 24) rfl)) (hw _ (List.mem_of_getElem? (i := 25) rfl)) (notFace_of_selects (args := #[]) (mvT hZ (hw _ (List.mem_of_getElem? (i := 27) rfl)))) (hw _ (List.mem_of_getElem? (i := 27) rfl)) (hw _ (List.mem_of_getElem? (i := 26) rfl)) (hw _ (List.mem_of_getElem? (i := 10) rfl)) (hw _ (List.mem_of_getElem? (i := 28) rfl)) (by decide) (a := b59) E_b59 (argsL := [(.int cx)]) (rest := []) (c_con2 l Z a0 hw b59 cx T60.heap n0 Z60 b48 v12.toInt32 v13.toInt32 v14.toInt32 v15.toInt32 E_b59 F60_0 A_b48 ⟨hsrt.1, hsrt.2.1, hsrt.2.2.1⟩) pd_3 rfl (by rw [hml]; rfl) (W := 0) rfl (by decide) (by decide) (by decide) (by decide) (hb hby at_516) rfl ?_
            intro T61 v61 L61 X61 q61
            obtain ⟨rfl, M61, e61⟩ := q61
            have N61 := Fr.app N60 M61
            show Run p e below s _ _ _ (T61.setTop (mkF m 519 #[.val (.int p1), .val (.int p2), .val (.int p3), .val (.int p4), .val (.int p5), .val (.int (2 : Int32)), .val (.long v2), .second, .val (.long v3), .second, .val (.long v4), .second, .val (.long v5), .second, .val (.long v6), .second, .val (.long v7), .second, .val (.long v8), .second, .val (.long v9), .second, .val (.long v10), .second, .val (.long v12), .second, .val (.long v13), .second, .val (.long v14), .second, .val (.long v15), .second, .val (.long v16), .second, .val (.long v17), .second, .val (.long v18), .second, .val (.long v19), .second, .val (.ref b20), .val (.ref b48), .val (.int cx), .val (.int (1 : Int32)), .unset] [(.int (own_b (own_in cx v12.toInt32 v13.toInt32 ∨ own_in cx v14.toInt32 v15.toInt32)))]))
            refine Run.x_istore (q := 521) X61 hx #[.val (.int p1), .val (.int p2), .val (.int p3), .val (.int p4), .val (.int p5), .val (.int (2 : Int32)), .val (.long v2), .second, .val (.long v3), .second, .val (.long v4), .second, .val (.long v5), .second, .val (.long v6), .second, .val (.long v7), .second, .val (.long v8), .second, .val (.long v9), .second, .val (.long v10), .second, .val (.long v12), .second, .val (.long v13), .second, .val (.long v14), .second, .val (.long v15), .second, .val (.long v16), .second, .val (.long v17), .second, .val (.long v18), .second, .val (.long v19), .second, .val (.ref b20), .val (.ref b48), .val (.int cx), .val (.int (1 : Int32)), .val (.int (own_b (own_in cx v12.toInt32 v13.toInt32 ∨ own_in cx v14.toInt32 v15.toInt32)))] (hb hby at_519) rfl rfl ?_
            generalize hv62 : (own_b (own_in cx v12.toInt32 v13.toInt32 ∨ own_in cx v14.toInt32 v15.toInt32)) = v62
            refine Run.x_iload (q := 523) X61 hx (hb hby at_521) rfl rfl ?_
            refine Run.x_iload (q := 525) X61 hx (hb hby at_523) rfl rfl ?_
            refine Run.x_icmpNo (q := 528) X61 hx (hb hby at_525) (teq (hv62.symm.trans (own_b1 (Or.inr (own_b_yes hc449))))).2 rfl ?_
            refine Run.x_iconst (q := 529) X61 hx (hb hby at_528) (z := (1 : Int32)) rfl rfl ?_
            refine Run.x_goto (q := 533) X61 hx (hb hby at_529) (by decide) (by decide) ?_
            refine Run.retN X61 hx hlk e61 (t := .boolean) hret (by simp) (z' := (1 : Int32)) (by decide) (hb hby at_533) (by decide) (by decide) ?_
            exact ⟨rfl, N61⟩
        · skip
          refine Run.x_ifYes (q := 498) X53 hx (hb hby at_427) ((if0 _ _).trans (feq hc427).2) (by decide) (by decide) ?_
          refine Run.x_iconst (q := 499) X53 hx (hb hby at_498) (z := (1 : Int32)) rfl rfl ?_
          refine Run.x_goto (q := 503) X53 hx (hb hby at_499) (by decide) (by decide) ?_
          refine Run.x_istore (q := 505) X53 hx #[.val (.int p1), .val (.int p2), .val (.int p3), .val (.int p4), .val (.int p5), .val (.int (2 : Int32)), .val (.long v2), .second, .val (.long v3), .second, .val (.long v4), .second, .val (.long v5), .second, .val (.long v6), .second, .val (.long v7), .second, .val (.long v8), .second, .val (.long v9), .second, .val (.long v10), .second, .val (.long v12), .second, .val (.long v13), .second, .val (.long v14), .second, .val (.long v15), .second, .val (.long v16), .second, .val (.long v17), .second, .val (.long v18), .second, .val (.long v19), .second, .val (.ref b20), .val (.ref b48), .val (.int cx), .val (.int (1 : Int32)), .unset] (hb hby at_503) rfl rfl ?_
          obtain ⟨T63, h63, X63, e63, E63, A63, D63, -, st63⟩ := newO X53 hx hZ hown (hw _ (List.mem_of_getElem? (i := 8) rfl)) (hw _ (List.mem_of_getElem? (i := 9) rfl)) (hw _ (List.mem_of_getElem? (i := 10) rfl)) e53 (g := (mkF m 505 #[.val (.int p1), .val (.int p2), .val (.int p3), .val (.int p4), .val (.int p5), .val (.int (2 : Int32)), .val (.long v2), .second, .val (.long v3), .second, .val (.long v4), .second, .val (.long v5), .second, .val (.long v6), .second, .val (.long v7), .second, .val (.long v8), .second, .val (.long v9), .second, .val (.long v10), .second, .val (.long v12), .second, .val (.long v13), .second, .val (.long v14), .second, .val (.long v15), .second, .val (.long v16), .second, .val (.long v17), .second, .val (.long v18), .second, .val (.long v19), .second, .val (.ref b20), .val (.ref b48), .val (.int cx), .val (.int (1 : Int32)), .unset] [])) rfl (hb hby at_505) (by decide) (by decide)
          obtain ⟨b63, gg63⟩ : ∃ z, z = h52.size := ⟨_, rfl⟩
          rw [← gg63] at A63 D63 st63
          have g_b63 : n0 ≤ b63 := Nat.le_trans Z52 (Nat.le_of_eq gg63.symm)
          have ne_b20_b63 : b20 ≠ b63 := Nat.ne_of_lt (Nat.lt_of_lt_of_le A_b20.lt (Nat.le_of_eq gg63.symm))
          have ne_b48_b63 : b48 ≠ b63 := Nat.ne_of_lt (Nat.lt_of_lt_of_le A_b48.lt (Nat.le_of_eq gg63.symm))
          have Z63 : n0 ≤ h63.size := Nat.le_trans Z52 E63.1
          have E_b63 := A63
          have F_b63_bounds : Fld Z h63 b63 "com/example/corbel/corbel/core/regex/CharSet$Ranges" "bounds" "[I" .null := D63 (Or.inr (hw _ (List.mem_of_getElem? (i := 23) rfl))) (ty := (.array .int)) (by decide)
          refine Run.st st63 ?_
          show Run p e below s _ _ _ (T63.setTop (mkF m 508 #[.val (.int p1), .val (.int p2), .val (.int p3), .val (.int p4), .val (.int p5), .val (.int (2 : Int32)), .val (.long v2), .second, .val (.long v3), .second, .val (.long v4), .second, .val (.long v5), .second, .val (.long v6), .second, .val (.long v7), .second, .val (.long v8), .second, .val (.long v9), .second, .val (.long v10), .second, .val (.long v12), .second, .val (.long v13), .second, .val (.long v14), .second, .val (.long v15), .second, .val (.long v16), .second, .val (.long v17), .second, .val (.long v18), .second, .val (.long v19), .second, .val (.ref b20), .val (.ref b48), .val (.int cx), .val (.int (1 : Int32)), .unset] [(.ref b63)]))
          refine Run.x_dup (q := 509) X63 hx (hb hby at_508) rfl rfl ?_
          refine Run.x_aload (q := 511) X63 hx (hb hby at_509) rfl rfl rfl ?_
          refine Run.callC X63 hx hZ e63 (y := (⟨"com/example/corbel/corbel/core/regex/CharSet$Ranges", "<init>", "([I)V"⟩ : MethodName)) hown rfl (hw _ (List.mem_of_getElem? (i := 11) rfl)) (hw _ (List.mem_of_getElem? (i := 12) rfl)) (hw _ (List.mem_of_getElem? (i := 10) rfl)) (hw _ (List.mem_of_getElem? (i := 13) rfl)) (by decide) (a := b63) (argsL := [(.ref b48)]) (rest := [(.ref b63)]) (c_init l Z a0 hw b63 b48 h63 n0 Z63 E_b63 F_b63_bounds g_b63) pd_2 rfl (by rw [hml]; rfl) (W := 1) rfl (by decide) (by decide) (by decide) (by decide) (hb hby at_511) rfl ?_
          intro T64 v64 L64 X64 q64
          obtain ⟨rfl, M64, K64, E64, F64_0⟩ := q64
          have N64 := Fr.app N53 M64
          show Run p e below s _ _ _ (T64.setTop (mkF m 514 #[.val (.int p1), .val (.int p2), .val (.int p3), .val (.int p4), .val (.int p5), .val (.int (2 : Int32)), .val (.long v2), .second, .val (.long v3), .second, .val (.long v4), .second, .val (.long v5), .second, .val (.long v6), .second, .val (.long v7), .second, .val (.long v8), .second, .val (.long v9), .second, .val (.long v10), .second, .val (.long v12), .second, .val (.long v13), .second, .val (.long v14), .second, .val (.long v15), .second, .val (.long v16), .second, .val (.long v17), .second, .val (.long v18), .second, .val (.long v19), .second, .val (.ref b20), .val (.ref b48), .val (.int cx), .val (.int (1 : Int32)), .unset] [(.ref b63)]))
          have Z64 : n0 ≤ T64.heap.size := Nat.le_trans Z63 K64.1
          refine Run.x_iload (q := 516) X64 hx (hb hby at_514) rfl rfl ?_
          replace E_b63 := E_b63.keep K64
          replace A_b48 := (A_b48.ext E63).keep K64 (ninS ne_b48_b63 nin0)
          refine Run.callV X64 hx hZ rfl (y := (⟨"com/example/corbel/corbel/core/regex/CharSet$Ranges", "contains", "(I)Z"⟩ : MethodName)) (z := (⟨"com/example/corbel/corbel/core/regex/CharSet$Ranges", "contains", "(I)Z"⟩ : MethodName)) hown (hw _ (List.mem_of_getElem? (i := 24) rfl)) (hw _ (List.mem_of_getElem? (i := 25) rfl)) (notFace_of_selects (args := #[]) (mvT hZ (hw _ (List.mem_of_getElem? (i := 27) rfl)))) (hw _ (List.mem_of_getElem? (i := 27) rfl)) (hw _ (List.mem_of_getElem? (i := 26) rfl)) (hw _ (List.mem_of_getElem? (i := 10) rfl)) (hw _ (List.mem_of_getElem? (i := 28) rfl)) (by decide) (a := b63) E_b63 (argsL := [(.int cx)]) (rest := []) (c_con2 l Z a0 hw b63 cx T64.heap n0 Z64 b48 v12.toInt32 v13.toInt32 v14.toInt32 v15.toInt32 E_b63 F64_0 A_b48 ⟨hsrt.1, hsrt.2.1, hsrt.2.2.1⟩) pd_3 rfl (by rw [hml]; rfl) (W := 0) rfl (by decide) (by decide) (by decide) (by decide) (hb hby at_516) rfl ?_
          intro T65 v65 L65 X65 q65
          obtain ⟨rfl, M65, e65⟩ := q65
          have N65 := Fr.app N64 M65
          show Run p e below s _ _ _ (T65.setTop (mkF m 519 #[.val (.int p1), .val (.int p2), .val (.int p3), .val (.int p4), .val (.int p5), .val (.int (2 : Int32)), .val (.long v2), .second, .val (.long v3), .second, .val (.long v4), .second, .val (.long v5), .second, .val (.long v6), .second, .val (.long v7), .second, .val (.long v8), .second, .val (.long v9), .second, .val (.long v10), .second, .val (.long v12), .second, .val (.long v13), .second, .val (.long v14), .second, .val (.long v15), .second, .val (.long v16), .second, .val (.long v17), .second, .val (.long v18), .second, .val (.long v19), .second, .val (.ref b20), .val (.ref b48), .val (.int cx), .val (.int (1 : Int32)), .unset] [(.int (own_b (own_in cx v12.toInt32 v13.toInt32 ∨ own_in cx v14.toInt32 v15.toInt32)))]))
          refine Run.x_istore (q := 521) X65 hx #[.val (.int p1), .val (.int p2), .val (.int p3), .val (.int p4), .val (.int p5), .val (.int (2 : Int32)), .val (.long v2), .second, .val (.long v3), .second, .val (.long v4), .second, .val (.long v5), .second, .val (.long v6), .second, .val (.long v7), .second, .val (.long v8), .second, .val (.long v9), .second, .val (.long v10), .second, .val (.long v12), .second, .val (.long v13), .second, .val (.long v14), .second, .val (.long v15), .second, .val (.long v16), .second, .val (.long v17), .second, .val (.long v18), .second, .val (.long v19), .second, .val (.ref b20), .val (.ref b48), .val (.int cx), .val (.int (1 : Int32)), .val (.int (own_b (own_in cx v12.toInt32 v13.toInt32 ∨ own_in cx v14.toInt32 v15.toInt32)))] (hb hby at_519) rfl rfl ?_
          generalize hv66 : (own_b (own_in cx v12.toInt32 v13.toInt32 ∨ own_in cx v14.toInt32 v15.toInt32)) = v66
          refine Run.x_iload (q := 523) X65 hx (hb hby at_521) rfl rfl ?_
          refine Run.x_iload (q := 525) X65 hx (hb hby at_523) rfl rfl ?_
          refine Run.x_icmpNo (q := 528) X65 hx (hb hby at_525) (teq (hv66.symm.trans (own_b1 (Or.inl (own_b_yes hc427))))).2 rfl ?_
          refine Run.x_iconst (q := 529) X65 hx (hb hby at_528) (z := (1 : Int32)) rfl rfl ?_
          refine Run.x_goto (q := 533) X65 hx (hb hby at_529) (by decide) (by decide) ?_
          refine Run.retN X65 hx hlk e65 (t := .boolean) hret (by simp) (z' := (1 : Int32)) (by decide) (hb hby at_533) (by decide) (by decide) ?_
          exact ⟨rfl, N65⟩
      refine Run.x_iload (q := 383) X52 hx (hb hby at_381) rfl rfl ?_
      refine Run.x_bipush (q := 385) X52 hx (hb hby at_383) (z := (7 : Int32)) rfl rfl ?_
      refine Run.x_iushr (q := 386) X52 hx (hb hby at_385) rfl rfl ?_
      refine Run.x_iconst (q := 387) X52 hx (hb hby at_386) (z := (2 : Int32)) rfl rfl ?_
      refine Run.x_iand (q := 388) X52 hx (hb hby at_387) rfl rfl ?_
      by_cases hc388 : (((p5.toUInt32 >>> ((7 : Int32) &&& 31).toUInt32).toInt32) &&& (2 : Int32)) = (0 : Int32)
      · skip
        refine Run.x_ifYes (q := 408) X52 hx (hb hby at_388) ((if0 _ _).trans (teq hc388).1) (by decide) (by decide) ?_
        exact J408 _
      · skip
        refine Run.x_ifNo (q := 391) X52 hx (hb hby at_388) ((if0 _ _).trans (feq hc388).1) rfl ?_
        refine Run.x_aload (q := 393) X52 hx (hb hby at_391) rfl rfl rfl ?_
        refine Run.x_iloadN (q := 394) X52 hx (hb hby at_393) rfl rfl ?_
        refine Run.x_iconst (q := 395) X52 hx (hb hby at_394) (z := (2 : Int32)) rfl rfl ?_
        refine Run.x_iushr (q := 396) X52 hx (hb hby at_395) rfl rfl ?_
        refine Run.x_bipush (q := 398) X52 hx (hb hby at_396) (z := (7 : Int32)) rfl rfl ?_
        refine Run.x_iand (q := 399) X52 hx (hb hby at_398) rfl rfl ?_
        replace A_b20 := A_b20.other W52 ne_b20_b48
        obtain ⟨ix, hix, hlt⟩ := own_idx ((p1.toUInt32 >>> ((2 : Int32) &&& 31).toUInt32).toInt32)
        obtain ⟨xv, hxv⟩ := ints_at [v12.toInt32, v13.toInt32, v14.toInt32, v15.toInt32, v16.toInt32, v17.toInt32, v18.toInt32, v19.toInt32] (i := ix) hlt
        refine Run.ldI X52 hx hZ e52 A_b20 (i := ix) (v := (.int xv)) hix hxv (hb hby at_399) ?_
        show Run p e below s _ _ _ (T52.setTop (mkF m 400 #[.val (.int p1), .val (.int p2), .val (.int p3), .val (.int p4), .val (.int p5), .val (.int (2 : Int32)), .val (.long v2), .second, .val (.long v3), .second, .val (.long v4), .second, .val (.long v5), .second, .val (.long v6), .second, .val (.long v7), .second, .val (.long v8), .second, .val (.long v9), .second, .val (.long v10), .second, .val (.long v12), .second, .val (.long v13), .second, .val (.long v14), .second, .val (.long v15), .second, .val (.long v16), .second, .val (.long v17), .second, .val (.long v18), .second, .val (.long v19), .second, .val (.ref b20), .val (.ref b48), .val (.int p1), .unset, .unset] [(.int xv)]))
        refine Run.x_iloadN (q := 401) X52 hx (hb hby at_400) rfl rfl ?_
        refine Run.x_iconst (q := 402) X52 hx (hb hby at_401) (z := (3 : Int32)) rfl rfl ?_
        refine Run.x_iand (q := 403) X52 hx (hb hby at_402) rfl rfl ?_
        refine Run.x_iadd (q := 404) X52 hx (hb hby at_403) rfl rfl ?_
        refine Run.x_iconst (q := 405) X52 hx (hb hby at_404) (z := (1 : Int32)) rfl rfl ?_
        refine Run.x_isub (q := 406) X52 hx (hb hby at_405) rfl rfl ?_
        refine Run.x_istore (q := 408) X52 hx #[.val (.int p1), .val (.int p2), .val (.int p3), .val (.int p4), .val (.int p5), .val (.int (2 : Int32)), .val (.long v2), .second, .val (.long v3), .second, .val (.long v4), .second, .val (.long v5), .second, .val (.long v6), .second, .val (.long v7), .second, .val (.long v8), .second, .val (.long v9), .second, .val (.long v10), .second, .val (.long v12), .second, .val (.long v13), .second, .val (.long v14), .second, .val (.long v15), .second, .val (.long v16), .second, .val (.long v17), .second, .val (.long v18), .second, .val (.long v19), .second, .val (.ref b20), .val (.ref b48), .val (.int ((xv + (p1 &&& (3 : Int32))) - (1 : Int32))), .unset, .unset] (hb hby at_406) rfl rfl ?_
        generalize hv67 : ((xv + (p1 &&& (3 : Int32))) - (1 : Int32)) = v67
        exact J408 _
    · skip
      show Run p e below s _ _ _ (T28.setTop (mkF m 278 #[.val (.int p1), .val (.int p2), .val (.int p3), .val (.int p4), .val (.int p5), .val (.int (3 : Int32)), .val (.long v2), .second, .val (.long v3), .second, .val (.long v4), .second, .val (.long v5), .second, .val (.long v6), .second, .val (.long v7), .second, .val (.long v8), .second, .val (.long v9), .second, .val (.long v10), .second, .val (.long v12), .second, .val (.long v13), .second, .val (.long v14), .second, .val (.long v15), .second, .val (.long v16), .second, .val (.long v17), .second, .val (.long v18), .second, .val (.long v19), .second, .val (.ref b20), .unset, .unset, .unset, .unset] []))
      refine Run.x_iconst (q := 279) X28 hx (hb hby at_278) (z := (2 : Int32)) rfl rfl ?_
      refine Run.x_iload (q := 281) X28 hx (hb hby at_279) rfl rfl ?_
      refine Run.x_imul (q := 282) X28 hx (hb hby at_281) (z := (6 : Int32)) (by decide) rfl ?_
      refine Run.newP X28 hx hZ e28 (hw _ (List.mem_of_getElem? (i := 7) rfl)) (hb hby at_282) (len := 6) (by decide) (by decide) (cap := 6) (by decide) (by decide) (by decide) (by decide) ?_
      intro T68 h68 b68 gg68 X68 e68 E68 A_b68
      have g_b68 : n0 ≤ b68 := Nat.le_trans Z28 (Nat.le_of_eq gg68.symm)
      have ne_b20_b68 : b20 ≠ b68 := Nat.ne_of_lt (Nat.lt_of_lt_of_le A_b20.lt (Nat.le_of_eq gg68.symm))
      have Z68 : n0 ≤ h68.size := Nat.le_trans Z28 E68.1
      replace A_b68 : Ars Z h68 b68 .int [(.int (0 : Int32)), (.int (0 : Int32)), (.int (0 : Int32)), (.int (0 : Int32)), (.int (0 : Int32)), (.int (0 : Int32))] := A_b68
      show Run p e below s _ _ _ (T68.setTop (mkF m 284 #[.val (.int p1), .val (.int p2), .val (.int p3), .val (.int p4), .val (.int p5), .val (.int (3 : Int32)), .val (.long v2), .second, .val (.long v3), .second, .val (.long v4), .second, .val (.long v5), .second, .val (.long v6), .second, .val (.long v7), .second, .val (.long v8), .second, .val (.long v9), .second, .val (.long v10), .second, .val (.long v12), .second, .val (.long v13), .second, .val (.long v14), .second, .val (.long v15), .second, .val (.long v16), .second, .val (.long v17), .second, .val (.long v18), .second, .val (.long v19), .second, .val (.ref b20), .unset, .unset, .unset, .unset] [(.ref b68)]))
      refine Run.x_astore (q := 286) X68 hx #[.val (.int p1), .val (.int p2), .val (.int p3), .val (.int p4), .val (.int p5), .val (.int (3 : Int32)), .val (.long v2), .second, .val (.long v3), .second, .val (.long v4), .second, .val (.long v5), .second, .val (.long v6), .second, .val (.long v7), .second, .val (.long v8), .second, .val (.long v9), .second, .val (.long v10), .second, .val (.long v12), .second, .val (.long v13), .second, .val (.long v14), .second, .val (.long v15), .second, .val (.long v16), .second, .val (.long v17), .second, .val (.long v18), .second, .val (.long v19), .second, .val (.ref b20), .val (.ref b68), .unset, .unset, .unset] (hb hby at_284) rfl rfl rfl ?_
      refine Run.x_iload (q := 288) X68 hx (hb hby at_286) rfl rfl ?_
      refine Run.x_iconst (q := 289) X68 hx (hb hby at_288) (z := (1 : Int32)) rfl rfl ?_
      refine Run.x_icmpNo (q := 292) X68 hx (hb hby at_289) (flt (by decide : ¬ ((3 : Int32) < (1 : Int32)))).1 rfl ?_
      refine Run.x_aload (q := 294) X68 hx (hb hby at_292) rfl rfl rfl ?_
      refine Run.x_iconst (q := 295) X68 hx (hb hby at_294) (z := (0 : Int32)) rfl rfl ?_
      refine Run.x_aload (q := 297) X68 hx (hb hby at_295) rfl rfl rfl ?_
      refine Run.x_iconst (q := 298) X68 hx (hb hby at_297) (z := (0 : Int32)) rfl rfl ?_
      replace A_b20 := A_b20.ext E68
      refine Run.ldI X68 hx hZ e68 A_b20 (i := 0) (v := (.int v12.toInt32)) (by decide) rfl (hb hby at_298) ?_
      show Run p e below s _ _ _ (T68.setTop (mkF m 299 #[.val (.int p1), .val (.int p2), .val (.int p3), .val (.int p4), .val (.int p5), .val (.int (3 : Int32)), .val (.long v2), .second, .val (.long v3), .second, .val (.long v4), .second, .val (.long v5), .second, .val (.long v6), .second, .val (.long v7), .second, .val (.long v8), .second, .val (.long v9), .second, .val (.long v10), .second, .val (.long v12), .second, .val (.long v13), .second, .val (.long v14), .second, .val (.long v15), .second, .val (.long v16), .second, .val (.long v17), .second, .val (.long v18), .second, .val (.long v19), .second, .val (.ref b20), .val (.ref b68), .unset, .unset, .unset] [(.int v12.toInt32), (.int (0 : Int32)), (.ref b68)]))
      refine Run.stI X68 hx hZ e68 A_b68 (i := 0) (by decide) (Nat.le_of_ble_eq_true rfl) (hb hby at_299) ?_
      intro T69 h69 X69 e69 W69 A69
      replace A_b68 : Ars Z h69 b68 .int [(.int v12.toInt32), (.int (0 : Int32)), (.int (0 : Int32)), (.int (0 : Int32)), (.int (0 : Int32)), (.int (0 : Int32))] := A69
      have N69 := Fr.snoc X69 N28 g_b68
      have Z69 : n0 ≤ h69.size := Nat.le_trans Z68 (Nat.le_of_eq W69.size.symm)
      show Run p e below s _ _ _ (T69.setTop (mkF m 300 #[.val (.int p1), .val (.int p2), .val (.int p3), .val (.int p4), .val (.int p5), .val (.int (3 : Int32)), .val (.long v2), .second, .val (.long v3), .second, .val (.long v4), .second, .val (.long v5), .second, .val (.long v6), .second, .val (.long v7), .second, .val (.long v8), .second, .val (.long v9), .second, .val (.long v10), .second, .val (.long v12), .second, .val (.long v13), .second, .val (.long v14), .second, .val (.long v15), .second, .val (.long v16), .second, .val (.long v17), .second, .val (.long v18), .second, .val (.long v19), .second, .val (.ref b20), .val (.ref b68), .unset, .unset, .unset] []))
      refine Run.x_aload (q := 302) X69 hx (hb hby at_300) rfl rfl rfl ?_
      refine Run.x_iconst (q := 303) X69 hx (hb hby at_302) (z := (1 : Int32)) rfl rfl ?_
      refine Run.x_aload (q := 305) X69 hx (hb hby at_303) rfl rfl rfl ?_
      refine Run.x_iconst (q := 306) X69 hx (hb hby at_305) (z := (1 : Int32)) rfl rfl ?_
      replace A_b20 := A_b20.other W69 ne_b20_b68
      refine Run.ldI X69 hx hZ e69 A_b20 (i := 1) (v := (.int v13.toInt32)) (by decide) rfl (hb hby at_306) ?_
      show Run p e below s _ _ _ (T69.setTop (mkF m 307 #[.val (.int p1), .val (.int p2), .val (.int p3), .val (.int p4), .val (.int p5), .val (.int (3 : Int32)), .val (.long v2), .second, .val (.long v3), .second, .val (.long v4), .second, .val (.long v5), .second, .val (.long v6), .second, .val (.long v7), .second, .val (.long v8), .second, .val (.long v9), .second, .val (.long v10), .second, .val (.long v12), .second, .val (.long v13), .second, .val (.long v14), .second, .val (.long v15), .second, .val (.long v16), .second, .val (.long v17), .second, .val (.long v18), .second, .val (.long v19), .second, .val (.ref b20), .val (.ref b68), .unset, .unset, .unset] [(.int v13.toInt32), (.int (1 : Int32)), (.ref b68)]))
      refine Run.stI X69 hx hZ e69 A_b68 (i := 1) (by decide) (Nat.le_of_ble_eq_true rfl) (hb hby at_307) ?_
      intro T70 h70 X70 e70 W70 A70
      replace A_b68 : Ars Z h70 b68 .int [(.int v12.toInt32), (.int v13.toInt32), (.int (0 : Int32)), (.int (0 : Int32)), (.int (0 : Int32)), (.int (0 : Int32))] := A70
      have N70 := Fr.snoc X70 N69 g_b68
      have Z70 : n0 ≤ h70.size := Nat.le_trans Z69 (Nat.le_of_eq W70.size.symm)
      show Run p e below s _ _ _ (T70.setTop (mkF m 308 #[.val (.int p1), .val (.int p2), .val (.int p3), .val (.int p4), .val (.int p5), .val (.int (3 : Int32)), .val (.long v2), .second, .val (.long v3), .second, .val (.long v4), .second, .val (.long v5), .second, .val (.long v6), .second, .val (.long v7), .second, .val (.long v8), .second, .val (.long v9), .second, .val (.long v10), .second, .val (.long v12), .second, .val (.long v13), .second, .val (.long v14), .second, .val (.long v15), .second, .val (.long v16), .second, .val (.long v17), .second, .val (.long v18), .second, .val (.long v19), .second, .val (.ref b20), .val (.ref b68), .unset, .unset, .unset] []))
      refine Run.x_iload (q := 310) X70 hx (hb hby at_308) rfl rfl ?_
      refine Run.x_iconst (q := 311) X70 hx (hb hby at_310) (z := (2 : Int32)) rfl rfl ?_
      refine Run.x_icmpNo (q := 314) X70 hx (hb hby at_311) (flt (by decide : ¬ ((3 : Int32) < (2 : Int32)))).1 rfl ?_
      refine Run.x_aload (q := 316) X70 hx (hb hby at_314) rfl rfl rfl ?_
      refine Run.x_iconst (q := 317) X70 hx (hb hby at_316) (z := (2 : Int32)) rfl rfl ?_
      refine Run.x_aload (q := 319) X70 hx (hb hby at_317) rfl rfl rfl ?_
      refine Run.x_iconst (q := 320) X70 hx (hb hby at_319) (z := (2 : Int32)) rfl rfl ?_
      replace A_b20 := A_b20.other W70 ne_b20_b68
      refine Run.ldI X70 hx hZ e70 A_b20 (i := 2) (v := (.int v14.toInt32)) (by decide) rfl (hb hby at_320) ?_
      show Run p e below s _ _ _ (T70.setTop (mkF m 321 #[.val (.int p1), .val (.int p2), .val (.int p3), .val (.int p4), .val (.int p5), .val (.int (3 : Int32)), .val (.long v2), .second, .val (.long v3), .second, .val (.long v4), .second, .val (.long v5), .second, .val (.long v6), .second, .val (.long v7), .second, .val (.long v8), .second, .val (.long v9), .second, .val (.long v10), .second, .val (.long v12), .second, .val (.long v13), .second, .val (.long v14), .second, .val (.long v15), .second, .val (.long v16), .second, .val (.long v17), .second, .val (.long v18), .second, .val (.long v19), .second, .val (.ref b20), .val (.ref b68), .unset, .unset, .unset] [(.int v14.toInt32), (.int (2 : Int32)), (.ref b68)]))
      refine Run.stI X70 hx hZ e70 A_b68 (i := 2) (by decide) (Nat.le_of_ble_eq_true rfl) (hb hby at_321) ?_
      intro T71 h71 X71 e71 W71 A71
      replace A_b68 : Ars Z h71 b68 .int [(.int v12.toInt32), (.int v13.toInt32), (.int v14.toInt32), (.int (0 : Int32)), (.int (0 : Int32)), (.int (0 : Int32))] := A71
      have N71 := Fr.snoc X71 N70 g_b68
      have Z71 : n0 ≤ h71.size := Nat.le_trans Z70 (Nat.le_of_eq W71.size.symm)
      show Run p e below s _ _ _ (T71.setTop (mkF m 322 #[.val (.int p1), .val (.int p2), .val (.int p3), .val (.int p4), .val (.int p5), .val (.int (3 : Int32)), .val (.long v2), .second, .val (.long v3), .second, .val (.long v4), .second, .val (.long v5), .second, .val (.long v6), .second, .val (.long v7), .second, .val (.long v8), .second, .val (.long v9), .second, .val (.long v10), .second, .val (.long v12), .second, .val (.long v13), .second, .val (.long v14), .second, .val (.long v15), .second, .val (.long v16), .second, .val (.long v17), .second, .val (.long v18), .second, .val (.long v19), .second, .val (.ref b20), .val (.ref b68), .unset, .unset, .unset] []))
      refine Run.x_aload (q := 324) X71 hx (hb hby at_322) rfl rfl rfl ?_
      refine Run.x_iconst (q := 325) X71 hx (hb hby at_324) (z := (3 : Int32)) rfl rfl ?_
      refine Run.x_aload (q := 327) X71 hx (hb hby at_325) rfl rfl rfl ?_
      refine Run.x_iconst (q := 328) X71 hx (hb hby at_327) (z := (3 : Int32)) rfl rfl ?_
      replace A_b20 := A_b20.other W71 ne_b20_b68
      refine Run.ldI X71 hx hZ e71 A_b20 (i := 3) (v := (.int v15.toInt32)) (by decide) rfl (hb hby at_328) ?_
      show Run p e below s _ _ _ (T71.setTop (mkF m 329 #[.val (.int p1), .val (.int p2), .val (.int p3), .val (.int p4), .val (.int p5), .val (.int (3 : Int32)), .val (.long v2), .second, .val (.long v3), .second, .val (.long v4), .second, .val (.long v5), .second, .val (.long v6), .second, .val (.long v7), .second, .val (.long v8), .second, .val (.long v9), .second, .val (.long v10), .second, .val (.long v12), .second, .val (.long v13), .second, .val (.long v14), .second, .val (.long v15), .second, .val (.long v16), .second, .val (.long v17), .second, .val (.long v18), .second, .val (.long v19), .second, .val (.ref b20), .val (.ref b68), .unset, .unset, .unset] [(.int v15.toInt32), (.int (3 : Int32)), (.ref b68)]))
      refine Run.stI X71 hx hZ e71 A_b68 (i := 3) (by decide) (Nat.le_of_ble_eq_true rfl) (hb hby at_329) ?_
      intro T72 h72 X72 e72 W72 A72
      replace A_b68 : Ars Z h72 b68 .int [(.int v12.toInt32), (.int v13.toInt32), (.int v14.toInt32), (.int v15.toInt32), (.int (0 : Int32)), (.int (0 : Int32))] := A72
      have N72 := Fr.snoc X72 N71 g_b68
      have Z72 : n0 ≤ h72.size := Nat.le_trans Z71 (Nat.le_of_eq W72.size.symm)
      show Run p e below s _ _ _ (T72.setTop (mkF m 330 #[.val (.int p1), .val (.int p2), .val (.int p3), .val (.int p4), .val (.int p5), .val (.int (3 : Int32)), .val (.long v2), .second, .val (.long v3), .second, .val (.long v4), .second, .val (.long v5), .second, .val (.long v6), .second, .val (.long v7), .second, .val (.long v8), .second, .val (.long v9), .second, .val (.long v10), .second, .val (.long v12), .second, .val (.long v13), .second, .val (.long v14), .second, .val (.long v15), .second, .val (.long v16), .second, .val (.long v17), .second, .val (.long v18), .second, .val (.long v19), .second, .val (.ref b20), .val (.ref b68), .unset, .unset, .unset] []))
      refine Run.x_iload (q := 332) X72 hx (hb hby at_330) rfl rfl ?_
      refine Run.x_iconst (q := 333) X72 hx (hb hby at_332) (z := (3 : Int32)) rfl rfl ?_
      refine Run.x_icmpNo (q := 336) X72 hx (hb hby at_333) (flt (by decide : ¬ ((3 : Int32) < (3 : Int32)))).1 rfl ?_
      refine Run.x_aload (q := 338) X72 hx (hb hby at_336) rfl rfl rfl ?_
      refine Run.x_iconst (q := 339) X72 hx (hb hby at_338) (z := (4 : Int32)) rfl rfl ?_
      refine Run.x_aload (q := 341) X72 hx (hb hby at_339) rfl rfl rfl ?_
      refine Run.x_iconst (q := 342) X72 hx (hb hby at_341) (z := (4 : Int32)) rfl rfl ?_
      replace A_b20 := A_b20.other W72 ne_b20_b68
      refine Run.ldI X72 hx hZ e72 A_b20 (i := 4) (v := (.int v16.toInt32)) (by decide) rfl (hb hby at_342) ?_
      show Run p e below s _ _ _ (T72.setTop (mkF m 343 #[.val (.int p1), .val (.int p2), .val (.int p3), .val (.int p4), .val (.int p5), .val (.int (3 : Int32)), .val (.long v2), .second, .val (.long v3), .second, .val (.long v4), .second, .val (.long v5), .second, .val (.long v6), .second, .val (.long v7), .second, .val (.long v8), .second, .val (.long v9), .second, .val (.long v10), .second, .val (.long v12), .second, .val (.long v13), .second, .val (.long v14), .second, .val (.long v15), .second, .val (.long v16), .second, .val (.long v17), .second, .val (.long v18), .second, .val (.long v19), .second, .val (.ref b20), .val (.ref b68), .unset, .unset, .unset] [(.int v16.toInt32), (.int (4 : Int32)), (.ref b68)]))
      refine Run.stI X72 hx hZ e72 A_b68 (i := 4) (by decide) (Nat.le_of_ble_eq_true rfl) (hb hby at_343) ?_
      intro T73 h73 X73 e73 W73 A73
      replace A_b68 : Ars Z h73 b68 .int [(.int v12.toInt32), (.int v13.toInt32), (.int v14.toInt32), (.int v15.toInt32), (.int v16.toInt32), (.int (0 : Int32))] := A73
      have N73 := Fr.snoc X73 N72 g_b68
      have Z73 : n0 ≤ h73.size := Nat.le_trans Z72 (Nat.le_of_eq W73.size.symm)
      show Run p e below s _ _ _ (T73.setTop (mkF m 344 #[.val (.int p1), .val (.int p2), .val (.int p3), .val (.int p4), .val (.int p5), .val (.int (3 : Int32)), .val (.long v2), .second, .val (.long v3), .second, .val (.long v4), .second, .val (.long v5), .second, .val (.long v6), .second, .val (.long v7), .second, .val (.long v8), .second, .val (.long v9), .second, .val (.long v10), .second, .val (.long v12), .second, .val (.long v13), .second, .val (.long v14), .second, .val (.long v15), .second, .val (.long v16), .second, .val (.long v17), .second, .val (.long v18), .second, .val (.long v19), .second, .val (.ref b20), .val (.ref b68), .unset, .unset, .unset] []))
      refine Run.x_aload (q := 346) X73 hx (hb hby at_344) rfl rfl rfl ?_
      refine Run.x_iconst (q := 347) X73 hx (hb hby at_346) (z := (5 : Int32)) rfl rfl ?_
      refine Run.x_aload (q := 349) X73 hx (hb hby at_347) rfl rfl rfl ?_
      refine Run.x_iconst (q := 350) X73 hx (hb hby at_349) (z := (5 : Int32)) rfl rfl ?_
      replace A_b20 := A_b20.other W73 ne_b20_b68
      refine Run.ldI X73 hx hZ e73 A_b20 (i := 5) (v := (.int v17.toInt32)) (by decide) rfl (hb hby at_350) ?_
      show Run p e below s _ _ _ (T73.setTop (mkF m 351 #[.val (.int p1), .val (.int p2), .val (.int p3), .val (.int p4), .val (.int p5), .val (.int (3 : Int32)), .val (.long v2), .second, .val (.long v3), .second, .val (.long v4), .second, .val (.long v5), .second, .val (.long v6), .second, .val (.long v7), .second, .val (.long v8), .second, .val (.long v9), .second, .val (.long v10), .second, .val (.long v12), .second, .val (.long v13), .second, .val (.long v14), .second, .val (.long v15), .second, .val (.long v16), .second, .val (.long v17), .second, .val (.long v18), .second, .val (.long v19), .second, .val (.ref b20), .val (.ref b68), .unset, .unset, .unset] [(.int v17.toInt32), (.int (5 : Int32)), (.ref b68)]))
      refine Run.stI X73 hx hZ e73 A_b68 (i := 5) (by decide) (Nat.le_of_ble_eq_true rfl) (hb hby at_351) ?_
      intro T74 h74 X74 e74 W74 A74
      replace A_b68 : Ars Z h74 b68 .int [(.int v12.toInt32), (.int v13.toInt32), (.int v14.toInt32), (.int v15.toInt32), (.int v16.toInt32), (.int v17.toInt32)] := A74
      have N74 := Fr.snoc X74 N73 g_b68
      have Z74 : n0 ≤ h74.size := Nat.le_trans Z73 (Nat.le_of_eq W74.size.symm)
      show Run p e below s _ _ _ (T74.setTop (mkF m 352 #[.val (.int p1), .val (.int p2), .val (.int p3), .val (.int p4), .val (.int p5), .val (.int (3 : Int32)), .val (.long v2), .second, .val (.long v3), .second, .val (.long v4), .second, .val (.long v5), .second, .val (.long v6), .second, .val (.long v7), .second, .val (.long v8), .second, .val (.long v9), .second, .val (.long v10), .second, .val (.long v12), .second, .val (.long v13), .second, .val (.long v14), .second, .val (.long v15), .second, .val (.long v16), .second, .val (.long v17), .second, .val (.long v18), .second, .val (.long v19), .second, .val (.ref b20), .val (.ref b68), .unset, .unset, .unset] []))
      refine Run.x_iload (q := 354) X74 hx (hb hby at_352) rfl rfl ?_
      refine Run.x_iconst (q := 355) X74 hx (hb hby at_354) (z := (4 : Int32)) rfl rfl ?_
      refine Run.x_icmpYes (q := 378) X74 hx (hb hby at_355) (tlt (by decide : (3 : Int32) < (4 : Int32))).1 (by decide) (by decide) ?_
      refine Run.x_iloadN (q := 379) X74 hx (hb hby at_378) rfl rfl ?_
      refine Run.x_istore (q := 381) X74 hx #[.val (.int p1), .val (.int p2), .val (.int p3), .val (.int p4), .val (.int p5), .val (.int (3 : Int32)), .val (.long v2), .second, .val (.long v3), .second, .val (.long v4), .second, .val (.long v5), .second, .val (.long v6), .second, .val (.long v7), .second, .val (.long v8), .second, .val (.long v9), .second, .val (.long v10), .second, .val (.long v12), .second, .val (.long v13), .second, .val (.long v14), .second, .val (.long v15), .second, .val (.long v16), .second, .val (.long v17), .second, .val (.long v18), .second, .val (.long v19), .second, .val (.ref b20), .val (.ref b68), .val (.int p1), .unset, .unset] (hb hby at_379) rfl rfl ?_
      have J408 : ∀ cx : Int32, Run p e below s (Tru n0) room_1.cells room_1.slots (T74.setTop (mkF m 408 #[.val (.int p1), .val (.int p2), .val (.int p3), .val (.int p4), .val (.int p5), .val (.int (3 : Int32)), .val (.long v2), .second, .val (.long v3), .second, .val (.long v4), .second, .val (.long v5), .second, .val (.long v6), .second, .val (.long v7), .second, .val (.long v8), .second, .val (.long v9), .second, .val (.long v10), .second, .val (.long v12), .second, .val (.long v13), .second, .val (.long v14), .second, .val (.long v15), .second, .val (.long v16), .second, .val (.long v17), .second, .val (.long v18), .second, .val (.long v19), .second, .val (.ref b20), .val (.ref b68), .val (.int cx), .unset, .unset] [])) := by
        intro cx
        refine Run.x_iload (q := 410) X74 hx (hb hby at_408) rfl rfl ?_
        refine Run.x_iconst (q := 411) X74 hx (hb hby at_410) (z := (1 : Int32)) rfl rfl ?_
        refine Run.x_icmpNo (q := 414) X74 hx (hb hby at_411) (flt (by decide : ¬ ((3 : Int32) < (1 : Int32)))).1 rfl ?_
        refine Run.x_iload (q := 416) X74 hx (hb hby at_414) rfl rfl ?_
        refine Run.x_aload (q := 418) X74 hx (hb hby at_416) rfl rfl rfl ?_
        refine Run.x_iconst (q := 419) X74 hx (hb hby at_418) (z := (0 : Int32)) rfl rfl ?_
        replace A_b20 := A_b20.other W74 ne_b20_b68
        refine Run.ldI X74 hx hZ e74 A_b20 (i := 0) (v := (.int v12.toInt32)) (by decide) rfl (hb hby at_419) ?_
        show Run p e below s _ _ _ (T74.setTop (mkF m 420 #[.val (.int p1), .val (.int p2), .val (.int p3), .val (.int p4), .val (.int p5), .val (.int (3 : Int32)), .val (.long v2), .second, .val (.long v3), .second, .val (.long v4), .second, .val (.long v5), .second, .val (.long v6), .second, .val (.long v7), .second, .val (.long v8), .second, .val (.long v9), .second, .val (.long v10), .second, .val (.long v12), .second, .val (.long v13), .second, .val (.long v14), .second, .val (.long v15), .second, .val (.long v16), .second, .val (.long v17), .second, .val (.long v18), .second, .val (.long v19), .second, .val (.ref b20), .val (.ref b68), .val (.int cx), .unset, .unset] [(.int v12.toInt32), (.int cx)]))
        refine Run.x_aload (q := 422) X74 hx (hb hby at_420) rfl rfl rfl ?_
        refine Run.x_iconst (q := 423) X74 hx (hb hby at_422) (z := (1 : Int32)) rfl rfl ?_
        refine Run.ldI X74 hx hZ e74 A_b20 (i := 1) (v := (.int v13.toInt32)) (by decide) rfl (hb hby at_423) ?_
        show Run p e below s _ _ _ (T74.setTop (mkF m 424 #[.val (.int p1), .val (.int p2), .val (.int p3), .val (.int p4), .val (.int p5), .val (.int (3 : Int32)), .val (.long v2), .second, .val (.long v3), .second, .val (.long v4), .second, .val (.long v5), .second, .val (.long v6), .second, .val (.long v7), .second, .val (.long v8), .second, .val (.long v9), .second, .val (.long v10), .second, .val (.long v12), .second, .val (.long v13), .second, .val (.long v14), .second, .val (.long v15), .second, .val (.long v16), .second, .val (.long v17), .second, .val (.long v18), .second, .val (.long v19), .second, .val (.ref b20), .val (.ref b68), .val (.int cx), .unset, .unset] [(.int v13.toInt32), (.int v12.toInt32), (.int cx)]))
        refine Run.callS X74 hx hZ e74 (y := (⟨"com/example/corbel/corbel/core/regex/RangesContainsPinLaw", "in", "(III)Z"⟩ : MethodName)) hown (hw _ (List.mem_of_getElem? (i := 29) rfl)) (hw _ (List.mem_of_getElem? (i := 30) rfl)) (hw _ (List.mem_of_getElem? (i := 31) rfl)) (hw _ (List.mem_of_getElem? (i := 32) rfl)) (by decide) (argsL := [(.int cx), (.int v12.toInt32), (.int v13.toInt32)]) (rest := []) (c_in l Z a0 hw cx v12.toInt32 v13.toInt32 h74 n0 Z74 ) pd_4 rfl (by rw [hml]; rfl) (W := 0) rfl (by decide) (by decide) (by decide) (by decide) (hb hby at_424) rfl ?_
        intro T75 v75 L75 X75 q75
        obtain ⟨rfl, M75, e75⟩ := q75
        have N75 := Fr.app N74 M75
        show Run p e below s _ _ _ (T75.setTop (mkF m 427 #[.val (.int p1), .val (.int p2), .val (.int p3), .val (.int p4), .val (.int p5), .val (.int (3 : Int32)), .val (.long v2), .second, .val (.long v3), .second, .val (.long v4), .second, .val (.long v5), .second, .val (.long v6), .second, .val (.long v7), .second, .val (.long v8), .second, .val (.long v9), .second, .val (.long v10), .second, .val (.long v12), .second, .val (.long v13), .second, .val (.long v14), .second, .val (.long v15), .second, .val (.long v16), .second, .val (.long v17), .second, .val (.long v18), .second, .val (.long v19), .second, .val (.ref b20), .val (.ref b68), .val (.int cx), .unset, .unset] [(.int (own_b (own_in cx v12.toInt32 v13.toInt32)))]))
        by_cases hc427 : (own_b (own_in cx v12.toInt32 v13.toInt32)) = (0 : Int32)
        · skip
          refine Run.x_ifNo (q := 430) X75 hx (hb hby at_427) ((if0 _ _).trans (teq hc427).2) rfl ?_
          refine Run.x_iload (q := 432) X75 hx (hb hby at_430) rfl rfl ?_
          refine Run.x_iconst (q := 433) X75 hx (hb hby at_432) (z := (2 : Int32)) rfl rfl ?_
          refine Run.x_icmpNo (q := 436) X75 hx (hb hby at_433) (flt (by decide : ¬ ((3 : Int32) < (2 : Int32)))).1 rfl ?_
          refine Run.x_iload (q := 438) X75 hx (hb hby at_436) rfl rfl ?_
          refine Run.x_aload (q := 440) X75 hx (hb hby at_438) rfl rfl rfl ?_
          refine Run.x_iconst (q := 441) X75 hx (hb hby at_440) (z := (2 : Int32)) rfl rfl ?_
          refine Run.ldI X75 hx hZ e75 A_b20 (i := 2) (v := (.int v14.toInt32)) (by decide) rfl (hb hby at_441) ?_
          show Run p e below s _ _ _ (T75.setTop (mkF m 442 #[.val (.int p1), .val (.int p2), .val (.int p3), .val (.int p4), .val (.int p5), .val (.int (3 : Int32)), .val (.long v2), .second, .val (.long v3), .second, .val (.long v4), .second, .val (.long v5), .second, .val (.long v6), .second, .val (.long v7), .second, .val (.long v8), .second, .val (.long v9), .second, .val (.long v10), .second, .val (.long v12), .second, .val (.long v13), .second, .val (.long v14), .second, .val (.long v15), .second, .val (.long v16), .second, .val (.long v17), .second, .val (.long v18), .second, .val (.long v19), .second, .val (.ref b20), .val (.ref b68), .val (.int cx), .unset, .unset] [(.int v14.toInt32), (.int cx)]))
          refine Run.x_aload (q := 444) X75 hx (hb hby at_442) rfl rfl rfl ?_
          refine Run.x_iconst (q := 445) X75 hx (hb hby at_444) (z := (3 : Int32)) rfl rfl ?_
          refine Run.ldI X75 hx hZ e75 A_b20 (i := 3) (v := (.int v15.toInt32)) (by decide) rfl (hb hby at_445) ?_
          show Run p e below s _ _ _ (T75.setTop (mkF m 446 #[.val (.int p1), .val (.int p2), .val (.int p3), .val (.int p4), .val (.int p5), .val (.int (3 : Int32)), .val (.long v2), .second, .val (.long v3), .second, .val (.long v4), .second, .val (.long v5), .second, .val (.long v6), .second, .val (.long v7), .second, .val (.long v8), .second, .val (.long v9), .second, .val (.long v10), .second, .val (.long v12), .second, .val (.long v13), .second, .val (.long v14), .second, .val (.long v15), .second, .val (.long v16), .second, .val (.long v17), .second, .val (.long v18), .second, .val (.long v19), .second, .val (.ref b20), .val (.ref b68), .val (.int cx), .unset, .unset] [(.int v15.toInt32), (.int v14.toInt32), (.int cx)]))
          refine Run.callS X75 hx hZ e75 (y := (⟨"com/example/corbel/corbel/core/regex/RangesContainsPinLaw", "in", "(III)Z"⟩ : MethodName)) hown (hw _ (List.mem_of_getElem? (i := 29) rfl)) (hw _ (List.mem_of_getElem? (i := 30) rfl)) (hw _ (List.mem_of_getElem? (i := 31) rfl)) (hw _ (List.mem_of_getElem? (i := 32) rfl)) (by decide) (argsL := [(.int cx), (.int v14.toInt32), (.int v15.toInt32)]) (rest := []) (c_in l Z a0 hw cx v14.toInt32 v15.toInt32 h74 n0 Z74 ) pd_4 rfl (by rw [hml]; rfl) (W := 0) rfl (by decide) (by decide) (by decide) (by decide) (hb hby at_446) rfl ?_
          intro T76 v76 L76 X76 q76
          obtain ⟨rfl, M76, e76⟩ := q76
          have N76 := Fr.app N75 M76
          show Run p e below s _ _ _ (T76.setTop (mkF m 449 #[.val (.int p1), .val (.int p2), .val (.int p3), .val (.int p4), .val (.int p5), .val (.int (3 : Int32)), .val (.long v2), .second, .val (.long v3), .second, .val (.long v4), .second, .val (.long v5), .second, .val (.long v6), .second, .val (.long v7), .second, .val (.long v8), .second, .val (.long v9), .second, .val (.long v10), .second, .val (.long v12), .second, .val (.long v13), .second, .val (.long v14), .second, .val (.long v15), .second, .val (.long v16), .second, .val (.long v17), .second, .val (.long v18), .second, .val (.long v19), .second, .val (.ref b20), .val (.ref b68), .val (.int cx), .unset, .unset] [(.int (own_b (own_in cx v14.toInt32 v15.toInt32)))]))
          by_cases hc449 : (own_b (own_in cx v14.toInt32 v15.toInt32)) = (0 : Int32)
          · skip
            refine Run.x_ifNo (q := 452) X76 hx (hb hby at_449) ((if0 _ _).trans (teq hc449).2) rfl ?_
            refine Run.x_iload (q := 454) X76 hx (hb hby at_452) rfl rfl ?_
            refine Run.x_iconst (q := 455) X76 hx (hb hby at_454) (z := (3 : Int32)) rfl rfl ?_
            refine Run.x_icmpNo (q := 458) X76 hx (hb hby at_455) (flt (by decide : ¬ ((3 : Int32) < (3 : Int32)))).1 rfl ?_
            refine Run.x_iload (q := 460) X76 hx (hb hby at_458) rfl rfl ?_
            refine Run.x_aload (q := 462) X76 hx (hb hby at_460) rfl rfl rfl ?_
            refine Run.x_iconst (q := 463) X76 hx (hb hby at_462) (z := (4 : Int32)) rfl rfl ?_
            refine Run.ldI X76 hx hZ e76 A_b20 (i := 4) (v := (.int v16.toInt32)) (by decide) rfl (hb hby at_463) ?_
            show Run p e below s _ _ _ (T76.setTop (mkF m 464 #[.val (.int p1), .val (.int p2), .val (.int p3), .val (.int p4), .val (.int p5), .val (.int (3 : Int32)), .val (.long v2), .second, .val (.long v3), .second, .val (.long v4), .second, .val (.long v5), .second, .val (.long v6), .second, .val (.long v7), .second, .val (.long v8), .second, .val (.long v9), .second, .val (.long v10), .second, .val (.long v12), .second, .val (.long v13), .second, .val (.long v14), .second, .val (.long v15), .second, .val (.long v16), .second, .val (.long v17), .second, .val (.long v18), .second, .val (.long v19), .second, .val (.ref b20), .val (.ref b68), .val (.int cx), .unset, .unset] [(.int v16.toInt32), (.int cx)]))
            refine Run.x_aload (q := 466) X76 hx (hb hby at_464) rfl rfl rfl ?_
            refine Run.x_iconst (q := 467) X76 hx (hb hby at_466) (z := (5 : Int32)) rfl rfl ?_
            refine Run.ldI X76 hx hZ e76 A_b20 (i := 5) (v := (.int v17.toInt32)) (by decide) rfl (hb hby at_467) ?_
            show Run p e below s _ _ _ (T76.setTop (mkF m 468 #[.val (.int p1), .val (.int p2), .val (.int p3), .val (.int p4), .val (.int p5), .val (.int (3 : Int32)), .val (.long v2), .second, .val (.long v3), .second, .val (.long v4), .second, .val (.long v5), .second, .val (.long v6), .second, .val (.long v7), .second, .val (.long v8), .second, .val (.long v9), .second, .val (.long v10), .second, .val (.long v12), .second, .val (.long v13), .second, .val (.long v14), .second, .val (.long v15), .second, .val (.long v16), .second, .val (.long v17), .second, .val (.long v18), .second, .val (.long v19), .second, .val (.ref b20), .val (.ref b68), .val (.int cx), .unset, .unset] [(.int v17.toInt32), (.int v16.toInt32), (.int cx)]))
            refine Run.callS X76 hx hZ e76 (y := (⟨"com/example/corbel/corbel/core/regex/RangesContainsPinLaw", "in", "(III)Z"⟩ : MethodName)) hown (hw _ (List.mem_of_getElem? (i := 29) rfl)) (hw _ (List.mem_of_getElem? (i := 30) rfl)) (hw _ (List.mem_of_getElem? (i := 31) rfl)) (hw _ (List.mem_of_getElem? (i := 32) rfl)) (by decide) (argsL := [(.int cx), (.int v16.toInt32), (.int v17.toInt32)]) (rest := []) (c_in l Z a0 hw cx v16.toInt32 v17.toInt32 h74 n0 Z74 ) pd_4 rfl (by rw [hml]; rfl) (W := 0) rfl (by decide) (by decide) (by decide) (by decide) (hb hby at_468) rfl ?_
            intro T77 v77 L77 X77 q77
            obtain ⟨rfl, M77, e77⟩ := q77
            have N77 := Fr.app N76 M77
            show Run p e below s _ _ _ (T77.setTop (mkF m 471 #[.val (.int p1), .val (.int p2), .val (.int p3), .val (.int p4), .val (.int p5), .val (.int (3 : Int32)), .val (.long v2), .second, .val (.long v3), .second, .val (.long v4), .second, .val (.long v5), .second, .val (.long v6), .second, .val (.long v7), .second, .val (.long v8), .second, .val (.long v9), .second, .val (.long v10), .second, .val (.long v12), .second, .val (.long v13), .second, .val (.long v14), .second, .val (.long v15), .second, .val (.long v16), .second, .val (.long v17), .second, .val (.long v18), .second, .val (.long v19), .second, .val (.ref b20), .val (.ref b68), .val (.int cx), .unset, .unset] [(.int (own_b (own_in cx v16.toInt32 v17.toInt32)))]))
            by_cases hc471 : (own_b (own_in cx v16.toInt32 v17.toInt32)) = (0 : Int32)
            · skip
              refine Run.x_ifNo (q := 474) X77 hx (hb hby at_471) ((if0 _ _).trans (teq hc471).2) rfl ?_
              refine Run.x_iload (q := 476) X77 hx (hb hby at_474) rfl rfl ?_
              refine Run.x_iconst (q := 477) X77 hx (hb hby at_476) (z := (4 : Int32)) rfl rfl ?_
              refine Run.x_icmpYes (q := 502) X77 hx (hb hby at_477) (tlt (by decide : (3 : Int32) < (4 : Int32))).1 (by decide) (by decide) ?_
              refine Run.x_iconst (q := 503) X77 hx (hb hby at_502) (z := (0 : Int32)) rfl rfl ?_
              refine Run.x_istore (q := 505) X77 hx #[.val (.int p1), .val (.int p2), .val (.int p3), .val (.int p4), .val (.int p5), .val (.int (3 : Int32)), .val (.long v2), .second, .val (.long v3), .second, .val (.long v4), .second, .val (.long v5), .second, .val (.long v6), .second, .val (.long v7), .second, .val (.long v8), .second, .val (.long v9), .second, .val (.long v10), .second, .val (.long v12), .second, .val (.long v13), .second, .val (.long v14), .second, .val (.long v15), .second, .val (.long v16), .second, .val (.long v17), .second, .val (.long v18), .second, .val (.long v19), .second, .val (.ref b20), .val (.ref b68), .val (.int cx), .val (.int (0 : Int32)), .unset] (hb hby at_503) rfl rfl ?_
              obtain ⟨T78, h78, X78, e78, E78, A78, D78, -, st78⟩ := newO X77 hx hZ hown (hw _ (List.mem_of_getElem? (i := 8) rfl)) (hw _ (List.mem_of_getElem? (i := 9) rfl)) (hw _ (List.mem_of_getElem? (i := 10) rfl)) e77 (g := (mkF m 505 #[.val (.int p1), .val (.int p2), .val (.int p3), .val (.int p4), .val (.int p5), .val (.int (3 : Int32)), .val (.long v2), .second, .val (.long v3), .second, .val (.long v4), .second, .val (.long v5), .second, .val (.long v6), .second, .val (.long v7), .second, .val (.long v8), .second, .val (.long v9), .second, .val (.long v10), .second, .val (.long v12), .second, .val (.long v13), .second, .val (.long v14), .second, .val (.long v15), .second, .val (.long v16), .second, .val (.long v17), .second, .val (.long v18), .second, .val (.long v19), .second, .val (.ref b20), .val (.ref b68), .val (.int cx), .val (.int (0 : Int32)), .unset] [])) rfl (hb hby at_505) (by decide) (by decide)
              obtain ⟨b78, gg78⟩ : ∃ z, z = h74.size := ⟨_, rfl⟩
              rw [← gg78] at A78 D78 st78
              have g_b78 : n0 ≤ b78 := Nat.le_trans Z74 (Nat.le_of_eq gg78.symm)
              have ne_b20_b78 : b20 ≠ b78 := Nat.ne_of_lt (Nat.lt_of_lt_of_le A_b20.lt (Nat.le_of_eq gg78.symm))
              have ne_b68_b78 : b68 ≠ b78 := Nat.ne_of_lt (Nat.lt_of_lt_of_le A_b68.lt (Nat.le_of_eq gg78.symm))
              have Z78 : n0 ≤ h78.size := Nat.le_trans Z74 E78.1
              have E_b78 := A78
              have F_b78_bounds : Fld Z h78 b78 "com/example/corbel/corbel/core/regex/CharSet$Ranges" "bounds" "[I" .null := D78 (Or.inr (hw _ (List.mem_of_getElem? (i := 23) rfl))) (ty := (.array .int)) (by decide)
              refine Run.st st78 ?_
              show Run p e below s _ _ _ (T78.setTop (mkF m 508 #[.val (.int p1), .val (.int p2), .val (.int p3), .val (.int p4), .val (.int p5), .val (.int (3 : Int32)), .val (.long v2), .second, .val (.long v3), .second, .val (.long v4), .second, .val (.long v5), .second, .val (.long v6), .second, .val (.long v7), .second, .val (.long v8), .second, .val (.long v9), .second, .val (.long v10), .second, .val (.long v12), .second, .val (.long v13), .second, .val (.long v14), .second, .val (.long v15), .second, .val (.long v16), .second, .val (.long v17), .second, .val (.long v18), .second, .val (.long v19), .second, .val (.ref b20), .val (.ref b68), .val (.int cx), .val (.int (0 : Int32)), .unset] [(.ref b78)]))
              refine Run.x_dup (q := 509) X78 hx (hb hby at_508) rfl rfl ?_
              refine Run.x_aload (q := 511) X78 hx (hb hby at_509) rfl rfl rfl ?_
              refine Run.callC X78 hx hZ e78 (y := (⟨"com/example/corbel/corbel/core/regex/CharSet$Ranges", "<init>", "([I)V"⟩ : MethodName)) hown rfl (hw _ (List.mem_of_getElem? (i := 11) rfl)) (hw _ (List.mem_of_getElem? (i := 12) rfl)) (hw _ (List.mem_of_getElem? (i := 10) rfl)) (hw _ (List.mem_of_getElem? (i := 13) rfl)) (by decide) (a := b78) (argsL := [(.ref b68)]) (rest := [(.ref b78)]) (c_init l Z a0 hw b78 b68 h78 n0 Z78 E_b78 F_b78_bounds g_b78) pd_2 rfl (by rw [hml]; rfl) (W := 1) rfl (by decide) (by decide) (by decide) (by decide) (hb hby at_511) rfl ?_
              intro T79 v79 L79 X79 q79
              obtain ⟨rfl, M79, K79, E79, F79_0⟩ := q79
              have N79 := Fr.app N77 M79
              show Run p e below s _ _ _ (T79.setTop (mkF m 514 #[.val (.int p1), .val (.int p2), .val (.int p3), .val (.int p4), .val (.int p5), .val (.int (3 : Int32)), .val (.long v2), .second, .val (.long v3), .second, .val (.long v4), .second, .val (.long v5), .second, .val (.long v6), .second, .val (.long v7), .second, .val (.long v8), .second, .val (.long v9), .second, .val (.long v10), .second, .val (.long v12), .second, .val (.long v13), .second, .val (.long v14), .second, .val (.long v15), .second, .val (.long v16), .second, .val (.long v17), .second, .val (.long v18), .second, .val (.long v19), .second, .val (.ref b20), .val (.ref b68), .val (.int cx), .val (.int (0 : Int32)), .unset] [(.ref b78)]))
              have Z79 : n0 ≤ T79.heap.size := Nat.le_trans Z78 K79.1
              refine Run.x_iload (q := 516) X79 hx (hb hby at_514) rfl rfl ?_
              replace E_b78 := E_b78.keep K79
              replace A_b68 := (A_b68.ext E78).keep K79 (ninS ne_b68_b78 nin0)
              refine Run.callV X79 hx hZ rfl (y := (⟨"com/example/corbel/corbel/core/regex/CharSet$Ranges", "contains", "(I)Z"⟩ : MethodName)) (z := (⟨"com/example/corbel/corbel/core/regex/CharSet$Ranges", "contains", "(I)Z"⟩ : MethodName)) hown (hw _ (List.mem_of_getElem? (i := 24) rfl)) (hw _ (List.mem_of_getElem? (i := 25) rfl)) (notFace_of_selects (args := #[]) (mvT hZ (hw _ (List.mem_of_getElem? (i := 27) rfl)))) (hw _ (List.mem_of_getElem? (i := 27) rfl)) (hw _ (List.mem_of_getElem? (i := 26) rfl)) (hw _ (List.mem_of_getElem? (i := 10) rfl)) (hw _ (List.mem_of_getElem? (i := 28) rfl)) (by decide) (a := b78) E_b78 (argsL := [(.int cx)]) (rest := []) (c_con3 l Z a0 hw b78 cx T79.heap n0 Z79 b68 v12.toInt32 v13.toInt32 v14.toInt32 v15.toInt32 v16.toInt32 v17.toInt32 E_b78 F79_0 A_b68 ⟨hsrt.1, hsrt.2.1, hsrt.2.2.1, hsrt.2.2.2.1, hsrt.2.2.2.2.1⟩) pd_3 rfl (by rw [hml]; rfl) (W := 0) rfl (by decide) (by decide) (by decide) (by decide) (hb hby at_516) rfl ?_
              intro T80 v80 L80 X80 q80
              obtain ⟨rfl, M80, e80⟩ := q80
              have N80 := Fr.app N79 M80
              show Run p e below s _ _ _ (T80.setTop (mkF m 519 #[.val (.int p1), .val (.int p2), .val (.int p3), .val (.int p4), .val (.int p5), .val (.int (3 : Int32)), .val (.long v2), .second, .val (.long v3), .second, .val (.long v4), .second, .val (.long v5), .second, .val (.long v6), .second, .val (.long v7), .second, .val (.long v8), .second, .val (.long v9), .second, .val (.long v10), .second, .val (.long v12), .second, .val (.long v13), .second, .val (.long v14), .second, .val (.long v15), .second, .val (.long v16), .second, .val (.long v17), .second, .val (.long v18), .second, .val (.long v19), .second, .val (.ref b20), .val (.ref b68), .val (.int cx), .val (.int (0 : Int32)), .unset] [(.int (own_b (own_in cx v12.toInt32 v13.toInt32 ∨ own_in cx v14.toInt32 v15.toInt32 ∨ own_in cx v16.toInt32 v17.toInt32)))]))
              refine Run.x_istore (q := 521) X80 hx #[.val (.int p1), .val (.int p2), .val (.int p3), .val (.int p4), .val (.int p5), .val (.int (3 : Int32)), .val (.long v2), .second, .val (.long v3), .second, .val (.long v4), .second, .val (.long v5), .second, .val (.long v6), .second, .val (.long v7), .second, .val (.long v8), .second, .val (.long v9), .second, .val (.long v10), .second, .val (.long v12), .second, .val (.long v13), .second, .val (.long v14), .second, .val (.long v15), .second, .val (.long v16), .second, .val (.long v17), .second, .val (.long v18), .second, .val (.long v19), .second, .val (.ref b20), .val (.ref b68), .val (.int cx), .val (.int (0 : Int32)), .val (.int (own_b (own_in cx v12.toInt32 v13.toInt32 ∨ own_in cx v14.toInt32 v15.toInt32 ∨ own_in cx v16.toInt32 v17.toInt32)))] (hb hby at_519) rfl rfl ?_
              generalize hv81 : (own_b (own_in cx v12.toInt32 v13.toInt32 ∨ own_in cx v14.toInt32 v15.toInt32 ∨ own_in cx v16.toInt32 v17.toInt32)) = v81
              refine Run.x_iload (q := 523) X80 hx (hb hby at_521) rfl rfl ?_
              refine Run.x_iload (q := 525) X80 hx (hb hby at_523) rfl rfl ?_
              refine Run.x_icmpNo (q := 528) X80 hx (hb hby at_525) (teq (hv81.symm.trans (own_b0 (by simp only [own_b_no hc427, own_b_no hc449, own_b_no hc471, or_false, not_false_eq_true])))).2 rfl ?_
              refine Run.x_iconst (q := 529) X80 hx (hb hby at_528) (z := (1 : Int32)) rfl rfl ?_
              refine Run.x_goto (q := 533) X80 hx (hb hby at_529) (by decide) (by decide) ?_
              refine Run.retN X80 hx hlk e80 (t := .boolean) hret (by simp) (z' := (1 : Int32)) (by decide) (hb hby at_533) (by decide) (by decide) ?_
              exact ⟨rfl, N80⟩
            · skip
              refine Run.x_ifYes (q := 498) X77 hx (hb hby at_471) ((if0 _ _).trans (feq hc471).2) (by decide) (by decide) ?_
              refine Run.x_iconst (q := 499) X77 hx (hb hby at_498) (z := (1 : Int32)) rfl rfl ?_
              refine Run.x_goto (q := 503) X77 hx (hb hby at_499) (by decide) (by decide) ?_
              refine Run.x_istore (q := 505) X77 hx #[.val (.int p1), .val (.int p2), .val (.int p3), .val (.int p4), .val (.int p5), .val (.int (3 : Int32)), .val (.long v2), .second, .val (.long v3), .second, .val (.long v4), .second, .val (.long v5), .second, .val (.long v6), .second, .val (.long v7), .second, .val (.long v8), .second, .val (.long v9), .second, .val (.long v10), .second, .val (.long v12), .second, .val (.long v13), .second, .val (.long v14), .second, .val (.long v15), .second, .val (.long v16), .second, .val (.long v17), .second, .val (.long v18), .second, .val (.long v19), .second, .val (.ref b20), .val (.ref b68), .val (.int cx), .val (.int (1 : Int32)), .unset] (hb hby at_503) rfl rfl ?_
              obtain ⟨T82, h82, X82, e82, E82, A82, D82, -, st82⟩ := newO X77 hx hZ hown (hw _ (List.mem_of_getElem? (i := 8) rfl)) (hw _ (List.mem_of_getElem? (i := 9) rfl)) (hw _ (List.mem_of_getElem? (i := 10) rfl)) e77 (g := (mkF m 505 #[.val (.int p1), .val (.int p2), .val (.int p3), .val (.int p4), .val (.int p5), .val (.int (3 : Int32)), .val (.long v2), .second, .val (.long v3), .second, .val (.long v4), .second, .val (.long v5), .second, .val (.long v6), .second, .val (.long v7), .second, .val (.long v8), .second, .val (.long v9), .second, .val (.long v10), .second, .val (.long v12), .second, .val (.long v13), .second, .val (.long v14), .second, .val (.long v15), .second, .val (.long v16), .second, .val (.long v17), .second, .val (.long v18), .second, .val (.long v19), .second, .val (.ref b20), .val (.ref b68), .val (.int cx), .val (.int (1 : Int32)), .unset] [])) rfl (hb hby at_505) (by decide) (by decide)
              obtain ⟨b82, gg82⟩ : ∃ z, z = h74.size := ⟨_, rfl⟩
              rw [← gg82] at A82 D82 st82
              have g_b82 : n0 ≤ b82 := Nat.le_trans Z74 (Nat.le_of_eq gg82.symm)
              have ne_b20_b82 : b20 ≠ b82 := Nat.ne_of_lt (Nat.lt_of_lt_of_le A_b20.lt (Nat.le_of_eq gg82.symm))
              have ne_b68_b82 : b68 ≠ b82 := Nat.ne_of_lt (Nat.lt_of_lt_of_le A_b68.lt (Nat.le_of_eq gg82.symm))
              have Z82 : n0 ≤ h82.size := Nat.le_trans Z74 E82.1
              have E_b82 := A82
              have F_b82_bounds : Fld Z h82 b82 "com/example/corbel/corbel/core/regex/CharSet$Ranges" "bounds" "[I" .null := D82 (Or.inr (hw _ (List.mem_of_getElem? (i := 23) rfl))) (ty := (.array .int)) (by decide)
              refine Run.st st82 ?_
              show Run p e below s _ _ _ (T82.setTop (mkF m 508 #[.val (.int p1), .val (.int p2), .val (.int p3), .val (.int p4), .val (.int p5), .val (.int (3 : Int32)), .val (.long v2), .second, .val (.long v3), .second, .val (.long v4), .second, .val (.long v5), .second, .val (.long v6), .second, .val (.long v7), .second, .val (.long v8), .second, .val (.long v9), .second, .val (.long v10), .second, .val (.long v12), .second, .val (.long v13), .second, .val (.long v14), .second, .val (.long v15), .second, .val (.long v16), .second, .val (.long v17), .second, .val (.long v18), .second, .val (.long v19), .second, .val (.ref b20), .val (.ref b68), .val (.int cx), .val (.int (1 : Int32)), .unset] [(.ref b82)]))
              refine Run.x_dup (q := 509) X82 hx (hb hby at_508) rfl rfl ?_
              refine Run.x_aload (q := 511) X82 hx (hb hby at_509) rfl rfl rfl ?_
              refine Run.callC X82 hx hZ e82 (y := (⟨"com/example/corbel/corbel/core/regex/CharSet$Ranges", "<init>", "([I)V"⟩ : MethodName)) hown rfl (hw _ (List.mem_of_getElem? (i := 11) rfl)) (hw _ (List.mem_of_getElem? (i := 12) rfl)) (hw _ (List.mem_of_getElem? (i := 10) rfl)) (hw _ (List.mem_of_getElem? (i := 13) rfl)) (by decide) (a := b82) (argsL := [(.ref b68)]) (rest := [(.ref b82)]) (c_init l Z a0 hw b82 b68 h82 n0 Z82 E_b82 F_b82_bounds g_b82) pd_2 rfl (by rw [hml]; rfl) (W := 1) rfl (by decide) (by decide) (by decide) (by decide) (hb hby at_511) rfl ?_
              intro T83 v83 L83 X83 q83
              obtain ⟨rfl, M83, K83, E83, F83_0⟩ := q83
              have N83 := Fr.app N77 M83
              show Run p e below s _ _ _ (T83.setTop (mkF m 514 #[.val (.int p1), .val (.int p2), .val (.int p3), .val (.int p4), .val (.int p5), .val (.int (3 : Int32)), .val (.long v2), .second, .val (.long v3), .second, .val (.long v4), .second, .val (.long v5), .second, .val (.long v6), .second, .val (.long v7), .second, .val (.long v8), .second, .val (.long v9), .second, .val (.long v10), .second, .val (.long v12), .second, .val (.long v13), .second, .val (.long v14), .second, .val (.long v15), .second, .val (.long v16), .second, .val (.long v17), .second, .val (.long v18), .second, .val (.long v19), .second, .val (.ref b20), .val (.ref b68), .val (.int cx), .val (.int (1 : Int32)), .unset] [(.ref b82)]))
              have Z83 : n0 ≤ T83.heap.size := Nat.le_trans Z82 K83.1
              refine Run.x_iload (q := 516) X83 hx (hb hby at_514) rfl rfl ?_
              replace E_b82 := E_b82.keep K83
              replace A_b68 := (A_b68.ext E82).keep K83 (ninS ne_b68_b82 nin0)
              refine Run.callV X83 hx hZ rfl (y := (⟨"com/example/corbel/corbel/core/regex/CharSet$Ranges", "contains", "(I)Z"⟩ : MethodName)) (z := (⟨"com/example/corbel/corbel/core/regex/CharSet$Ranges", "contains", "(I)Z"⟩ : MethodName)) hown (hw _ (List.mem_of_getElem? (i := 24) rfl)) (hw _ (List.mem_of_getElem? (i := 25) rfl)) (notFace_of_selects (args := #[]) (mvT hZ (hw _ (List.mem_of_getElem? (i := 27) rfl)))) (hw _ (List.mem_of_getElem? (i := 27) rfl)) (hw _ (List.mem_of_getElem? (i := 26) rfl)) (hw _ (List.mem_of_getElem? (i := 10) rfl)) (hw _ (List.mem_of_getElem? (i := 28) rfl)) (by decide) (a := b82) E_b82 (argsL := [(.int cx)]) (rest := []) (c_con3 l Z a0 hw b82 cx T83.heap n0 Z83 b68 v12.toInt32 v13.toInt32 v14.toInt32 v15.toInt32 v16.toInt32 v17.toInt32 E_b82 F83_0 A_b68 ⟨hsrt.1, hsrt.2.1, hsrt.2.2.1, hsrt.2.2.2.1, hsrt.2.2.2.2.1⟩) pd_3 rfl (by rw [hml]; rfl) (W := 0) rfl (by decide) (by decide) (by decide) (by decide) (hb hby at_516) rfl ?_
              intro T84 v84 L84 X84 q84
              obtain ⟨rfl, M84, e84⟩ := q84
              have N84 := Fr.app N83 M84
              show Run p e below s _ _ _ (T84.setTop (mkF m 519 #[.val (.int p1), .val (.int p2), .val (.int p3), .val (.int p4), .val (.int p5), .val (.int (3 : Int32)), .val (.long v2), .second, .val (.long v3), .second, .val (.long v4), .second, .val (.long v5), .second, .val (.long v6), .second, .val (.long v7), .second, .val (.long v8), .second, .val (.long v9), .second, .val (.long v10), .second, .val (.long v12), .second, .val (.long v13), .second, .val (.long v14), .second, .val (.long v15), .second, .val (.long v16), .second, .val (.long v17), .second, .val (.long v18), .second, .val (.long v19), .second, .val (.ref b20), .val (.ref b68), .val (.int cx), .val (.int (1 : Int32)), .unset] [(.int (own_b (own_in cx v12.toInt32 v13.toInt32 ∨ own_in cx v14.toInt32 v15.toInt32 ∨ own_in cx v16.toInt32 v17.toInt32)))]))
              refine Run.x_istore (q := 521) X84 hx #[.val (.int p1), .val (.int p2), .val (.int p3), .val (.int p4), .val (.int p5), .val (.int (3 : Int32)), .val (.long v2), .second, .val (.long v3), .second, .val (.long v4), .second, .val (.long v5), .second, .val (.long v6), .second, .val (.long v7), .second, .val (.long v8), .second, .val (.long v9), .second, .val (.long v10), .second, .val (.long v12), .second, .val (.long v13), .second, .val (.long v14), .second, .val (.long v15), .second, .val (.long v16), .second, .val (.long v17), .second, .val (.long v18), .second, .val (.long v19), .second, .val (.ref b20), .val (.ref b68), .val (.int cx), .val (.int (1 : Int32)), .val (.int (own_b (own_in cx v12.toInt32 v13.toInt32 ∨ own_in cx v14.toInt32 v15.toInt32 ∨ own_in cx v16.toInt32 v17.toInt32)))] (hb hby at_519) rfl rfl ?_
              generalize hv85 : (own_b (own_in cx v12.toInt32 v13.toInt32 ∨ own_in cx v14.toInt32 v15.toInt32 ∨ own_in cx v16.toInt32 v17.toInt32)) = v85
              refine Run.x_iload (q := 523) X84 hx (hb hby at_521) rfl rfl ?_
              refine Run.x_iload (q := 525) X84 hx (hb hby at_523) rfl rfl ?_
              refine Run.x_icmpNo (q := 528) X84 hx (hb hby at_525) (teq (hv85.symm.trans (own_b1 (Or.inr (Or.inr (own_b_yes hc471)))))).2 rfl ?_
              refine Run.x_iconst (q := 529) X84 hx (hb hby at_528) (z := (1 : Int32)) rfl rfl ?_
              refine Run.x_goto (q := 533) X84 hx (hb hby at_529) (by decide) (by decide) ?_
              refine Run.retN X84 hx hlk e84 (t := .boolean) hret (by simp) (z' := (1 : Int32)) (by decide) (hb hby at_533) (by decide) (by decide) ?_
              exact ⟨rfl, N84⟩
          · skip
            refine Run.x_ifYes (q := 498) X76 hx (hb hby at_449) ((if0 _ _).trans (feq hc449).2) (by decide) (by decide) ?_
            refine Run.x_iconst (q := 499) X76 hx (hb hby at_498) (z := (1 : Int32)) rfl rfl ?_
            refine Run.x_goto (q := 503) X76 hx (hb hby at_499) (by decide) (by decide) ?_
            refine Run.x_istore (q := 505) X76 hx #[.val (.int p1), .val (.int p2), .val (.int p3), .val (.int p4), .val (.int p5), .val (.int (3 : Int32)), .val (.long v2), .second, .val (.long v3), .second, .val (.long v4), .second, .val (.long v5), .second, .val (.long v6), .second, .val (.long v7), .second, .val (.long v8), .second, .val (.long v9), .second, .val (.long v10), .second, .val (.long v12), .second, .val (.long v13), .second, .val (.long v14), .second, .val (.long v15), .second, .val (.long v16), .second, .val (.long v17), .second, .val (.long v18), .second, .val (.long v19), .second, .val (.ref b20), .val (.ref b68), .val (.int cx), .val (.int (1 : Int32)), .unset] (hb hby at_503) rfl rfl ?_
            obtain ⟨T86, h86, X86, e86, E86, A86, D86, -, st86⟩ := newO X76 hx hZ hown (hw _ (List.mem_of_getElem? (i := 8) rfl)) (hw _ (List.mem_of_getElem? (i := 9) rfl)) (hw _ (List.mem_of_getElem? (i := 10) rfl)) e76 (g := (mkF m 505 #[.val (.int p1), .val (.int p2), .val (.int p3), .val (.int p4), .val (.int p5), .val (.int (3 : Int32)), .val (.long v2), .second, .val (.long v3), .second, .val (.long v4), .second, .val (.long v5), .second, .val (.long v6), .second, .val (.long v7), .second, .val (.long v8), .second, .val (.long v9), .second, .val (.long v10), .second, .val (.long v12), .second, .val (.long v13), .second, .val (.long v14), .second, .val (.long v15), .second, .val (.long v16), .second, .val (.long v17), .second, .val (.long v18), .second, .val (.long v19), .second, .val (.ref b20), .val (.ref b68), .val (.int cx), .val (.int (1 : Int32)), .unset] [])) rfl (hb hby at_505) (by decide) (by decide)
            obtain ⟨b86, gg86⟩ : ∃ z, z = h74.size := ⟨_, rfl⟩
            rw [← gg86] at A86 D86 st86
            have g_b86 : n0 ≤ b86 := Nat.le_trans Z74 (Nat.le_of_eq gg86.symm)
            have ne_b20_b86 : b20 ≠ b86 := Nat.ne_of_lt (Nat.lt_of_lt_of_le A_b20.lt (Nat.le_of_eq gg86.symm))
            have ne_b68_b86 : b68 ≠ b86 := Nat.ne_of_lt (Nat.lt_of_lt_of_le A_b68.lt (Nat.le_of_eq gg86.symm))
            have Z86 : n0 ≤ h86.size := Nat.le_trans Z74 E86.1
            have E_b86 := A86
            have F_b86_bounds : Fld Z h86 b86 "com/example/corbel/corbel/core/regex/CharSet$Ranges" "bounds" "[I" .null := D86 (Or.inr (hw _ (List.mem_of_getElem? (i := 23) rfl))) (ty := (.array .int)) (by decide)
            refine Run.st st86 ?_
            show Run p e below s _ _ _ (T86.setTop (mkF m 508 #[.val (.int p1), .val (.int p2), .val (.int p3), .val (.int p4), .val (.int p5), .val (.int (3 : Int32)), .val (.long v2), .second, .val (.long v3), .second, .val (.long v4), .second, .val (.long v5), .second, .val (.long v6), .second, .val (.long v7), .second, .val (.long v8), .second, .val (.long v9), .second, .val (.long v10), .second, .val (.long v12), .second, .val (.long v13), .second, .val (.long v14), .second, .val (.long v15), .second, .val (.long v16), .second, .val (.long v17), .second, .val (.long v18), .second, .val (.long v19), .second, .val (.ref b20), .val (.ref b68), .val (.int cx), .val (.int (1 : Int32)), .unset] [(.ref b86)]))
            refine Run.x_dup (q := 509) X86 hx (hb hby at_508) rfl rfl ?_
            refine Run.x_aload (q := 511) X86 hx (hb hby at_509) rfl rfl rfl ?_
            refine Run.callC X86 hx hZ e86 (y := (⟨"com/example/corbel/corbel/core/regex/CharSet$Ranges", "<init>", "([I)V"⟩ : MethodName)) hown rfl (hw _ (List.mem_of_getElem? (i := 11) rfl)) (hw _ (List.mem_of_getElem? (i := 12) rfl)) (hw _ (List.mem_of_getElem? (i := 10) rfl)) (hw _ (List.mem_of_getElem? (i := 13) rfl)) (by decide) (a := b86) (argsL := [(.ref b68)]) (rest := [(.ref b86)]) (c_init l Z a0 hw b86 b68 h86 n0 Z86 E_b86 F_b86_bounds g_b86) pd_2 rfl (by rw [hml]; rfl) (W := 1) rfl (by decide) (by decide) (by decide) (by decide) (hb hby at_511) rfl ?_
            intro T87 v87 L87 X87 q87
            obtain ⟨rfl, M87, K87, E87, F87_0⟩ := q87
            have N87 := Fr.app N76 M87
            show Run p e below s _ _ _ (T87.setTop (mkF m 514 #[.val (.int p1), .val (.int p2), .val (.int p3), .val (.int p4), .val (.int p5), .val (.int (3 : Int32)), .val (.long v2), .second, .val (.long v3), .second, .val (.long v4), .second, .val (.long v5), .second, .val (.long v6), .second, .val (.long v7), .second, .val (.long v8), .second, .val (.long v9), .second, .val (.long v10), .second, .val (.long v12), .second, .val (.long v13), .second, .val (.long v14), .second, .val (.long v15), .second, .val (.long v16), .second, .val (.long v17), .second, .val (.long v18), .second, .val (.long v19), .second, .val (.ref b20), .val (.ref b68), .val (.int cx), .val (.int (1 : Int32)), .unset] [(.ref b86)]))
            have Z87 : n0 ≤ T87.heap.size := Nat.le_trans Z86 K87.1
            refine Run.x_iload (q := 516) X87 hx (hb hby at_514) rfl rfl ?_
            replace E_b86 := E_b86.keep K87
            replace A_b68 := (A_b68.ext E86).keep K87 (ninS ne_b68_b86 nin0)
            refine Run.callV X87 hx hZ rfl (y := (⟨"com/example/corbel/corbel/core/regex/CharSet$Ranges", "contains", "(I)Z"⟩ : MethodName)) (z := (⟨"com/example/corbel/corbel/core/regex/CharSet$Ranges", "contains", "(I)Z"⟩ : MethodName)) hown (hw _ (List.mem_of_getElem? (i := 24) rfl)) (hw _ (List.mem_of_getElem? (i := 25) rfl)) (notFace_of_selects (args := #[]) (mvT hZ (hw _ (List.mem_of_getElem? (i := 27) rfl)))) (hw _ (List.mem_of_getElem? (i := 27) rfl)) (hw _ (List.mem_of_getElem? (i := 26) rfl)) (hw _ (List.mem_of_getElem? (i := 10) rfl)) (hw _ (List.mem_of_getElem? (i := 28) rfl)) (by decide) (a := b86) E_b86 (argsL := [(.int cx)]) (rest := []) (c_con3 l Z a0 hw b86 cx T87.heap n0 Z87 b68 v12.toInt32 v13.toInt32 v14.toInt32 v15.toInt32 v16.toInt32 v17.toInt32 E_b86 F87_0 A_b68 ⟨hsrt.1, hsrt.2.1, hsrt.2.2.1, hsrt.2.2.2.1, hsrt.2.2.2.2.1⟩) pd_3 rfl (by rw [hml]; rfl) (W := 0) rfl (by decide) (by decide) (by decide) (by decide) (hb hby at_516) rfl ?_
            intro T88 v88 L88 X88 q88
            obtain ⟨rfl, M88, e88⟩ := q88
            have N88 := Fr.app N87 M88
            show Run p e below s _ _ _ (T88.setTop (mkF m 519 #[.val (.int p1), .val (.int p2), .val (.int p3), .val (.int p4), .val (.int p5), .val (.int (3 : Int32)), .val (.long v2), .second, .val (.long v3), .second, .val (.long v4), .second, .val (.long v5), .second, .val (.long v6), .second, .val (.long v7), .second, .val (.long v8), .second, .val (.long v9), .second, .val (.long v10), .second, .val (.long v12), .second, .val (.long v13), .second, .val (.long v14), .second, .val (.long v15), .second, .val (.long v16), .second, .val (.long v17), .second, .val (.long v18), .second, .val (.long v19), .second, .val (.ref b20), .val (.ref b68), .val (.int cx), .val (.int (1 : Int32)), .unset] [(.int (own_b (own_in cx v12.toInt32 v13.toInt32 ∨ own_in cx v14.toInt32 v15.toInt32 ∨ own_in cx v16.toInt32 v17.toInt32)))]))
            refine Run.x_istore (q := 521) X88 hx #[.val (.int p1), .val (.int p2), .val (.int p3), .val (.int p4), .val (.int p5), .val (.int (3 : Int32)), .val (.long v2), .second, .val (.long v3), .second, .val (.long v4), .second, .val (.long v5), .second, .val (.long v6), .second, .val (.long v7), .second, .val (.long v8), .second, .val (.long v9), .second, .val (.long v10), .second, .val (.long v12), .second, .val (.long v13), .second, .val (.long v14), .second, .val (.long v15), .second, .val (.long v16), .second, .val (.long v17), .second, .val (.long v18), .second, .val (.long v19), .second, .val (.ref b20), .val (.ref b68), .val (.int cx), .val (.int (1 : Int32)), .val (.int (own_b (own_in cx v12.toInt32 v13.toInt32 ∨ own_in cx v14.toInt32 v15.toInt32 ∨ own_in cx v16.toInt32 v17.toInt32)))] (hb hby at_519) rfl rfl ?_
            generalize hv89 : (own_b (own_in cx v12.toInt32 v13.toInt32 ∨ own_in cx v14.toInt32 v15.toInt32 ∨ own_in cx v16.toInt32 v17.toInt32)) = v89
            refine Run.x_iload (q := 523) X88 hx (hb hby at_521) rfl rfl ?_
            refine Run.x_iload (q := 525) X88 hx (hb hby at_523) rfl rfl ?_
            refine Run.x_icmpNo (q := 528) X88 hx (hb hby at_525) (teq (hv89.symm.trans (own_b1 (Or.inr (Or.inl (own_b_yes hc449)))))).2 rfl ?_
            refine Run.x_iconst (q := 529) X88 hx (hb hby at_528) (z := (1 : Int32)) rfl rfl ?_
            refine Run.x_goto (q := 533) X88 hx (hb hby at_529) (by decide) (by decide) ?_
            refine Run.retN X88 hx hlk e88 (t := .boolean) hret (by simp) (z' := (1 : Int32)) (by decide) (hb hby at_533) (by decide) (by decide) ?_
            exact ⟨rfl, N88⟩
        · skip
          refine Run.x_ifYes (q := 498) X75 hx (hb hby at_427) ((if0 _ _).trans (feq hc427).2) (by decide) (by decide) ?_
          refine Run.x_iconst (q := 499) X75 hx (hb hby at_498) (z := (1 : Int32)) rfl rfl ?_
          refine Run.x_goto (q := 503) X75 hx (hb hby at_499) (by decide) (by decide) ?_
          refine Run.x_istore (q := 505) X75 hx #[.val (.int p1), .val (.int p2), .val (.int p3), .val (.int p4), .val (.int p5), .val (.int (3 : Int32)), .val (.long v2), .second, .val (.long v3), .second, .val (.long v4), .second, .val (.long v5), .second, .val (.long v6), .second, .val (.long v7), .second, .val (.long v8), .second, .val (.long v9), .second, .val (.long v10), .second, .val (.long v12), .second, .val (.long v13), .second, .val (.long v14), .second, .val (.long v15), .second, .val (.long v16), .second, .val (.long v17), .second, .val (.long v18), .second, .val (.long v19), .second, .val (.ref b20), .val (.ref b68), .val (.int cx), .val (.int (1 : Int32)), .unset] (hb hby at_503) rfl rfl ?_
          obtain ⟨T90, h90, X90, e90, E90, A90, D90, -, st90⟩ := newO X75 hx hZ hown (hw _ (List.mem_of_getElem? (i := 8) rfl)) (hw _ (List.mem_of_getElem? (i := 9) rfl)) (hw _ (List.mem_of_getElem? (i := 10) rfl)) e75 (g := (mkF m 505 #[.val (.int p1), .val (.int p2), .val (.int p3), .val (.int p4), .val (.int p5), .val (.int (3 : Int32)), .val (.long v2), .second, .val (.long v3), .second, .val (.long v4), .second, .val (.long v5), .second, .val (.long v6), .second, .val (.long v7), .second, .val (.long v8), .second, .val (.long v9), .second, .val (.long v10), .second, .val (.long v12), .second, .val (.long v13), .second, .val (.long v14), .second, .val (.long v15), .second, .val (.long v16), .second, .val (.long v17), .second, .val (.long v18), .second, .val (.long v19), .second, .val (.ref b20), .val (.ref b68), .val (.int cx), .val (.int (1 : Int32)), .unset] [])) rfl (hb hby at_505) (by decide) (by decide)
          obtain ⟨b90, gg90⟩ : ∃ z, z = h74.size := ⟨_, rfl⟩
          rw [← gg90] at A90 D90 st90
          have g_b90 : n0 ≤ b90 := Nat.le_trans Z74 (Nat.le_of_eq gg90.symm)
          have ne_b20_b90 : b20 ≠ b90 := Nat.ne_of_lt (Nat.lt_of_lt_of_le A_b20.lt (Nat.le_of_eq gg90.symm))
          have ne_b68_b90 : b68 ≠ b90 := Nat.ne_of_lt (Nat.lt_of_lt_of_le A_b68.lt (Nat.le_of_eq gg90.symm))
          have Z90 : n0 ≤ h90.size := Nat.le_trans Z74 E90.1
          have E_b90 := A90
          have F_b90_bounds : Fld Z h90 b90 "com/example/corbel/corbel/core/regex/CharSet$Ranges" "bounds" "[I" .null := D90 (Or.inr (hw _ (List.mem_of_getElem? (i := 23) rfl))) (ty := (.array .int)) (by decide)
          refine Run.st st90 ?_
          show Run p e below s _ _ _ (T90.setTop (mkF m 508 #[.val (.int p1), .val (.int p2), .val (.int p3), .val (.int p4), .val (.int p5), .val (.int (3 : Int32)), .val (.long v2), .second, .val (.long v3), .second, .val (.long v4), .second, .val (.long v5), .second, .val (.long v6), .second, .val (.long v7), .second, .val (.long v8), .second, .val (.long v9), .second, .val (.long v10), .second, .val (.long v12), .second, .val (.long v13), .second, .val (.long v14), .second, .val (.long v15), .second, .val (.long v16), .second, .val (.long v17), .second, .val (.long v18), .second, .val (.long v19), .second, .val (.ref b20), .val (.ref b68), .val (.int cx), .val (.int (1 : Int32)), .unset] [(.ref b90)]))
          refine Run.x_dup (q := 509) X90 hx (hb hby at_508) rfl rfl ?_
          refine Run.x_aload (q := 511) X90 hx (hb hby at_509) rfl rfl rfl ?_
          refine Run.callC X90 hx hZ e90 (y := (⟨"com/example/corbel/corbel/core/regex/CharSet$Ranges", "<init>", "([I)V"⟩ : MethodName)) hown rfl (hw _ (List.mem_of_getElem? (i := 11) rfl)) (hw _ (List.mem_of_getElem? (i := 12) rfl)) (hw _ (List.mem_of_getElem? (i := 10) rfl)) (hw _ (List.mem_of_getElem? (i := 13) rfl)) (by decide) (a := b90) (argsL := [(.ref b68)]) (rest := [(.ref b90)]) (c_init l Z a0 hw b90 b68 h90 n0 Z90 E_b90 F_b90_bounds g_b90) pd_2 rfl (by rw [hml]; rfl) (W := 1) rfl (by decide) (by decide) (by decide) (by decide) (hb hby at_511) rfl ?_
          intro T91 v91 L91 X91 q91
          obtain ⟨rfl, M91, K91, E91, F91_0⟩ := q91
          have N91 := Fr.app N75 M91
          show Run p e below s _ _ _ (T91.setTop (mkF m 514 #[.val (.int p1), .val (.int p2), .val (.int p3), .val (.int p4), .val (.int p5), .val (.int (3 : Int32)), .val (.long v2), .second, .val (.long v3), .second, .val (.long v4), .second, .val (.long v5), .second, .val (.long v6), .second, .val (.long v7), .second, .val (.long v8), .second, .val (.long v9), .second, .val (.long v10), .second, .val (.long v12), .second, .val (.long v13), .second, .val (.long v14), .second, .val (.long v15), .second, .val (.long v16), .second, .val (.long v17), .second, .val (.long v18), .second, .val (.long v19), .second, .val (.ref b20), .val (.ref b68), .val (.int cx), .val (.int (1 : Int32)), .unset] [(.ref b90)]))
          have Z91 : n0 ≤ T91.heap.size := Nat.le_trans Z90 K91.1
          refine Run.x_iload (q := 516) X91 hx (hb hby at_514) rfl rfl ?_
          replace E_b90 := E_b90.keep K91
          replace A_b68 := (A_b68.ext E90).keep K91 (ninS ne_b68_b90 nin0)
          refine Run.callV X91 hx hZ rfl (y := (⟨"com/example/corbel/corbel/core/regex/CharSet$Ranges", "contains", "(I)Z"⟩ : MethodName)) (z := (⟨"com/example/corbel/corbel/core/regex/CharSet$Ranges", "contains", "(I)Z"⟩ : MethodName)) hown (hw _ (List.mem_of_getElem? (i := 24) rfl)) (hw _ (List.mem_of_getElem? (i := 25) rfl)) (notFace_of_selects (args := #[]) (mvT hZ (hw _ (List.mem_of_getElem? (i := 27) rfl)))) (hw _ (List.mem_of_getElem? (i := 27) rfl)) (hw _ (List.mem_of_getElem? (i := 26) rfl)) (hw _ (List.mem_of_getElem? (i := 10) rfl)) (hw _ (List.mem_of_getElem? (i := 28) rfl)) (by decide) (a := b90) E_b90 (argsL := [(.int cx)]) (rest := []) (c_con3 l Z a0 hw b90 cx T91.heap n0 Z91 b68 v12.toInt32 v13.toInt32 v14.toInt32 v15.toInt32 v16.toInt32 v17.toInt32 E_b90 F91_0 A_b68 ⟨hsrt.1, hsrt.2.1, hsrt.2.2.1, hsrt.2.2.2.1, hsrt.2.2.2.2.1⟩) pd_3 rfl (by rw [hml]; rfl) (W := 0) rfl (by decide) (by decide) (by decide) (by decide) (hb hby at_516) rfl ?_
          intro T92 v92 L92 X92 q92
          obtain ⟨rfl, M92, e92⟩ := q92
          have N92 := Fr.app N91 M92
          show Run p e below s _ _ _ (T92.setTop (mkF m 519 #[.val (.int p1), .val (.int p2), .val (.int p3), .val (.int p4), .val (.int p5), .val (.int (3 : Int32)), .val (.long v2), .second, .val (.long v3), .second, .val (.long v4), .second, .val (.long v5), .second, .val (.long v6), .second, .val (.long v7), .second, .val (.long v8), .second, .val (.long v9), .second, .val (.long v10), .second, .val (.long v12), .second, .val (.long v13), .second, .val (.long v14), .second, .val (.long v15), .second, .val (.long v16), .second, .val (.long v17), .second, .val (.long v18), .second, .val (.long v19), .second, .val (.ref b20), .val (.ref b68), .val (.int cx), .val (.int (1 : Int32)), .unset] [(.int (own_b (own_in cx v12.toInt32 v13.toInt32 ∨ own_in cx v14.toInt32 v15.toInt32 ∨ own_in cx v16.toInt32 v17.toInt32)))]))
          refine Run.x_istore (q := 521) X92 hx #[.val (.int p1), .val (.int p2), .val (.int p3), .val (.int p4), .val (.int p5), .val (.int (3 : Int32)), .val (.long v2), .second, .val (.long v3), .second, .val (.long v4), .second, .val (.long v5), .second, .val (.long v6), .second, .val (.long v7), .second, .val (.long v8), .second, .val (.long v9), .second, .val (.long v10), .second, .val (.long v12), .second, .val (.long v13), .second, .val (.long v14), .second, .val (.long v15), .second, .val (.long v16), .second, .val (.long v17), .second, .val (.long v18), .second, .val (.long v19), .second, .val (.ref b20), .val (.ref b68), .val (.int cx), .val (.int (1 : Int32)), .val (.int (own_b (own_in cx v12.toInt32 v13.toInt32 ∨ own_in cx v14.toInt32 v15.toInt32 ∨ own_in cx v16.toInt32 v17.toInt32)))] (hb hby at_519) rfl rfl ?_
          generalize hv93 : (own_b (own_in cx v12.toInt32 v13.toInt32 ∨ own_in cx v14.toInt32 v15.toInt32 ∨ own_in cx v16.toInt32 v17.toInt32)) = v93
          refine Run.x_iload (q := 523) X92 hx (hb hby at_521) rfl rfl ?_
          refine Run.x_iload (q := 525) X92 hx (hb hby at_523) rfl rfl ?_
          refine Run.x_icmpNo (q := 528) X92 hx (hb hby at_525) (teq (hv93.symm.trans (own_b1 (Or.inl (own_b_yes hc427))))).2 rfl ?_
          refine Run.x_iconst (q := 529) X92 hx (hb hby at_528) (z := (1 : Int32)) rfl rfl ?_
          refine Run.x_goto (q := 533) X92 hx (hb hby at_529) (by decide) (by decide) ?_
          refine Run.retN X92 hx hlk e92 (t := .boolean) hret (by simp) (z' := (1 : Int32)) (by decide) (hb hby at_533) (by decide) (by decide) ?_
          exact ⟨rfl, N92⟩
      refine Run.x_iload (q := 383) X74 hx (hb hby at_381) rfl rfl ?_
      refine Run.x_bipush (q := 385) X74 hx (hb hby at_383) (z := (7 : Int32)) rfl rfl ?_
      refine Run.x_iushr (q := 386) X74 hx (hb hby at_385) rfl rfl ?_
      refine Run.x_iconst (q := 387) X74 hx (hb hby at_386) (z := (2 : Int32)) rfl rfl ?_
      refine Run.x_iand (q := 388) X74 hx (hb hby at_387) rfl rfl ?_
      by_cases hc388 : (((p5.toUInt32 >>> ((7 : Int32) &&& 31).toUInt32).toInt32) &&& (2 : Int32)) = (0 : Int32)
      · skip
        refine Run.x_ifYes (q := 408) X74 hx (hb hby at_388) ((if0 _ _).trans (teq hc388).1) (by decide) (by decide) ?_
        exact J408 _
      · skip
        refine Run.x_ifNo (q := 391) X74 hx (hb hby at_388) ((if0 _ _).trans (feq hc388).1) rfl ?_
        refine Run.x_aload (q := 393) X74 hx (hb hby at_391) rfl rfl rfl ?_
        refine Run.x_iloadN (q := 394) X74 hx (hb hby at_393) rfl rfl ?_
        refine Run.x_iconst (q := 395) X74 hx (hb hby at_394) (z := (2 : Int32)) rfl rfl ?_
        refine Run.x_iushr (q := 396) X74 hx (hb hby at_395) rfl rfl ?_
        refine Run.x_bipush (q := 398) X74 hx (hb hby at_396) (z := (7 : Int32)) rfl rfl ?_
        refine Run.x_iand (q := 399) X74 hx (hb hby at_398) rfl rfl ?_
        replace A_b20 := A_b20.other W74 ne_b20_b68
        obtain ⟨ix, hix, hlt⟩ := own_idx ((p1.toUInt32 >>> ((2 : Int32) &&& 31).toUInt32).toInt32)
        obtain ⟨xv, hxv⟩ := ints_at [v12.toInt32, v13.toInt32, v14.toInt32, v15.toInt32, v16.toInt32, v17.toInt32, v18.toInt32, v19.toInt32] (i := ix) hlt
        refine Run.ldI X74 hx hZ e74 A_b20 (i := ix) (v := (.int xv)) hix hxv (hb hby at_399) ?_
        show Run p e below s _ _ _ (T74.setTop (mkF m 400 #[.val (.int p1), .val (.int p2), .val (.int p3), .val (.int p4), .val (.int p5), .val (.int (3 : Int32)), .val (.long v2), .second, .val (.long v3), .second, .val (.long v4), .second, .val (.long v5), .second, .val (.long v6), .second, .val (.long v7), .second, .val (.long v8), .second, .val (.long v9), .second, .val (.long v10), .second, .val (.long v12), .second, .val (.long v13), .second, .val (.long v14), .second, .val (.long v15), .second, .val (.long v16), .second, .val (.long v17), .second, .val (.long v18), .second, .val (.long v19), .second, .val (.ref b20), .val (.ref b68), .val (.int p1), .unset, .unset] [(.int xv)]))
        refine Run.x_iloadN (q := 401) X74 hx (hb hby at_400) rfl rfl ?_
        refine Run.x_iconst (q := 402) X74 hx (hb hby at_401) (z := (3 : Int32)) rfl rfl ?_
        refine Run.x_iand (q := 403) X74 hx (hb hby at_402) rfl rfl ?_
        refine Run.x_iadd (q := 404) X74 hx (hb hby at_403) rfl rfl ?_
        refine Run.x_iconst (q := 405) X74 hx (hb hby at_404) (z := (1 : Int32)) rfl rfl ?_
        refine Run.x_isub (q := 406) X74 hx (hb hby at_405) rfl rfl ?_
        refine Run.x_istore (q := 408) X74 hx #[.val (.int p1), .val (.int p2), .val (.int p3), .val (.int p4), .val (.int p5), .val (.int (3 : Int32)), .val (.long v2), .second, .val (.long v3), .second, .val (.long v4), .second, .val (.long v5), .second, .val (.long v6), .second, .val (.long v7), .second, .val (.long v8), .second, .val (.long v9), .second, .val (.long v10), .second, .val (.long v12), .second, .val (.long v13), .second, .val (.long v14), .second, .val (.long v15), .second, .val (.long v16), .second, .val (.long v17), .second, .val (.long v18), .second, .val (.long v19), .second, .val (.ref b20), .val (.ref b68), .val (.int ((xv + (p1 &&& (3 : Int32))) - (1 : Int32))), .unset, .unset] (hb hby at_406) rfl rfl ?_
        generalize hv94 : ((xv + (p1 &&& (3 : Int32))) - (1 : Int32)) = v94
        exact J408 _
    · skip
      show Run p e below s _ _ _ (T28.setTop (mkF m 278 #[.val (.int p1), .val (.int p2), .val (.int p3), .val (.int p4), .val (.int p5), .val (.int (4 : Int32)), .val (.long v2), .second, .val (.long v3), .second, .val (.long v4), .second, .val (.long v5), .second, .val (.long v6), .second, .val (.long v7), .second, .val (.long v8), .second, .val (.long v9), .second, .val (.long v10), .second, .val (.long v12), .second, .val (.long v13), .second, .val (.long v14), .second, .val (.long v15), .second, .val (.long v16), .second, .val (.long v17), .second, .val (.long v18), .second, .val (.long v19), .second, .val (.ref b20), .unset, .unset, .unset, .unset] []))
      refine Run.x_iconst (q := 279) X28 hx (hb hby at_278) (z := (2 : Int32)) rfl rfl ?_
      refine Run.x_iload (q := 281) X28 hx (hb hby at_279) rfl rfl ?_
      refine Run.x_imul (q := 282) X28 hx (hb hby at_281) (z := (8 : Int32)) (by decide) rfl ?_
      refine Run.newP X28 hx hZ e28 (hw _ (List.mem_of_getElem? (i := 7) rfl)) (hb hby at_282) (len := 8) (by decide) (by decide) (cap := 8) (by decide) (by decide) (by decide) (by decide) ?_
      intro T95 h95 b95 gg95 X95 e95 E95 A_b95
      have g_b95 : n0 ≤ b95 := Nat.le_trans Z28 (Nat.le_of_eq gg95.symm)
      have ne_b20_b95 : b20 ≠ b95 := Nat.ne_of_lt (Nat.lt_of_lt_of_le A_b20.lt (Nat.le_of_eq gg95.symm))
      have Z95 : n0 ≤ h95.size := Nat.le_trans Z28 E95.1
      replace A_b95 : Ars Z h95 b95 .int [(.int (0 : Int32)), (.int (0 : Int32)), (.int (0 : Int32)), (.int (0 : Int32)), (.int (0 : Int32)), (.int (0 : Int32)), (.int (0 : Int32)), (.int (0 : Int32))] := A_b95
      show Run p e below s _ _ _ (T95.setTop (mkF m 284 #[.val (.int p1), .val (.int p2), .val (.int p3), .val (.int p4), .val (.int p5), .val (.int (4 : Int32)), .val (.long v2), .second, .val (.long v3), .second, .val (.long v4), .second, .val (.long v5), .second, .val (.long v6), .second, .val (.long v7), .second, .val (.long v8), .second, .val (.long v9), .second, .val (.long v10), .second, .val (.long v12), .second, .val (.long v13), .second, .val (.long v14), .second, .val (.long v15), .second, .val (.long v16), .second, .val (.long v17), .second, .val (.long v18), .second, .val (.long v19), .second, .val (.ref b20), .unset, .unset, .unset, .unset] [(.ref b95)]))
      refine Run.x_astore (q := 286) X95 hx #[.val (.int p1), .val (.int p2), .val (.int p3), .val (.int p4), .val (.int p5), .val (.int (4 : Int32)), .val (.long v2), .second, .val (.long v3), .second, .val (.long v4), .second, .val (.long v5), .second, .val (.long v6), .second, .val (.long v7), .second, .val (.long v8), .second, .val (.long v9), .second, .val (.long v10), .second, .val (.long v12), .second, .val (.long v13), .second, .val (.long v14), .second, .val (.long v15), .second, .val (.long v16), .second, .val (.long v17), .second, .val (.long v18), .second, .val (.long v19), .second, .val (.ref b20), .val (.ref b95), .unset, .unset, .unset] (hb hby at_284) rfl rfl rfl ?_
      refine Run.x_iload (q := 288) X95 hx (hb hby at_286) rfl rfl ?_
      refine Run.x_iconst (q := 289) X95 hx (hb hby at_288) (z := (1 : Int32)) rfl rfl ?_
      refine Run.x_icmpNo (q := 292) X95 hx (hb hby at_289) (flt (by decide : ¬ ((4 : Int32) < (1 : Int32)))).1 rfl ?_
      refine Run.x_aload (q := 294) X95 hx (hb hby at_292) rfl rfl rfl ?_
      refine Run.x_iconst (q := 295) X95 hx (hb hby at_294) (z := (0 : Int32)) rfl rfl ?_
      refine Run.x_aload (q := 297) X95 hx (hb hby at_295) rfl rfl rfl ?_
      refine Run.x_iconst (q := 298) X95 hx (hb hby at_297) (z := (0 : Int32)) rfl rfl ?_
      replace A_b20 := A_b20.ext E95
      refine Run.ldI X95 hx hZ e95 A_b20 (i := 0) (v := (.int v12.toInt32)) (by decide) rfl (hb hby at_298) ?_
      show Run p e below s _ _ _ (T95.setTop (mkF m 299 #[.val (.int p1), .val (.int p2), .val (.int p3), .val (.int p4), .val (.int p5), .val (.int (4 : Int32)), .val (.long v2), .second, .val (.long v3), .second, .val (.long v4), .second, .val (.long v5), .second, .val (.long v6), .second, .val (.long v7), .second, .val (.long v8), .second, .val (.long v9), .second, .val (.long v10), .second, .val (.long v12), .second, .val (.long v13), .second, .val (.long v14), .second, .val (.long v15), .second, .val (.long v16), .second, .val (.long v17), .second, .val (.long v18), .second, .val (.long v19), .second, .val (.ref b20), .val (.ref b95), .unset, .unset, .unset] [(.int v12.toInt32), (.int (0 : Int32)), (.ref b95)]))
      refine Run.stI X95 hx hZ e95 A_b95 (i := 0) (by decide) (Nat.le_of_ble_eq_true rfl) (hb hby at_299) ?_
      intro T96 h96 X96 e96 W96 A96
      replace A_b95 : Ars Z h96 b95 .int [(.int v12.toInt32), (.int (0 : Int32)), (.int (0 : Int32)), (.int (0 : Int32)), (.int (0 : Int32)), (.int (0 : Int32)), (.int (0 : Int32)), (.int (0 : Int32))] := A96
      have N96 := Fr.snoc X96 N28 g_b95
      have Z96 : n0 ≤ h96.size := Nat.le_trans Z95 (Nat.le_of_eq W96.size.symm)
      show Run p e below s _ _ _ (T96.setTop (mkF m 300 #[.val (.int p1), .val (.int p2), .val (.int p3), .val (.int p4), .val (.int p5), .val (.int (4 : Int32)), .val (.long v2), .second, .val (.long v3), .second, .val (.long v4), .second, .val (.long v5), .second, .val (.long v6), .second, .val (.long v7), .second, .val (.long v8), .second, .val (.long v9), .second, .val (.long v10), .second, .val (.long v12), .second, .val (.long v13), .second, .val (.long v14), .second, .val (.long v15), .second, .val (.long v16), .second, .val (.long v17), .second, .val (.long v18), .second, .val (.long v19), .second, .val (.ref b20), .val (.ref b95), .unset, .unset, .unset] []))
      refine Run.x_aload (q := 302) X96 hx (hb hby at_300) rfl rfl rfl ?_
      refine Run.x_iconst (q := 303) X96 hx (hb hby at_302) (z := (1 : Int32)) rfl rfl ?_
      refine Run.x_aload (q := 305) X96 hx (hb hby at_303) rfl rfl rfl ?_
      refine Run.x_iconst (q := 306) X96 hx (hb hby at_305) (z := (1 : Int32)) rfl rfl ?_
      replace A_b20 := A_b20.other W96 ne_b20_b95
      refine Run.ldI X96 hx hZ e96 A_b20 (i := 1) (v := (.int v13.toInt32)) (by decide) rfl (hb hby at_306) ?_
      show Run p e below s _ _ _ (T96.setTop (mkF m 307 #[.val (.int p1), .val (.int p2), .val (.int p3), .val (.int p4), .val (.int p5), .val (.int (4 : Int32)), .val (.long v2), .second, .val (.long v3), .second, .val (.long v4), .second, .val (.long v5), .second, .val (.long v6), .second, .val (.long v7), .second, .val (.long v8), .second, .val (.long v9), .second, .val (.long v10), .second, .val (.long v12), .second, .val (.long v13), .second, .val (.long v14), .second, .val (.long v15), .second, .val (.long v16), .second, .val (.long v17), .second, .val (.long v18), .second, .val (.long v19), .second, .val (.ref b20), .val (.ref b95), .unset, .unset, .unset] [(.int v13.toInt32), (.int (1 : Int32)), (.ref b95)]))
      refine Run.stI X96 hx hZ e96 A_b95 (i := 1) (by decide) (Nat.le_of_ble_eq_true rfl) (hb hby at_307) ?_
      intro T97 h97 X97 e97 W97 A97
      replace A_b95 : Ars Z h97 b95 .int [(.int v12.toInt32), (.int v13.toInt32), (.int (0 : Int32)), (.int (0 : Int32)), (.int (0 : Int32)), (.int (0 : Int32)), (.int (0 : Int32)), (.int (0 : Int32))] := A97
      have N97 := Fr.snoc X97 N96 g_b95
      have Z97 : n0 ≤ h97.size := Nat.le_trans Z96 (Nat.le_of_eq W97.size.symm)
      show Run p e below s _ _ _ (T97.setTop (mkF m 308 #[.val (.int p1), .val (.int p2), .val (.int p3), .val (.int p4), .val (.int p5), .val (.int (4 : Int32)), .val (.long v2), .second, .val (.long v3), .second, .val (.long v4), .second, .val (.long v5), .second, .val (.long v6), .second, .val (.long v7), .second, .val (.long v8), .second, .val (.long v9), .second, .val (.long v10), .second, .val (.long v12), .second, .val (.long v13), .second, .val (.long v14), .second, .val (.long v15), .second, .val (.long v16), .second, .val (.long v17), .second, .val (.long v18), .second, .val (.long v19), .second, .val (.ref b20), .val (.ref b95), .unset, .unset, .unset] []))
      refine Run.x_iload (q := 310) X97 hx (hb hby at_308) rfl rfl ?_
      refine Run.x_iconst (q := 311) X97 hx (hb hby at_310) (z := (2 : Int32)) rfl rfl ?_
      refine Run.x_icmpNo (q := 314) X97 hx (hb hby at_311) (flt (by decide : ¬ ((4 : Int32) < (2 : Int32)))).1 rfl ?_
      refine Run.x_aload (q := 316) X97 hx (hb hby at_314) rfl rfl rfl ?_
      refine Run.x_iconst (q := 317) X97 hx (hb hby at_316) (z := (2 : Int32)) rfl rfl ?_
      refine Run.x_aload (q := 319) X97 hx (hb hby at_317) rfl rfl rfl ?_
      refine Run.x_iconst (q := 320) X97 hx (hb hby at_319) (z := (2 : Int32)) rfl rfl ?_
      replace A_b20 := A_b20.other W97 ne_b20_b95
      refine Run.ldI X97 hx hZ e97 A_b20 (i := 2) (v := (.int v14.toInt32)) (by decide) rfl (hb hby at_320) ?_
      show Run p e below s _ _ _ (T97.setTop (mkF m 321 #[.val (.int p1), .val (.int p2), .val (.int p3), .val (.int p4), .val (.int p5), .val (.int (4 : Int32)), .val (.long v2), .second, .val (.long v3), .second, .val (.long v4), .second, .val (.long v5), .second, .val (.long v6), .second, .val (.long v7), .second, .val (.long v8), .second, .val (.long v9), .second, .val (.long v10), .second, .val (.long v12), .second, .val (.long v13), .second, .val (.long v14), .second, .val (.long v15), .second, .val (.long v16), .second, .val (.long v17), .second, .val (.long v18), .second, .val (.long v19), .second, .val (.ref b20), .val (.ref b95), .unset, .unset, .unset] [(.int v14.toInt32), (.int (2 : Int32)), (.ref b95)]))
      refine Run.stI X97 hx hZ e97 A_b95 (i := 2) (by decide) (Nat.le_of_ble_eq_true rfl) (hb hby at_321) ?_
      intro T98 h98 X98 e98 W98 A98
      replace A_b95 : Ars Z h98 b95 .int [(.int v12.toInt32), (.int v13.toInt32), (.int v14.toInt32), (.int (0 : Int32)), (.int (0 : Int32)), (.int (0 : Int32)), (.int (0 : Int32)), (.int (0 : Int32))] := A98
      have N98 := Fr.snoc X98 N97 g_b95
      have Z98 : n0 ≤ h98.size := Nat.le_trans Z97 (Nat.le_of_eq W98.size.symm)
      show Run p e below s _ _ _ (T98.setTop (mkF m 322 #[.val (.int p1), .val (.int p2), .val (.int p3), .val (.int p4), .val (.int p5), .val (.int (4 : Int32)), .val (.long v2), .second, .val (.long v3), .second, .val (.long v4), .second, .val (.long v5), .second, .val (.long v6), .second, .val (.long v7), .second, .val (.long v8), .second, .val (.long v9), .second, .val (.long v10), .second, .val (.long v12), .second, .val (.long v13), .second, .val (.long v14), .second, .val (.long v15), .second, .val (.long v16), .second, .val (.long v17), .second, .val (.long v18), .second, .val (.long v19), .second, .val (.ref b20), .val (.ref b95), .unset, .unset, .unset] []))
      refine Run.x_aload (q := 324) X98 hx (hb hby at_322) rfl rfl rfl ?_
      refine Run.x_iconst (q := 325) X98 hx (hb hby at_324) (z := (3 : Int32)) rfl rfl ?_
      refine Run.x_aload (q := 327) X98 hx (hb hby at_325) rfl rfl rfl ?_
      refine Run.x_iconst (q := 328) X98 hx (hb hby at_327) (z := (3 : Int32)) rfl rfl ?_
      replace A_b20 := A_b20.other W98 ne_b20_b95
      refine Run.ldI X98 hx hZ e98 A_b20 (i := 3) (v := (.int v15.toInt32)) (by decide) rfl (hb hby at_328) ?_
      show Run p e below s _ _ _ (T98.setTop (mkF m 329 #[.val (.int p1), .val (.int p2), .val (.int p3), .val (.int p4), .val (.int p5), .val (.int (4 : Int32)), .val (.long v2), .second, .val (.long v3), .second, .val (.long v4), .second, .val (.long v5), .second, .val (.long v6), .second, .val (.long v7), .second, .val (.long v8), .second, .val (.long v9), .second, .val (.long v10), .second, .val (.long v12), .second, .val (.long v13), .second, .val (.long v14), .second, .val (.long v15), .second, .val (.long v16), .second, .val (.long v17), .second, .val (.long v18), .second, .val (.long v19), .second, .val (.ref b20), .val (.ref b95), .unset, .unset, .unset] [(.int v15.toInt32), (.int (3 : Int32)), (.ref b95)]))
      refine Run.stI X98 hx hZ e98 A_b95 (i := 3) (by decide) (Nat.le_of_ble_eq_true rfl) (hb hby at_329) ?_
      intro T99 h99 X99 e99 W99 A99
      replace A_b95 : Ars Z h99 b95 .int [(.int v12.toInt32), (.int v13.toInt32), (.int v14.toInt32), (.int v15.toInt32), (.int (0 : Int32)), (.int (0 : Int32)), (.int (0 : Int32)), (.int (0 : Int32))] := A99
      have N99 := Fr.snoc X99 N98 g_b95
      have Z99 : n0 ≤ h99.size := Nat.le_trans Z98 (Nat.le_of_eq W99.size.symm)
      show Run p e below s _ _ _ (T99.setTop (mkF m 330 #[.val (.int p1), .val (.int p2), .val (.int p3), .val (.int p4), .val (.int p5), .val (.int (4 : Int32)), .val (.long v2), .second, .val (.long v3), .second, .val (.long v4), .second, .val (.long v5), .second, .val (.long v6), .second, .val (.long v7), .second, .val (.long v8), .second, .val (.long v9), .second, .val (.long v10), .second, .val (.long v12), .second, .val (.long v13), .second, .val (.long v14), .second, .val (.long v15), .second, .val (.long v16), .second, .val (.long v17), .second, .val (.long v18), .second, .val (.long v19), .second, .val (.ref b20), .val (.ref b95), .unset, .unset, .unset] []))
      refine Run.x_iload (q := 332) X99 hx (hb hby at_330) rfl rfl ?_
      refine Run.x_iconst (q := 333) X99 hx (hb hby at_332) (z := (3 : Int32)) rfl rfl ?_
      refine Run.x_icmpNo (q := 336) X99 hx (hb hby at_333) (flt (by decide : ¬ ((4 : Int32) < (3 : Int32)))).1 rfl ?_
      refine Run.x_aload (q := 338) X99 hx (hb hby at_336) rfl rfl rfl ?_
      refine Run.x_iconst (q := 339) X99 hx (hb hby at_338) (z := (4 : Int32)) rfl rfl ?_
      refine Run.x_aload (q := 341) X99 hx (hb hby at_339) rfl rfl rfl ?_
      refine Run.x_iconst (q := 342) X99 hx (hb hby at_341) (z := (4 : Int32)) rfl rfl ?_
      replace A_b20 := A_b20.other W99 ne_b20_b95
      refine Run.ldI X99 hx hZ e99 A_b20 (i := 4) (v := (.int v16.toInt32)) (by decide) rfl (hb hby at_342) ?_
      show Run p e below s _ _ _ (T99.setTop (mkF m 343 #[.val (.int p1), .val (.int p2), .val (.int p3), .val (.int p4), .val (.int p5), .val (.int (4 : Int32)), .val (.long v2), .second, .val (.long v3), .second, .val (.long v4), .second, .val (.long v5), .second, .val (.long v6), .second, .val (.long v7), .second, .val (.long v8), .second, .val (.long v9), .second, .val (.long v10), .second, .val (.long v12), .second, .val (.long v13), .second, .val (.long v14), .second, .val (.long v15), .second, .val (.long v16), .second, .val (.long v17), .second, .val (.long v18), .second, .val (.long v19), .second, .val (.ref b20), .val (.ref b95), .unset, .unset, .unset] [(.int v16.toInt32), (.int (4 : Int32)), (.ref b95)]))
      refine Run.stI X99 hx hZ e99 A_b95 (i := 4) (by decide) (Nat.le_of_ble_eq_true rfl) (hb hby at_343) ?_
      intro T100 h100 X100 e100 W100 A100
      replace A_b95 : Ars Z h100 b95 .int [(.int v12.toInt32), (.int v13.toInt32), (.int v14.toInt32), (.int v15.toInt32), (.int v16.toInt32), (.int (0 : Int32)), (.int (0 : Int32)), (.int (0 : Int32))] := A100
      have N100 := Fr.snoc X100 N99 g_b95
      have Z100 : n0 ≤ h100.size := Nat.le_trans Z99 (Nat.le_of_eq W100.size.symm)
      show Run p e below s _ _ _ (T100.setTop (mkF m 344 #[.val (.int p1), .val (.int p2), .val (.int p3), .val (.int p4), .val (.int p5), .val (.int (4 : Int32)), .val (.long v2), .second, .val (.long v3), .second, .val (.long v4), .second, .val (.long v5), .second, .val (.long v6), .second, .val (.long v7), .second, .val (.long v8), .second, .val (.long v9), .second, .val (.long v10), .second, .val (.long v12), .second, .val (.long v13), .second, .val (.long v14), .second, .val (.long v15), .second, .val (.long v16), .second, .val (.long v17), .second, .val (.long v18), .second, .val (.long v19), .second, .val (.ref b20), .val (.ref b95), .unset, .unset, .unset] []))
      refine Run.x_aload (q := 346) X100 hx (hb hby at_344) rfl rfl rfl ?_
      refine Run.x_iconst (q := 347) X100 hx (hb hby at_346) (z := (5 : Int32)) rfl rfl ?_
      refine Run.x_aload (q := 349) X100 hx (hb hby at_347) rfl rfl rfl ?_
      refine Run.x_iconst (q := 350) X100 hx (hb hby at_349) (z := (5 : Int32)) rfl rfl ?_
      replace A_b20 := A_b20.other W100 ne_b20_b95
      refine Run.ldI X100 hx hZ e100 A_b20 (i := 5) (v := (.int v17.toInt32)) (by decide) rfl (hb hby at_350) ?_
      show Run p e below s _ _ _ (T100.setTop (mkF m 351 #[.val (.int p1), .val (.int p2), .val (.int p3), .val (.int p4), .val (.int p5), .val (.int (4 : Int32)), .val (.long v2), .second, .val (.long v3), .second, .val (.long v4), .second, .val (.long v5), .second, .val (.long v6), .second, .val (.long v7), .second, .val (.long v8), .second, .val (.long v9), .second, .val (.long v10), .second, .val (.long v12), .second, .val (.long v13), .second, .val (.long v14), .second, .val (.long v15), .second, .val (.long v16), .second, .val (.long v17), .second, .val (.long v18), .second, .val (.long v19), .second, .val (.ref b20), .val (.ref b95), .unset, .unset, .unset] [(.int v17.toInt32), (.int (5 : Int32)), (.ref b95)]))
      refine Run.stI X100 hx hZ e100 A_b95 (i := 5) (by decide) (Nat.le_of_ble_eq_true rfl) (hb hby at_351) ?_
      intro T101 h101 X101 e101 W101 A101
      replace A_b95 : Ars Z h101 b95 .int [(.int v12.toInt32), (.int v13.toInt32), (.int v14.toInt32), (.int v15.toInt32), (.int v16.toInt32), (.int v17.toInt32), (.int (0 : Int32)), (.int (0 : Int32))] := A101
      have N101 := Fr.snoc X101 N100 g_b95
      have Z101 : n0 ≤ h101.size := Nat.le_trans Z100 (Nat.le_of_eq W101.size.symm)
      show Run p e below s _ _ _ (T101.setTop (mkF m 352 #[.val (.int p1), .val (.int p2), .val (.int p3), .val (.int p4), .val (.int p5), .val (.int (4 : Int32)), .val (.long v2), .second, .val (.long v3), .second, .val (.long v4), .second, .val (.long v5), .second, .val (.long v6), .second, .val (.long v7), .second, .val (.long v8), .second, .val (.long v9), .second, .val (.long v10), .second, .val (.long v12), .second, .val (.long v13), .second, .val (.long v14), .second, .val (.long v15), .second, .val (.long v16), .second, .val (.long v17), .second, .val (.long v18), .second, .val (.long v19), .second, .val (.ref b20), .val (.ref b95), .unset, .unset, .unset] []))
      refine Run.x_iload (q := 354) X101 hx (hb hby at_352) rfl rfl ?_
      refine Run.x_iconst (q := 355) X101 hx (hb hby at_354) (z := (4 : Int32)) rfl rfl ?_
      refine Run.x_icmpNo (q := 358) X101 hx (hb hby at_355) (flt (by decide : ¬ ((4 : Int32) < (4 : Int32)))).1 rfl ?_
      refine Run.x_aload (q := 360) X101 hx (hb hby at_358) rfl rfl rfl ?_
      refine Run.x_bipush (q := 362) X101 hx (hb hby at_360) (z := (6 : Int32)) rfl rfl ?_
      refine Run.x_aload (q := 364) X101 hx (hb hby at_362) rfl rfl rfl ?_
      refine Run.x_bipush (q := 366) X101 hx (hb hby at_364) (z := (6 : Int32)) rfl rfl ?_
      replace A_b20 := A_b20.other W101 ne_b20_b95
      refine Run.ldI X101 hx hZ e101 A_b20 (i := 6) (v := (.int v18.toInt32)) (by decide) rfl (hb hby at_366) ?_
      show Run p e below s _ _ _ (T101.setTop (mkF m 367 #[.val (.int p1), .val (.int p2), .val (.int p3), .val (.int p4), .val (.int p5), .val (.int (4 : Int32)), .val (.long v2), .second, .val (.long v3), .second, .val (.long v4), .second, .val (.long v5), .second, .val (.long v6), .second, .val (.long v7), .second, .val (.long v8), .second, .val (.long v9), .second, .val (.long v10), .second, .val (.long v12), .second, .val (.long v13), .second, .val (.long v14), .second, .val (.long v15), .second, .val (.long v16), .second, .val (.long v17), .second, .val (.long v18), .second, .val (.long v19), .second, .val (.ref b20), .val (.ref b95), .unset, .unset, .unset] [(.int v18.toInt32), (.int (6 : Int32)), (.ref b95)]))
      refine Run.stI X101 hx hZ e101 A_b95 (i := 6) (by decide) (Nat.le_of_ble_eq_true rfl) (hb hby at_367) ?_
      intro T102 h102 X102 e102 W102 A102
      replace A_b95 : Ars Z h102 b95 .int [(.int v12.toInt32), (.int v13.toInt32), (.int v14.toInt32), (.int v15.toInt32), (.int v16.toInt32), (.int v17.toInt32), (.int v18.toInt32), (.int (0 : Int32))] := A102
      have N102 := Fr.snoc X102 N101 g_b95
      have Z102 : n0 ≤ h102.size := Nat.le_trans Z101 (Nat.le_of_eq W102.size.symm)
      show Run p e below s _ _ _ (T102.setTop (mkF m 368 #[.val (.int p1), .val (.int p2), .val (.int p3), .val (.int p4), .val (.int p5), .val (.int (4 : Int32)), .val (.long v2), .second, .val (.long v3), .second, .val (.long v4), .second, .val (.long v5), .second, .val (.long v6), .second, .val (.long v7), .second, .val (.long v8), .second, .val (.long v9), .second, .val (.long v10), .second, .val (.long v12), .second, .val (.long v13), .second, .val (.long v14), .second, .val (.long v15), .second, .val (.long v16), .second, .val (.long v17), .second, .val (.long v18), .second, .val (.long v19), .second, .val (.ref b20), .val (.ref b95), .unset, .unset, .unset] []))
      refine Run.x_aload (q := 370) X102 hx (hb hby at_368) rfl rfl rfl ?_
      refine Run.x_bipush (q := 372) X102 hx (hb hby at_370) (z := (7 : Int32)) rfl rfl ?_
      refine Run.x_aload (q := 374) X102 hx (hb hby at_372) rfl rfl rfl ?_
      refine Run.x_bipush (q := 376) X102 hx (hb hby at_374) (z := (7 : Int32)) rfl rfl ?_
      replace A_b20 := A_b20.other W102 ne_b20_b95
      refine Run.ldI X102 hx hZ e102 A_b20 (i := 7) (v := (.int v19.toInt32)) (by decide) rfl (hb hby at_376) ?_
      show Run p e below s _ _ _ (T102.setTop (mkF m 377 #[.val (.int p1), .val (.int p2), .val (.int p3), .val (.int p4), .val (.int p5), .val (.int (4 : Int32)), .val (.long v2), .second, .val (.long v3), .second, .val (.long v4), .second, .val (.long v5), .second, .val (.long v6), .second, .val (.long v7), .second, .val (.long v8), .second, .val (.long v9), .second, .val (.long v10), .second, .val (.long v12), .second, .val (.long v13), .second, .val (.long v14), .second, .val (.long v15), .second, .val (.long v16), .second, .val (.long v17), .second, .val (.long v18), .second, .val (.long v19), .second, .val (.ref b20), .val (.ref b95), .unset, .unset, .unset] [(.int v19.toInt32), (.int (7 : Int32)), (.ref b95)]))
      refine Run.stI X102 hx hZ e102 A_b95 (i := 7) (by decide) (Nat.le_of_ble_eq_true rfl) (hb hby at_377) ?_
      intro T103 h103 X103 e103 W103 A103
      replace A_b95 : Ars Z h103 b95 .int [(.int v12.toInt32), (.int v13.toInt32), (.int v14.toInt32), (.int v15.toInt32), (.int v16.toInt32), (.int v17.toInt32), (.int v18.toInt32), (.int v19.toInt32)] := A103
      have N103 := Fr.snoc X103 N102 g_b95
      have Z103 : n0 ≤ h103.size := Nat.le_trans Z102 (Nat.le_of_eq W103.size.symm)
      show Run p e below s _ _ _ (T103.setTop (mkF m 378 #[.val (.int p1), .val (.int p2), .val (.int p3), .val (.int p4), .val (.int p5), .val (.int (4 : Int32)), .val (.long v2), .second, .val (.long v3), .second, .val (.long v4), .second, .val (.long v5), .second, .val (.long v6), .second, .val (.long v7), .second, .val (.long v8), .second, .val (.long v9), .second, .val (.long v10), .second, .val (.long v12), .second, .val (.long v13), .second, .val (.long v14), .second, .val (.long v15), .second, .val (.long v16), .second, .val (.long v17), .second, .val (.long v18), .second, .val (.long v19), .second, .val (.ref b20), .val (.ref b95), .unset, .unset, .unset] []))
      refine Run.x_iloadN (q := 379) X103 hx (hb hby at_378) rfl rfl ?_
      refine Run.x_istore (q := 381) X103 hx #[.val (.int p1), .val (.int p2), .val (.int p3), .val (.int p4), .val (.int p5), .val (.int (4 : Int32)), .val (.long v2), .second, .val (.long v3), .second, .val (.long v4), .second, .val (.long v5), .second, .val (.long v6), .second, .val (.long v7), .second, .val (.long v8), .second, .val (.long v9), .second, .val (.long v10), .second, .val (.long v12), .second, .val (.long v13), .second, .val (.long v14), .second, .val (.long v15), .second, .val (.long v16), .second, .val (.long v17), .second, .val (.long v18), .second, .val (.long v19), .second, .val (.ref b20), .val (.ref b95), .val (.int p1), .unset, .unset] (hb hby at_379) rfl rfl ?_
      have J408 : ∀ cx : Int32, Run p e below s (Tru n0) room_1.cells room_1.slots (T103.setTop (mkF m 408 #[.val (.int p1), .val (.int p2), .val (.int p3), .val (.int p4), .val (.int p5), .val (.int (4 : Int32)), .val (.long v2), .second, .val (.long v3), .second, .val (.long v4), .second, .val (.long v5), .second, .val (.long v6), .second, .val (.long v7), .second, .val (.long v8), .second, .val (.long v9), .second, .val (.long v10), .second, .val (.long v12), .second, .val (.long v13), .second, .val (.long v14), .second, .val (.long v15), .second, .val (.long v16), .second, .val (.long v17), .second, .val (.long v18), .second, .val (.long v19), .second, .val (.ref b20), .val (.ref b95), .val (.int cx), .unset, .unset] [])) := by
        intro cx
        refine Run.x_iload (q := 410) X103 hx (hb hby at_408) rfl rfl ?_
        refine Run.x_iconst (q := 411) X103 hx (hb hby at_410) (z := (1 : Int32)) rfl rfl ?_
        refine Run.x_icmpNo (q := 414) X103 hx (hb hby at_411) (flt (by decide : ¬ ((4 : Int32) < (1 : Int32)))).1 rfl ?_
        refine Run.x_iload (q := 416) X103 hx (hb hby at_414) rfl rfl ?_
        refine Run.x_aload (q := 418) X103 hx (hb hby at_416) rfl rfl rfl ?_
        refine Run.x_iconst (q := 419) X103 hx (hb hby at_418) (z := (0 : Int32)) rfl rfl ?_
        replace A_b20 := A_b20.other W103 ne_b20_b95
        refine Run.ldI X103 hx hZ e103 A_b20 (i := 0) (v := (.int v12.toInt32)) (by decide) rfl (hb hby at_419) ?_
        show Run p e below s _ _ _ (T103.setTop (mkF m 420 #[.val (.int p1), .val (.int p2), .val (.int p3), .val (.int p4), .val (.int p5), .val (.int (4 : Int32)), .val (.long v2), .second, .val (.long v3), .second, .val (.long v4), .second, .val (.long v5), .second, .val (.long v6), .second, .val (.long v7), .second, .val (.long v8), .second, .val (.long v9), .second, .val (.long v10), .second, .val (.long v12), .second, .val (.long v13), .second, .val (.long v14), .second, .val (.long v15), .second, .val (.long v16), .second, .val (.long v17), .second, .val (.long v18), .second, .val (.long v19), .second, .val (.ref b20), .val (.ref b95), .val (.int cx), .unset, .unset] [(.int v12.toInt32), (.int cx)]))
        refine Run.x_aload (q := 422) X103 hx (hb hby at_420) rfl rfl rfl ?_
        refine Run.x_iconst (q := 423) X103 hx (hb hby at_422) (z := (1 : Int32)) rfl rfl ?_
        refine Run.ldI X103 hx hZ e103 A_b20 (i := 1) (v := (.int v13.toInt32)) (by decide) rfl (hb hby at_423) ?_
        show Run p e below s _ _ _ (T103.setTop (mkF m 424 #[.val (.int p1), .val (.int p2), .val (.int p3), .val (.int p4), .val (.int p5), .val (.int (4 : Int32)), .val (.long v2), .second, .val (.long v3), .second, .val (.long v4), .second, .val (.long v5), .second, .val (.long v6), .second, .val (.long v7), .second, .val (.long v8), .second, .val (.long v9), .second, .val (.long v10), .second, .val (.long v12), .second, .val (.long v13), .second, .val (.long v14), .second, .val (.long v15), .second, .val (.long v16), .second, .val (.long v17), .second, .val (.long v18), .second, .val (.long v19), .second, .val (.ref b20), .val (.ref b95), .val (.int cx), .unset, .unset] [(.int v13.toInt32), (.int v12.toInt32), (.int cx)]))
        refine Run.callS X103 hx hZ e103 (y := (⟨"com/example/corbel/corbel/core/regex/RangesContainsPinLaw", "in", "(III)Z"⟩ : MethodName)) hown (hw _ (List.mem_of_getElem? (i := 29) rfl)) (hw _ (List.mem_of_getElem? (i := 30) rfl)) (hw _ (List.mem_of_getElem? (i := 31) rfl)) (hw _ (List.mem_of_getElem? (i := 32) rfl)) (by decide) (argsL := [(.int cx), (.int v12.toInt32), (.int v13.toInt32)]) (rest := []) (c_in l Z a0 hw cx v12.toInt32 v13.toInt32 h103 n0 Z103 ) pd_4 rfl (by rw [hml]; rfl) (W := 0) rfl (by decide) (by decide) (by decide) (by decide) (hb hby at_424) rfl ?_
        intro T104 v104 L104 X104 q104
        obtain ⟨rfl, M104, e104⟩ := q104
        have N104 := Fr.app N103 M104
        show Run p e below s _ _ _ (T104.setTop (mkF m 427 #[.val (.int p1), .val (.int p2), .val (.int p3), .val (.int p4), .val (.int p5), .val (.int (4 : Int32)), .val (.long v2), .second, .val (.long v3), .second, .val (.long v4), .second, .val (.long v5), .second, .val (.long v6), .second, .val (.long v7), .second, .val (.long v8), .second, .val (.long v9), .second, .val (.long v10), .second, .val (.long v12), .second, .val (.long v13), .second, .val (.long v14), .second, .val (.long v15), .second, .val (.long v16), .second, .val (.long v17), .second, .val (.long v18), .second, .val (.long v19), .second, .val (.ref b20), .val (.ref b95), .val (.int cx), .unset, .unset] [(.int (own_b (own_in cx v12.toInt32 v13.toInt32)))]))
        by_cases hc427 : (own_b (own_in cx v12.toInt32 v13.toInt32)) = (0 : Int32)
        · skip
          refine Run.x_ifNo (q := 430) X104 hx (hb hby at_427) ((if0 _ _).trans (teq hc427).2) rfl ?_
          refine Run.x_iload (q := 432) X104 hx (hb hby at_430) rfl rfl ?_
          refine Run.x_iconst (q := 433) X104 hx (hb hby at_432) (z := (2 : Int32)) rfl rfl ?_
          refine Run.x_icmpNo (q := 436) X104 hx (hb hby at_433) (flt (by decide : ¬ ((4 : Int32) < (2 : Int32)))).1 rfl ?_
          refine Run.x_iload (q := 438) X104 hx (hb hby at_436) rfl rfl ?_
          refine Run.x_aload (q := 440) X104 hx (hb hby at_438) rfl rfl rfl ?_
          refine Run.x_iconst (q := 441) X104 hx (hb hby at_440) (z := (2 : Int32)) rfl rfl ?_
          refine Run.ldI X104 hx hZ e104 A_b20 (i := 2) (v := (.int v14.toInt32)) (by decide) rfl (hb hby at_441) ?_
          show Run p e below s _ _ _ (T104.setTop (mkF m 442 #[.val (.int p1), .val (.int p2), .val (.int p3), .val (.int p4), .val (.int p5), .val (.int (4 : Int32)), .val (.long v2), .second, .val (.long v3), .second, .val (.long v4), .second, .val (.long v5), .second, .val (.long v6), .second, .val (.long v7), .second, .val (.long v8), .second, .val (.long v9), .second, .val (.long v10), .second, .val (.long v12), .second, .val (.long v13), .second, .val (.long v14), .second, .val (.long v15), .second, .val (.long v16), .second, .val (.long v17), .second, .val (.long v18), .second, .val (.long v19), .second, .val (.ref b20), .val (.ref b95), .val (.int cx), .unset, .unset] [(.int v14.toInt32), (.int cx)]))
          refine Run.x_aload (q := 444) X104 hx (hb hby at_442) rfl rfl rfl ?_
          refine Run.x_iconst (q := 445) X104 hx (hb hby at_444) (z := (3 : Int32)) rfl rfl ?_
          refine Run.ldI X104 hx hZ e104 A_b20 (i := 3) (v := (.int v15.toInt32)) (by decide) rfl (hb hby at_445) ?_
          show Run p e below s _ _ _ (T104.setTop (mkF m 446 #[.val (.int p1), .val (.int p2), .val (.int p3), .val (.int p4), .val (.int p5), .val (.int (4 : Int32)), .val (.long v2), .second, .val (.long v3), .second, .val (.long v4), .second, .val (.long v5), .second, .val (.long v6), .second, .val (.long v7), .second, .val (.long v8), .second, .val (.long v9), .second, .val (.long v10), .second, .val (.long v12), .second, .val (.long v13), .second, .val (.long v14), .second, .val (.long v15), .second, .val (.long v16), .second, .val (.long v17), .second, .val (.long v18), .second, .val (.long v19), .second, .val (.ref b20), .val (.ref b95), .val (.int cx), .unset, .unset] [(.int v15.toInt32), (.int v14.toInt32), (.int cx)]))
          refine Run.callS X104 hx hZ e104 (y := (⟨"com/example/corbel/corbel/core/regex/RangesContainsPinLaw", "in", "(III)Z"⟩ : MethodName)) hown (hw _ (List.mem_of_getElem? (i := 29) rfl)) (hw _ (List.mem_of_getElem? (i := 30) rfl)) (hw _ (List.mem_of_getElem? (i := 31) rfl)) (hw _ (List.mem_of_getElem? (i := 32) rfl)) (by decide) (argsL := [(.int cx), (.int v14.toInt32), (.int v15.toInt32)]) (rest := []) (c_in l Z a0 hw cx v14.toInt32 v15.toInt32 h103 n0 Z103 ) pd_4 rfl (by rw [hml]; rfl) (W := 0) rfl (by decide) (by decide) (by decide) (by decide) (hb hby at_446) rfl ?_
          intro T105 v105 L105 X105 q105
          obtain ⟨rfl, M105, e105⟩ := q105
          have N105 := Fr.app N104 M105
          show Run p e below s _ _ _ (T105.setTop (mkF m 449 #[.val (.int p1), .val (.int p2), .val (.int p3), .val (.int p4), .val (.int p5), .val (.int (4 : Int32)), .val (.long v2), .second, .val (.long v3), .second, .val (.long v4), .second, .val (.long v5), .second, .val (.long v6), .second, .val (.long v7), .second, .val (.long v8), .second, .val (.long v9), .second, .val (.long v10), .second, .val (.long v12), .second, .val (.long v13), .second, .val (.long v14), .second, .val (.long v15), .second, .val (.long v16), .second, .val (.long v17), .second, .val (.long v18), .second, .val (.long v19), .second, .val (.ref b20), .val (.ref b95), .val (.int cx), .unset, .unset] [(.int (own_b (own_in cx v14.toInt32 v15.toInt32)))]))
          by_cases hc449 : (own_b (own_in cx v14.toInt32 v15.toInt32)) = (0 : Int32)
          · skip
            refine Run.x_ifNo (q := 452) X105 hx (hb hby at_449) ((if0 _ _).trans (teq hc449).2) rfl ?_
            refine Run.x_iload (q := 454) X105 hx (hb hby at_452) rfl rfl ?_
            refine Run.x_iconst (q := 455) X105 hx (hb hby at_454) (z := (3 : Int32)) rfl rfl ?_
            refine Run.x_icmpNo (q := 458) X105 hx (hb hby at_455) (flt (by decide : ¬ ((4 : Int32) < (3 : Int32)))).1 rfl ?_
            refine Run.x_iload (q := 460) X105 hx (hb hby at_458) rfl rfl ?_
            refine Run.x_aload (q := 462) X105 hx (hb hby at_460) rfl rfl rfl ?_
            refine Run.x_iconst (q := 463) X105 hx (hb hby at_462) (z := (4 : Int32)) rfl rfl ?_
            refine Run.ldI X105 hx hZ e105 A_b20 (i := 4) (v := (.int v16.toInt32)) (by decide) rfl (hb hby at_463) ?_
            show Run p e below s _ _ _ (T105.setTop (mkF m 464 #[.val (.int p1), .val (.int p2), .val (.int p3), .val (.int p4), .val (.int p5), .val (.int (4 : Int32)), .val (.long v2), .second, .val (.long v3), .second, .val (.long v4), .second, .val (.long v5), .second, .val (.long v6), .second, .val (.long v7), .second, .val (.long v8), .second, .val (.long v9), .second, .val (.long v10), .second, .val (.long v12), .second, .val (.long v13), .second, .val (.long v14), .second, .val (.long v15), .second, .val (.long v16), .second, .val (.long v17), .second, .val (.long v18), .second, .val (.long v19), .second, .val (.ref b20), .val (.ref b95), .val (.int cx), .unset, .unset] [(.int v16.toInt32), (.int cx)]))
            refine Run.x_aload (q := 466) X105 hx (hb hby at_464) rfl rfl rfl ?_
            refine Run.x_iconst (q := 467) X105 hx (hb hby at_466) (z := (5 : Int32)) rfl rfl ?_
            refine Run.ldI X105 hx hZ e105 A_b20 (i := 5) (v := (.int v17.toInt32)) (by decide) rfl (hb hby at_467) ?_
            show Run p e below s _ _ _ (T105.setTop (mkF m 468 #[.val (.int p1), .val (.int p2), .val (.int p3), .val (.int p4), .val (.int p5), .val (.int (4 : Int32)), .val (.long v2), .second, .val (.long v3), .second, .val (.long v4), .second, .val (.long v5), .second, .val (.long v6), .second, .val (.long v7), .second, .val (.long v8), .second, .val (.long v9), .second, .val (.long v10), .second, .val (.long v12), .second, .val (.long v13), .second, .val (.long v14), .second, .val (.long v15), .second, .val (.long v16), .second, .val (.long v17), .second, .val (.long v18), .second, .val (.long v19), .second, .val (.ref b20), .val (.ref b95), .val (.int cx), .unset, .unset] [(.int v17.toInt32), (.int v16.toInt32), (.int cx)]))
            refine Run.callS X105 hx hZ e105 (y := (⟨"com/example/corbel/corbel/core/regex/RangesContainsPinLaw", "in", "(III)Z"⟩ : MethodName)) hown (hw _ (List.mem_of_getElem? (i := 29) rfl)) (hw _ (List.mem_of_getElem? (i := 30) rfl)) (hw _ (List.mem_of_getElem? (i := 31) rfl)) (hw _ (List.mem_of_getElem? (i := 32) rfl)) (by decide) (argsL := [(.int cx), (.int v16.toInt32), (.int v17.toInt32)]) (rest := []) (c_in l Z a0 hw cx v16.toInt32 v17.toInt32 h103 n0 Z103 ) pd_4 rfl (by rw [hml]; rfl) (W := 0) rfl (by decide) (by decide) (by decide) (by decide) (hb hby at_468) rfl ?_
            intro T106 v106 L106 X106 q106
            obtain ⟨rfl, M106, e106⟩ := q106
            have N106 := Fr.app N105 M106
            show Run p e below s _ _ _ (T106.setTop (mkF m 471 #[.val (.int p1), .val (.int p2), .val (.int p3), .val (.int p4), .val (.int p5), .val (.int (4 : Int32)), .val (.long v2), .second, .val (.long v3), .second, .val (.long v4), .second, .val (.long v5), .second, .val (.long v6), .second, .val (.long v7), .second, .val (.long v8), .second, .val (.long v9), .second, .val (.long v10), .second, .val (.long v12), .second, .val (.long v13), .second, .val (.long v14), .second, .val (.long v15), .second, .val (.long v16), .second, .val (.long v17), .second, .val (.long v18), .second, .val (.long v19), .second, .val (.ref b20), .val (.ref b95), .val (.int cx), .unset, .unset] [(.int (own_b (own_in cx v16.toInt32 v17.toInt32)))]))
            by_cases hc471 : (own_b (own_in cx v16.toInt32 v17.toInt32)) = (0 : Int32)
            · skip
              refine Run.x_ifNo (q := 474) X106 hx (hb hby at_471) ((if0 _ _).trans (teq hc471).2) rfl ?_
              refine Run.x_iload (q := 476) X106 hx (hb hby at_474) rfl rfl ?_
              refine Run.x_iconst (q := 477) X106 hx (hb hby at_476) (z := (4 : Int32)) rfl rfl ?_
              refine Run.x_icmpNo (q := 480) X106 hx (hb hby at_477) (flt (by decide : ¬ ((4 : Int32) < (4 : Int32)))).1 rfl ?_
              refine Run.x_iload (q := 482) X106 hx (hb hby at_480) rfl rfl ?_
              refine Run.x_aload (q := 484) X106 hx (hb hby at_482) rfl rfl rfl ?_
              refine Run.x_bipush (q := 486) X106 hx (hb hby at_484) (z := (6 : Int32)) rfl rfl ?_
              refine Run.ldI X106 hx hZ e106 A_b20 (i := 6) (v := (.int v18.toInt32)) (by decide) rfl (hb hby at_486) ?_
              show Run p e below s _ _ _ (T106.setTop (mkF m 487 #[.val (.int p1), .val (.int p2), .val (.int p3), .val (.int p4), .val (.int p5), .val (.int (4 : Int32)), .val (.long v2), .second, .val (.long v3), .second, .val (.long v4), .second, .val (.long v5), .second, .val (.long v6), .second, .val (.long v7), .second, .val (.long v8), .second, .val (.long v9), .second, .val (.long v10), .second, .val (.long v12), .second, .val (.long v13), .second, .val (.long v14), .second, .val (.long v15), .second, .val (.long v16), .second, .val (.long v17), .second, .val (.long v18), .second, .val (.long v19), .second, .val (.ref b20), .val (.ref b95), .val (.int cx), .unset, .unset] [(.int v18.toInt32), (.int cx)]))
              refine Run.x_aload (q := 489) X106 hx (hb hby at_487) rfl rfl rfl ?_
              refine Run.x_bipush (q := 491) X106 hx (hb hby at_489) (z := (7 : Int32)) rfl rfl ?_
              refine Run.ldI X106 hx hZ e106 A_b20 (i := 7) (v := (.int v19.toInt32)) (by decide) rfl (hb hby at_491) ?_
              show Run p e below s _ _ _ (T106.setTop (mkF m 492 #[.val (.int p1), .val (.int p2), .val (.int p3), .val (.int p4), .val (.int p5), .val (.int (4 : Int32)), .val (.long v2), .second, .val (.long v3), .second, .val (.long v4), .second, .val (.long v5), .second, .val (.long v6), .second, .val (.long v7), .second, .val (.long v8), .second, .val (.long v9), .second, .val (.long v10), .second, .val (.long v12), .second, .val (.long v13), .second, .val (.long v14), .second, .val (.long v15), .second, .val (.long v16), .second, .val (.long v17), .second, .val (.long v18), .second, .val (.long v19), .second, .val (.ref b20), .val (.ref b95), .val (.int cx), .unset, .unset] [(.int v19.toInt32), (.int v18.toInt32), (.int cx)]))
              refine Run.callS X106 hx hZ e106 (y := (⟨"com/example/corbel/corbel/core/regex/RangesContainsPinLaw", "in", "(III)Z"⟩ : MethodName)) hown (hw _ (List.mem_of_getElem? (i := 29) rfl)) (hw _ (List.mem_of_getElem? (i := 30) rfl)) (hw _ (List.mem_of_getElem? (i := 31) rfl)) (hw _ (List.mem_of_getElem? (i := 32) rfl)) (by decide) (argsL := [(.int cx), (.int v18.toInt32), (.int v19.toInt32)]) (rest := []) (c_in l Z a0 hw cx v18.toInt32 v19.toInt32 h103 n0 Z103 ) pd_4 rfl (by rw [hml]; rfl) (W := 0) rfl (by decide) (by decide) (by decide) (by decide) (hb hby at_492) rfl ?_
              intro T107 v107 L107 X107 q107
              obtain ⟨rfl, M107, e107⟩ := q107
              have N107 := Fr.app N106 M107
              show Run p e below s _ _ _ (T107.setTop (mkF m 495 #[.val (.int p1), .val (.int p2), .val (.int p3), .val (.int p4), .val (.int p5), .val (.int (4 : Int32)), .val (.long v2), .second, .val (.long v3), .second, .val (.long v4), .second, .val (.long v5), .second, .val (.long v6), .second, .val (.long v7), .second, .val (.long v8), .second, .val (.long v9), .second, .val (.long v10), .second, .val (.long v12), .second, .val (.long v13), .second, .val (.long v14), .second, .val (.long v15), .second, .val (.long v16), .second, .val (.long v17), .second, .val (.long v18), .second, .val (.long v19), .second, .val (.ref b20), .val (.ref b95), .val (.int cx), .unset, .unset] [(.int (own_b (own_in cx v18.toInt32 v19.toInt32)))]))
              by_cases hc495 : (own_b (own_in cx v18.toInt32 v19.toInt32)) = (0 : Int32)
              · skip
                refine Run.x_ifYes (q := 502) X107 hx (hb hby at_495) ((if0 _ _).trans (teq hc495).1) (by decide) (by decide) ?_
                refine Run.x_iconst (q := 503) X107 hx (hb hby at_502) (z := (0 : Int32)) rfl rfl ?_
                refine Run.x_istore (q := 505) X107 hx #[.val (.int p1), .val (.int p2), .val (.int p3), .val (.int p4), .val (.int p5), .val (.int (4 : Int32)), .val (.long v2), .second, .val (.long v3), .second, .val (.long v4), .second, .val (.long v5), .second, .val (.long v6), .second, .val (.long v7), .second, .val (.long v8), .second, .val (.long v9), .second, .val (.long v10), .second, .val (.long v12), .second, .val (.long v13), .second, .val (.long v14), .second, .val (.long v15), .second, .val (.long v16), .second, .val (.long v17), .second, .val (.long v18), .second, .val (.long v19), .second, .val (.ref b20), .val (.ref b95), .val (.int cx), .val (.int (0 : Int32)), .unset] (hb hby at_503) rfl rfl ?_
                obtain ⟨T108, h108, X108, e108, E108, A108, D108, -, st108⟩ := newO X107 hx hZ hown (hw _ (List.mem_of_getElem? (i := 8) rfl)) (hw _ (List.mem_of_getElem? (i := 9) rfl)) (hw _ (List.mem_of_getElem? (i := 10) rfl)) e107 (g := (mkF m 505 #[.val (.int p1), .val (.int p2), .val (.int p3), .val (.int p4), .val (.int p5), .val (.int (4 : Int32)), .val (.long v2), .second, .val (.long v3), .second, .val (.long v4), .second, .val (.long v5), .second, .val (.long v6), .second, .val (.long v7), .second, .val (.long v8), .second, .val (.long v9), .second, .val (.long v10), .second, .val (.long v12), .second, .val (.long v13), .second, .val (.long v14), .second, .val (.long v15), .second, .val (.long v16), .second, .val (.long v17), .second, .val (.long v18), .second, .val (.long v19), .second, .val (.ref b20), .val (.ref b95), .val (.int cx), .val (.int (0 : Int32)), .unset] [])) rfl (hb hby at_505) (by decide) (by decide)
                obtain ⟨b108, gg108⟩ : ∃ z, z = h103.size := ⟨_, rfl⟩
                rw [← gg108] at A108 D108 st108
                have g_b108 : n0 ≤ b108 := Nat.le_trans Z103 (Nat.le_of_eq gg108.symm)
                have ne_b20_b108 : b20 ≠ b108 := Nat.ne_of_lt (Nat.lt_of_lt_of_le A_b20.lt (Nat.le_of_eq gg108.symm))
                have ne_b95_b108 : b95 ≠ b108 := Nat.ne_of_lt (Nat.lt_of_lt_of_le A_b95.lt (Nat.le_of_eq gg108.symm))
                have Z108 : n0 ≤ h108.size := Nat.le_trans Z103 E108.1
                have E_b108 := A108
                have F_b108_bounds : Fld Z h108 b108 "com/example/corbel/corbel/core/regex/CharSet$Ranges" "bounds" "[I" .null := D108 (Or.inr (hw _ (List.mem_of_getElem? (i := 23) rfl))) (ty := (.array .int)) (by decide)
                refine Run.st st108 ?_
                show Run p e below s _ _ _ (T108.setTop (mkF m 508 #[.val (.int p1), .val (.int p2), .val (.int p3), .val (.int p4), .val (.int p5), .val (.int (4 : Int32)), .val (.long v2), .second, .val (.long v3), .second, .val (.long v4), .second, .val (.long v5), .second, .val (.long v6), .second, .val (.long v7), .second, .val (.long v8), .second, .val (.long v9), .second, .val (.long v10), .second, .val (.long v12), .second, .val (.long v13), .second, .val (.long v14), .second, .val (.long v15), .second, .val (.long v16), .second, .val (.long v17), .second, .val (.long v18), .second, .val (.long v19), .second, .val (.ref b20), .val (.ref b95), .val (.int cx), .val (.int (0 : Int32)), .unset] [(.ref b108)]))
                refine Run.x_dup (q := 509) X108 hx (hb hby at_508) rfl rfl ?_
                refine Run.x_aload (q := 511) X108 hx (hb hby at_509) rfl rfl rfl ?_
                refine Run.callC X108 hx hZ e108 (y := (⟨"com/example/corbel/corbel/core/regex/CharSet$Ranges", "<init>", "([I)V"⟩ : MethodName)) hown rfl (hw _ (List.mem_of_getElem? (i := 11) rfl)) (hw _ (List.mem_of_getElem? (i := 12) rfl)) (hw _ (List.mem_of_getElem? (i := 10) rfl)) (hw _ (List.mem_of_getElem? (i := 13) rfl)) (by decide) (a := b108) (argsL := [(.ref b95)]) (rest := [(.ref b108)]) (c_init l Z a0 hw b108 b95 h108 n0 Z108 E_b108 F_b108_bounds g_b108) pd_2 rfl (by rw [hml]; rfl) (W := 1) rfl (by decide) (by decide) (by decide) (by decide) (hb hby at_511) rfl ?_
                intro T109 v109 L109 X109 q109
                obtain ⟨rfl, M109, K109, E109, F109_0⟩ := q109
                have N109 := Fr.app N107 M109
                show Run p e below s _ _ _ (T109.setTop (mkF m 514 #[.val (.int p1), .val (.int p2), .val (.int p3), .val (.int p4), .val (.int p5), .val (.int (4 : Int32)), .val (.long v2), .second, .val (.long v3), .second, .val (.long v4), .second, .val (.long v5), .second, .val (.long v6), .second, .val (.long v7), .second, .val (.long v8), .second, .val (.long v9), .second, .val (.long v10), .second, .val (.long v12), .second, .val (.long v13), .second, .val (.long v14), .second, .val (.long v15), .second, .val (.long v16), .second, .val (.long v17), .second, .val (.long v18), .second, .val (.long v19), .second, .val (.ref b20), .val (.ref b95), .val (.int cx), .val (.int (0 : Int32)), .unset] [(.ref b108)]))
                have Z109 : n0 ≤ T109.heap.size := Nat.le_trans Z108 K109.1
                refine Run.x_iload (q := 516) X109 hx (hb hby at_514) rfl rfl ?_
                replace E_b108 := E_b108.keep K109
                replace A_b95 := (A_b95.ext E108).keep K109 (ninS ne_b95_b108 nin0)
                refine Run.callV X109 hx hZ rfl (y := (⟨"com/example/corbel/corbel/core/regex/CharSet$Ranges", "contains", "(I)Z"⟩ : MethodName)) (z := (⟨"com/example/corbel/corbel/core/regex/CharSet$Ranges", "contains", "(I)Z"⟩ : MethodName)) hown (hw _ (List.mem_of_getElem? (i := 24) rfl)) (hw _ (List.mem_of_getElem? (i := 25) rfl)) (notFace_of_selects (args := #[]) (mvT hZ (hw _ (List.mem_of_getElem? (i := 27) rfl)))) (hw _ (List.mem_of_getElem? (i := 27) rfl)) (hw _ (List.mem_of_getElem? (i := 26) rfl)) (hw _ (List.mem_of_getElem? (i := 10) rfl)) (hw _ (List.mem_of_getElem? (i := 28) rfl)) (by decide) (a := b108) E_b108 (argsL := [(.int cx)]) (rest := []) (c_con4 l Z a0 hw b108 cx T109.heap n0 Z109 b95 v12.toInt32 v13.toInt32 v14.toInt32 v15.toInt32 v16.toInt32 v17.toInt32 v18.toInt32 v19.toInt32 E_b108 F109_0 A_b95 hsrt) pd_3 rfl (by rw [hml]; rfl) (W := 0) rfl (by decide) (by decide) (by decide) (by decide) (hb hby at_516) rfl ?_
                intro T110 v110 L110 X110 q110
                obtain ⟨rfl, M110, e110⟩ := q110
                have N110 := Fr.app N109 M110
                show Run p e below s _ _ _ (T110.setTop (mkF m 519 #[.val (.int p1), .val (.int p2), .val (.int p3), .val (.int p4), .val (.int p5), .val (.int (4 : Int32)), .val (.long v2), .second, .val (.long v3), .second, .val (.long v4), .second, .val (.long v5), .second, .val (.long v6), .second, .val (.long v7), .second, .val (.long v8), .second, .val (.long v9), .second, .val (.long v10), .second, .val (.long v12), .second, .val (.long v13), .second, .val (.long v14), .second, .val (.long v15), .second, .val (.long v16), .second, .val (.long v17), .second, .val (.long v18), .second, .val (.long v19), .second, .val (.ref b20), .val (.ref b95), .val (.int cx), .val (.int (0 : Int32)), .unset] [(.int (own_b (own_in cx v12.toInt32 v13.toInt32 ∨ own_in cx v14.toInt32 v15.toInt32 ∨ own_in cx v16.toInt32 v17.toInt32 ∨ own_in cx v18.toInt32 v19.toInt32)))]))
                refine Run.x_istore (q := 521) X110 hx #[.val (.int p1), .val (.int p2), .val (.int p3), .val (.int p4), .val (.int p5), .val (.int (4 : Int32)), .val (.long v2), .second, .val (.long v3), .second, .val (.long v4), .second, .val (.long v5), .second, .val (.long v6), .second, .val (.long v7), .second, .val (.long v8), .second, .val (.long v9), .second, .val (.long v10), .second, .val (.long v12), .second, .val (.long v13), .second, .val (.long v14), .second, .val (.long v15), .second, .val (.long v16), .second, .val (.long v17), .second, .val (.long v18), .second, .val (.long v19), .second, .val (.ref b20), .val (.ref b95), .val (.int cx), .val (.int (0 : Int32)), .val (.int (own_b (own_in cx v12.toInt32 v13.toInt32 ∨ own_in cx v14.toInt32 v15.toInt32 ∨ own_in cx v16.toInt32 v17.toInt32 ∨ own_in cx v18.toInt32 v19.toInt32)))] (hb hby at_519) rfl rfl ?_
                generalize hv111 : (own_b (own_in cx v12.toInt32 v13.toInt32 ∨ own_in cx v14.toInt32 v15.toInt32 ∨ own_in cx v16.toInt32 v17.toInt32 ∨ own_in cx v18.toInt32 v19.toInt32)) = v111
                refine Run.x_iload (q := 523) X110 hx (hb hby at_521) rfl rfl ?_
                refine Run.x_iload (q := 525) X110 hx (hb hby at_523) rfl rfl ?_
                refine Run.x_icmpNo (q := 528) X110 hx (hb hby at_525) (teq (hv111.symm.trans (own_b0 (by simp only [own_b_no hc427, own_b_no hc449, own_b_no hc471, own_b_no hc495, or_false, not_false_eq_true])))).2 rfl ?_
                refine Run.x_iconst (q := 529) X110 hx (hb hby at_528) (z := (1 : Int32)) rfl rfl ?_
                refine Run.x_goto (q := 533) X110 hx (hb hby at_529) (by decide) (by decide) ?_
                refine Run.retN X110 hx hlk e110 (t := .boolean) hret (by simp) (z' := (1 : Int32)) (by decide) (hb hby at_533) (by decide) (by decide) ?_
                exact ⟨rfl, N110⟩
              · skip
                refine Run.x_ifNo (q := 498) X107 hx (hb hby at_495) ((if0 _ _).trans (feq hc495).1) rfl ?_
                refine Run.x_iconst (q := 499) X107 hx (hb hby at_498) (z := (1 : Int32)) rfl rfl ?_
                refine Run.x_goto (q := 503) X107 hx (hb hby at_499) (by decide) (by decide) ?_
                refine Run.x_istore (q := 505) X107 hx #[.val (.int p1), .val (.int p2), .val (.int p3), .val (.int p4), .val (.int p5), .val (.int (4 : Int32)), .val (.long v2), .second, .val (.long v3), .second, .val (.long v4), .second, .val (.long v5), .second, .val (.long v6), .second, .val (.long v7), .second, .val (.long v8), .second, .val (.long v9), .second, .val (.long v10), .second, .val (.long v12), .second, .val (.long v13), .second, .val (.long v14), .second, .val (.long v15), .second, .val (.long v16), .second, .val (.long v17), .second, .val (.long v18), .second, .val (.long v19), .second, .val (.ref b20), .val (.ref b95), .val (.int cx), .val (.int (1 : Int32)), .unset] (hb hby at_503) rfl rfl ?_
                obtain ⟨T112, h112, X112, e112, E112, A112, D112, -, st112⟩ := newO X107 hx hZ hown (hw _ (List.mem_of_getElem? (i := 8) rfl)) (hw _ (List.mem_of_getElem? (i := 9) rfl)) (hw _ (List.mem_of_getElem? (i := 10) rfl)) e107 (g := (mkF m 505 #[.val (.int p1), .val (.int p2), .val (.int p3), .val (.int p4), .val (.int p5), .val (.int (4 : Int32)), .val (.long v2), .second, .val (.long v3), .second, .val (.long v4), .second, .val (.long v5), .second, .val (.long v6), .second, .val (.long v7), .second, .val (.long v8), .second, .val (.long v9), .second, .val (.long v10), .second, .val (.long v12), .second, .val (.long v13), .second, .val (.long v14), .second, .val (.long v15), .second, .val (.long v16), .second, .val (.long v17), .second, .val (.long v18), .second, .val (.long v19), .second, .val (.ref b20), .val (.ref b95), .val (.int cx), .val (.int (1 : Int32)), .unset] [])) rfl (hb hby at_505) (by decide) (by decide)
                obtain ⟨b112, gg112⟩ : ∃ z, z = h103.size := ⟨_, rfl⟩
                rw [← gg112] at A112 D112 st112
                have g_b112 : n0 ≤ b112 := Nat.le_trans Z103 (Nat.le_of_eq gg112.symm)
                have ne_b20_b112 : b20 ≠ b112 := Nat.ne_of_lt (Nat.lt_of_lt_of_le A_b20.lt (Nat.le_of_eq gg112.symm))
                have ne_b95_b112 : b95 ≠ b112 := Nat.ne_of_lt (Nat.lt_of_lt_of_le A_b95.lt (Nat.le_of_eq gg112.symm))
                have Z112 : n0 ≤ h112.size := Nat.le_trans Z103 E112.1
                have E_b112 := A112
                have F_b112_bounds : Fld Z h112 b112 "com/example/corbel/corbel/core/regex/CharSet$Ranges" "bounds" "[I" .null := D112 (Or.inr (hw _ (List.mem_of_getElem? (i := 23) rfl))) (ty := (.array .int)) (by decide)
                refine Run.st st112 ?_
                show Run p e below s _ _ _ (T112.setTop (mkF m 508 #[.val (.int p1), .val (.int p2), .val (.int p3), .val (.int p4), .val (.int p5), .val (.int (4 : Int32)), .val (.long v2), .second, .val (.long v3), .second, .val (.long v4), .second, .val (.long v5), .second, .val (.long v6), .second, .val (.long v7), .second, .val (.long v8), .second, .val (.long v9), .second, .val (.long v10), .second, .val (.long v12), .second, .val (.long v13), .second, .val (.long v14), .second, .val (.long v15), .second, .val (.long v16), .second, .val (.long v17), .second, .val (.long v18), .second, .val (.long v19), .second, .val (.ref b20), .val (.ref b95), .val (.int cx), .val (.int (1 : Int32)), .unset] [(.ref b112)]))
                refine Run.x_dup (q := 509) X112 hx (hb hby at_508) rfl rfl ?_
                refine Run.x_aload (q := 511) X112 hx (hb hby at_509) rfl rfl rfl ?_
                refine Run.callC X112 hx hZ e112 (y := (⟨"com/example/corbel/corbel/core/regex/CharSet$Ranges", "<init>", "([I)V"⟩ : MethodName)) hown rfl (hw _ (List.mem_of_getElem? (i := 11) rfl)) (hw _ (List.mem_of_getElem? (i := 12) rfl)) (hw _ (List.mem_of_getElem? (i := 10) rfl)) (hw _ (List.mem_of_getElem? (i := 13) rfl)) (by decide) (a := b112) (argsL := [(.ref b95)]) (rest := [(.ref b112)]) (c_init l Z a0 hw b112 b95 h112 n0 Z112 E_b112 F_b112_bounds g_b112) pd_2 rfl (by rw [hml]; rfl) (W := 1) rfl (by decide) (by decide) (by decide) (by decide) (hb hby at_511) rfl ?_
                intro T113 v113 L113 X113 q113
                obtain ⟨rfl, M113, K113, E113, F113_0⟩ := q113
                have N113 := Fr.app N107 M113
                show Run p e below s _ _ _ (T113.setTop (mkF m 514 #[.val (.int p1), .val (.int p2), .val (.int p3), .val (.int p4), .val (.int p5), .val (.int (4 : Int32)), .val (.long v2), .second, .val (.long v3), .second, .val (.long v4), .second, .val (.long v5), .second, .val (.long v6), .second, .val (.long v7), .second, .val (.long v8), .second, .val (.long v9), .second, .val (.long v10), .second, .val (.long v12), .second, .val (.long v13), .second, .val (.long v14), .second, .val (.long v15), .second, .val (.long v16), .second, .val (.long v17), .second, .val (.long v18), .second, .val (.long v19), .second, .val (.ref b20), .val (.ref b95), .val (.int cx), .val (.int (1 : Int32)), .unset] [(.ref b112)]))
                have Z113 : n0 ≤ T113.heap.size := Nat.le_trans Z112 K113.1
                refine Run.x_iload (q := 516) X113 hx (hb hby at_514) rfl rfl ?_
                replace E_b112 := E_b112.keep K113
                replace A_b95 := (A_b95.ext E112).keep K113 (ninS ne_b95_b112 nin0)
                refine Run.callV X113 hx hZ rfl (y := (⟨"com/example/corbel/corbel/core/regex/CharSet$Ranges", "contains", "(I)Z"⟩ : MethodName)) (z := (⟨"com/example/corbel/corbel/core/regex/CharSet$Ranges", "contains", "(I)Z"⟩ : MethodName)) hown (hw _ (List.mem_of_getElem? (i := 24) rfl)) (hw _ (List.mem_of_getElem? (i := 25) rfl)) (notFace_of_selects (args := #[]) (mvT hZ (hw _ (List.mem_of_getElem? (i := 27) rfl)))) (hw _ (List.mem_of_getElem? (i := 27) rfl)) (hw _ (List.mem_of_getElem? (i := 26) rfl)) (hw _ (List.mem_of_getElem? (i := 10) rfl)) (hw _ (List.mem_of_getElem? (i := 28) rfl)) (by decide) (a := b112) E_b112 (argsL := [(.int cx)]) (rest := []) (c_con4 l Z a0 hw b112 cx T113.heap n0 Z113 b95 v12.toInt32 v13.toInt32 v14.toInt32 v15.toInt32 v16.toInt32 v17.toInt32 v18.toInt32 v19.toInt32 E_b112 F113_0 A_b95 hsrt) pd_3 rfl (by rw [hml]; rfl) (W := 0) rfl (by decide) (by decide) (by decide) (by decide) (hb hby at_516) rfl ?_
                intro T114 v114 L114 X114 q114
                obtain ⟨rfl, M114, e114⟩ := q114
                have N114 := Fr.app N113 M114
                show Run p e below s _ _ _ (T114.setTop (mkF m 519 #[.val (.int p1), .val (.int p2), .val (.int p3), .val (.int p4), .val (.int p5), .val (.int (4 : Int32)), .val (.long v2), .second, .val (.long v3), .second, .val (.long v4), .second, .val (.long v5), .second, .val (.long v6), .second, .val (.long v7), .second, .val (.long v8), .second, .val (.long v9), .second, .val (.long v10), .second, .val (.long v12), .second, .val (.long v13), .second, .val (.long v14), .second, .val (.long v15), .second, .val (.long v16), .second, .val (.long v17), .second, .val (.long v18), .second, .val (.long v19), .second, .val (.ref b20), .val (.ref b95), .val (.int cx), .val (.int (1 : Int32)), .unset] [(.int (own_b (own_in cx v12.toInt32 v13.toInt32 ∨ own_in cx v14.toInt32 v15.toInt32 ∨ own_in cx v16.toInt32 v17.toInt32 ∨ own_in cx v18.toInt32 v19.toInt32)))]))
                refine Run.x_istore (q := 521) X114 hx #[.val (.int p1), .val (.int p2), .val (.int p3), .val (.int p4), .val (.int p5), .val (.int (4 : Int32)), .val (.long v2), .second, .val (.long v3), .second, .val (.long v4), .second, .val (.long v5), .second, .val (.long v6), .second, .val (.long v7), .second, .val (.long v8), .second, .val (.long v9), .second, .val (.long v10), .second, .val (.long v12), .second, .val (.long v13), .second, .val (.long v14), .second, .val (.long v15), .second, .val (.long v16), .second, .val (.long v17), .second, .val (.long v18), .second, .val (.long v19), .second, .val (.ref b20), .val (.ref b95), .val (.int cx), .val (.int (1 : Int32)), .val (.int (own_b (own_in cx v12.toInt32 v13.toInt32 ∨ own_in cx v14.toInt32 v15.toInt32 ∨ own_in cx v16.toInt32 v17.toInt32 ∨ own_in cx v18.toInt32 v19.toInt32)))] (hb hby at_519) rfl rfl ?_
                generalize hv115 : (own_b (own_in cx v12.toInt32 v13.toInt32 ∨ own_in cx v14.toInt32 v15.toInt32 ∨ own_in cx v16.toInt32 v17.toInt32 ∨ own_in cx v18.toInt32 v19.toInt32)) = v115
                refine Run.x_iload (q := 523) X114 hx (hb hby at_521) rfl rfl ?_
                refine Run.x_iload (q := 525) X114 hx (hb hby at_523) rfl rfl ?_
                refine Run.x_icmpNo (q := 528) X114 hx (hb hby at_525) (teq (hv115.symm.trans (own_b1 (Or.inr (Or.inr (Or.inr (own_b_yes hc495))))))).2 rfl ?_
                refine Run.x_iconst (q := 529) X114 hx (hb hby at_528) (z := (1 : Int32)) rfl rfl ?_
                refine Run.x_goto (q := 533) X114 hx (hb hby at_529) (by decide) (by decide) ?_
                refine Run.retN X114 hx hlk e114 (t := .boolean) hret (by simp) (z' := (1 : Int32)) (by decide) (hb hby at_533) (by decide) (by decide) ?_
                exact ⟨rfl, N114⟩
            · skip
              refine Run.x_ifYes (q := 498) X106 hx (hb hby at_471) ((if0 _ _).trans (feq hc471).2) (by decide) (by decide) ?_
              refine Run.x_iconst (q := 499) X106 hx (hb hby at_498) (z := (1 : Int32)) rfl rfl ?_
              refine Run.x_goto (q := 503) X106 hx (hb hby at_499) (by decide) (by decide) ?_
              refine Run.x_istore (q := 505) X106 hx #[.val (.int p1), .val (.int p2), .val (.int p3), .val (.int p4), .val (.int p5), .val (.int (4 : Int32)), .val (.long v2), .second, .val (.long v3), .second, .val (.long v4), .second, .val (.long v5), .second, .val (.long v6), .second, .val (.long v7), .second, .val (.long v8), .second, .val (.long v9), .second, .val (.long v10), .second, .val (.long v12), .second, .val (.long v13), .second, .val (.long v14), .second, .val (.long v15), .second, .val (.long v16), .second, .val (.long v17), .second, .val (.long v18), .second, .val (.long v19), .second, .val (.ref b20), .val (.ref b95), .val (.int cx), .val (.int (1 : Int32)), .unset] (hb hby at_503) rfl rfl ?_
              obtain ⟨T116, h116, X116, e116, E116, A116, D116, -, st116⟩ := newO X106 hx hZ hown (hw _ (List.mem_of_getElem? (i := 8) rfl)) (hw _ (List.mem_of_getElem? (i := 9) rfl)) (hw _ (List.mem_of_getElem? (i := 10) rfl)) e106 (g := (mkF m 505 #[.val (.int p1), .val (.int p2), .val (.int p3), .val (.int p4), .val (.int p5), .val (.int (4 : Int32)), .val (.long v2), .second, .val (.long v3), .second, .val (.long v4), .second, .val (.long v5), .second, .val (.long v6), .second, .val (.long v7), .second, .val (.long v8), .second, .val (.long v9), .second, .val (.long v10), .second, .val (.long v12), .second, .val (.long v13), .second, .val (.long v14), .second, .val (.long v15), .second, .val (.long v16), .second, .val (.long v17), .second, .val (.long v18), .second, .val (.long v19), .second, .val (.ref b20), .val (.ref b95), .val (.int cx), .val (.int (1 : Int32)), .unset] [])) rfl (hb hby at_505) (by decide) (by decide)
              obtain ⟨b116, gg116⟩ : ∃ z, z = h103.size := ⟨_, rfl⟩
              rw [← gg116] at A116 D116 st116
              have g_b116 : n0 ≤ b116 := Nat.le_trans Z103 (Nat.le_of_eq gg116.symm)
              have ne_b20_b116 : b20 ≠ b116 := Nat.ne_of_lt (Nat.lt_of_lt_of_le A_b20.lt (Nat.le_of_eq gg116.symm))
              have ne_b95_b116 : b95 ≠ b116 := Nat.ne_of_lt (Nat.lt_of_lt_of_le A_b95.lt (Nat.le_of_eq gg116.symm))
              have Z116 : n0 ≤ h116.size := Nat.le_trans Z103 E116.1
              have E_b116 := A116
              have F_b116_bounds : Fld Z h116 b116 "com/example/corbel/corbel/core/regex/CharSet$Ranges" "bounds" "[I" .null := D116 (Or.inr (hw _ (List.mem_of_getElem? (i := 23) rfl))) (ty := (.array .int)) (by decide)
              refine Run.st st116 ?_
              show Run p e below s _ _ _ (T116.setTop (mkF m 508 #[.val (.int p1), .val (.int p2), .val (.int p3), .val (.int p4), .val (.int p5), .val (.int (4 : Int32)), .val (.long v2), .second, .val (.long v3), .second, .val (.long v4), .second, .val (.long v5), .second, .val (.long v6), .second, .val (.long v7), .second, .val (.long v8), .second, .val (.long v9), .second, .val (.long v10), .second, .val (.long v12), .second, .val (.long v13), .second, .val (.long v14), .second, .val (.long v15), .second, .val (.long v16), .second, .val (.long v17), .second, .val (.long v18), .second, .val (.long v19), .second, .val (.ref b20), .val (.ref b95), .val (.int cx), .val (.int (1 : Int32)), .unset] [(.ref b116)]))
              refine Run.x_dup (q := 509) X116 hx (hb hby at_508) rfl rfl ?_
              refine Run.x_aload (q := 511) X116 hx (hb hby at_509) rfl rfl rfl ?_
              refine Run.callC X116 hx hZ e116 (y := (⟨"com/example/corbel/corbel/core/regex/CharSet$Ranges", "<init>", "([I)V"⟩ : MethodName)) hown rfl (hw _ (List.mem_of_getElem? (i := 11) rfl)) (hw _ (List.mem_of_getElem? (i := 12) rfl)) (hw _ (List.mem_of_getElem? (i := 10) rfl)) (hw _ (List.mem_of_getElem? (i := 13) rfl)) (by decide) (a := b116) (argsL := [(.ref b95)]) (rest := [(.ref b116)]) (c_init l Z a0 hw b116 b95 h116 n0 Z116 E_b116 F_b116_bounds g_b116) pd_2 rfl (by rw [hml]; rfl) (W := 1) rfl (by decide) (by decide) (by decide) (by decide) (hb hby at_511) rfl ?_
              intro T117 v117 L117 X117 q117
              obtain ⟨rfl, M117, K117, E117, F117_0⟩ := q117
              have N117 := Fr.app N106 M117
              show Run p e below s _ _ _ (T117.setTop (mkF m 514 #[.val (.int p1), .val (.int p2), .val (.int p3), .val (.int p4), .val (.int p5), .val (.int (4 : Int32)), .val (.long v2), .second, .val (.long v3), .second, .val (.long v4), .second, .val (.long v5), .second, .val (.long v6), .second, .val (.long v7), .second, .val (.long v8), .second, .val (.long v9), .second, .val (.long v10), .second, .val (.long v12), .second, .val (.long v13), .second, .val (.long v14), .second, .val (.long v15), .second, .val (.long v16), .second, .val (.long v17), .second, .val (.long v18), .second, .val (.long v19), .second, .val (.ref b20), .val (.ref b95), .val (.int cx), .val (.int (1 : Int32)), .unset] [(.ref b116)]))
              have Z117 : n0 ≤ T117.heap.size := Nat.le_trans Z116 K117.1
              refine Run.x_iload (q := 516) X117 hx (hb hby at_514) rfl rfl ?_
              replace E_b116 := E_b116.keep K117
              replace A_b95 := (A_b95.ext E116).keep K117 (ninS ne_b95_b116 nin0)
              refine Run.callV X117 hx hZ rfl (y := (⟨"com/example/corbel/corbel/core/regex/CharSet$Ranges", "contains", "(I)Z"⟩ : MethodName)) (z := (⟨"com/example/corbel/corbel/core/regex/CharSet$Ranges", "contains", "(I)Z"⟩ : MethodName)) hown (hw _ (List.mem_of_getElem? (i := 24) rfl)) (hw _ (List.mem_of_getElem? (i := 25) rfl)) (notFace_of_selects (args := #[]) (mvT hZ (hw _ (List.mem_of_getElem? (i := 27) rfl)))) (hw _ (List.mem_of_getElem? (i := 27) rfl)) (hw _ (List.mem_of_getElem? (i := 26) rfl)) (hw _ (List.mem_of_getElem? (i := 10) rfl)) (hw _ (List.mem_of_getElem? (i := 28) rfl)) (by decide) (a := b116) E_b116 (argsL := [(.int cx)]) (rest := []) (c_con4 l Z a0 hw b116 cx T117.heap n0 Z117 b95 v12.toInt32 v13.toInt32 v14.toInt32 v15.toInt32 v16.toInt32 v17.toInt32 v18.toInt32 v19.toInt32 E_b116 F117_0 A_b95 hsrt) pd_3 rfl (by rw [hml]; rfl) (W := 0) rfl (by decide) (by decide) (by decide) (by decide) (hb hby at_516) rfl ?_
              intro T118 v118 L118 X118 q118
              obtain ⟨rfl, M118, e118⟩ := q118
              have N118 := Fr.app N117 M118
              show Run p e below s _ _ _ (T118.setTop (mkF m 519 #[.val (.int p1), .val (.int p2), .val (.int p3), .val (.int p4), .val (.int p5), .val (.int (4 : Int32)), .val (.long v2), .second, .val (.long v3), .second, .val (.long v4), .second, .val (.long v5), .second, .val (.long v6), .second, .val (.long v7), .second, .val (.long v8), .second, .val (.long v9), .second, .val (.long v10), .second, .val (.long v12), .second, .val (.long v13), .second, .val (.long v14), .second, .val (.long v15), .second, .val (.long v16), .second, .val (.long v17), .second, .val (.long v18), .second, .val (.long v19), .second, .val (.ref b20), .val (.ref b95), .val (.int cx), .val (.int (1 : Int32)), .unset] [(.int (own_b (own_in cx v12.toInt32 v13.toInt32 ∨ own_in cx v14.toInt32 v15.toInt32 ∨ own_in cx v16.toInt32 v17.toInt32 ∨ own_in cx v18.toInt32 v19.toInt32)))]))
              refine Run.x_istore (q := 521) X118 hx #[.val (.int p1), .val (.int p2), .val (.int p3), .val (.int p4), .val (.int p5), .val (.int (4 : Int32)), .val (.long v2), .second, .val (.long v3), .second, .val (.long v4), .second, .val (.long v5), .second, .val (.long v6), .second, .val (.long v7), .second, .val (.long v8), .second, .val (.long v9), .second, .val (.long v10), .second, .val (.long v12), .second, .val (.long v13), .second, .val (.long v14), .second, .val (.long v15), .second, .val (.long v16), .second, .val (.long v17), .second, .val (.long v18), .second, .val (.long v19), .second, .val (.ref b20), .val (.ref b95), .val (.int cx), .val (.int (1 : Int32)), .val (.int (own_b (own_in cx v12.toInt32 v13.toInt32 ∨ own_in cx v14.toInt32 v15.toInt32 ∨ own_in cx v16.toInt32 v17.toInt32 ∨ own_in cx v18.toInt32 v19.toInt32)))] (hb hby at_519) rfl rfl ?_
              generalize hv119 : (own_b (own_in cx v12.toInt32 v13.toInt32 ∨ own_in cx v14.toInt32 v15.toInt32 ∨ own_in cx v16.toInt32 v17.toInt32 ∨ own_in cx v18.toInt32 v19.toInt32)) = v119
              refine Run.x_iload (q := 523) X118 hx (hb hby at_521) rfl rfl ?_
              refine Run.x_iload (q := 525) X118 hx (hb hby at_523) rfl rfl ?_
              refine Run.x_icmpNo (q := 528) X118 hx (hb hby at_525) (teq (hv119.symm.trans (own_b1 (Or.inr (Or.inr (Or.inl (own_b_yes hc471))))))).2 rfl ?_
              refine Run.x_iconst (q := 529) X118 hx (hb hby at_528) (z := (1 : Int32)) rfl rfl ?_
              refine Run.x_goto (q := 533) X118 hx (hb hby at_529) (by decide) (by decide) ?_
              refine Run.retN X118 hx hlk e118 (t := .boolean) hret (by simp) (z' := (1 : Int32)) (by decide) (hb hby at_533) (by decide) (by decide) ?_
              exact ⟨rfl, N118⟩
          · skip
            refine Run.x_ifYes (q := 498) X105 hx (hb hby at_449) ((if0 _ _).trans (feq hc449).2) (by decide) (by decide) ?_
            refine Run.x_iconst (q := 499) X105 hx (hb hby at_498) (z := (1 : Int32)) rfl rfl ?_
            refine Run.x_goto (q := 503) X105 hx (hb hby at_499) (by decide) (by decide) ?_
            refine Run.x_istore (q := 505) X105 hx #[.val (.int p1), .val (.int p2), .val (.int p3), .val (.int p4), .val (.int p5), .val (.int (4 : Int32)), .val (.long v2), .second, .val (.long v3), .second, .val (.long v4), .second, .val (.long v5), .second, .val (.long v6), .second, .val (.long v7), .second, .val (.long v8), .second, .val (.long v9), .second, .val (.long v10), .second, .val (.long v12), .second, .val (.long v13), .second, .val (.long v14), .second, .val (.long v15), .second, .val (.long v16), .second, .val (.long v17), .second, .val (.long v18), .second, .val (.long v19), .second, .val (.ref b20), .val (.ref b95), .val (.int cx), .val (.int (1 : Int32)), .unset] (hb hby at_503) rfl rfl ?_
            obtain ⟨T120, h120, X120, e120, E120, A120, D120, -, st120⟩ := newO X105 hx hZ hown (hw _ (List.mem_of_getElem? (i := 8) rfl)) (hw _ (List.mem_of_getElem? (i := 9) rfl)) (hw _ (List.mem_of_getElem? (i := 10) rfl)) e105 (g := (mkF m 505 #[.val (.int p1), .val (.int p2), .val (.int p3), .val (.int p4), .val (.int p5), .val (.int (4 : Int32)), .val (.long v2), .second, .val (.long v3), .second, .val (.long v4), .second, .val (.long v5), .second, .val (.long v6), .second, .val (.long v7), .second, .val (.long v8), .second, .val (.long v9), .second, .val (.long v10), .second, .val (.long v12), .second, .val (.long v13), .second, .val (.long v14), .second, .val (.long v15), .second, .val (.long v16), .second, .val (.long v17), .second, .val (.long v18), .second, .val (.long v19), .second, .val (.ref b20), .val (.ref b95), .val (.int cx), .val (.int (1 : Int32)), .unset] [])) rfl (hb hby at_505) (by decide) (by decide)
            obtain ⟨b120, gg120⟩ : ∃ z, z = h103.size := ⟨_, rfl⟩
            rw [← gg120] at A120 D120 st120
            have g_b120 : n0 ≤ b120 := Nat.le_trans Z103 (Nat.le_of_eq gg120.symm)
            have ne_b20_b120 : b20 ≠ b120 := Nat.ne_of_lt (Nat.lt_of_lt_of_le A_b20.lt (Nat.le_of_eq gg120.symm))
            have ne_b95_b120 : b95 ≠ b120 := Nat.ne_of_lt (Nat.lt_of_lt_of_le A_b95.lt (Nat.le_of_eq gg120.symm))
            have Z120 : n0 ≤ h120.size := Nat.le_trans Z103 E120.1
            have E_b120 := A120
            have F_b120_bounds : Fld Z h120 b120 "com/example/corbel/corbel/core/regex/CharSet$Ranges" "bounds" "[I" .null := D120 (Or.inr (hw _ (List.mem_of_getElem? (i := 23) rfl))) (ty := (.array .int)) (by decide)
            refine Run.st st120 ?_
            show Run p e below s _ _ _ (T120.setTop (mkF m 508 #[.val (.int p1), .val (.int p2), .val (.int p3), .val (.int p4), .val (.int p5), .val (.int (4 : Int32)), .val (.long v2), .second, .val (.long v3), .second, .val (.long v4), .second, .val (.long v5), .second, .val (.long v6), .second, .val (.long v7), .second, .val (.long v8), .second, .val (.long v9), .second, .val (.long v10), .second, .val (.long v12), .second, .val (.long v13), .second, .val (.long v14), .second, .val (.long v15), .second, .val (.long v16), .second, .val (.long v17), .second, .val (.long v18), .second, .val (.long v19), .second, .val (.ref b20), .val (.ref b95), .val (.int cx), .val (.int (1 : Int32)), .unset] [(.ref b120)]))
            refine Run.x_dup (q := 509) X120 hx (hb hby at_508) rfl rfl ?_
            refine Run.x_aload (q := 511) X120 hx (hb hby at_509) rfl rfl rfl ?_
            refine Run.callC X120 hx hZ e120 (y := (⟨"com/example/corbel/corbel/core/regex/CharSet$Ranges", "<init>", "([I)V"⟩ : MethodName)) hown rfl (hw _ (List.mem_of_getElem? (i := 11) rfl)) (hw _ (List.mem_of_getElem? (i := 12) rfl)) (hw _ (List.mem_of_getElem? (i := 10) rfl)) (hw _ (List.mem_of_getElem? (i := 13) rfl)) (by decide) (a := b120) (argsL := [(.ref b95)]) (rest := [(.ref b120)]) (c_init l Z a0 hw b120 b95 h120 n0 Z120 E_b120 F_b120_bounds g_b120) pd_2 rfl (by rw [hml]; rfl) (W := 1) rfl (by decide) (by decide) (by decide) (by decide) (hb hby at_511) rfl ?_
            intro T121 v121 L121 X121 q121
            obtain ⟨rfl, M121, K121, E121, F121_0⟩ := q121
            have N121 := Fr.app N105 M121
            show Run p e below s _ _ _ (T121.setTop (mkF m 514 #[.val (.int p1), .val (.int p2), .val (.int p3), .val (.int p4), .val (.int p5), .val (.int (4 : Int32)), .val (.long v2), .second, .val (.long v3), .second, .val (.long v4), .second, .val (.long v5), .second, .val (.long v6), .second, .val (.long v7), .second, .val (.long v8), .second, .val (.long v9), .second, .val (.long v10), .second, .val (.long v12), .second, .val (.long v13), .second, .val (.long v14), .second, .val (.long v15), .second, .val (.long v16), .second, .val (.long v17), .second, .val (.long v18), .second, .val (.long v19), .second, .val (.ref b20), .val (.ref b95), .val (.int cx), .val (.int (1 : Int32)), .unset] [(.ref b120)]))
            have Z121 : n0 ≤ T121.heap.size := Nat.le_trans Z120 K121.1
            refine Run.x_iload (q := 516) X121 hx (hb hby at_514) rfl rfl ?_
            replace E_b120 := E_b120.keep K121
            replace A_b95 := (A_b95.ext E120).keep K121 (ninS ne_b95_b120 nin0)
            refine Run.callV X121 hx hZ rfl (y := (⟨"com/example/corbel/corbel/core/regex/CharSet$Ranges", "contains", "(I)Z"⟩ : MethodName)) (z := (⟨"com/example/corbel/corbel/core/regex/CharSet$Ranges", "contains", "(I)Z"⟩ : MethodName)) hown (hw _ (List.mem_of_getElem? (i := 24) rfl)) (hw _ (List.mem_of_getElem? (i := 25) rfl)) (notFace_of_selects (args := #[]) (mvT hZ (hw _ (List.mem_of_getElem? (i := 27) rfl)))) (hw _ (List.mem_of_getElem? (i := 27) rfl)) (hw _ (List.mem_of_getElem? (i := 26) rfl)) (hw _ (List.mem_of_getElem? (i := 10) rfl)) (hw _ (List.mem_of_getElem? (i := 28) rfl)) (by decide) (a := b120) E_b120 (argsL := [(.int cx)]) (rest := []) (c_con4 l Z a0 hw b120 cx T121.heap n0 Z121 b95 v12.toInt32 v13.toInt32 v14.toInt32 v15.toInt32 v16.toInt32 v17.toInt32 v18.toInt32 v19.toInt32 E_b120 F121_0 A_b95 hsrt) pd_3 rfl (by rw [hml]; rfl) (W := 0) rfl (by decide) (by decide) (by decide) (by decide) (hb hby at_516) rfl ?_
            intro T122 v122 L122 X122 q122
            obtain ⟨rfl, M122, e122⟩ := q122
            have N122 := Fr.app N121 M122
            show Run p e below s _ _ _ (T122.setTop (mkF m 519 #[.val (.int p1), .val (.int p2), .val (.int p3), .val (.int p4), .val (.int p5), .val (.int (4 : Int32)), .val (.long v2), .second, .val (.long v3), .second, .val (.long v4), .second, .val (.long v5), .second, .val (.long v6), .second, .val (.long v7), .second, .val (.long v8), .second, .val (.long v9), .second, .val (.long v10), .second, .val (.long v12), .second, .val (.long v13), .second, .val (.long v14), .second, .val (.long v15), .second, .val (.long v16), .second, .val (.long v17), .second, .val (.long v18), .second, .val (.long v19), .second, .val (.ref b20), .val (.ref b95), .val (.int cx), .val (.int (1 : Int32)), .unset] [(.int (own_b (own_in cx v12.toInt32 v13.toInt32 ∨ own_in cx v14.toInt32 v15.toInt32 ∨ own_in cx v16.toInt32 v17.toInt32 ∨ own_in cx v18.toInt32 v19.toInt32)))]))
            refine Run.x_istore (q := 521) X122 hx #[.val (.int p1), .val (.int p2), .val (.int p3), .val (.int p4), .val (.int p5), .val (.int (4 : Int32)), .val (.long v2), .second, .val (.long v3), .second, .val (.long v4), .second, .val (.long v5), .second, .val (.long v6), .second, .val (.long v7), .second, .val (.long v8), .second, .val (.long v9), .second, .val (.long v10), .second, .val (.long v12), .second, .val (.long v13), .second, .val (.long v14), .second, .val (.long v15), .second, .val (.long v16), .second, .val (.long v17), .second, .val (.long v18), .second, .val (.long v19), .second, .val (.ref b20), .val (.ref b95), .val (.int cx), .val (.int (1 : Int32)), .val (.int (own_b (own_in cx v12.toInt32 v13.toInt32 ∨ own_in cx v14.toInt32 v15.toInt32 ∨ own_in cx v16.toInt32 v17.toInt32 ∨ own_in cx v18.toInt32 v19.toInt32)))] (hb hby at_519) rfl rfl ?_
            generalize hv123 : (own_b (own_in cx v12.toInt32 v13.toInt32 ∨ own_in cx v14.toInt32 v15.toInt32 ∨ own_in cx v16.toInt32 v17.toInt32 ∨ own_in cx v18.toInt32 v19.toInt32)) = v123
            refine Run.x_iload (q := 523) X122 hx (hb hby at_521) rfl rfl ?_
            refine Run.x_iload (q := 525) X122 hx (hb hby at_523) rfl rfl ?_
            refine Run.x_icmpNo (q := 528) X122 hx (hb hby at_525) (teq (hv123.symm.trans (own_b1 (Or.inr (Or.inl (own_b_yes hc449)))))).2 rfl ?_
            refine Run.x_iconst (q := 529) X122 hx (hb hby at_528) (z := (1 : Int32)) rfl rfl ?_
            refine Run.x_goto (q := 533) X122 hx (hb hby at_529) (by decide) (by decide) ?_
            refine Run.retN X122 hx hlk e122 (t := .boolean) hret (by simp) (z' := (1 : Int32)) (by decide) (hb hby at_533) (by decide) (by decide) ?_
            exact ⟨rfl, N122⟩
        · skip
          refine Run.x_ifYes (q := 498) X104 hx (hb hby at_427) ((if0 _ _).trans (feq hc427).2) (by decide) (by decide) ?_
          refine Run.x_iconst (q := 499) X104 hx (hb hby at_498) (z := (1 : Int32)) rfl rfl ?_
          refine Run.x_goto (q := 503) X104 hx (hb hby at_499) (by decide) (by decide) ?_
          refine Run.x_istore (q := 505) X104 hx #[.val (.int p1), .val (.int p2), .val (.int p3), .val (.int p4), .val (.int p5), .val (.int (4 : Int32)), .val (.long v2), .second, .val (.long v3), .second, .val (.long v4), .second, .val (.long v5), .second, .val (.long v6), .second, .val (.long v7), .second, .val (.long v8), .second, .val (.long v9), .second, .val (.long v10), .second, .val (.long v12), .second, .val (.long v13), .second, .val (.long v14), .second, .val (.long v15), .second, .val (.long v16), .second, .val (.long v17), .second, .val (.long v18), .second, .val (.long v19), .second, .val (.ref b20), .val (.ref b95), .val (.int cx), .val (.int (1 : Int32)), .unset] (hb hby at_503) rfl rfl ?_
          obtain ⟨T124, h124, X124, e124, E124, A124, D124, -, st124⟩ := newO X104 hx hZ hown (hw _ (List.mem_of_getElem? (i := 8) rfl)) (hw _ (List.mem_of_getElem? (i := 9) rfl)) (hw _ (List.mem_of_getElem? (i := 10) rfl)) e104 (g := (mkF m 505 #[.val (.int p1), .val (.int p2), .val (.int p3), .val (.int p4), .val (.int p5), .val (.int (4 : Int32)), .val (.long v2), .second, .val (.long v3), .second, .val (.long v4), .second, .val (.long v5), .second, .val (.long v6), .second, .val (.long v7), .second, .val (.long v8), .second, .val (.long v9), .second, .val (.long v10), .second, .val (.long v12), .second, .val (.long v13), .second, .val (.long v14), .second, .val (.long v15), .second, .val (.long v16), .second, .val (.long v17), .second, .val (.long v18), .second, .val (.long v19), .second, .val (.ref b20), .val (.ref b95), .val (.int cx), .val (.int (1 : Int32)), .unset] [])) rfl (hb hby at_505) (by decide) (by decide)
          obtain ⟨b124, gg124⟩ : ∃ z, z = h103.size := ⟨_, rfl⟩
          rw [← gg124] at A124 D124 st124
          have g_b124 : n0 ≤ b124 := Nat.le_trans Z103 (Nat.le_of_eq gg124.symm)
          have ne_b20_b124 : b20 ≠ b124 := Nat.ne_of_lt (Nat.lt_of_lt_of_le A_b20.lt (Nat.le_of_eq gg124.symm))
          have ne_b95_b124 : b95 ≠ b124 := Nat.ne_of_lt (Nat.lt_of_lt_of_le A_b95.lt (Nat.le_of_eq gg124.symm))
          have Z124 : n0 ≤ h124.size := Nat.le_trans Z103 E124.1
          have E_b124 := A124
          have F_b124_bounds : Fld Z h124 b124 "com/example/corbel/corbel/core/regex/CharSet$Ranges" "bounds" "[I" .null := D124 (Or.inr (hw _ (List.mem_of_getElem? (i := 23) rfl))) (ty := (.array .int)) (by decide)
          refine Run.st st124 ?_
          show Run p e below s _ _ _ (T124.setTop (mkF m 508 #[.val (.int p1), .val (.int p2), .val (.int p3), .val (.int p4), .val (.int p5), .val (.int (4 : Int32)), .val (.long v2), .second, .val (.long v3), .second, .val (.long v4), .second, .val (.long v5), .second, .val (.long v6), .second, .val (.long v7), .second, .val (.long v8), .second, .val (.long v9), .second, .val (.long v10), .second, .val (.long v12), .second, .val (.long v13), .second, .val (.long v14), .second, .val (.long v15), .second, .val (.long v16), .second, .val (.long v17), .second, .val (.long v18), .second, .val (.long v19), .second, .val (.ref b20), .val (.ref b95), .val (.int cx), .val (.int (1 : Int32)), .unset] [(.ref b124)]))
          refine Run.x_dup (q := 509) X124 hx (hb hby at_508) rfl rfl ?_
          refine Run.x_aload (q := 511) X124 hx (hb hby at_509) rfl rfl rfl ?_
          refine Run.callC X124 hx hZ e124 (y := (⟨"com/example/corbel/corbel/core/regex/CharSet$Ranges", "<init>", "([I)V"⟩ : MethodName)) hown rfl (hw _ (List.mem_of_getElem? (i := 11) rfl)) (hw _ (List.mem_of_getElem? (i := 12) rfl)) (hw _ (List.mem_of_getElem? (i := 10) rfl)) (hw _ (List.mem_of_getElem? (i := 13) rfl)) (by decide) (a := b124) (argsL := [(.ref b95)]) (rest := [(.ref b124)]) (c_init l Z a0 hw b124 b95 h124 n0 Z124 E_b124 F_b124_bounds g_b124) pd_2 rfl (by rw [hml]; rfl) (W := 1) rfl (by decide) (by decide) (by decide) (by decide) (hb hby at_511) rfl ?_
          intro T125 v125 L125 X125 q125
          obtain ⟨rfl, M125, K125, E125, F125_0⟩ := q125
          have N125 := Fr.app N104 M125
          show Run p e below s _ _ _ (T125.setTop (mkF m 514 #[.val (.int p1), .val (.int p2), .val (.int p3), .val (.int p4), .val (.int p5), .val (.int (4 : Int32)), .val (.long v2), .second, .val (.long v3), .second, .val (.long v4), .second, .val (.long v5), .second, .val (.long v6), .second, .val (.long v7), .second, .val (.long v8), .second, .val (.long v9), .second, .val (.long v10), .second, .val (.long v12), .second, .val (.long v13), .second, .val (.long v14), .second, .val (.long v15), .second, .val (.long v16), .second, .val (.long v17), .second, .val (.long v18), .second, .val (.long v19), .second, .val (.ref b20), .val (.ref b95), .val (.int cx), .val (.int (1 : Int32)), .unset] [(.ref b124)]))
          have Z125 : n0 ≤ T125.heap.size := Nat.le_trans Z124 K125.1
          refine Run.x_iload (q := 516) X125 hx (hb hby at_514) rfl rfl ?_
          replace E_b124 := E_b124.keep K125
          replace A_b95 := (A_b95.ext E124).keep K125 (ninS ne_b95_b124 nin0)
          refine Run.callV X125 hx hZ rfl (y := (⟨"com/example/corbel/corbel/core/regex/CharSet$Ranges", "contains", "(I)Z"⟩ : MethodName)) (z := (⟨"com/example/corbel/corbel/core/regex/CharSet$Ranges", "contains", "(I)Z"⟩ : MethodName)) hown (hw _ (List.mem_of_getElem? (i := 24) rfl)) (hw _ (List.mem_of_getElem? (i := 25) rfl)) (notFace_of_selects (args := #[]) (mvT hZ (hw _ (List.mem_of_getElem? (i := 27) rfl)))) (hw _ (List.mem_of_getElem? (i := 27) rfl)) (hw _ (List.mem_of_getElem? (i := 26) rfl)) (hw _ (List.mem_of_getElem? (i := 10) rfl)) (hw _ (List.mem_of_getElem? (i := 28) rfl)) (by decide) (a := b124) E_b124 (argsL := [(.int cx)]) (rest := []) (c_con4 l Z a0 hw b124 cx T125.heap n0 Z125 b95 v12.toInt32 v13.toInt32 v14.toInt32 v15.toInt32 v16.toInt32 v17.toInt32 v18.toInt32 v19.toInt32 E_b124 F125_0 A_b95 hsrt) pd_3 rfl (by rw [hml]; rfl) (W := 0) rfl (by decide) (by decide) (by decide) (by decide) (hb hby at_516) rfl ?_
          intro T126 v126 L126 X126 q126
          obtain ⟨rfl, M126, e126⟩ := q126
          have N126 := Fr.app N125 M126
          show Run p e below s _ _ _ (T126.setTop (mkF m 519 #[.val (.int p1), .val (.int p2), .val (.int p3), .val (.int p4), .val (.int p5), .val (.int (4 : Int32)), .val (.long v2), .second, .val (.long v3), .second, .val (.long v4), .second, .val (.long v5), .second, .val (.long v6), .second, .val (.long v7), .second, .val (.long v8), .second, .val (.long v9), .second, .val (.long v10), .second, .val (.long v12), .second, .val (.long v13), .second, .val (.long v14), .second, .val (.long v15), .second, .val (.long v16), .second, .val (.long v17), .second, .val (.long v18), .second, .val (.long v19), .second, .val (.ref b20), .val (.ref b95), .val (.int cx), .val (.int (1 : Int32)), .unset] [(.int (own_b (own_in cx v12.toInt32 v13.toInt32 ∨ own_in cx v14.toInt32 v15.toInt32 ∨ own_in cx v16.toInt32 v17.toInt32 ∨ own_in cx v18.toInt32 v19.toInt32)))]))
          refine Run.x_istore (q := 521) X126 hx #[.val (.int p1), .val (.int p2), .val (.int p3), .val (.int p4), .val (.int p5), .val (.int (4 : Int32)), .val (.long v2), .second, .val (.long v3), .second, .val (.long v4), .second, .val (.long v5), .second, .val (.long v6), .second, .val (.long v7), .second, .val (.long v8), .second, .val (.long v9), .second, .val (.long v10), .second, .val (.long v12), .second, .val (.long v13), .second, .val (.long v14), .second, .val (.long v15), .second, .val (.long v16), .second, .val (.long v17), .second, .val (.long v18), .second, .val (.long v19), .second, .val (.ref b20), .val (.ref b95), .val (.int cx), .val (.int (1 : Int32)), .val (.int (own_b (own_in cx v12.toInt32 v13.toInt32 ∨ own_in cx v14.toInt32 v15.toInt32 ∨ own_in cx v16.toInt32 v17.toInt32 ∨ own_in cx v18.toInt32 v19.toInt32)))] (hb hby at_519) rfl rfl ?_
          generalize hv127 : (own_b (own_in cx v12.toInt32 v13.toInt32 ∨ own_in cx v14.toInt32 v15.toInt32 ∨ own_in cx v16.toInt32 v17.toInt32 ∨ own_in cx v18.toInt32 v19.toInt32)) = v127
          refine Run.x_iload (q := 523) X126 hx (hb hby at_521) rfl rfl ?_
          refine Run.x_iload (q := 525) X126 hx (hb hby at_523) rfl rfl ?_
          refine Run.x_icmpNo (q := 528) X126 hx (hb hby at_525) (teq (hv127.symm.trans (own_b1 (Or.inl (own_b_yes hc427))))).2 rfl ?_
          refine Run.x_iconst (q := 529) X126 hx (hb hby at_528) (z := (1 : Int32)) rfl rfl ?_
          refine Run.x_goto (q := 533) X126 hx (hb hby at_529) (by decide) (by decide) ?_
          refine Run.retN X126 hx hlk e126 (t := .boolean) hret (by simp) (z' := (1 : Int32)) (by decide) (hb hby at_533) (by decide) (by decide) ?_
          exact ⟨rfl, N126⟩
      refine Run.x_iload (q := 383) X103 hx (hb hby at_381) rfl rfl ?_
      refine Run.x_bipush (q := 385) X103 hx (hb hby at_383) (z := (7 : Int32)) rfl rfl ?_
      refine Run.x_iushr (q := 386) X103 hx (hb hby at_385) rfl rfl ?_
      refine Run.x_iconst (q := 387) X103 hx (hb hby at_386) (z := (2 : Int32)) rfl rfl ?_
      refine Run.x_iand (q := 388) X103 hx (hb hby at_387) rfl rfl ?_
      by_cases hc388 : (((p5.toUInt32 >>> ((7 : Int32) &&& 31).toUInt32).toInt32) &&& (2 : Int32)) = (0 : Int32)
      · skip
        refine Run.x_ifYes (q := 408) X103 hx (hb hby at_388) ((if0 _ _).trans (teq hc388).1) (by decide) (by decide) ?_
        exact J408 _
      · skip
        refine Run.x_ifNo (q := 391) X103 hx (hb hby at_388) ((if0 _ _).trans (feq hc388).1) rfl ?_
        refine Run.x_aload (q := 393) X103 hx (hb hby at_391) rfl rfl rfl ?_
        refine Run.x_iloadN (q := 394) X103 hx (hb hby at_393) rfl rfl ?_
        refine Run.x_iconst (q := 395) X103 hx (hb hby at_394) (z := (2 : Int32)) rfl rfl ?_
        refine Run.x_iushr (q := 396) X103 hx (hb hby at_395) rfl rfl ?_
        refine Run.x_bipush (q := 398) X103 hx (hb hby at_396) (z := (7 : Int32)) rfl rfl ?_
        refine Run.x_iand (q := 399) X103 hx (hb hby at_398) rfl rfl ?_
        replace A_b20 := A_b20.other W103 ne_b20_b95
        obtain ⟨ix, hix, hlt⟩ := own_idx ((p1.toUInt32 >>> ((2 : Int32) &&& 31).toUInt32).toInt32)
        obtain ⟨xv, hxv⟩ := ints_at [v12.toInt32, v13.toInt32, v14.toInt32, v15.toInt32, v16.toInt32, v17.toInt32, v18.toInt32, v19.toInt32] (i := ix) hlt
        refine Run.ldI X103 hx hZ e103 A_b20 (i := ix) (v := (.int xv)) hix hxv (hb hby at_399) ?_
        show Run p e below s _ _ _ (T103.setTop (mkF m 400 #[.val (.int p1), .val (.int p2), .val (.int p3), .val (.int p4), .val (.int p5), .val (.int (4 : Int32)), .val (.long v2), .second, .val (.long v3), .second, .val (.long v4), .second, .val (.long v5), .second, .val (.long v6), .second, .val (.long v7), .second, .val (.long v8), .second, .val (.long v9), .second, .val (.long v10), .second, .val (.long v12), .second, .val (.long v13), .second, .val (.long v14), .second, .val (.long v15), .second, .val (.long v16), .second, .val (.long v17), .second, .val (.long v18), .second, .val (.long v19), .second, .val (.ref b20), .val (.ref b95), .val (.int p1), .unset, .unset] [(.int xv)]))
        refine Run.x_iloadN (q := 401) X103 hx (hb hby at_400) rfl rfl ?_
        refine Run.x_iconst (q := 402) X103 hx (hb hby at_401) (z := (3 : Int32)) rfl rfl ?_
        refine Run.x_iand (q := 403) X103 hx (hb hby at_402) rfl rfl ?_
        refine Run.x_iadd (q := 404) X103 hx (hb hby at_403) rfl rfl ?_
        refine Run.x_iconst (q := 405) X103 hx (hb hby at_404) (z := (1 : Int32)) rfl rfl ?_
        refine Run.x_isub (q := 406) X103 hx (hb hby at_405) rfl rfl ?_
        refine Run.x_istore (q := 408) X103 hx #[.val (.int p1), .val (.int p2), .val (.int p3), .val (.int p4), .val (.int p5), .val (.int (4 : Int32)), .val (.long v2), .second, .val (.long v3), .second, .val (.long v4), .second, .val (.long v5), .second, .val (.long v6), .second, .val (.long v7), .second, .val (.long v8), .second, .val (.long v9), .second, .val (.long v10), .second, .val (.long v12), .second, .val (.long v13), .second, .val (.long v14), .second, .val (.long v15), .second, .val (.long v16), .second, .val (.long v17), .second, .val (.long v18), .second, .val (.long v19), .second, .val (.ref b20), .val (.ref b95), .val (.int ((xv + (p1 &&& (3 : Int32))) - (1 : Int32))), .unset, .unset] (hb hby at_406) rfl rfl ?_
        generalize hv128 : ((xv + (p1 &&& (3 : Int32))) - (1 : Int32)) = v128
        exact J408 _
  refine Run.x_iload (q := 9) X0 hx (hb hby at_7) rfl rfl ?_
  refine Run.x_iconst (q := 10) X0 hx (hb hby at_9) (z := (4 : Int32)) rfl rfl ?_
  by_cases hc10 : (4 : Int32) < v1
  · skip
    refine Run.x_icmpNo (q := 13) X0 hx (hb hby at_10) (tlt hc10).2.2.2 rfl ?_
    refine Run.x_iload (q := 15) X0 hx (hb hby at_13) rfl rfl ?_
    refine Run.x_iconst (q := 16) X0 hx (hb hby at_15) (z := (4 : Int32)) rfl rfl ?_
    refine Run.x_isub (q := 17) X0 hx (hb hby at_16) rfl rfl ?_
    refine Run.x_istore (q := 19) X0 hx #[.val (.int p1), .val (.int p2), .val (.int p3), .val (.int p4), .val (.int p5), .val (.int (v1 - (4 : Int32))), .unset, .unset, .unset, .unset, .unset, .unset, .unset, .unset, .unset, .unset, .unset, .unset, .unset, .unset, .unset, .unset, .unset, .unset, .unset, .unset, .unset, .unset, .unset, .unset, .unset, .unset, .unset, .unset, .unset, .unset, .unset, .unset, .unset, .unset, .unset, .unset, .unset, .unset, .unset] (hb hby at_17) rfl rfl ?_
    generalize hv129 : (v1 - (4 : Int32)) = v129
    exact J19 _ (own_cnt hv1 hc10 hv129)
  · skip
    refine Run.x_icmpYes (q := 19) X0 hx (hb hby at_10) (flt hc10).2.2.2 (by decide) (by decide) ?_
    exact J19 _ (own_cnt' hv1 hc10)
set_option maxRecDepth 65536 in
set_option maxHeartbeats 40000000 in
theorem comes_1 {Post : Tables → Env → Array Value → State → Outcome → State → Prop} (hpost : ∀ tb e args s v u, (limb_1_1.after args s (.returned v) u = true ∧ limb_1_2.after args s (.returned v) u = true ∧ True) → FrameEnd s (.returned v) u (Jvm.fieldLocs frame_1_writes args s ++ Jvm.arrayLocs frame_1_arrays args s ++ Jvm.staticLocs frame_1_statics s) 16 128 → Post tb e args s (.returned v) u) :
    ArmFor flags0 classFile x code maxLocals ret World_1 tables_1 room_1 Calls_1 rest_1 Pre_1 Post := by
  intro l hfl _ _ p e ha hc hk s m args below hf hA hF happ hP
  obtain ⟨hcalls, hrest, hpre⟩ := hP
  obtain ⟨-, -, -, hnamed, -, -, -, hat⟩ := (Spec.applies_iff hf).mp happ
  obtain ⟨hg, hn⟩ := and_e (Cond.before_iff.mp (show (Jvm.Cond.and given_1 narrow_1).before args s = true from hpre))
  obtain ⟨g1, g2⟩ := and_e hg
  obtain ⟨g3, g4⟩ := and_e g2
  obtain ⟨g5, g6⟩ := and_e g4
  obtain ⟨g7, g8⟩ := and_e g6
  obtain ⟨g9, g10⟩ := and_e g8
  obtain ⟨w0, w1, w2, w3, w4, rfl⟩ : ∃ w0 w1 w2 w3 w4 : Value, args = #[w0, w1, w2, w3, w4] := by
    have hs : args.size = 5 := by simpa [Cond.value, given_1] using g1
    obtain ⟨L⟩ := args
    match L, hs with
    | [w0, w1, w2, w3, w4], _ => exact ⟨w0, w1, w2, w3, w4, rfl⟩
  have hw := fun d (hd : d ∈ tables_1) => atoms_spec (ws := Jvm.Cond.code x code maxLocals ret :: tables_1) hat d (List.mem_cons_of_mem _ hd)
  have hfit : Fit s := fun {y c} hc i hi => by
    obtain ⟨ha, rfl⟩ := Array.getElem?_eq_some_iff.mp hc
    have q := List.all_eq_true.mp ((Array.all_eq_true_iff_forall_mem.mp hF) _ (Array.getElem_mem ha)) i (List.mem_range.mpr hi)
    simpa [Array.getElem?_eq_getElem hi] using q
  obtain ⟨i0, ei0⟩ := is_v g3
  obtain rfl : w0 = (.int i0) := Option.some.inj ei0
  obtain ⟨i1, ei1⟩ := is_v g5
  obtain rfl : w1 = (.int i1) := Option.some.inj ei1
  obtain ⟨i2, ei2⟩ := is_v g7
  obtain rfl : w2 = (.int i2) := Option.some.inj ei2
  obtain ⟨i3, ei3⟩ := is_v g9
  obtain rfl : w3 = (.int i3) := Option.some.inj ei3
  obtain ⟨i4, ei4⟩ := is_v g10
  obtain rfl : w4 = (.int i4) := Option.some.inj ei4
  obtain ⟨n, o, h1, h2, h3, _, L, rfl, ⟨rfl, N⟩, hq⟩ := c_law l s _ hw i0 i1 i2 i3 i4 s.heap s.heap.size (Nat.le_refl _)  tables_1 p e ha hc hk s m _ below hf ((Spec.applies_iff_loose hf).mp happ).1 ⟨rfl, State.Warmed39.refl s, rfl⟩ trivial
  refine ⟨n, _, h1, h2, h3, hpost _ _ _ _ _ _ ⟨Cond.after_iff.mpr rfl, Cond.after_iff.mpr (eq_i res_at (Term.int_eval (1)) rfl), trivial⟩ ⟨hq.1, hq.2.1, (hq.2.2.sift fun y hy => Or.inr (N y hy)).mono (by decide) (by decide)⟩⟩
theorem main_1_1 : Claimed_1_1 := comes_1 fun _ _ _ _ _ _ h hF => ⟨h.1, hF⟩
theorem main_1_2 : Claimed_1_2 := comes_1 fun _ _ _ _ _ _ h hF => ⟨h.2.1, hF⟩
end Jvm.Pilot.@@N@@
namespace Jvm.Pilot.@@N@@
open Jvm Jvm.ClassFile Sem Op Lib Jvm.Free Jvm.Stand Jvm.Pilot.@@N@@.Jvm.D
/-! MADE BY PROGRAM (witnessworld.py) out of the Statement's table words and the real class files: 11 classes; the members and pool entries that the words name. The judged class is class 1, her method 1. -/
namespace start1
open Jvm.ClassFile
def u (s : String) : CpInfo := .utf8 (stringToUtf16 s)
/-- a pool by its gaps: so many unusable entries, then the entry; so many at the end -/
def gap : Nat → List CpInfo → List CpInfo
  | 0, r => r
  | n + 1, r => .unusable :: gap n r
def poolList (es : List (Nat × CpInfo)) (last : Nat) : List CpInfo := es.foldr (fun e r => gap e.1 (e.2 :: r)) (gap last [])
def pool (es : List (Nat × CpInfo)) (last : Nat) : Array CpInfo := ⟨poolList es last⟩
def fileOf (pool : Array CpInfo) (this : Nat) (attrs : Array Attribute := #[]) (ms : Array MethodInfo := #[]) (fl : Nat := 33) (sup : Nat := 0) (ifs : Array Nat := #[]) (fds : Array FieldInfo := #[]) : ClassFile where
  minorVersion := 0
  majorVersion := 65
  constantPool := pool
  accessFlags := fl
  thisClass := this
  superClass := sup
  interfaces := ifs
  fields := fds
  methods := ms
  attributes := attrs
def plain (name : String) (sup : Option ClassId) : Class where
  name := name
  kind := .ordinary
  loader := none
  accessFlags := 33
  super := sup
  interfaces := #[]
  cf := none
  fields := #[]
  methods := #[]
  instanceTypes := #[]
  staticTypes := #[]
  resolved := #[]
  callSites := []
  init := .initialized
  statics := none
  mirror := none

def pool0 : Array CpInfo := pool [(5, u "<init>"), (0, u "()V"), (1, .class_ 10), (1, u "java/lang/Object")] 113

def k0c0 : Code := { maxStack := 0, maxLocals := 1, code := object_method_1_code, exceptionTable := #[], attributes := #[] }
def k0m0 : Method := { name := "<init>", desc := "()V", sig := { parameters := [], returnType := none }, accessFlags := 1, code := some k0c0 }
/-- java/lang/Object -/
def k0 : Class := { plain "java/lang/Object" none with
  accessFlags := 33
  interfaces := #[]
  cf := some (fileOf pool0 8 #[] #[{ accessFlags := 1, nameIndex := 5, descriptorIndex := 6, attributes := #[] }] 33 0 #[] #[])
  fields := #[]
  methods := #[k0m0]
  instanceTypes := #[]
  staticTypes := #[]
  resolved := Array.replicate 124 none
  statics := none }

def pool1 : Array CpInfo := pool [(2, .class_ 4), (1, u "java/lang/Object"), (0, u "<init>"), (0, u "()V"), (0, .long 6), (3, .long 2147483647), (1, .methodref 14 15), (0, .class_ 16), (0, .nameAndType 17 18), (0, u "java/lang/Math"), (0, u "min"), (0, u "(JJ)J"), (0, .long 2), (1, .methodref 22 23), (0, .class_ 24), (0, .nameAndType 25 26), (0, u "com/example/corbel/corbel/core/regex/RangesContainsPinLaw"), (0, u "in"), (0, u "(III)Z"), (0, .class_ 28), (0, u "com/example/corbel/corbel/core/regex/CharSet$Ranges"), (0, .methodref 27 30), (0, .nameAndType 5 31), (0, u "([I)V"), (0, .methodref 27 33), (0, .nameAndType 34 35), (0, u "contains"), (0, u "(I)Z"), (2, u "law"), (0, u "(IIIII)Z")] 9

def k1m0 : Method := { name := "<init>", desc := "()V", sig := { parameters := [], returnType := none }, accessFlags := 1, code := none }
def k1c1 : Code := { maxStack := 6, maxLocals := 45, code := code, exceptionTable := #[], attributes := #[] }
def k1m1 : Method := { name := "law", desc := "(IIIII)Z", sig := { parameters := [.int, .int, .int, .int, .int], returnType := some .boolean }, accessFlags := 9, code := some k1c1 }
def k1c2 : Code := { maxStack := 2, maxLocals := 3, code := method_3_code, exceptionTable := #[], attributes := #[] }
def k1m2 : Method := { name := "in", desc := "(III)Z", sig := { parameters := [.int, .int, .int], returnType := some .boolean }, accessFlags := 10, code := some k1c2 }
/-- com/example/corbel/corbel/core/regex/RangesContainsPinLaw -/
def k1 : Class := { plain "com/example/corbel/corbel/core/regex/RangesContainsPinLaw" (some 0) with
  accessFlags := 49
  interfaces := #[]
  cf := some (fileOf pool1 22 #[] #[{ accessFlags := 1, nameIndex := 5, descriptorIndex := 6, attributes := #[] }, { accessFlags := 9, nameIndex := 38, descriptorIndex := 39, attributes := #[] }, { accessFlags := 10, nameIndex := 25, descriptorIndex := 26, attributes := #[] }] 49 2 #[] #[])
  fields := #[]
  methods := #[k1m0, k1m1, k1m2]
  instanceTypes := #[]
  staticTypes := #[]
  resolved := Array.replicate 49 none
  statics := none }

def pool2 : Array CpInfo := pool [(1, .class_ 2), (0, u "java/lang/Math"), (1, .class_ 6), (1, u "java/lang/Object"), (0, u "<init>"), (0, u "()V"), (89, .class_ 100), (1, u "java/lang/Math$RandomNumberGeneratorHolder"), (20, u "(JJ)J"), (50, u "negativeZeroFloatBits"), (0, u "J"), (2, u "negativeZeroDoubleBits"), (24, u "min"), (43, u "$assertionsDisabled"), (0, u "Z"), (91, u "twoToTheDoubleScaleDown"), (0, u "D"), (4, u "twoToTheDoubleScaleUp"), (9, u "E"), (3, u "PI"), (2, u "TAU"), (2, u "DEGREES_TO_RADIANS"), (0, u "RADIANS_TO_DEGREES")] 94

def k2m0 : Method := { name := "<init>", desc := "()V", sig := { parameters := [], returnType := none }, accessFlags := 2, code := none }
def k2c1 : Code := { maxStack := 4, maxLocals := 4, code := jdk_29_method_70_code, exceptionTable := #[], attributes := #[] }
def k2m1 : Method := { name := "min", desc := "(JJ)J", sig := { parameters := [.long, .long], returnType := some .long }, accessFlags := 9, code := some k2c1 }
/-- java/lang/Math -/
def k2 : Class := { plain "java/lang/Math" (some 0) with
  accessFlags := 49
  interfaces := #[]
  cf := some (fileOf pool2 1 #[.nestMembers #[98]] #[{ accessFlags := 2, nameIndex := 7, descriptorIndex := 8, attributes := #[] }, { accessFlags := 9, nameIndex := 201, descriptorIndex := 121, attributes := #[] }] 49 4 #[] #[{ accessFlags := 25, nameIndex := 354, descriptorIndex := 339, attributes := #[] }, { accessFlags := 25, nameIndex := 358, descriptorIndex := 339, attributes := #[] }, { accessFlags := 25, nameIndex := 361, descriptorIndex := 339, attributes := #[] }, { accessFlags := 26, nameIndex := 364, descriptorIndex := 339, attributes := #[] }, { accessFlags := 26, nameIndex := 365, descriptorIndex := 339, attributes := #[] }, { accessFlags := 26, nameIndex := 172, descriptorIndex := 173, attributes := #[] }, { accessFlags := 26, nameIndex := 176, descriptorIndex := 173, attributes := #[] }, { accessFlags := 8, nameIndex := 344, descriptorIndex := 339, attributes := #[] }, { accessFlags := 8, nameIndex := 338, descriptorIndex := 339, attributes := #[] }, { accessFlags := 4120, nameIndex := 245, descriptorIndex := 246, attributes := #[] }])
  fields := #[{ name := "E", type := .double, accessFlags := 25, slot := 0, constantValue := 0 }, { name := "PI", type := .double, accessFlags := 25, slot := 1, constantValue := 0 }, { name := "TAU", type := .double, accessFlags := 25, slot := 2, constantValue := 0 }, { name := "DEGREES_TO_RADIANS", type := .double, accessFlags := 26, slot := 3, constantValue := 0 }, { name := "RADIANS_TO_DEGREES", type := .double, accessFlags := 26, slot := 4, constantValue := 0 }, { name := "negativeZeroFloatBits", type := .long, accessFlags := 26, slot := 5, constantValue := 0 }, { name := "negativeZeroDoubleBits", type := .long, accessFlags := 26, slot := 6, constantValue := 0 }, { name := "twoToTheDoubleScaleUp", type := .double, accessFlags := 8, slot := 7, constantValue := 0 }, { name := "twoToTheDoubleScaleDown", type := .double, accessFlags := 8, slot := 8, constantValue := 0 }, { name := "$assertionsDisabled", type := .boolean, accessFlags := 4120, slot := 9, constantValue := 0 }]
  methods := #[k2m0, k2m1]
  instanceTypes := #[]
  staticTypes := #[.double, .double, .double, .double, .double, .long, .long, .double, .double, .boolean]
  resolved := Array.replicate 460 none
  statics := none }

def pool3 : Array CpInfo := pool [(1, .methodref 2 3), (0, .class_ 4), (0, .nameAndType 5 6), (0, u "java/lang/Object"), (0, u "<init>"), (0, u "()V"), (0, .class_ 8), (0, u "com/example/corbel/corbel/core/regex/CharSet$Complement"), (9, .class_ 19), (0, u "com/example/corbel/corbel/core/regex/CharSet$Ranges"), (3, .class_ 24), (0, u "com/example/corbel/corbel/core/regex/CharSet$FoldedCharacter"), (7, .class_ 33), (0, u "com/example/corbel/corbel/core/regex/CharSet$Property"), (7, .class_ 43), (1, u "com/example/corbel/corbel/core/regex/CharSet"), (0, u "ANY"), (0, u "Lcom/example/corbel/corbel/core/regex/CharSet;"), (6, u "NOT_LINE_END"), (2, u "NOT_LINE_FEED"), (2, u "DIGIT"), (0, u "Lcom/example/corbel/corbel/core/regex/CharSet$Ranges;"), (2, u "SPACE"), (2, u "WORD"), (2, u "HORIZONTAL_SPACE"), (2, u "VERTICAL_SPACE"), (0, u "PROPERTY_COST"), (0, u "I"), (16, .class_ 91), (0, u "com/example/corbel/corbel/core/regex/CharSet$Builder"), (0, .class_ 93), (0, u "com/example/corbel/corbel/core/regex/CharSet$Intersection"), (0, .class_ 95), (0, u "com/example/corbel/corbel/core/regex/CharSet$Union")] 8

def k3c0 : Code := { maxStack := 1, maxLocals := 1, code := prog_44_method_1_code, exceptionTable := #[], attributes := #[] }
def k3m0 : Method := { name := "<init>", desc := "()V", sig := { parameters := [], returnType := none }, accessFlags := 0, code := some k3c0 }
/-- com/example/corbel/corbel/core/regex/CharSet -/
def k3 : Class := { plain "com/example/corbel/corbel/core/regex/CharSet" (some 0) with
  accessFlags := 1056
  interfaces := #[]
  cf := some (fileOf pool3 41 #[.nestMembers #[90, 32, 7, 92, 94, 23, 18]] #[{ accessFlags := 0, nameIndex := 5, descriptorIndex := 6, attributes := #[] }] 1056 2 #[] #[{ accessFlags := 24, nameIndex := 72, descriptorIndex := 73, attributes := #[] }, { accessFlags := 24, nameIndex := 44, descriptorIndex := 45, attributes := #[] }, { accessFlags := 24, nameIndex := 52, descriptorIndex := 45, attributes := #[] }, { accessFlags := 24, nameIndex := 55, descriptorIndex := 45, attributes := #[] }, { accessFlags := 24, nameIndex := 58, descriptorIndex := 59, attributes := #[] }, { accessFlags := 24, nameIndex := 62, descriptorIndex := 59, attributes := #[] }, { accessFlags := 24, nameIndex := 65, descriptorIndex := 59, attributes := #[] }, { accessFlags := 24, nameIndex := 68, descriptorIndex := 59, attributes := #[] }, { accessFlags := 24, nameIndex := 71, descriptorIndex := 59, attributes := #[] }])
  fields := #[{ name := "PROPERTY_COST", type := .int, accessFlags := 24, slot := 0, constantValue := 0 }, { name := "ANY", type := (.object "com/example/corbel/corbel/core/regex/CharSet"), accessFlags := 24, slot := 1, constantValue := 0 }, { name := "NOT_LINE_END", type := (.object "com/example/corbel/corbel/core/regex/CharSet"), accessFlags := 24, slot := 2, constantValue := 0 }, { name := "NOT_LINE_FEED", type := (.object "com/example/corbel/corbel/core/regex/CharSet"), accessFlags := 24, slot := 3, constantValue := 0 }, { name := "DIGIT", type := (.object "com/example/corbel/corbel/core/regex/CharSet$Ranges"), accessFlags := 24, slot := 4, constantValue := 0 }, { name := "SPACE", type := (.object "com/example/corbel/corbel/core/regex/CharSet$Ranges"), accessFlags := 24, slot := 5, constantValue := 0 }, { name := "WORD", type := (.object "com/example/corbel/corbel/core/regex/CharSet$Ranges"), accessFlags := 24, slot := 6, constantValue := 0 }, { name := "HORIZONTAL_SPACE", type := (.object "com/example/corbel/corbel/core/regex/CharSet$Ranges"), accessFlags := 24, slot := 7, constantValue := 0 }, { name := "VERTICAL_SPACE", type := (.object "com/example/corbel/corbel/core/regex/CharSet$Ranges"), accessFlags := 24, slot := 8, constantValue := 0 }]
  methods := #[k3m0]
  instanceTypes := #[]
  staticTypes := #[.int, (.object "com/example/corbel/corbel/core/regex/CharSet"), (.object "com/example/corbel/corbel/core/regex/CharSet"), (.object "com/example/corbel/corbel/core/regex/CharSet"), (.object "com/example/corbel/corbel/core/regex/CharSet$Ranges"), (.object "com/example/corbel/corbel/core/regex/CharSet$Ranges"), (.object "com/example/corbel/corbel/core/regex/CharSet$Ranges"), (.object "com/example/corbel/corbel/core/regex/CharSet$Ranges"), (.object "com/example/corbel/corbel/core/regex/CharSet$Ranges")]
  resolved := Array.replicate 104 none
  statics := none }

def pool4 : Array CpInfo := pool [(1, .methodref 2 3), (0, .class_ 4), (0, .nameAndType 5 6), (0, u "com/example/corbel/corbel/core/regex/CharSet"), (0, u "<init>"), (0, u "()V"), (0, .fieldref 8 9), (0, .class_ 10), (0, .nameAndType 11 12), (0, u "com/example/corbel/corbel/core/regex/CharSet$Ranges"), (0, u "bounds"), (0, u "[I"), (18, u "([I)V"), (10, u "contains"), (0, u "(I)Z")] 5

def k4c0 : Code := { maxStack := 2, maxLocals := 2, code := prog_50_method_1_code, exceptionTable := #[], attributes := #[] }
def k4m0 : Method := { name := "<init>", desc := "([I)V", sig := { parameters := [(.array .int)], returnType := none }, accessFlags := 0, code := some k4c0 }
def k4c1 : Code := { maxStack := 4, maxLocals := 5, code := prog_50_method_4_code, exceptionTable := #[], attributes := #[] }
def k4m1 : Method := { name := "contains", desc := "(I)Z", sig := { parameters := [.int], returnType := some .boolean }, accessFlags := 0, code := some k4c1 }
/-- com/example/corbel/corbel/core/regex/CharSet$Ranges -/
def k4 : Class := { plain "com/example/corbel/corbel/core/regex/CharSet$Ranges" (some 3) with
  accessFlags := 48
  interfaces := #[]
  cf := some (fileOf pool4 8 #[.nestHost 2] #[{ accessFlags := 0, nameIndex := 5, descriptorIndex := 31, attributes := #[] }, { accessFlags := 0, nameIndex := 42, descriptorIndex := 43, attributes := #[] }] 48 2 #[] #[{ accessFlags := 18, nameIndex := 11, descriptorIndex := 12, attributes := #[] }])
  fields := #[{ name := "bounds", type := (.array .int), accessFlags := 18, slot := 0, constantValue := 0 }]
  methods := #[k4m0, k4m1]
  instanceTypes := #[(.array .int)]
  staticTypes := #[]
  resolved := Array.replicate 49 none
  statics := none }

def pool5 : Array CpInfo := pool [(1, u "java/lang/Cloneable"), (0, .class_ 1), (0, u "java/lang/Object"), (0, .class_ 3)] 3

/-- java/lang/Cloneable -/
def k5 : Class := { plain "java/lang/Cloneable" (some 0) with
  accessFlags := 1537
  interfaces := #[]
  cf := some (fileOf pool5 2 #[] #[] 1537 4 #[] #[])
  fields := #[]
  methods := #[]
  instanceTypes := #[]
  staticTypes := #[]
  resolved := Array.replicate 8 none
  statics := none }

def pool6 : Array CpInfo := pool [(1, u "java/io/Serializable"), (0, .class_ 1), (0, u "java/lang/Object"), (0, .class_ 3)] 3

/-- java/io/Serializable -/
def k6 : Class := { plain "java/io/Serializable" (some 0) with
  accessFlags := 1537
  interfaces := #[]
  cf := some (fileOf pool6 2 #[] #[] 1537 4 #[] #[])
  fields := #[]
  methods := #[]
  instanceTypes := #[]
  staticTypes := #[]
  resolved := Array.replicate 8 none
  statics := none }

/-- the primitive byte -/
def k7 : Class := { plain "byte" none with kind := .primitive 'B', accessFlags := 0x411 }
/-- [B -/
def k8 : Class := { plain "[B" (some 0) with kind := .array 7 .byte, interfaces := #[5, 6], accessFlags := 1041 }

/-- the primitive int -/
def k9 : Class := { plain "int" none with kind := .primitive 'I', accessFlags := 0x411 }
/-- [I -/
def k10 : Class := { plain "[I" (some 0) with kind := .array 9 .int, interfaces := #[5, 6], accessFlags := 1041 }

def heap : Heap := #[]
def classes : Array Class := #[k0, k1, k2, k3, k4, k5, k6, k7, k8, k9, k10]
def interned : List (Array UInt16 × Addr) := []
def slotsUsed : Nat := 0
def theMethod : MethodId := ⟨1, 1⟩
def args0 : Array Value := #[.int 65, .int 66, .int 5, .int 7, .int 3]
def aboutOver (below : List Frame) : State where
  vm := { classes := classes, interned := interned.toArray }
  heap := heap
  slotsUsed := slotsUsed
  threads := #[{ frames := .invoking theMethod args0 :: below }]
def below0 : List Frame := [.native { method := ⟨0, 0⟩, args := #[] }]
def about1 : State := aboutOver below0
def p0 : Program := .bare "" "" ""
def e0 : Env := launch0.env 0 0 0
theorem w_frames : about1.frames = Frame.invoking theMethod args0 :: below0 := rfl
set_option maxRecDepth 65536 in
theorem w_args : argsFit about1.vm theMethod args0 = true := by decide +kernel
set_option maxRecDepth 65536 in
theorem w_heap : heapFits about1 = true := by decide +kernel
set_option maxRecDepth 65536 in
theorem w_runnable : about1.curStatus? = some .runnable := by decide +kernel
set_option maxRecDepth 65536 in
theorem w_alone : about1.alone = true := by decide +kernel
set_option maxRecDepth 65536 in
theorem w_named : about1.methodNamed? x = some theMethod := by decide +kernel
set_option maxRecDepth 65536 in
theorem w_hears : about1.hears theMethod below0 = true := by decide +kernel
set_option maxRecDepth 65536 in
theorem w_ripe : about1.ripe theMethod args0 below0 = true := by decide +kernel
theorem w_running : about1.status = .running := rfl
set_option maxRecDepth 65536 in
theorem w_room : about1.hasRoom e0.platform room_1 = true :=
  launch0.hasRoom_least _ room_1 (by decide +kernel) (by decide +kernel) (by decide +kernel) (by decide +kernel) (by decide +kernel) (by decide +kernel)
theorem allAtoms_all (ts : List Jvm.Cond) (a : Array Jvm.Value) (st : Jvm.State) : (allAtoms ts).before a st = ts.all (fun c => c.before a st) := by
  induction ts with
  | nil => rfl
  | cons c t ih =>
    show (Jvm.Cond.and c (allAtoms t)).before a st = _
    rw [Jvm.Cond.before_and, ih, List.all_cons]
def words1 : List Jvm.Cond := Jvm.Cond.code x code maxLocals ret :: tables_1
/-- a 'code' word, met by the world's own term for the bytes: nothing is compared byte by byte -/
theorem code_word {y : MethodName} {bytes : ByteArray} {mx : Nat} {rt : Option FieldType} {a : Array Value} {s : State} {m : MethodId} {meth : Method} {c : Code} (h1 : s.methodNamed? y = some m) (h2 : s.vm.method? m = some meth) (h3 : meth.code = some c) (h4 : c.code = bytes)
    (h5 : (c.maxLocals == mx && c.exceptionTable.isEmpty && decide (c.maxStack ≤ mostOperands) && decide (meth.sig.returnType = rt) && !meth.locks && decide (parseMethodDescriptor y.desc = some meth.sig)) = true) : (Jvm.Cond.code y bytes mx rt).before a s = true := by
  simp only [Bool.and_eq_true, beq_iff_eq, Bool.not_eq_true', decide_eq_true_eq] at h5
  obtain ⟨⟨⟨⟨⟨g1, g2⟩, g3⟩, g4⟩, g5⟩, g6⟩ := h5
  simp [Cond.before, Cond.holds, Cond.value, h1, h2, h3, h4, g1, g2, g3, g4, g5, g6]
def isCode : Jvm.Cond → Bool
  | .code _ _ _ _ => true
  | _ => false
theorem all_split {L : List Jvm.Cond} {P : Jvm.Cond → Bool} (h1 : L.all (fun c => isCode c || P c) = true) (h2 : ∀ c ∈ L.filter isCode, P c = true) : L.all P = true := by
  refine List.all_eq_true.mpr fun c hc => ?_
  have h := List.all_eq_true.mp h1 c hc
  rcases Bool.eq_false_or_eq_true (isCode c) with hi | hi
  · exact h2 c (List.mem_filter.mpr ⟨hc, hi⟩)
  · simpa [hi] using h
set_option maxRecDepth 65536 in
theorem w_c0 : (Jvm.Cond.code x code maxLocals ret).before args0 about1 = true := code_word (m := ⟨1, 1⟩) (meth := k1m1) (c := k1c1) (by decide +kernel) rfl rfl rfl (by decide +kernel)
set_option maxRecDepth 65536 in
theorem w_c1 : (Jvm.Cond.code ({ cls := "java/lang/Math", name := "min", desc := "(JJ)J" } : Jvm.MethodName) jdk_29_method_70_code (4 : Nat) (Option.some Jvm.ClassFile.FieldType.long)).before args0 about1 = true := code_word (m := ⟨2, 1⟩) (meth := k2m1) (c := k2c1) (by decide +kernel) rfl rfl rfl (by decide +kernel)
set_option maxRecDepth 65536 in
theorem w_c2 : (Jvm.Cond.code ({ cls := "com/example/corbel/corbel/core/regex/CharSet$Ranges", name := "<init>", desc := "([I)V" } : Jvm.MethodName) prog_50_method_1_code (2 : Nat) (Option.none : Option Jvm.ClassFile.FieldType)).before args0 about1 = true := code_word (m := ⟨4, 0⟩) (meth := k4m0) (c := k4c0) (by decide +kernel) rfl rfl rfl (by decide +kernel)
set_option maxRecDepth 65536 in
theorem w_c3 : (Jvm.Cond.code ({ cls := "com/example/corbel/corbel/core/regex/CharSet", name := "<init>", desc := "()V" } : Jvm.MethodName) prog_44_method_1_code (1 : Nat) (Option.none : Option Jvm.ClassFile.FieldType)).before args0 about1 = true := code_word (m := ⟨3, 0⟩) (meth := k3m0) (c := k3c0) (by decide +kernel) rfl rfl rfl (by decide +kernel)
set_option maxRecDepth 65536 in
theorem w_c4 : (Jvm.Cond.code ({ cls := "java/lang/Object", name := "<init>", desc := "()V" } : Jvm.MethodName) object_method_1_code (1 : Nat) (Option.none : Option Jvm.ClassFile.FieldType)).before args0 about1 = true := code_word (m := ⟨0, 0⟩) (meth := k0m0) (c := k0c0) (by decide +kernel) rfl rfl rfl (by decide +kernel)
set_option maxRecDepth 65536 in
theorem w_c5 : (Jvm.Cond.code ({ cls := "com/example/corbel/corbel/core/regex/CharSet$Ranges", name := "contains", desc := "(I)Z" } : Jvm.MethodName) prog_50_method_4_code (5 : Nat) (Option.some Jvm.ClassFile.FieldType.boolean)).before args0 about1 = true := code_word (m := ⟨4, 1⟩) (meth := k4m1) (c := k4c1) (by decide +kernel) rfl rfl rfl (by decide +kernel)
set_option maxRecDepth 65536 in
theorem w_c6 : (Jvm.Cond.code ({ cls := "com/example/corbel/corbel/core/regex/RangesContainsPinLaw", name := "in", desc := "(III)Z" } : Jvm.MethodName) method_3_code (3 : Nat) (Option.some Jvm.ClassFile.FieldType.boolean)).before args0 about1 = true := code_word (m := ⟨1, 2⟩) (meth := k1m2) (c := k1c2) (by decide +kernel) rfl rfl rfl (by decide +kernel)
def codes1 : List Jvm.Cond := [Jvm.Cond.code x code maxLocals ret, Jvm.Cond.code ({ cls := "java/lang/Math", name := "min", desc := "(JJ)J" } : Jvm.MethodName) jdk_29_method_70_code (4 : Nat) (Option.some Jvm.ClassFile.FieldType.long), Jvm.Cond.code ({ cls := "com/example/corbel/corbel/core/regex/CharSet$Ranges", name := "<init>", desc := "([I)V" } : Jvm.MethodName) prog_50_method_1_code (2 : Nat) (Option.none : Option Jvm.ClassFile.FieldType), Jvm.Cond.code ({ cls := "com/example/corbel/corbel/core/regex/CharSet", name := "<init>", desc := "()V" } : Jvm.MethodName) prog_44_method_1_code (1 : Nat) (Option.none : Option Jvm.ClassFile.FieldType), Jvm.Cond.code ({ cls := "java/lang/Object", name := "<init>", desc := "()V" } : Jvm.MethodName) object_method_1_code (1 : Nat) (Option.none : Option Jvm.ClassFile.FieldType), Jvm.Cond.code ({ cls := "com/example/corbel/corbel/core/regex/CharSet$Ranges", name := "contains", desc := "(I)Z" } : Jvm.MethodName) prog_50_method_4_code (5 : Nat) (Option.some Jvm.ClassFile.FieldType.boolean), Jvm.Cond.code ({ cls := "com/example/corbel/corbel/core/regex/RangesContainsPinLaw", name := "in", desc := "(III)Z" } : Jvm.MethodName) method_3_code (3 : Nat) (Option.some Jvm.ClassFile.FieldType.boolean)]
set_option maxRecDepth 65536 in
theorem codes_eq : words1.filter isCode = codes1 := rfl
theorem w_codes : ∀ c ∈ words1.filter isCode, c.before args0 about1 = true := by
  rw [codes_eq]
  intro c hc
  simp only [codes1, List.mem_cons, List.not_mem_nil, or_false] at hc
  rcases hc with rfl | rfl | rfl | rfl | rfl | rfl | rfl
  · exact w_c0
  · exact w_c1
  · exact w_c2
  · exact w_c3
  · exact w_c4
  · exact w_c5
  · exact w_c6
set_option maxRecDepth 65536 in
theorem w_t1 : (words1.take 24).all (fun c => isCode c || c.before args0 about1) = true := by decide +kernel
set_option maxRecDepth 65536 in
theorem w_t2 : (words1.drop 24).all (fun c => isCode c || c.before args0 about1) = true := by decide +kernel
theorem w_tables : (allAtoms (Jvm.Cond.code x code maxLocals ret :: tables_1)).before args0 about1 = true := by
  rw [allAtoms_all]
  show words1.all (fun c => c.before args0 about1) = true
  refine all_split ?_ w_codes
  rw [← List.take_append_drop 24 words1, List.all_append, w_t1, w_t2]
  rfl
set_option maxRecDepth 65536 in
theorem w_case : (Jvm.Cond.and given_1 narrow_1).before args0 about1 = true := by decide +kernel
theorem w_applies : (headSpec (Jvm.Cond.code x code maxLocals ret :: tables_1) room_1).applies x e0.platform about1 = true :=
  (Spec.applies_iff w_frames).mpr ⟨w_running, w_runnable, w_alone, w_named, w_hears, w_ripe, w_room, w_tables⟩
theorem atStart : AtStart classFile x code maxLocals ret World_1 tables_1 room_1 Calls_1 rest_1 Pre_1 launch0 p0 e0 about1 theMethod args0 below0 :=
  ⟨lists_1, trivial, launch0.admits_env _ _ _, launch0.least_env, fairChoices_fair.cas, fairChoices_fair.clock, w_frames, w_args, w_heap, w_applies, trivial, trivial, w_case⟩
end start1
theorem witness_1 : WitnessClaimed_1 := ⟨start1.p0, start1.e0, start1.about1, start1.theMethod, start1.args0, start1.below0, start1.atStart⟩
end Jvm.Pilot.@@N@@
