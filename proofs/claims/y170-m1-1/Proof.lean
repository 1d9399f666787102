import JvmDerived
import JvmDerived.Pilot.@@N@@Statement
import JvmDerived.Pilot.@@N@@Code
set_option linter.unusedVariables false
set_option linter.unusedSimpArgs false
namespace Jvm.OwnRun
open Sem ClassFile Op Lib Jvm.Stand Jvm.Free Jvm.LawKit Jvm.RoadKit
/-- the run that stands at A comes to the end of this invocation, and Q holds there -/
def Run (p : Program) (e : Env) (below : List Frame) (s : State) (Q : Option Value → Heap → List Loc → Prop) (k n : Nat) (A : State) : Prop :=
  ∃ s₂ o, Steps p.tables e below A s₂ ∧ s₂.status = .running ∧ Ended s₂ below o ∧ ∃ v L, o = .returned v ∧ Q v s₂.heap L ∧ FrameEnd s o s₂ L k n
/-- the contract of a body at one heap and one row of arguments -/
def Ctr (l : Launch) (Z : State) (y : MethodName) (bytes : ByteArray) (ml : Nat) (ret : Option FieldType) (rm : Room) (as' : Array Value) (h0 : Heap) (Q : Option Value → Heap → List Loc → Prop) : Prop :=
  ∀ ws : List Jvm.Cond, MetFree l y (head1 (Jvm.Cond.code y bytes ml ret :: ws) rm) (fun a U => a = as' ∧ Z.Warmed39 U.vm ∧ U.heap = h0) (fun _ _ _ _ _ => True) (fun _ U o U' => ∃ v L, o = .returned v ∧ Q v U'.heap L ∧ FrameEnd U o U' L rm.cells rm.slots)
section Laws
variable {p : Program} {l : Launch} {e : Env} {R : Room} {s : State} {m : MethodId} {args : Array Value} {below : List Frame} {meth : Method} {c : Code} {T : State} {locs : List Loc} {cells slots : Nat} {Z : State} {a0 : Array Value} {h h' : Heap}
variable {Q Q' : Option Value → Heap → List Loc → Prop} {k n : Nat}
theorem Run.st {A B : State} (f : ∀ t, Steps p.tables e below B t → Steps p.tables e below A t) (r : Run p e below s Q k n B) : Run p e below s Q k n A := by
  obtain ⟨s₂, o, h1, r⟩ := r
  exact ⟨s₂, o, f _ h1, r⟩
theorem Ctr.of {y : MethodName} {bytes : ByteArray} {ml : Nat} {ret : Option FieldType} {rm : Room} {as' : Array Value} {h0 : Heap} {Ls : Array Slot} (hpl : plainFor y = true) (hef : ∀ m, entryFrame m as' ml = mkF m 0 Ls [])
    (body : ∀ (p : Program) (e : Env) (s : State) (m : MethodId) (below : List Frame) (meth : Method) (c : Code) (T : State), p.tables.exec = Jvm.exec → c.code = bytes → c.maxLocals = ml → s.vm.findClass y.cls = some m.cls → meth.name = y.name → meth.sig.returnType = ret → meth.locks = false → Z.Warmed39 s.vm → T.heap = h0 →
      Stand p l e rm s m as' below meth c T [] 0 0 → Run p e below s Q rm.cells rm.slots (T.setTop (mkF m 0 Ls []))) : Ctr l Z y bytes ml ret rm as' h0 Q := by
  intro ws
  refine MetFree.of_bodySF hpl hisR ?_
  intro p e s m args below meth c s₁ Bd hml0 hP hK
  obtain ⟨rfl, hZ, hh⟩ := hP
  have q := body p e s m below meth c s₁ Bd.exec Bd.bytes hml0 (findClass_of_methodNamed Bd.named) (name_of_methodNamed Bd.named Bd.method).1 Bd.returns Bd.notSynchronized hZ (by rw [← hh, Bd.state]; rfl) (Stand.of_body Bd)
  rw [hef]
  exact q
theorem Run.end_ (X : Stand p l e R s m args below meth c T locs cells slots) (hlk : meth.locks = false) (eT : T.heap = h) {v : Option Value} (hv : meth.sig.returnType = none → v = none) (hc : cells ≤ k) (hn : slots ≤ n) (hQ : Q v h locs) {A : State}
    (f : ∀ fs, (∀ (f : JFrame) (acts : List Action), f.method = m → f.locked = none → f.entered = [] → (doReturn e (T.setTop f) acts v).1 = T.setFrames fs) → Steps p.tables e below A (T.setFrames fs)) : Run p e below s Q k n A := by
  obtain ⟨fs, hr, hrun, hended, hW, hsame⟩ := X.leave (v := v) hv
  exact ⟨_, _, f fs hr, hrun, hended, _, _, rfl, by rw [show (T.setFrames fs).heap = h from eT]; exact hQ, ⟨_, rfl⟩, hW, hsame.mono hc hn⟩
theorem Run.retN (X : Stand p l e R s m args below meth c T locs cells slots) (hx : p.tables.exec = Jvm.exec) (hlk : meth.locks = false) (eT : T.heap = h) {t : FieldType} (hret : meth.sig.returnType = some t) (ht : t = .boolean ∨ t = .byte ∨ t = .char ∨ t = .short) {pc : Nat} {Ls : Array Slot} {z : Int32} {rest : List Value}
    {z' : Int32} (hz : nar t z = z') (hd : decode c.code pc = .ok (.ireturn, 1)) (hc : cells ≤ k) (hn : slots ≤ n) (hQ : Q (some (.int z')) h locs) : Run p e below s Q k n (T.setTop (mkF m pc Ls (.int z :: rest))) :=
  Run.end_ X hlk eT (v := some (.int (nar t z))) (fun q => by rw [hret] at q; cases q) hc hn (hz ▸ hQ) fun fs hr => RoadKit.retN X hx hret ht hd hr
theorem Run.retI (X : Stand p l e R s m args below meth c T locs cells slots) (hx : p.tables.exec = Jvm.exec) (hlk : meth.locks = false) (eT : T.heap = h) (hret : meth.sig.returnType = some .int) {pc : Nat} {Ls : Array Slot} {z : Int32} {rest : List Value}
    (hd : decode c.code pc = .ok (.ireturn, 1)) (hc : cells ≤ k) (hn : slots ≤ n) (hQ : Q (some (.int z)) h locs) : Run p e below s Q k n (T.setTop (mkF m pc Ls (.int z :: rest))) :=
  Run.end_ X hlk eT (v := some (.int z)) (fun q => by rw [hret] at q; cases q) hc hn hQ fun fs hr => RoadKit.retOut X hx hret rfl (Or.inl ⟨rfl, Or.inl rfl, z, rfl⟩) hd hr
theorem Run.retJ (X : Stand p l e R s m args below meth c T locs cells slots) (hx : p.tables.exec = Jvm.exec) (hlk : meth.locks = false) (eT : T.heap = h) (hret : meth.sig.returnType = some .long) {pc : Nat} {Ls : Array Slot} {z : Int64} {rest : List Value}
    (hd : decode c.code pc = .ok (.lreturn, 1)) (hc : cells ≤ k) (hn : slots ≤ n) (hQ : Q (some (.long z)) h locs) : Run p e below s Q k n (T.setTop (mkF m pc Ls (.long z :: rest))) :=
  Run.end_ X hlk eT (v := some (.long z)) (fun q => by rw [hret] at q; cases q) hc hn hQ fun fs hr => RoadKit.retOut X hx hret rfl (Or.inr (Or.inl ⟨rfl, rfl, z, rfl⟩)) hd hr
theorem Run.retA (X : Stand p l e R s m args below meth c T locs cells slots) (hx : p.tables.exec = Jvm.exec) (hlk : meth.locks = false) (eT : T.heap = h) {t : FieldType} (hret : meth.sig.returnType = some t) (ht : t.isReference = true) {w : Value} (hw : w.isRef = true) (hnr : narrow t w = w) {pc : Nat} {Ls : Array Slot} {rest : List Value}
    (hd : decode c.code pc = .ok (.areturn, 1)) (hc : cells ≤ k) (hn : slots ≤ n) (hQ : Q (some w) h locs) : Run p e below s Q k n (T.setTop (mkF m pc Ls (w :: rest))) :=
  Run.end_ X hlk eT (v := some w) (fun q => by rw [hret] at q; cases q) hc hn hQ fun fs hr => RoadKit.retOut X hx hret hnr (Or.inr (Or.inr (Or.inr (Or.inr ⟨rfl, ht, hw⟩)))) hd hr
theorem Run.retV (X : Stand p l e R s m args below meth c T locs cells slots) (hx : p.tables.exec = Jvm.exec) (hlk : meth.locks = false) (eT : T.heap = h) (hret : meth.sig.returnType = none) {pc : Nat} {Ls : Array Slot}
    (hd : decode c.code pc = .ok (.return_, 1)) (hc : cells ≤ k) (hn : slots ≤ n) (hQ : Q none h locs) : Run p e below s Q k n (T.setTop (mkF m pc Ls [])) :=
  Run.end_ X hlk eT (v := none) (fun _ => rfl) hc hn hQ fun fs hr => X.returnOut hx hret hd hr
/-- a call's premises that are alike for every kind of call -/
theorem Ctr.back {y : MethodName} {bytes : ByteArray} {ml : Nat} {ret : Option FieldType} {rm : Room} {as' : Array Value} {len W : Nat} (K : Ctr l Z y bytes ml ret rm as' h Q') (hZ : Z.Warmed39 s.vm) (wc : (Jvm.Cond.code y bytes ml ret).before a0 Z = true) (wz : (Jvm.Cond.initialized y.cls).before a0 Z = true) (hf : rm.frames + 1 ≤ R.frames) (hl : W + (ml + 11) + rm.locals ≤ R.locals) :
    Back l R p e below s args y len W (fun A a => a = as' ∧ A.U.heap = h ∧ A.cells + rm.cells ≤ R.cells ∧ A.slots + rm.slots ≤ R.slots) (fun A _ v B => ∃ L, Q' v B.U.heap L ∧ B.locs = A.locs ++ L ∧ B.cells = A.cells + rm.cells ∧ B.slots = A.slots + rm.slots) := backOf (K []) hZ wc wz hf hl
theorem Run.callS (X : Stand p l e R s m args below meth c T locs cells slots) (hx : p.tables.exec = Jvm.exec) (hZ : Z.Warmed39 s.vm) (eT : T.heap = h) {own : String} {index : Nat} {y : MethodName} {bytes : ByteArray} {ml : Nat} {ret : Option FieldType} {rm : Room}
    (hown : s.vm.findClass own = some m.cls) (w1 : (Jvm.Cond.methodLink own index y).before a0 Z = true) (w2 : (Jvm.Cond.static y).before a0 Z = true) (w3 : (Jvm.Cond.initialized y.cls).before a0 Z = true) (w4 : (Jvm.Cond.code y bytes ml ret).before a0 Z = true)
    (hy : y.cls ≠ "java/lang/invoke/MethodHandle" ∧ y.cls ≠ "java/lang/invoke/VarHandle") {argsL rest : List Value} (K : Ctr l Z y bytes ml ret rm argsL.toArray h Q') {ps : List FieldType} {r : Option FieldType} (hpd : parseMethodDescriptor y.desc = some ⟨ps, r⟩) (hlen : argsL.length = ps.length)
    {pc : Nat} {Ls : Array Slot} (hsz : Ls.size = c.maxLocals) {W : Nat} (hW : (rest.map fun v => v.category).sum = W) (hf : rm.frames + 1 ≤ R.frames) (hl : W + (ml + 11) + rm.locals ≤ R.locals) (hc : cells + rm.cells ≤ R.cells) (hs : slots + rm.slots ≤ R.slots)
    (hd : decode c.code pc = .ok (.invokestatic index, 3)) {st : List Value} (hst : st = argsL.reverse ++ rest)
    (kk : ∀ (T' : State) (v : Option Value) (L : List Loc), Stand p l e R s m args below meth c T' (locs ++ L) (cells + rm.cells) (slots + rm.slots) → Q' v T'.heap L → Run p e below s Q k n (T'.setTop (mkF m (pc + 3) Ls (v.toList ++ rest)))) :
    Run p e below s Q k n (T.setTop (mkF m pc Ls st)) := by
  obtain ⟨v, _, ⟨T', L', k', n'⟩, -, X', ⟨L, hQ, l1, y1, z1⟩, st1⟩ := Jvm.LawKit.callS X hx (y := y) hown (mvT hZ w1) (mvT hZ w2) (mvT hZ w3) (mvT hZ w4) hy (K.back hZ w4 w3 hf hl) (g := mkF m pc Ls st) rfl hsz (argsL := argsL) (rest := rest) (lenOf hpd hlen) hst (by show 2 * 0 + _ ≤ _; rw [hW]; omega) hd (fun _ _ => ⟨rfl, eT, hc, hs⟩)
  dsimp only [Pt.U, Pt.locs, Pt.cells, Pt.slots] at X' l1 y1 z1 st1 hQ
  subst l1 y1 z1
  exact Run.st st1 (kk T' v L X' hQ)
theorem Run.callC (X : Stand p l e R s m args below meth c T locs cells slots) (hx : p.tables.exec = Jvm.exec) (hZ : Z.Warmed39 s.vm) (eT : T.heap = h) {own : String} {index : Nat} {y : MethodName} {bytes : ByteArray} {ml : Nat} {rm : Room}
    (hown : s.vm.findClass own = some m.cls) (hy1 : y.name = "<init>") (w1 : (Jvm.Cond.methodLink own index y).before a0 Z = true) (w2 : (Jvm.Cond.instanceMethod y).before a0 Z = true) (w3 : (Jvm.Cond.initialized y.cls).before a0 Z = true) (w4 : (Jvm.Cond.code y bytes ml none).before a0 Z = true)
    (hy : y.cls ≠ "java/lang/invoke/MethodHandle" ∧ y.cls ≠ "java/lang/invoke/VarHandle") {a : Addr} {argsL rest : List Value} (K : Ctr l Z y bytes ml none rm (.ref a :: argsL).toArray h Q') {ps : List FieldType} {r : Option FieldType} (hpd : parseMethodDescriptor y.desc = some ⟨ps, r⟩) (hlen : argsL.length = ps.length)
    {pc : Nat} {Ls : Array Slot} (hsz : Ls.size = c.maxLocals) {W : Nat} (hW : (rest.map fun v => v.category).sum = W) (hf : rm.frames + 1 ≤ R.frames) (hl : W + (ml + 11) + rm.locals ≤ R.locals) (hc : cells + rm.cells ≤ R.cells) (hs : slots + rm.slots ≤ R.slots)
    (hd : decode c.code pc = .ok (.invokespecial index, 3)) {st : List Value} (hst : st = argsL.reverse ++ .ref a :: rest)
    (kk : ∀ (T' : State) (v : Option Value) (L : List Loc), Stand p l e R s m args below meth c T' (locs ++ L) (cells + rm.cells) (slots + rm.slots) → Q' v T'.heap L → Run p e below s Q k n (T'.setTop (mkF m (pc + 3) Ls (v.toList ++ rest)))) :
    Run p e below s Q k n (T.setTop (mkF m pc Ls st)) := by
  obtain ⟨v, _, ⟨T', L', k', n'⟩, -, X', ⟨L, hQ, l1, y1, z1⟩, st1⟩ := X.specialBack hx (y := y) hy1 hown (mvT hZ w1) (mvT hZ w2) (mvT hZ w4) hy (K.back hZ w4 w3 hf hl) (g := mkF m pc Ls st) rfl hsz (Steps.refl _) (a := a) (argsL := argsL) (rest := rest) (lenOf hpd hlen) hst (by show 2 * 0 + _ ≤ _; rw [hW]; omega) hd (fun _ _ => ⟨rfl, eT, hc, hs⟩)
  dsimp only [Pt.U, Pt.locs, Pt.cells, Pt.slots] at X' l1 y1 z1 st1 hQ
  subst l1 y1 z1
  exact Run.st (fun t q => st1.trans q) (kk T' v L X' hQ)
/-- 'invokevirtual', the body that the receiver's class selects -/
theorem Run.callV (X : Stand p l e R s m args below meth c T locs cells slots) (hx : p.tables.exec = Jvm.exec) (hZ : Z.Warmed39 s.vm) (eT : T.heap = h) {own C : String} {index : Nat} {y z : MethodName} {bytes : ByteArray} {ml : Nat} {ret : Option FieldType} {rm : Room}
    (hown : s.vm.findClass own = some m.cls) (w1 : (Jvm.Cond.methodLink own index y).before a0 Z = true) (w2 : (Jvm.Cond.declares y).before a0 Z = true) (hnf : NotFace s y) (w5 : (Jvm.Cond.selects C y z).before a0 Z = true) (w6 : (Jvm.Cond.instanceMethod z).before a0 Z = true) (w3 : (Jvm.Cond.initialized z.cls).before a0 Z = true) (w4 : (Jvm.Cond.code z bytes ml ret).before a0 Z = true)
    (hy : y.cls ≠ "java/lang/invoke/MethodHandle" ∧ y.cls ≠ "java/lang/invoke/VarHandle") {a : Addr} (E : Exa Z h a C) {argsL rest : List Value} (K : Ctr l Z z bytes ml ret rm (.ref a :: argsL).toArray h Q') {ps : List FieldType} {r : Option FieldType} (hpd : parseMethodDescriptor y.desc = some ⟨ps, r⟩) (hlen : argsL.length = ps.length)
    {pc : Nat} {Ls : Array Slot} (hsz : Ls.size = c.maxLocals) {W : Nat} (hW : (rest.map fun v => v.category).sum = W) (hf : rm.frames + 1 ≤ R.frames) (hl : W + (ml + 11) + rm.locals ≤ R.locals) (hc : cells + rm.cells ≤ R.cells) (hs : slots + rm.slots ≤ R.slots)
    (hd : decode c.code pc = .ok (.invokevirtual index, 3)) {st : List Value} (hst : st = argsL.reverse ++ .ref a :: rest)
    (kk : ∀ (T' : State) (v : Option Value) (L : List Loc), Stand p l e R s m args below meth c T' (locs ++ L) (cells + rm.cells) (slots + rm.slots) → Q' v T'.heap L → Run p e below s Q k n (T'.setTop (mkF m (pc + 3) Ls (v.toList ++ rest)))) :
    Run p e below s Q k n (T.setTop (mkF m pc Ls st)) := by
  obtain ⟨cq, kq, qa, qb, qc⟩ := isOf hZ eT E
  obtain ⟨v, _, ⟨T', L', k', n'⟩, -, X', ⟨L, hQ, l1, y1, z1⟩, st1⟩ := X.virtualBack hx (y := y) (z := z) hown (mvT hZ w1) (mvT hZ w2) hnf (mvT hZ w5) (mvT hZ w6) hy (K.back hZ w4 w3 hf hl) qa qc (g := mkF m pc Ls st) rfl hsz (Steps.refl _) (argsL := argsL) (rest := rest) (lenOf hpd hlen) hst (by show 2 * 0 + _ ≤ _; rw [hW]; omega) hd (fun _ _ => ⟨rfl, eT, hc, hs⟩)
  dsimp only [Pt.U, Pt.locs, Pt.cells, Pt.slots] at X' l1 y1 z1 st1 hQ
  subst l1 y1 z1
  exact Run.st (fun t q => st1.trans q) (kk T' v L X' hQ)
theorem Run.init (X : Stand p l e R s m args below meth c T locs cells slots) (hx : p.tables.exec = Jvm.exec) (hZ : Z.Warmed39 s.vm) (eT : T.heap = h) {own : String} {idx : Nat} (hown : s.vm.findClass own = some m.cls) (w1 : (Jvm.Cond.methodLink own idx Lib.objectInit).before a0 Z = true) (w2 : (Jvm.Cond.instanceMethod Lib.objectInit).before a0 Z = true)
    (w3 : (Jvm.Cond.code Lib.objectInit ⟨#[0xb1]⟩ 1 none).before a0 Z = true) {pc : Nat} {Ls : Array Slot} (hsz : Ls.size = c.maxLocals) {a : Addr} {rest : List Value} (hd : decode c.code pc = .ok (.invokespecial idx, 3)) (hf : 1 ≤ R.frames) {W : Nat} (hW : (rest.map fun v => v.category).sum = W) (hl : W + 12 ≤ R.locals)
    (kk : ∀ (T' : State), Stand p l e R s m args below meth c T' locs cells slots → T'.heap = h → Run p e below s Q k n (T'.setTop (mkF m (pc + 3) Ls rest))) :
    Run p e below s Q k n (T.setTop (mkF m pc Ls (.ref a :: rest))) := by
  obtain ⟨T', X', e', st'⟩ := initO X hx hZ hown w1 w2 w3 eT (g := mkF m pc Ls (.ref a :: rest)) rfl hsz rfl hd hf (W := W) (by show 2 * 0 + _ ≤ _; rw [hW]; omega) hl
  exact Run.st st' (kk T' X' e')
theorem Run.irem (X : Stand p l e R s m args below meth c T locs cells slots) (hx : p.tables.exec = Jvm.exec) {pc : Nat} {Ls : Array Slot} {x y : Int32} {rest : List Value} (hd : decode c.code pc = .ok (.irem, 1)) (hy : y ≠ 0) (r : Run p e below s Q k n (T.setTop (mkF m (pc + 1) Ls (.int (x % y) :: rest)))) :
    Run p e below s Q k n (T.setTop (mkF m pc Ls (.int y :: .int x :: rest))) := Run.st (fun t q => iremM (g := mkF m pc Ls (.int y :: .int x :: rest)) X hx rfl hd rfl hy q) r
theorem Run.lrem (X : Stand p l e R s m args below meth c T locs cells slots) (hx : p.tables.exec = Jvm.exec) {pc : Nat} {Ls : Array Slot} {x y : Int64} {rest : List Value} (hd : decode c.code pc = .ok (.lrem, 1)) (hy : y ≠ 0) (r : Run p e below s Q k n (T.setTop (mkF m (pc + 1) Ls (.long (x % y) :: rest)))) :
    Run p e below s Q k n (T.setTop (mkF m pc Ls (.long y :: .long x :: rest))) := by
  rw [← lrem_mod] at r
  exact Run.st (fun t q => XS.lrem (g := mkF m pc Ls (.long y :: .long x :: rest)) X.here hx rfl hd rfl hy q) r
theorem Run.x_iloadN (X : Stand p l e R s m args below meth c T locs cells slots) (hx : p.tables.exec = Jvm.exec) {pc q : Nat} {Ls : Array Slot} {S : List Value} {j : Fin 4} {v : Int32} (hd : decode c.code pc = .ok (.iload_n j, 1)) (hl : Ls[j.val]? = some (.val (.int v))) (hq : pc + 1 = q) (r : Run p e below s Q k n (T.setTop (mkF m q Ls (.int v :: S)))) : Run p e below s Q k n (T.setTop (mkF m pc Ls (S))) := by
  subst hq; exact Run.st (fun t kt => XS.iloadN X.here hx rfl hd hl kt) r
theorem Run.x_iload (X : Stand p l e R s m args below meth c T locs cells slots) (hx : p.tables.exec = Jvm.exec) {pc q : Nat} {Ls : Array Slot} {S : List Value} {j : Nat} {v : Int32} (hd : decode c.code pc = .ok (.iload j, 2)) (hl : Ls[j]? = some (.val (.int v))) (hq : pc + 2 = q) (r : Run p e below s Q k n (T.setTop (mkF m q Ls (.int v :: S)))) : Run p e below s Q k n (T.setTop (mkF m pc Ls (S))) := by
  subst hq; exact Run.st (fun t kt => XS.iload X.here hx rfl hd hl kt) r
theorem Run.x_lloadN (X : Stand p l e R s m args below meth c T locs cells slots) (hx : p.tables.exec = Jvm.exec) {pc q : Nat} {Ls : Array Slot} {S : List Value} {j : Fin 4} {v : Int64} (hd : decode c.code pc = .ok (.lload_n j, 1)) (hl : Ls[j.val]? = some (.val (.long v))) (hq : pc + 1 = q) (r : Run p e below s Q k n (T.setTop (mkF m q Ls (.long v :: S)))) : Run p e below s Q k n (T.setTop (mkF m pc Ls (S))) := by
  subst hq; exact Run.st (fun t kt => XS.lloadN X.here hx rfl hd hl kt) r
theorem Run.x_lload (X : Stand p l e R s m args below meth c T locs cells slots) (hx : p.tables.exec = Jvm.exec) {pc q : Nat} {Ls : Array Slot} {S : List Value} {j : Nat} {v : Int64} (hd : decode c.code pc = .ok (.lload j, 2)) (hl : Ls[j]? = some (.val (.long v))) (hq : pc + 2 = q) (r : Run p e below s Q k n (T.setTop (mkF m q Ls (.long v :: S)))) : Run p e below s Q k n (T.setTop (mkF m pc Ls (S))) := by
  subst hq; exact Run.st (fun t kt => XS.lload X.here hx rfl hd hl kt) r
theorem Run.x_aloadN (X : Stand p l e R s m args below meth c T locs cells slots) (hx : p.tables.exec = Jvm.exec) {pc q : Nat} {Ls : Array Slot} {S : List Value} {j : Fin 4} {v : Value} (hd : decode c.code pc = .ok (.aload_n j, 1)) (hl : Ls[j.val]? = some (.val v)) (hv : v.isRef = true) (hq : pc + 1 = q) (r : Run p e below s Q k n (T.setTop (mkF m q Ls (v :: S)))) : Run p e below s Q k n (T.setTop (mkF m pc Ls (S))) := by
  subst hq; exact Run.st (fun t kt => XS.aloadN X.here hx rfl hd hl hv kt) r
theorem Run.x_aload (X : Stand p l e R s m args below meth c T locs cells slots) (hx : p.tables.exec = Jvm.exec) {pc q : Nat} {Ls : Array Slot} {S : List Value} {j : Nat} {v : Value} (hd : decode c.code pc = .ok (.aload j, 2)) (hl : Ls[j]? = some (.val v)) (hv : v.isRef = true) (hq : pc + 2 = q) (r : Run p e below s Q k n (T.setTop (mkF m q Ls (v :: S)))) : Run p e below s Q k n (T.setTop (mkF m pc Ls (S))) := by
  subst hq; exact Run.st (fun t kt => XS.aload X.here hx rfl hd hl hv kt) r
theorem Run.x_istoreN (X : Stand p l e R s m args below meth c T locs cells slots) (hx : p.tables.exec = Jvm.exec) {pc q : Nat} {Ls : Array Slot} {S : List Value} {j : Fin 4} {v : Int32} (L' : Array Slot) (hd : decode c.code pc = .ok (.istore_n j, 1)) (hl : storeLocals Ls j.val (.int v) = some L') (hq : pc + 1 = q) (r : Run p e below s Q k n (T.setTop (mkF m q L' (S)))) : Run p e below s Q k n (T.setTop (mkF m pc Ls (.int v :: S))) := by
  subst hq; exact Run.st (fun t kt => XS.istoreN X.here hx rfl hd rfl hl kt) r
theorem Run.x_istore (X : Stand p l e R s m args below meth c T locs cells slots) (hx : p.tables.exec = Jvm.exec) {pc q : Nat} {Ls : Array Slot} {S : List Value} {j : Nat} {v : Int32} (L' : Array Slot) (hd : decode c.code pc = .ok (.istore j, 2)) (hl : storeLocals Ls j (.int v) = some L') (hq : pc + 2 = q) (r : Run p e below s Q k n (T.setTop (mkF m q L' (S)))) : Run p e below s Q k n (T.setTop (mkF m pc Ls (.int v :: S))) := by
  subst hq; exact Run.st (fun t kt => XS.istore X.here hx rfl hd rfl hl kt) r
theorem Run.x_lstoreN (X : Stand p l e R s m args below meth c T locs cells slots) (hx : p.tables.exec = Jvm.exec) {pc q : Nat} {Ls : Array Slot} {S : List Value} {j : Fin 4} {v : Int64} (L' : Array Slot) (hd : decode c.code pc = .ok (.lstore_n j, 1)) (hl : storeLocals Ls j.val (.long v) = some L') (hq : pc + 1 = q) (r : Run p e below s Q k n (T.setTop (mkF m q L' (S)))) : Run p e below s Q k n (T.setTop (mkF m pc Ls (.long v :: S))) := by
  subst hq; exact Run.st (fun t kt => XS.lstoreN X.here hx rfl hd rfl hl kt) r
theorem Run.x_lstore (X : Stand p l e R s m args below meth c T locs cells slots) (hx : p.tables.exec = Jvm.exec) {pc q : Nat} {Ls : Array Slot} {S : List Value} {j : Nat} {v : Int64} (L' : Array Slot) (hd : decode c.code pc = .ok (.lstore j, 2)) (hl : storeLocals Ls j (.long v) = some L') (hq : pc + 2 = q) (r : Run p e below s Q k n (T.setTop (mkF m q L' (S)))) : Run p e below s Q k n (T.setTop (mkF m pc Ls (.long v :: S))) := by
  subst hq; exact Run.st (fun t kt => XS.lstore X.here hx rfl hd rfl hl kt) r
theorem Run.x_astoreN (X : Stand p l e R s m args below meth c T locs cells slots) (hx : p.tables.exec = Jvm.exec) {pc q : Nat} {Ls : Array Slot} {S : List Value} {j : Fin 4} {v : Value} (L' : Array Slot) (hd : decode c.code pc = .ok (.astore_n j, 1)) (hv : v.isRef = true) (hl : storeLocals Ls j.val v = some L') (hq : pc + 1 = q) (r : Run p e below s Q k n (T.setTop (mkF m q L' (S)))) : Run p e below s Q k n (T.setTop (mkF m pc Ls (v :: S))) := by
  subst hq; exact Run.st (fun t kt => XS.astoreN X.here hx rfl hd rfl hv hl kt) r
theorem Run.x_astore (X : Stand p l e R s m args below meth c T locs cells slots) (hx : p.tables.exec = Jvm.exec) {pc q : Nat} {Ls : Array Slot} {S : List Value} {j : Nat} {v : Value} (L' : Array Slot) (hd : decode c.code pc = .ok (.astore j, 2)) (hv : v.isRef = true) (hl : storeLocals Ls j v = some L') (hq : pc + 2 = q) (r : Run p e below s Q k n (T.setTop (mkF m q L' (S)))) : Run p e below s Q k n (T.setTop (mkF m pc Ls (v :: S))) := by
  subst hq; exact Run.st (fun t kt => XS.astore X.here hx rfl hd rfl hv hl kt) r
theorem Run.x_iconst (X : Stand p l e R s m args below meth c T locs cells slots) (hx : p.tables.exec = Jvm.exec) {pc q : Nat} {Ls : Array Slot} {S : List Value} {i : Int} {z : Int32} (hd : decode c.code pc = .ok (.iconst i, 1)) (hz : Int32.ofInt i = z) (hq : pc + 1 = q) (r : Run p e below s Q k n (T.setTop (mkF m q Ls (.int z :: S)))) : Run p e below s Q k n (T.setTop (mkF m pc Ls (S))) := by
  subst hq; subst hz; exact Run.st (fun t kt => XS.iconst X.here hx rfl hd kt) r
theorem Run.x_bipush (X : Stand p l e R s m args below meth c T locs cells slots) (hx : p.tables.exec = Jvm.exec) {pc q : Nat} {Ls : Array Slot} {S : List Value} {i : Int} {z : Int32} (hd : decode c.code pc = .ok (.bipush i, 2)) (hz : (Int8.ofInt i).toInt32 = z) (hq : pc + 2 = q) (r : Run p e below s Q k n (T.setTop (mkF m q Ls (.int z :: S)))) : Run p e below s Q k n (T.setTop (mkF m pc Ls (S))) := by
  subst hq; subst hz; exact Run.st (fun t kt => XS.bipush X.here hx rfl hd kt) r
theorem Run.x_sipush (X : Stand p l e R s m args below meth c T locs cells slots) (hx : p.tables.exec = Jvm.exec) {pc q : Nat} {Ls : Array Slot} {S : List Value} {i : Int} {z : Int32} (hd : decode c.code pc = .ok (.sipush i, 3)) (hz : (Int16.ofInt i).toInt32 = z) (hq : pc + 3 = q) (r : Run p e below s Q k n (T.setTop (mkF m q Ls (.int z :: S)))) : Run p e below s Q k n (T.setTop (mkF m pc Ls (S))) := by
  subst hq; subst hz; exact Run.st (fun t kt => XS.sipush X.here hx rfl hd kt) r
theorem Run.x_lconst (X : Stand p l e R s m args below meth c T locs cells slots) (hx : p.tables.exec = Jvm.exec) {pc q : Nat} {Ls : Array Slot} {S : List Value} {i : Fin 2} {z : Int64} (hd : decode c.code pc = .ok (.lconst i, 1)) (hz : Int64.ofNat i = z) (hq : pc + 1 = q) (r : Run p e below s Q k n (T.setTop (mkF m q Ls (.long z :: S)))) : Run p e below s Q k n (T.setTop (mkF m pc Ls (S))) := by
  subst hq; subst hz; exact Run.st (fun t kt => XS.lconst X.here hx rfl hd kt) r
theorem Run.x_null (X : Stand p l e R s m args below meth c T locs cells slots) (hx : p.tables.exec = Jvm.exec) {pc q : Nat} {Ls : Array Slot} {S : List Value}  (hd : decode c.code pc = .ok (.aconst_null, 1)) (hq : pc + 1 = q) (r : Run p e below s Q k n (T.setTop (mkF m q Ls (.null :: S)))) : Run p e below s Q k n (T.setTop (mkF m pc Ls (S))) := by
  subst hq; exact Run.st (fun t kt => XS.aconstNull X.here hx rfl hd kt) r
theorem Run.x_iadd (X : Stand p l e R s m args below meth c T locs cells slots) (hx : p.tables.exec = Jvm.exec) {pc q : Nat} {Ls : Array Slot} {S : List Value} {x y z : Int32} (hd : decode c.code pc = .ok (.iadd, 1)) (hz : x + y = z) (hq : pc + 1 = q) (r : Run p e below s Q k n (T.setTop (mkF m q Ls (.int z :: S)))) : Run p e below s Q k n (T.setTop (mkF m pc Ls (.int y :: .int x :: S))) := by
  subst hq; subst hz; exact Run.st (fun t kt => XS.iadd X.here hx rfl hd rfl kt) r
theorem Run.x_ladd (X : Stand p l e R s m args below meth c T locs cells slots) (hx : p.tables.exec = Jvm.exec) {pc q : Nat} {Ls : Array Slot} {S : List Value} {x y z : Int64} (hd : decode c.code pc = .ok (.ladd, 1)) (hz : x + y = z) (hq : pc + 1 = q) (r : Run p e below s Q k n (T.setTop (mkF m q Ls (.long z :: S)))) : Run p e below s Q k n (T.setTop (mkF m pc Ls (.long y :: .long x :: S))) := by
  subst hq; subst hz; exact Run.st (fun t kt => XS.ladd X.here hx rfl hd rfl kt) r
theorem Run.x_isub (X : Stand p l e R s m args below meth c T locs cells slots) (hx : p.tables.exec = Jvm.exec) {pc q : Nat} {Ls : Array Slot} {S : List Value} {x y z : Int32} (hd : decode c.code pc = .ok (.isub, 1)) (hz : x - y = z) (hq : pc + 1 = q) (r : Run p e below s Q k n (T.setTop (mkF m q Ls (.int z :: S)))) : Run p e below s Q k n (T.setTop (mkF m pc Ls (.int y :: .int x :: S))) := by
  subst hq; subst hz; exact Run.st (fun t kt => XS.isub X.here hx rfl hd rfl kt) r
theorem Run.x_lsub (X : Stand p l e R s m args below meth c T locs cells slots) (hx : p.tables.exec = Jvm.exec) {pc q : Nat} {Ls : Array Slot} {S : List Value} {x y z : Int64} (hd : decode c.code pc = .ok (.lsub, 1)) (hz : x - y = z) (hq : pc + 1 = q) (r : Run p e below s Q k n (T.setTop (mkF m q Ls (.long z :: S)))) : Run p e below s Q k n (T.setTop (mkF m pc Ls (.long y :: .long x :: S))) := by
  subst hq; subst hz; exact Run.st (fun t kt => XS.lsub X.here hx rfl hd rfl kt) r
theorem Run.x_imul (X : Stand p l e R s m args below meth c T locs cells slots) (hx : p.tables.exec = Jvm.exec) {pc q : Nat} {Ls : Array Slot} {S : List Value} {x y z : Int32} (hd : decode c.code pc = .ok (.imul, 1)) (hz : x * y = z) (hq : pc + 1 = q) (r : Run p e below s Q k n (T.setTop (mkF m q Ls (.int z :: S)))) : Run p e below s Q k n (T.setTop (mkF m pc Ls (.int y :: .int x :: S))) := by
  subst hq; subst hz; exact Run.st (fun t kt => XS.imul X.here hx rfl hd rfl kt) r
theorem Run.x_lmul (X : Stand p l e R s m args below meth c T locs cells slots) (hx : p.tables.exec = Jvm.exec) {pc q : Nat} {Ls : Array Slot} {S : List Value} {x y z : Int64} (hd : decode c.code pc = .ok (.lmul, 1)) (hz : x * y = z) (hq : pc + 1 = q) (r : Run p e below s Q k n (T.setTop (mkF m q Ls (.long z :: S)))) : Run p e below s Q k n (T.setTop (mkF m pc Ls (.long y :: .long x :: S))) := by
  subst hq; subst hz; exact Run.st (fun t kt => XS.lmul X.here hx rfl hd rfl kt) r
theorem Run.x_iand (X : Stand p l e R s m args below meth c T locs cells slots) (hx : p.tables.exec = Jvm.exec) {pc q : Nat} {Ls : Array Slot} {S : List Value} {x y z : Int32} (hd : decode c.code pc = .ok (.iand, 1)) (hz : x &&& y = z) (hq : pc + 1 = q) (r : Run p e below s Q k n (T.setTop (mkF m q Ls (.int z :: S)))) : Run p e below s Q k n (T.setTop (mkF m pc Ls (.int y :: .int x :: S))) := by
  subst hq; subst hz; exact Run.st (fun t kt => XS.iand X.here hx rfl hd rfl kt) r
theorem Run.x_land (X : Stand p l e R s m args below meth c T locs cells slots) (hx : p.tables.exec = Jvm.exec) {pc q : Nat} {Ls : Array Slot} {S : List Value} {x y z : Int64} (hd : decode c.code pc = .ok (.land, 1)) (hz : x &&& y = z) (hq : pc + 1 = q) (r : Run p e below s Q k n (T.setTop (mkF m q Ls (.long z :: S)))) : Run p e below s Q k n (T.setTop (mkF m pc Ls (.long y :: .long x :: S))) := by
  subst hq; subst hz; exact Run.st (fun t kt => XS.land X.here hx rfl hd rfl kt) r
theorem Run.x_ior (X : Stand p l e R s m args below meth c T locs cells slots) (hx : p.tables.exec = Jvm.exec) {pc q : Nat} {Ls : Array Slot} {S : List Value} {x y z : Int32} (hd : decode c.code pc = .ok (.ior, 1)) (hz : x ||| y = z) (hq : pc + 1 = q) (r : Run p e below s Q k n (T.setTop (mkF m q Ls (.int z :: S)))) : Run p e below s Q k n (T.setTop (mkF m pc Ls (.int y :: .int x :: S))) := by
  subst hq; subst hz; exact Run.st (fun t kt => XS.ior X.here hx rfl hd rfl kt) r
theorem Run.x_lor (X : Stand p l e R s m args below meth c T locs cells slots) (hx : p.tables.exec = Jvm.exec) {pc q : Nat} {Ls : Array Slot} {S : List Value} {x y z : Int64} (hd : decode c.code pc = .ok (.lor, 1)) (hz : x ||| y = z) (hq : pc + 1 = q) (r : Run p e below s Q k n (T.setTop (mkF m q Ls (.long z :: S)))) : Run p e below s Q k n (T.setTop (mkF m pc Ls (.long y :: .long x :: S))) := by
  subst hq; subst hz; exact Run.st (fun t kt => XS.lor X.here hx rfl hd rfl kt) r
theorem Run.x_ixor (X : Stand p l e R s m args below meth c T locs cells slots) (hx : p.tables.exec = Jvm.exec) {pc q : Nat} {Ls : Array Slot} {S : List Value} {x y z : Int32} (hd : decode c.code pc = .ok (.ixor, 1)) (hz : x ^^^ y = z) (hq : pc + 1 = q) (r : Run p e below s Q k n (T.setTop (mkF m q Ls (.int z :: S)))) : Run p e below s Q k n (T.setTop (mkF m pc Ls (.int y :: .int x :: S))) := by
  subst hq; subst hz; exact Run.st (fun t kt => XS.ixor X.here hx rfl hd rfl kt) r
theorem Run.x_lxor (X : Stand p l e R s m args below meth c T locs cells slots) (hx : p.tables.exec = Jvm.exec) {pc q : Nat} {Ls : Array Slot} {S : List Value} {x y z : Int64} (hd : decode c.code pc = .ok (.lxor, 1)) (hz : x ^^^ y = z) (hq : pc + 1 = q) (r : Run p e below s Q k n (T.setTop (mkF m q Ls (.long z :: S)))) : Run p e below s Q k n (T.setTop (mkF m pc Ls (.long y :: .long x :: S))) := by
  subst hq; subst hz; exact Run.st (fun t kt => XS.lxor X.here hx rfl hd rfl kt) r
theorem Run.x_ishl (X : Stand p l e R s m args below meth c T locs cells slots) (hx : p.tables.exec = Jvm.exec) {pc q : Nat} {Ls : Array Slot} {S : List Value} {x y z : Int32} (hd : decode c.code pc = .ok (.ishl, 1)) (hz : x <<< (y &&& 31) = z) (hq : pc + 1 = q) (r : Run p e below s Q k n (T.setTop (mkF m q Ls (.int z :: S)))) : Run p e below s Q k n (T.setTop (mkF m pc Ls (.int y :: .int x :: S))) := by
  subst hq; subst hz; exact Run.st (fun t kt => XS.ishl X.here hx rfl hd rfl kt) r
theorem Run.x_ishr (X : Stand p l e R s m args below meth c T locs cells slots) (hx : p.tables.exec = Jvm.exec) {pc q : Nat} {Ls : Array Slot} {S : List Value} {x y z : Int32} (hd : decode c.code pc = .ok (.ishr, 1)) (hz : x >>> (y &&& 31) = z) (hq : pc + 1 = q) (r : Run p e below s Q k n (T.setTop (mkF m q Ls (.int z :: S)))) : Run p e below s Q k n (T.setTop (mkF m pc Ls (.int y :: .int x :: S))) := by
  subst hq; subst hz; exact Run.st (fun t kt => XS.ishr X.here hx rfl hd rfl kt) r
theorem Run.x_iushr (X : Stand p l e R s m args below meth c T locs cells slots) (hx : p.tables.exec = Jvm.exec) {pc q : Nat} {Ls : Array Slot} {S : List Value} {x y z : Int32} (hd : decode c.code pc = .ok (.iushr, 1)) (hz : (x.toUInt32 >>> (y &&& 31).toUInt32).toInt32 = z) (hq : pc + 1 = q) (r : Run p e below s Q k n (T.setTop (mkF m q Ls (.int z :: S)))) : Run p e below s Q k n (T.setTop (mkF m pc Ls (.int y :: .int x :: S))) := by
  subst hq; subst hz; exact Run.st (fun t kt => XS.iushr X.here hx rfl hd rfl kt) r
theorem Run.x_lshl (X : Stand p l e R s m args below meth c T locs cells slots) (hx : p.tables.exec = Jvm.exec) {pc q : Nat} {Ls : Array Slot} {S : List Value} {x z : Int64} {y : Int32} (hd : decode c.code pc = .ok (.lshl, 1)) (hz : x <<< (y &&& 0x3f).toInt64 = z) (hq : pc + 1 = q) (r : Run p e below s Q k n (T.setTop (mkF m q Ls (.long z :: S)))) : Run p e below s Q k n (T.setTop (mkF m pc Ls (.int y :: .long x :: S))) := by
  subst hq; subst hz; exact Run.st (fun t kt => XS.lshl X.here hx rfl hd rfl kt) r
theorem Run.x_lshr (X : Stand p l e R s m args below meth c T locs cells slots) (hx : p.tables.exec = Jvm.exec) {pc q : Nat} {Ls : Array Slot} {S : List Value} {x z : Int64} {y : Int32} (hd : decode c.code pc = .ok (.lshr, 1)) (hz : x >>> (y &&& 0x3f).toInt64 = z) (hq : pc + 1 = q) (r : Run p e below s Q k n (T.setTop (mkF m q Ls (.long z :: S)))) : Run p e below s Q k n (T.setTop (mkF m pc Ls (.int y :: .long x :: S))) := by
  subst hq; subst hz; exact Run.st (fun t kt => XS.lshr X.here hx rfl hd rfl kt) r
theorem Run.x_lushr (X : Stand p l e R s m args below meth c T locs cells slots) (hx : p.tables.exec = Jvm.exec) {pc q : Nat} {Ls : Array Slot} {S : List Value} {x z : Int64} {y : Int32} (hd : decode c.code pc = .ok (.lushr, 1)) (hz : (x.toUInt64 >>> (y &&& 0x3f).toInt64.toUInt64).toInt64 = z) (hq : pc + 1 = q) (r : Run p e below s Q k n (T.setTop (mkF m q Ls (.long z :: S)))) : Run p e below s Q k n (T.setTop (mkF m pc Ls (.int y :: .long x :: S))) := by
  subst hq; subst hz; exact Run.st (fun t kt => XS.lushr X.here hx rfl hd rfl kt) r
theorem Run.x_ineg (X : Stand p l e R s m args below meth c T locs cells slots) (hx : p.tables.exec = Jvm.exec) {pc q : Nat} {Ls : Array Slot} {S : List Value} {x : Int32} {z : Int32} (hd : decode c.code pc = .ok (.ineg, 1)) (hz : -x = z) (hq : pc + 1 = q) (r : Run p e below s Q k n (T.setTop (mkF m q Ls (.int z :: S)))) : Run p e below s Q k n (T.setTop (mkF m pc Ls (.int x :: S))) := by
  subst hq; subst hz; exact Run.st (fun t kt => XS.ineg X.here hx rfl hd rfl kt) r
theorem Run.x_lneg (X : Stand p l e R s m args below meth c T locs cells slots) (hx : p.tables.exec = Jvm.exec) {pc q : Nat} {Ls : Array Slot} {S : List Value} {x : Int64} {z : Int64} (hd : decode c.code pc = .ok (.lneg, 1)) (hz : -x = z) (hq : pc + 1 = q) (r : Run p e below s Q k n (T.setTop (mkF m q Ls (.long z :: S)))) : Run p e below s Q k n (T.setTop (mkF m pc Ls (.long x :: S))) := by
  subst hq; subst hz; exact Run.st (fun t kt => XS.lneg X.here hx rfl hd rfl kt) r
theorem Run.x_i2l (X : Stand p l e R s m args below meth c T locs cells slots) (hx : p.tables.exec = Jvm.exec) {pc q : Nat} {Ls : Array Slot} {S : List Value} {x : Int32} {z : Int64} (hd : decode c.code pc = .ok (.i2l, 1)) (hz : x.toInt64 = z) (hq : pc + 1 = q) (r : Run p e below s Q k n (T.setTop (mkF m q Ls (.long z :: S)))) : Run p e below s Q k n (T.setTop (mkF m pc Ls (.int x :: S))) := by
  subst hq; subst hz; exact Run.st (fun t kt => XS.i2l X.here hx rfl hd rfl kt) r
theorem Run.x_l2i (X : Stand p l e R s m args below meth c T locs cells slots) (hx : p.tables.exec = Jvm.exec) {pc q : Nat} {Ls : Array Slot} {S : List Value} {x : Int64} {z : Int32} (hd : decode c.code pc = .ok (.l2i, 1)) (hz : x.toInt32 = z) (hq : pc + 1 = q) (r : Run p e below s Q k n (T.setTop (mkF m q Ls (.int z :: S)))) : Run p e below s Q k n (T.setTop (mkF m pc Ls (.long x :: S))) := by
  subst hq; subst hz; exact Run.st (fun t kt => XS.l2i X.here hx rfl hd rfl kt) r
theorem Run.x_i2b (X : Stand p l e R s m args below meth c T locs cells slots) (hx : p.tables.exec = Jvm.exec) {pc q : Nat} {Ls : Array Slot} {S : List Value} {x : Int32} {z : Int32} (hd : decode c.code pc = .ok (.i2b, 1)) (hz : x.toInt8.toInt32 = z) (hq : pc + 1 = q) (r : Run p e below s Q k n (T.setTop (mkF m q Ls (.int z :: S)))) : Run p e below s Q k n (T.setTop (mkF m pc Ls (.int x :: S))) := by
  subst hq; subst hz; exact Run.st (fun t kt => XS.i2b X.here hx rfl hd rfl kt) r
theorem Run.x_i2s (X : Stand p l e R s m args below meth c T locs cells slots) (hx : p.tables.exec = Jvm.exec) {pc q : Nat} {Ls : Array Slot} {S : List Value} {x : Int32} {z : Int32} (hd : decode c.code pc = .ok (.i2s, 1)) (hz : x.toInt16.toInt32 = z) (hq : pc + 1 = q) (r : Run p e below s Q k n (T.setTop (mkF m q Ls (.int z :: S)))) : Run p e below s Q k n (T.setTop (mkF m pc Ls (.int x :: S))) := by
  subst hq; subst hz; exact Run.st (fun t kt => XS.i2s X.here hx rfl hd rfl kt) r
theorem Run.x_i2c (X : Stand p l e R s m args below meth c T locs cells slots) (hx : p.tables.exec = Jvm.exec) {pc q : Nat} {Ls : Array Slot} {S : List Value} {x : Int32} {z : Int32} (hd : decode c.code pc = .ok (.i2c, 1)) (hz : x.toUInt32.toUInt16.toUInt32.toInt32 = z) (hq : pc + 1 = q) (r : Run p e below s Q k n (T.setTop (mkF m q Ls (.int z :: S)))) : Run p e below s Q k n (T.setTop (mkF m pc Ls (.int x :: S))) := by
  subst hq; subst hz; exact Run.st (fun t kt => XS.i2c X.here hx rfl hd rfl kt) r
theorem Run.x_lcmp (X : Stand p l e R s m args below meth c T locs cells slots) (hx : p.tables.exec = Jvm.exec) {pc q : Nat} {Ls : Array Slot} {S : List Value} {x y : Int64} (hd : decode c.code pc = .ok (.lcmp, 1)) (hq : pc + 1 = q) (r : Run p e below s Q k n (T.setTop (mkF m q Ls (.int (lcmpW x y) :: S)))) : Run p e below s Q k n (T.setTop (mkF m pc Ls (.long y :: .long x :: S))) := by
  subst hq; exact Run.st (fun t kt => XS.lcmp X.here hx rfl hd rfl kt) r
theorem Run.x_idiv (X : Stand p l e R s m args below meth c T locs cells slots) (hx : p.tables.exec = Jvm.exec) {pc q : Nat} {Ls : Array Slot} {S : List Value} {x y z : Int32} (hd : decode c.code pc = .ok (.idiv, 1)) (hy : y ≠ 0) (hz : x / y = z) (hq : pc + 1 = q) (r : Run p e below s Q k n (T.setTop (mkF m q Ls (.int z :: S)))) : Run p e below s Q k n (T.setTop (mkF m pc Ls (.int y :: .int x :: S))) := by
  subst hq; subst hz; exact Run.st (fun t kt => XS.idiv X.here hx rfl hd rfl hy kt) r
theorem Run.x_ldiv (X : Stand p l e R s m args below meth c T locs cells slots) (hx : p.tables.exec = Jvm.exec) {pc q : Nat} {Ls : Array Slot} {S : List Value} {x y z : Int64} (hd : decode c.code pc = .ok (.ldiv, 1)) (hy : y ≠ 0) (hz : x / y = z) (hq : pc + 1 = q) (r : Run p e below s Q k n (T.setTop (mkF m q Ls (.long z :: S)))) : Run p e below s Q k n (T.setTop (mkF m pc Ls (.long y :: .long x :: S))) := by
  subst hq; subst hz; exact Run.st (fun t kt => XS.ldiv X.here hx rfl hd rfl hy kt) r
theorem Run.x_irem (X : Stand p l e R s m args below meth c T locs cells slots) (hx : p.tables.exec = Jvm.exec) {pc q : Nat} {Ls : Array Slot} {S : List Value} {x y z : Int32} (hd : decode c.code pc = .ok (.irem, 1)) (hy : y ≠ 0) (hz : x % y = z) (hq : pc + 1 = q) (r : Run p e below s Q k n (T.setTop (mkF m q Ls (.int z :: S)))) : Run p e below s Q k n (T.setTop (mkF m pc Ls (.int y :: .int x :: S))) := by
  subst hq; subst hz; exact Run.st (fun t kt => iremM (g := mkF m pc Ls (.int y :: .int x :: S)) X hx rfl hd rfl hy kt) r
theorem Run.x_lrem (X : Stand p l e R s m args below meth c T locs cells slots) (hx : p.tables.exec = Jvm.exec) {pc q : Nat} {Ls : Array Slot} {S : List Value} {x y z : Int64} (hd : decode c.code pc = .ok (.lrem, 1)) (hy : y ≠ 0) (hz : x % y = z) (hq : pc + 1 = q) (r : Run p e below s Q k n (T.setTop (mkF m q Ls (.long z :: S)))) : Run p e below s Q k n (T.setTop (mkF m pc Ls (.long y :: .long x :: S))) := by
  subst hq; subst hz; rw [← lrem_mod] at r; exact Run.st (fun t kt => XS.lrem X.here hx rfl hd rfl hy kt) r
theorem Run.x_iinc (X : Stand p l e R s m args below meth c T locs cells slots) (hx : p.tables.exec = Jvm.exec) {pc q : Nat} {Ls : Array Slot} {S : List Value} {j : Nat} {i : Int} {x z : Int32} (L' : Array Slot) (hd : decode c.code pc = .ok (.iinc j i, 3)) (hl : Ls[j]? = some (.val (.int x))) (hz : x + Int32.ofInt i = z) (hl' : storeLocals Ls j (.int z) = some L') (hq : pc + 3 = q) (r : Run p e below s Q k n (T.setTop (mkF m q L' (S)))) : Run p e below s Q k n (T.setTop (mkF m pc Ls (S))) := by
  subst hq; subst hz; exact Run.st (fun t kt => XS.iinc X.here hx rfl hd hl hl' kt) r
theorem Run.x_dup (X : Stand p l e R s m args below meth c T locs cells slots) (hx : p.tables.exec = Jvm.exec) {pc q : Nat} {Ls : Array Slot} {S : List Value} {v : Value} (hd : decode c.code pc = .ok (.dup, 1)) (hc : v.category = 1) (hq : pc + 1 = q) (r : Run p e below s Q k n (T.setTop (mkF m q Ls (v :: v :: S)))) : Run p e below s Q k n (T.setTop (mkF m pc Ls (v :: S))) := by
  subst hq; exact Run.st (fun t kt => XS.dup X.here hx rfl hd rfl hc kt) r
theorem Run.x_dup_x1 (X : Stand p l e R s m args below meth c T locs cells slots) (hx : p.tables.exec = Jvm.exec) {pc q : Nat} {Ls : Array Slot} {S : List Value} {v w : Value} (hd : decode c.code pc = .ok (.dup_x1, 1)) (hc : v.category = 1) (hc' : w.category = 1) (hq : pc + 1 = q) (r : Run p e below s Q k n (T.setTop (mkF m q Ls (v :: w :: v :: S)))) : Run p e below s Q k n (T.setTop (mkF m pc Ls (v :: w :: S))) := by
  subst hq; exact Run.st (fun t kt => XS.dupX1 X.here hx rfl hd rfl hc hc' kt) r
theorem Run.x_dup2 (X : Stand p l e R s m args below meth c T locs cells slots) (hx : p.tables.exec = Jvm.exec) {pc q : Nat} {Ls : Array Slot} {S : List Value} {v w : Value} (hd : decode c.code pc = .ok (.dup2, 1)) (hc : v.category = 1) (hc' : w.category = 1) (hq : pc + 1 = q) (r : Run p e below s Q k n (T.setTop (mkF m q Ls (v :: w :: v :: w :: S)))) : Run p e below s Q k n (T.setTop (mkF m pc Ls (v :: w :: S))) := by
  subst hq; exact Run.st (fun t kt => XT.dup2 X.here hx rfl hd rfl hc hc' kt) r
theorem Run.x_pop (X : Stand p l e R s m args below meth c T locs cells slots) (hx : p.tables.exec = Jvm.exec) {pc q : Nat} {Ls : Array Slot} {S : List Value} {v : Value} (hd : decode c.code pc = .ok (.pop, 1)) (hc : v.category = 1) (hq : pc + 1 = q) (r : Run p e below s Q k n (T.setTop (mkF m q Ls (S)))) : Run p e below s Q k n (T.setTop (mkF m pc Ls (v :: S))) := by
  subst hq; exact Run.st (fun t kt => XS.pop X.here hx rfl hd rfl hc kt) r
theorem Run.x_goto (X : Stand p l e R s m args below meth c T locs cells slots) (hx : p.tables.exec = Jvm.exec) {pc q : Nat} {Ls : Array Slot} {S : List Value}  {o : Int} (hd : decode c.code pc = .ok (.goto o, 3)) (ho : 0 ≤ (pc : Int) + o) (hq : ((pc : Int) + o).toNat = q) (r : Run p e below s Q k n (T.setTop (mkF m q Ls (S)))) : Run p e below s Q k n (T.setTop (mkF m pc Ls (S))) :=
  Run.st (fun t kt => XS.goto X.here hx rfl (pc0 := pc) (pc' := q) rfl hd ho hq kt) r
theorem Run.x_ifYes (X : Stand p l e R s m args below meth c T locs cells slots) (hx : p.tables.exec = Jvm.exec) {pc q : Nat} {Ls : Array Slot} {S : List Value} {cd : ClassFile.Cond} {x : Int32} {o : Int} (hd : decode c.code pc = .ok (.ifCond cd o, 3)) (hc : ifCond.holds cd x = true) (ho : 0 ≤ (pc : Int) + o) (hq : ((pc : Int) + o).toNat = q) (r : Run p e below s Q k n (T.setTop (mkF m q Ls (S)))) : Run p e below s Q k n (T.setTop (mkF m pc Ls (.int x :: S))) :=
  Run.st (fun t kt => XS.ifYes X.here hx rfl (pc0 := pc) (pc' := q) rfl hd rfl hc ho hq kt) r
theorem Run.x_icmpYes (X : Stand p l e R s m args below meth c T locs cells slots) (hx : p.tables.exec = Jvm.exec) {pc q : Nat} {Ls : Array Slot} {S : List Value} {cd : ClassFile.Cond} {x y : Int32} {o : Int} (hd : decode c.code pc = .ok (.if_icmp cd o, 3)) (hc : if_icmp.holds cd x y = true) (ho : 0 ≤ (pc : Int) + o) (hq : ((pc : Int) + o).toNat = q) (r : Run p e below s Q k n (T.setTop (mkF m q Ls (S)))) : Run p e below s Q k n (T.setTop (mkF m pc Ls (.int y :: .int x :: S))) :=
  Run.st (fun t kt => XS.icmpYes X.here hx rfl (pc0 := pc) (pc' := q) rfl hd rfl hc ho hq kt) r
theorem Run.x_ifNo (X : Stand p l e R s m args below meth c T locs cells slots) (hx : p.tables.exec = Jvm.exec) {pc q : Nat} {Ls : Array Slot} {S : List Value} {cd : ClassFile.Cond} {x : Int32} {o : Int} (hd : decode c.code pc = .ok (.ifCond cd o, 3)) (hc : ifCond.holds cd x = false) (hq : pc + 3 = q) (r : Run p e below s Q k n (T.setTop (mkF m q Ls (S)))) : Run p e below s Q k n (T.setTop (mkF m pc Ls (.int x :: S))) := by
  subst hq; exact Run.st (fun t kt => XS.ifNo X.here hx rfl hd rfl hc kt) r
theorem Run.x_icmpNo (X : Stand p l e R s m args below meth c T locs cells slots) (hx : p.tables.exec = Jvm.exec) {pc q : Nat} {Ls : Array Slot} {S : List Value} {cd : ClassFile.Cond} {x y : Int32} {o : Int} (hd : decode c.code pc = .ok (.if_icmp cd o, 3)) (hc : if_icmp.holds cd x y = false) (hq : pc + 3 = q) (r : Run p e below s Q k n (T.setTop (mkF m q Ls (S)))) : Run p e below s Q k n (T.setTop (mkF m pc Ls (.int y :: .int x :: S))) := by
  subst hq; exact Run.st (fun t kt => XS.icmpNo X.here hx rfl hd rfl hc kt) r
/-- an array and all that it holds -/
def Ars (Z : State) (h : Heap) (a : Addr) (ty : FieldType) (vs : List Value) : Prop := ∃ c : Cell, Arr Z h a c ty ∧ c.slots.toList = vs
variable {a b : Addr} {ty : FieldType} {vs : List Value} {v : Value} {sl : Nat} {ws : List Addr}
theorem Ars.lt (A : Ars Z h a ty vs) : a < h.size := by obtain ⟨c, A, -⟩ := A; exact A.lt
theorem Ars.ext (A : Ars Z h a ty vs) (E : Ext h h') : Ars Z h' a ty vs := by obtain ⟨c, A, r⟩ := A; exact ⟨c, A.ext E, r⟩
theorem Ars.other (A : Ars Z h b ty vs) (W : Wr h h' a sl v) (q : b ≠ a) : Ars Z h' b ty vs := by obtain ⟨c, A, r⟩ := A; exact ⟨c, A.other W q, r⟩
theorem Ars.keep (A : Ars Z h a ty vs) (K : Keep h h' ws) (q : a ∉ ws) : Ars Z h' a ty vs := by obtain ⟨c, A, r⟩ := A; exact ⟨c, ⟨K.2.1 a c A.1 q, A.2⟩, r⟩
theorem Ars.same (A : Ars Z h a ty vs) (W : Wr h h' a sl v) : Ars Z h' a ty (vs.set sl v) := by
  obtain ⟨c, A, r⟩ := A
  exact ⟨_, A.same W, by subst r; simp [Cell.setSlot]⟩
theorem Ars.new {k : ClassId} {z : Int32} (A : Arr Z h a (newA k ty z) ty) : Ars Z h a ty (List.replicate z.toNatClampNeg (defaultValue ty)) := ⟨_, A, by simp [newA]⟩
theorem in_of {c : Cell} {j : Int32} {i : Nat} (e : c.slots.toList = vs) (hj : j.toInt = i) (hi : i < vs.length) : ¬ (j < 0 ∨ c.slots.size ≤ j.toNatClampNeg) ∧ j.toNatClampNeg = i := by
  have e2 : j.toNatClampNeg = i := by show j.toInt.toNat = i; rw [hj]; rfl
  have e3 : c.slots.size = vs.length := by rw [← e]; simp
  refine ⟨?_, e2⟩
  rw [e2, e3, Int32.lt_iff_toInt_lt, hj]
  have : (0 : Int32).toInt = 0 := rfl
  omega
theorem at_of {c : Cell} {j : Int32} {i : Nat} (e : c.slots.toList = vs) (hj : j.toInt = i) (hi : vs[i]? = some v) : ¬ (j < 0 ∨ c.slots.size ≤ j.toNatClampNeg) ∧ c.slots[j.toNatClampNeg]? = some v := by
  obtain ⟨q, e2⟩ := in_of e hj (List.getElem?_eq_some_iff.mp hi).1
  refine ⟨q, ?_⟩
  rw [e2, ← hi, ← e]; simp
theorem Run.newP (X : Stand p l e R s m args below meth c T locs cells slots) (hx : p.tables.exec = Jvm.exec) (hZ : Z.Warmed39 s.vm) (eT : T.heap = h) {aty : ArrayType} (w : (Jvm.Cond.arrayClass (newarray.typeOf aty)).before a0 Z = true) {pc : Nat} {Ls : Array Slot} {z : Int32} {rest : List Value} (hd : decode c.code pc = .ok (.newarray aty, 2))
    {len : Nat} (hz : ¬ z < 0) (hlen : z.toNatClampNeg = len) {cap : Nat} (hcap : len ≤ cap) (hb : cap * 8 ≤ 536870912) (hc : cells + 1 ≤ R.cells) (hl : slots + cap ≤ R.slots)
    (kk : ∀ (T' : State) (h' : Heap) (b : Addr), b = h.size → Stand p l e R s m args below meth c T' locs (cells + 1) (slots + cap) → T'.heap = h' → Ext h h' → Ars Z h' b (newarray.typeOf aty) (List.replicate len (defaultValue (newarray.typeOf aty))) → Run p e below s Q k n (T'.setTop (mkF m (pc + 2) Ls (.ref b :: rest)))) :
    Run p e below s Q k n (T.setTop (mkF m pc Ls (.int z :: rest))) := by
  obtain ⟨T', h', k', X', e', E', A', st'⟩ := RoadKit.newP X hx hZ w eT (g := mkF m pc Ls (.int z :: rest)) rfl hd rfl hz (cap := cap) (by rw [hlen]; exact hcap) hb hc hl
  have A2 := Ars.new A'
  rw [hlen] at A2
  exact Run.st st' (kk T' h' _ rfl X' e' E' A2)
theorem Run.newR (X : Stand p l e R s m args below meth c T locs cells slots) (hx : p.tables.exec = Jvm.exec) (hZ : Z.Warmed39 s.vm) (eT : T.heap = h) {own C : String} {index : Nat} (hown : s.vm.findClass own = some m.cls) (w1 : (Jvm.Cond.classLink own index C).before a0 Z = true) (w2 : (Jvm.Cond.arrayOver (.object C)).before a0 Z = true) {pc : Nat} {Ls : Array Slot} {z : Int32} {rest : List Value} (hd : decode c.code pc = .ok (.anewarray index, 3))
    {len : Nat} (hz : ¬ z < 0) (hlen : z.toNatClampNeg = len) {cap : Nat} (hcap : len ≤ cap) (hb : cap * 8 ≤ 536870912) (hc : cells + 1 ≤ R.cells) (hl : slots + cap ≤ R.slots)
    (kk : ∀ (T' : State) (h' : Heap) (b : Addr), b = h.size → Stand p l e R s m args below meth c T' locs (cells + 1) (slots + cap) → T'.heap = h' → Ext h h' → Ars Z h' b (.object C) (List.replicate len .null) → Run p e below s Q k n (T'.setTop (mkF m (pc + 3) Ls (.ref b :: rest)))) :
    Run p e below s Q k n (T.setTop (mkF m pc Ls (.int z :: rest))) := by
  obtain ⟨T', h', k', X', e', E', A', -, st'⟩ := RoadKit.newR X hx hZ hown w1 w2 eT (g := mkF m pc Ls (.int z :: rest)) rfl hd rfl hz (cap := cap) (by rw [hlen]; exact hcap) hb hc hl
  have A2 := Ars.new A'
  rw [hlen] at A2
  exact Run.st st' (kk T' h' _ rfl X' e' E' A2)
theorem Run.ldI (X : Stand p l e R s m args below meth c T locs cells slots) (hx : p.tables.exec = Jvm.exec) (hZ : Z.Warmed39 s.vm) (eT : T.heap = h) (A : Ars Z h a .int vs) {j : Int32} {i : Nat} (hj : j.toInt = i) (hi : vs[i]? = some v) {pc : Nat} {Ls : Array Slot} {rest : List Value} (hd : decode c.code pc = .ok (.iaload, 1))
    (r : Run p e below s Q k n (T.setTop (mkF m (pc + 1) Ls (v :: rest)))) : Run p e below s Q k n (T.setTop (mkF m pc Ls (.int j :: .ref a :: rest))) := by
  obtain ⟨cl, A, q⟩ := A
  obtain ⟨q1, q2⟩ := at_of q hj hi
  exact Run.st (fun t kt => X.iaload hx (j := j) (v := v) (by rw [eT]; exact A.1) (State.isArrayOf_alike hZ.alike A.2.1) A.2.2 q1 q2 (g := mkF m pc Ls (.int j :: .ref a :: rest)) rfl rfl hd _ kt) r
theorem Run.ldC (X : Stand p l e R s m args below meth c T locs cells slots) (hx : p.tables.exec = Jvm.exec) (hZ : Z.Warmed39 s.vm) (eT : T.heap = h) (A : Ars Z h a .char vs) {j : Int32} {i : Nat} (hj : j.toInt = i) (hi : vs[i]? = some v) {pc : Nat} {Ls : Array Slot} {rest : List Value} (hd : decode c.code pc = .ok (.caload, 1))
    (r : Run p e below s Q k n (T.setTop (mkF m (pc + 1) Ls (v :: rest)))) : Run p e below s Q k n (T.setTop (mkF m pc Ls (.int j :: .ref a :: rest))) := by
  obtain ⟨cl, A, q⟩ := A
  obtain ⟨q1, q2⟩ := at_of q hj hi
  exact Run.st (fun t kt => X.caload hx (j := j) (v := v) (by rw [eT]; exact A.1) (State.isArrayOf_alike hZ.alike A.2.1) A.2.2 q1 q2 (g := mkF m pc Ls (.int j :: .ref a :: rest)) rfl rfl hd _ kt) r
theorem Run.ldJ (X : Stand p l e R s m args below meth c T locs cells slots) (hx : p.tables.exec = Jvm.exec) (hZ : Z.Warmed39 s.vm) (eT : T.heap = h) (A : Ars Z h a .long vs) {j : Int32} {i : Nat} (hj : j.toInt = i) (hi : vs[i]? = some v) {pc : Nat} {Ls : Array Slot} {rest : List Value} (hd : decode c.code pc = .ok (.laload, 1))
    (r : Run p e below s Q k n (T.setTop (mkF m (pc + 1) Ls (v :: rest)))) : Run p e below s Q k n (T.setTop (mkF m pc Ls (.int j :: .ref a :: rest))) := by
  obtain ⟨cl, A, q⟩ := A
  obtain ⟨q1, q2⟩ := at_of q hj hi
  exact Run.st (fun t kt => X.laload hx (j := j) (v := v) (by rw [eT]; exact A.1) (State.isArrayOf_alike hZ.alike A.2.1) A.2.2 q1 q2 (g := mkF m pc Ls (.int j :: .ref a :: rest)) rfl rfl hd _ kt) r
theorem Run.ldB (X : Stand p l e R s m args below meth c T locs cells slots) (hx : p.tables.exec = Jvm.exec) (hZ : Z.Warmed39 s.vm) (eT : T.heap = h) (A : Ars Z h a .byte vs) {j : Int32} {i : Nat} (hj : j.toInt = i) (hi : vs[i]? = some v) {pc : Nat} {Ls : Array Slot} {rest : List Value} (hd : decode c.code pc = .ok (.baload, 1))
    (r : Run p e below s Q k n (T.setTop (mkF m (pc + 1) Ls (v :: rest)))) : Run p e below s Q k n (T.setTop (mkF m pc Ls (.int j :: .ref a :: rest))) := by
  obtain ⟨cl, A, q⟩ := A
  obtain ⟨q1, q2⟩ := at_of q hj hi
  exact Run.st (fun t kt => X.baloadBytes hx (j := j) (v := v) (by rw [eT]; exact A.1) (State.isArrayOf_alike hZ.alike A.2.1) A.2.2 q1 q2 (g := mkF m pc Ls (.int j :: .ref a :: rest)) rfl rfl hd _ kt) r
theorem Run.ldZ (X : Stand p l e R s m args below meth c T locs cells slots) (hx : p.tables.exec = Jvm.exec) (hZ : Z.Warmed39 s.vm) (eT : T.heap = h) (A : Ars Z h a .boolean vs) {j : Int32} {i : Nat} (hj : j.toInt = i) (hi : vs[i]? = some v) {pc : Nat} {Ls : Array Slot} {rest : List Value} (hd : decode c.code pc = .ok (.baload, 1))
    (r : Run p e below s Q k n (T.setTop (mkF m (pc + 1) Ls (v :: rest)))) : Run p e below s Q k n (T.setTop (mkF m pc Ls (.int j :: .ref a :: rest))) := by
  obtain ⟨cl, A, q⟩ := A
  obtain ⟨q1, q2⟩ := at_of q hj hi
  exact Run.st (fun t kt => X.baloadBooleans hx (j := j) (v := v) (by rw [eT]; exact A.1) (State.isArrayOf_alike hZ.alike A.2.1) A.2.2 q1 q2 (g := mkF m pc Ls (.int j :: .ref a :: rest)) rfl rfl hd _ kt) r
theorem Run.ldD (X : Stand p l e R s m args below meth c T locs cells slots) (hx : p.tables.exec = Jvm.exec) (hZ : Z.Warmed39 s.vm) (eT : T.heap = h) (A : Ars Z h a .double vs) {j : Int32} {i : Nat} (hj : j.toInt = i) (hi : vs[i]? = some v) {pc : Nat} {Ls : Array Slot} {rest : List Value} (hd : decode c.code pc = .ok (.daload, 1))
    (r : Run p e below s Q k n (T.setTop (mkF m (pc + 1) Ls (v :: rest)))) : Run p e below s Q k n (T.setTop (mkF m pc Ls (.int j :: .ref a :: rest))) := by
  obtain ⟨cl, A, q⟩ := A
  obtain ⟨q1, q2⟩ := at_of q hj hi
  exact Run.st (fun t kt => X.daload hx (j := j) (v := v) (by rw [eT]; exact A.1) (State.isArrayOf_alike hZ.alike A.2.1) A.2.2 q1 q2 (g := mkF m pc Ls (.int j :: .ref a :: rest)) rfl rfl hd _ kt) r
theorem Run.ldR (X : Stand p l e R s m args below meth c T locs cells slots) (hx : p.tables.exec = Jvm.exec) (hZ : Z.Warmed39 s.vm) (eT : T.heap = h) (A : Ars Z h a ty vs) {j : Int32} {i : Nat} (hj : j.toInt = i) (hi : vs[i]? = some v) (hty : ty.isReference = true) {pc : Nat} {Ls : Array Slot} {rest : List Value} (hd : decode c.code pc = .ok (.aaload, 1))
    (r : Run p e below s Q k n (T.setTop (mkF m (pc + 1) Ls (v :: rest)))) : Run p e below s Q k n (T.setTop (mkF m pc Ls (.int j :: .ref a :: rest))) := by
  obtain ⟨cl, A, q⟩ := A
  obtain ⟨q1, q2⟩ := at_of q hj hi
  exact Run.st (fun t kt => X.aaload hx (j := j) (v := v) (by rw [eT]; exact A.1) (State.isArrayOf_alike hZ.alike A.2.1) hty A.2.2 q1 q2 (g := mkF m pc Ls (.int j :: .ref a :: rest)) rfl rfl hd _ kt) r
theorem Run.alen (X : Stand p l e R s m args below meth c T locs cells slots) (hx : p.tables.exec = Jvm.exec) (hZ : Z.Warmed39 s.vm) (eT : T.heap = h) (A : Ars Z h a ty vs) {z : Int32} (hz : vs.length.toInt32 = z) {pc : Nat} {Ls : Array Slot} {rest : List Value} (hd : decode c.code pc = .ok (.arraylength, 1))
    (r : Run p e below s Q k n (T.setTop (mkF m (pc + 1) Ls (.int z :: rest)))) : Run p e below s Q k n (T.setTop (mkF m pc Ls (.ref a :: rest))) := by
  obtain ⟨cl, A, q⟩ := A
  have e1 : cl.slots.size.toInt32 = z := by rw [← hz, ← q]; simp
  rw [← e1] at r
  exact Run.st (fun t kt => X.arraylength hx (by rw [eT]; exact A.1) (State.isArrayOf_alike hZ.alike A.2.1) (g := mkF m pc Ls (.ref a :: rest)) rfl rfl hd _ kt) r
theorem Run.stI (X : Stand p l e R s m args below meth c T locs cells slots) (hx : p.tables.exec = Jvm.exec) (hZ : Z.Warmed39 s.vm) (eT : T.heap = h) (A : Ars Z h a .int vs) {j z : Int32} {i : Nat} (hj : j.toInt = i) (hi : i < vs.length) {pc : Nat} {Ls : Array Slot} {rest : List Value} (hd : decode c.code pc = .ok (.iastore, 1))
    (kk : ∀ (T' : State) (h' : Heap), Stand p l e R s m args below meth c T' (locs ++ [⟨a, i⟩]) cells slots → T'.heap = h' → Wr h h' a i (.int z) → Ars Z h' a .int (vs.set i (.int z)) → Run p e below s Q k n (T'.setTop (mkF m (pc + 1) Ls rest))) : Run p e below s Q k n (T.setTop (mkF m pc Ls (.int z :: .int j :: .ref a :: rest))) := by
  obtain ⟨cl, A1, q⟩ := id A
  obtain ⟨q1, q2⟩ := in_of q hj hi
  obtain ⟨T', h', X', e', W', st'⟩ := RoadKit.stI X hx hZ eT A1 (j := j) (x := z) q1 (g := mkF m pc Ls (.int z :: .int j :: .ref a :: rest)) rfl rfl hd
  rw [q2] at X' W'
  exact Run.st st' (kk T' h' X' e' W' (A.same W'))
theorem Run.stJ (X : Stand p l e R s m args below meth c T locs cells slots) (hx : p.tables.exec = Jvm.exec) (hZ : Z.Warmed39 s.vm) (eT : T.heap = h) (A : Ars Z h a .long vs) {j : Int32} {z : Int64} {i : Nat} (hj : j.toInt = i) (hi : i < vs.length) {pc : Nat} {Ls : Array Slot} {rest : List Value} (hd : decode c.code pc = .ok (.lastore, 1))
    (kk : ∀ (T' : State) (h' : Heap), Stand p l e R s m args below meth c T' (locs ++ [⟨a, i⟩]) cells slots → T'.heap = h' → Wr h h' a i (.long z) → Ars Z h' a .long (vs.set i (.long z)) → Run p e below s Q k n (T'.setTop (mkF m (pc + 1) Ls rest))) : Run p e below s Q k n (T.setTop (mkF m pc Ls (.long z :: .int j :: .ref a :: rest))) := by
  obtain ⟨cl, A1, q⟩ := id A
  obtain ⟨q1, q2⟩ := in_of q hj hi
  obtain ⟨T', h', X', e', W', st'⟩ := RoadKit.stJ X hx hZ eT A1 (j := j) (x := z) q1 (g := mkF m pc Ls (.long z :: .int j :: .ref a :: rest)) rfl rfl hd
  rw [q2] at X' W'
  exact Run.st st' (kk T' h' X' e' W' (A.same W'))
theorem Run.stD (X : Stand p l e R s m args below meth c T locs cells slots) (hx : p.tables.exec = Jvm.exec) (hZ : Z.Warmed39 s.vm) (eT : T.heap = h) (A : Ars Z h a .double vs) {j : Int32} {z : UInt64} {i : Nat} (hj : j.toInt = i) (hi : i < vs.length) {pc : Nat} {Ls : Array Slot} {rest : List Value} (hd : decode c.code pc = .ok (.dastore, 1))
    (kk : ∀ (T' : State) (h' : Heap), Stand p l e R s m args below meth c T' (locs ++ [⟨a, i⟩]) cells slots → T'.heap = h' → Wr h h' a i (.double z) → Ars Z h' a .double (vs.set i (.double z)) → Run p e below s Q k n (T'.setTop (mkF m (pc + 1) Ls rest))) : Run p e below s Q k n (T.setTop (mkF m pc Ls (.double z :: .int j :: .ref a :: rest))) := by
  obtain ⟨cl, A1, q⟩ := id A
  obtain ⟨q1, q2⟩ := in_of q hj hi
  obtain ⟨T', h', X', e', W', st'⟩ := RoadKit.stD X hx hZ eT A1 (j := j) (x := z) q1 (g := mkF m pc Ls (.double z :: .int j :: .ref a :: rest)) rfl rfl hd
  rw [q2] at X' W'
  exact Run.st st' (kk T' h' X' e' W' (A.same W'))
theorem Run.retD (X : Stand p l e R s m args below meth c T locs cells slots) (hx : p.tables.exec = Jvm.exec) (hlk : meth.locks = false) (eT : T.heap = h) (hret : meth.sig.returnType = some .double) {pc : Nat} {Ls : Array Slot} {z : UInt64} {rest : List Value}
    (hd : decode c.code pc = .ok (.dreturn, 1)) (hc : cells ≤ k) (hn : slots ≤ n) (hQ : Q (some (.double z)) h locs) : Run p e below s Q k n (T.setTop (mkF m pc Ls (.double z :: rest))) :=
  Run.end_ X hlk eT (v := some (.double z)) (fun q => by rw [hret] at q; cases q) hc hn hQ fun fs hr => RoadKit.retOut X hx hret rfl (Or.inr (Or.inr (Or.inl ⟨rfl, rfl, z, rfl⟩))) hd hr
theorem Run.stC (X : Stand p l e R s m args below meth c T locs cells slots) (hx : p.tables.exec = Jvm.exec) (hZ : Z.Warmed39 s.vm) (eT : T.heap = h) (A : Ars Z h a .char vs) {j z : Int32} {i : Nat} (hj : j.toInt = i) (hi : i < vs.length) {z' : Int32} (hz : nar .char z = z') {pc : Nat} {Ls : Array Slot} {rest : List Value} (hd : decode c.code pc = .ok (.castore, 1))
    (kk : ∀ (T' : State) (h' : Heap), Stand p l e R s m args below meth c T' (locs ++ [⟨a, i⟩]) cells slots → T'.heap = h' → Wr h h' a i (.int z') → Ars Z h' a .char (vs.set i (.int z')) → Run p e below s Q k n (T'.setTop (mkF m (pc + 1) Ls rest))) : Run p e below s Q k n (T.setTop (mkF m pc Ls (.int z :: .int j :: .ref a :: rest))) := by
  obtain ⟨cl, A1, q⟩ := id A
  obtain ⟨q1, q2⟩ := in_of q hj hi
  obtain ⟨T', h', X', e', W', st'⟩ := RoadKit.stC X hx hZ eT A1 (j := j) (x := z) q1 (g := mkF m pc Ls (.int z :: .int j :: .ref a :: rest)) rfl rfl hd
  rw [q2] at X' W'
  rw [hz] at W'
  exact Run.st st' (kk T' h' X' e' W' (A.same W'))
theorem Run.stB (X : Stand p l e R s m args below meth c T locs cells slots) (hx : p.tables.exec = Jvm.exec) (hZ : Z.Warmed39 s.vm) (eT : T.heap = h) (A : Ars Z h a .byte vs) {j z : Int32} {i : Nat} (hj : j.toInt = i) (hi : i < vs.length) {z' : Int32} (hz : nar .byte z = z') {pc : Nat} {Ls : Array Slot} {rest : List Value} (hd : decode c.code pc = .ok (.bastore, 1))
    (kk : ∀ (T' : State) (h' : Heap), Stand p l e R s m args below meth c T' (locs ++ [⟨a, i⟩]) cells slots → T'.heap = h' → Wr h h' a i (.int z') → Ars Z h' a .byte (vs.set i (.int z')) → Run p e below s Q k n (T'.setTop (mkF m (pc + 1) Ls rest))) : Run p e below s Q k n (T.setTop (mkF m pc Ls (.int z :: .int j :: .ref a :: rest))) := by
  obtain ⟨cl, A1, q⟩ := id A
  obtain ⟨q1, q2⟩ := in_of q hj hi
  obtain ⟨T', h', X', e', W', st'⟩ := RoadKit.stB X hx hZ eT A1 (j := j) (x := z) q1 (g := mkF m pc Ls (.int z :: .int j :: .ref a :: rest)) rfl rfl hd
  rw [q2] at X' W'
  rw [hz] at W'
  exact Run.st st' (kk T' h' X' e' W' (A.same W'))
theorem Run.stZ (X : Stand p l e R s m args below meth c T locs cells slots) (hx : p.tables.exec = Jvm.exec) (hZ : Z.Warmed39 s.vm) (eT : T.heap = h) (A : Ars Z h a .boolean vs) {j z : Int32} {i : Nat} (hj : j.toInt = i) (hi : i < vs.length) {z' : Int32} (hz : nar .boolean z = z') {pc : Nat} {Ls : Array Slot} {rest : List Value} (hd : decode c.code pc = .ok (.bastore, 1))
    (kk : ∀ (T' : State) (h' : Heap), Stand p l e R s m args below meth c T' (locs ++ [⟨a, i⟩]) cells slots → T'.heap = h' → Wr h h' a i (.int z') → Ars Z h' a .boolean (vs.set i (.int z')) → Run p e below s Q k n (T'.setTop (mkF m (pc + 1) Ls rest))) : Run p e below s Q k n (T.setTop (mkF m pc Ls (.int z :: .int j :: .ref a :: rest))) := by
  obtain ⟨cl, A1, q⟩ := id A
  obtain ⟨q1, q2⟩ := in_of q hj hi
  obtain ⟨T', h', X', e', W', st'⟩ := RoadKit.stZ X hx hZ eT A1 (j := j) (x := z) q1 (g := mkF m pc Ls (.int z :: .int j :: .ref a :: rest)) rfl rfl hd
  rw [q2] at X' W'
  rw [hz] at W'
  exact Run.st st' (kk T' h' X' e' W' (A.same W'))
end Laws
/-- what lies at a is no class's statics -/
def NSt (h : Heap) (a : Addr) : Prop := ∀ c : Cell, h[a]? = some c → c.vm.isStatics = false
theorem Exa_ns {Z : State} {h : Heap} {a : Addr} {C : String} (E : Exa Z h a C) : NSt h a := by
  obtain ⟨c, _, h1, -, -, h4, -⟩ := E
  intro c' q
  cases h1.symm.trans q
  exact h4
theorem Ars.ns {Z : State} {h : Heap} {a : Addr} {ty : FieldType} {vs : List Value} (A : Ars Z h a ty vs) : NSt h a := by
  obtain ⟨c, A, -⟩ := A
  intro c' q
  cases A.1.symm.trans q
  exact A.plain
theorem Sta_keep {Z : State} {h h' : Heap} {C n d : String} {v : Value} {ws : List Addr} (F : Sta Z h C n d v) (K : Keep h h' ws) (q : ∀ x ∈ ws, NSt h x) : Sta Z h' C n d v := by
  obtain ⟨cf, i, k, f, st, cell, h1, h2, h3, h4, h5, h6, h7⟩ := F
  refine ⟨cf, i, k, f, st, cell, h1, h2, h3, h4, K.2.1 _ _ h5 (fun hm => ?_), h6, h7⟩
  have := q st hm cell h5
  rw [h6] at this
  cases this
theorem nar_b01 {z : Int32} (hz : z = 0 ∨ z = 1) : nar .boolean z = z := by rcases hz with rfl | rfl <;> decide
theorem nar_b (x : Int32) : nar .byte x.toInt8.toInt32 = x.toInt8.toInt32 := by
  show x.toInt8.toInt32.toInt8.toInt32 = x.toInt8.toInt32
  simp
theorem nar_c (x : Int32) : nar .char x.toUInt32.toUInt16.toUInt32.toInt32 = x.toUInt32.toUInt16.toUInt32.toInt32 := by
  show x.toUInt32.toUInt16.toUInt32.toInt32.toUInt32.toUInt16.toUInt32.toInt32 = _
  have q : ∀ y : UInt16, y.toUInt32.toInt32.toUInt32.toUInt16 = y := fun y => by simp
  rw [q]
theorem ints_at (xs : List Int32) {i : Nat} (h : i < xs.length) : ∃ x, (xs.map Value.int)[i]? = some (.int x) := ⟨xs[i], by simp [h]⟩
/-- 1 or 0 -/
def own_b (c : Prop) [Decidable c] : Int32 := if c then 1 else 0
theorem own_b1 {c : Prop} [Decidable c] (h : c) : own_b c = 1 := if_pos h
theorem own_b0 {c : Prop} [Decidable c] (h : ¬ c) : own_b c = 0 := if_neg h
theorem own_b01 (c : Prop) [Decidable c] : own_b c = 0 ∨ own_b c = 1 := by unfold own_b; split <;> simp
theorem sub_w (a b : Int32) : (a.toInt64 - b.toInt64).toInt = a.toInt - b.toInt := by
  have h1 := c_lsub a.toInt64 b.toInt64
  have h2 := rng64 (a.toInt64 - b.toInt64)
  have h3 := rng32 a
  have h4 := rng32 b
  rw [c_i2l, c_i2l] at h1
  omega
theorem lt32 (a b : Int32) : a < b ↔ a.toInt < b.toInt := Int32.lt_iff_toInt_lt
theorem lt64 (a b : Int64) : a < b ↔ a.toInt < b.toInt := Int64.lt_iff_toInt_lt
theorem eq32 (a b : Int32) : a = b ↔ a.toInt = b.toInt := Int32.toInt_inj.symm
theorem eq64 (a b : Int64) : a = b ↔ a.toInt = b.toInt := Int64.toInt_inj.symm
/-- an int comes back, nothing is touched -/
def PureI (h0 : Heap) (n0 : Nat) (z : Int32) (v : Option Value) (h : Heap) (L : List Loc) : Prop := v = some (.int z) ∧ Fr n0 L ∧ h = h0
def PureJ (h0 : Heap) (n0 : Nat) (z : Int64) (v : Option Value) (h : Heap) (L : List Loc) : Prop := v = some (.long z) ∧ Fr n0 L ∧ h = h0
def PureR (h0 : Heap) (n0 : Nat) (z : Value) (v : Option Value) (h : Heap) (L : List Loc) : Prop := v = some z ∧ Fr n0 L ∧ h = h0
theorem PureI.mk {h0 : Heap} {n0 : Nat} {z z' : Int32} {L : List Loc} (e : z' = z) (N : Fr n0 L) : PureI h0 n0 z (some (.int z')) h0 L := ⟨by rw [e], N, rfl⟩
theorem PureJ.mk {h0 : Heap} {n0 : Nat} {z z' : Int64} {L : List Loc} (e : z' = z) (N : Fr n0 L) : PureJ h0 n0 z (some (.long z')) h0 L := ⟨by rw [e], N, rfl⟩
/-- the law's own end -/
def Tru (n0 : Nat) (v : Option Value) (h : Heap) (L : List Loc) : Prop := v = some (.int 1) ∧ Fr n0 L
end Jvm.OwnRun
namespace Jvm.Pilot.@@N@@
open Jvm Jvm.ClassFile Sem Op Lib Jvm.Free Jvm.Stand Jvm.LawKit Jvm.RoadKit Jvm.OwnRun Bundle Jvm.Pilot.@@N@@.Jvm.D
def own_sat (M : Int) : Int := if M ≤ 9223372036854775799 then M else 9223372036854775807
def own_cap (M : Int) : Int := if M ≤ 9223372036854775807 then M else -1
abbrev own_dg (b : Int32) : Prop := ¬ b < 48 ∧ ¬ 57 < b
def own_lp : Int → List Int32 → Option Int
  | v, [] => some v
  | v, b :: r => if own_dg b then own_lp (if v < 922337203685477580 then v * 10 + (b.toInt - 48) else 9223372036854775807) r else none
def own_res (ng : Int32) : Option Int → Int
  | none => -9223372036854775808
  | some x => if ng = 0 then x else -x
def own_int : List Int32 → Int
  | [] => -9223372036854775808
  | b :: r => if b = 45 then (if r = [] then -9223372036854775808 else own_res 1 (own_lp 0 r)) else if b = 43 then (if r = [] then -9223372036854775808 else own_res 0 (own_lp 0 r)) else own_res 0 (own_lp 0 (b :: r))
theorem own_dg_iff {b : Int32} : own_dg b ↔ 48 ≤ b.toInt ∧ b.toInt ≤ 57 := by
  unfold own_dg
  rw [lt32, lt32]
  have : (48 : Int32).toInt = 48 ∧ (57 : Int32).toInt = 57 := by decide
  omega
theorem own_sat_step {M c : Int} (h : 0 ≤ M) (h1 : 0 ≤ c) (h2 : c ≤ 9) : (if own_sat M < 922337203685477580 then own_sat M * 10 + c else 9223372036854775807) = own_sat (M * 10 + c) := by
  unfold own_sat
  split <;> split <;> split <;> omega
theorem own_lp_step {M : Int} {b : Int32} {r : List Int32} (h : 0 ≤ M) (hb : own_dg b) : own_lp (own_sat M) (b :: r) = own_lp (own_sat (M * 10 + (b.toInt - 48))) r := by
  have q := own_dg_iff.mp hb
  rw [own_lp, if_pos hb, own_sat_step h (by omega) (by omega)]
theorem own_lp_no {v : Int} {b : Int32} {r : List Int32} (hb : ¬ own_dg b) : own_lp v (b :: r) = none := by rw [own_lp, if_neg hb]
theorem own_lp_D {w : Int} (hw : 0 ≤ w) (hw' : w ≤ 9223372036854775807) {D : List Int32} (hD : ∀ i, i < 19 → ∃ c : Int32, D[i]? = some c ∧ c.toInt = 48 + (w / 10 ^ (18 - i)) % 10) {M : Int} (hM : 0 ≤ M) : ∀ j : Nat, j ≤ 19 → ∀ R : List Int32, own_lp (own_sat M) (D.take j ++ R) = own_lp (own_sat (M * 10 ^ j + w / 10 ^ (19 - j))) R := by
  intro j
  induction j with
  | zero =>
    intro _ R
    have : w / 10 ^ (19 - 0) = 0 := Int.ediv_eq_zero_of_lt hw (by have : (10 : Int) ^ (19 - 0) = 10000000000000000000 := by decide
                                                                  omega)
    rw [this]
    simp
  | succ j ih =>
    intro hj R
    obtain ⟨c, hc, hv⟩ := hD j (by omega)
    have e1 : D.take (j + 1) ++ R = D.take j ++ (c :: R) := by
      rw [List.take_add_one, hc]
      simp
    rw [e1, ih (by omega)]
    have p1 : (0 : Int) ≤ w / 10 ^ (19 - j) := Int.ediv_nonneg hw (Int.le_of_lt (Int.pow_pos (by decide)))
    have p2 : (0 : Int) ≤ M * 10 ^ j := Int.mul_nonneg hM (Int.le_of_lt (Int.pow_pos (by decide)))
    have dg : own_dg c := own_dg_iff.mpr (by omega)
    rw [own_lp_step (by omega) dg]
    congr 2
    have e2 : 19 - j = (18 - j) + 1 := by omega
    have e3 : 19 - (j + 1) = 18 - j := by omega
    have e4 : w / 10 ^ (19 - j) = w / 10 ^ (18 - j) / 10 := by
      rw [e2, Int.pow_succ, Int.ediv_ediv_of_nonneg (Int.le_of_lt (Int.pow_pos (by decide)))]
    rw [e3, e4, hv, Int.pow_succ, Int.add_mul, Int.mul_assoc]
    omega
def own_POW : List Value := [(Value.long (1 : Int64)), (Value.long (10 : Int64)), (Value.long (100 : Int64)), (Value.long (1000 : Int64)), (Value.long (10000 : Int64)), (Value.long (100000 : Int64)), (Value.long (1000000 : Int64)), (Value.long (10000000 : Int64)), (Value.long (100000000 : Int64)), (Value.long (1000000000 : Int64)), (Value.long (10000000000 : Int64)), (Value.long (100000000000 : Int64)), (Value.long (1000000000000 : Int64)), (Value.long (10000000000000 : Int64)), (Value.long (100000000000000 : Int64)), (Value.long (1000000000000000 : Int64)), (Value.long (10000000000000000 : Int64)), (Value.long (100000000000000000 : Int64)), (Value.long (1000000000000000000 : Int64))]
theorem own_pow {k : Nat} (h : k < 19) : ∃ x : Int64, own_POW[k]? = some (.long x) ∧ x.toInt = 10 ^ k ∧ x ≠ 0 ∧ x ≠ -1 := by
  have : k = 0 ∨ k = 1 ∨ k = 2 ∨ k = 3 ∨ k = 4 ∨ k = 5 ∨ k = 6 ∨ k = 7 ∨ k = 8 ∨ k = 9 ∨ k = 10 ∨ k = 11 ∨ k = 12 ∨ k = 13 ∨ k = 14 ∨ k = 15 ∨ k = 16 ∨ k = 17 ∨ k = 18 := by omega
  rcases this with h | h | h | h | h | h | h | h | h | h | h | h | h | h | h | h | h | h | h <;> subst h <;> exact ⟨_, rfl, by decide, by decide, by decide⟩
theorem own_byte {z : Int32} (h : -128 ≤ z.toInt) (h' : z.toInt ≤ 127) : nar .byte z = z := by
  show z.toInt8.toInt32 = z
  have q := c_i2b z
  rw [eq32]
  omega
theorem own_bz {z : Int32} {a : Int} (h : z.toInt = 48 + a % 10) : nar .byte z = z := own_byte (by omega) (by omega)
theorem own_w19 {w : Int} (h : 0 ≤ w) (h' : w ≤ 9223372036854775807) {n : Nat} (hn : n = 0) : (0 : Int) = w / 10 ^ (19 - n) := by
  subst hn
  have e : (10 : Int) ^ (19 - 0) = 10000000000000000000 := by decide
  rw [e]
  omega
theorem own_i2b {z : Int32} : -128 ≤ z.toInt8.toInt32.toInt ∧ z.toInt8.toInt32.toInt ≤ 127 := by
  have q := c_i2b z
  omega
theorem own_dig {w p : Int64} (hw : 0 ≤ w.toInt) (hp : 0 < p.toInt) (h1 : p ≠ -1) : ((48 : Int64) + (w / p) % (10 : Int64)).toInt32.toInt8.toInt32.toInt = 48 + (w.toInt / p.toInt) % 10 := by
  have d := (c_ldiv w p p.toInt rfl h1).1 hw
  have d0 : 0 ≤ w.toInt / p.toInt := Int.ediv_nonneg hw (Int.le_of_lt hp)
  have r := (c_lrem (w / p) 10 10 (by decide)).1 (by rw [d]; exact d0)
  rw [lrem_mod, d] at r
  have a := c_ladd 48 ((w / p) % 10)
  have k : (48 : Int64).toInt = 48 := rfl
  rw [k, r] at a
  have n := c_l2i ((48 : Int64) + (w / p) % (10 : Int64))
  have b := c_i2b ((48 : Int64) + (w / p) % (10 : Int64)).toInt32
  omega
theorem own_cap19 {a b : Int} (h : ¬ a = 0) (ha : 0 ≤ a) (hb : 0 ≤ b) : (-1 : Int) = own_cap (a * 10 ^ 19 + b) := by
  unfold own_cap
  have : (10 : Int) ^ 19 = 10000000000000000000 := by decide
  rw [this, if_neg (by omega)]
theorem own_cap0 {a b : Int} {k : Nat} (h : a = 0) (hb : b ≤ 9223372036854775807) : b = own_cap (a * 10 ^ k + b) := by
  unfold own_cap
  subst h
  rw [if_pos (by omega)]
  omega
theorem own_quot {acc add pw : Int64} {k : Nat} (ha : 0 ≤ acc.toInt) (hb : 0 ≤ add.toInt) (hp : pw.toInt = 10 ^ k) (h1 : pw ≠ -1) : (((9223372036854775807 : Int64) - add) / pw).toInt = (9223372036854775807 - add.toInt) / 10 ^ k := by
  have q := c_lsub 9223372036854775807 add
  have r := rng64 ((9223372036854775807 : Int64) - add)
  have s := rng64 add
  have m : (9223372036854775807 : Int64).toInt = 9223372036854775807 := rfl
  rw [m] at q
  have e : ((9223372036854775807 : Int64) - add).toInt = 9223372036854775807 - add.toInt := by omega
  have d := (c_ldiv ((9223372036854775807 : Int64) - add) pw pw.toInt rfl h1).1 (by omega)
  rw [d, e, hp]
theorem own_capN {acc add pw : Int64} {k : Nat} (ha : 0 ≤ acc.toInt) (hb : 0 ≤ add.toInt) (hp : pw.toInt = 10 ^ k) (h1 : pw ≠ -1) (h : ((9223372036854775807 : Int64) - add) / pw < acc) : (-1 : Int) = own_cap (acc.toInt * 10 ^ k + add.toInt) := by
  rw [lt64, own_quot ha hb hp h1, Int.ediv_lt_iff_lt_mul (Int.pow_pos (by decide))] at h
  unfold own_cap
  rw [if_neg (by omega)]
theorem own_capY {acc add pw : Int64} {k : Nat} (ha : 0 ≤ acc.toInt) (hb : 0 ≤ add.toInt) (hp : pw.toInt = 10 ^ k) (h1 : pw ≠ -1) (h : ¬ ((9223372036854775807 : Int64) - add) / pw < acc) : (acc * pw + add).toInt = own_cap (acc.toInt * 10 ^ k + add.toInt) := by
  rw [lt64, own_quot ha hb hp h1, Int.ediv_lt_iff_lt_mul (Int.pow_pos (by decide))] at h
  have q := c_lmul acc pw
  have r := rng64 (acc * pw)
  rw [hp] at q
  have p0 : 0 ≤ acc.toInt * 10 ^ k := Int.mul_nonneg ha (Int.le_of_lt (Int.pow_pos (by decide)))
  have a := c_ladd (acc * pw) add
  have s := rng64 (acc * pw + add)
  unfold own_cap
  rw [if_pos (by omega)]
  omega
theorem d1_0 : decode method_6_code 0 = .ok (.iload_n 0, 1) := by decide +kernel
theorem d1_1 : decode method_6_code 1 = .ok (.iconst 3, 1) := by decide +kernel
theorem d1_2 : decode method_6_code 2 = .ok (.iand, 1) := by decide +kernel
theorem d1_3 : decode method_6_code 3 = .ok (.istore_n 1, 1) := by decide +kernel
theorem d1_4 : decode method_6_code 4 = .ok (.iload_n 1, 1) := by decide +kernel
theorem d1_5 : decode method_6_code 5 = .ok (.ifCond .ne 14, 3) := by decide +kernel
theorem d1_8 : decode method_6_code 8 = .ok (.bipush 48, 2) := by decide +kernel
theorem d1_10 : decode method_6_code 10 = .ok (.iload_n 0, 1) := by decide +kernel
theorem d1_11 : decode method_6_code 11 = .ok (.iconst 2, 1) := by decide +kernel
theorem d1_12 : decode method_6_code 12 = .ok (.iushr, 1) := by decide +kernel
theorem d1_13 : decode method_6_code 13 = .ok (.bipush 10, 2) := by decide +kernel
theorem d1_15 : decode method_6_code 15 = .ok (.irem, 1) := by decide +kernel
theorem d1_16 : decode method_6_code 16 = .ok (.iadd, 1) := by decide +kernel
theorem d1_17 : decode method_6_code 17 = .ok (.i2b, 1) := by decide +kernel
theorem d1_18 : decode method_6_code 18 = .ok (.ireturn, 1) := by decide +kernel
theorem d1_19 : decode method_6_code 19 = .ok (.iload_n 1, 1) := by decide +kernel
theorem d1_20 : decode method_6_code 20 = .ok (.iconst 1, 1) := by decide +kernel
theorem d1_21 : decode method_6_code 21 = .ok (.if_icmp .ne 6, 3) := by decide +kernel
theorem d1_24 : decode method_6_code 24 = .ok (.bipush 45, 2) := by decide +kernel
theorem d1_26 : decode method_6_code 26 = .ok (.ireturn, 1) := by decide +kernel
theorem d1_27 : decode method_6_code 27 = .ok (.iload_n 1, 1) := by decide +kernel
theorem d1_28 : decode method_6_code 28 = .ok (.iconst 2, 1) := by decide +kernel
theorem d1_29 : decode method_6_code 29 = .ok (.if_icmp .ne 6, 3) := by decide +kernel
theorem d1_32 : decode method_6_code 32 = .ok (.bipush 43, 2) := by decide +kernel
theorem d1_34 : decode method_6_code 34 = .ok (.ireturn, 1) := by decide +kernel
theorem d1_35 : decode method_6_code 35 = .ok (.iload_n 0, 1) := by decide +kernel
theorem d1_36 : decode method_6_code 36 = .ok (.iconst 2, 1) := by decide +kernel
theorem d1_37 : decode method_6_code 37 = .ok (.iushr, 1) := by decide +kernel
theorem d1_38 : decode method_6_code 38 = .ok (.i2b, 1) := by decide +kernel
theorem d1_39 : decode method_6_code 39 = .ok (.ireturn, 1) := by decide +kernel
theorem pn_0 : plainName "org/tertiary/io/FieldsIntegerPinLaw" = true := by first | (simp [plainName, overriddenIn]; done) | decide +kernel
theorem ef_c_drawn (m : MethodId) (p1 : Int32) : entryFrame m #[(.int p1)] 2 = mkF m 0 #[.val (.int p1), .unset] [] := by first | (simp [entryFrame, mkF, argsToLocals, Value.category]; done) | rfl
set_option maxRecDepth 65536 in
set_option maxHeartbeats 40000000 in
theorem c_drawn (l : Launch) (Z : State) (a0 : Array Value) (hw : ∀ d ∈ tables_1, d.before a0 Z = true) (p1 : Int32) (h0 : Heap) (n0 : Nat) (Z0 : n0 ≤ h0.size)  :
    Ctr l Z (⟨"org/tertiary/io/FieldsIntegerPinLaw", "drawn", "(I)B"⟩ : MethodName) method_6_code 2 (some .byte) ({ frames := 0, cells := 0, slots := 0, locals := 0 } : Room) #[(.int p1)] h0 (fun v h L => ∃ z : Int32, v = some (.int z) ∧ Fr n0 L ∧ h = h0 ∧ -128 ≤ z.toInt ∧ z.toInt ≤ 127) := by
  refine Ctr.of (plainFor_of_name pn_0) (fun m => ef_c_drawn m p1) ?_
  intro p e s m below meth c T0 hx hby hml hown hnm hret hlk hZ e0 X0
  have N0 := Fr.nil n0
  replace hown : s.vm.findClass "org/tertiary/io/FieldsIntegerPinLaw" = some m.cls := hown
  replace hml : c.maxLocals = 2 := hml
  refine Run.x_iloadN (q := 1) X0 hx (hb hby d1_0) rfl rfl ?_
  refine Run.x_iconst (q := 2) X0 hx (hb hby d1_1) (z := (3 : Int32)) rfl rfl ?_
  refine Run.x_iand (q := 3) X0 hx (hb hby d1_2) rfl rfl ?_
  refine Run.x_istoreN (q := 4) X0 hx #[.val (.int p1), .val (.int (p1 &&& (3 : Int32)))] (hb hby d1_3) rfl rfl ?_
  generalize hv1 : (p1 &&& (3 : Int32)) = v1
  refine Run.x_iloadN (q := 5) X0 hx (hb hby d1_4) rfl rfl ?_
  by_cases hc5 : v1 = (0 : Int32)
  · skip
    refine Run.x_ifNo (q := 8) X0 hx (hb hby d1_5) ((if0 _ _).trans (teq hc5).2) rfl ?_
    refine Run.x_bipush (q := 10) X0 hx (hb hby d1_8) (z := (48 : Int32)) rfl rfl ?_
    refine Run.x_iloadN (q := 11) X0 hx (hb hby d1_10) rfl rfl ?_
    refine Run.x_iconst (q := 12) X0 hx (hb hby d1_11) (z := (2 : Int32)) rfl rfl ?_
    refine Run.x_iushr (q := 13) X0 hx (hb hby d1_12) rfl rfl ?_
    refine Run.x_bipush (q := 15) X0 hx (hb hby d1_13) (z := (10 : Int32)) rfl rfl ?_
    refine Run.x_irem (q := 16) X0 hx (hb hby d1_15) (by decide) rfl rfl ?_
    refine Run.x_iadd (q := 17) X0 hx (hb hby d1_16) rfl rfl ?_
    refine Run.x_i2b (q := 18) X0 hx (hb hby d1_17) rfl rfl ?_
    refine Run.retN X0 hx hlk e0 (t := .byte) hret (by simp) (z' := ((48 : Int32) + (((p1.toUInt32 >>> ((2 : Int32) &&& 31).toUInt32).toInt32) % (10 : Int32))).toInt8.toInt32) (nar_b _) (hb hby d1_18) (by decide) (by decide) ?_
    exact ⟨_, rfl, N0, rfl, own_i2b⟩
  · skip
    refine Run.x_ifYes (q := 19) X0 hx (hb hby d1_5) ((if0 _ _).trans (feq hc5).2) (by decide) (by decide) ?_
    refine Run.x_iloadN (q := 20) X0 hx (hb hby d1_19) rfl rfl ?_
    refine Run.x_iconst (q := 21) X0 hx (hb hby d1_20) (z := (1 : Int32)) rfl rfl ?_
    by_cases hc21 : v1 = (1 : Int32)
    · skip
      refine Run.x_icmpNo (q := 24) X0 hx (hb hby d1_21) (teq hc21).2 rfl ?_
      refine Run.x_bipush (q := 26) X0 hx (hb hby d1_24) (z := (45 : Int32)) rfl rfl ?_
      refine Run.retN X0 hx hlk e0 (t := .byte) hret (by simp) (z' := (45 : Int32)) (by decide) (hb hby d1_26) (by decide) (by decide) ?_
      exact ⟨_, rfl, N0, rfl, by decide⟩
    · skip
      refine Run.x_icmpYes (q := 27) X0 hx (hb hby d1_21) (feq hc21).2 (by decide) (by decide) ?_
      refine Run.x_iloadN (q := 28) X0 hx (hb hby d1_27) rfl rfl ?_
      refine Run.x_iconst (q := 29) X0 hx (hb hby d1_28) (z := (2 : Int32)) rfl rfl ?_
      by_cases hc29 : v1 = (2 : Int32)
      · skip
        refine Run.x_icmpNo (q := 32) X0 hx (hb hby d1_29) (teq hc29).2 rfl ?_
        refine Run.x_bipush (q := 34) X0 hx (hb hby d1_32) (z := (43 : Int32)) rfl rfl ?_
        refine Run.retN X0 hx hlk e0 (t := .byte) hret (by simp) (z' := (43 : Int32)) (by decide) (hb hby d1_34) (by decide) (by decide) ?_
        exact ⟨_, rfl, N0, rfl, by decide⟩
      · skip
        refine Run.x_icmpYes (q := 35) X0 hx (hb hby d1_29) (feq hc29).2 (by decide) (by decide) ?_
        refine Run.x_iloadN (q := 36) X0 hx (hb hby d1_35) rfl rfl ?_
        refine Run.x_iconst (q := 37) X0 hx (hb hby d1_36) (z := (2 : Int32)) rfl rfl ?_
        refine Run.x_iushr (q := 38) X0 hx (hb hby d1_37) rfl rfl ?_
        refine Run.x_i2b (q := 39) X0 hx (hb hby d1_38) rfl rfl ?_
        refine Run.retN X0 hx hlk e0 (t := .byte) hret (by simp) (z' := ((p1.toUInt32 >>> ((2 : Int32) &&& 31).toUInt32).toInt32).toInt8.toInt32) (nar_b _) (hb hby d1_39) (by decide) (by decide) ?_
        exact ⟨_, rfl, N0, rfl, own_i2b⟩
theorem d2_0 : decode method_4_code 0 = .ok (.ldc2_w 85, 3) := by decide +kernel
theorem d2_3 : decode method_4_code 3 = .ok (.lload_n 0, 1) := by decide +kernel
theorem d2_4 : decode method_4_code 4 = .ok (.lload_n 2, 1) := by decide +kernel
theorem d2_5 : decode method_4_code 5 = .ok (.ldiv, 1) := by decide +kernel
theorem d2_6 : decode method_4_code 6 = .ok (.ldc2_w 7, 3) := by decide +kernel
theorem d2_9 : decode method_4_code 9 = .ok (.lrem, 1) := by decide +kernel
theorem d2_10 : decode method_4_code 10 = .ok (.ladd, 1) := by decide +kernel
theorem d2_11 : decode method_4_code 11 = .ok (.l2i, 1) := by decide +kernel
theorem d2_12 : decode method_4_code 12 = .ok (.i2b, 1) := by decide +kernel
theorem d2_13 : decode method_4_code 13 = .ok (.ireturn, 1) := by decide +kernel
theorem ef_c_dig (m : MethodId) (p1 : Int64) (p2 : Int64) : entryFrame m #[(.long p1), (.long p2)] 4 = mkF m 0 #[.val (.long p1), .second, .val (.long p2), .second] [] := by first | (simp [entryFrame, mkF, argsToLocals, Value.category]; done) | rfl
set_option maxRecDepth 65536 in
set_option maxHeartbeats 40000000 in
theorem c_dig (l : Launch) (Z : State) (a0 : Array Value) (hw : ∀ d ∈ tables_1, d.before a0 Z = true) (p1 : Int64) (p2 : Int64) (h0 : Heap) (n0 : Nat) (Z0 : n0 ≤ h0.size) (hw0 : 0 ≤ p1.toInt) (hp0 : 0 < p2.toInt) (hp1 : p2 ≠ -1) (hp2 : p2 ≠ 0) :
    Ctr l Z (⟨"org/tertiary/io/FieldsIntegerPinLaw", "dig", "(JJ)B"⟩ : MethodName) method_4_code 4 (some .byte) ({ frames := 0, cells := 0, slots := 0, locals := 0 } : Room) #[(.long p1), (.long p2)] h0 (fun v h L => ∃ z : Int32, v = some (.int z) ∧ Fr n0 L ∧ h = h0 ∧ z.toInt = 48 + (p1.toInt / p2.toInt) % 10) := by
  refine Ctr.of (plainFor_of_name pn_0) (fun m => ef_c_dig m p1 p2) ?_
  intro p e s m below meth c T0 hx hby hml hown hnm hret hlk hZ e0 X0
  have N0 := Fr.nil n0
  replace hown : s.vm.findClass "org/tertiary/io/FieldsIntegerPinLaw" = some m.cls := hown
  replace hml : c.maxLocals = 4 := hml
  refine Run.st (B := T0.setTop (mkF m 3 #[.val (.long p1), .second, .val (.long p2), .second] [(.long (48 : Int64))])) (fun t kt => X0.ldc2Long hx hown (mvT hZ (hw _ (List.mem_of_getElem? (i := 28) rfl))) (g := (mkF m 0 #[.val (.long p1), .second, .val (.long p2), .second] [])) rfl (hb hby d2_0) _ kt) ?_
  refine Run.x_lloadN (q := 4) X0 hx (hb hby d2_3) rfl rfl ?_
  refine Run.x_lloadN (q := 5) X0 hx (hb hby d2_4) rfl rfl ?_
  refine Run.x_ldiv (q := 6) X0 hx (hb hby d2_5) hp2 rfl rfl ?_
  refine Run.st (B := T0.setTop (mkF m 9 #[.val (.long p1), .second, .val (.long p2), .second] [(.long (10 : Int64)), (.long (p1 / p2)), (.long (48 : Int64))])) (fun t kt => X0.ldc2Long hx hown (mvT hZ (hw _ (List.mem_of_getElem? (i := 1) rfl))) (g := (mkF m 6 #[.val (.long p1), .second, .val (.long p2), .second] [(.long (p1 / p2)), (.long (48 : Int64))])) rfl (hb hby d2_6) _ kt) ?_
  refine Run.x_lrem (q := 10) X0 hx (hb hby d2_9) (by decide) rfl rfl ?_
  refine Run.x_ladd (q := 11) X0 hx (hb hby d2_10) rfl rfl ?_
  refine Run.x_l2i (q := 12) X0 hx (hb hby d2_11) rfl rfl ?_
  refine Run.x_i2b (q := 13) X0 hx (hb hby d2_12) rfl rfl ?_
  refine Run.retN X0 hx hlk e0 (t := .byte) hret (by simp) (z' := ((48 : Int64) + ((p1 / p2) % (10 : Int64))).toInt32.toInt8.toInt32) (nar_b _) (hb hby d2_13) (by decide) (by decide) ?_
  exact ⟨_, rfl, N0, rfl, own_dig hw0 hp0 hp1⟩
theorem d3_0 : decode method_5_code 0 = .ok (.iload_n 0, 1) := by decide +kernel
theorem d3_1 : decode method_5_code 1 = .ok (.bipush 48, 2) := by decide +kernel
theorem d3_3 : decode method_5_code 3 = .ok (.if_icmp .lt 13, 3) := by decide +kernel
theorem d3_6 : decode method_5_code 6 = .ok (.iload_n 0, 1) := by decide +kernel
theorem d3_7 : decode method_5_code 7 = .ok (.bipush 57, 2) := by decide +kernel
theorem d3_9 : decode method_5_code 9 = .ok (.if_icmp .gt 7, 3) := by decide +kernel
theorem d3_12 : decode method_5_code 12 = .ok (.iconst 1, 1) := by decide +kernel
theorem d3_13 : decode method_5_code 13 = .ok (.goto 4, 3) := by decide +kernel
theorem d3_16 : decode method_5_code 16 = .ok (.iconst 0, 1) := by decide +kernel
theorem d3_17 : decode method_5_code 17 = .ok (.ireturn, 1) := by decide +kernel
theorem ef_c_isd (m : MethodId) (p1 : Int32) : entryFrame m #[(.int p1)] 1 = mkF m 0 #[.val (.int p1)] [] := by first | (simp [entryFrame, mkF, argsToLocals, Value.category]; done) | rfl
set_option maxRecDepth 65536 in
set_option maxHeartbeats 40000000 in
theorem c_isd (l : Launch) (Z : State) (a0 : Array Value) (hw : ∀ d ∈ tables_1, d.before a0 Z = true) (p1 : Int32) (h0 : Heap) (n0 : Nat) (Z0 : n0 ≤ h0.size)  :
    Ctr l Z (⟨"org/tertiary/io/FieldsIntegerPinLaw", "isDigit", "(B)Z"⟩ : MethodName) method_5_code 1 (some .boolean) ({ frames := 0, cells := 0, slots := 0, locals := 0 } : Room) #[(.int p1)] h0 (PureI h0 n0 (own_b (own_dg p1))) := by
  refine Ctr.of (plainFor_of_name pn_0) (fun m => ef_c_isd m p1) ?_
  intro p e s m below meth c T0 hx hby hml hown hnm hret hlk hZ e0 X0
  have N0 := Fr.nil n0
  replace hown : s.vm.findClass "org/tertiary/io/FieldsIntegerPinLaw" = some m.cls := hown
  replace hml : c.maxLocals = 1 := hml
  refine Run.x_iloadN (q := 1) X0 hx (hb hby d3_0) rfl rfl ?_
  refine Run.x_bipush (q := 3) X0 hx (hb hby d3_1) (z := (48 : Int32)) rfl rfl ?_
  by_cases hc3 : p1 < (48 : Int32)
  · skip
    refine Run.x_icmpYes (q := 16) X0 hx (hb hby d3_3) (tlt hc3).1 (by decide) (by decide) ?_
    refine Run.x_iconst (q := 17) X0 hx (hb hby d3_16) (z := (0 : Int32)) rfl rfl ?_
    refine Run.retN X0 hx hlk e0 (t := .boolean) hret (by simp) (z' := (0 : Int32)) (by decide) (hb hby d3_17) (by decide) (by decide) ?_
    exact PureI.mk (by simp [own_b, own_dg, hc3]) N0
  · skip
    refine Run.x_icmpNo (q := 6) X0 hx (hb hby d3_3) (flt hc3).1 rfl ?_
    refine Run.x_iloadN (q := 7) X0 hx (hb hby d3_6) rfl rfl ?_
    refine Run.x_bipush (q := 9) X0 hx (hb hby d3_7) (z := (57 : Int32)) rfl rfl ?_
    by_cases hc9 : (57 : Int32) < p1
    · skip
      refine Run.x_icmpYes (q := 16) X0 hx (hb hby d3_9) (tlt hc9).2.2.1 (by decide) (by decide) ?_
      refine Run.x_iconst (q := 17) X0 hx (hb hby d3_16) (z := (0 : Int32)) rfl rfl ?_
      refine Run.retN X0 hx hlk e0 (t := .boolean) hret (by simp) (z' := (0 : Int32)) (by decide) (hb hby d3_17) (by decide) (by decide) ?_
      exact PureI.mk (by simp [own_b, own_dg, hc3, hc9]) N0
    · skip
      refine Run.x_icmpNo (q := 12) X0 hx (hb hby d3_9) (flt hc9).2.2.1 rfl ?_
      refine Run.x_iconst (q := 13) X0 hx (hb hby d3_12) (z := (1 : Int32)) rfl rfl ?_
      refine Run.x_goto (q := 17) X0 hx (hb hby d3_13) (by decide) (by decide) ?_
      refine Run.retN X0 hx hlk e0 (t := .boolean) hret (by simp) (z' := (1 : Int32)) (by decide) (hb hby d3_17) (by decide) (by decide) ?_
      exact PureI.mk (by simp [own_b, own_dg, hc3, hc9]) N0
theorem d4_0 : decode jdk_29_method_69_code 0 = .ok (.iload_n 0, 1) := by decide +kernel
theorem d4_1 : decode jdk_29_method_69_code 1 = .ok (.iload_n 1, 1) := by decide +kernel
theorem d4_2 : decode jdk_29_method_69_code 2 = .ok (.if_icmp .gt 7, 3) := by decide +kernel
theorem d4_5 : decode jdk_29_method_69_code 5 = .ok (.iload_n 0, 1) := by decide +kernel
theorem d4_6 : decode jdk_29_method_69_code 6 = .ok (.goto 4, 3) := by decide +kernel
theorem d4_9 : decode jdk_29_method_69_code 9 = .ok (.iload_n 1, 1) := by decide +kernel
theorem d4_10 : decode jdk_29_method_69_code 10 = .ok (.ireturn, 1) := by decide +kernel
theorem ef_c_min (m : MethodId) (p1 : Int32) (p2 : Int32) : entryFrame m #[(.int p1), (.int p2)] 2 = mkF m 0 #[.val (.int p1), .val (.int p2)] [] := by first | (simp [entryFrame, mkF, argsToLocals, Value.category]; done) | rfl
set_option maxRecDepth 65536 in
set_option maxHeartbeats 40000000 in
theorem c_min (l : Launch) (Z : State) (a0 : Array Value) (hw : ∀ d ∈ tables_1, d.before a0 Z = true) (p1 : Int32) (p2 : Int32) (h0 : Heap) (n0 : Nat) (Z0 : n0 ≤ h0.size)  :
    Ctr l Z (⟨"java/lang/Math", "min", "(II)I"⟩ : MethodName) jdk_29_method_69_code 2 (some .int) ({ frames := 0, cells := 0, slots := 0, locals := 0 } : Room) #[(.int p1), (.int p2)] h0 (PureI h0 n0 (if p2 < p1 then p2 else p1)) := by
  refine Ctr.of (Jvm.Free.JP.mathPlain rfl (by decide +kernel)) (fun m => ef_c_min m p1 p2) ?_
  intro p e s m below meth c T0 hx hby hml hown hnm hret hlk hZ e0 X0
  have N0 := Fr.nil n0
  replace hown : s.vm.findClass "java/lang/Math" = some m.cls := hown
  replace hml : c.maxLocals = 2 := hml
  refine Run.x_iloadN (q := 1) X0 hx (hb hby d4_0) rfl rfl ?_
  refine Run.x_iloadN (q := 2) X0 hx (hb hby d4_1) rfl rfl ?_
  by_cases hc2 : p2 < p1
  · skip
    refine Run.x_icmpYes (q := 9) X0 hx (hb hby d4_2) (tlt hc2).2.2.1 (by decide) (by decide) ?_
    refine Run.x_iloadN (q := 10) X0 hx (hb hby d4_9) rfl rfl ?_
    refine Run.retI X0 hx hlk e0 hret (hb hby d4_10) (by decide) (by decide) ?_
    exact PureI.mk (by simp [hc2]) N0
  · skip
    refine Run.x_icmpNo (q := 5) X0 hx (hb hby d4_2) (flt hc2).2.2.1 rfl ?_
    refine Run.x_iloadN (q := 6) X0 hx (hb hby d4_5) rfl rfl ?_
    refine Run.x_goto (q := 10) X0 hx (hb hby d4_6) (by decide) (by decide) ?_
    refine Run.retI X0 hx hlk e0 hret (hb hby d4_10) (by decide) (by decide) ?_
    exact PureI.mk (by simp [hc2]) N0
theorem d5_0 : decode method_3_code 0 = .ok (.iload_n 2, 1) := by decide +kernel
theorem d5_1 : decode method_3_code 1 = .ok (.bipush 19, 2) := by decide +kernel
theorem d5_3 : decode method_3_code 3 = .ok (.if_icmp .ne 17, 3) := by decide +kernel
theorem d5_6 : decode method_3_code 6 = .ok (.lload_n 0, 1) := by decide +kernel
theorem d5_7 : decode method_3_code 7 = .ok (.lconst 0, 1) := by decide +kernel
theorem d5_8 : decode method_3_code 8 = .ok (.lcmp, 1) := by decide +kernel
theorem d5_9 : decode method_3_code 9 = .ok (.ifCond .ne 7, 3) := by decide +kernel
theorem d5_12 : decode method_3_code 12 = .ok (.lload_n 3, 1) := by decide +kernel
theorem d5_13 : decode method_3_code 13 = .ok (.goto 6, 3) := by decide +kernel
theorem d5_16 : decode method_3_code 16 = .ok (.ldc2_w 69, 3) := by decide +kernel
theorem d5_19 : decode method_3_code 19 = .ok (.lreturn, 1) := by decide +kernel
theorem d5_20 : decode method_3_code 20 = .ok (.lload_n 0, 1) := by decide +kernel
theorem d5_21 : decode method_3_code 21 = .ok (.ldc2_w 45, 3) := by decide +kernel
theorem d5_24 : decode method_3_code 24 = .ok (.lload_n 3, 1) := by decide +kernel
theorem d5_25 : decode method_3_code 25 = .ok (.lsub, 1) := by decide +kernel
theorem d5_26 : decode method_3_code 26 = .ok (.aload 5, 2) := by decide +kernel
theorem d5_28 : decode method_3_code 28 = .ok (.iload_n 2, 1) := by decide +kernel
theorem d5_29 : decode method_3_code 29 = .ok (.laload, 1) := by decide +kernel
theorem d5_30 : decode method_3_code 30 = .ok (.ldiv, 1) := by decide +kernel
theorem d5_31 : decode method_3_code 31 = .ok (.lcmp, 1) := by decide +kernel
theorem d5_32 : decode method_3_code 32 = .ok (.ifCond .gt 14, 3) := by decide +kernel
theorem d5_35 : decode method_3_code 35 = .ok (.lload_n 0, 1) := by decide +kernel
theorem d5_36 : decode method_3_code 36 = .ok (.aload 5, 2) := by decide +kernel
theorem d5_38 : decode method_3_code 38 = .ok (.iload_n 2, 1) := by decide +kernel
theorem d5_39 : decode method_3_code 39 = .ok (.laload, 1) := by decide +kernel
theorem d5_40 : decode method_3_code 40 = .ok (.lmul, 1) := by decide +kernel
theorem d5_41 : decode method_3_code 41 = .ok (.lload_n 3, 1) := by decide +kernel
theorem d5_42 : decode method_3_code 42 = .ok (.ladd, 1) := by decide +kernel
theorem d5_43 : decode method_3_code 43 = .ok (.goto 6, 3) := by decide +kernel
theorem d5_46 : decode method_3_code 46 = .ok (.ldc2_w 69, 3) := by decide +kernel
theorem d5_49 : decode method_3_code 49 = .ok (.lreturn, 1) := by decide +kernel
theorem ef_c_mul (m : MethodId) (p1 : Int64) (p2 : Int32) (p3 : Int64) (pa : Addr) : entryFrame m #[(.long p1), (.int p2), (.long p3), (.ref pa)] 6 = mkF m 0 #[.val (.long p1), .second, .val (.int p2), .val (.long p3), .second, .val (.ref pa)] [] := by first | (simp [entryFrame, mkF, argsToLocals, Value.category]; done) | rfl
set_option maxRecDepth 65536 in
set_option maxHeartbeats 40000000 in
theorem c_mul (l : Launch) (Z : State) (a0 : Array Value) (hw : ∀ d ∈ tables_1, d.before a0 Z = true) (p1 : Int64) (p2 : Int32) (p3 : Int64) (pa : Addr) (h0 : Heap) (n0 : Nat) (Z0 : n0 ≤ h0.size) (k : Nat) (A_pa : Ars Z h0 pa .long own_POW) (he : p2.toInt = k) (hk : k ≤ 19) (hac : 0 ≤ p1.toInt) (had : 0 ≤ p3.toInt) :
    Ctr l Z (⟨"org/tertiary/io/FieldsIntegerPinLaw", "mulAdd", "(JIJ[J)J"⟩ : MethodName) method_3_code 6 (some .long) ({ frames := 0, cells := 0, slots := 0, locals := 0 } : Room) #[(.long p1), (.int p2), (.long p3), (.ref pa)] h0 (fun v h L => ∃ z : Int64, v = some (.long z) ∧ Fr n0 L ∧ h = h0 ∧ z.toInt = own_cap (p1.toInt * 10 ^ k + p3.toInt)) := by
  refine Ctr.of (plainFor_of_name pn_0) (fun m => ef_c_mul m p1 p2 p3 pa) ?_
  intro p e s m below meth c T0 hx hby hml hown hnm hret hlk hZ e0 X0
  have N0 := Fr.nil n0
  replace hown : s.vm.findClass "org/tertiary/io/FieldsIntegerPinLaw" = some m.cls := hown
  replace hml : c.maxLocals = 6 := hml
  refine Run.x_iloadN (q := 1) X0 hx (hb hby d5_0) rfl rfl ?_
  refine Run.x_bipush (q := 3) X0 hx (hb hby d5_1) (z := (19 : Int32)) rfl rfl ?_
  by_cases hc3 : p2 = (19 : Int32)
  · skip
    refine Run.x_icmpNo (q := 6) X0 hx (hb hby d5_3) (teq hc3).2 rfl ?_
    refine Run.x_lloadN (q := 7) X0 hx (hb hby d5_6) rfl rfl ?_
    refine Run.x_lconst (q := 8) X0 hx (hb hby d5_7) (z := (0 : Int64)) rfl rfl ?_
    refine Run.x_lcmp (q := 9) X0 hx (hb hby d5_8)  rfl ?_
    by_cases hc9 : p1 = (0 : Int64)
    · skip
      refine Run.x_ifNo (q := 12) X0 hx (hb hby d5_9) ((if0 _ _).trans (teq ((lw_eq p1 (0 : Int64)).mpr hc9)).2) rfl ?_
      refine Run.x_lloadN (q := 13) X0 hx (hb hby d5_12) rfl rfl ?_
      refine Run.x_goto (q := 19) X0 hx (hb hby d5_13) (by decide) (by decide) ?_
      refine Run.retJ X0 hx hlk e0 hret (hb hby d5_19) (by decide) (by decide) ?_
      exact ⟨_, rfl, N0, rfl, own_cap0 (by rw [eq64] at hc9; exact hc9) (by have := rng64 p3; omega)⟩
    · skip
      refine Run.x_ifYes (q := 16) X0 hx (hb hby d5_9) ((if0 _ _).trans (feq (mt (lw_eq p1 (0 : Int64)).mp hc9)).2) (by decide) (by decide) ?_
      refine Run.st (B := T0.setTop (mkF m 19 #[.val (.long p1), .second, .val (.int p2), .val (.long p3), .second, .val (.ref pa)] [(.long (-1 : Int64))])) (fun t kt => X0.ldc2Long hx hown (mvT hZ (hw _ (List.mem_of_getElem? (i := 39) rfl))) (g := (mkF m 16 #[.val (.long p1), .second, .val (.int p2), .val (.long p3), .second, .val (.ref pa)] [])) rfl (hb hby d5_16) _ kt) ?_
      refine Run.retJ X0 hx hlk e0 hret (hb hby d5_19) (by decide) (by decide) ?_
      have k19 : k = 19 := by have q := hc3; rw [eq32, he] at q; have c : (19 : Int32).toInt = 19 := rfl; omega
      subst k19
      exact ⟨_, rfl, N0, rfl, own_cap19 (by rw [eq64] at hc9; exact hc9) hac had⟩
  · skip
    refine Run.x_icmpYes (q := 20) X0 hx (hb hby d5_3) (feq hc3).2 (by decide) (by decide) ?_
    have hk18 : k < 19 := by have q := hc3; rw [eq32, he] at q; have c : (19 : Int32).toInt = 19 := rfl; omega
    refine Run.x_lloadN (q := 21) X0 hx (hb hby d5_20) rfl rfl ?_
    refine Run.st (B := T0.setTop (mkF m 24 #[.val (.long p1), .second, .val (.int p2), .val (.long p3), .second, .val (.ref pa)] [(.long (9223372036854775807 : Int64)), (.long p1)])) (fun t kt => X0.ldc2Long hx hown (mvT hZ (hw _ (List.mem_of_getElem? (i := 19) rfl))) (g := (mkF m 21 #[.val (.long p1), .second, .val (.int p2), .val (.long p3), .second, .val (.ref pa)] [(.long p1)])) rfl (hb hby d5_21) _ kt) ?_
    refine Run.x_lloadN (q := 25) X0 hx (hb hby d5_24) rfl rfl ?_
    refine Run.x_lsub (q := 26) X0 hx (hb hby d5_25) rfl rfl ?_
    refine Run.x_aload (q := 28) X0 hx (hb hby d5_26) rfl rfl rfl ?_
    refine Run.x_iloadN (q := 29) X0 hx (hb hby d5_28) rfl rfl ?_
    obtain ⟨pw1, hpw1, hpv1, hpz1, hpm1⟩ := own_pow (k := k) hk18
    refine Run.ldJ X0 hx hZ e0 A_pa (i := k) (v := (.long pw1)) he hpw1 (hb hby d5_29) ?_
    show Run p e below s _ _ _ (T0.setTop (mkF m 30 #[.val (.long p1), .second, .val (.int p2), .val (.long p3), .second, .val (.ref pa)] [(.long pw1), (.long ((9223372036854775807 : Int64) - p3)), (.long p1)]))
    refine Run.x_ldiv (q := 31) X0 hx (hb hby d5_30) hpz1 rfl rfl ?_
    refine Run.x_lcmp (q := 32) X0 hx (hb hby d5_31)  rfl ?_
    by_cases hc32 : (((9223372036854775807 : Int64) - p3) / pw1) < p1
    · skip
      refine Run.x_ifYes (q := 46) X0 hx (hb hby d5_32) ((if0 _ _).trans (tlt ((lw_gt p1 (((9223372036854775807 : Int64) - p3) / pw1)).mpr hc32)).2.2.1) (by decide) (by decide) ?_
      refine Run.st (B := T0.setTop (mkF m 49 #[.val (.long p1), .second, .val (.int p2), .val (.long p3), .second, .val (.ref pa)] [(.long (-1 : Int64))])) (fun t kt => X0.ldc2Long hx hown (mvT hZ (hw _ (List.mem_of_getElem? (i := 39) rfl))) (g := (mkF m 46 #[.val (.long p1), .second, .val (.int p2), .val (.long p3), .second, .val (.ref pa)] [])) rfl (hb hby d5_46) _ kt) ?_
      refine Run.retJ X0 hx hlk e0 hret (hb hby d5_49) (by decide) (by decide) ?_
      exact ⟨_, rfl, N0, rfl, own_capN hac had hpv1 hpm1 hc32⟩
    · skip
      refine Run.x_ifNo (q := 35) X0 hx (hb hby d5_32) ((if0 _ _).trans (flt (mt (lw_gt p1 (((9223372036854775807 : Int64) - p3) / pw1)).mp hc32)).2.2.1) rfl ?_
      refine Run.x_lloadN (q := 36) X0 hx (hb hby d5_35) rfl rfl ?_
      refine Run.x_aload (q := 38) X0 hx (hb hby d5_36) rfl rfl rfl ?_
      refine Run.x_iloadN (q := 39) X0 hx (hb hby d5_38) rfl rfl ?_
      obtain ⟨pw2, hpw2, hpv2, hpz2, hpm2⟩ := own_pow (k := k) hk18
      refine Run.ldJ X0 hx hZ e0 A_pa (i := k) (v := (.long pw2)) he hpw2 (hb hby d5_39) ?_
      show Run p e below s _ _ _ (T0.setTop (mkF m 40 #[.val (.long p1), .second, .val (.int p2), .val (.long p3), .second, .val (.ref pa)] [(.long pw2), (.long p1)]))
      refine Run.x_lmul (q := 41) X0 hx (hb hby d5_40) rfl rfl ?_
      refine Run.x_lloadN (q := 42) X0 hx (hb hby d5_41) rfl rfl ?_
      refine Run.x_ladd (q := 43) X0 hx (hb hby d5_42) rfl rfl ?_
      refine Run.x_goto (q := 49) X0 hx (hb hby d5_43) (by decide) (by decide) ?_
      refine Run.retJ X0 hx hlk e0 hret (hb hby d5_49) (by decide) (by decide) ?_
      obtain rfl : pw2 = pw1 := by rw [eq64, hpv2, hpv1]
      exact ⟨_, rfl, N0, rfl, own_capY hac had hpv2 hpm2 hc32⟩
theorem own_at {pre r post : List Int32} {b : Int32} : ((pre ++ (b :: r) ++ post).map Value.int)[pre.length]? = some (.int b) := by simp
theorem own_inc {i : Int32} {n : Nat} (h : i.toInt = n) (h' : n ≤ 1000) : (i + 1).toInt = (n + 1 : Nat) := by
  have q := c_iadd i 1
  have r := rng32 (i + 1)
  have : (1 : Int32).toInt = 1 := rfl
  omega
theorem own_v10 {v : Int64} {b : Int32} (hv : 0 ≤ v.toInt) (h : v < (922337203685477580 : Int64)) (h1 : ¬ b < 48) (h2 : ¬ 57 < b) : (v * (10 : Int64) + (b - 48).toInt64).toInt = (if v.toInt < 922337203685477580 then v.toInt * 10 + (b.toInt - 48) else 9223372036854775807) ∧ 0 ≤ (v * (10 : Int64) + (b - 48).toInt64).toInt := by
  have d := own_dg_iff.mp ⟨h1, h2⟩
  rw [lt64] at h
  have k : (922337203685477580 : Int64).toInt = 922337203685477580 := rfl
  have k10 : (10 : Int64).toInt = 10 := rfl
  have k48 : (48 : Int32).toInt = 48 := rfl
  have q := c_lmul v 10
  rw [k10] at q
  have r := rng64 (v * 10)
  have u := c_isub b 48
  have u' := rng32 (b - 48)
  have x := c_i2l (b - 48)
  have e1 : (v * 10).toInt = v.toInt * 10 := by omega
  have e2 : (b - 48).toInt = b.toInt - 48 := by omega
  have y := c_ladd (v * 10) (b - 48).toInt64
  have y' := rng64 (v * 10 + (b - 48).toInt64)
  rw [x, e1, e2] at y
  have e3 : (v * 10 + (b - 48).toInt64).toInt = v.toInt * 10 + (b.toInt - 48) := by omega
  rw [if_pos (by omega), e3]
  exact ⟨rfl, by omega⟩
theorem own_vmax {v : Int64} {b : Int32} (h : ¬ v < (922337203685477580 : Int64)) : (9223372036854775807 : Int64).toInt = (if v.toInt < 922337203685477580 then v.toInt * 10 + (b.toInt - 48) else 9223372036854775807) ∧ 0 ≤ (9223372036854775807 : Int64).toInt := by
  rw [lt64] at h
  have k : (922337203685477580 : Int64).toInt = 922337203685477580 := rfl
  rw [if_neg (by omega)]
  decide
theorem own_neg {v : Int64} (h : 0 ≤ v.toInt) : (-v).toInt = -v.toInt := by
  have q := c_lneg v
  have r := rng64 v
  have s := rng64 (-v)
  omega
theorem own_res0 {ng : Int32} {x : Int} (h : ng = 0) : own_res ng (some x) = x := if_pos h
theorem own_resN {ng : Int32} {x : Int} (h : ¬ ng = 0) : own_res ng (some x) = -x := if_neg h
theorem own_i1 {b : Int32} {r : List Int32} (h : b = 45) (hr : r = []) : own_int (b :: r) = -9223372036854775808 := by simp [own_int, h, hr]
theorem own_i2 {b : Int32} {r : List Int32} (h : b = 45) (hr : ¬ r = []) : own_int (b :: r) = own_res 1 (own_lp 0 r) := by simp [own_int, h, hr]
theorem own_i3 {b : Int32} {r : List Int32} (h : ¬ b = 45) (h' : b = 43) (hr : r = []) : own_int (b :: r) = -9223372036854775808 := by
  subst h'
  simp [own_int, hr]
theorem own_i4 {b : Int32} {r : List Int32} (h : ¬ b = 45) (h' : b = 43) (hr : ¬ r = []) : own_int (b :: r) = own_res 0 (own_lp 0 r) := by
  subst h'
  simp [own_int, hr]
theorem own_i5 {b : Int32} {r : List Int32} (h : ¬ b = 45) (h' : ¬ b = 43) : own_int (b :: r) = own_res 0 (own_lp 0 (b :: r)) := by simp [own_int, h, h']
theorem own_lpc {v : Int} {b : Int32} {r : List Int32} (h1 : ¬ b < 48) (h2 : ¬ 57 < b) : own_lp v (b :: r) = own_lp (if v < 922337203685477580 then v * 10 + (b.toInt - 48) else 9223372036854775807) r := by rw [own_lp, if_pos ⟨h1, h2⟩]
theorem d6_0 : decode prog_50_method_7_code 0 = .ok (.iload_n 1, 1) := by decide +kernel
theorem d6_1 : decode prog_50_method_7_code 1 = .ok (.istore_n 3, 1) := by decide +kernel
theorem d6_2 : decode prog_50_method_7_code 2 = .ok (.iload_n 3, 1) := by decide +kernel
theorem d6_3 : decode prog_50_method_7_code 3 = .ok (.iload_n 2, 1) := by decide +kernel
theorem d6_4 : decode prog_50_method_7_code 4 = .ok (.if_icmp .ge 15, 3) := by decide +kernel
theorem d6_7 : decode prog_50_method_7_code 7 = .ok (.aload_n 0, 1) := by decide +kernel
theorem d6_8 : decode prog_50_method_7_code 8 = .ok (.iload_n 3, 1) := by decide +kernel
theorem d6_9 : decode prog_50_method_7_code 9 = .ok (.baload, 1) := by decide +kernel
theorem d6_10 : decode prog_50_method_7_code 10 = .ok (.bipush 45, 2) := by decide +kernel
theorem d6_12 : decode prog_50_method_7_code 12 = .ok (.if_icmp .ne 7, 3) := by decide +kernel
theorem d6_15 : decode prog_50_method_7_code 15 = .ok (.iconst 1, 1) := by decide +kernel
theorem d6_16 : decode prog_50_method_7_code 16 = .ok (.goto 4, 3) := by decide +kernel
theorem d6_19 : decode prog_50_method_7_code 19 = .ok (.iconst 0, 1) := by decide +kernel
theorem d6_20 : decode prog_50_method_7_code 20 = .ok (.istore 4, 2) := by decide +kernel
theorem d6_22 : decode prog_50_method_7_code 22 = .ok (.iload 4, 2) := by decide +kernel
theorem d6_24 : decode prog_50_method_7_code 24 = .ok (.ifCond .ne 16, 3) := by decide +kernel
theorem d6_27 : decode prog_50_method_7_code 27 = .ok (.iload_n 3, 1) := by decide +kernel
theorem d6_28 : decode prog_50_method_7_code 28 = .ok (.iload_n 2, 1) := by decide +kernel
theorem d6_29 : decode prog_50_method_7_code 29 = .ok (.if_icmp .ge 14, 3) := by decide +kernel
theorem d6_32 : decode prog_50_method_7_code 32 = .ok (.aload_n 0, 1) := by decide +kernel
theorem d6_33 : decode prog_50_method_7_code 33 = .ok (.iload_n 3, 1) := by decide +kernel
theorem d6_34 : decode prog_50_method_7_code 34 = .ok (.baload, 1) := by decide +kernel
theorem d6_35 : decode prog_50_method_7_code 35 = .ok (.bipush 43, 2) := by decide +kernel
theorem d6_37 : decode prog_50_method_7_code 37 = .ok (.if_icmp .ne 6, 3) := by decide +kernel
theorem d6_40 : decode prog_50_method_7_code 40 = .ok (.iinc 3 1, 3) := by decide +kernel
theorem d6_43 : decode prog_50_method_7_code 43 = .ok (.iload_n 3, 1) := by decide +kernel
theorem d6_44 : decode prog_50_method_7_code 44 = .ok (.iload_n 2, 1) := by decide +kernel
theorem d6_45 : decode prog_50_method_7_code 45 = .ok (.if_icmp .ne 7, 3) := by decide +kernel
theorem d6_48 : decode prog_50_method_7_code 48 = .ok (.ldc2_w 100, 3) := by decide +kernel
theorem d6_51 : decode prog_50_method_7_code 51 = .ok (.lreturn, 1) := by decide +kernel
theorem d6_52 : decode prog_50_method_7_code 52 = .ok (.lconst 0, 1) := by decide +kernel
theorem d6_53 : decode prog_50_method_7_code 53 = .ok (.lstore 5, 2) := by decide +kernel
theorem d6_55 : decode prog_50_method_7_code 55 = .ok (.iload_n 3, 1) := by decide +kernel
theorem d6_56 : decode prog_50_method_7_code 56 = .ok (.iload_n 2, 1) := by decide +kernel
theorem d6_57 : decode prog_50_method_7_code 57 = .ok (.if_icmp .ge 62, 3) := by decide +kernel
theorem d6_60 : decode prog_50_method_7_code 60 = .ok (.aload_n 0, 1) := by decide +kernel
theorem d6_61 : decode prog_50_method_7_code 61 = .ok (.iload_n 3, 1) := by decide +kernel
theorem d6_62 : decode prog_50_method_7_code 62 = .ok (.baload, 1) := by decide +kernel
theorem d6_63 : decode prog_50_method_7_code 63 = .ok (.istore 7, 2) := by decide +kernel
theorem d6_65 : decode prog_50_method_7_code 65 = .ok (.iload 7, 2) := by decide +kernel
theorem d6_67 : decode prog_50_method_7_code 67 = .ok (.bipush 48, 2) := by decide +kernel
theorem d6_69 : decode prog_50_method_7_code 69 = .ok (.if_icmp .lt 10, 3) := by decide +kernel
theorem d6_72 : decode prog_50_method_7_code 72 = .ok (.iload 7, 2) := by decide +kernel
theorem d6_74 : decode prog_50_method_7_code 74 = .ok (.bipush 57, 2) := by decide +kernel
theorem d6_76 : decode prog_50_method_7_code 76 = .ok (.if_icmp .le 7, 3) := by decide +kernel
theorem d6_79 : decode prog_50_method_7_code 79 = .ok (.ldc2_w 100, 3) := by decide +kernel
theorem d6_82 : decode prog_50_method_7_code 82 = .ok (.lreturn, 1) := by decide +kernel
theorem d6_83 : decode prog_50_method_7_code 83 = .ok (.lload 5, 2) := by decide +kernel
theorem d6_85 : decode prog_50_method_7_code 85 = .ok (.ldc2_w 102, 3) := by decide +kernel
theorem d6_88 : decode prog_50_method_7_code 88 = .ok (.lcmp, 1) := by decide +kernel
theorem d6_89 : decode prog_50_method_7_code 89 = .ok (.ifCond .ge 19, 3) := by decide +kernel
theorem d6_92 : decode prog_50_method_7_code 92 = .ok (.lload 5, 2) := by decide +kernel
theorem d6_94 : decode prog_50_method_7_code 94 = .ok (.ldc2_w 72, 3) := by decide +kernel
theorem d6_97 : decode prog_50_method_7_code 97 = .ok (.lmul, 1) := by decide +kernel
theorem d6_98 : decode prog_50_method_7_code 98 = .ok (.iload 7, 2) := by decide +kernel
theorem d6_100 : decode prog_50_method_7_code 100 = .ok (.bipush 48, 2) := by decide +kernel
theorem d6_102 : decode prog_50_method_7_code 102 = .ok (.isub, 1) := by decide +kernel
theorem d6_103 : decode prog_50_method_7_code 103 = .ok (.i2l, 1) := by decide +kernel
theorem d6_104 : decode prog_50_method_7_code 104 = .ok (.ladd, 1) := by decide +kernel
theorem d6_105 : decode prog_50_method_7_code 105 = .ok (.goto 6, 3) := by decide +kernel
theorem d6_108 : decode prog_50_method_7_code 108 = .ok (.ldc2_w 104, 3) := by decide +kernel
theorem d6_111 : decode prog_50_method_7_code 111 = .ok (.lstore 5, 2) := by decide +kernel
theorem d6_113 : decode prog_50_method_7_code 113 = .ok (.iinc 3 1, 3) := by decide +kernel
theorem d6_116 : decode prog_50_method_7_code 116 = .ok (.goto (-61), 3) := by decide +kernel
theorem d6_119 : decode prog_50_method_7_code 119 = .ok (.iload 4, 2) := by decide +kernel
theorem d6_121 : decode prog_50_method_7_code 121 = .ok (.ifCond .eq 9, 3) := by decide +kernel
theorem d6_124 : decode prog_50_method_7_code 124 = .ok (.lload 5, 2) := by decide +kernel
theorem d6_126 : decode prog_50_method_7_code 126 = .ok (.lneg, 1) := by decide +kernel
theorem d6_127 : decode prog_50_method_7_code 127 = .ok (.goto 5, 3) := by decide +kernel
theorem d6_130 : decode prog_50_method_7_code 130 = .ok (.lload 5, 2) := by decide +kernel
theorem d6_132 : decode prog_50_method_7_code 132 = .ok (.lreturn, 1) := by decide +kernel
theorem pn_1 : plainName "org/tertiary/io/Fields" = true := by first | (simp [plainName, overriddenIn]; done) | decide +kernel
theorem ef_c_int (m : MethodId) (arr : Addr) (p2 : Int32) (p3 : Int32) : entryFrame m #[(.ref arr), (.int p2), (.int p3)] 8 = mkF m 0 #[.val (.ref arr), .val (.int p2), .val (.int p3), .unset, .unset, .unset, .unset, .unset] [] := by first | (simp [entryFrame, mkF, argsToLocals, Value.category]; done) | rfl
set_option maxRecDepth 65536 in
set_option maxHeartbeats 40000000 in
theorem c_int (l : Launch) (Z : State) (a0 : Array Value) (hw : ∀ d ∈ tables_1, d.before a0 Z = true) (arr : Addr) (p2 : Int32) (p3 : Int32) (h0 : Heap) (n0 : Nat) (Z0 : n0 ≤ h0.size) (pre LL post : List Int32) (A_arr : Ars Z h0 arr .byte ((pre ++ LL ++ post).map Value.int)) (hfr : p2.toInt = pre.length) (hto : p3.toInt = (pre.length + LL.length : Nat)) (hsz : pre.length + LL.length ≤ 1000) :
    Ctr l Z (⟨"org/tertiary/io/Fields", "integer", "([BII)J"⟩ : MethodName) prog_50_method_7_code 8 (some .long) ({ frames := 0, cells := 0, slots := 0, locals := 0 } : Room) #[(.ref arr), (.int p2), (.int p3)] h0 (fun v h L => ∃ z : Int64, v = some (.long z) ∧ Fr n0 L ∧ h = h0 ∧ z.toInt = own_int LL) := by
  refine Ctr.of (plainFor_of_name pn_1) (fun m => ef_c_int m arr p2 p3) ?_
  intro p e s m below meth c T0 hx hby hml hown hnm hret hlk hZ e0 X0
  have N0 := Fr.nil n0
  replace hown : s.vm.findClass "org/tertiary/io/Fields" = some m.cls := hown
  replace hml : c.maxLocals = 8 := hml
  have J55 : ∀ (ng : Int32), (ng = 0 ∨ ng = 1) → ∀ (R pr : List Int32) (v : Int64) (i : Int32) (s7 : Slot), (s7 = .unset ∨ ∃ x, s7 = .val (.int x)) → pre ++ LL = pr ++ R → i.toInt = pr.length → 0 ≤ v.toInt → own_int LL = own_res ng (own_lp v.toInt R) → Run p e below s (fun v h L => ∃ z : Int64, v = some (.long z) ∧ Fr n0 L ∧ h = h0 ∧ z.toInt = own_int LL) ({ frames := 0, cells := 0, slots := 0, locals := 0 } : Room).cells ({ frames := 0, cells := 0, slots := 0, locals := 0 } : Room).slots (T0.setTop (mkF m 55 #[.val (.ref arr), .val (.int p2), .val (.int p3), .val (.int i), .val (.int ng), .val (.long v), .second, s7] [])) := by
    intro ng hng R
    induction R with
    | nil =>
      intro pr v i s7 h7 hpl hi hv hsp
      have hln := congrArg List.length hpl
      simp only [List.length_append, List.length_cons, List.length_nil] at hln
      have hlt : ¬ i < p3 := by rw [lt32]; omega
      refine Run.x_iloadN (q := 56) X0 hx (hb hby d6_55) rfl rfl ?_
      refine Run.x_iloadN (q := 57) X0 hx (hb hby d6_56) rfl rfl ?_
      refine Run.x_icmpYes (q := 119) X0 hx (hb hby d6_57) (flt hlt).2.1 (by decide) (by decide) ?_
      refine Run.x_iload (q := 121) X0 hx (hb hby d6_119) rfl rfl ?_
      by_cases hc121 : ng = (0 : Int32)
      · skip
        refine Run.x_ifYes (q := 130) X0 hx (hb hby d6_121) ((if0 _ _).trans (teq hc121).1) (by decide) (by decide) ?_
        refine Run.x_lload (q := 132) X0 hx (hb hby d6_130) rfl rfl ?_
        refine Run.retJ X0 hx hlk e0 hret (hb hby d6_132) (by decide) (by decide) ?_
        exact ⟨_, rfl, N0, rfl, by rw [hsp]; show _ = own_res ng (some _); rw [own_res0 hc121]⟩
      · skip
        refine Run.x_ifNo (q := 124) X0 hx (hb hby d6_121) ((if0 _ _).trans (feq hc121).1) rfl ?_
        refine Run.x_lload (q := 126) X0 hx (hb hby d6_124) rfl rfl ?_
        refine Run.x_lneg (q := 127) X0 hx (hb hby d6_126) rfl rfl ?_
        refine Run.x_goto (q := 132) X0 hx (hb hby d6_127) (by decide) (by decide) ?_
        refine Run.retJ X0 hx hlk e0 hret (hb hby d6_132) (by decide) (by decide) ?_
        exact ⟨_, rfl, N0, rfl, by rw [hsp]; show _ = own_res ng (some _); rw [own_resN hc121, own_neg hv]⟩
    | cons b r ih =>
      intro pr v i s7 h7 hpl hi hv hsp
      have hln := congrArg List.length hpl
      simp only [List.length_append, List.length_cons, List.length_nil] at hln
      have hlt : i < p3 := by rw [lt32]; omega
      rw [hpl] at A_arr
      rcases h7 with rfl | ⟨x7, rfl⟩
      · skip
        refine Run.x_iloadN (q := 56) X0 hx (hb hby d6_55) rfl rfl ?_
        refine Run.x_iloadN (q := 57) X0 hx (hb hby d6_56) rfl rfl ?_
        refine Run.x_icmpNo (q := 60) X0 hx (hb hby d6_57) (tlt hlt).2.1 rfl ?_
        refine Run.x_aloadN (q := 61) X0 hx (hb hby d6_60) rfl rfl rfl ?_
        refine Run.x_iloadN (q := 62) X0 hx (hb hby d6_61) rfl rfl ?_
        refine Run.ldB X0 hx hZ e0 A_arr (i := pr.length) (v := (.int b)) hi own_at (hb hby d6_62) ?_
        show Run p e below s _ _ _ (T0.setTop (mkF m 63 #[.val (.ref arr), .val (.int p2), .val (.int p3), .val (.int i), .val (.int ng), .val (.long v), .second, .unset] [(.int b)]))
        refine Run.x_istore (q := 65) X0 hx #[.val (.ref arr), .val (.int p2), .val (.int p3), .val (.int i), .val (.int ng), .val (.long v), .second, .val (.int b)] (hb hby d6_63) rfl rfl ?_
        refine Run.x_iload (q := 67) X0 hx (hb hby d6_65) rfl rfl ?_
        refine Run.x_bipush (q := 69) X0 hx (hb hby d6_67) (z := (48 : Int32)) rfl rfl ?_
        by_cases hc69 : b < (48 : Int32)
        · skip
          refine Run.x_icmpYes (q := 79) X0 hx (hb hby d6_69) (tlt hc69).1 (by decide) (by decide) ?_
          refine Run.st (B := T0.setTop (mkF m 82 #[.val (.ref arr), .val (.int p2), .val (.int p3), .val (.int i), .val (.int ng), .val (.long v), .second, .val (.int b)] [(.long (-9223372036854775808 : Int64))])) (fun t kt => X0.ldc2Long hx hown (mvT hZ (hw _ (List.mem_of_getElem? (i := 48) rfl))) (g := (mkF m 79 #[.val (.ref arr), .val (.int p2), .val (.int p3), .val (.int i), .val (.int ng), .val (.long v), .second, .val (.int b)] [])) rfl (hb hby d6_79) _ kt) ?_
          refine Run.retJ X0 hx hlk e0 hret (hb hby d6_82) (by decide) (by decide) ?_
          exact ⟨_, rfl, N0, rfl, by rw [hsp, own_lp_no (by simp [own_dg, hc69])]; rfl⟩
        · skip
          refine Run.x_icmpNo (q := 72) X0 hx (hb hby d6_69) (flt hc69).1 rfl ?_
          refine Run.x_iload (q := 74) X0 hx (hb hby d6_72) rfl rfl ?_
          refine Run.x_bipush (q := 76) X0 hx (hb hby d6_74) (z := (57 : Int32)) rfl rfl ?_
          by_cases hc76 : (57 : Int32) < b
          · skip
            refine Run.x_icmpNo (q := 79) X0 hx (hb hby d6_76) (tlt hc76).2.2.2 rfl ?_
            refine Run.st (B := T0.setTop (mkF m 82 #[.val (.ref arr), .val (.int p2), .val (.int p3), .val (.int i), .val (.int ng), .val (.long v), .second, .val (.int b)] [(.long (-9223372036854775808 : Int64))])) (fun t kt => X0.ldc2Long hx hown (mvT hZ (hw _ (List.mem_of_getElem? (i := 48) rfl))) (g := (mkF m 79 #[.val (.ref arr), .val (.int p2), .val (.int p3), .val (.int i), .val (.int ng), .val (.long v), .second, .val (.int b)] [])) rfl (hb hby d6_79) _ kt) ?_
            refine Run.retJ X0 hx hlk e0 hret (hb hby d6_82) (by decide) (by decide) ?_
            exact ⟨_, rfl, N0, rfl, by rw [hsp, own_lp_no (by simp [own_dg, hc76])]; rfl⟩
          · skip
            refine Run.x_icmpYes (q := 83) X0 hx (hb hby d6_76) (flt hc76).2.2.2 (by decide) (by decide) ?_
            refine Run.x_lload (q := 85) X0 hx (hb hby d6_83) rfl rfl ?_
            refine Run.st (B := T0.setTop (mkF m 88 #[.val (.ref arr), .val (.int p2), .val (.int p3), .val (.int i), .val (.int ng), .val (.long v), .second, .val (.int b)] [(.long (922337203685477580 : Int64)), (.long v)])) (fun t kt => X0.ldc2Long hx hown (mvT hZ (hw _ (List.mem_of_getElem? (i := 33) rfl))) (g := (mkF m 85 #[.val (.ref arr), .val (.int p2), .val (.int p3), .val (.int i), .val (.int ng), .val (.long v), .second, .val (.int b)] [(.long v)])) rfl (hb hby d6_85) _ kt) ?_
            refine Run.x_lcmp (q := 89) X0 hx (hb hby d6_88)  rfl ?_
            by_cases hc89 : v < (922337203685477580 : Int64)
            · skip
              refine Run.x_ifNo (q := 92) X0 hx (hb hby d6_89) ((if0 _ _).trans (tlt ((lw_lt v (922337203685477580 : Int64)).mpr hc89)).2.1) rfl ?_
              refine Run.x_lload (q := 94) X0 hx (hb hby d6_92) rfl rfl ?_
              refine Run.st (B := T0.setTop (mkF m 97 #[.val (.ref arr), .val (.int p2), .val (.int p3), .val (.int i), .val (.int ng), .val (.long v), .second, .val (.int b)] [(.long (10 : Int64)), (.long v)])) (fun t kt => X0.ldc2Long hx hown (mvT hZ (hw _ (List.mem_of_getElem? (i := 34) rfl))) (g := (mkF m 94 #[.val (.ref arr), .val (.int p2), .val (.int p3), .val (.int i), .val (.int ng), .val (.long v), .second, .val (.int b)] [(.long v)])) rfl (hb hby d6_94) _ kt) ?_
              refine Run.x_lmul (q := 98) X0 hx (hb hby d6_97) rfl rfl ?_
              refine Run.x_iload (q := 100) X0 hx (hb hby d6_98) rfl rfl ?_
              refine Run.x_bipush (q := 102) X0 hx (hb hby d6_100) (z := (48 : Int32)) rfl rfl ?_
              refine Run.x_isub (q := 103) X0 hx (hb hby d6_102) rfl rfl ?_
              refine Run.x_i2l (q := 104) X0 hx (hb hby d6_103) rfl rfl ?_
              refine Run.x_ladd (q := 105) X0 hx (hb hby d6_104) rfl rfl ?_
              refine Run.x_goto (q := 111) X0 hx (hb hby d6_105) (by decide) (by decide) ?_
              refine Run.x_lstore (q := 113) X0 hx #[.val (.ref arr), .val (.int p2), .val (.int p3), .val (.int i), .val (.int ng), .val (.long ((v * (10 : Int64)) + (b - (48 : Int32)).toInt64)), .second, .val (.int b)] (hb hby d6_111) rfl rfl ?_
              refine Run.x_iinc (q := 116) X0 hx #[.val (.ref arr), .val (.int p2), .val (.int p3), .val (.int (i + (1 : Int32))), .val (.int ng), .val (.long ((v * (10 : Int64)) + (b - (48 : Int32)).toInt64)), .second, .val (.int b)] (hb hby d6_113) rfl (z := (i + (1 : Int32))) rfl rfl rfl ?_
              refine Run.x_goto (q := 55) X0 hx (hb hby d6_116) (by decide) (by decide) ?_
              exact ih (pr ++ [b]) _ _ _ (Or.inr ⟨b, rfl⟩) (by rw [hpl]; simp) (by rw [own_inc hi (by omega)]; simp) (own_v10 hv hc89 hc69 hc76).2 (by rw [hsp, own_lpc hc69 hc76, (own_v10 hv hc89 hc69 hc76).1])
            · skip
              refine Run.x_ifYes (q := 108) X0 hx (hb hby d6_89) ((if0 _ _).trans (flt (mt (lw_lt v (922337203685477580 : Int64)).mp hc89)).2.1) (by decide) (by decide) ?_
              refine Run.st (B := T0.setTop (mkF m 111 #[.val (.ref arr), .val (.int p2), .val (.int p3), .val (.int i), .val (.int ng), .val (.long v), .second, .val (.int b)] [(.long (9223372036854775807 : Int64))])) (fun t kt => X0.ldc2Long hx hown (mvT hZ (hw _ (List.mem_of_getElem? (i := 50) rfl))) (g := (mkF m 108 #[.val (.ref arr), .val (.int p2), .val (.int p3), .val (.int i), .val (.int ng), .val (.long v), .second, .val (.int b)] [])) rfl (hb hby d6_108) _ kt) ?_
              refine Run.x_lstore (q := 113) X0 hx #[.val (.ref arr), .val (.int p2), .val (.int p3), .val (.int i), .val (.int ng), .val (.long (9223372036854775807 : Int64)), .second, .val (.int b)] (hb hby d6_111) rfl rfl ?_
              refine Run.x_iinc (q := 116) X0 hx #[.val (.ref arr), .val (.int p2), .val (.int p3), .val (.int (i + (1 : Int32))), .val (.int ng), .val (.long (9223372036854775807 : Int64)), .second, .val (.int b)] (hb hby d6_113) rfl (z := (i + (1 : Int32))) rfl rfl rfl ?_
              refine Run.x_goto (q := 55) X0 hx (hb hby d6_116) (by decide) (by decide) ?_
              exact ih (pr ++ [b]) _ _ _ (Or.inr ⟨b, rfl⟩) (by rw [hpl]; simp) (by rw [own_inc hi (by omega)]; simp) (own_vmax (b := b) hc89).2 (by rw [hsp, own_lpc hc69 hc76, (own_vmax (b := b) hc89).1])
      · skip
        refine Run.x_iloadN (q := 56) X0 hx (hb hby d6_55) rfl rfl ?_
        refine Run.x_iloadN (q := 57) X0 hx (hb hby d6_56) rfl rfl ?_
        refine Run.x_icmpNo (q := 60) X0 hx (hb hby d6_57) (tlt hlt).2.1 rfl ?_
        refine Run.x_aloadN (q := 61) X0 hx (hb hby d6_60) rfl rfl rfl ?_
        refine Run.x_iloadN (q := 62) X0 hx (hb hby d6_61) rfl rfl ?_
        refine Run.ldB X0 hx hZ e0 A_arr (i := pr.length) (v := (.int b)) hi own_at (hb hby d6_62) ?_
        show Run p e below s _ _ _ (T0.setTop (mkF m 63 #[.val (.ref arr), .val (.int p2), .val (.int p3), .val (.int i), .val (.int ng), .val (.long v), .second, .val (.int x7)] [(.int b)]))
        refine Run.x_istore (q := 65) X0 hx #[.val (.ref arr), .val (.int p2), .val (.int p3), .val (.int i), .val (.int ng), .val (.long v), .second, .val (.int b)] (hb hby d6_63) rfl rfl ?_
        refine Run.x_iload (q := 67) X0 hx (hb hby d6_65) rfl rfl ?_
        refine Run.x_bipush (q := 69) X0 hx (hb hby d6_67) (z := (48 : Int32)) rfl rfl ?_
        by_cases hc69 : b < (48 : Int32)
        · skip
          refine Run.x_icmpYes (q := 79) X0 hx (hb hby d6_69) (tlt hc69).1 (by decide) (by decide) ?_
          refine Run.st (B := T0.setTop (mkF m 82 #[.val (.ref arr), .val (.int p2), .val (.int p3), .val (.int i), .val (.int ng), .val (.long v), .second, .val (.int b)] [(.long (-9223372036854775808 : Int64))])) (fun t kt => X0.ldc2Long hx hown (mvT hZ (hw _ (List.mem_of_getElem? (i := 48) rfl))) (g := (mkF m 79 #[.val (.ref arr), .val (.int p2), .val (.int p3), .val (.int i), .val (.int ng), .val (.long v), .second, .val (.int b)] [])) rfl (hb hby d6_79) _ kt) ?_
          refine Run.retJ X0 hx hlk e0 hret (hb hby d6_82) (by decide) (by decide) ?_
          exact ⟨_, rfl, N0, rfl, by rw [hsp, own_lp_no (by simp [own_dg, hc69])]; rfl⟩
        · skip
          refine Run.x_icmpNo (q := 72) X0 hx (hb hby d6_69) (flt hc69).1 rfl ?_
          refine Run.x_iload (q := 74) X0 hx (hb hby d6_72) rfl rfl ?_
          refine Run.x_bipush (q := 76) X0 hx (hb hby d6_74) (z := (57 : Int32)) rfl rfl ?_
          by_cases hc76 : (57 : Int32) < b
          · skip
            refine Run.x_icmpNo (q := 79) X0 hx (hb hby d6_76) (tlt hc76).2.2.2 rfl ?_
            refine Run.st (B := T0.setTop (mkF m 82 #[.val (.ref arr), .val (.int p2), .val (.int p3), .val (.int i), .val (.int ng), .val (.long v), .second, .val (.int b)] [(.long (-9223372036854775808 : Int64))])) (fun t kt => X0.ldc2Long hx hown (mvT hZ (hw _ (List.mem_of_getElem? (i := 48) rfl))) (g := (mkF m 79 #[.val (.ref arr), .val (.int p2), .val (.int p3), .val (.int i), .val (.int ng), .val (.long v), .second, .val (.int b)] [])) rfl (hb hby d6_79) _ kt) ?_
            refine Run.retJ X0 hx hlk e0 hret (hb hby d6_82) (by decide) (by decide) ?_
            exact ⟨_, rfl, N0, rfl, by rw [hsp, own_lp_no (by simp [own_dg, hc76])]; rfl⟩
          · skip
            refine Run.x_icmpYes (q := 83) X0 hx (hb hby d6_76) (flt hc76).2.2.2 (by decide) (by decide) ?_
            refine Run.x_lload (q := 85) X0 hx (hb hby d6_83) rfl rfl ?_
            refine Run.st (B := T0.setTop (mkF m 88 #[.val (.ref arr), .val (.int p2), .val (.int p3), .val (.int i), .val (.int ng), .val (.long v), .second, .val (.int b)] [(.long (922337203685477580 : Int64)), (.long v)])) (fun t kt => X0.ldc2Long hx hown (mvT hZ (hw _ (List.mem_of_getElem? (i := 33) rfl))) (g := (mkF m 85 #[.val (.ref arr), .val (.int p2), .val (.int p3), .val (.int i), .val (.int ng), .val (.long v), .second, .val (.int b)] [(.long v)])) rfl (hb hby d6_85) _ kt) ?_
            refine Run.x_lcmp (q := 89) X0 hx (hb hby d6_88)  rfl ?_
            by_cases hc89 : v < (922337203685477580 : Int64)
            · skip
              refine Run.x_ifNo (q := 92) X0 hx (hb hby d6_89) ((if0 _ _).trans (tlt ((lw_lt v (922337203685477580 : Int64)).mpr hc89)).2.1) rfl ?_
              refine Run.x_lload (q := 94) X0 hx (hb hby d6_92) rfl rfl ?_
              refine Run.st (B := T0.setTop (mkF m 97 #[.val (.ref arr), .val (.int p2), .val (.int p3), .val (.int i), .val (.int ng), .val (.long v), .second, .val (.int b)] [(.long (10 : Int64)), (.long v)])) (fun t kt => X0.ldc2Long hx hown (mvT hZ (hw _ (List.mem_of_getElem? (i := 34) rfl))) (g := (mkF m 94 #[.val (.ref arr), .val (.int p2), .val (.int p3), .val (.int i), .val (.int ng), .val (.long v), .second, .val (.int b)] [(.long v)])) rfl (hb hby d6_94) _ kt) ?_
              refine Run.x_lmul (q := 98) X0 hx (hb hby d6_97) rfl rfl ?_
              refine Run.x_iload (q := 100) X0 hx (hb hby d6_98) rfl rfl ?_
              refine Run.x_bipush (q := 102) X0 hx (hb hby d6_100) (z := (48 : Int32)) rfl rfl ?_
              refine Run.x_isub (q := 103) X0 hx (hb hby d6_102) rfl rfl ?_
              refine Run.x_i2l (q := 104) X0 hx (hb hby d6_103) rfl rfl ?_
              refine Run.x_ladd (q := 105) X0 hx (hb hby d6_104) rfl rfl ?_
              refine Run.x_goto (q := 111) X0 hx (hb hby d6_105) (by decide) (by decide) ?_
              refine Run.x_lstore (q := 113) X0 hx #[.val (.ref arr), .val (.int p2), .val (.int p3), .val (.int i), .val (.int ng), .val (.long ((v * (10 : Int64)) + (b - (48 : Int32)).toInt64)), .second, .val (.int b)] (hb hby d6_111) rfl rfl ?_
              refine Run.x_iinc (q := 116) X0 hx #[.val (.ref arr), .val (.int p2), .val (.int p3), .val (.int (i + (1 : Int32))), .val (.int ng), .val (.long ((v * (10 : Int64)) + (b - (48 : Int32)).toInt64)), .second, .val (.int b)] (hb hby d6_113) rfl (z := (i + (1 : Int32))) rfl rfl rfl ?_
              refine Run.x_goto (q := 55) X0 hx (hb hby d6_116) (by decide) (by decide) ?_
              exact ih (pr ++ [b]) _ _ _ (Or.inr ⟨b, rfl⟩) (by rw [hpl]; simp) (by rw [own_inc hi (by omega)]; simp) (own_v10 hv hc89 hc69 hc76).2 (by rw [hsp, own_lpc hc69 hc76, (own_v10 hv hc89 hc69 hc76).1])
            · skip
              refine Run.x_ifYes (q := 108) X0 hx (hb hby d6_89) ((if0 _ _).trans (flt (mt (lw_lt v (922337203685477580 : Int64)).mp hc89)).2.1) (by decide) (by decide) ?_
              refine Run.st (B := T0.setTop (mkF m 111 #[.val (.ref arr), .val (.int p2), .val (.int p3), .val (.int i), .val (.int ng), .val (.long v), .second, .val (.int b)] [(.long (9223372036854775807 : Int64))])) (fun t kt => X0.ldc2Long hx hown (mvT hZ (hw _ (List.mem_of_getElem? (i := 50) rfl))) (g := (mkF m 108 #[.val (.ref arr), .val (.int p2), .val (.int p3), .val (.int i), .val (.int ng), .val (.long v), .second, .val (.int b)] [])) rfl (hb hby d6_108) _ kt) ?_
              refine Run.x_lstore (q := 113) X0 hx #[.val (.ref arr), .val (.int p2), .val (.int p3), .val (.int i), .val (.int ng), .val (.long (9223372036854775807 : Int64)), .second, .val (.int b)] (hb hby d6_111) rfl rfl ?_
              refine Run.x_iinc (q := 116) X0 hx #[.val (.ref arr), .val (.int p2), .val (.int p3), .val (.int (i + (1 : Int32))), .val (.int ng), .val (.long (9223372036854775807 : Int64)), .second, .val (.int b)] (hb hby d6_113) rfl (z := (i + (1 : Int32))) rfl rfl rfl ?_
              refine Run.x_goto (q := 55) X0 hx (hb hby d6_116) (by decide) (by decide) ?_
              exact ih (pr ++ [b]) _ _ _ (Or.inr ⟨b, rfl⟩) (by rw [hpl]; simp) (by rw [own_inc hi (by omega)]; simp) (own_vmax (b := b) hc89).2 (by rw [hsp, own_lpc hc69 hc76, (own_vmax (b := b) hc89).1])
  cases LL with
  | nil =>
    have hge0 : ¬ p2 < p3 := by rw [lt32]; simp only [List.length_nil] at hto; omega
    have heq : p2 = p3 := by rw [eq32]; simp only [List.length_nil] at hto; omega
    refine Run.x_iloadN (q := 1) X0 hx (hb hby d6_0) rfl rfl ?_
    refine Run.x_istoreN (q := 2) X0 hx #[.val (.ref arr), .val (.int p2), .val (.int p3), .val (.int p2), .unset, .unset, .unset, .unset] (hb hby d6_1) rfl rfl ?_
    refine Run.x_iloadN (q := 3) X0 hx (hb hby d6_2) rfl rfl ?_
    refine Run.x_iloadN (q := 4) X0 hx (hb hby d6_3) rfl rfl ?_
    refine Run.x_icmpYes (q := 19) X0 hx (hb hby d6_4) (flt hge0).2.1 (by decide) (by decide) ?_
    refine Run.x_iconst (q := 20) X0 hx (hb hby d6_19) (z := (0 : Int32)) rfl rfl ?_
    refine Run.x_istore (q := 22) X0 hx #[.val (.ref arr), .val (.int p2), .val (.int p3), .val (.int p2), .val (.int (0 : Int32)), .unset, .unset, .unset] (hb hby d6_20) rfl rfl ?_
    refine Run.x_iload (q := 24) X0 hx (hb hby d6_22) rfl rfl ?_
    refine Run.x_ifNo (q := 27) X0 hx (hb hby d6_24) ((if0 _ _).trans (teq (by decide : (0 : Int32) = (0 : Int32))).2) rfl ?_
    refine Run.x_iloadN (q := 28) X0 hx (hb hby d6_27) rfl rfl ?_
    refine Run.x_iloadN (q := 29) X0 hx (hb hby d6_28) rfl rfl ?_
    refine Run.x_icmpYes (q := 43) X0 hx (hb hby d6_29) (flt hge0).2.1 (by decide) (by decide) ?_
    refine Run.x_iloadN (q := 44) X0 hx (hb hby d6_43) rfl rfl ?_
    refine Run.x_iloadN (q := 45) X0 hx (hb hby d6_44) rfl rfl ?_
    refine Run.x_icmpNo (q := 48) X0 hx (hb hby d6_45) (teq heq).2 rfl ?_
    refine Run.st (B := T0.setTop (mkF m 51 #[.val (.ref arr), .val (.int p2), .val (.int p3), .val (.int p2), .val (.int (0 : Int32)), .unset, .unset, .unset] [(.long (-9223372036854775808 : Int64))])) (fun t kt => X0.ldc2Long hx hown (mvT hZ (hw _ (List.mem_of_getElem? (i := 48) rfl))) (g := (mkF m 48 #[.val (.ref arr), .val (.int p2), .val (.int p3), .val (.int p2), .val (.int (0 : Int32)), .unset, .unset, .unset] [])) rfl (hb hby d6_48) _ kt) ?_
    refine Run.retJ X0 hx hlk e0 hret (hb hby d6_51) (by decide) (by decide) ?_
    exact ⟨_, rfl, N0, rfl, rfl⟩
  | cons ch r =>
    have hto' := hto
    have hsz' := hsz
    simp only [List.length_cons] at hto' hsz'
    have hlt0 : p2 < p3 := by rw [lt32]; omega
    have hel : ((pre ++ (ch :: r) ++ post).map Value.int)[pre.length]? = some (.int ch) := own_at
    refine Run.x_iloadN (q := 1) X0 hx (hb hby d6_0) rfl rfl ?_
    refine Run.x_istoreN (q := 2) X0 hx #[.val (.ref arr), .val (.int p2), .val (.int p3), .val (.int p2), .unset, .unset, .unset, .unset] (hb hby d6_1) rfl rfl ?_
    refine Run.x_iloadN (q := 3) X0 hx (hb hby d6_2) rfl rfl ?_
    refine Run.x_iloadN (q := 4) X0 hx (hb hby d6_3) rfl rfl ?_
    refine Run.x_icmpNo (q := 7) X0 hx (hb hby d6_4) (tlt hlt0).2.1 rfl ?_
    refine Run.x_aloadN (q := 8) X0 hx (hb hby d6_7) rfl rfl rfl ?_
    refine Run.x_iloadN (q := 9) X0 hx (hb hby d6_8) rfl rfl ?_
    refine Run.ldB X0 hx hZ e0 A_arr (i := pre.length) (v := (.int ch)) hfr hel (hb hby d6_9) ?_
    show Run p e below s _ _ _ (T0.setTop (mkF m 10 #[.val (.ref arr), .val (.int p2), .val (.int p3), .val (.int p2), .unset, .unset, .unset, .unset] [(.int ch)]))
    refine Run.x_bipush (q := 12) X0 hx (hb hby d6_10) (z := (45 : Int32)) rfl rfl ?_
    by_cases hc12 : ch = (45 : Int32)
    · skip
      refine Run.x_icmpNo (q := 15) X0 hx (hb hby d6_12) (teq hc12).2 rfl ?_
      refine Run.x_iconst (q := 16) X0 hx (hb hby d6_15) (z := (1 : Int32)) rfl rfl ?_
      refine Run.x_goto (q := 20) X0 hx (hb hby d6_16) (by decide) (by decide) ?_
      refine Run.x_istore (q := 22) X0 hx #[.val (.ref arr), .val (.int p2), .val (.int p3), .val (.int p2), .val (.int (1 : Int32)), .unset, .unset, .unset] (hb hby d6_20) rfl rfl ?_
      refine Run.x_iload (q := 24) X0 hx (hb hby d6_22) rfl rfl ?_
      refine Run.x_ifYes (q := 40) X0 hx (hb hby d6_24) ((if0 _ _).trans (feq (by decide : ¬ ((1 : Int32) = (0 : Int32)))).2) (by decide) (by decide) ?_
      refine Run.x_iinc (q := 43) X0 hx #[.val (.ref arr), .val (.int p2), .val (.int p3), .val (.int (p2 + (1 : Int32))), .val (.int (1 : Int32)), .unset, .unset, .unset] (hb hby d6_40) rfl (z := (p2 + (1 : Int32))) rfl rfl rfl ?_
      refine Run.x_iloadN (q := 44) X0 hx (hb hby d6_43) rfl rfl ?_
      refine Run.x_iloadN (q := 45) X0 hx (hb hby d6_44) rfl rfl ?_
      by_cases hr : r = []
      · have heq : (p2 + (1 : Int32)) = p3 := by rw [eq32, own_inc hfr (by omega)]; subst hr; simp only [List.length_nil] at hto'; omega
        refine Run.x_icmpNo (q := 48) X0 hx (hb hby d6_45) (teq heq).2 rfl ?_
        refine Run.st (B := T0.setTop (mkF m 51 #[.val (.ref arr), .val (.int p2), .val (.int p3), .val (.int (p2 + (1 : Int32))), .val (.int (1 : Int32)), .unset, .unset, .unset] [(.long (-9223372036854775808 : Int64))])) (fun t kt => X0.ldc2Long hx hown (mvT hZ (hw _ (List.mem_of_getElem? (i := 48) rfl))) (g := (mkF m 48 #[.val (.ref arr), .val (.int p2), .val (.int p3), .val (.int (p2 + (1 : Int32))), .val (.int (1 : Int32)), .unset, .unset, .unset] [])) rfl (hb hby d6_48) _ kt) ?_
        refine Run.retJ X0 hx hlk e0 hret (hb hby d6_51) (by decide) (by decide) ?_
        exact ⟨_, rfl, N0, rfl, by rw [own_i1 hc12 hr]; rfl⟩
      · have hneq : ¬ (p2 + (1 : Int32)) = p3 := by rw [eq32, own_inc hfr (by omega)]; have := List.length_pos_iff.mpr hr; omega
        refine Run.x_icmpYes (q := 52) X0 hx (hb hby d6_45) (feq hneq).2 (by decide) (by decide) ?_
        refine Run.x_lconst (q := 53) X0 hx (hb hby d6_52) (z := (0 : Int64)) rfl rfl ?_
        refine Run.x_lstore (q := 55) X0 hx #[.val (.ref arr), .val (.int p2), .val (.int p3), .val (.int (p2 + (1 : Int32))), .val (.int (1 : Int32)), .val (.long (0 : Int64)), .second, .unset] (hb hby d6_53) rfl rfl ?_
        exact J55 _ (Or.inr rfl) r (pre ++ [ch]) _ _ _ (Or.inl rfl) (by simp) (by rw [own_inc hfr (by omega)]; simp) (by decide) (by rw [own_i2 hc12 hr]; rfl)
    · skip
      refine Run.x_icmpYes (q := 19) X0 hx (hb hby d6_12) (feq hc12).2 (by decide) (by decide) ?_
      refine Run.x_iconst (q := 20) X0 hx (hb hby d6_19) (z := (0 : Int32)) rfl rfl ?_
      refine Run.x_istore (q := 22) X0 hx #[.val (.ref arr), .val (.int p2), .val (.int p3), .val (.int p2), .val (.int (0 : Int32)), .unset, .unset, .unset] (hb hby d6_20) rfl rfl ?_
      refine Run.x_iload (q := 24) X0 hx (hb hby d6_22) rfl rfl ?_
      refine Run.x_ifNo (q := 27) X0 hx (hb hby d6_24) ((if0 _ _).trans (teq (by decide : (0 : Int32) = (0 : Int32))).2) rfl ?_
      refine Run.x_iloadN (q := 28) X0 hx (hb hby d6_27) rfl rfl ?_
      refine Run.x_iloadN (q := 29) X0 hx (hb hby d6_28) rfl rfl ?_
      refine Run.x_icmpNo (q := 32) X0 hx (hb hby d6_29) (tlt hlt0).2.1 rfl ?_
      refine Run.x_aloadN (q := 33) X0 hx (hb hby d6_32) rfl rfl rfl ?_
      refine Run.x_iloadN (q := 34) X0 hx (hb hby d6_33) rfl rfl ?_
      refine Run.ldB X0 hx hZ e0 A_arr (i := pre.length) (v := (.int ch)) hfr hel (hb hby d6_34) ?_
      show Run p e below s _ _ _ (T0.setTop (mkF m 35 #[.val (.ref arr), .val (.int p2), .val (.int p3), .val (.int p2), .val (.int (0 : Int32)), .unset, .unset, .unset] [(.int ch)]))
      refine Run.x_bipush (q := 37) X0 hx (hb hby d6_35) (z := (43 : Int32)) rfl rfl ?_
      by_cases hc37 : ch = (43 : Int32)
      · skip
        refine Run.x_icmpNo (q := 40) X0 hx (hb hby d6_37) (teq hc37).2 rfl ?_
        refine Run.x_iinc (q := 43) X0 hx #[.val (.ref arr), .val (.int p2), .val (.int p3), .val (.int (p2 + (1 : Int32))), .val (.int (0 : Int32)), .unset, .unset, .unset] (hb hby d6_40) rfl (z := (p2 + (1 : Int32))) rfl rfl rfl ?_
        refine Run.x_iloadN (q := 44) X0 hx (hb hby d6_43) rfl rfl ?_
        refine Run.x_iloadN (q := 45) X0 hx (hb hby d6_44) rfl rfl ?_
        by_cases hr : r = []
        · have heq : (p2 + (1 : Int32)) = p3 := by rw [eq32, own_inc hfr (by omega)]; subst hr; simp only [List.length_nil] at hto'; omega
          refine Run.x_icmpNo (q := 48) X0 hx (hb hby d6_45) (teq heq).2 rfl ?_
          refine Run.st (B := T0.setTop (mkF m 51 #[.val (.ref arr), .val (.int p2), .val (.int p3), .val (.int (p2 + (1 : Int32))), .val (.int (0 : Int32)), .unset, .unset, .unset] [(.long (-9223372036854775808 : Int64))])) (fun t kt => X0.ldc2Long hx hown (mvT hZ (hw _ (List.mem_of_getElem? (i := 48) rfl))) (g := (mkF m 48 #[.val (.ref arr), .val (.int p2), .val (.int p3), .val (.int (p2 + (1 : Int32))), .val (.int (0 : Int32)), .unset, .unset, .unset] [])) rfl (hb hby d6_48) _ kt) ?_
          refine Run.retJ X0 hx hlk e0 hret (hb hby d6_51) (by decide) (by decide) ?_
          exact ⟨_, rfl, N0, rfl, by rw [own_i3 hc12 hc37 hr]; rfl⟩
        · have hneq : ¬ (p2 + (1 : Int32)) = p3 := by rw [eq32, own_inc hfr (by omega)]; have := List.length_pos_iff.mpr hr; omega
          refine Run.x_icmpYes (q := 52) X0 hx (hb hby d6_45) (feq hneq).2 (by decide) (by decide) ?_
          refine Run.x_lconst (q := 53) X0 hx (hb hby d6_52) (z := (0 : Int64)) rfl rfl ?_
          refine Run.x_lstore (q := 55) X0 hx #[.val (.ref arr), .val (.int p2), .val (.int p3), .val (.int (p2 + (1 : Int32))), .val (.int (0 : Int32)), .val (.long (0 : Int64)), .second, .unset] (hb hby d6_53) rfl rfl ?_
          exact J55 _ (Or.inl rfl) r (pre ++ [ch]) _ _ _ (Or.inl rfl) (by simp) (by rw [own_inc hfr (by omega)]; simp) (by decide) (by rw [own_i4 hc12 hc37 hr]; rfl)
      · skip
        refine Run.x_icmpYes (q := 43) X0 hx (hb hby d6_37) (feq hc37).2 (by decide) (by decide) ?_
        refine Run.x_iloadN (q := 44) X0 hx (hb hby d6_43) rfl rfl ?_
        refine Run.x_iloadN (q := 45) X0 hx (hb hby d6_44) rfl rfl ?_
        have hneq : ¬ p2 = p3 := by rw [eq32]; omega
        refine Run.x_icmpYes (q := 52) X0 hx (hb hby d6_45) (feq hneq).2 (by decide) (by decide) ?_
        refine Run.x_lconst (q := 53) X0 hx (hb hby d6_52) (z := (0 : Int64)) rfl rfl ?_
        refine Run.x_lstore (q := 55) X0 hx #[.val (.ref arr), .val (.int p2), .val (.int p3), .val (.int p2), .val (.int (0 : Int32)), .val (.long (0 : Int64)), .second, .unset] (hb hby d6_53) rfl rfl ?_
        exact J55 _ (Or.inl rfl) (ch :: r) pre _ _ _ (Or.inl rfl) rfl hfr (by decide) (by rw [own_i5 hc12 hc37]; rfl)
theorem own_w {v w : Int64} (h : v &&& 9223372036854775807 = w) : 0 ≤ w.toInt ∧ w.toInt ≤ 9223372036854775807 := by
  have q := c_maskL v 9223372036854775807 63 (by decide) (by decide)
  rw [h] at q
  omega
theorem own_d {p d : Int32} (h : ((p.toUInt32 >>> ((1 : Int32) &&& 31).toUInt32).toInt32) % 22 = d) : 0 ≤ d.toInt ∧ d.toInt ≤ 21 := by
  have q := c_iushr p 1 1 (by decide) (by decide)
  have r := (c_irem ((p.toUInt32 >>> ((1 : Int32) &&& 31).toUInt32).toInt32) 22 22 (by decide)).1 (by rw [q]; omega)
  rw [h] at r
  omega
theorem own_j {d j k : Int32} (hd : 0 ≤ d.toInt) (hd' : d.toInt ≤ 21) (hj : (if 19 < d then 19 else d) = j) (hk : d - j = k) : 0 ≤ j.toInt ∧ j.toInt ≤ 19 ∧ 0 ≤ k.toInt ∧ k.toInt ≤ 2 ∧ d.toInt = j.toInt + k.toInt ∧ (j.toInt < 19 → k.toInt = 0) := by
  have q := c_isub d j
  have r := rng32 k
  rw [hk] at q
  have k19 : (19 : Int32).toInt = 19 := rfl
  by_cases h : 19 < d
  · rw [if_pos h] at hj
    rw [lt32] at h
    subst hj
    omega
  · rw [if_neg h] at hj
    rw [lt32] at h
    subst hj
    omega
theorem own_to {d t : Int32} (hd : 0 ≤ d.toInt) (hd' : d.toInt ≤ 21) (h : 2 + d = t) : t.toInt = 2 + d.toInt := by
  have q := c_iadd 2 d
  have r := rng32 t
  rw [h] at q
  have : (2 : Int32).toInt = 2 := rfl
  omega
theorem own_split (bs : List Int32) (i n : Nat) : bs.take i ++ (bs.drop i).take n ++ bs.drop (i + n) = bs := by
  rw [← List.drop_drop, List.append_assoc, List.take_append_drop, List.take_append_drop]
theorem own_cut {D : List Int32} {t1 t2 g : Int32} (h1 : D[19]? = some t1) (h2 : D[20]? = some t2) {j k : Nat} (hj : j ≤ 19) (hk : k ≤ 2) (h : j < 19 → k = 0) : D.take (j + k) = D.take j ++ [t1, t2].take k := by
  by_cases q : j < 19
  · rw [h q]; simp
  · obtain rfl : j = 19 := by omega
    have : k = 0 ∨ k = 1 ∨ k = 2 := by omega
    rcases this with rfl | rfl | rfl
    · simp
    · rw [List.take_add_one, h1]; rfl
    · rw [show 19 + 2 = (19 + 1) + 1 from rfl, List.take_add_one, List.take_add_one, h1, h2]; simp
theorem own_cap_step {M c : Int} (hM : 0 ≤ M) (hc : 0 ≤ c) (h : ¬ own_cap M < 0) : own_cap M = M ∧ M ≤ 9223372036854775807 := by
  unfold own_cap at *
  split at h <;> rename_i q
  · rw [if_pos q]; exact ⟨rfl, q⟩
  · exact absurd (by decide) h
theorem own_cap_neg {M c : Int} (hM : 0 ≤ M) (hc : 0 ≤ c) (h : own_cap M < 0) : (-1 : Int) = own_cap (M * 10 + c) := by
  unfold own_cap at *
  split at h <;> rename_i q
  · omega
  · rw [if_neg (by omega)]
theorem own_sg (ng : Int32) (x : Int) : own_res ng (some x) = if ng = 0 then x else -x := rfl
theorem own_b_no {c : Prop} [Decidable c] (h : own_b c = 0) : ¬ c := fun q => by rw [own_b1 q] at h; cases h
theorem own_b_yes {c : Prop} [Decidable c] (h : ¬ own_b c = 0) : c := Decidable.byContradiction fun q => h (own_b0 q)
theorem own_dsub {b : Int32} (h : own_dg b) : (b - 48).toInt64.toInt = b.toInt - 48 ∧ 0 ≤ b.toInt - 48 ∧ b.toInt - 48 ≤ 9 := by
  have d := own_dg_iff.mp h
  have u := c_isub b 48
  have u' := rng32 (b - 48)
  have k48 : (48 : Int32).toInt = 48 := rfl
  rw [c_i2l]
  omega
theorem own_pdiv {w pw : Int64} {k : Nat} (hw : 0 ≤ w.toInt) (hp : pw.toInt = 10 ^ k) (h1 : pw ≠ -1) : (w / pw).toInt = w.toInt / 10 ^ k := by
  rw [(c_ldiv w pw pw.toInt rfl h1).1 hw, hp]
theorem own_s19 {j : Int32} {n : Nat} (h : j.toInt = n) (h' : n ≤ 19) (h0 : ¬ j = 0) : (19 - j).toInt = (19 - n : Nat) ∧ 19 - n < 19 := by
  have q := c_isub 19 j
  have r := rng32 (19 - j)
  have k19 : (19 : Int32).toInt = 19 := rfl
  rw [eq32] at h0
  have : (0 : Int32).toInt = 0 := rfl
  omega
theorem own_f1 {M : Int} {mag : Int64} (hM : 0 ≤ M) (h : mag.toInt = own_cap M) (q : mag < 0) : own_sat M = 9223372036854775807 := by
  rw [lt64, h] at q
  have z : (0 : Int64).toInt = 0 := rfl
  unfold own_cap at q
  unfold own_sat
  split at q
  · rw [if_neg (by omega)]
  · rw [if_neg (by omega)]
theorem own_f2 {M : Int} {mag : Int64} (hM : 0 ≤ M) (h : mag.toInt = own_cap M) (q : ¬ mag < 0) (r : mag < 9223372036854775800) : own_sat M = mag.toInt ∧ 0 ≤ mag.toInt := by
  rw [lt64] at q r
  have z : (0 : Int64).toInt = 0 := rfl
  have y : (9223372036854775800 : Int64).toInt = 9223372036854775800 := rfl
  unfold own_cap at h
  unfold own_sat
  split at h
  · rw [if_pos (by omega)]; omega
  · omega
theorem own_f3 {M : Int} {mag : Int64} (h : mag.toInt = own_cap M) (q : ¬ mag < 0) (r : ¬ mag < 9223372036854775800) : own_sat M = 9223372036854775807 := by
  rw [lt64] at q r
  have z : (0 : Int64).toInt = 0 := rfl
  have y : (9223372036854775800 : Int64).toInt = 9223372036854775800 := rfl
  unfold own_cap at h
  unfold own_sat
  split at h
  · rw [if_neg (by omega)]
  · omega
theorem own_0 : (0 : Int) = own_sat 0 := by decide
theorem own_dz {d : Int32} {n : Nat} (h : d.toInt = n) : d = 0 ↔ n = 0 := by
  rw [eq32, h]
  have : (0 : Int32).toInt = 0 := rfl
  omega
theorem ef_c_law (m : MethodId) (p1 : Int64) (p2 : Int32) (p3 : Int32) (p4 : Int32) (p5 : Int32) (p6 : Int32) : entryFrame m #[(.long p1), (.int p2), (.int p3), (.int p4), (.int p5), (.int p6)] maxLocals = mkF m 0 #[.val (.long p1), .second, .val (.int p2), .val (.int p3), .val (.int p4), .val (.int p5), .val (.int p6), .unset, .unset, .unset, .unset, .unset, .unset, .unset, .unset, .unset, .unset, .unset, .unset, .unset, .unset, .unset, .unset, .unset, .unset, .unset, .unset, .unset, .unset, .unset, .unset, .unset, .unset] [] := by first | (simp [entryFrame, mkF, argsToLocals, Value.category, maxLocals]; done) | rfl
theorem pd_0 : parseMethodDescriptor "(I)B" = some ⟨[.int], some .byte⟩ := by decide +kernel
theorem pd_1 : parseMethodDescriptor "(JJ)B" = some ⟨[.long, .long], some .byte⟩ := by decide +kernel
theorem pd_2 : parseMethodDescriptor "(JIJ[J)J" = some ⟨[.long, .int, .long, (.array .long)], some .long⟩ := by decide +kernel
theorem pd_3 : parseMethodDescriptor "(B)Z" = some ⟨[.byte], some .boolean⟩ := by decide +kernel
theorem pd_4 : parseMethodDescriptor "([BII)J" = some ⟨[(.array .byte), .int, .int], some .long⟩ := by decide +kernel
theorem pd_5 : parseMethodDescriptor "(II)I" = some ⟨[.int, .int], some .int⟩ := by decide +kernel
set_option maxRecDepth 65536 in
set_option maxHeartbeats 40000000 in
theorem c_law (l : Launch) (Z : State) (a0 : Array Value) (hw : ∀ d ∈ tables_1, d.before a0 Z = true) (p1 : Int64) (p2 : Int32) (p3 : Int32) (p4 : Int32) (p5 : Int32) (p6 : Int32) (h0 : Heap) (n0 : Nat) (Z0 : n0 ≤ h0.size)  :
    Ctr l Z x code maxLocals ret room_1 #[(.long p1), (.int p2), (.int p3), (.int p4), (.int p5), (.int p6)] h0 (Tru n0) := by
  refine Ctr.of (plainFor_of_name pn_0) (fun m => ef_c_law m p1 p2 p3 p4 p5 p6) ?_
  intro p e s m below meth c T0 hx hby hml hown hnm hret hlk hZ e0 X0
  have N0 := Fr.nil n0
  replace hown : s.vm.findClass "org/tertiary/io/FieldsIntegerPinLaw" = some m.cls := hown
  replace hml : c.maxLocals = 33 := hml
  refine Run.x_bipush (q := 2) X0 hx (hb hby at_0) (z := (19 : Int32)) rfl rfl ?_
  refine Run.newP X0 hx hZ e0 (hw _ (List.mem_of_getElem? (i := 0) rfl)) (hb hby at_2) (len := 19) (by decide) (by decide) (cap := 19) (by decide) (by decide) (by decide) (by decide) ?_
  intro T1 h1 b1 gg1 X1 e1 E1 A_b1
  have g_b1 : n0 ≤ b1 := Nat.le_trans Z0 (Nat.le_of_eq gg1.symm)
  have Z1 : n0 ≤ h1.size := Nat.le_trans Z0 E1.1
  replace A_b1 : Ars Z h1 b1 .long [(.long (0 : Int64)), (.long (0 : Int64)), (.long (0 : Int64)), (.long (0 : Int64)), (.long (0 : Int64)), (.long (0 : Int64)), (.long (0 : Int64)), (.long (0 : Int64)), (.long (0 : Int64)), (.long (0 : Int64)), (.long (0 : Int64)), (.long (0 : Int64)), (.long (0 : Int64)), (.long (0 : Int64)), (.long (0 : Int64)), (.long (0 : Int64)), (.long (0 : Int64)), (.long (0 : Int64)), (.long (0 : Int64))] := A_b1
  show Run p e below s _ _ _ (T1.setTop (mkF m 4 #[.val (.long p1), .second, .val (.int p2), .val (.int p3), .val (.int p4), .val (.int p5), .val (.int p6), .unset, .unset, .unset, .unset, .unset, .unset, .unset, .unset, .unset, .unset, .unset, .unset, .unset, .unset, .unset, .unset, .unset, .unset, .unset, .unset, .unset, .unset, .unset, .unset, .unset, .unset] [(.ref b1)]))
  refine Run.x_dup (q := 5) X1 hx (hb hby at_4) rfl rfl ?_
  refine Run.x_iconst (q := 6) X1 hx (hb hby at_5) (z := (0 : Int32)) rfl rfl ?_
  refine Run.x_lconst (q := 7) X1 hx (hb hby at_6) (z := (1 : Int64)) rfl rfl ?_
  refine Run.stJ X1 hx hZ e1 A_b1 (i := 0) (by decide) (Nat.le_of_ble_eq_true rfl) (hb hby at_7) ?_
  intro T2 h2 X2 e2 W2 A2
  replace A_b1 : Ars Z h2 b1 .long [(.long (1 : Int64)), (.long (0 : Int64)), (.long (0 : Int64)), (.long (0 : Int64)), (.long (0 : Int64)), (.long (0 : Int64)), (.long (0 : Int64)), (.long (0 : Int64)), (.long (0 : Int64)), (.long (0 : Int64)), (.long (0 : Int64)), (.long (0 : Int64)), (.long (0 : Int64)), (.long (0 : Int64)), (.long (0 : Int64)), (.long (0 : Int64)), (.long (0 : Int64)), (.long (0 : Int64)), (.long (0 : Int64))] := A2
  have N2 := Fr.snoc X2 N0 g_b1
  have Z2 : n0 ≤ h2.size := Nat.le_trans Z1 (Nat.le_of_eq W2.size.symm)
  show Run p e below s _ _ _ (T2.setTop (mkF m 8 #[.val (.long p1), .second, .val (.int p2), .val (.int p3), .val (.int p4), .val (.int p5), .val (.int p6), .unset, .unset, .unset, .unset, .unset, .unset, .unset, .unset, .unset, .unset, .unset, .unset, .unset, .unset, .unset, .unset, .unset, .unset, .unset, .unset, .unset, .unset, .unset, .unset, .unset, .unset] [(.ref b1)]))
  refine Run.x_dup (q := 9) X2 hx (hb hby at_8) rfl rfl ?_
  refine Run.x_iconst (q := 10) X2 hx (hb hby at_9) (z := (1 : Int32)) rfl rfl ?_
  refine Run.st (B := T2.setTop (mkF m 13 #[.val (.long p1), .second, .val (.int p2), .val (.int p3), .val (.int p4), .val (.int p5), .val (.int p6), .unset, .unset, .unset, .unset, .unset, .unset, .unset, .unset, .unset, .unset, .unset, .unset, .unset, .unset, .unset, .unset, .unset, .unset, .unset, .unset, .unset, .unset, .unset, .unset, .unset, .unset] [(.long (10 : Int64)), (.int (1 : Int32)), (.ref b1), (.ref b1)])) (fun t kt => X2.ldc2Long hx hown (mvT hZ (hw _ (List.mem_of_getElem? (i := 1) rfl))) (g := (mkF m 10 #[.val (.long p1), .second, .val (.int p2), .val (.int p3), .val (.int p4), .val (.int p5), .val (.int p6), .unset, .unset, .unset, .unset, .unset, .unset, .unset, .unset, .unset, .unset, .unset, .unset, .unset, .unset, .unset, .unset, .unset, .unset, .unset, .unset, .unset, .unset, .unset, .unset, .unset, .unset] [(.int (1 : Int32)), (.ref b1), (.ref b1)])) rfl (hb hby at_10) _ kt) ?_
  refine Run.stJ X2 hx hZ e2 A_b1 (i := 1) (by decide) (Nat.le_of_ble_eq_true rfl) (hb hby at_13) ?_
  intro T3 h3 X3 e3 W3 A3
  replace A_b1 : Ars Z h3 b1 .long [(.long (1 : Int64)), (.long (10 : Int64)), (.long (0 : Int64)), (.long (0 : Int64)), (.long (0 : Int64)), (.long (0 : Int64)), (.long (0 : Int64)), (.long (0 : Int64)), (.long (0 : Int64)), (.long (0 : Int64)), (.long (0 : Int64)), (.long (0 : Int64)), (.long (0 : Int64)), (.long (0 : Int64)), (.long (0 : Int64)), (.long (0 : Int64)), (.long (0 : Int64)), (.long (0 : Int64)), (.long (0 : Int64))] := A3
  have N3 := Fr.snoc X3 N2 g_b1
  have Z3 : n0 ≤ h3.size := Nat.le_trans Z2 (Nat.le_of_eq W3.size.symm)
  show Run p e below s _ _ _ (T3.setTop (mkF m 14 #[.val (.long p1), .second, .val (.int p2), .val (.int p3), .val (.int p4), .val (.int p5), .val (.int p6), .unset, .unset, .unset, .unset, .unset, .unset, .unset, .unset, .unset, .unset, .unset, .unset, .unset, .unset, .unset, .unset, .unset, .unset, .unset, .unset, .unset, .unset, .unset, .unset, .unset, .unset] [(.ref b1)]))
  refine Run.x_dup (q := 15) X3 hx (hb hby at_14) rfl rfl ?_
  refine Run.x_iconst (q := 16) X3 hx (hb hby at_15) (z := (2 : Int32)) rfl rfl ?_
  refine Run.st (B := T3.setTop (mkF m 19 #[.val (.long p1), .second, .val (.int p2), .val (.int p3), .val (.int p4), .val (.int p5), .val (.int p6), .unset, .unset, .unset, .unset, .unset, .unset, .unset, .unset, .unset, .unset, .unset, .unset, .unset, .unset, .unset, .unset, .unset, .unset, .unset, .unset, .unset, .unset, .unset, .unset, .unset, .unset] [(.long (100 : Int64)), (.int (2 : Int32)), (.ref b1), (.ref b1)])) (fun t kt => X3.ldc2Long hx hown (mvT hZ (hw _ (List.mem_of_getElem? (i := 2) rfl))) (g := (mkF m 16 #[.val (.long p1), .second, .val (.int p2), .val (.int p3), .val (.int p4), .val (.int p5), .val (.int p6), .unset, .unset, .unset, .unset, .unset, .unset, .unset, .unset, .unset, .unset, .unset, .unset, .unset, .unset, .unset, .unset, .unset, .unset, .unset, .unset, .unset, .unset, .unset, .unset, .unset, .unset] [(.int (2 : Int32)), (.ref b1), (.ref b1)])) rfl (hb hby at_16) _ kt) ?_
  refine Run.stJ X3 hx hZ e3 A_b1 (i := 2) (by decide) (Nat.le_of_ble_eq_true rfl) (hb hby at_19) ?_
  intro T4 h4 X4 e4 W4 A4
  replace A_b1 : Ars Z h4 b1 .long [(.long (1 : Int64)), (.long (10 : Int64)), (.long (100 : Int64)), (.long (0 : Int64)), (.long (0 : Int64)), (.long (0 : Int64)), (.long (0 : Int64)), (.long (0 : Int64)), (.long (0 : Int64)), (.long (0 : Int64)), (.long (0 : Int64)), (.long (0 : Int64)), (.long (0 : Int64)), (.long (0 : Int64)), (.long (0 : Int64)), (.long (0 : Int64)), (.long (0 : Int64)), (.long (0 : Int64)), (.long (0 : Int64))] := A4
  have N4 := Fr.snoc X4 N3 g_b1
  have Z4 : n0 ≤ h4.size := Nat.le_trans Z3 (Nat.le_of_eq W4.size.symm)
  show Run p e below s _ _ _ (T4.setTop (mkF m 20 #[.val (.long p1), .second, .val (.int p2), .val (.int p3), .val (.int p4), .val (.int p5), .val (.int p6), .unset, .unset, .unset, .unset, .unset, .unset, .unset, .unset, .unset, .unset, .unset, .unset, .unset, .unset, .unset, .unset, .unset, .unset, .unset, .unset, .unset, .unset, .unset, .unset, .unset, .unset] [(.ref b1)]))
  refine Run.x_dup (q := 21) X4 hx (hb hby at_20) rfl rfl ?_
  refine Run.x_iconst (q := 22) X4 hx (hb hby at_21) (z := (3 : Int32)) rfl rfl ?_
  refine Run.st (B := T4.setTop (mkF m 25 #[.val (.long p1), .second, .val (.int p2), .val (.int p3), .val (.int p4), .val (.int p5), .val (.int p6), .unset, .unset, .unset, .unset, .unset, .unset, .unset, .unset, .unset, .unset, .unset, .unset, .unset, .unset, .unset, .unset, .unset, .unset, .unset, .unset, .unset, .unset, .unset, .unset, .unset, .unset] [(.long (1000 : Int64)), (.int (3 : Int32)), (.ref b1), (.ref b1)])) (fun t kt => X4.ldc2Long hx hown (mvT hZ (hw _ (List.mem_of_getElem? (i := 3) rfl))) (g := (mkF m 22 #[.val (.long p1), .second, .val (.int p2), .val (.int p3), .val (.int p4), .val (.int p5), .val (.int p6), .unset, .unset, .unset, .unset, .unset, .unset, .unset, .unset, .unset, .unset, .unset, .unset, .unset, .unset, .unset, .unset, .unset, .unset, .unset, .unset, .unset, .unset, .unset, .unset, .unset, .unset] [(.int (3 : Int32)), (.ref b1), (.ref b1)])) rfl (hb hby at_22) _ kt) ?_
  refine Run.stJ X4 hx hZ e4 A_b1 (i := 3) (by decide) (Nat.le_of_ble_eq_true rfl) (hb hby at_25) ?_
  intro T5 h5 X5 e5 W5 A5
  replace A_b1 : Ars Z h5 b1 .long [(.long (1 : Int64)), (.long (10 : Int64)), (.long (100 : Int64)), (.long (1000 : Int64)), (.long (0 : Int64)), (.long (0 : Int64)), (.long (0 : Int64)), (.long (0 : Int64)), (.long (0 : Int64)), (.long (0 : Int64)), (.long (0 : Int64)), (.long (0 : Int64)), (.long (0 : Int64)), (.long (0 : Int64)), (.long (0 : Int64)), (.long (0 : Int64)), (.long (0 : Int64)), (.long (0 : Int64)), (.long (0 : Int64))] := A5
  have N5 := Fr.snoc X5 N4 g_b1
  have Z5 : n0 ≤ h5.size := Nat.le_trans Z4 (Nat.le_of_eq W5.size.symm)
  show Run p e below s _ _ _ (T5.setTop (mkF m 26 #[.val (.long p1), .second, .val (.int p2), .val (.int p3), .val (.int p4), .val (.int p5), .val (.int p6), .unset, .unset, .unset, .unset, .unset, .unset, .unset, .unset, .unset, .unset, .unset, .unset, .unset, .unset, .unset, .unset, .unset, .unset, .unset, .unset, .unset, .unset, .unset, .unset, .unset, .unset] [(.ref b1)]))
  refine Run.x_dup (q := 27) X5 hx (hb hby at_26) rfl rfl ?_
  refine Run.x_iconst (q := 28) X5 hx (hb hby at_27) (z := (4 : Int32)) rfl rfl ?_
  refine Run.st (B := T5.setTop (mkF m 31 #[.val (.long p1), .second, .val (.int p2), .val (.int p3), .val (.int p4), .val (.int p5), .val (.int p6), .unset, .unset, .unset, .unset, .unset, .unset, .unset, .unset, .unset, .unset, .unset, .unset, .unset, .unset, .unset, .unset, .unset, .unset, .unset, .unset, .unset, .unset, .unset, .unset, .unset, .unset] [(.long (10000 : Int64)), (.int (4 : Int32)), (.ref b1), (.ref b1)])) (fun t kt => X5.ldc2Long hx hown (mvT hZ (hw _ (List.mem_of_getElem? (i := 4) rfl))) (g := (mkF m 28 #[.val (.long p1), .second, .val (.int p2), .val (.int p3), .val (.int p4), .val (.int p5), .val (.int p6), .unset, .unset, .unset, .unset, .unset, .unset, .unset, .unset, .unset, .unset, .unset, .unset, .unset, .unset, .unset, .unset, .unset, .unset, .unset, .unset, .unset, .unset, .unset, .unset, .unset, .unset] [(.int (4 : Int32)), (.ref b1), (.ref b1)])) rfl (hb hby at_28) _ kt) ?_
  refine Run.stJ X5 hx hZ e5 A_b1 (i := 4) (by decide) (Nat.le_of_ble_eq_true rfl) (hb hby at_31) ?_
  intro T6 h6 X6 e6 W6 A6
  replace A_b1 : Ars Z h6 b1 .long [(.long (1 : Int64)), (.long (10 : Int64)), (.long (100 : Int64)), (.long (1000 : Int64)), (.long (10000 : Int64)), (.long (0 : Int64)), (.long (0 : Int64)), (.long (0 : Int64)), (.long (0 : Int64)), (.long (0 : Int64)), (.long (0 : Int64)), (.long (0 : Int64)), (.long (0 : Int64)), (.long (0 : Int64)), (.long (0 : Int64)), (.long (0 : Int64)), (.long (0 : Int64)), (.long (0 : Int64)), (.long (0 : Int64))] := A6
  have N6 := Fr.snoc X6 N5 g_b1
  have Z6 : n0 ≤ h6.size := Nat.le_trans Z5 (Nat.le_of_eq W6.size.symm)
  show Run p e below s _ _ _ (T6.setTop (mkF m 32 #[.val (.long p1), .second, .val (.int p2), .val (.int p3), .val (.int p4), .val (.int p5), .val (.int p6), .unset, .unset, .unset, .unset, .unset, .unset, .unset, .unset, .unset, .unset, .unset, .unset, .unset, .unset, .unset, .unset, .unset, .unset, .unset, .unset, .unset, .unset, .unset, .unset, .unset, .unset] [(.ref b1)]))
  refine Run.x_dup (q := 33) X6 hx (hb hby at_32) rfl rfl ?_
  refine Run.x_iconst (q := 34) X6 hx (hb hby at_33) (z := (5 : Int32)) rfl rfl ?_
  refine Run.st (B := T6.setTop (mkF m 37 #[.val (.long p1), .second, .val (.int p2), .val (.int p3), .val (.int p4), .val (.int p5), .val (.int p6), .unset, .unset, .unset, .unset, .unset, .unset, .unset, .unset, .unset, .unset, .unset, .unset, .unset, .unset, .unset, .unset, .unset, .unset, .unset, .unset, .unset, .unset, .unset, .unset, .unset, .unset] [(.long (100000 : Int64)), (.int (5 : Int32)), (.ref b1), (.ref b1)])) (fun t kt => X6.ldc2Long hx hown (mvT hZ (hw _ (List.mem_of_getElem? (i := 5) rfl))) (g := (mkF m 34 #[.val (.long p1), .second, .val (.int p2), .val (.int p3), .val (.int p4), .val (.int p5), .val (.int p6), .unset, .unset, .unset, .unset, .unset, .unset, .unset, .unset, .unset, .unset, .unset, .unset, .unset, .unset, .unset, .unset, .unset, .unset, .unset, .unset, .unset, .unset, .unset, .unset, .unset, .unset] [(.int (5 : Int32)), (.ref b1), (.ref b1)])) rfl (hb hby at_34) _ kt) ?_
  refine Run.stJ X6 hx hZ e6 A_b1 (i := 5) (by decide) (Nat.le_of_ble_eq_true rfl) (hb hby at_37) ?_
  intro T7 h7 X7 e7 W7 A7
  replace A_b1 : Ars Z h7 b1 .long [(.long (1 : Int64)), (.long (10 : Int64)), (.long (100 : Int64)), (.long (1000 : Int64)), (.long (10000 : Int64)), (.long (100000 : Int64)), (.long (0 : Int64)), (.long (0 : Int64)), (.long (0 : Int64)), (.long (0 : Int64)), (.long (0 : Int64)), (.long (0 : Int64)), (.long (0 : Int64)), (.long (0 : Int64)), (.long (0 : Int64)), (.long (0 : Int64)), (.long (0 : Int64)), (.long (0 : Int64)), (.long (0 : Int64))] := A7
  have N7 := Fr.snoc X7 N6 g_b1
  have Z7 : n0 ≤ h7.size := Nat.le_trans Z6 (Nat.le_of_eq W7.size.symm)
  show Run p e below s _ _ _ (T7.setTop (mkF m 38 #[.val (.long p1), .second, .val (.int p2), .val (.int p3), .val (.int p4), .val (.int p5), .val (.int p6), .unset, .unset, .unset, .unset, .unset, .unset, .unset, .unset, .unset, .unset, .unset, .unset, .unset, .unset, .unset, .unset, .unset, .unset, .unset, .unset, .unset, .unset, .unset, .unset, .unset, .unset] [(.ref b1)]))
  refine Run.x_dup (q := 39) X7 hx (hb hby at_38) rfl rfl ?_
  refine Run.x_bipush (q := 41) X7 hx (hb hby at_39) (z := (6 : Int32)) rfl rfl ?_
  refine Run.st (B := T7.setTop (mkF m 44 #[.val (.long p1), .second, .val (.int p2), .val (.int p3), .val (.int p4), .val (.int p5), .val (.int p6), .unset, .unset, .unset, .unset, .unset, .unset, .unset, .unset, .unset, .unset, .unset, .unset, .unset, .unset, .unset, .unset, .unset, .unset, .unset, .unset, .unset, .unset, .unset, .unset, .unset, .unset] [(.long (1000000 : Int64)), (.int (6 : Int32)), (.ref b1), (.ref b1)])) (fun t kt => X7.ldc2Long hx hown (mvT hZ (hw _ (List.mem_of_getElem? (i := 6) rfl))) (g := (mkF m 41 #[.val (.long p1), .second, .val (.int p2), .val (.int p3), .val (.int p4), .val (.int p5), .val (.int p6), .unset, .unset, .unset, .unset, .unset, .unset, .unset, .unset, .unset, .unset, .unset, .unset, .unset, .unset, .unset, .unset, .unset, .unset, .unset, .unset, .unset, .unset, .unset, .unset, .unset, .unset] [(.int (6 : Int32)), (.ref b1), (.ref b1)])) rfl (hb hby at_41) _ kt) ?_
  refine Run.stJ X7 hx hZ e7 A_b1 (i := 6) (by decide) (Nat.le_of_ble_eq_true rfl) (hb hby at_44) ?_
  intro T8 h8 X8 e8 W8 A8
  replace A_b1 : Ars Z h8 b1 .long [(.long (1 : Int64)), (.long (10 : Int64)), (.long (100 : Int64)), (.long (1000 : Int64)), (.long (10000 : Int64)), (.long (100000 : Int64)), (.long (1000000 : Int64)), (.long (0 : Int64)), (.long (0 : Int64)), (.long (0 : Int64)), (.long (0 : Int64)), (.long (0 : Int64)), (.long (0 : Int64)), (.long (0 : Int64)), (.long (0 : Int64)), (.long (0 : Int64)), (.long (0 : Int64)), (.long (0 : Int64)), (.long (0 : Int64))] := A8
  have N8 := Fr.snoc X8 N7 g_b1
  have Z8 : n0 ≤ h8.size := Nat.le_trans Z7 (Nat.le_of_eq W8.size.symm)
  show Run p e below s _ _ _ (T8.setTop (mkF m 45 #[.val (.long p1), .second, .val (.int p2), .val (.int p3), .val (.int p4), .val (.int p5), .val (.int p6), .unset, .unset, .unset, .unset, .unset, .unset, .unset, .unset, .unset, .unset, .unset, .unset, .unset, .unset, .unset, .unset, .unset, .unset, .unset, .unset, .unset, .unset, .unset, .unset, .unset, .unset] [(.ref b1)]))
  refine Run.x_dup (q := 46) X8 hx (hb hby at_45) rfl rfl ?_
  refine Run.x_bipush (q := 48) X8 hx (hb hby at_46) (z := (7 : Int32)) rfl rfl ?_
  refine Run.st (B := T8.setTop (mkF m 51 #[.val (.long p1), .second, .val (.int p2), .val (.int p3), .val (.int p4), .val (.int p5), .val (.int p6), .unset, .unset, .unset, .unset, .unset, .unset, .unset, .unset, .unset, .unset, .unset, .unset, .unset, .unset, .unset, .unset, .unset, .unset, .unset, .unset, .unset, .unset, .unset, .unset, .unset, .unset] [(.long (10000000 : Int64)), (.int (7 : Int32)), (.ref b1), (.ref b1)])) (fun t kt => X8.ldc2Long hx hown (mvT hZ (hw _ (List.mem_of_getElem? (i := 7) rfl))) (g := (mkF m 48 #[.val (.long p1), .second, .val (.int p2), .val (.int p3), .val (.int p4), .val (.int p5), .val (.int p6), .unset, .unset, .unset, .unset, .unset, .unset, .unset, .unset, .unset, .unset, .unset, .unset, .unset, .unset, .unset, .unset, .unset, .unset, .unset, .unset, .unset, .unset, .unset, .unset, .unset, .unset] [(.int (7 : Int32)), (.ref b1), (.ref b1)])) rfl (hb hby at_48) _ kt) ?_
  refine Run.stJ X8 hx hZ e8 A_b1 (i := 7) (by decide) (Nat.le_of_ble_eq_true rfl) (hb hby at_51) ?_
  intro T9 h9 X9 e9 W9 A9
  replace A_b1 : Ars Z h9 b1 .long [(.long (1 : Int64)), (.long (10 : Int64)), (.long (100 : Int64)), (.long (1000 : Int64)), (.long (10000 : Int64)), (.long (100000 : Int64)), (.long (1000000 : Int64)), (.long (10000000 : Int64)), (.long (0 : Int64)), (.long (0 : Int64)), (.long (0 : Int64)), (.long (0 : Int64)), (.long (0 : Int64)), (.long (0 : Int64)), (.long (0 : Int64)), (.long (0 : Int64)), (.long (0 : Int64)), (.long (0 : Int64)), (.long (0 : Int64))] := A9
  have N9 := Fr.snoc X9 N8 g_b1
  have Z9 : n0 ≤ h9.size := Nat.le_trans Z8 (Nat.le_of_eq W9.size.symm)
  show Run p e below s _ _ _ (T9.setTop (mkF m 52 #[.val (.long p1), .second, .val (.int p2), .val (.int p3), .val (.int p4), .val (.int p5), .val (.int p6), .unset, .unset, .unset, .unset, .unset, .unset, .unset, .unset, .unset, .unset, .unset, .unset, .unset, .unset, .unset, .unset, .unset, .unset, .unset, .unset, .unset, .unset, .unset, .unset, .unset, .unset] [(.ref b1)]))
  refine Run.x_dup (q := 53) X9 hx (hb hby at_52) rfl rfl ?_
  refine Run.x_bipush (q := 55) X9 hx (hb hby at_53) (z := (8 : Int32)) rfl rfl ?_
  refine Run.st (B := T9.setTop (mkF m 58 #[.val (.long p1), .second, .val (.int p2), .val (.int p3), .val (.int p4), .val (.int p5), .val (.int p6), .unset, .unset, .unset, .unset, .unset, .unset, .unset, .unset, .unset, .unset, .unset, .unset, .unset, .unset, .unset, .unset, .unset, .unset, .unset, .unset, .unset, .unset, .unset, .unset, .unset, .unset] [(.long (100000000 : Int64)), (.int (8 : Int32)), (.ref b1), (.ref b1)])) (fun t kt => X9.ldc2Long hx hown (mvT hZ (hw _ (List.mem_of_getElem? (i := 8) rfl))) (g := (mkF m 55 #[.val (.long p1), .second, .val (.int p2), .val (.int p3), .val (.int p4), .val (.int p5), .val (.int p6), .unset, .unset, .unset, .unset, .unset, .unset, .unset, .unset, .unset, .unset, .unset, .unset, .unset, .unset, .unset, .unset, .unset, .unset, .unset, .unset, .unset, .unset, .unset, .unset, .unset, .unset] [(.int (8 : Int32)), (.ref b1), (.ref b1)])) rfl (hb hby at_55) _ kt) ?_
  refine Run.stJ X9 hx hZ e9 A_b1 (i := 8) (by decide) (Nat.le_of_ble_eq_true rfl) (hb hby at_58) ?_
  intro T10 h10 X10 e10 W10 A10
  replace A_b1 : Ars Z h10 b1 .long [(.long (1 : Int64)), (.long (10 : Int64)), (.long (100 : Int64)), (.long (1000 : Int64)), (.long (10000 : Int64)), (.long (100000 : Int64)), (.long (1000000 : Int64)), (.long (10000000 : Int64)), (.long (100000000 : Int64)), (.long (0 : Int64)), (.long (0 : Int64)), (.long (0 : Int64)), (.long (0 : Int64)), (.long (0 : Int64)), (.long (0 : Int64)), (.long (0 : Int64)), (.long (0 : Int64)), (.long (0 : Int64)), (.long (0 : Int64))] := A10
  have N10 := Fr.snoc X10 N9 g_b1
  have Z10 : n0 ≤ h10.size := Nat.le_trans Z9 (Nat.le_of_eq W10.size.symm)
  show Run p e below s _ _ _ (T10.setTop (mkF m 59 #[.val (.long p1), .second, .val (.int p2), .val (.int p3), .val (.int p4), .val (.int p5), .val (.int p6), .unset, .unset, .unset, .unset, .unset, .unset, .unset, .unset, .unset, .unset, .unset, .unset, .unset, .unset, .unset, .unset, .unset, .unset, .unset, .unset, .unset, .unset, .unset, .unset, .unset, .unset] [(.ref b1)]))
  refine Run.x_dup (q := 60) X10 hx (hb hby at_59) rfl rfl ?_
  refine Run.x_bipush (q := 62) X10 hx (hb hby at_60) (z := (9 : Int32)) rfl rfl ?_
  refine Run.st (B := T10.setTop (mkF m 65 #[.val (.long p1), .second, .val (.int p2), .val (.int p3), .val (.int p4), .val (.int p5), .val (.int p6), .unset, .unset, .unset, .unset, .unset, .unset, .unset, .unset, .unset, .unset, .unset, .unset, .unset, .unset, .unset, .unset, .unset, .unset, .unset, .unset, .unset, .unset, .unset, .unset, .unset, .unset] [(.long (1000000000 : Int64)), (.int (9 : Int32)), (.ref b1), (.ref b1)])) (fun t kt => X10.ldc2Long hx hown (mvT hZ (hw _ (List.mem_of_getElem? (i := 9) rfl))) (g := (mkF m 62 #[.val (.long p1), .second, .val (.int p2), .val (.int p3), .val (.int p4), .val (.int p5), .val (.int p6), .unset, .unset, .unset, .unset, .unset, .unset, .unset, .unset, .unset, .unset, .unset, .unset, .unset, .unset, .unset, .unset, .unset, .unset, .unset, .unset, .unset, .unset, .unset, .unset, .unset, .unset] [(.int (9 : Int32)), (.ref b1), (.ref b1)])) rfl (hb hby at_62) _ kt) ?_
  refine Run.stJ X10 hx hZ e10 A_b1 (i := 9) (by decide) (Nat.le_of_ble_eq_true rfl) (hb hby at_65) ?_
  intro T11 h11 X11 e11 W11 A11
  replace A_b1 : Ars Z h11 b1 .long [(.long (1 : Int64)), (.long (10 : Int64)), (.long (100 : Int64)), (.long (1000 : Int64)), (.long (10000 : Int64)), (.long (100000 : Int64)), (.long (1000000 : Int64)), (.long (10000000 : Int64)), (.long (100000000 : Int64)), (.long (1000000000 : Int64)), (.long (0 : Int64)), (.long (0 : Int64)), (.long (0 : Int64)), (.long (0 : Int64)), (.long (0 : Int64)), (.long (0 : Int64)), (.long (0 : Int64)), (.long (0 : Int64)), (.long (0 : Int64))] := A11
  have N11 := Fr.snoc X11 N10 g_b1
  have Z11 : n0 ≤ h11.size := Nat.le_trans Z10 (Nat.le_of_eq W11.size.symm)
  show Run p e below s _ _ _ (T11.setTop (mkF m 66 #[.val (.long p1), .second, .val (.int p2), .val (.int p3), .val (.int p4), .val (.int p5), .val (.int p6), .unset, .unset, .unset, .unset, .unset, .unset, .unset, .unset, .unset, .unset, .unset, .unset, .unset, .unset, .unset, .unset, .unset, .unset, .unset, .unset, .unset, .unset, .unset, .unset, .unset, .unset] [(.ref b1)]))
  refine Run.x_dup (q := 67) X11 hx (hb hby at_66) rfl rfl ?_
  refine Run.x_bipush (q := 69) X11 hx (hb hby at_67) (z := (10 : Int32)) rfl rfl ?_
  refine Run.st (B := T11.setTop (mkF m 72 #[.val (.long p1), .second, .val (.int p2), .val (.int p3), .val (.int p4), .val (.int p5), .val (.int p6), .unset, .unset, .unset, .unset, .unset, .unset, .unset, .unset, .unset, .unset, .unset, .unset, .unset, .unset, .unset, .unset, .unset, .unset, .unset, .unset, .unset, .unset, .unset, .unset, .unset, .unset] [(.long (10000000000 : Int64)), (.int (10 : Int32)), (.ref b1), (.ref b1)])) (fun t kt => X11.ldc2Long hx hown (mvT hZ (hw _ (List.mem_of_getElem? (i := 10) rfl))) (g := (mkF m 69 #[.val (.long p1), .second, .val (.int p2), .val (.int p3), .val (.int p4), .val (.int p5), .val (.int p6), .unset, .unset, .unset, .unset, .unset, .unset, .unset, .unset, .unset, .unset, .unset, .unset, .unset, .unset, .unset, .unset, .unset, .unset, .unset, .unset, .unset, .unset, .unset, .unset, .unset, .unset] [(.int (10 : Int32)), (.ref b1), (.ref b1)])) rfl (hb hby at_69) _ kt) ?_
  refine Run.stJ X11 hx hZ e11 A_b1 (i := 10) (by decide) (Nat.le_of_ble_eq_true rfl) (hb hby at_72) ?_
  intro T12 h12 X12 e12 W12 A12
  replace A_b1 : Ars Z h12 b1 .long [(.long (1 : Int64)), (.long (10 : Int64)), (.long (100 : Int64)), (.long (1000 : Int64)), (.long (10000 : Int64)), (.long (100000 : Int64)), (.long (1000000 : Int64)), (.long (10000000 : Int64)), (.long (100000000 : Int64)), (.long (1000000000 : Int64)), (.long (10000000000 : Int64)), (.long (0 : Int64)), (.long (0 : Int64)), (.long (0 : Int64)), (.long (0 : Int64)), (.long (0 : Int64)), (.long (0 : Int64)), (.long (0 : Int64)), (.long (0 : Int64))] := A12
  have N12 := Fr.snoc X12 N11 g_b1
  have Z12 : n0 ≤ h12.size := Nat.le_trans Z11 (Nat.le_of_eq W12.size.symm)
  show Run p e below s _ _ _ (T12.setTop (mkF m 73 #[.val (.long p1), .second, .val (.int p2), .val (.int p3), .val (.int p4), .val (.int p5), .val (.int p6), .unset, .unset, .unset, .unset, .unset, .unset, .unset, .unset, .unset, .unset, .unset, .unset, .unset, .unset, .unset, .unset, .unset, .unset, .unset, .unset, .unset, .unset, .unset, .unset, .unset, .unset] [(.ref b1)]))
  refine Run.x_dup (q := 74) X12 hx (hb hby at_73) rfl rfl ?_
  refine Run.x_bipush (q := 76) X12 hx (hb hby at_74) (z := (11 : Int32)) rfl rfl ?_
  refine Run.st (B := T12.setTop (mkF m 79 #[.val (.long p1), .second, .val (.int p2), .val (.int p3), .val (.int p4), .val (.int p5), .val (.int p6), .unset, .unset, .unset, .unset, .unset, .unset, .unset, .unset, .unset, .unset, .unset, .unset, .unset, .unset, .unset, .unset, .unset, .unset, .unset, .unset, .unset, .unset, .unset, .unset, .unset, .unset] [(.long (100000000000 : Int64)), (.int (11 : Int32)), (.ref b1), (.ref b1)])) (fun t kt => X12.ldc2Long hx hown (mvT hZ (hw _ (List.mem_of_getElem? (i := 11) rfl))) (g := (mkF m 76 #[.val (.long p1), .second, .val (.int p2), .val (.int p3), .val (.int p4), .val (.int p5), .val (.int p6), .unset, .unset, .unset, .unset, .unset, .unset, .unset, .unset, .unset, .unset, .unset, .unset, .unset, .unset, .unset, .unset, .unset, .unset, .unset, .unset, .unset, .unset, .unset, .unset, .unset, .unset] [(.int (11 : Int32)), (.ref b1), (.ref b1)])) rfl (hb hby at_76) _ kt) ?_
  refine Run.stJ X12 hx hZ e12 A_b1 (i := 11) (by decide) (Nat.le_of_ble_eq_true rfl) (hb hby at_79) ?_
  intro T13 h13 X13 e13 W13 A13
  replace A_b1 : Ars Z h13 b1 .long [(.long (1 : Int64)), (.long (10 : Int64)), (.long (100 : Int64)), (.long (1000 : Int64)), (.long (10000 : Int64)), (.long (100000 : Int64)), (.long (1000000 : Int64)), (.long (10000000 : Int64)), (.long (100000000 : Int64)), (.long (1000000000 : Int64)), (.long (10000000000 : Int64)), (.long (100000000000 : Int64)), (.long (0 : Int64)), (.long (0 : Int64)), (.long (0 : Int64)), (.long (0 : Int64)), (.long (0 : Int64)), (.long (0 : Int64)), (.long (0 : Int64))] := A13
  have N13 := Fr.snoc X13 N12 g_b1
  have Z13 : n0 ≤ h13.size := Nat.le_trans Z12 (Nat.le_of_eq W13.size.symm)
  show Run p e below s _ _ _ (T13.setTop (mkF m 80 #[.val (.long p1), .second, .val (.int p2), .val (.int p3), .val (.int p4), .val (.int p5), .val (.int p6), .unset, .unset, .unset, .unset, .unset, .unset, .unset, .unset, .unset, .unset, .unset, .unset, .unset, .unset, .unset, .unset, .unset, .unset, .unset, .unset, .unset, .unset, .unset, .unset, .unset, .unset] [(.ref b1)]))
  refine Run.x_dup (q := 81) X13 hx (hb hby at_80) rfl rfl ?_
  refine Run.x_bipush (q := 83) X13 hx (hb hby at_81) (z := (12 : Int32)) rfl rfl ?_
  refine Run.st (B := T13.setTop (mkF m 86 #[.val (.long p1), .second, .val (.int p2), .val (.int p3), .val (.int p4), .val (.int p5), .val (.int p6), .unset, .unset, .unset, .unset, .unset, .unset, .unset, .unset, .unset, .unset, .unset, .unset, .unset, .unset, .unset, .unset, .unset, .unset, .unset, .unset, .unset, .unset, .unset, .unset, .unset, .unset] [(.long (1000000000000 : Int64)), (.int (12 : Int32)), (.ref b1), (.ref b1)])) (fun t kt => X13.ldc2Long hx hown (mvT hZ (hw _ (List.mem_of_getElem? (i := 12) rfl))) (g := (mkF m 83 #[.val (.long p1), .second, .val (.int p2), .val (.int p3), .val (.int p4), .val (.int p5), .val (.int p6), .unset, .unset, .unset, .unset, .unset, .unset, .unset, .unset, .unset, .unset, .unset, .unset, .unset, .unset, .unset, .unset, .unset, .unset, .unset, .unset, .unset, .unset, .unset, .unset, .unset, .unset] [(.int (12 : Int32)), (.ref b1), (.ref b1)])) rfl (hb hby at_83) _ kt) ?_
  refine Run.stJ X13 hx hZ e13 A_b1 (i := 12) (by decide) (Nat.le_of_ble_eq_true rfl) (hb hby at_86) ?_
  intro T14 h14 X14 e14 W14 A14
  replace A_b1 : Ars Z h14 b1 .long [(.long (1 : Int64)), (.long (10 : Int64)), (.long (100 : Int64)), (.long (1000 : Int64)), (.long (10000 : Int64)), (.long (100000 : Int64)), (.long (1000000 : Int64)), (.long (10000000 : Int64)), (.long (100000000 : Int64)), (.long (1000000000 : Int64)), (.long (10000000000 : Int64)), (.long (100000000000 : Int64)), (.long (1000000000000 : Int64)), (.long (0 : Int64)), (.long (0 : Int64)), (.long (0 : Int64)), (.long (0 : Int64)), (.long (0 : Int64)), (.long (0 : Int64))] := A14
  have N14 := Fr.snoc X14 N13 g_b1
  have Z14 : n0 ≤ h14.size := Nat.le_trans Z13 (Nat.le_of_eq W14.size.symm)
  show Run p e below s _ _ _ (T14.setTop (mkF m 87 #[.val (.long p1), .second, .val (.int p2), .val (.int p3), .val (.int p4), .val (.int p5), .val (.int p6), .unset, .unset, .unset, .unset, .unset, .unset, .unset, .unset, .unset, .unset, .unset, .unset, .unset, .unset, .unset, .unset, .unset, .unset, .unset, .unset, .unset, .unset, .unset, .unset, .unset, .unset] [(.ref b1)]))
  refine Run.x_dup (q := 88) X14 hx (hb hby at_87) rfl rfl ?_
  refine Run.x_bipush (q := 90) X14 hx (hb hby at_88) (z := (13 : Int32)) rfl rfl ?_
  refine Run.st (B := T14.setTop (mkF m 93 #[.val (.long p1), .second, .val (.int p2), .val (.int p3), .val (.int p4), .val (.int p5), .val (.int p6), .unset, .unset, .unset, .unset, .unset, .unset, .unset, .unset, .unset, .unset, .unset, .unset, .unset, .unset, .unset, .unset, .unset, .unset, .unset, .unset, .unset, .unset, .unset, .unset, .unset, .unset] [(.long (10000000000000 : Int64)), (.int (13 : Int32)), (.ref b1), (.ref b1)])) (fun t kt => X14.ldc2Long hx hown (mvT hZ (hw _ (List.mem_of_getElem? (i := 13) rfl))) (g := (mkF m 90 #[.val (.long p1), .second, .val (.int p2), .val (.int p3), .val (.int p4), .val (.int p5), .val (.int p6), .unset, .unset, .unset, .unset, .unset, .unset, .unset, .unset, .unset, .unset, .unset, .unset, .unset, .unset, .unset, .unset, .unset, .unset, .unset, .unset, .unset, .unset, .unset, .unset, .unset, .unset] [(.int (13 : Int32)), (.ref b1), (.ref b1)])) rfl (hb hby at_90) _ kt) ?_
  refine Run.stJ X14 hx hZ e14 A_b1 (i := 13) (by decide) (Nat.le_of_ble_eq_true rfl) (hb hby at_93) ?_
  intro T15 h15 X15 e15 W15 A15
  replace A_b1 : Ars Z h15 b1 .long [(.long (1 : Int64)), (.long (10 : Int64)), (.long (100 : Int64)), (.long (1000 : Int64)), (.long (10000 : Int64)), (.long (100000 : Int64)), (.long (1000000 : Int64)), (.long (10000000 : Int64)), (.long (100000000 : Int64)), (.long (1000000000 : Int64)), (.long (10000000000 : Int64)), (.long (100000000000 : Int64)), (.long (1000000000000 : Int64)), (.long (10000000000000 : Int64)), (.long (0 : Int64)), (.long (0 : Int64)), (.long (0 : Int64)), (.long (0 : Int64)), (.long (0 : Int64))] := A15
  have N15 := Fr.snoc X15 N14 g_b1
  have Z15 : n0 ≤ h15.size := Nat.le_trans Z14 (Nat.le_of_eq W15.size.symm)
  show Run p e below s _ _ _ (T15.setTop (mkF m 94 #[.val (.long p1), .second, .val (.int p2), .val (.int p3), .val (.int p4), .val (.int p5), .val (.int p6), .unset, .unset, .unset, .unset, .unset, .unset, .unset, .unset, .unset, .unset, .unset, .unset, .unset, .unset, .unset, .unset, .unset, .unset, .unset, .unset, .unset, .unset, .unset, .unset, .unset, .unset] [(.ref b1)]))
  refine Run.x_dup (q := 95) X15 hx (hb hby at_94) rfl rfl ?_
  refine Run.x_bipush (q := 97) X15 hx (hb hby at_95) (z := (14 : Int32)) rfl rfl ?_
  refine Run.st (B := T15.setTop (mkF m 100 #[.val (.long p1), .second, .val (.int p2), .val (.int p3), .val (.int p4), .val (.int p5), .val (.int p6), .unset, .unset, .unset, .unset, .unset, .unset, .unset, .unset, .unset, .unset, .unset, .unset, .unset, .unset, .unset, .unset, .unset, .unset, .unset, .unset, .unset, .unset, .unset, .unset, .unset, .unset] [(.long (100000000000000 : Int64)), (.int (14 : Int32)), (.ref b1), (.ref b1)])) (fun t kt => X15.ldc2Long hx hown (mvT hZ (hw _ (List.mem_of_getElem? (i := 14) rfl))) (g := (mkF m 97 #[.val (.long p1), .second, .val (.int p2), .val (.int p3), .val (.int p4), .val (.int p5), .val (.int p6), .unset, .unset, .unset, .unset, .unset, .unset, .unset, .unset, .unset, .unset, .unset, .unset, .unset, .unset, .unset, .unset, .unset, .unset, .unset, .unset, .unset, .unset, .unset, .unset, .unset, .unset] [(.int (14 : Int32)), (.ref b1), (.ref b1)])) rfl (hb hby at_97) _ kt) ?_
  refine Run.stJ X15 hx hZ e15 A_b1 (i := 14) (by decide) (Nat.le_of_ble_eq_true rfl) (hb hby at_100) ?_
  intro T16 h16 X16 e16 W16 A16
  replace A_b1 : Ars Z h16 b1 .long [(.long (1 : Int64)), (.long (10 : Int64)), (.long (100 : Int64)), (.long (1000 : Int64)), (.long (10000 : Int64)), (.long (100000 : Int64)), (.long (1000000 : Int64)), (.long (10000000 : Int64)), (.long (100000000 : Int64)), (.long (1000000000 : Int64)), (.long (10000000000 : Int64)), (.long (100000000000 : Int64)), (.long (1000000000000 : Int64)), (.long (10000000000000 : Int64)), (.long (100000000000000 : Int64)), (.long (0 : Int64)), (.long (0 : Int64)), (.long (0 : Int64)), (.long (0 : Int64))] := A16
  have N16 := Fr.snoc X16 N15 g_b1
  have Z16 : n0 ≤ h16.size := Nat.le_trans Z15 (Nat.le_of_eq W16.size.symm)
  show Run p e below s _ _ _ (T16.setTop (mkF m 101 #[.val (.long p1), .second, .val (.int p2), .val (.int p3), .val (.int p4), .val (.int p5), .val (.int p6), .unset, .unset, .unset, .unset, .unset, .unset, .unset, .unset, .unset, .unset, .unset, .unset, .unset, .unset, .unset, .unset, .unset, .unset, .unset, .unset, .unset, .unset, .unset, .unset, .unset, .unset] [(.ref b1)]))
  refine Run.x_dup (q := 102) X16 hx (hb hby at_101) rfl rfl ?_
  refine Run.x_bipush (q := 104) X16 hx (hb hby at_102) (z := (15 : Int32)) rfl rfl ?_
  refine Run.st (B := T16.setTop (mkF m 107 #[.val (.long p1), .second, .val (.int p2), .val (.int p3), .val (.int p4), .val (.int p5), .val (.int p6), .unset, .unset, .unset, .unset, .unset, .unset, .unset, .unset, .unset, .unset, .unset, .unset, .unset, .unset, .unset, .unset, .unset, .unset, .unset, .unset, .unset, .unset, .unset, .unset, .unset, .unset] [(.long (1000000000000000 : Int64)), (.int (15 : Int32)), (.ref b1), (.ref b1)])) (fun t kt => X16.ldc2Long hx hown (mvT hZ (hw _ (List.mem_of_getElem? (i := 15) rfl))) (g := (mkF m 104 #[.val (.long p1), .second, .val (.int p2), .val (.int p3), .val (.int p4), .val (.int p5), .val (.int p6), .unset, .unset, .unset, .unset, .unset, .unset, .unset, .unset, .unset, .unset, .unset, .unset, .unset, .unset, .unset, .unset, .unset, .unset, .unset, .unset, .unset, .unset, .unset, .unset, .unset, .unset] [(.int (15 : Int32)), (.ref b1), (.ref b1)])) rfl (hb hby at_104) _ kt) ?_
  refine Run.stJ X16 hx hZ e16 A_b1 (i := 15) (by decide) (Nat.le_of_ble_eq_true rfl) (hb hby at_107) ?_
  intro T17 h17 X17 e17 W17 A17
  replace A_b1 : Ars Z h17 b1 .long [(.long (1 : Int64)), (.long (10 : Int64)), (.long (100 : Int64)), (.long (1000 : Int64)), (.long (10000 : Int64)), (.long (100000 : Int64)), (.long (1000000 : Int64)), (.long (10000000 : Int64)), (.long (100000000 : Int64)), (.long (1000000000 : Int64)), (.long (10000000000 : Int64)), (.long (100000000000 : Int64)), (.long (1000000000000 : Int64)), (.long (10000000000000 : Int64)), (.long (100000000000000 : Int64)), (.long (1000000000000000 : Int64)), (.long (0 : Int64)), (.long (0 : Int64)), (.long (0 : Int64))] := A17
  have N17 := Fr.snoc X17 N16 g_b1
  have Z17 : n0 ≤ h17.size := Nat.le_trans Z16 (Nat.le_of_eq W17.size.symm)
  show Run p e below s _ _ _ (T17.setTop (mkF m 108 #[.val (.long p1), .second, .val (.int p2), .val (.int p3), .val (.int p4), .val (.int p5), .val (.int p6), .unset, .unset, .unset, .unset, .unset, .unset, .unset, .unset, .unset, .unset, .unset, .unset, .unset, .unset, .unset, .unset, .unset, .unset, .unset, .unset, .unset, .unset, .unset, .unset, .unset, .unset] [(.ref b1)]))
  refine Run.x_dup (q := 109) X17 hx (hb hby at_108) rfl rfl ?_
  refine Run.x_bipush (q := 111) X17 hx (hb hby at_109) (z := (16 : Int32)) rfl rfl ?_
  refine Run.st (B := T17.setTop (mkF m 114 #[.val (.long p1), .second, .val (.int p2), .val (.int p3), .val (.int p4), .val (.int p5), .val (.int p6), .unset, .unset, .unset, .unset, .unset, .unset, .unset, .unset, .unset, .unset, .unset, .unset, .unset, .unset, .unset, .unset, .unset, .unset, .unset, .unset, .unset, .unset, .unset, .unset, .unset, .unset] [(.long (10000000000000000 : Int64)), (.int (16 : Int32)), (.ref b1), (.ref b1)])) (fun t kt => X17.ldc2Long hx hown (mvT hZ (hw _ (List.mem_of_getElem? (i := 16) rfl))) (g := (mkF m 111 #[.val (.long p1), .second, .val (.int p2), .val (.int p3), .val (.int p4), .val (.int p5), .val (.int p6), .unset, .unset, .unset, .unset, .unset, .unset, .unset, .unset, .unset, .unset, .unset, .unset, .unset, .unset, .unset, .unset, .unset, .unset, .unset, .unset, .unset, .unset, .unset, .unset, .unset, .unset] [(.int (16 : Int32)), (.ref b1), (.ref b1)])) rfl (hb hby at_111) _ kt) ?_
  refine Run.stJ X17 hx hZ e17 A_b1 (i := 16) (by decide) (Nat.le_of_ble_eq_true rfl) (hb hby at_114) ?_
  intro T18 h18 X18 e18 W18 A18
  replace A_b1 : Ars Z h18 b1 .long [(.long (1 : Int64)), (.long (10 : Int64)), (.long (100 : Int64)), (.long (1000 : Int64)), (.long (10000 : Int64)), (.long (100000 : Int64)), (.long (1000000 : Int64)), (.long (10000000 : Int64)), (.long (100000000 : Int64)), (.long (1000000000 : Int64)), (.long (10000000000 : Int64)), (.long (100000000000 : Int64)), (.long (1000000000000 : Int64)), (.long (10000000000000 : Int64)), (.long (100000000000000 : Int64)), (.long (1000000000000000 : Int64)), (.long (10000000000000000 : Int64)), (.long (0 : Int64)), (.long (0 : Int64))] := A18
  have N18 := Fr.snoc X18 N17 g_b1
  have Z18 : n0 ≤ h18.size := Nat.le_trans Z17 (Nat.le_of_eq W18.size.symm)
  show Run p e below s _ _ _ (T18.setTop (mkF m 115 #[.val (.long p1), .second, .val (.int p2), .val (.int p3), .val (.int p4), .val (.int p5), .val (.int p6), .unset, .unset, .unset, .unset, .unset, .unset, .unset, .unset, .unset, .unset, .unset, .unset, .unset, .unset, .unset, .unset, .unset, .unset, .unset, .unset, .unset, .unset, .unset, .unset, .unset, .unset] [(.ref b1)]))
  refine Run.x_dup (q := 116) X18 hx (hb hby at_115) rfl rfl ?_
  refine Run.x_bipush (q := 118) X18 hx (hb hby at_116) (z := (17 : Int32)) rfl rfl ?_
  refine Run.st (B := T18.setTop (mkF m 121 #[.val (.long p1), .second, .val (.int p2), .val (.int p3), .val (.int p4), .val (.int p5), .val (.int p6), .unset, .unset, .unset, .unset, .unset, .unset, .unset, .unset, .unset, .unset, .unset, .unset, .unset, .unset, .unset, .unset, .unset, .unset, .unset, .unset, .unset, .unset, .unset, .unset, .unset, .unset] [(.long (100000000000000000 : Int64)), (.int (17 : Int32)), (.ref b1), (.ref b1)])) (fun t kt => X18.ldc2Long hx hown (mvT hZ (hw _ (List.mem_of_getElem? (i := 17) rfl))) (g := (mkF m 118 #[.val (.long p1), .second, .val (.int p2), .val (.int p3), .val (.int p4), .val (.int p5), .val (.int p6), .unset, .unset, .unset, .unset, .unset, .unset, .unset, .unset, .unset, .unset, .unset, .unset, .unset, .unset, .unset, .unset, .unset, .unset, .unset, .unset, .unset, .unset, .unset, .unset, .unset, .unset] [(.int (17 : Int32)), (.ref b1), (.ref b1)])) rfl (hb hby at_118) _ kt) ?_
  refine Run.stJ X18 hx hZ e18 A_b1 (i := 17) (by decide) (Nat.le_of_ble_eq_true rfl) (hb hby at_121) ?_
  intro T19 h19 X19 e19 W19 A19
  replace A_b1 : Ars Z h19 b1 .long [(.long (1 : Int64)), (.long (10 : Int64)), (.long (100 : Int64)), (.long (1000 : Int64)), (.long (10000 : Int64)), (.long (100000 : Int64)), (.long (1000000 : Int64)), (.long (10000000 : Int64)), (.long (100000000 : Int64)), (.long (1000000000 : Int64)), (.long (10000000000 : Int64)), (.long (100000000000 : Int64)), (.long (1000000000000 : Int64)), (.long (10000000000000 : Int64)), (.long (100000000000000 : Int64)), (.long (1000000000000000 : Int64)), (.long (10000000000000000 : Int64)), (.long (100000000000000000 : Int64)), (.long (0 : Int64))] := A19
  have N19 := Fr.snoc X19 N18 g_b1
  have Z19 : n0 ≤ h19.size := Nat.le_trans Z18 (Nat.le_of_eq W19.size.symm)
  show Run p e below s _ _ _ (T19.setTop (mkF m 122 #[.val (.long p1), .second, .val (.int p2), .val (.int p3), .val (.int p4), .val (.int p5), .val (.int p6), .unset, .unset, .unset, .unset, .unset, .unset, .unset, .unset, .unset, .unset, .unset, .unset, .unset, .unset, .unset, .unset, .unset, .unset, .unset, .unset, .unset, .unset, .unset, .unset, .unset, .unset] [(.ref b1)]))
  refine Run.x_dup (q := 123) X19 hx (hb hby at_122) rfl rfl ?_
  refine Run.x_bipush (q := 125) X19 hx (hb hby at_123) (z := (18 : Int32)) rfl rfl ?_
  refine Run.st (B := T19.setTop (mkF m 128 #[.val (.long p1), .second, .val (.int p2), .val (.int p3), .val (.int p4), .val (.int p5), .val (.int p6), .unset, .unset, .unset, .unset, .unset, .unset, .unset, .unset, .unset, .unset, .unset, .unset, .unset, .unset, .unset, .unset, .unset, .unset, .unset, .unset, .unset, .unset, .unset, .unset, .unset, .unset] [(.long (1000000000000000000 : Int64)), (.int (18 : Int32)), (.ref b1), (.ref b1)])) (fun t kt => X19.ldc2Long hx hown (mvT hZ (hw _ (List.mem_of_getElem? (i := 18) rfl))) (g := (mkF m 125 #[.val (.long p1), .second, .val (.int p2), .val (.int p3), .val (.int p4), .val (.int p5), .val (.int p6), .unset, .unset, .unset, .unset, .unset, .unset, .unset, .unset, .unset, .unset, .unset, .unset, .unset, .unset, .unset, .unset, .unset, .unset, .unset, .unset, .unset, .unset, .unset, .unset, .unset, .unset] [(.int (18 : Int32)), (.ref b1), (.ref b1)])) rfl (hb hby at_125) _ kt) ?_
  refine Run.stJ X19 hx hZ e19 A_b1 (i := 18) (by decide) (Nat.le_of_ble_eq_true rfl) (hb hby at_128) ?_
  intro T20 h20 X20 e20 W20 A20
  replace A_b1 : Ars Z h20 b1 .long [(.long (1 : Int64)), (.long (10 : Int64)), (.long (100 : Int64)), (.long (1000 : Int64)), (.long (10000 : Int64)), (.long (100000 : Int64)), (.long (1000000 : Int64)), (.long (10000000 : Int64)), (.long (100000000 : Int64)), (.long (1000000000 : Int64)), (.long (10000000000 : Int64)), (.long (100000000000 : Int64)), (.long (1000000000000 : Int64)), (.long (10000000000000 : Int64)), (.long (100000000000000 : Int64)), (.long (1000000000000000 : Int64)), (.long (10000000000000000 : Int64)), (.long (100000000000000000 : Int64)), (.long (1000000000000000000 : Int64))] := A20
  have N20 := Fr.snoc X20 N19 g_b1
  have Z20 : n0 ≤ h20.size := Nat.le_trans Z19 (Nat.le_of_eq W20.size.symm)
  show Run p e below s _ _ _ (T20.setTop (mkF m 129 #[.val (.long p1), .second, .val (.int p2), .val (.int p3), .val (.int p4), .val (.int p5), .val (.int p6), .unset, .unset, .unset, .unset, .unset, .unset, .unset, .unset, .unset, .unset, .unset, .unset, .unset, .unset, .unset, .unset, .unset, .unset, .unset, .unset, .unset, .unset, .unset, .unset, .unset, .unset] [(.ref b1)]))
  refine Run.x_astore (q := 131) X20 hx #[.val (.long p1), .second, .val (.int p2), .val (.int p3), .val (.int p4), .val (.int p5), .val (.int p6), .val (.ref b1), .unset, .unset, .unset, .unset, .unset, .unset, .unset, .unset, .unset, .unset, .unset, .unset, .unset, .unset, .unset, .unset, .unset, .unset, .unset, .unset, .unset, .unset, .unset, .unset, .unset] (hb hby at_129) rfl rfl rfl ?_
  refine Run.x_lloadN (q := 132) X20 hx (hb hby at_131) rfl rfl ?_
  refine Run.st (B := T20.setTop (mkF m 135 #[.val (.long p1), .second, .val (.int p2), .val (.int p3), .val (.int p4), .val (.int p5), .val (.int p6), .val (.ref b1), .unset, .unset, .unset, .unset, .unset, .unset, .unset, .unset, .unset, .unset, .unset, .unset, .unset, .unset, .unset, .unset, .unset, .unset, .unset, .unset, .unset, .unset, .unset, .unset, .unset] [(.long (9223372036854775807 : Int64)), (.long p1)])) (fun t kt => X20.ldc2Long hx hown (mvT hZ (hw _ (List.mem_of_getElem? (i := 19) rfl))) (g := (mkF m 132 #[.val (.long p1), .second, .val (.int p2), .val (.int p3), .val (.int p4), .val (.int p5), .val (.int p6), .val (.ref b1), .unset, .unset, .unset, .unset, .unset, .unset, .unset, .unset, .unset, .unset, .unset, .unset, .unset, .unset, .unset, .unset, .unset, .unset, .unset, .unset, .unset, .unset, .unset, .unset, .unset] [(.long p1)])) rfl (hb hby at_132) _ kt) ?_
  refine Run.x_land (q := 136) X20 hx (hb hby at_135) rfl rfl ?_
  refine Run.x_lstore (q := 138) X20 hx #[.val (.long p1), .second, .val (.int p2), .val (.int p3), .val (.int p4), .val (.int p5), .val (.int p6), .val (.ref b1), .val (.long (p1 &&& (9223372036854775807 : Int64))), .second, .unset, .unset, .unset, .unset, .unset, .unset, .unset, .unset, .unset, .unset, .unset, .unset, .unset, .unset, .unset, .unset, .unset, .unset, .unset, .unset, .unset, .unset, .unset] (hb hby at_136) rfl rfl ?_
  generalize hww : (p1 &&& (9223372036854775807 : Int64)) = ww
  have hww0 := own_w hww
  replace A_b1 : Ars Z h20 b1 .long own_POW := A_b1
  refine Run.x_iloadN (q := 139) X20 hx (hb hby at_138) rfl rfl ?_
  refine Run.callS X20 hx hZ e20 (y := (⟨"org/tertiary/io/FieldsIntegerPinLaw", "drawn", "(I)B"⟩ : MethodName)) hown (hw _ (List.mem_of_getElem? (i := 20) rfl)) (hw _ (List.mem_of_getElem? (i := 21) rfl)) (hw _ (List.mem_of_getElem? (i := 22) rfl)) (hw _ (List.mem_of_getElem? (i := 23) rfl)) (by decide) (argsL := [(.int p3)]) (rest := []) (c_drawn l Z a0 hw p3 h20 n0 Z20) pd_0 rfl (by rw [hml]; rfl) (W := 0) rfl (by decide) (by decide) (by decide) (by decide) (hb hby at_139) rfl ?_
  intro T21 v21 L21 X21 q21
  obtain ⟨z21, rfl, M21, e21, hza21, hzb21⟩ := q21
  have N21 := Fr.app N20 M21
  show Run p e below s _ _ _ (T21.setTop (mkF m 142 #[.val (.long p1), .second, .val (.int p2), .val (.int p3), .val (.int p4), .val (.int p5), .val (.int p6), .val (.ref b1), .val (.long ww), .second, .unset, .unset, .unset, .unset, .unset, .unset, .unset, .unset, .unset, .unset, .unset, .unset, .unset, .unset, .unset, .unset, .unset, .unset, .unset, .unset, .unset, .unset, .unset] [(.int z21)]))
  refine Run.x_istore (q := 144) X21 hx #[.val (.long p1), .second, .val (.int p2), .val (.int p3), .val (.int p4), .val (.int p5), .val (.int p6), .val (.ref b1), .val (.long ww), .second, .val (.int z21), .unset, .unset, .unset, .unset, .unset, .unset, .unset, .unset, .unset, .unset, .unset, .unset, .unset, .unset, .unset, .unset, .unset, .unset, .unset, .unset, .unset, .unset] (hb hby at_142) rfl rfl ?_
  refine Run.x_iload (q := 146) X21 hx (hb hby at_144) rfl rfl ?_
  refine Run.callS X21 hx hZ e21 (y := (⟨"org/tertiary/io/FieldsIntegerPinLaw", "drawn", "(I)B"⟩ : MethodName)) hown (hw _ (List.mem_of_getElem? (i := 20) rfl)) (hw _ (List.mem_of_getElem? (i := 21) rfl)) (hw _ (List.mem_of_getElem? (i := 22) rfl)) (hw _ (List.mem_of_getElem? (i := 23) rfl)) (by decide) (argsL := [(.int p4)]) (rest := []) (c_drawn l Z a0 hw p4 h20 n0 Z20) pd_0 rfl (by rw [hml]; rfl) (W := 0) rfl (by decide) (by decide) (by decide) (by decide) (hb hby at_146) rfl ?_
  intro T22 v22 L22 X22 q22
  obtain ⟨z22, rfl, M22, e22, hza22, hzb22⟩ := q22
  have N22 := Fr.app N21 M22
  show Run p e below s _ _ _ (T22.setTop (mkF m 149 #[.val (.long p1), .second, .val (.int p2), .val (.int p3), .val (.int p4), .val (.int p5), .val (.int p6), .val (.ref b1), .val (.long ww), .second, .val (.int z21), .unset, .unset, .unset, .unset, .unset, .unset, .unset, .unset, .unset, .unset, .unset, .unset, .unset, .unset, .unset, .unset, .unset, .unset, .unset, .unset, .unset, .unset] [(.int z22)]))
  refine Run.x_istore (q := 151) X22 hx #[.val (.long p1), .second, .val (.int p2), .val (.int p3), .val (.int p4), .val (.int p5), .val (.int p6), .val (.ref b1), .val (.long ww), .second, .val (.int z21), .val (.int z22), .unset, .unset, .unset, .unset, .unset, .unset, .unset, .unset, .unset, .unset, .unset, .unset, .unset, .unset, .unset, .unset, .unset, .unset, .unset, .unset, .unset] (hb hby at_149) rfl rfl ?_
  refine Run.x_iload (q := 153) X22 hx (hb hby at_151) rfl rfl ?_
  refine Run.callS X22 hx hZ e22 (y := (⟨"org/tertiary/io/FieldsIntegerPinLaw", "drawn", "(I)B"⟩ : MethodName)) hown (hw _ (List.mem_of_getElem? (i := 20) rfl)) (hw _ (List.mem_of_getElem? (i := 21) rfl)) (hw _ (List.mem_of_getElem? (i := 22) rfl)) (hw _ (List.mem_of_getElem? (i := 23) rfl)) (by decide) (argsL := [(.int p5)]) (rest := []) (c_drawn l Z a0 hw p5 h20 n0 Z20) pd_0 rfl (by rw [hml]; rfl) (W := 0) rfl (by decide) (by decide) (by decide) (by decide) (hb hby at_153) rfl ?_
  intro T23 v23 L23 X23 q23
  obtain ⟨z23, rfl, M23, e23, hza23, hzb23⟩ := q23
  have N23 := Fr.app N22 M23
  show Run p e below s _ _ _ (T23.setTop (mkF m 156 #[.val (.long p1), .second, .val (.int p2), .val (.int p3), .val (.int p4), .val (.int p5), .val (.int p6), .val (.ref b1), .val (.long ww), .second, .val (.int z21), .val (.int z22), .unset, .unset, .unset, .unset, .unset, .unset, .unset, .unset, .unset, .unset, .unset, .unset, .unset, .unset, .unset, .unset, .unset, .unset, .unset, .unset, .unset] [(.int z23)]))
  refine Run.x_istore (q := 158) X23 hx #[.val (.long p1), .second, .val (.int p2), .val (.int p3), .val (.int p4), .val (.int p5), .val (.int p6), .val (.ref b1), .val (.long ww), .second, .val (.int z21), .val (.int z22), .val (.int z23), .unset, .unset, .unset, .unset, .unset, .unset, .unset, .unset, .unset, .unset, .unset, .unset, .unset, .unset, .unset, .unset, .unset, .unset, .unset, .unset] (hb hby at_156) rfl rfl ?_
  refine Run.x_bipush (q := 160) X23 hx (hb hby at_158) (z := (24 : Int32)) rfl rfl ?_
  refine Run.newP X23 hx hZ e23 (hw _ (List.mem_of_getElem? (i := 24) rfl)) (hb hby at_160) (len := 24) (by decide) (by decide) (cap := 24) (by decide) (by decide) (by decide) (by decide) ?_
  intro T24 h24 b24 gg24 X24 e24 E24 A_b24
  have g_b24 : n0 ≤ b24 := Nat.le_trans Z20 (Nat.le_of_eq gg24.symm)
  have ne_b1_b24 : b1 ≠ b24 := Nat.ne_of_lt (Nat.lt_of_lt_of_le A_b1.lt (Nat.le_of_eq gg24.symm))
  have Z24 : n0 ≤ h24.size := Nat.le_trans Z20 E24.1
  replace A_b24 : Ars Z h24 b24 .byte [(.int (0 : Int32)), (.int (0 : Int32)), (.int (0 : Int32)), (.int (0 : Int32)), (.int (0 : Int32)), (.int (0 : Int32)), (.int (0 : Int32)), (.int (0 : Int32)), (.int (0 : Int32)), (.int (0 : Int32)), (.int (0 : Int32)), (.int (0 : Int32)), (.int (0 : Int32)), (.int (0 : Int32)), (.int (0 : Int32)), (.int (0 : Int32)), (.int (0 : Int32)), (.int (0 : Int32)), (.int (0 : Int32)), (.int (0 : Int32)), (.int (0 : Int32)), (.int (0 : Int32)), (.int (0 : Int32)), (.int (0 : Int32))] := A_b24
  show Run p e below s _ _ _ (T24.setTop (mkF m 162 #[.val (.long p1), .second, .val (.int p2), .val (.int p3), .val (.int p4), .val (.int p5), .val (.int p6), .val (.ref b1), .val (.long ww), .second, .val (.int z21), .val (.int z22), .val (.int z23), .unset, .unset, .unset, .unset, .unset, .unset, .unset, .unset, .unset, .unset, .unset, .unset, .unset, .unset, .unset, .unset, .unset, .unset, .unset, .unset] [(.ref b24)]))
  refine Run.x_dup (q := 163) X24 hx (hb hby at_162) rfl rfl ?_
  refine Run.x_iconst (q := 164) X24 hx (hb hby at_163) (z := (0 : Int32)) rfl rfl ?_
  refine Run.x_iload (q := 166) X24 hx (hb hby at_164) rfl rfl ?_
  refine Run.x_i2b (q := 167) X24 hx (hb hby at_166) rfl rfl ?_
  refine Run.stB X24 hx hZ e24 A_b24 (i := 0) (by decide) (Nat.le_of_ble_eq_true rfl) (z' := p6.toInt8.toInt32) (nar_b _) (hb hby at_167) ?_
  intro T25 h25 X25 e25 W25 A25
  replace A_b24 : Ars Z h25 b24 .byte [(.int p6.toInt8.toInt32), (.int (0 : Int32)), (.int (0 : Int32)), (.int (0 : Int32)), (.int (0 : Int32)), (.int (0 : Int32)), (.int (0 : Int32)), (.int (0 : Int32)), (.int (0 : Int32)), (.int (0 : Int32)), (.int (0 : Int32)), (.int (0 : Int32)), (.int (0 : Int32)), (.int (0 : Int32)), (.int (0 : Int32)), (.int (0 : Int32)), (.int (0 : Int32)), (.int (0 : Int32)), (.int (0 : Int32)), (.int (0 : Int32)), (.int (0 : Int32)), (.int (0 : Int32)), (.int (0 : Int32)), (.int (0 : Int32))] := A25
  have N25 := Fr.snoc X25 N23 g_b24
  have Z25 : n0 ≤ h25.size := Nat.le_trans Z24 (Nat.le_of_eq W25.size.symm)
  show Run p e below s _ _ _ (T25.setTop (mkF m 168 #[.val (.long p1), .second, .val (.int p2), .val (.int p3), .val (.int p4), .val (.int p5), .val (.int p6), .val (.ref b1), .val (.long ww), .second, .val (.int z21), .val (.int z22), .val (.int z23), .unset, .unset, .unset, .unset, .unset, .unset, .unset, .unset, .unset, .unset, .unset, .unset, .unset, .unset, .unset, .unset, .unset, .unset, .unset, .unset] [(.ref b24)]))
  refine Run.x_dup (q := 169) X25 hx (hb hby at_168) rfl rfl ?_
  refine Run.x_iconst (q := 170) X25 hx (hb hby at_169) (z := (1 : Int32)) rfl rfl ?_
  refine Run.x_iload (q := 172) X25 hx (hb hby at_170) rfl rfl ?_
  refine Run.stB X25 hx hZ e25 A_b24 (i := 1) (by decide) (Nat.le_of_ble_eq_true rfl) (z' := z21) (own_byte hza21 hzb21) (hb hby at_172) ?_
  intro T26 h26 X26 e26 W26 A26
  replace A_b24 : Ars Z h26 b24 .byte [(.int p6.toInt8.toInt32), (.int z21), (.int (0 : Int32)), (.int (0 : Int32)), (.int (0 : Int32)), (.int (0 : Int32)), (.int (0 : Int32)), (.int (0 : Int32)), (.int (0 : Int32)), (.int (0 : Int32)), (.int (0 : Int32)), (.int (0 : Int32)), (.int (0 : Int32)), (.int (0 : Int32)), (.int (0 : Int32)), (.int (0 : Int32)), (.int (0 : Int32)), (.int (0 : Int32)), (.int (0 : Int32)), (.int (0 : Int32)), (.int (0 : Int32)), (.int (0 : Int32)), (.int (0 : Int32)), (.int (0 : Int32))] := A26
  have N26 := Fr.snoc X26 N25 g_b24
  have Z26 : n0 ≤ h26.size := Nat.le_trans Z25 (Nat.le_of_eq W26.size.symm)
  show Run p e below s _ _ _ (T26.setTop (mkF m 173 #[.val (.long p1), .second, .val (.int p2), .val (.int p3), .val (.int p4), .val (.int p5), .val (.int p6), .val (.ref b1), .val (.long ww), .second, .val (.int z21), .val (.int z22), .val (.int z23), .unset, .unset, .unset, .unset, .unset, .unset, .unset, .unset, .unset, .unset, .unset, .unset, .unset, .unset, .unset, .unset, .unset, .unset, .unset, .unset] [(.ref b24)]))
  refine Run.x_dup (q := 174) X26 hx (hb hby at_173) rfl rfl ?_
  refine Run.x_iconst (q := 175) X26 hx (hb hby at_174) (z := (2 : Int32)) rfl rfl ?_
  refine Run.x_lload (q := 177) X26 hx (hb hby at_175) rfl rfl ?_
  refine Run.x_aload (q := 179) X26 hx (hb hby at_177) rfl rfl rfl ?_
  refine Run.x_bipush (q := 181) X26 hx (hb hby at_179) (z := (18 : Int32)) rfl rfl ?_
  replace A_b1 := ((A_b1.ext E24).other W25 ne_b1_b24).other W26 ne_b1_b24
  refine Run.ldJ X26 hx hZ e26 A_b1 (i := 18) (v := (.long (1000000000000000000 : Int64))) (by decide) rfl (hb hby at_181) ?_
  show Run p e below s _ _ _ (T26.setTop (mkF m 182 #[.val (.long p1), .second, .val (.int p2), .val (.int p3), .val (.int p4), .val (.int p5), .val (.int p6), .val (.ref b1), .val (.long ww), .second, .val (.int z21), .val (.int z22), .val (.int z23), .unset, .unset, .unset, .unset, .unset, .unset, .unset, .unset, .unset, .unset, .unset, .unset, .unset, .unset, .unset, .unset, .unset, .unset, .unset, .unset] [(.long (1000000000000000000 : Int64)), (.long ww), (.int (2 : Int32)), (.ref b24), (.ref b24)]))
  refine Run.callS X26 hx hZ e26 (y := (⟨"org/tertiary/io/FieldsIntegerPinLaw", "dig", "(JJ)B"⟩ : MethodName)) hown (hw _ (List.mem_of_getElem? (i := 25) rfl)) (hw _ (List.mem_of_getElem? (i := 26) rfl)) (hw _ (List.mem_of_getElem? (i := 22) rfl)) (hw _ (List.mem_of_getElem? (i := 27) rfl)) (by decide) (argsL := [(.long ww), (.long (1000000000000000000 : Int64))]) (rest := [(.int (2 : Int32)), (.ref b24), (.ref b24)]) (c_dig l Z a0 hw ww (1000000000000000000 : Int64) h26 n0 Z26 hww0.1 (by decide) (by decide) (by decide)) pd_1 rfl (by rw [hml]; rfl) (W := 3) rfl (by decide) (by decide) (by decide) (by decide) (hb hby at_182) rfl ?_
  intro T27 v27 L27 X27 q27
  obtain ⟨z27, rfl, M27, e27, hz27⟩ := q27
  have N27 := Fr.app N26 M27
  show Run p e below s _ _ _ (T27.setTop (mkF m 185 #[.val (.long p1), .second, .val (.int p2), .val (.int p3), .val (.int p4), .val (.int p5), .val (.int p6), .val (.ref b1), .val (.long ww), .second, .val (.int z21), .val (.int z22), .val (.int z23), .unset, .unset, .unset, .unset, .unset, .unset, .unset, .unset, .unset, .unset, .unset, .unset, .unset, .unset, .unset, .unset, .unset, .unset, .unset, .unset] [(.int z27), (.int (2 : Int32)), (.ref b24), (.ref b24)]))
  refine Run.stB X27 hx hZ e27 A_b24 (i := 2) (by decide) (Nat.le_of_ble_eq_true rfl) (z' := z27) (own_bz hz27) (hb hby at_185) ?_
  intro T28 h28 X28 e28 W28 A28
  replace A_b24 : Ars Z h28 b24 .byte [(.int p6.toInt8.toInt32), (.int z21), (.int z27), (.int (0 : Int32)), (.int (0 : Int32)), (.int (0 : Int32)), (.int (0 : Int32)), (.int (0 : Int32)), (.int (0 : Int32)), (.int (0 : Int32)), (.int (0 : Int32)), (.int (0 : Int32)), (.int (0 : Int32)), (.int (0 : Int32)), (.int (0 : Int32)), (.int (0 : Int32)), (.int (0 : Int32)), (.int (0 : Int32)), (.int (0 : Int32)), (.int (0 : Int32)), (.int (0 : Int32)), (.int (0 : Int32)), (.int (0 : Int32)), (.int (0 : Int32))] := A28
  have N28 := Fr.snoc X28 N27 g_b24
  have Z28 : n0 ≤ h28.size := Nat.le_trans Z26 (Nat.le_of_eq W28.size.symm)
  show Run p e below s _ _ _ (T28.setTop (mkF m 186 #[.val (.long p1), .second, .val (.int p2), .val (.int p3), .val (.int p4), .val (.int p5), .val (.int p6), .val (.ref b1), .val (.long ww), .second, .val (.int z21), .val (.int z22), .val (.int z23), .unset, .unset, .unset, .unset, .unset, .unset, .unset, .unset, .unset, .unset, .unset, .unset, .unset, .unset, .unset, .unset, .unset, .unset, .unset, .unset] [(.ref b24)]))
  refine Run.x_dup (q := 187) X28 hx (hb hby at_186) rfl rfl ?_
  refine Run.x_iconst (q := 188) X28 hx (hb hby at_187) (z := (3 : Int32)) rfl rfl ?_
  refine Run.x_lload (q := 190) X28 hx (hb hby at_188) rfl rfl ?_
  refine Run.x_aload (q := 192) X28 hx (hb hby at_190) rfl rfl rfl ?_
  refine Run.x_bipush (q := 194) X28 hx (hb hby at_192) (z := (17 : Int32)) rfl rfl ?_
  replace A_b1 := A_b1.other W28 ne_b1_b24
  refine Run.ldJ X28 hx hZ e28 A_b1 (i := 17) (v := (.long (100000000000000000 : Int64))) (by decide) rfl (hb hby at_194) ?_
  show Run p e below s _ _ _ (T28.setTop (mkF m 195 #[.val (.long p1), .second, .val (.int p2), .val (.int p3), .val (.int p4), .val (.int p5), .val (.int p6), .val (.ref b1), .val (.long ww), .second, .val (.int z21), .val (.int z22), .val (.int z23), .unset, .unset, .unset, .unset, .unset, .unset, .unset, .unset, .unset, .unset, .unset, .unset, .unset, .unset, .unset, .unset, .unset, .unset, .unset, .unset] [(.long (100000000000000000 : Int64)), (.long ww), (.int (3 : Int32)), (.ref b24), (.ref b24)]))
  refine Run.callS X28 hx hZ e28 (y := (⟨"org/tertiary/io/FieldsIntegerPinLaw", "dig", "(JJ)B"⟩ : MethodName)) hown (hw _ (List.mem_of_getElem? (i := 25) rfl)) (hw _ (List.mem_of_getElem? (i := 26) rfl)) (hw _ (List.mem_of_getElem? (i := 22) rfl)) (hw _ (List.mem_of_getElem? (i := 27) rfl)) (by decide) (argsL := [(.long ww), (.long (100000000000000000 : Int64))]) (rest := [(.int (3 : Int32)), (.ref b24), (.ref b24)]) (c_dig l Z a0 hw ww (100000000000000000 : Int64) h28 n0 Z28 hww0.1 (by decide) (by decide) (by decide)) pd_1 rfl (by rw [hml]; rfl) (W := 3) rfl (by decide) (by decide) (by decide) (by decide) (hb hby at_195) rfl ?_
  intro T29 v29 L29 X29 q29
  obtain ⟨z29, rfl, M29, e29, hz29⟩ := q29
  have N29 := Fr.app N28 M29
  show Run p e below s _ _ _ (T29.setTop (mkF m 198 #[.val (.long p1), .second, .val (.int p2), .val (.int p3), .val (.int p4), .val (.int p5), .val (.int p6), .val (.ref b1), .val (.long ww), .second, .val (.int z21), .val (.int z22), .val (.int z23), .unset, .unset, .unset, .unset, .unset, .unset, .unset, .unset, .unset, .unset, .unset, .unset, .unset, .unset, .unset, .unset, .unset, .unset, .unset, .unset] [(.int z29), (.int (3 : Int32)), (.ref b24), (.ref b24)]))
  refine Run.stB X29 hx hZ e29 A_b24 (i := 3) (by decide) (Nat.le_of_ble_eq_true rfl) (z' := z29) (own_bz hz29) (hb hby at_198) ?_
  intro T30 h30 X30 e30 W30 A30
  replace A_b24 : Ars Z h30 b24 .byte [(.int p6.toInt8.toInt32), (.int z21), (.int z27), (.int z29), (.int (0 : Int32)), (.int (0 : Int32)), (.int (0 : Int32)), (.int (0 : Int32)), (.int (0 : Int32)), (.int (0 : Int32)), (.int (0 : Int32)), (.int (0 : Int32)), (.int (0 : Int32)), (.int (0 : Int32)), (.int (0 : Int32)), (.int (0 : Int32)), (.int (0 : Int32)), (.int (0 : Int32)), (.int (0 : Int32)), (.int (0 : Int32)), (.int (0 : Int32)), (.int (0 : Int32)), (.int (0 : Int32)), (.int (0 : Int32))] := A30
  have N30 := Fr.snoc X30 N29 g_b24
  have Z30 : n0 ≤ h30.size := Nat.le_trans Z28 (Nat.le_of_eq W30.size.symm)
  show Run p e below s _ _ _ (T30.setTop (mkF m 199 #[.val (.long p1), .second, .val (.int p2), .val (.int p3), .val (.int p4), .val (.int p5), .val (.int p6), .val (.ref b1), .val (.long ww), .second, .val (.int z21), .val (.int z22), .val (.int z23), .unset, .unset, .unset, .unset, .unset, .unset, .unset, .unset, .unset, .unset, .unset, .unset, .unset, .unset, .unset, .unset, .unset, .unset, .unset, .unset] [(.ref b24)]))
  refine Run.x_dup (q := 200) X30 hx (hb hby at_199) rfl rfl ?_
  refine Run.x_iconst (q := 201) X30 hx (hb hby at_200) (z := (4 : Int32)) rfl rfl ?_
  refine Run.x_lload (q := 203) X30 hx (hb hby at_201) rfl rfl ?_
  refine Run.x_aload (q := 205) X30 hx (hb hby at_203) rfl rfl rfl ?_
  refine Run.x_bipush (q := 207) X30 hx (hb hby at_205) (z := (16 : Int32)) rfl rfl ?_
  replace A_b1 := A_b1.other W30 ne_b1_b24
  refine Run.ldJ X30 hx hZ e30 A_b1 (i := 16) (v := (.long (10000000000000000 : Int64))) (by decide) rfl (hb hby at_207) ?_
  show Run p e below s _ _ _ (T30.setTop (mkF m 208 #[.val (.long p1), .second, .val (.int p2), .val (.int p3), .val (.int p4), .val (.int p5), .val (.int p6), .val (.ref b1), .val (.long ww), .second, .val (.int z21), .val (.int z22), .val (.int z23), .unset, .unset, .unset, .unset, .unset, .unset, .unset, .unset, .unset, .unset, .unset, .unset, .unset, .unset, .unset, .unset, .unset, .unset, .unset, .unset] [(.long (10000000000000000 : Int64)), (.long ww), (.int (4 : Int32)), (.ref b24), (.ref b24)]))
  refine Run.callS X30 hx hZ e30 (y := (⟨"org/tertiary/io/FieldsIntegerPinLaw", "dig", "(JJ)B"⟩ : MethodName)) hown (hw _ (List.mem_of_getElem? (i := 25) rfl)) (hw _ (List.mem_of_getElem? (i := 26) rfl)) (hw _ (List.mem_of_getElem? (i := 22) rfl)) (hw _ (List.mem_of_getElem? (i := 27) rfl)) (by decide) (argsL := [(.long ww), (.long (10000000000000000 : Int64))]) (rest := [(.int (4 : Int32)), (.ref b24), (.ref b24)]) (c_dig l Z a0 hw ww (10000000000000000 : Int64) h30 n0 Z30 hww0.1 (by decide) (by decide) (by decide)) pd_1 rfl (by rw [hml]; rfl) (W := 3) rfl (by decide) (by decide) (by decide) (by decide) (hb hby at_208) rfl ?_
  intro T31 v31 L31 X31 q31
  obtain ⟨z31, rfl, M31, e31, hz31⟩ := q31
  have N31 := Fr.app N30 M31
  show Run p e below s _ _ _ (T31.setTop (mkF m 211 #[.val (.long p1), .second, .val (.int p2), .val (.int p3), .val (.int p4), .val (.int p5), .val (.int p6), .val (.ref b1), .val (.long ww), .second, .val (.int z21), .val (.int z22), .val (.int z23), .unset, .unset, .unset, .unset, .unset, .unset, .unset, .unset, .unset, .unset, .unset, .unset, .unset, .unset, .unset, .unset, .unset, .unset, .unset, .unset] [(.int z31), (.int (4 : Int32)), (.ref b24), (.ref b24)]))
  refine Run.stB X31 hx hZ e31 A_b24 (i := 4) (by decide) (Nat.le_of_ble_eq_true rfl) (z' := z31) (own_bz hz31) (hb hby at_211) ?_
  intro T32 h32 X32 e32 W32 A32
  replace A_b24 : Ars Z h32 b24 .byte [(.int p6.toInt8.toInt32), (.int z21), (.int z27), (.int z29), (.int z31), (.int (0 : Int32)), (.int (0 : Int32)), (.int (0 : Int32)), (.int (0 : Int32)), (.int (0 : Int32)), (.int (0 : Int32)), (.int (0 : Int32)), (.int (0 : Int32)), (.int (0 : Int32)), (.int (0 : Int32)), (.int (0 : Int32)), (.int (0 : Int32)), (.int (0 : Int32)), (.int (0 : Int32)), (.int (0 : Int32)), (.int (0 : Int32)), (.int (0 : Int32)), (.int (0 : Int32)), (.int (0 : Int32))] := A32
  have N32 := Fr.snoc X32 N31 g_b24
  have Z32 : n0 ≤ h32.size := Nat.le_trans Z30 (Nat.le_of_eq W32.size.symm)
  show Run p e below s _ _ _ (T32.setTop (mkF m 212 #[.val (.long p1), .second, .val (.int p2), .val (.int p3), .val (.int p4), .val (.int p5), .val (.int p6), .val (.ref b1), .val (.long ww), .second, .val (.int z21), .val (.int z22), .val (.int z23), .unset, .unset, .unset, .unset, .unset, .unset, .unset, .unset, .unset, .unset, .unset, .unset, .unset, .unset, .unset, .unset, .unset, .unset, .unset, .unset] [(.ref b24)]))
  refine Run.x_dup (q := 213) X32 hx (hb hby at_212) rfl rfl ?_
  refine Run.x_iconst (q := 214) X32 hx (hb hby at_213) (z := (5 : Int32)) rfl rfl ?_
  refine Run.x_lload (q := 216) X32 hx (hb hby at_214) rfl rfl ?_
  refine Run.x_aload (q := 218) X32 hx (hb hby at_216) rfl rfl rfl ?_
  refine Run.x_bipush (q := 220) X32 hx (hb hby at_218) (z := (15 : Int32)) rfl rfl ?_
  replace A_b1 := A_b1.other W32 ne_b1_b24
  refine Run.ldJ X32 hx hZ e32 A_b1 (i := 15) (v := (.long (1000000000000000 : Int64))) (by decide) rfl (hb hby at_220) ?_
  show Run p e below s _ _ _ (T32.setTop (mkF m 221 #[.val (.long p1), .second, .val (.int p2), .val (.int p3), .val (.int p4), .val (.int p5), .val (.int p6), .val (.ref b1), .val (.long ww), .second, .val (.int z21), .val (.int z22), .val (.int z23), .unset, .unset, .unset, .unset, .unset, .unset, .unset, .unset, .unset, .unset, .unset, .unset, .unset, .unset, .unset, .unset, .unset, .unset, .unset, .unset] [(.long (1000000000000000 : Int64)), (.long ww), (.int (5 : Int32)), (.ref b24), (.ref b24)]))
  refine Run.callS X32 hx hZ e32 (y := (⟨"org/tertiary/io/FieldsIntegerPinLaw", "dig", "(JJ)B"⟩ : MethodName)) hown (hw _ (List.mem_of_getElem? (i := 25) rfl)) (hw _ (List.mem_of_getElem? (i := 26) rfl)) (hw _ (List.mem_of_getElem? (i := 22) rfl)) (hw _ (List.mem_of_getElem? (i := 27) rfl)) (by decide) (argsL := [(.long ww), (.long (1000000000000000 : Int64))]) (rest := [(.int (5 : Int32)), (.ref b24), (.ref b24)]) (c_dig l Z a0 hw ww (1000000000000000 : Int64) h32 n0 Z32 hww0.1 (by decide) (by decide) (by decide)) pd_1 rfl (by rw [hml]; rfl) (W := 3) rfl (by decide) (by decide) (by decide) (by decide) (hb hby at_221) rfl ?_
  intro T33 v33 L33 X33 q33
  obtain ⟨z33, rfl, M33, e33, hz33⟩ := q33
  have N33 := Fr.app N32 M33
  show Run p e below s _ _ _ (T33.setTop (mkF m 224 #[.val (.long p1), .second, .val (.int p2), .val (.int p3), .val (.int p4), .val (.int p5), .val (.int p6), .val (.ref b1), .val (.long ww), .second, .val (.int z21), .val (.int z22), .val (.int z23), .unset, .unset, .unset, .unset, .unset, .unset, .unset, .unset, .unset, .unset, .unset, .unset, .unset, .unset, .unset, .unset, .unset, .unset, .unset, .unset] [(.int z33), (.int (5 : Int32)), (.ref b24), (.ref b24)]))
  refine Run.stB X33 hx hZ e33 A_b24 (i := 5) (by decide) (Nat.le_of_ble_eq_true rfl) (z' := z33) (own_bz hz33) (hb hby at_224) ?_
  intro T34 h34 X34 e34 W34 A34
  replace A_b24 : Ars Z h34 b24 .byte [(.int p6.toInt8.toInt32), (.int z21), (.int z27), (.int z29), (.int z31), (.int z33), (.int (0 : Int32)), (.int (0 : Int32)), (.int (0 : Int32)), (.int (0 : Int32)), (.int (0 : Int32)), (.int (0 : Int32)), (.int (0 : Int32)), (.int (0 : Int32)), (.int (0 : Int32)), (.int (0 : Int32)), (.int (0 : Int32)), (.int (0 : Int32)), (.int (0 : Int32)), (.int (0 : Int32)), (.int (0 : Int32)), (.int (0 : Int32)), (.int (0 : Int32)), (.int (0 : Int32))] := A34
  have N34 := Fr.snoc X34 N33 g_b24
  have Z34 : n0 ≤ h34.size := Nat.le_trans Z32 (Nat.le_of_eq W34.size.symm)
  show Run p e below s _ _ _ (T34.setTop (mkF m 225 #[.val (.long p1), .second, .val (.int p2), .val (.int p3), .val (.int p4), .val (.int p5), .val (.int p6), .val (.ref b1), .val (.long ww), .second, .val (.int z21), .val (.int z22), .val (.int z23), .unset, .unset, .unset, .unset, .unset, .unset, .unset, .unset, .unset, .unset, .unset, .unset, .unset, .unset, .unset, .unset, .unset, .unset, .unset, .unset] [(.ref b24)]))
  refine Run.x_dup (q := 226) X34 hx (hb hby at_225) rfl rfl ?_
  refine Run.x_bipush (q := 228) X34 hx (hb hby at_226) (z := (6 : Int32)) rfl rfl ?_
  refine Run.x_lload (q := 230) X34 hx (hb hby at_228) rfl rfl ?_
  refine Run.x_aload (q := 232) X34 hx (hb hby at_230) rfl rfl rfl ?_
  refine Run.x_bipush (q := 234) X34 hx (hb hby at_232) (z := (14 : Int32)) rfl rfl ?_
  replace A_b1 := A_b1.other W34 ne_b1_b24
  refine Run.ldJ X34 hx hZ e34 A_b1 (i := 14) (v := (.long (100000000000000 : Int64))) (by decide) rfl (hb hby at_234) ?_
  show Run p e below s _ _ _ (T34.setTop (mkF m 235 #[.val (.long p1), .second, .val (.int p2), .val (.int p3), .val (.int p4), .val (.int p5), .val (.int p6), .val (.ref b1), .val (.long ww), .second, .val (.int z21), .val (.int z22), .val (.int z23), .unset, .unset, .unset, .unset, .unset, .unset, .unset, .unset, .unset, .unset, .unset, .unset, .unset, .unset, .unset, .unset, .unset, .unset, .unset, .unset] [(.long (100000000000000 : Int64)), (.long ww), (.int (6 : Int32)), (.ref b24), (.ref b24)]))
  refine Run.callS X34 hx hZ e34 (y := (⟨"org/tertiary/io/FieldsIntegerPinLaw", "dig", "(JJ)B"⟩ : MethodName)) hown (hw _ (List.mem_of_getElem? (i := 25) rfl)) (hw _ (List.mem_of_getElem? (i := 26) rfl)) (hw _ (List.mem_of_getElem? (i := 22) rfl)) (hw _ (List.mem_of_getElem? (i := 27) rfl)) (by decide) (argsL := [(.long ww), (.long (100000000000000 : Int64))]) (rest := [(.int (6 : Int32)), (.ref b24), (.ref b24)]) (c_dig l Z a0 hw ww (100000000000000 : Int64) h34 n0 Z34 hww0.1 (by decide) (by decide) (by decide)) pd_1 rfl (by rw [hml]; rfl) (W := 3) rfl (by decide) (by decide) (by decide) (by decide) (hb hby at_235) rfl ?_
  intro T35 v35 L35 X35 q35
  obtain ⟨z35, rfl, M35, e35, hz35⟩ := q35
  have N35 := Fr.app N34 M35
  show Run p e below s _ _ _ (T35.setTop (mkF m 238 #[.val (.long p1), .second, .val (.int p2), .val (.int p3), .val (.int p4), .val (.int p5), .val (.int p6), .val (.ref b1), .val (.long ww), .second, .val (.int z21), .val (.int z22), .val (.int z23), .unset, .unset, .unset, .unset, .unset, .unset, .unset, .unset, .unset, .unset, .unset, .unset, .unset, .unset, .unset, .unset, .unset, .unset, .unset, .unset] [(.int z35), (.int (6 : Int32)), (.ref b24), (.ref b24)]))
  refine Run.stB X35 hx hZ e35 A_b24 (i := 6) (by decide) (Nat.le_of_ble_eq_true rfl) (z' := z35) (own_bz hz35) (hb hby at_238) ?_
  intro T36 h36 X36 e36 W36 A36
  replace A_b24 : Ars Z h36 b24 .byte [(.int p6.toInt8.toInt32), (.int z21), (.int z27), (.int z29), (.int z31), (.int z33), (.int z35), (.int (0 : Int32)), (.int (0 : Int32)), (.int (0 : Int32)), (.int (0 : Int32)), (.int (0 : Int32)), (.int (0 : Int32)), (.int (0 : Int32)), (.int (0 : Int32)), (.int (0 : Int32)), (.int (0 : Int32)), (.int (0 : Int32)), (.int (0 : Int32)), (.int (0 : Int32)), (.int (0 : Int32)), (.int (0 : Int32)), (.int (0 : Int32)), (.int (0 : Int32))] := A36
  have N36 := Fr.snoc X36 N35 g_b24
  have Z36 : n0 ≤ h36.size := Nat.le_trans Z34 (Nat.le_of_eq W36.size.symm)
  show Run p e below s _ _ _ (T36.setTop (mkF m 239 #[.val (.long p1), .second, .val (.int p2), .val (.int p3), .val (.int p4), .val (.int p5), .val (.int p6), .val (.ref b1), .val (.long ww), .second, .val (.int z21), .val (.int z22), .val (.int z23), .unset, .unset, .unset, .unset, .unset, .unset, .unset, .unset, .unset, .unset, .unset, .unset, .unset, .unset, .unset, .unset, .unset, .unset, .unset, .unset] [(.ref b24)]))
  refine Run.x_dup (q := 240) X36 hx (hb hby at_239) rfl rfl ?_
  refine Run.x_bipush (q := 242) X36 hx (hb hby at_240) (z := (7 : Int32)) rfl rfl ?_
  refine Run.x_lload (q := 244) X36 hx (hb hby at_242) rfl rfl ?_
  refine Run.x_aload (q := 246) X36 hx (hb hby at_244) rfl rfl rfl ?_
  refine Run.x_bipush (q := 248) X36 hx (hb hby at_246) (z := (13 : Int32)) rfl rfl ?_
  replace A_b1 := A_b1.other W36 ne_b1_b24
  refine Run.ldJ X36 hx hZ e36 A_b1 (i := 13) (v := (.long (10000000000000 : Int64))) (by decide) rfl (hb hby at_248) ?_
  show Run p e below s _ _ _ (T36.setTop (mkF m 249 #[.val (.long p1), .second, .val (.int p2), .val (.int p3), .val (.int p4), .val (.int p5), .val (.int p6), .val (.ref b1), .val (.long ww), .second, .val (.int z21), .val (.int z22), .val (.int z23), .unset, .unset, .unset, .unset, .unset, .unset, .unset, .unset, .unset, .unset, .unset, .unset, .unset, .unset, .unset, .unset, .unset, .unset, .unset, .unset] [(.long (10000000000000 : Int64)), (.long ww), (.int (7 : Int32)), (.ref b24), (.ref b24)]))
  refine Run.callS X36 hx hZ e36 (y := (⟨"org/tertiary/io/FieldsIntegerPinLaw", "dig", "(JJ)B"⟩ : MethodName)) hown (hw _ (List.mem_of_getElem? (i := 25) rfl)) (hw _ (List.mem_of_getElem? (i := 26) rfl)) (hw _ (List.mem_of_getElem? (i := 22) rfl)) (hw _ (List.mem_of_getElem? (i := 27) rfl)) (by decide) (argsL := [(.long ww), (.long (10000000000000 : Int64))]) (rest := [(.int (7 : Int32)), (.ref b24), (.ref b24)]) (c_dig l Z a0 hw ww (10000000000000 : Int64) h36 n0 Z36 hww0.1 (by decide) (by decide) (by decide)) pd_1 rfl (by rw [hml]; rfl) (W := 3) rfl (by decide) (by decide) (by decide) (by decide) (hb hby at_249) rfl ?_
  intro T37 v37 L37 X37 q37
  obtain ⟨z37, rfl, M37, e37, hz37⟩ := q37
  have N37 := Fr.app N36 M37
  show Run p e below s _ _ _ (T37.setTop (mkF m 252 #[.val (.long p1), .second, .val (.int p2), .val (.int p3), .val (.int p4), .val (.int p5), .val (.int p6), .val (.ref b1), .val (.long ww), .second, .val (.int z21), .val (.int z22), .val (.int z23), .unset, .unset, .unset, .unset, .unset, .unset, .unset, .unset, .unset, .unset, .unset, .unset, .unset, .unset, .unset, .unset, .unset, .unset, .unset, .unset] [(.int z37), (.int (7 : Int32)), (.ref b24), (.ref b24)]))
  refine Run.stB X37 hx hZ e37 A_b24 (i := 7) (by decide) (Nat.le_of_ble_eq_true rfl) (z' := z37) (own_bz hz37) (hb hby at_252) ?_
  intro T38 h38 X38 e38 W38 A38
  replace A_b24 : Ars Z h38 b24 .byte [(.int p6.toInt8.toInt32), (.int z21), (.int z27), (.int z29), (.int z31), (.int z33), (.int z35), (.int z37), (.int (0 : Int32)), (.int (0 : Int32)), (.int (0 : Int32)), (.int (0 : Int32)), (.int (0 : Int32)), (.int (0 : Int32)), (.int (0 : Int32)), (.int (0 : Int32)), (.int (0 : Int32)), (.int (0 : Int32)), (.int (0 : Int32)), (.int (0 : Int32)), (.int (0 : Int32)), (.int (0 : Int32)), (.int (0 : Int32)), (.int (0 : Int32))] := A38
  have N38 := Fr.snoc X38 N37 g_b24
  have Z38 : n0 ≤ h38.size := Nat.le_trans Z36 (Nat.le_of_eq W38.size.symm)
  show Run p e below s _ _ _ (T38.setTop (mkF m 253 #[.val (.long p1), .second, .val (.int p2), .val (.int p3), .val (.int p4), .val (.int p5), .val (.int p6), .val (.ref b1), .val (.long ww), .second, .val (.int z21), .val (.int z22), .val (.int z23), .unset, .unset, .unset, .unset, .unset, .unset, .unset, .unset, .unset, .unset, .unset, .unset, .unset, .unset, .unset, .unset, .unset, .unset, .unset, .unset] [(.ref b24)]))
  refine Run.x_dup (q := 254) X38 hx (hb hby at_253) rfl rfl ?_
  refine Run.x_bipush (q := 256) X38 hx (hb hby at_254) (z := (8 : Int32)) rfl rfl ?_
  refine Run.x_lload (q := 258) X38 hx (hb hby at_256) rfl rfl ?_
  refine Run.x_aload (q := 260) X38 hx (hb hby at_258) rfl rfl rfl ?_
  refine Run.x_bipush (q := 262) X38 hx (hb hby at_260) (z := (12 : Int32)) rfl rfl ?_
  replace A_b1 := A_b1.other W38 ne_b1_b24
  refine Run.ldJ X38 hx hZ e38 A_b1 (i := 12) (v := (.long (1000000000000 : Int64))) (by decide) rfl (hb hby at_262) ?_
  show Run p e below s _ _ _ (T38.setTop (mkF m 263 #[.val (.long p1), .second, .val (.int p2), .val (.int p3), .val (.int p4), .val (.int p5), .val (.int p6), .val (.ref b1), .val (.long ww), .second, .val (.int z21), .val (.int z22), .val (.int z23), .unset, .unset, .unset, .unset, .unset, .unset, .unset, .unset, .unset, .unset, .unset, .unset, .unset, .unset, .unset, .unset, .unset, .unset, .unset, .unset] [(.long (1000000000000 : Int64)), (.long ww), (.int (8 : Int32)), (.ref b24), (.ref b24)]))
  refine Run.callS X38 hx hZ e38 (y := (⟨"org/tertiary/io/FieldsIntegerPinLaw", "dig", "(JJ)B"⟩ : MethodName)) hown (hw _ (List.mem_of_getElem? (i := 25) rfl)) (hw _ (List.mem_of_getElem? (i := 26) rfl)) (hw _ (List.mem_of_getElem? (i := 22) rfl)) (hw _ (List.mem_of_getElem? (i := 27) rfl)) (by decide) (argsL := [(.long ww), (.long (1000000000000 : Int64))]) (rest := [(.int (8 : Int32)), (.ref b24), (.ref b24)]) (c_dig l Z a0 hw ww (1000000000000 : Int64) h38 n0 Z38 hww0.1 (by decide) (by decide) (by decide)) pd_1 rfl (by rw [hml]; rfl) (W := 3) rfl (by decide) (by decide) (by decide) (by decide) (hb hby at_263) rfl ?_
  intro T39 v39 L39 X39 q39
  obtain ⟨z39, rfl, M39, e39, hz39⟩ := q39
  have N39 := Fr.app N38 M39
  show Run p e below s _ _ _ (T39.setTop (mkF m 266 #[.val (.long p1), .second, .val (.int p2), .val (.int p3), .val (.int p4), .val (.int p5), .val (.int p6), .val (.ref b1), .val (.long ww), .second, .val (.int z21), .val (.int z22), .val (.int z23), .unset, .unset, .unset, .unset, .unset, .unset, .unset, .unset, .unset, .unset, .unset, .unset, .unset, .unset, .unset, .unset, .unset, .unset, .unset, .unset] [(.int z39), (.int (8 : Int32)), (.ref b24), (.ref b24)]))
  refine Run.stB X39 hx hZ e39 A_b24 (i := 8) (by decide) (Nat.le_of_ble_eq_true rfl) (z' := z39) (own_bz hz39) (hb hby at_266) ?_
  intro T40 h40 X40 e40 W40 A40
  replace A_b24 : Ars Z h40 b24 .byte [(.int p6.toInt8.toInt32), (.int z21), (.int z27), (.int z29), (.int z31), (.int z33), (.int z35), (.int z37), (.int z39), (.int (0 : Int32)), (.int (0 : Int32)), (.int (0 : Int32)), (.int (0 : Int32)), (.int (0 : Int32)), (.int (0 : Int32)), (.int (0 : Int32)), (.int (0 : Int32)), (.int (0 : Int32)), (.int (0 : Int32)), (.int (0 : Int32)), (.int (0 : Int32)), (.int (0 : Int32)), (.int (0 : Int32)), (.int (0 : Int32))] := A40
  have N40 := Fr.snoc X40 N39 g_b24
  have Z40 : n0 ≤ h40.size := Nat.le_trans Z38 (Nat.le_of_eq W40.size.symm)
  show Run p e below s _ _ _ (T40.setTop (mkF m 267 #[.val (.long p1), .second, .val (.int p2), .val (.int p3), .val (.int p4), .val (.int p5), .val (.int p6), .val (.ref b1), .val (.long ww), .second, .val (.int z21), .val (.int z22), .val (.int z23), .unset, .unset, .unset, .unset, .unset, .unset, .unset, .unset, .unset, .unset, .unset, .unset, .unset, .unset, .unset, .unset, .unset, .unset, .unset, .unset] [(.ref b24)]))
  refine Run.x_dup (q := 268) X40 hx (hb hby at_267) rfl rfl ?_
  refine Run.x_bipush (q := 270) X40 hx (hb hby at_268) (z := (9 : Int32)) rfl rfl ?_
  refine Run.x_lload (q := 272) X40 hx (hb hby at_270) rfl rfl ?_
  refine Run.x_aload (q := 274) X40 hx (hb hby at_272) rfl rfl rfl ?_
  refine Run.x_bipush (q := 276) X40 hx (hb hby at_274) (z := (11 : Int32)) rfl rfl ?_
  replace A_b1 := A_b1.other W40 ne_b1_b24
  refine Run.ldJ X40 hx hZ e40 A_b1 (i := 11) (v := (.long (100000000000 : Int64))) (by decide) rfl (hb hby at_276) ?_
  show Run p e below s _ _ _ (T40.setTop (mkF m 277 #[.val (.long p1), .second, .val (.int p2), .val (.int p3), .val (.int p4), .val (.int p5), .val (.int p6), .val (.ref b1), .val (.long ww), .second, .val (.int z21), .val (.int z22), .val (.int z23), .unset, .unset, .unset, .unset, .unset, .unset, .unset, .unset, .unset, .unset, .unset, .unset, .unset, .unset, .unset, .unset, .unset, .unset, .unset, .unset] [(.long (100000000000 : Int64)), (.long ww), (.int (9 : Int32)), (.ref b24), (.ref b24)]))
  refine Run.callS X40 hx hZ e40 (y := (⟨"org/tertiary/io/FieldsIntegerPinLaw", "dig", "(JJ)B"⟩ : MethodName)) hown (hw _ (List.mem_of_getElem? (i := 25) rfl)) (hw _ (List.mem_of_getElem? (i := 26) rfl)) (hw _ (List.mem_of_getElem? (i := 22) rfl)) (hw _ (List.mem_of_getElem? (i := 27) rfl)) (by decide) (argsL := [(.long ww), (.long (100000000000 : Int64))]) (rest := [(.int (9 : Int32)), (.ref b24), (.ref b24)]) (c_dig l Z a0 hw ww (100000000000 : Int64) h40 n0 Z40 hww0.1 (by decide) (by decide) (by decide)) pd_1 rfl (by rw [hml]; rfl) (W := 3) rfl (by decide) (by decide) (by decide) (by decide) (hb hby at_277) rfl ?_
  intro T41 v41 L41 X41 q41
  obtain ⟨z41, rfl, M41, e41, hz41⟩ := q41
  have N41 := Fr.app N40 M41
  show Run p e below s _ _ _ (T41.setTop (mkF m 280 #[.val (.long p1), .second, .val (.int p2), .val (.int p3), .val (.int p4), .val (.int p5), .val (.int p6), .val (.ref b1), .val (.long ww), .second, .val (.int z21), .val (.int z22), .val (.int z23), .unset, .unset, .unset, .unset, .unset, .unset, .unset, .unset, .unset, .unset, .unset, .unset, .unset, .unset, .unset, .unset, .unset, .unset, .unset, .unset] [(.int z41), (.int (9 : Int32)), (.ref b24), (.ref b24)]))
  refine Run.stB X41 hx hZ e41 A_b24 (i := 9) (by decide) (Nat.le_of_ble_eq_true rfl) (z' := z41) (own_bz hz41) (hb hby at_280) ?_
  intro T42 h42 X42 e42 W42 A42
  replace A_b24 : Ars Z h42 b24 .byte [(.int p6.toInt8.toInt32), (.int z21), (.int z27), (.int z29), (.int z31), (.int z33), (.int z35), (.int z37), (.int z39), (.int z41), (.int (0 : Int32)), (.int (0 : Int32)), (.int (0 : Int32)), (.int (0 : Int32)), (.int (0 : Int32)), (.int (0 : Int32)), (.int (0 : Int32)), (.int (0 : Int32)), (.int (0 : Int32)), (.int (0 : Int32)), (.int (0 : Int32)), (.int (0 : Int32)), (.int (0 : Int32)), (.int (0 : Int32))] := A42
  have N42 := Fr.snoc X42 N41 g_b24
  have Z42 : n0 ≤ h42.size := Nat.le_trans Z40 (Nat.le_of_eq W42.size.symm)
  show Run p e below s _ _ _ (T42.setTop (mkF m 281 #[.val (.long p1), .second, .val (.int p2), .val (.int p3), .val (.int p4), .val (.int p5), .val (.int p6), .val (.ref b1), .val (.long ww), .second, .val (.int z21), .val (.int z22), .val (.int z23), .unset, .unset, .unset, .unset, .unset, .unset, .unset, .unset, .unset, .unset, .unset, .unset, .unset, .unset, .unset, .unset, .unset, .unset, .unset, .unset] [(.ref b24)]))
  refine Run.x_dup (q := 282) X42 hx (hb hby at_281) rfl rfl ?_
  refine Run.x_bipush (q := 284) X42 hx (hb hby at_282) (z := (10 : Int32)) rfl rfl ?_
  refine Run.x_lload (q := 286) X42 hx (hb hby at_284) rfl rfl ?_
  refine Run.x_aload (q := 288) X42 hx (hb hby at_286) rfl rfl rfl ?_
  refine Run.x_bipush (q := 290) X42 hx (hb hby at_288) (z := (10 : Int32)) rfl rfl ?_
  replace A_b1 := A_b1.other W42 ne_b1_b24
  refine Run.ldJ X42 hx hZ e42 A_b1 (i := 10) (v := (.long (10000000000 : Int64))) (by decide) rfl (hb hby at_290) ?_
  show Run p e below s _ _ _ (T42.setTop (mkF m 291 #[.val (.long p1), .second, .val (.int p2), .val (.int p3), .val (.int p4), .val (.int p5), .val (.int p6), .val (.ref b1), .val (.long ww), .second, .val (.int z21), .val (.int z22), .val (.int z23), .unset, .unset, .unset, .unset, .unset, .unset, .unset, .unset, .unset, .unset, .unset, .unset, .unset, .unset, .unset, .unset, .unset, .unset, .unset, .unset] [(.long (10000000000 : Int64)), (.long ww), (.int (10 : Int32)), (.ref b24), (.ref b24)]))
  refine Run.callS X42 hx hZ e42 (y := (⟨"org/tertiary/io/FieldsIntegerPinLaw", "dig", "(JJ)B"⟩ : MethodName)) hown (hw _ (List.mem_of_getElem? (i := 25) rfl)) (hw _ (List.mem_of_getElem? (i := 26) rfl)) (hw _ (List.mem_of_getElem? (i := 22) rfl)) (hw _ (List.mem_of_getElem? (i := 27) rfl)) (by decide) (argsL := [(.long ww), (.long (10000000000 : Int64))]) (rest := [(.int (10 : Int32)), (.ref b24), (.ref b24)]) (c_dig l Z a0 hw ww (10000000000 : Int64) h42 n0 Z42 hww0.1 (by decide) (by decide) (by decide)) pd_1 rfl (by rw [hml]; rfl) (W := 3) rfl (by decide) (by decide) (by decide) (by decide) (hb hby at_291) rfl ?_
  intro T43 v43 L43 X43 q43
  obtain ⟨z43, rfl, M43, e43, hz43⟩ := q43
  have N43 := Fr.app N42 M43
  show Run p e below s _ _ _ (T43.setTop (mkF m 294 #[.val (.long p1), .second, .val (.int p2), .val (.int p3), .val (.int p4), .val (.int p5), .val (.int p6), .val (.ref b1), .val (.long ww), .second, .val (.int z21), .val (.int z22), .val (.int z23), .unset, .unset, .unset, .unset, .unset, .unset, .unset, .unset, .unset, .unset, .unset, .unset, .unset, .unset, .unset, .unset, .unset, .unset, .unset, .unset] [(.int z43), (.int (10 : Int32)), (.ref b24), (.ref b24)]))
  refine Run.stB X43 hx hZ e43 A_b24 (i := 10) (by decide) (Nat.le_of_ble_eq_true rfl) (z' := z43) (own_bz hz43) (hb hby at_294) ?_
  intro T44 h44 X44 e44 W44 A44
  replace A_b24 : Ars Z h44 b24 .byte [(.int p6.toInt8.toInt32), (.int z21), (.int z27), (.int z29), (.int z31), (.int z33), (.int z35), (.int z37), (.int z39), (.int z41), (.int z43), (.int (0 : Int32)), (.int (0 : Int32)), (.int (0 : Int32)), (.int (0 : Int32)), (.int (0 : Int32)), (.int (0 : Int32)), (.int (0 : Int32)), (.int (0 : Int32)), (.int (0 : Int32)), (.int (0 : Int32)), (.int (0 : Int32)), (.int (0 : Int32)), (.int (0 : Int32))] := A44
  have N44 := Fr.snoc X44 N43 g_b24
  have Z44 : n0 ≤ h44.size := Nat.le_trans Z42 (Nat.le_of_eq W44.size.symm)
  show Run p e below s _ _ _ (T44.setTop (mkF m 295 #[.val (.long p1), .second, .val (.int p2), .val (.int p3), .val (.int p4), .val (.int p5), .val (.int p6), .val (.ref b1), .val (.long ww), .second, .val (.int z21), .val (.int z22), .val (.int z23), .unset, .unset, .unset, .unset, .unset, .unset, .unset, .unset, .unset, .unset, .unset, .unset, .unset, .unset, .unset, .unset, .unset, .unset, .unset, .unset] [(.ref b24)]))
  refine Run.x_dup (q := 296) X44 hx (hb hby at_295) rfl rfl ?_
  refine Run.x_bipush (q := 298) X44 hx (hb hby at_296) (z := (11 : Int32)) rfl rfl ?_
  refine Run.x_lload (q := 300) X44 hx (hb hby at_298) rfl rfl ?_
  refine Run.x_aload (q := 302) X44 hx (hb hby at_300) rfl rfl rfl ?_
  refine Run.x_bipush (q := 304) X44 hx (hb hby at_302) (z := (9 : Int32)) rfl rfl ?_
  replace A_b1 := A_b1.other W44 ne_b1_b24
  refine Run.ldJ X44 hx hZ e44 A_b1 (i := 9) (v := (.long (1000000000 : Int64))) (by decide) rfl (hb hby at_304) ?_
  show Run p e below s _ _ _ (T44.setTop (mkF m 305 #[.val (.long p1), .second, .val (.int p2), .val (.int p3), .val (.int p4), .val (.int p5), .val (.int p6), .val (.ref b1), .val (.long ww), .second, .val (.int z21), .val (.int z22), .val (.int z23), .unset, .unset, .unset, .unset, .unset, .unset, .unset, .unset, .unset, .unset, .unset, .unset, .unset, .unset, .unset, .unset, .unset, .unset, .unset, .unset] [(.long (1000000000 : Int64)), (.long ww), (.int (11 : Int32)), (.ref b24), (.ref b24)]))
  refine Run.callS X44 hx hZ e44 (y := (⟨"org/tertiary/io/FieldsIntegerPinLaw", "dig", "(JJ)B"⟩ : MethodName)) hown (hw _ (List.mem_of_getElem? (i := 25) rfl)) (hw _ (List.mem_of_getElem? (i := 26) rfl)) (hw _ (List.mem_of_getElem? (i := 22) rfl)) (hw _ (List.mem_of_getElem? (i := 27) rfl)) (by decide) (argsL := [(.long ww), (.long (1000000000 : Int64))]) (rest := [(.int (11 : Int32)), (.ref b24), (.ref b24)]) (c_dig l Z a0 hw ww (1000000000 : Int64) h44 n0 Z44 hww0.1 (by decide) (by decide) (by decide)) pd_1 rfl (by rw [hml]; rfl) (W := 3) rfl (by decide) (by decide) (by decide) (by decide) (hb hby at_305) rfl ?_
  intro T45 v45 L45 X45 q45
  obtain ⟨z45, rfl, M45, e45, hz45⟩ := q45
  have N45 := Fr.app N44 M45
  show Run p e below s _ _ _ (T45.setTop (mkF m 308 #[.val (.long p1), .second, .val (.int p2), .val (.int p3), .val (.int p4), .val (.int p5), .val (.int p6), .val (.ref b1), .val (.long ww), .second, .val (.int z21), .val (.int z22), .val (.int z23), .unset, .unset, .unset, .unset, .unset, .unset, .unset, .unset, .unset, .unset, .unset, .unset, .unset, .unset, .unset, .unset, .unset, .unset, .unset, .unset] [(.int z45), (.int (11 : Int32)), (.ref b24), (.ref b24)]))
  refine Run.stB X45 hx hZ e45 A_b24 (i := 11) (by decide) (Nat.le_of_ble_eq_true rfl) (z' := z45) (own_bz hz45) (hb hby at_308) ?_
  intro T46 h46 X46 e46 W46 A46
  replace A_b24 : Ars Z h46 b24 .byte [(.int p6.toInt8.toInt32), (.int z21), (.int z27), (.int z29), (.int z31), (.int z33), (.int z35), (.int z37), (.int z39), (.int z41), (.int z43), (.int z45), (.int (0 : Int32)), (.int (0 : Int32)), (.int (0 : Int32)), (.int (0 : Int32)), (.int (0 : Int32)), (.int (0 : Int32)), (.int (0 : Int32)), (.int (0 : Int32)), (.int (0 : Int32)), (.int (0 : Int32)), (.int (0 : Int32)), (.int (0 : Int32))] := A46
  have N46 := Fr.snoc X46 N45 g_b24
  have Z46 : n0 ≤ h46.size := Nat.le_trans Z44 (Nat.le_of_eq W46.size.symm)
  show Run p e below s _ _ _ (T46.setTop (mkF m 309 #[.val (.long p1), .second, .val (.int p2), .val (.int p3), .val (.int p4), .val (.int p5), .val (.int p6), .val (.ref b1), .val (.long ww), .second, .val (.int z21), .val (.int z22), .val (.int z23), .unset, .unset, .unset, .unset, .unset, .unset, .unset, .unset, .unset, .unset, .unset, .unset, .unset, .unset, .unset, .unset, .unset, .unset, .unset, .unset] [(.ref b24)]))
  refine Run.x_dup (q := 310) X46 hx (hb hby at_309) rfl rfl ?_
  refine Run.x_bipush (q := 312) X46 hx (hb hby at_310) (z := (12 : Int32)) rfl rfl ?_
  refine Run.x_lload (q := 314) X46 hx (hb hby at_312) rfl rfl ?_
  refine Run.x_aload (q := 316) X46 hx (hb hby at_314) rfl rfl rfl ?_
  refine Run.x_bipush (q := 318) X46 hx (hb hby at_316) (z := (8 : Int32)) rfl rfl ?_
  replace A_b1 := A_b1.other W46 ne_b1_b24
  refine Run.ldJ X46 hx hZ e46 A_b1 (i := 8) (v := (.long (100000000 : Int64))) (by decide) rfl (hb hby at_318) ?_
  show Run p e below s _ _ _ (T46.setTop (mkF m 319 #[.val (.long p1), .second, .val (.int p2), .val (.int p3), .val (.int p4), .val (.int p5), .val (.int p6), .val (.ref b1), .val (.long ww), .second, .val (.int z21), .val (.int z22), .val (.int z23), .unset, .unset, .unset, .unset, .unset, .unset, .unset, .unset, .unset, .unset, .unset, .unset, .unset, .unset, .unset, .unset, .unset, .unset, .unset, .unset] [(.long (100000000 : Int64)), (.long ww), (.int (12 : Int32)), (.ref b24), (.ref b24)]))
  refine Run.callS X46 hx hZ e46 (y := (⟨"org/tertiary/io/FieldsIntegerPinLaw", "dig", "(JJ)B"⟩ : MethodName)) hown (hw _ (List.mem_of_getElem? (i := 25) rfl)) (hw _ (List.mem_of_getElem? (i := 26) rfl)) (hw _ (List.mem_of_getElem? (i := 22) rfl)) (hw _ (List.mem_of_getElem? (i := 27) rfl)) (by decide) (argsL := [(.long ww), (.long (100000000 : Int64))]) (rest := [(.int (12 : Int32)), (.ref b24), (.ref b24)]) (c_dig l Z a0 hw ww (100000000 : Int64) h46 n0 Z46 hww0.1 (by decide) (by decide) (by decide)) pd_1 rfl (by rw [hml]; rfl) (W := 3) rfl (by decide) (by decide) (by decide) (by decide) (hb hby at_319) rfl ?_
  intro T47 v47 L47 X47 q47
  obtain ⟨z47, rfl, M47, e47, hz47⟩ := q47
  have N47 := Fr.app N46 M47
  show Run p e below s _ _ _ (T47.setTop (mkF m 322 #[.val (.long p1), .second, .val (.int p2), .val (.int p3), .val (.int p4), .val (.int p5), .val (.int p6), .val (.ref b1), .val (.long ww), .second, .val (.int z21), .val (.int z22), .val (.int z23), .unset, .unset, .unset, .unset, .unset, .unset, .unset, .unset, .unset, .unset, .unset, .unset, .unset, .unset, .unset, .unset, .unset, .unset, .unset, .unset] [(.int z47), (.int (12 : Int32)), (.ref b24), (.ref b24)]))
  refine Run.stB X47 hx hZ e47 A_b24 (i := 12) (by decide) (Nat.le_of_ble_eq_true rfl) (z' := z47) (own_bz hz47) (hb hby at_322) ?_
  intro T48 h48 X48 e48 W48 A48
  replace A_b24 : Ars Z h48 b24 .byte [(.int p6.toInt8.toInt32), (.int z21), (.int z27), (.int z29), (.int z31), (.int z33), (.int z35), (.int z37), (.int z39), (.int z41), (.int z43), (.int z45), (.int z47), (.int (0 : Int32)), (.int (0 : Int32)), (.int (0 : Int32)), (.int (0 : Int32)), (.int (0 : Int32)), (.int (0 : Int32)), (.int (0 : Int32)), (.int (0 : Int32)), (.int (0 : Int32)), (.int (0 : Int32)), (.int (0 : Int32))] := A48
  have N48 := Fr.snoc X48 N47 g_b24
  have Z48 : n0 ≤ h48.size := Nat.le_trans Z46 (Nat.le_of_eq W48.size.symm)
  show Run p e below s _ _ _ (T48.setTop (mkF m 323 #[.val (.long p1), .second, .val (.int p2), .val (.int p3), .val (.int p4), .val (.int p5), .val (.int p6), .val (.ref b1), .val (.long ww), .second, .val (.int z21), .val (.int z22), .val (.int z23), .unset, .unset, .unset, .unset, .unset, .unset, .unset, .unset, .unset, .unset, .unset, .unset, .unset, .unset, .unset, .unset, .unset, .unset, .unset, .unset] [(.ref b24)]))
  refine Run.x_dup (q := 324) X48 hx (hb hby at_323) rfl rfl ?_
  refine Run.x_bipush (q := 326) X48 hx (hb hby at_324) (z := (13 : Int32)) rfl rfl ?_
  refine Run.x_lload (q := 328) X48 hx (hb hby at_326) rfl rfl ?_
  refine Run.x_aload (q := 330) X48 hx (hb hby at_328) rfl rfl rfl ?_
  refine Run.x_bipush (q := 332) X48 hx (hb hby at_330) (z := (7 : Int32)) rfl rfl ?_
  replace A_b1 := A_b1.other W48 ne_b1_b24
  refine Run.ldJ X48 hx hZ e48 A_b1 (i := 7) (v := (.long (10000000 : Int64))) (by decide) rfl (hb hby at_332) ?_
  show Run p e below s _ _ _ (T48.setTop (mkF m 333 #[.val (.long p1), .second, .val (.int p2), .val (.int p3), .val (.int p4), .val (.int p5), .val (.int p6), .val (.ref b1), .val (.long ww), .second, .val (.int z21), .val (.int z22), .val (.int z23), .unset, .unset, .unset, .unset, .unset, .unset, .unset, .unset, .unset, .unset, .unset, .unset, .unset, .unset, .unset, .unset, .unset, .unset, .unset, .unset] [(.long (10000000 : Int64)), (.long ww), (.int (13 : Int32)), (.ref b24), (.ref b24)]))
  refine Run.callS X48 hx hZ e48 (y := (⟨"org/tertiary/io/FieldsIntegerPinLaw", "dig", "(JJ)B"⟩ : MethodName)) hown (hw _ (List.mem_of_getElem? (i := 25) rfl)) (hw _ (List.mem_of_getElem? (i := 26) rfl)) (hw _ (List.mem_of_getElem? (i := 22) rfl)) (hw _ (List.mem_of_getElem? (i := 27) rfl)) (by decide) (argsL := [(.long ww), (.long (10000000 : Int64))]) (rest := [(.int (13 : Int32)), (.ref b24), (.ref b24)]) (c_dig l Z a0 hw ww (10000000 : Int64) h48 n0 Z48 hww0.1 (by decide) (by decide) (by decide)) pd_1 rfl (by rw [hml]; rfl) (W := 3) rfl (by decide) (by decide) (by decide) (by decide) (hb hby at_333) rfl ?_
  intro T49 v49 L49 X49 q49
  obtain ⟨z49, rfl, M49, e49, hz49⟩ := q49
  have N49 := Fr.app N48 M49
  show Run p e below s _ _ _ (T49.setTop (mkF m 336 #[.val (.long p1), .second, .val (.int p2), .val (.int p3), .val (.int p4), .val (.int p5), .val (.int p6), .val (.ref b1), .val (.long ww), .second, .val (.int z21), .val (.int z22), .val (.int z23), .unset, .unset, .unset, .unset, .unset, .unset, .unset, .unset, .unset, .unset, .unset, .unset, .unset, .unset, .unset, .unset, .unset, .unset, .unset, .unset] [(.int z49), (.int (13 : Int32)), (.ref b24), (.ref b24)]))
  refine Run.stB X49 hx hZ e49 A_b24 (i := 13) (by decide) (Nat.le_of_ble_eq_true rfl) (z' := z49) (own_bz hz49) (hb hby at_336) ?_
  intro T50 h50 X50 e50 W50 A50
  replace A_b24 : Ars Z h50 b24 .byte [(.int p6.toInt8.toInt32), (.int z21), (.int z27), (.int z29), (.int z31), (.int z33), (.int z35), (.int z37), (.int z39), (.int z41), (.int z43), (.int z45), (.int z47), (.int z49), (.int (0 : Int32)), (.int (0 : Int32)), (.int (0 : Int32)), (.int (0 : Int32)), (.int (0 : Int32)), (.int (0 : Int32)), (.int (0 : Int32)), (.int (0 : Int32)), (.int (0 : Int32)), (.int (0 : Int32))] := A50
  have N50 := Fr.snoc X50 N49 g_b24
  have Z50 : n0 ≤ h50.size := Nat.le_trans Z48 (Nat.le_of_eq W50.size.symm)
  show Run p e below s _ _ _ (T50.setTop (mkF m 337 #[.val (.long p1), .second, .val (.int p2), .val (.int p3), .val (.int p4), .val (.int p5), .val (.int p6), .val (.ref b1), .val (.long ww), .second, .val (.int z21), .val (.int z22), .val (.int z23), .unset, .unset, .unset, .unset, .unset, .unset, .unset, .unset, .unset, .unset, .unset, .unset, .unset, .unset, .unset, .unset, .unset, .unset, .unset, .unset] [(.ref b24)]))
  refine Run.x_dup (q := 338) X50 hx (hb hby at_337) rfl rfl ?_
  refine Run.x_bipush (q := 340) X50 hx (hb hby at_338) (z := (14 : Int32)) rfl rfl ?_
  refine Run.x_lload (q := 342) X50 hx (hb hby at_340) rfl rfl ?_
  refine Run.x_aload (q := 344) X50 hx (hb hby at_342) rfl rfl rfl ?_
  refine Run.x_bipush (q := 346) X50 hx (hb hby at_344) (z := (6 : Int32)) rfl rfl ?_
  replace A_b1 := A_b1.other W50 ne_b1_b24
  refine Run.ldJ X50 hx hZ e50 A_b1 (i := 6) (v := (.long (1000000 : Int64))) (by decide) rfl (hb hby at_346) ?_
  show Run p e below s _ _ _ (T50.setTop (mkF m 347 #[.val (.long p1), .second, .val (.int p2), .val (.int p3), .val (.int p4), .val (.int p5), .val (.int p6), .val (.ref b1), .val (.long ww), .second, .val (.int z21), .val (.int z22), .val (.int z23), .unset, .unset, .unset, .unset, .unset, .unset, .unset, .unset, .unset, .unset, .unset, .unset, .unset, .unset, .unset, .unset, .unset, .unset, .unset, .unset] [(.long (1000000 : Int64)), (.long ww), (.int (14 : Int32)), (.ref b24), (.ref b24)]))
  refine Run.callS X50 hx hZ e50 (y := (⟨"org/tertiary/io/FieldsIntegerPinLaw", "dig", "(JJ)B"⟩ : MethodName)) hown (hw _ (List.mem_of_getElem? (i := 25) rfl)) (hw _ (List.mem_of_getElem? (i := 26) rfl)) (hw _ (List.mem_of_getElem? (i := 22) rfl)) (hw _ (List.mem_of_getElem? (i := 27) rfl)) (by decide) (argsL := [(.long ww), (.long (1000000 : Int64))]) (rest := [(.int (14 : Int32)), (.ref b24), (.ref b24)]) (c_dig l Z a0 hw ww (1000000 : Int64) h50 n0 Z50 hww0.1 (by decide) (by decide) (by decide)) pd_1 rfl (by rw [hml]; rfl) (W := 3) rfl (by decide) (by decide) (by decide) (by decide) (hb hby at_347) rfl ?_
  intro T51 v51 L51 X51 q51
  obtain ⟨z51, rfl, M51, e51, hz51⟩ := q51
  have N51 := Fr.app N50 M51
  show Run p e below s _ _ _ (T51.setTop (mkF m 350 #[.val (.long p1), .second, .val (.int p2), .val (.int p3), .val (.int p4), .val (.int p5), .val (.int p6), .val (.ref b1), .val (.long ww), .second, .val (.int z21), .val (.int z22), .val (.int z23), .unset, .unset, .unset, .unset, .unset, .unset, .unset, .unset, .unset, .unset, .unset, .unset, .unset, .unset, .unset, .unset, .unset, .unset, .unset, .unset] [(.int z51), (.int (14 : Int32)), (.ref b24), (.ref b24)]))
  refine Run.stB X51 hx hZ e51 A_b24 (i := 14) (by decide) (Nat.le_of_ble_eq_true rfl) (z' := z51) (own_bz hz51) (hb hby at_350) ?_
  intro T52 h52 X52 e52 W52 A52
  replace A_b24 : Ars Z h52 b24 .byte [(.int p6.toInt8.toInt32), (.int z21), (.int z27), (.int z29), (.int z31), (.int z33), (.int z35), (.int z37), (.int z39), (.int z41), (.int z43), (.int z45), (.int z47), (.int z49), (.int z51), (.int (0 : Int32)), (.int (0 : Int32)), (.int (0 : Int32)), (.int (0 : Int32)), (.int (0 : Int32)), (.int (0 : Int32)), (.int (0 : Int32)), (.int (0 : Int32)), (.int (0 : Int32))] := A52
  have N52 := Fr.snoc X52 N51 g_b24
  have Z52 : n0 ≤ h52.size := Nat.le_trans Z50 (Nat.le_of_eq W52.size.symm)
  show Run p e below s _ _ _ (T52.setTop (mkF m 351 #[.val (.long p1), .second, .val (.int p2), .val (.int p3), .val (.int p4), .val (.int p5), .val (.int p6), .val (.ref b1), .val (.long ww), .second, .val (.int z21), .val (.int z22), .val (.int z23), .unset, .unset, .unset, .unset, .unset, .unset, .unset, .unset, .unset, .unset, .unset, .unset, .unset, .unset, .unset, .unset, .unset, .unset, .unset, .unset] [(.ref b24)]))
  refine Run.x_dup (q := 352) X52 hx (hb hby at_351) rfl rfl ?_
  refine Run.x_bipush (q := 354) X52 hx (hb hby at_352) (z := (15 : Int32)) rfl rfl ?_
  refine Run.x_lload (q := 356) X52 hx (hb hby at_354) rfl rfl ?_
  refine Run.x_aload (q := 358) X52 hx (hb hby at_356) rfl rfl rfl ?_
  refine Run.x_iconst (q := 359) X52 hx (hb hby at_358) (z := (5 : Int32)) rfl rfl ?_
  replace A_b1 := A_b1.other W52 ne_b1_b24
  refine Run.ldJ X52 hx hZ e52 A_b1 (i := 5) (v := (.long (100000 : Int64))) (by decide) rfl (hb hby at_359) ?_
  show Run p e below s _ _ _ (T52.setTop (mkF m 360 #[.val (.long p1), .second, .val (.int p2), .val (.int p3), .val (.int p4), .val (.int p5), .val (.int p6), .val (.ref b1), .val (.long ww), .second, .val (.int z21), .val (.int z22), .val (.int z23), .unset, .unset, .unset, .unset, .unset, .unset, .unset, .unset, .unset, .unset, .unset, .unset, .unset, .unset, .unset, .unset, .unset, .unset, .unset, .unset] [(.long (100000 : Int64)), (.long ww), (.int (15 : Int32)), (.ref b24), (.ref b24)]))
  refine Run.callS X52 hx hZ e52 (y := (⟨"org/tertiary/io/FieldsIntegerPinLaw", "dig", "(JJ)B"⟩ : MethodName)) hown (hw _ (List.mem_of_getElem? (i := 25) rfl)) (hw _ (List.mem_of_getElem? (i := 26) rfl)) (hw _ (List.mem_of_getElem? (i := 22) rfl)) (hw _ (List.mem_of_getElem? (i := 27) rfl)) (by decide) (argsL := [(.long ww), (.long (100000 : Int64))]) (rest := [(.int (15 : Int32)), (.ref b24), (.ref b24)]) (c_dig l Z a0 hw ww (100000 : Int64) h52 n0 Z52 hww0.1 (by decide) (by decide) (by decide)) pd_1 rfl (by rw [hml]; rfl) (W := 3) rfl (by decide) (by decide) (by decide) (by decide) (hb hby at_360) rfl ?_
  intro T53 v53 L53 X53 q53
  obtain ⟨z53, rfl, M53, e53, hz53⟩ := q53
  have N53 := Fr.app N52 M53
  show Run p e below s _ _ _ (T53.setTop (mkF m 363 #[.val (.long p1), .second, .val (.int p2), .val (.int p3), .val (.int p4), .val (.int p5), .val (.int p6), .val (.ref b1), .val (.long ww), .second, .val (.int z21), .val (.int z22), .val (.int z23), .unset, .unset, .unset, .unset, .unset, .unset, .unset, .unset, .unset, .unset, .unset, .unset, .unset, .unset, .unset, .unset, .unset, .unset, .unset, .unset] [(.int z53), (.int (15 : Int32)), (.ref b24), (.ref b24)]))
  refine Run.stB X53 hx hZ e53 A_b24 (i := 15) (by decide) (Nat.le_of_ble_eq_true rfl) (z' := z53) (own_bz hz53) (hb hby at_363) ?_
  intro T54 h54 X54 e54 W54 A54
  replace A_b24 : Ars Z h54 b24 .byte [(.int p6.toInt8.toInt32), (.int z21), (.int z27), (.int z29), (.int z31), (.int z33), (.int z35), (.int z37), (.int z39), (.int z41), (.int z43), (.int z45), (.int z47), (.int z49), (.int z51), (.int z53), (.int (0 : Int32)), (.int (0 : Int32)), (.int (0 : Int32)), (.int (0 : Int32)), (.int (0 : Int32)), (.int (0 : Int32)), (.int (0 : Int32)), (.int (0 : Int32))] := A54
  have N54 := Fr.snoc X54 N53 g_b24
  have Z54 : n0 ≤ h54.size := Nat.le_trans Z52 (Nat.le_of_eq W54.size.symm)
  show Run p e below s _ _ _ (T54.setTop (mkF m 364 #[.val (.long p1), .second, .val (.int p2), .val (.int p3), .val (.int p4), .val (.int p5), .val (.int p6), .val (.ref b1), .val (.long ww), .second, .val (.int z21), .val (.int z22), .val (.int z23), .unset, .unset, .unset, .unset, .unset, .unset, .unset, .unset, .unset, .unset, .unset, .unset, .unset, .unset, .unset, .unset, .unset, .unset, .unset, .unset] [(.ref b24)]))
  refine Run.x_dup (q := 365) X54 hx (hb hby at_364) rfl rfl ?_
  refine Run.x_bipush (q := 367) X54 hx (hb hby at_365) (z := (16 : Int32)) rfl rfl ?_
  refine Run.x_lload (q := 369) X54 hx (hb hby at_367) rfl rfl ?_
  refine Run.x_aload (q := 371) X54 hx (hb hby at_369) rfl rfl rfl ?_
  refine Run.x_iconst (q := 372) X54 hx (hb hby at_371) (z := (4 : Int32)) rfl rfl ?_
  replace A_b1 := A_b1.other W54 ne_b1_b24
  refine Run.ldJ X54 hx hZ e54 A_b1 (i := 4) (v := (.long (10000 : Int64))) (by decide) rfl (hb hby at_372) ?_
  show Run p e below s _ _ _ (T54.setTop (mkF m 373 #[.val (.long p1), .second, .val (.int p2), .val (.int p3), .val (.int p4), .val (.int p5), .val (.int p6), .val (.ref b1), .val (.long ww), .second, .val (.int z21), .val (.int z22), .val (.int z23), .unset, .unset, .unset, .unset, .unset, .unset, .unset, .unset, .unset, .unset, .unset, .unset, .unset, .unset, .unset, .unset, .unset, .unset, .unset, .unset] [(.long (10000 : Int64)), (.long ww), (.int (16 : Int32)), (.ref b24), (.ref b24)]))
  refine Run.callS X54 hx hZ e54 (y := (⟨"org/tertiary/io/FieldsIntegerPinLaw", "dig", "(JJ)B"⟩ : MethodName)) hown (hw _ (List.mem_of_getElem? (i := 25) rfl)) (hw _ (List.mem_of_getElem? (i := 26) rfl)) (hw _ (List.mem_of_getElem? (i := 22) rfl)) (hw _ (List.mem_of_getElem? (i := 27) rfl)) (by decide) (argsL := [(.long ww), (.long (10000 : Int64))]) (rest := [(.int (16 : Int32)), (.ref b24), (.ref b24)]) (c_dig l Z a0 hw ww (10000 : Int64) h54 n0 Z54 hww0.1 (by decide) (by decide) (by decide)) pd_1 rfl (by rw [hml]; rfl) (W := 3) rfl (by decide) (by decide) (by decide) (by decide) (hb hby at_373) rfl ?_
  intro T55 v55 L55 X55 q55
  obtain ⟨z55, rfl, M55, e55, hz55⟩ := q55
  have N55 := Fr.app N54 M55
  show Run p e below s _ _ _ (T55.setTop (mkF m 376 #[.val (.long p1), .second, .val (.int p2), .val (.int p3), .val (.int p4), .val (.int p5), .val (.int p6), .val (.ref b1), .val (.long ww), .second, .val (.int z21), .val (.int z22), .val (.int z23), .unset, .unset, .unset, .unset, .unset, .unset, .unset, .unset, .unset, .unset, .unset, .unset, .unset, .unset, .unset, .unset, .unset, .unset, .unset, .unset] [(.int z55), (.int (16 : Int32)), (.ref b24), (.ref b24)]))
  refine Run.stB X55 hx hZ e55 A_b24 (i := 16) (by decide) (Nat.le_of_ble_eq_true rfl) (z' := z55) (own_bz hz55) (hb hby at_376) ?_
  intro T56 h56 X56 e56 W56 A56
  replace A_b24 : Ars Z h56 b24 .byte [(.int p6.toInt8.toInt32), (.int z21), (.int z27), (.int z29), (.int z31), (.int z33), (.int z35), (.int z37), (.int z39), (.int z41), (.int z43), (.int z45), (.int z47), (.int z49), (.int z51), (.int z53), (.int z55), (.int (0 : Int32)), (.int (0 : Int32)), (.int (0 : Int32)), (.int (0 : Int32)), (.int (0 : Int32)), (.int (0 : Int32)), (.int (0 : Int32))] := A56
  have N56 := Fr.snoc X56 N55 g_b24
  have Z56 : n0 ≤ h56.size := Nat.le_trans Z54 (Nat.le_of_eq W56.size.symm)
  show Run p e below s _ _ _ (T56.setTop (mkF m 377 #[.val (.long p1), .second, .val (.int p2), .val (.int p3), .val (.int p4), .val (.int p5), .val (.int p6), .val (.ref b1), .val (.long ww), .second, .val (.int z21), .val (.int z22), .val (.int z23), .unset, .unset, .unset, .unset, .unset, .unset, .unset, .unset, .unset, .unset, .unset, .unset, .unset, .unset, .unset, .unset, .unset, .unset, .unset, .unset] [(.ref b24)]))
  refine Run.x_dup (q := 378) X56 hx (hb hby at_377) rfl rfl ?_
  refine Run.x_bipush (q := 380) X56 hx (hb hby at_378) (z := (17 : Int32)) rfl rfl ?_
  refine Run.x_lload (q := 382) X56 hx (hb hby at_380) rfl rfl ?_
  refine Run.x_aload (q := 384) X56 hx (hb hby at_382) rfl rfl rfl ?_
  refine Run.x_iconst (q := 385) X56 hx (hb hby at_384) (z := (3 : Int32)) rfl rfl ?_
  replace A_b1 := A_b1.other W56 ne_b1_b24
  refine Run.ldJ X56 hx hZ e56 A_b1 (i := 3) (v := (.long (1000 : Int64))) (by decide) rfl (hb hby at_385) ?_
  show Run p e below s _ _ _ (T56.setTop (mkF m 386 #[.val (.long p1), .second, .val (.int p2), .val (.int p3), .val (.int p4), .val (.int p5), .val (.int p6), .val (.ref b1), .val (.long ww), .second, .val (.int z21), .val (.int z22), .val (.int z23), .unset, .unset, .unset, .unset, .unset, .unset, .unset, .unset, .unset, .unset, .unset, .unset, .unset, .unset, .unset, .unset, .unset, .unset, .unset, .unset] [(.long (1000 : Int64)), (.long ww), (.int (17 : Int32)), (.ref b24), (.ref b24)]))
  refine Run.callS X56 hx hZ e56 (y := (⟨"org/tertiary/io/FieldsIntegerPinLaw", "dig", "(JJ)B"⟩ : MethodName)) hown (hw _ (List.mem_of_getElem? (i := 25) rfl)) (hw _ (List.mem_of_getElem? (i := 26) rfl)) (hw _ (List.mem_of_getElem? (i := 22) rfl)) (hw _ (List.mem_of_getElem? (i := 27) rfl)) (by decide) (argsL := [(.long ww), (.long (1000 : Int64))]) (rest := [(.int (17 : Int32)), (.ref b24), (.ref b24)]) (c_dig l Z a0 hw ww (1000 : Int64) h56 n0 Z56 hww0.1 (by decide) (by decide) (by decide)) pd_1 rfl (by rw [hml]; rfl) (W := 3) rfl (by decide) (by decide) (by decide) (by decide) (hb hby at_386) rfl ?_
  intro T57 v57 L57 X57 q57
  obtain ⟨z57, rfl, M57, e57, hz57⟩ := q57
  have N57 := Fr.app N56 M57
  show Run p e below s _ _ _ (T57.setTop (mkF m 389 #[.val (.long p1), .second, .val (.int p2), .val (.int p3), .val (.int p4), .val (.int p5), .val (.int p6), .val (.ref b1), .val (.long ww), .second, .val (.int z21), .val (.int z22), .val (.int z23), .unset, .unset, .unset, .unset, .unset, .unset, .unset, .unset, .unset, .unset, .unset, .unset, .unset, .unset, .unset, .unset, .unset, .unset, .unset, .unset] [(.int z57), (.int (17 : Int32)), (.ref b24), (.ref b24)]))
  refine Run.stB X57 hx hZ e57 A_b24 (i := 17) (by decide) (Nat.le_of_ble_eq_true rfl) (z' := z57) (own_bz hz57) (hb hby at_389) ?_
  intro T58 h58 X58 e58 W58 A58
  replace A_b24 : Ars Z h58 b24 .byte [(.int p6.toInt8.toInt32), (.int z21), (.int z27), (.int z29), (.int z31), (.int z33), (.int z35), (.int z37), (.int z39), (.int z41), (.int z43), (.int z45), (.int z47), (.int z49), (.int z51), (.int z53), (.int z55), (.int z57), (.int (0 : Int32)), (.int (0 : Int32)), (.int (0 : Int32)), (.int (0 : Int32)), (.int (0 : Int32)), (.int (0 : Int32))] := A58
  have N58 := Fr.snoc X58 N57 g_b24
  have Z58 : n0 ≤ h58.size := Nat.le_trans Z56 (Nat.le_of_eq W58.size.symm)
  show Run p e below s _ _ _ (T58.setTop (mkF m 390 #[.val (.long p1), .second, .val (.int p2), .val (.int p3), .val (.int p4), .val (.int p5), .val (.int p6), .val (.ref b1), .val (.long ww), .second, .val (.int z21), .val (.int z22), .val (.int z23), .unset, .unset, .unset, .unset, .unset, .unset, .unset, .unset, .unset, .unset, .unset, .unset, .unset, .unset, .unset, .unset, .unset, .unset, .unset, .unset] [(.ref b24)]))
  refine Run.x_dup (q := 391) X58 hx (hb hby at_390) rfl rfl ?_
  refine Run.x_bipush (q := 393) X58 hx (hb hby at_391) (z := (18 : Int32)) rfl rfl ?_
  refine Run.x_lload (q := 395) X58 hx (hb hby at_393) rfl rfl ?_
  refine Run.x_aload (q := 397) X58 hx (hb hby at_395) rfl rfl rfl ?_
  refine Run.x_iconst (q := 398) X58 hx (hb hby at_397) (z := (2 : Int32)) rfl rfl ?_
  replace A_b1 := A_b1.other W58 ne_b1_b24
  refine Run.ldJ X58 hx hZ e58 A_b1 (i := 2) (v := (.long (100 : Int64))) (by decide) rfl (hb hby at_398) ?_
  show Run p e below s _ _ _ (T58.setTop (mkF m 399 #[.val (.long p1), .second, .val (.int p2), .val (.int p3), .val (.int p4), .val (.int p5), .val (.int p6), .val (.ref b1), .val (.long ww), .second, .val (.int z21), .val (.int z22), .val (.int z23), .unset, .unset, .unset, .unset, .unset, .unset, .unset, .unset, .unset, .unset, .unset, .unset, .unset, .unset, .unset, .unset, .unset, .unset, .unset, .unset] [(.long (100 : Int64)), (.long ww), (.int (18 : Int32)), (.ref b24), (.ref b24)]))
  refine Run.callS X58 hx hZ e58 (y := (⟨"org/tertiary/io/FieldsIntegerPinLaw", "dig", "(JJ)B"⟩ : MethodName)) hown (hw _ (List.mem_of_getElem? (i := 25) rfl)) (hw _ (List.mem_of_getElem? (i := 26) rfl)) (hw _ (List.mem_of_getElem? (i := 22) rfl)) (hw _ (List.mem_of_getElem? (i := 27) rfl)) (by decide) (argsL := [(.long ww), (.long (100 : Int64))]) (rest := [(.int (18 : Int32)), (.ref b24), (.ref b24)]) (c_dig l Z a0 hw ww (100 : Int64) h58 n0 Z58 hww0.1 (by decide) (by decide) (by decide)) pd_1 rfl (by rw [hml]; rfl) (W := 3) rfl (by decide) (by decide) (by decide) (by decide) (hb hby at_399) rfl ?_
  intro T59 v59 L59 X59 q59
  obtain ⟨z59, rfl, M59, e59, hz59⟩ := q59
  have N59 := Fr.app N58 M59
  show Run p e below s _ _ _ (T59.setTop (mkF m 402 #[.val (.long p1), .second, .val (.int p2), .val (.int p3), .val (.int p4), .val (.int p5), .val (.int p6), .val (.ref b1), .val (.long ww), .second, .val (.int z21), .val (.int z22), .val (.int z23), .unset, .unset, .unset, .unset, .unset, .unset, .unset, .unset, .unset, .unset, .unset, .unset, .unset, .unset, .unset, .unset, .unset, .unset, .unset, .unset] [(.int z59), (.int (18 : Int32)), (.ref b24), (.ref b24)]))
  refine Run.stB X59 hx hZ e59 A_b24 (i := 18) (by decide) (Nat.le_of_ble_eq_true rfl) (z' := z59) (own_bz hz59) (hb hby at_402) ?_
  intro T60 h60 X60 e60 W60 A60
  replace A_b24 : Ars Z h60 b24 .byte [(.int p6.toInt8.toInt32), (.int z21), (.int z27), (.int z29), (.int z31), (.int z33), (.int z35), (.int z37), (.int z39), (.int z41), (.int z43), (.int z45), (.int z47), (.int z49), (.int z51), (.int z53), (.int z55), (.int z57), (.int z59), (.int (0 : Int32)), (.int (0 : Int32)), (.int (0 : Int32)), (.int (0 : Int32)), (.int (0 : Int32))] := A60
  have N60 := Fr.snoc X60 N59 g_b24
  have Z60 : n0 ≤ h60.size := Nat.le_trans Z58 (Nat.le_of_eq W60.size.symm)
  show Run p e below s _ _ _ (T60.setTop (mkF m 403 #[.val (.long p1), .second, .val (.int p2), .val (.int p3), .val (.int p4), .val (.int p5), .val (.int p6), .val (.ref b1), .val (.long ww), .second, .val (.int z21), .val (.int z22), .val (.int z23), .unset, .unset, .unset, .unset, .unset, .unset, .unset, .unset, .unset, .unset, .unset, .unset, .unset, .unset, .unset, .unset, .unset, .unset, .unset, .unset] [(.ref b24)]))
  refine Run.x_dup (q := 404) X60 hx (hb hby at_403) rfl rfl ?_
  refine Run.x_bipush (q := 406) X60 hx (hb hby at_404) (z := (19 : Int32)) rfl rfl ?_
  refine Run.x_lload (q := 408) X60 hx (hb hby at_406) rfl rfl ?_
  refine Run.x_aload (q := 410) X60 hx (hb hby at_408) rfl rfl rfl ?_
  refine Run.x_iconst (q := 411) X60 hx (hb hby at_410) (z := (1 : Int32)) rfl rfl ?_
  replace A_b1 := A_b1.other W60 ne_b1_b24
  refine Run.ldJ X60 hx hZ e60 A_b1 (i := 1) (v := (.long (10 : Int64))) (by decide) rfl (hb hby at_411) ?_
  show Run p e below s _ _ _ (T60.setTop (mkF m 412 #[.val (.long p1), .second, .val (.int p2), .val (.int p3), .val (.int p4), .val (.int p5), .val (.int p6), .val (.ref b1), .val (.long ww), .second, .val (.int z21), .val (.int z22), .val (.int z23), .unset, .unset, .unset, .unset, .unset, .unset, .unset, .unset, .unset, .unset, .unset, .unset, .unset, .unset, .unset, .unset, .unset, .unset, .unset, .unset] [(.long (10 : Int64)), (.long ww), (.int (19 : Int32)), (.ref b24), (.ref b24)]))
  refine Run.callS X60 hx hZ e60 (y := (⟨"org/tertiary/io/FieldsIntegerPinLaw", "dig", "(JJ)B"⟩ : MethodName)) hown (hw _ (List.mem_of_getElem? (i := 25) rfl)) (hw _ (List.mem_of_getElem? (i := 26) rfl)) (hw _ (List.mem_of_getElem? (i := 22) rfl)) (hw _ (List.mem_of_getElem? (i := 27) rfl)) (by decide) (argsL := [(.long ww), (.long (10 : Int64))]) (rest := [(.int (19 : Int32)), (.ref b24), (.ref b24)]) (c_dig l Z a0 hw ww (10 : Int64) h60 n0 Z60 hww0.1 (by decide) (by decide) (by decide)) pd_1 rfl (by rw [hml]; rfl) (W := 3) rfl (by decide) (by decide) (by decide) (by decide) (hb hby at_412) rfl ?_
  intro T61 v61 L61 X61 q61
  obtain ⟨z61, rfl, M61, e61, hz61⟩ := q61
  have N61 := Fr.app N60 M61
  show Run p e below s _ _ _ (T61.setTop (mkF m 415 #[.val (.long p1), .second, .val (.int p2), .val (.int p3), .val (.int p4), .val (.int p5), .val (.int p6), .val (.ref b1), .val (.long ww), .second, .val (.int z21), .val (.int z22), .val (.int z23), .unset, .unset, .unset, .unset, .unset, .unset, .unset, .unset, .unset, .unset, .unset, .unset, .unset, .unset, .unset, .unset, .unset, .unset, .unset, .unset] [(.int z61), (.int (19 : Int32)), (.ref b24), (.ref b24)]))
  refine Run.stB X61 hx hZ e61 A_b24 (i := 19) (by decide) (Nat.le_of_ble_eq_true rfl) (z' := z61) (own_bz hz61) (hb hby at_415) ?_
  intro T62 h62 X62 e62 W62 A62
  replace A_b24 : Ars Z h62 b24 .byte [(.int p6.toInt8.toInt32), (.int z21), (.int z27), (.int z29), (.int z31), (.int z33), (.int z35), (.int z37), (.int z39), (.int z41), (.int z43), (.int z45), (.int z47), (.int z49), (.int z51), (.int z53), (.int z55), (.int z57), (.int z59), (.int z61), (.int (0 : Int32)), (.int (0 : Int32)), (.int (0 : Int32)), (.int (0 : Int32))] := A62
  have N62 := Fr.snoc X62 N61 g_b24
  have Z62 : n0 ≤ h62.size := Nat.le_trans Z60 (Nat.le_of_eq W62.size.symm)
  show Run p e below s _ _ _ (T62.setTop (mkF m 416 #[.val (.long p1), .second, .val (.int p2), .val (.int p3), .val (.int p4), .val (.int p5), .val (.int p6), .val (.ref b1), .val (.long ww), .second, .val (.int z21), .val (.int z22), .val (.int z23), .unset, .unset, .unset, .unset, .unset, .unset, .unset, .unset, .unset, .unset, .unset, .unset, .unset, .unset, .unset, .unset, .unset, .unset, .unset, .unset] [(.ref b24)]))
  refine Run.x_dup (q := 417) X62 hx (hb hby at_416) rfl rfl ?_
  refine Run.x_bipush (q := 419) X62 hx (hb hby at_417) (z := (20 : Int32)) rfl rfl ?_
  refine Run.x_lload (q := 421) X62 hx (hb hby at_419) rfl rfl ?_
  refine Run.x_aload (q := 423) X62 hx (hb hby at_421) rfl rfl rfl ?_
  refine Run.x_iconst (q := 424) X62 hx (hb hby at_423) (z := (0 : Int32)) rfl rfl ?_
  replace A_b1 := A_b1.other W62 ne_b1_b24
  refine Run.ldJ X62 hx hZ e62 A_b1 (i := 0) (v := (.long (1 : Int64))) (by decide) rfl (hb hby at_424) ?_
  show Run p e below s _ _ _ (T62.setTop (mkF m 425 #[.val (.long p1), .second, .val (.int p2), .val (.int p3), .val (.int p4), .val (.int p5), .val (.int p6), .val (.ref b1), .val (.long ww), .second, .val (.int z21), .val (.int z22), .val (.int z23), .unset, .unset, .unset, .unset, .unset, .unset, .unset, .unset, .unset, .unset, .unset, .unset, .unset, .unset, .unset, .unset, .unset, .unset, .unset, .unset] [(.long (1 : Int64)), (.long ww), (.int (20 : Int32)), (.ref b24), (.ref b24)]))
  refine Run.callS X62 hx hZ e62 (y := (⟨"org/tertiary/io/FieldsIntegerPinLaw", "dig", "(JJ)B"⟩ : MethodName)) hown (hw _ (List.mem_of_getElem? (i := 25) rfl)) (hw _ (List.mem_of_getElem? (i := 26) rfl)) (hw _ (List.mem_of_getElem? (i := 22) rfl)) (hw _ (List.mem_of_getElem? (i := 27) rfl)) (by decide) (argsL := [(.long ww), (.long (1 : Int64))]) (rest := [(.int (20 : Int32)), (.ref b24), (.ref b24)]) (c_dig l Z a0 hw ww (1 : Int64) h62 n0 Z62 hww0.1 (by decide) (by decide) (by decide)) pd_1 rfl (by rw [hml]; rfl) (W := 3) rfl (by decide) (by decide) (by decide) (by decide) (hb hby at_425) rfl ?_
  intro T63 v63 L63 X63 q63
  obtain ⟨z63, rfl, M63, e63, hz63⟩ := q63
  have N63 := Fr.app N62 M63
  show Run p e below s _ _ _ (T63.setTop (mkF m 428 #[.val (.long p1), .second, .val (.int p2), .val (.int p3), .val (.int p4), .val (.int p5), .val (.int p6), .val (.ref b1), .val (.long ww), .second, .val (.int z21), .val (.int z22), .val (.int z23), .unset, .unset, .unset, .unset, .unset, .unset, .unset, .unset, .unset, .unset, .unset, .unset, .unset, .unset, .unset, .unset, .unset, .unset, .unset, .unset] [(.int z63), (.int (20 : Int32)), (.ref b24), (.ref b24)]))
  refine Run.stB X63 hx hZ e63 A_b24 (i := 20) (by decide) (Nat.le_of_ble_eq_true rfl) (z' := z63) (own_bz hz63) (hb hby at_428) ?_
  intro T64 h64 X64 e64 W64 A64
  replace A_b24 : Ars Z h64 b24 .byte [(.int p6.toInt8.toInt32), (.int z21), (.int z27), (.int z29), (.int z31), (.int z33), (.int z35), (.int z37), (.int z39), (.int z41), (.int z43), (.int z45), (.int z47), (.int z49), (.int z51), (.int z53), (.int z55), (.int z57), (.int z59), (.int z61), (.int z63), (.int (0 : Int32)), (.int (0 : Int32)), (.int (0 : Int32))] := A64
  have N64 := Fr.snoc X64 N63 g_b24
  have Z64 : n0 ≤ h64.size := Nat.le_trans Z62 (Nat.le_of_eq W64.size.symm)
  show Run p e below s _ _ _ (T64.setTop (mkF m 429 #[.val (.long p1), .second, .val (.int p2), .val (.int p3), .val (.int p4), .val (.int p5), .val (.int p6), .val (.ref b1), .val (.long ww), .second, .val (.int z21), .val (.int z22), .val (.int z23), .unset, .unset, .unset, .unset, .unset, .unset, .unset, .unset, .unset, .unset, .unset, .unset, .unset, .unset, .unset, .unset, .unset, .unset, .unset, .unset] [(.ref b24)]))
  refine Run.x_dup (q := 430) X64 hx (hb hby at_429) rfl rfl ?_
  refine Run.x_bipush (q := 432) X64 hx (hb hby at_430) (z := (21 : Int32)) rfl rfl ?_
  refine Run.x_iload (q := 434) X64 hx (hb hby at_432) rfl rfl ?_
  refine Run.stB X64 hx hZ e64 A_b24 (i := 21) (by decide) (Nat.le_of_ble_eq_true rfl) (z' := z22) (own_byte hza22 hzb22) (hb hby at_434) ?_
  intro T65 h65 X65 e65 W65 A65
  replace A_b24 : Ars Z h65 b24 .byte [(.int p6.toInt8.toInt32), (.int z21), (.int z27), (.int z29), (.int z31), (.int z33), (.int z35), (.int z37), (.int z39), (.int z41), (.int z43), (.int z45), (.int z47), (.int z49), (.int z51), (.int z53), (.int z55), (.int z57), (.int z59), (.int z61), (.int z63), (.int z22), (.int (0 : Int32)), (.int (0 : Int32))] := A65
  have N65 := Fr.snoc X65 N64 g_b24
  have Z65 : n0 ≤ h65.size := Nat.le_trans Z64 (Nat.le_of_eq W65.size.symm)
  show Run p e below s _ _ _ (T65.setTop (mkF m 435 #[.val (.long p1), .second, .val (.int p2), .val (.int p3), .val (.int p4), .val (.int p5), .val (.int p6), .val (.ref b1), .val (.long ww), .second, .val (.int z21), .val (.int z22), .val (.int z23), .unset, .unset, .unset, .unset, .unset, .unset, .unset, .unset, .unset, .unset, .unset, .unset, .unset, .unset, .unset, .unset, .unset, .unset, .unset, .unset] [(.ref b24)]))
  refine Run.x_dup (q := 436) X65 hx (hb hby at_435) rfl rfl ?_
  refine Run.x_bipush (q := 438) X65 hx (hb hby at_436) (z := (22 : Int32)) rfl rfl ?_
  refine Run.x_iload (q := 440) X65 hx (hb hby at_438) rfl rfl ?_
  refine Run.stB X65 hx hZ e65 A_b24 (i := 22) (by decide) (Nat.le_of_ble_eq_true rfl) (z' := z23) (own_byte hza23 hzb23) (hb hby at_440) ?_
  intro T66 h66 X66 e66 W66 A66
  replace A_b24 : Ars Z h66 b24 .byte [(.int p6.toInt8.toInt32), (.int z21), (.int z27), (.int z29), (.int z31), (.int z33), (.int z35), (.int z37), (.int z39), (.int z41), (.int z43), (.int z45), (.int z47), (.int z49), (.int z51), (.int z53), (.int z55), (.int z57), (.int z59), (.int z61), (.int z63), (.int z22), (.int z23), (.int (0 : Int32))] := A66
  have N66 := Fr.snoc X66 N65 g_b24
  have Z66 : n0 ≤ h66.size := Nat.le_trans Z65 (Nat.le_of_eq W66.size.symm)
  show Run p e below s _ _ _ (T66.setTop (mkF m 441 #[.val (.long p1), .second, .val (.int p2), .val (.int p3), .val (.int p4), .val (.int p5), .val (.int p6), .val (.ref b1), .val (.long ww), .second, .val (.int z21), .val (.int z22), .val (.int z23), .unset, .unset, .unset, .unset, .unset, .unset, .unset, .unset, .unset, .unset, .unset, .unset, .unset, .unset, .unset, .unset, .unset, .unset, .unset, .unset] [(.ref b24)]))
  refine Run.x_dup (q := 442) X66 hx (hb hby at_441) rfl rfl ?_
  refine Run.x_bipush (q := 444) X66 hx (hb hby at_442) (z := (23 : Int32)) rfl rfl ?_
  refine Run.x_iload (q := 446) X66 hx (hb hby at_444) rfl rfl ?_
  refine Run.x_bipush (q := 448) X66 hx (hb hby at_446) (z := (8 : Int32)) rfl rfl ?_
  refine Run.x_iushr (q := 449) X66 hx (hb hby at_448) rfl rfl ?_
  refine Run.x_i2b (q := 450) X66 hx (hb hby at_449) rfl rfl ?_
  refine Run.stB X66 hx hZ e66 A_b24 (i := 23) (by decide) (Nat.le_of_ble_eq_true rfl) (z' := ((p6.toUInt32 >>> ((8 : Int32) &&& 31).toUInt32).toInt32).toInt8.toInt32) (nar_b _) (hb hby at_450) ?_
  intro T67 h67 X67 e67 W67 A67
  replace A_b24 : Ars Z h67 b24 .byte [(.int p6.toInt8.toInt32), (.int z21), (.int z27), (.int z29), (.int z31), (.int z33), (.int z35), (.int z37), (.int z39), (.int z41), (.int z43), (.int z45), (.int z47), (.int z49), (.int z51), (.int z53), (.int z55), (.int z57), (.int z59), (.int z61), (.int z63), (.int z22), (.int z23), (.int ((p6.toUInt32 >>> ((8 : Int32) &&& 31).toUInt32).toInt32).toInt8.toInt32)] := A67
  have N67 := Fr.snoc X67 N66 g_b24
  have Z67 : n0 ≤ h67.size := Nat.le_trans Z66 (Nat.le_of_eq W67.size.symm)
  show Run p e below s _ _ _ (T67.setTop (mkF m 451 #[.val (.long p1), .second, .val (.int p2), .val (.int p3), .val (.int p4), .val (.int p5), .val (.int p6), .val (.ref b1), .val (.long ww), .second, .val (.int z21), .val (.int z22), .val (.int z23), .unset, .unset, .unset, .unset, .unset, .unset, .unset, .unset, .unset, .unset, .unset, .unset, .unset, .unset, .unset, .unset, .unset, .unset, .unset, .unset] [(.ref b24)]))
  refine Run.x_astore (q := 453) X67 hx #[.val (.long p1), .second, .val (.int p2), .val (.int p3), .val (.int p4), .val (.int p5), .val (.int p6), .val (.ref b1), .val (.long ww), .second, .val (.int z21), .val (.int z22), .val (.int z23), .val (.ref b24), .unset, .unset, .unset, .unset, .unset, .unset, .unset, .unset, .unset, .unset, .unset, .unset, .unset, .unset, .unset, .unset, .unset, .unset, .unset] (hb hby at_451) rfl rfl rfl ?_
  obtain ⟨bs, hbs⟩ : ∃ l : List Int32, l = [p6.toInt8.toInt32, z21, z27, z29, z31, z33, z35, z37, z39, z41, z43, z45, z47, z49, z51, z53, z55, z57, z59, z61, z63, z22, z23, ((p6.toUInt32 >>> ((8 : Int32) &&& 31).toUInt32).toInt32).toInt8.toInt32] := ⟨_, rfl⟩
  replace A_b24 : Ars Z h67 b24 .byte (bs.map Value.int) := by rw [hbs]; exact A_b24
  have hD : ∀ i, i < 19 → ∃ c : Int32, (bs.drop 2)[i]? = some c ∧ c.toInt = 48 + (ww.toInt / 10 ^ (18 - i)) % 10 := by
    intro i hi
    rw [hbs]
    have : i = 0 ∨ i = 1 ∨ i = 2 ∨ i = 3 ∨ i = 4 ∨ i = 5 ∨ i = 6 ∨ i = 7 ∨ i = 8 ∨ i = 9 ∨ i = 10 ∨ i = 11 ∨ i = 12 ∨ i = 13 ∨ i = 14 ∨ i = 15 ∨ i = 16 ∨ i = 17 ∨ i = 18 := by omega
    rcases this with rfl | rfl | rfl | rfl | rfl | rfl | rfl | rfl | rfl | rfl | rfl | rfl | rfl | rfl | rfl | rfl | rfl | rfl | rfl
    · exact ⟨_, rfl, hz27⟩
    · exact ⟨_, rfl, hz29⟩
    · exact ⟨_, rfl, hz31⟩
    · exact ⟨_, rfl, hz33⟩
    · exact ⟨_, rfl, hz35⟩
    · exact ⟨_, rfl, hz37⟩
    · exact ⟨_, rfl, hz39⟩
    · exact ⟨_, rfl, hz41⟩
    · exact ⟨_, rfl, hz43⟩
    · exact ⟨_, rfl, hz45⟩
    · exact ⟨_, rfl, hz47⟩
    · exact ⟨_, rfl, hz49⟩
    · exact ⟨_, rfl, hz51⟩
    · exact ⟨_, rfl, hz53⟩
    · exact ⟨_, rfl, hz55⟩
    · exact ⟨_, rfl, hz57⟩
    · exact ⟨_, rfl, hz59⟩
    · exact ⟨_, rfl, hz61⟩
    · exact ⟨_, rfl, hz63⟩
  have hT1 : (bs.drop 2)[19]? = some z22 := by rw [hbs]; rfl
  have hT2 : (bs.drop 2)[20]? = some z23 := by rw [hbs]; rfl
  have hS : (bs.drop 1) = z21 :: bs.drop 2 := by rw [hbs]; rfl
  clear hz63 hz61 hz59 hz57 hz55 hz53 hz51 hz49 hz47 hz45 hz43 hz41 hz39 hz37 hz35 hz33 hz31 hz29 hz27
  have hwD := fun {M : Int} (hM : 0 ≤ M) => own_lp_D (w := ww.toInt) hww0.1 hww0.2 hD hM
  have J831 : ∀ (T68 : State) (h68 : Heap) (lo68 : List Loc) (hs : Int32) (dq : Int32) (fr : Int32) (tq : Int32) (jq : Int32) (kq : Int32) (ng : Int32) (g : Int64) (sd : Int64) (pp : Int64) (mag : Int64) (M : Int), Stand p l e room_1 s m #[(.long p1), (.int p2), (.int p3), (.int p4), (.int p5), (.int p6)] below meth c T68 lo68 2 43 → T68.heap = h68 → Fr n0 lo68 → n0 ≤ h68.size → Ars Z h68 b1 .long [(.long (1 : Int64)), (.long (10 : Int64)), (.long (100 : Int64)), (.long (1000 : Int64)), (.long (10000 : Int64)), (.long (100000 : Int64)), (.long (1000000 : Int64)), (.long (10000000 : Int64)), (.long (100000000 : Int64)), (.long (1000000000 : Int64)), (.long (10000000000 : Int64)), (.long (100000000000 : Int64)), (.long (1000000000000 : Int64)), (.long (10000000000000 : Int64)), (.long (100000000000000 : Int64)), (.long (1000000000000000 : Int64)), (.long (10000000000000000 : Int64)), (.long (100000000000000000 : Int64)), (.long (1000000000000000000 : Int64))] → (ng = 0 ∨ ng = 1) → (0 ≤ M) → (g.toInt = own_res ng (some (own_sat M))) → (mag.toInt = own_cap M) → Run p e below s (Tru n0) room_1.cells room_1.slots (T68.setTop (mkF m 831 #[.val (.long p1), .second, .val (.int p2), .val (.int p3), .val (.int p4), .val (.int p5), .val (.int p6), .val (.ref b1), .val (.long ww), .second, .val (.int z21), .val (.int z22), .val (.int z23), .val (.ref b24), .val (.int hs), .val (.int dq), .val (.int fr), .val (.int tq), .val (.long g), .second, .val (.int jq), .val (.int kq), .val (.int ng), .val (.long sd), .second, .val (.long pp), .second, .val (.long mag), .second, .unset, .unset, .unset, .unset] [])) := by
    intro T68 h68 lo68 hs dq fr tq jq kq ng g sd pp mag M X68 e68 N68 Z68 A_b1 hng hM hg hmag
    refine Run.x_iload (q := 833) X68 hx (hb hby at_831) rfl rfl ?_
    by_cases hc833 : ng = (0 : Int32)
    · skip
      refine Run.x_ifYes (q := 842) X68 hx (hb hby at_833) ((if0 _ _).trans (teq hc833).1) (by decide) (by decide) ?_
      refine Run.st (B := T68.setTop (mkF m 845 #[.val (.long p1), .second, .val (.int p2), .val (.int p3), .val (.int p4), .val (.int p5), .val (.int p6), .val (.ref b1), .val (.long ww), .second, .val (.int z21), .val (.int z22), .val (.int z23), .val (.ref b24), .val (.int hs), .val (.int dq), .val (.int fr), .val (.int tq), .val (.long g), .second, .val (.int jq), .val (.int kq), .val (.int ng), .val (.long sd), .second, .val (.long pp), .second, .val (.long mag), .second, .unset, .unset, .unset, .unset] [(.long (9223372036854775807 : Int64))])) (fun t kt => X68.ldc2Long hx hown (mvT hZ (hw _ (List.mem_of_getElem? (i := 19) rfl))) (g := (mkF m 842 #[.val (.long p1), .second, .val (.int p2), .val (.int p3), .val (.int p4), .val (.int p5), .val (.int p6), .val (.ref b1), .val (.long ww), .second, .val (.int z21), .val (.int z22), .val (.int z23), .val (.ref b24), .val (.int hs), .val (.int dq), .val (.int fr), .val (.int tq), .val (.long g), .second, .val (.int jq), .val (.int kq), .val (.int ng), .val (.long sd), .second, .val (.long pp), .second, .val (.long mag), .second, .unset, .unset, .unset, .unset] [])) rfl (hb hby at_842) _ kt) ?_
      refine Run.x_lstore (q := 847) X68 hx #[.val (.long p1), .second, .val (.int p2), .val (.int p3), .val (.int p4), .val (.int p5), .val (.int p6), .val (.ref b1), .val (.long ww), .second, .val (.int z21), .val (.int z22), .val (.int z23), .val (.ref b24), .val (.int hs), .val (.int dq), .val (.int fr), .val (.int tq), .val (.long g), .second, .val (.int jq), .val (.int kq), .val (.int ng), .val (.long sd), .second, .val (.long pp), .second, .val (.long mag), .second, .val (.long (9223372036854775807 : Int64)), .second, .unset, .unset] (hb hby at_845) rfl rfl ?_
      refine Run.x_lload (q := 849) X68 hx (hb hby at_847) rfl rfl ?_
      refine Run.x_lconst (q := 850) X68 hx (hb hby at_849) (z := (0 : Int64)) rfl rfl ?_
      refine Run.x_lcmp (q := 851) X68 hx (hb hby at_850)  rfl ?_
      by_cases hc851 : mag < (0 : Int64)
      · skip
        refine Run.x_ifNo (q := 854) X68 hx (hb hby at_851) ((if0 _ _).trans (tlt ((lw_lt mag (0 : Int64)).mpr hc851)).2.1) rfl ?_
        refine Run.x_lload (q := 856) X68 hx (hb hby at_854) rfl rfl ?_
        refine Run.x_lload (q := 858) X68 hx (hb hby at_856) rfl rfl ?_
        refine Run.x_lcmp (q := 859) X68 hx (hb hby at_858)  rfl ?_
        refine Run.x_ifNo (q := 862) X68 hx (hb hby at_859) ((if0 _ _).trans (teq ((lw_eq g (9223372036854775807 : Int64)).mpr (by rw [eq64, hg, own_res0 hc833, own_f1 hM hmag hc851]; rfl))).2) rfl ?_
        refine Run.x_iconst (q := 863) X68 hx (hb hby at_862) (z := (1 : Int32)) rfl rfl ?_
        refine Run.x_goto (q := 867) X68 hx (hb hby at_863) (by decide) (by decide) ?_
        refine Run.retN X68 hx hlk e68 (t := .boolean) hret (by simp) (z' := (1 : Int32)) (by decide) (hb hby at_867) (by decide) (by decide) ?_
        exact ⟨rfl, N68⟩
      · skip
        refine Run.x_ifYes (q := 868) X68 hx (hb hby at_851) ((if0 _ _).trans (flt (mt (lw_lt mag (0 : Int64)).mp hc851)).2.1) (by decide) (by decide) ?_
        refine Run.x_iload (q := 870) X68 hx (hb hby at_868) rfl rfl ?_
        refine Run.x_ifYes (q := 879) X68 hx (hb hby at_870) ((if0 _ _).trans (teq hc833).1) (by decide) (by decide) ?_
        refine Run.x_lload (q := 881) X68 hx (hb hby at_879) rfl rfl ?_
        refine Run.x_lstore (q := 883) X68 hx #[.val (.long p1), .second, .val (.int p2), .val (.int p3), .val (.int p4), .val (.int p5), .val (.int p6), .val (.ref b1), .val (.long ww), .second, .val (.int z21), .val (.int z22), .val (.int z23), .val (.ref b24), .val (.int hs), .val (.int dq), .val (.int fr), .val (.int tq), .val (.long g), .second, .val (.int jq), .val (.int kq), .val (.int ng), .val (.long sd), .second, .val (.long pp), .second, .val (.long mag), .second, .val (.long (9223372036854775807 : Int64)), .second, .val (.long mag), .second] (hb hby at_881) rfl rfl ?_
        refine Run.x_lload (q := 885) X68 hx (hb hby at_883) rfl rfl ?_
        refine Run.st (B := T68.setTop (mkF m 888 #[.val (.long p1), .second, .val (.int p2), .val (.int p3), .val (.int p4), .val (.int p5), .val (.int p6), .val (.ref b1), .val (.long ww), .second, .val (.int z21), .val (.int z22), .val (.int z23), .val (.ref b24), .val (.int hs), .val (.int dq), .val (.int fr), .val (.int tq), .val (.long g), .second, .val (.int jq), .val (.int kq), .val (.int ng), .val (.long sd), .second, .val (.long pp), .second, .val (.long mag), .second, .val (.long (9223372036854775807 : Int64)), .second, .val (.long mag), .second] [(.long (9223372036854775800 : Int64)), (.long mag)])) (fun t kt => X68.ldc2Long hx hown (mvT hZ (hw _ (List.mem_of_getElem? (i := 41) rfl))) (g := (mkF m 885 #[.val (.long p1), .second, .val (.int p2), .val (.int p3), .val (.int p4), .val (.int p5), .val (.int p6), .val (.ref b1), .val (.long ww), .second, .val (.int z21), .val (.int z22), .val (.int z23), .val (.ref b24), .val (.int hs), .val (.int dq), .val (.int fr), .val (.int tq), .val (.long g), .second, .val (.int jq), .val (.int kq), .val (.int ng), .val (.long sd), .second, .val (.long pp), .second, .val (.long mag), .second, .val (.long (9223372036854775807 : Int64)), .second, .val (.long mag), .second] [(.long mag)])) rfl (hb hby at_885) _ kt) ?_
        refine Run.x_lcmp (q := 889) X68 hx (hb hby at_888)  rfl ?_
        by_cases hc889 : mag < (9223372036854775800 : Int64)
        · skip
          refine Run.x_ifNo (q := 892) X68 hx (hb hby at_889) ((if0 _ _).trans (tlt ((lw_lt mag (9223372036854775800 : Int64)).mpr hc889)).2.1) rfl ?_
          refine Run.x_lload (q := 894) X68 hx (hb hby at_892) rfl rfl ?_
          refine Run.x_lload (q := 896) X68 hx (hb hby at_894) rfl rfl ?_
          refine Run.x_lcmp (q := 897) X68 hx (hb hby at_896)  rfl ?_
          refine Run.x_ifNo (q := 900) X68 hx (hb hby at_897) ((if0 _ _).trans (teq ((lw_eq g mag).mpr (by rw [eq64, hg, own_res0 hc833, (own_f2 hM hmag hc851 hc889).1]))).2) rfl ?_
          refine Run.x_iconst (q := 901) X68 hx (hb hby at_900) (z := (1 : Int32)) rfl rfl ?_
          refine Run.x_goto (q := 905) X68 hx (hb hby at_901) (by decide) (by decide) ?_
          refine Run.retN X68 hx hlk e68 (t := .boolean) hret (by simp) (z' := (1 : Int32)) (by decide) (hb hby at_905) (by decide) (by decide) ?_
          exact ⟨rfl, N68⟩
        · skip
          refine Run.x_ifYes (q := 906) X68 hx (hb hby at_889) ((if0 _ _).trans (flt (mt (lw_lt mag (9223372036854775800 : Int64)).mp hc889)).2.1) (by decide) (by decide) ?_
          refine Run.x_lload (q := 908) X68 hx (hb hby at_906) rfl rfl ?_
          refine Run.x_lload (q := 910) X68 hx (hb hby at_908) rfl rfl ?_
          refine Run.x_lcmp (q := 911) X68 hx (hb hby at_910)  rfl ?_
          by_cases hc911 : g = mag
          · skip
            refine Run.x_ifYes (q := 922) X68 hx (hb hby at_911) ((if0 _ _).trans (teq ((lw_eq g mag).mpr hc911)).1) (by decide) (by decide) ?_
            refine Run.x_iconst (q := 923) X68 hx (hb hby at_922) (z := (1 : Int32)) rfl rfl ?_
            refine Run.x_goto (q := 927) X68 hx (hb hby at_923) (by decide) (by decide) ?_
            refine Run.retN X68 hx hlk e68 (t := .boolean) hret (by simp) (z' := (1 : Int32)) (by decide) (hb hby at_927) (by decide) (by decide) ?_
            exact ⟨rfl, N68⟩
          · skip
            refine Run.x_ifNo (q := 914) X68 hx (hb hby at_911) ((if0 _ _).trans (feq (mt (lw_eq g mag).mp hc911)).1) rfl ?_
            refine Run.x_lload (q := 916) X68 hx (hb hby at_914) rfl rfl ?_
            refine Run.x_lload (q := 918) X68 hx (hb hby at_916) rfl rfl ?_
            refine Run.x_lcmp (q := 919) X68 hx (hb hby at_918)  rfl ?_
            refine Run.x_ifNo (q := 922) X68 hx (hb hby at_919) ((if0 _ _).trans (teq ((lw_eq g (9223372036854775807 : Int64)).mpr (by rw [eq64, hg, own_res0 hc833, own_f3 hmag hc851 hc889]; rfl))).2) rfl ?_
            refine Run.x_iconst (q := 923) X68 hx (hb hby at_922) (z := (1 : Int32)) rfl rfl ?_
            refine Run.x_goto (q := 927) X68 hx (hb hby at_923) (by decide) (by decide) ?_
            refine Run.retN X68 hx hlk e68 (t := .boolean) hret (by simp) (z' := (1 : Int32)) (by decide) (hb hby at_927) (by decide) (by decide) ?_
            exact ⟨rfl, N68⟩
    · skip
      refine Run.x_ifNo (q := 836) X68 hx (hb hby at_833) ((if0 _ _).trans (feq hc833).1) rfl ?_
      refine Run.st (B := T68.setTop (mkF m 839 #[.val (.long p1), .second, .val (.int p2), .val (.int p3), .val (.int p4), .val (.int p5), .val (.int p6), .val (.ref b1), .val (.long ww), .second, .val (.int z21), .val (.int z22), .val (.int z23), .val (.ref b24), .val (.int hs), .val (.int dq), .val (.int fr), .val (.int tq), .val (.long g), .second, .val (.int jq), .val (.int kq), .val (.int ng), .val (.long sd), .second, .val (.long pp), .second, .val (.long mag), .second, .unset, .unset, .unset, .unset] [(.long (-9223372036854775807 : Int64))])) (fun t kt => X68.ldc2Long hx hown (mvT hZ (hw _ (List.mem_of_getElem? (i := 40) rfl))) (g := (mkF m 836 #[.val (.long p1), .second, .val (.int p2), .val (.int p3), .val (.int p4), .val (.int p5), .val (.int p6), .val (.ref b1), .val (.long ww), .second, .val (.int z21), .val (.int z22), .val (.int z23), .val (.ref b24), .val (.int hs), .val (.int dq), .val (.int fr), .val (.int tq), .val (.long g), .second, .val (.int jq), .val (.int kq), .val (.int ng), .val (.long sd), .second, .val (.long pp), .second, .val (.long mag), .second, .unset, .unset, .unset, .unset] [])) rfl (hb hby at_836) _ kt) ?_
      refine Run.x_goto (q := 845) X68 hx (hb hby at_839) (by decide) (by decide) ?_
      refine Run.x_lstore (q := 847) X68 hx #[.val (.long p1), .second, .val (.int p2), .val (.int p3), .val (.int p4), .val (.int p5), .val (.int p6), .val (.ref b1), .val (.long ww), .second, .val (.int z21), .val (.int z22), .val (.int z23), .val (.ref b24), .val (.int hs), .val (.int dq), .val (.int fr), .val (.int tq), .val (.long g), .second, .val (.int jq), .val (.int kq), .val (.int ng), .val (.long sd), .second, .val (.long pp), .second, .val (.long mag), .second, .val (.long (-9223372036854775807 : Int64)), .second, .unset, .unset] (hb hby at_845) rfl rfl ?_
      refine Run.x_lload (q := 849) X68 hx (hb hby at_847) rfl rfl ?_
      refine Run.x_lconst (q := 850) X68 hx (hb hby at_849) (z := (0 : Int64)) rfl rfl ?_
      refine Run.x_lcmp (q := 851) X68 hx (hb hby at_850)  rfl ?_
      by_cases hc851 : mag < (0 : Int64)
      · skip
        refine Run.x_ifNo (q := 854) X68 hx (hb hby at_851) ((if0 _ _).trans (tlt ((lw_lt mag (0 : Int64)).mpr hc851)).2.1) rfl ?_
        refine Run.x_lload (q := 856) X68 hx (hb hby at_854) rfl rfl ?_
        refine Run.x_lload (q := 858) X68 hx (hb hby at_856) rfl rfl ?_
        refine Run.x_lcmp (q := 859) X68 hx (hb hby at_858)  rfl ?_
        refine Run.x_ifNo (q := 862) X68 hx (hb hby at_859) ((if0 _ _).trans (teq ((lw_eq g (-9223372036854775807 : Int64)).mpr (by rw [eq64, hg, own_resN hc833, own_f1 hM hmag hc851]; rfl))).2) rfl ?_
        refine Run.x_iconst (q := 863) X68 hx (hb hby at_862) (z := (1 : Int32)) rfl rfl ?_
        refine Run.x_goto (q := 867) X68 hx (hb hby at_863) (by decide) (by decide) ?_
        refine Run.retN X68 hx hlk e68 (t := .boolean) hret (by simp) (z' := (1 : Int32)) (by decide) (hb hby at_867) (by decide) (by decide) ?_
        exact ⟨rfl, N68⟩
      · skip
        refine Run.x_ifYes (q := 868) X68 hx (hb hby at_851) ((if0 _ _).trans (flt (mt (lw_lt mag (0 : Int64)).mp hc851)).2.1) (by decide) (by decide) ?_
        refine Run.x_iload (q := 870) X68 hx (hb hby at_868) rfl rfl ?_
        refine Run.x_ifNo (q := 873) X68 hx (hb hby at_870) ((if0 _ _).trans (feq hc833).1) rfl ?_
        refine Run.x_lload (q := 875) X68 hx (hb hby at_873) rfl rfl ?_
        refine Run.x_lneg (q := 876) X68 hx (hb hby at_875) rfl rfl ?_
        refine Run.x_goto (q := 881) X68 hx (hb hby at_876) (by decide) (by decide) ?_
        refine Run.x_lstore (q := 883) X68 hx #[.val (.long p1), .second, .val (.int p2), .val (.int p3), .val (.int p4), .val (.int p5), .val (.int p6), .val (.ref b1), .val (.long ww), .second, .val (.int z21), .val (.int z22), .val (.int z23), .val (.ref b24), .val (.int hs), .val (.int dq), .val (.int fr), .val (.int tq), .val (.long g), .second, .val (.int jq), .val (.int kq), .val (.int ng), .val (.long sd), .second, .val (.long pp), .second, .val (.long mag), .second, .val (.long (-9223372036854775807 : Int64)), .second, .val (.long (-mag)), .second] (hb hby at_881) rfl rfl ?_
        generalize hv69 : (-mag) = v69
        refine Run.x_lload (q := 885) X68 hx (hb hby at_883) rfl rfl ?_
        refine Run.st (B := T68.setTop (mkF m 888 #[.val (.long p1), .second, .val (.int p2), .val (.int p3), .val (.int p4), .val (.int p5), .val (.int p6), .val (.ref b1), .val (.long ww), .second, .val (.int z21), .val (.int z22), .val (.int z23), .val (.ref b24), .val (.int hs), .val (.int dq), .val (.int fr), .val (.int tq), .val (.long g), .second, .val (.int jq), .val (.int kq), .val (.int ng), .val (.long sd), .second, .val (.long pp), .second, .val (.long mag), .second, .val (.long (-9223372036854775807 : Int64)), .second, .val (.long v69), .second] [(.long (9223372036854775800 : Int64)), (.long mag)])) (fun t kt => X68.ldc2Long hx hown (mvT hZ (hw _ (List.mem_of_getElem? (i := 41) rfl))) (g := (mkF m 885 #[.val (.long p1), .second, .val (.int p2), .val (.int p3), .val (.int p4), .val (.int p5), .val (.int p6), .val (.ref b1), .val (.long ww), .second, .val (.int z21), .val (.int z22), .val (.int z23), .val (.ref b24), .val (.int hs), .val (.int dq), .val (.int fr), .val (.int tq), .val (.long g), .second, .val (.int jq), .val (.int kq), .val (.int ng), .val (.long sd), .second, .val (.long pp), .second, .val (.long mag), .second, .val (.long (-9223372036854775807 : Int64)), .second, .val (.long v69), .second] [(.long mag)])) rfl (hb hby at_885) _ kt) ?_
        refine Run.x_lcmp (q := 889) X68 hx (hb hby at_888)  rfl ?_
        by_cases hc889 : mag < (9223372036854775800 : Int64)
        · skip
          refine Run.x_ifNo (q := 892) X68 hx (hb hby at_889) ((if0 _ _).trans (tlt ((lw_lt mag (9223372036854775800 : Int64)).mpr hc889)).2.1) rfl ?_
          refine Run.x_lload (q := 894) X68 hx (hb hby at_892) rfl rfl ?_
          refine Run.x_lload (q := 896) X68 hx (hb hby at_894) rfl rfl ?_
          refine Run.x_lcmp (q := 897) X68 hx (hb hby at_896)  rfl ?_
          refine Run.x_ifNo (q := 900) X68 hx (hb hby at_897) ((if0 _ _).trans (teq ((lw_eq g v69).mpr (by rw [eq64, ← hv69, hg, own_resN hc833, (own_f2 hM hmag hc851 hc889).1, own_neg (own_f2 hM hmag hc851 hc889).2]))).2) rfl ?_
          refine Run.x_iconst (q := 901) X68 hx (hb hby at_900) (z := (1 : Int32)) rfl rfl ?_
          refine Run.x_goto (q := 905) X68 hx (hb hby at_901) (by decide) (by decide) ?_
          refine Run.retN X68 hx hlk e68 (t := .boolean) hret (by simp) (z' := (1 : Int32)) (by decide) (hb hby at_905) (by decide) (by decide) ?_
          exact ⟨rfl, N68⟩
        · skip
          refine Run.x_ifYes (q := 906) X68 hx (hb hby at_889) ((if0 _ _).trans (flt (mt (lw_lt mag (9223372036854775800 : Int64)).mp hc889)).2.1) (by decide) (by decide) ?_
          refine Run.x_lload (q := 908) X68 hx (hb hby at_906) rfl rfl ?_
          refine Run.x_lload (q := 910) X68 hx (hb hby at_908) rfl rfl ?_
          refine Run.x_lcmp (q := 911) X68 hx (hb hby at_910)  rfl ?_
          by_cases hc911 : g = v69
          · skip
            refine Run.x_ifYes (q := 922) X68 hx (hb hby at_911) ((if0 _ _).trans (teq ((lw_eq g v69).mpr hc911)).1) (by decide) (by decide) ?_
            refine Run.x_iconst (q := 923) X68 hx (hb hby at_922) (z := (1 : Int32)) rfl rfl ?_
            refine Run.x_goto (q := 927) X68 hx (hb hby at_923) (by decide) (by decide) ?_
            refine Run.retN X68 hx hlk e68 (t := .boolean) hret (by simp) (z' := (1 : Int32)) (by decide) (hb hby at_927) (by decide) (by decide) ?_
            exact ⟨rfl, N68⟩
          · skip
            refine Run.x_ifNo (q := 914) X68 hx (hb hby at_911) ((if0 _ _).trans (feq (mt (lw_eq g v69).mp hc911)).1) rfl ?_
            refine Run.x_lload (q := 916) X68 hx (hb hby at_914) rfl rfl ?_
            refine Run.x_lload (q := 918) X68 hx (hb hby at_916) rfl rfl ?_
            refine Run.x_lcmp (q := 919) X68 hx (hb hby at_918)  rfl ?_
            refine Run.x_ifNo (q := 922) X68 hx (hb hby at_919) ((if0 _ _).trans (teq ((lw_eq g (-9223372036854775807 : Int64)).mpr (by rw [eq64, hg, own_resN hc833, own_f3 hmag hc851 hc889]; rfl))).2) rfl ?_
            refine Run.x_iconst (q := 923) X68 hx (hb hby at_922) (z := (1 : Int32)) rfl rfl ?_
            refine Run.x_goto (q := 927) X68 hx (hb hby at_923) (by decide) (by decide) ?_
            refine Run.retN X68 hx hlk e68 (t := .boolean) hret (by simp) (z' := (1 : Int32)) (by decide) (hb hby at_927) (by decide) (by decide) ?_
            exact ⟨rfl, N68⟩
  have J761 : ∀ (T70 : State) (h70 : Heap) (lo70 : List Loc) (hs : Int32) (dq : Int32) (fr : Int32) (tq : Int32) (jq : Int32) (kq : Int32) (ng : Int32) (g : Int64) (sd : Int64) (pp : Int64) (mag : Int64) (M : Int) (kN : Nat), Stand p l e room_1 s m #[(.long p1), (.int p2), (.int p3), (.int p4), (.int p5), (.int p6)] below meth c T70 lo70 2 43 → T70.heap = h70 → Fr n0 lo70 → n0 ≤ h70.size → Ars Z h70 b1 .long [(.long (1 : Int64)), (.long (10 : Int64)), (.long (100 : Int64)), (.long (1000 : Int64)), (.long (10000 : Int64)), (.long (100000 : Int64)), (.long (1000000 : Int64)), (.long (10000000 : Int64)), (.long (100000000 : Int64)), (.long (1000000000 : Int64)), (.long (10000000000 : Int64)), (.long (100000000000 : Int64)), (.long (1000000000000 : Int64)), (.long (10000000000000 : Int64)), (.long (100000000000000 : Int64)), (.long (1000000000000000 : Int64)), (.long (10000000000000000 : Int64)), (.long (100000000000000000 : Int64)), (.long (1000000000000000000 : Int64))] → (ng = 0 ∨ ng = 1) → (0 ≤ M) → (kq.toInt = kN) → (kN ≤ 2) → (1 ≤ kN → own_dg z22) → (2 ≤ kN → own_dg z23) → (g.toInt = own_res ng (own_lp (own_sat M) ([z22, z23].take kN))) → (mag.toInt = own_cap M) → Run p e below s (Tru n0) room_1.cells room_1.slots (T70.setTop (mkF m 761 #[.val (.long p1), .second, .val (.int p2), .val (.int p3), .val (.int p4), .val (.int p5), .val (.int p6), .val (.ref b1), .val (.long ww), .second, .val (.int z21), .val (.int z22), .val (.int z23), .val (.ref b24), .val (.int hs), .val (.int dq), .val (.int fr), .val (.int tq), .val (.long g), .second, .val (.int jq), .val (.int kq), .val (.int ng), .val (.long sd), .second, .val (.long pp), .second, .val (.long mag), .second, .unset, .unset, .unset, .unset] [])) := by
    intro T70 h70 lo70 hs dq fr tq jq kq ng g sd pp mag M kN X70 e70 N70 Z70 A_b1 hng hM hk hk2 hd1 hd2 hg hmag
    have k012 : (0 : Int32).toInt = 0 ∧ (1 : Int32).toInt = 1 ∧ (2 : Int32).toInt = 2 := by decide
    have hcase : kN = 0 ∨ kN = 1 ∨ kN = 2 := by omega
    rcases hcase with rfl | rfl | rfl
    · skip
      refine Run.x_iload (q := 763) X70 hx (hb hby at_761) rfl rfl ?_
      refine Run.x_iconst (q := 764) X70 hx (hb hby at_763) (z := (1 : Int32)) rfl rfl ?_
      refine Run.x_icmpYes (q := 796) X70 hx (hb hby at_764) (tlt (by rw [lt32]; omega)).1 (by decide) (by decide) ?_
      refine Run.x_iload (q := 798) X70 hx (hb hby at_796) rfl rfl ?_
      refine Run.x_iconst (q := 799) X70 hx (hb hby at_798) (z := (2 : Int32)) rfl rfl ?_
      refine Run.x_icmpYes (q := 831) X70 hx (hb hby at_799) (tlt (by rw [lt32]; omega)).1 (by decide) (by decide) ?_
      exact J831 T70 h70 _ hs dq fr tq jq kq ng g sd pp mag (M) X70 e70 N70 Z70 A_b1 hng hM hg hmag
    · skip
      have hq1 := hd1 (by decide)
      have hx1 := own_dsub hq1
      refine Run.x_iload (q := 763) X70 hx (hb hby at_761) rfl rfl ?_
      refine Run.x_iconst (q := 764) X70 hx (hb hby at_763) (z := (1 : Int32)) rfl rfl ?_
      refine Run.x_icmpNo (q := 767) X70 hx (hb hby at_764) (flt (by rw [lt32]; omega)).1 rfl ?_
      refine Run.x_lload (q := 769) X70 hx (hb hby at_767) rfl rfl ?_
      refine Run.x_lconst (q := 770) X70 hx (hb hby at_769) (z := (0 : Int64)) rfl rfl ?_
      refine Run.x_lcmp (q := 771) X70 hx (hb hby at_770)  rfl ?_
      by_cases hc771 : mag < (0 : Int64)
      · skip
        refine Run.x_ifNo (q := 774) X70 hx (hb hby at_771) ((if0 _ _).trans (tlt ((lw_lt mag (0 : Int64)).mpr hc771)).2.1) rfl ?_
        refine Run.st (B := T70.setTop (mkF m 777 #[.val (.long p1), .second, .val (.int p2), .val (.int p3), .val (.int p4), .val (.int p5), .val (.int p6), .val (.ref b1), .val (.long ww), .second, .val (.int z21), .val (.int z22), .val (.int z23), .val (.ref b24), .val (.int hs), .val (.int dq), .val (.int fr), .val (.int tq), .val (.long g), .second, .val (.int jq), .val (.int kq), .val (.int ng), .val (.long sd), .second, .val (.long pp), .second, .val (.long mag), .second, .unset, .unset, .unset, .unset] [(.long (-1 : Int64))])) (fun t kt => X70.ldc2Long hx hown (mvT hZ (hw _ (List.mem_of_getElem? (i := 39) rfl))) (g := (mkF m 774 #[.val (.long p1), .second, .val (.int p2), .val (.int p3), .val (.int p4), .val (.int p5), .val (.int p6), .val (.ref b1), .val (.long ww), .second, .val (.int z21), .val (.int z22), .val (.int z23), .val (.ref b24), .val (.int hs), .val (.int dq), .val (.int fr), .val (.int tq), .val (.long g), .second, .val (.int jq), .val (.int kq), .val (.int ng), .val (.long sd), .second, .val (.long pp), .second, .val (.long mag), .second, .unset, .unset, .unset, .unset] [])) rfl (hb hby at_774) _ kt) ?_
        refine Run.x_goto (q := 794) X70 hx (hb hby at_777) (by decide) (by decide) ?_
        have hm1 : (-1 : Int64).toInt = own_cap (M * 10 + (z22.toInt - 48)) := own_cap_neg hM (by omega) (by rw [← hmag]; have q := hc771; rw [lt64] at q; exact q)
        have hM1 : 0 ≤ M * 10 + (z22.toInt - 48) := by omega
        refine Run.x_lstore (q := 796) X70 hx #[.val (.long p1), .second, .val (.int p2), .val (.int p3), .val (.int p4), .val (.int p5), .val (.int p6), .val (.ref b1), .val (.long ww), .second, .val (.int z21), .val (.int z22), .val (.int z23), .val (.ref b24), .val (.int hs), .val (.int dq), .val (.int fr), .val (.int tq), .val (.long g), .second, .val (.int jq), .val (.int kq), .val (.int ng), .val (.long sd), .second, .val (.long pp), .second, .val (.long (-1 : Int64)), .second, .unset, .unset, .unset, .unset] (hb hby at_794) rfl rfl ?_
        refine Run.x_iload (q := 798) X70 hx (hb hby at_796) rfl rfl ?_
        refine Run.x_iconst (q := 799) X70 hx (hb hby at_798) (z := (2 : Int32)) rfl rfl ?_
        refine Run.x_icmpYes (q := 831) X70 hx (hb hby at_799) (tlt (by rw [lt32]; omega)).1 (by decide) (by decide) ?_
        exact J831 T70 h70 _ hs dq fr tq jq kq ng g sd pp (-1 : Int64) (M * 10 + (z22.toInt - 48)) X70 e70 N70 Z70 A_b1 hng (by omega) (by rw [hg]; show own_res ng (own_lp (own_sat M) [z22]) = _; rw [own_lp_step hM hq1]; rfl) hm1
      · skip
        refine Run.x_ifYes (q := 780) X70 hx (hb hby at_771) ((if0 _ _).trans (flt (mt (lw_lt mag (0 : Int64)).mp hc771)).2.1) (by decide) (by decide) ?_
        have hcp := own_cap_step (c := 0) hM (by decide) (by rw [← hmag]; have q := hc771; rw [lt64] at q; exact q)
        refine Run.x_lload (q := 782) X70 hx (hb hby at_780) rfl rfl ?_
        refine Run.x_iconst (q := 783) X70 hx (hb hby at_782) (z := (1 : Int32)) rfl rfl ?_
        refine Run.x_iload (q := 785) X70 hx (hb hby at_783) rfl rfl ?_
        refine Run.x_bipush (q := 787) X70 hx (hb hby at_785) (z := (48 : Int32)) rfl rfl ?_
        refine Run.x_isub (q := 788) X70 hx (hb hby at_787) rfl rfl ?_
        refine Run.x_i2l (q := 789) X70 hx (hb hby at_788) rfl rfl ?_
        refine Run.x_aload (q := 791) X70 hx (hb hby at_789) rfl rfl rfl ?_
        refine Run.callS X70 hx hZ e70 (y := (⟨"org/tertiary/io/FieldsIntegerPinLaw", "mulAdd", "(JIJ[J)J"⟩ : MethodName)) hown (hw _ (List.mem_of_getElem? (i := 45) rfl)) (hw _ (List.mem_of_getElem? (i := 46) rfl)) (hw _ (List.mem_of_getElem? (i := 22) rfl)) (hw _ (List.mem_of_getElem? (i := 47) rfl)) (by decide) (argsL := [(.long mag), (.int (1 : Int32)), (.long (z22 - (48 : Int32)).toInt64), (.ref b1)]) (rest := []) (c_mul l Z a0 hw mag (1 : Int32) (z22 - (48 : Int32)).toInt64 b1 h70 n0 Z70 1 A_b1 rfl (by decide) (by have q := hc771; rw [lt64] at q; have : (0 : Int64).toInt = 0 := rfl; omega) (by rw [hx1.1]; exact hx1.2.1)) pd_2 rfl (by rw [hml]; rfl) (W := 0) rfl (by decide) (by decide) (by decide) (by decide) (hb hby at_791) rfl ?_
        intro T71 v71 L71 X71 q71
        obtain ⟨z71, rfl, M71, e71, hz71⟩ := q71
        have N71 := Fr.app N70 M71
        show Run p e below s _ _ _ (T71.setTop (mkF m 794 #[.val (.long p1), .second, .val (.int p2), .val (.int p3), .val (.int p4), .val (.int p5), .val (.int p6), .val (.ref b1), .val (.long ww), .second, .val (.int z21), .val (.int z22), .val (.int z23), .val (.ref b24), .val (.int hs), .val (.int dq), .val (.int fr), .val (.int tq), .val (.long g), .second, .val (.int jq), .val (.int kq), .val (.int ng), .val (.long sd), .second, .val (.long pp), .second, .val (.long mag), .second, .unset, .unset, .unset, .unset] [(.long z71)]))
        have hm1 : z71.toInt = own_cap (M * 10 + (z22.toInt - 48)) := by rw [hz71, hmag, hcp.1, hx1.1, Int.pow_one]
        have hM1 : 0 ≤ M * 10 + (z22.toInt - 48) := by omega
        refine Run.x_lstore (q := 796) X71 hx #[.val (.long p1), .second, .val (.int p2), .val (.int p3), .val (.int p4), .val (.int p5), .val (.int p6), .val (.ref b1), .val (.long ww), .second, .val (.int z21), .val (.int z22), .val (.int z23), .val (.ref b24), .val (.int hs), .val (.int dq), .val (.int fr), .val (.int tq), .val (.long g), .second, .val (.int jq), .val (.int kq), .val (.int ng), .val (.long sd), .second, .val (.long pp), .second, .val (.long z71), .second, .unset, .unset, .unset, .unset] (hb hby at_794) rfl rfl ?_
        refine Run.x_iload (q := 798) X71 hx (hb hby at_796) rfl rfl ?_
        refine Run.x_iconst (q := 799) X71 hx (hb hby at_798) (z := (2 : Int32)) rfl rfl ?_
        refine Run.x_icmpYes (q := 831) X71 hx (hb hby at_799) (tlt (by rw [lt32]; omega)).1 (by decide) (by decide) ?_
        exact J831 T71 h70 _ hs dq fr tq jq kq ng g sd pp z71 (M * 10 + (z22.toInt - 48)) X71 e71 N71 Z70 A_b1 hng (by omega) (by rw [hg]; show own_res ng (own_lp (own_sat M) [z22]) = _; rw [own_lp_step hM hq1]; rfl) hm1
    · skip
      have hq1 := hd1 (by decide)
      have hx1 := own_dsub hq1
      have hq2 := hd2 (by decide)
      have hx2 := own_dsub hq2
      refine Run.x_iload (q := 763) X70 hx (hb hby at_761) rfl rfl ?_
      refine Run.x_iconst (q := 764) X70 hx (hb hby at_763) (z := (1 : Int32)) rfl rfl ?_
      refine Run.x_icmpNo (q := 767) X70 hx (hb hby at_764) (flt (by rw [lt32]; omega)).1 rfl ?_
      refine Run.x_lload (q := 769) X70 hx (hb hby at_767) rfl rfl ?_
      refine Run.x_lconst (q := 770) X70 hx (hb hby at_769) (z := (0 : Int64)) rfl rfl ?_
      refine Run.x_lcmp (q := 771) X70 hx (hb hby at_770)  rfl ?_
      by_cases hc771 : mag < (0 : Int64)
      · skip
        refine Run.x_ifNo (q := 774) X70 hx (hb hby at_771) ((if0 _ _).trans (tlt ((lw_lt mag (0 : Int64)).mpr hc771)).2.1) rfl ?_
        refine Run.st (B := T70.setTop (mkF m 777 #[.val (.long p1), .second, .val (.int p2), .val (.int p3), .val (.int p4), .val (.int p5), .val (.int p6), .val (.ref b1), .val (.long ww), .second, .val (.int z21), .val (.int z22), .val (.int z23), .val (.ref b24), .val (.int hs), .val (.int dq), .val (.int fr), .val (.int tq), .val (.long g), .second, .val (.int jq), .val (.int kq), .val (.int ng), .val (.long sd), .second, .val (.long pp), .second, .val (.long mag), .second, .unset, .unset, .unset, .unset] [(.long (-1 : Int64))])) (fun t kt => X70.ldc2Long hx hown (mvT hZ (hw _ (List.mem_of_getElem? (i := 39) rfl))) (g := (mkF m 774 #[.val (.long p1), .second, .val (.int p2), .val (.int p3), .val (.int p4), .val (.int p5), .val (.int p6), .val (.ref b1), .val (.long ww), .second, .val (.int z21), .val (.int z22), .val (.int z23), .val (.ref b24), .val (.int hs), .val (.int dq), .val (.int fr), .val (.int tq), .val (.long g), .second, .val (.int jq), .val (.int kq), .val (.int ng), .val (.long sd), .second, .val (.long pp), .second, .val (.long mag), .second, .unset, .unset, .unset, .unset] [])) rfl (hb hby at_774) _ kt) ?_
        refine Run.x_goto (q := 794) X70 hx (hb hby at_777) (by decide) (by decide) ?_
        have hm1 : (-1 : Int64).toInt = own_cap (M * 10 + (z22.toInt - 48)) := own_cap_neg hM (by omega) (by rw [← hmag]; have q := hc771; rw [lt64] at q; exact q)
        have hM1 : 0 ≤ M * 10 + (z22.toInt - 48) := by omega
        refine Run.x_lstore (q := 796) X70 hx #[.val (.long p1), .second, .val (.int p2), .val (.int p3), .val (.int p4), .val (.int p5), .val (.int p6), .val (.ref b1), .val (.long ww), .second, .val (.int z21), .val (.int z22), .val (.int z23), .val (.ref b24), .val (.int hs), .val (.int dq), .val (.int fr), .val (.int tq), .val (.long g), .second, .val (.int jq), .val (.int kq), .val (.int ng), .val (.long sd), .second, .val (.long pp), .second, .val (.long (-1 : Int64)), .second, .unset, .unset, .unset, .unset] (hb hby at_794) rfl rfl ?_
        refine Run.x_iload (q := 798) X70 hx (hb hby at_796) rfl rfl ?_
        refine Run.x_iconst (q := 799) X70 hx (hb hby at_798) (z := (2 : Int32)) rfl rfl ?_
        refine Run.x_icmpNo (q := 802) X70 hx (hb hby at_799) (flt (by rw [lt32]; omega)).1 rfl ?_
        refine Run.x_lload (q := 804) X70 hx (hb hby at_802) rfl rfl ?_
        refine Run.x_lconst (q := 805) X70 hx (hb hby at_804) (z := (0 : Int64)) rfl rfl ?_
        refine Run.x_lcmp (q := 806) X70 hx (hb hby at_805)  rfl ?_
        refine Run.x_ifNo (q := 809) X70 hx (hb hby at_806) ((if0 _ _).trans (tlt ((lw_lt (-1 : Int64) (0 : Int64)).mpr (by decide : (-1 : Int64) < (0 : Int64)))).2.1) rfl ?_
        refine Run.st (B := T70.setTop (mkF m 812 #[.val (.long p1), .second, .val (.int p2), .val (.int p3), .val (.int p4), .val (.int p5), .val (.int p6), .val (.ref b1), .val (.long ww), .second, .val (.int z21), .val (.int z22), .val (.int z23), .val (.ref b24), .val (.int hs), .val (.int dq), .val (.int fr), .val (.int tq), .val (.long g), .second, .val (.int jq), .val (.int kq), .val (.int ng), .val (.long sd), .second, .val (.long pp), .second, .val (.long (-1 : Int64)), .second, .unset, .unset, .unset, .unset] [(.long (-1 : Int64))])) (fun t kt => X70.ldc2Long hx hown (mvT hZ (hw _ (List.mem_of_getElem? (i := 39) rfl))) (g := (mkF m 809 #[.val (.long p1), .second, .val (.int p2), .val (.int p3), .val (.int p4), .val (.int p5), .val (.int p6), .val (.ref b1), .val (.long ww), .second, .val (.int z21), .val (.int z22), .val (.int z23), .val (.ref b24), .val (.int hs), .val (.int dq), .val (.int fr), .val (.int tq), .val (.long g), .second, .val (.int jq), .val (.int kq), .val (.int ng), .val (.long sd), .second, .val (.long pp), .second, .val (.long (-1 : Int64)), .second, .unset, .unset, .unset, .unset] [])) rfl (hb hby at_809) _ kt) ?_
        refine Run.x_goto (q := 829) X70 hx (hb hby at_812) (by decide) (by decide) ?_
        have hm2 : (-1 : Int64).toInt = own_cap ((M * 10 + (z22.toInt - 48)) * 10 + (z23.toInt - 48)) := own_cap_neg hM1 (by omega) (by rw [← hm1]; decide)
        refine Run.x_lstore (q := 831) X70 hx #[.val (.long p1), .second, .val (.int p2), .val (.int p3), .val (.int p4), .val (.int p5), .val (.int p6), .val (.ref b1), .val (.long ww), .second, .val (.int z21), .val (.int z22), .val (.int z23), .val (.ref b24), .val (.int hs), .val (.int dq), .val (.int fr), .val (.int tq), .val (.long g), .second, .val (.int jq), .val (.int kq), .val (.int ng), .val (.long sd), .second, .val (.long pp), .second, .val (.long (-1 : Int64)), .second, .unset, .unset, .unset, .unset] (hb hby at_829) rfl rfl ?_
        exact J831 T70 h70 _ hs dq fr tq jq kq ng g sd pp (-1 : Int64) ((M * 10 + (z22.toInt - 48)) * 10 + (z23.toInt - 48)) X70 e70 N70 Z70 A_b1 hng (by omega) (by rw [hg]; show own_res ng (own_lp (own_sat M) [z22, z23]) = _; rw [own_lp_step hM hq1, own_lp_step (by omega) hq2]; rfl) hm2
      · skip
        refine Run.x_ifYes (q := 780) X70 hx (hb hby at_771) ((if0 _ _).trans (flt (mt (lw_lt mag (0 : Int64)).mp hc771)).2.1) (by decide) (by decide) ?_
        have hcp := own_cap_step (c := 0) hM (by decide) (by rw [← hmag]; have q := hc771; rw [lt64] at q; exact q)
        refine Run.x_lload (q := 782) X70 hx (hb hby at_780) rfl rfl ?_
        refine Run.x_iconst (q := 783) X70 hx (hb hby at_782) (z := (1 : Int32)) rfl rfl ?_
        refine Run.x_iload (q := 785) X70 hx (hb hby at_783) rfl rfl ?_
        refine Run.x_bipush (q := 787) X70 hx (hb hby at_785) (z := (48 : Int32)) rfl rfl ?_
        refine Run.x_isub (q := 788) X70 hx (hb hby at_787) rfl rfl ?_
        refine Run.x_i2l (q := 789) X70 hx (hb hby at_788) rfl rfl ?_
        refine Run.x_aload (q := 791) X70 hx (hb hby at_789) rfl rfl rfl ?_
        refine Run.callS X70 hx hZ e70 (y := (⟨"org/tertiary/io/FieldsIntegerPinLaw", "mulAdd", "(JIJ[J)J"⟩ : MethodName)) hown (hw _ (List.mem_of_getElem? (i := 45) rfl)) (hw _ (List.mem_of_getElem? (i := 46) rfl)) (hw _ (List.mem_of_getElem? (i := 22) rfl)) (hw _ (List.mem_of_getElem? (i := 47) rfl)) (by decide) (argsL := [(.long mag), (.int (1 : Int32)), (.long (z22 - (48 : Int32)).toInt64), (.ref b1)]) (rest := []) (c_mul l Z a0 hw mag (1 : Int32) (z22 - (48 : Int32)).toInt64 b1 h70 n0 Z70 1 A_b1 rfl (by decide) (by have q := hc771; rw [lt64] at q; have : (0 : Int64).toInt = 0 := rfl; omega) (by rw [hx1.1]; exact hx1.2.1)) pd_2 rfl (by rw [hml]; rfl) (W := 0) rfl (by decide) (by decide) (by decide) (by decide) (hb hby at_791) rfl ?_
        intro T72 v72 L72 X72 q72
        obtain ⟨z72, rfl, M72, e72, hz72⟩ := q72
        have N72 := Fr.app N70 M72
        show Run p e below s _ _ _ (T72.setTop (mkF m 794 #[.val (.long p1), .second, .val (.int p2), .val (.int p3), .val (.int p4), .val (.int p5), .val (.int p6), .val (.ref b1), .val (.long ww), .second, .val (.int z21), .val (.int z22), .val (.int z23), .val (.ref b24), .val (.int hs), .val (.int dq), .val (.int fr), .val (.int tq), .val (.long g), .second, .val (.int jq), .val (.int kq), .val (.int ng), .val (.long sd), .second, .val (.long pp), .second, .val (.long mag), .second, .unset, .unset, .unset, .unset] [(.long z72)]))
        have hm1 : z72.toInt = own_cap (M * 10 + (z22.toInt - 48)) := by rw [hz72, hmag, hcp.1, hx1.1, Int.pow_one]
        have hM1 : 0 ≤ M * 10 + (z22.toInt - 48) := by omega
        refine Run.x_lstore (q := 796) X72 hx #[.val (.long p1), .second, .val (.int p2), .val (.int p3), .val (.int p4), .val (.int p5), .val (.int p6), .val (.ref b1), .val (.long ww), .second, .val (.int z21), .val (.int z22), .val (.int z23), .val (.ref b24), .val (.int hs), .val (.int dq), .val (.int fr), .val (.int tq), .val (.long g), .second, .val (.int jq), .val (.int kq), .val (.int ng), .val (.long sd), .second, .val (.long pp), .second, .val (.long z72), .second, .unset, .unset, .unset, .unset] (hb hby at_794) rfl rfl ?_
        refine Run.x_iload (q := 798) X72 hx (hb hby at_796) rfl rfl ?_
        refine Run.x_iconst (q := 799) X72 hx (hb hby at_798) (z := (2 : Int32)) rfl rfl ?_
        refine Run.x_icmpNo (q := 802) X72 hx (hb hby at_799) (flt (by rw [lt32]; omega)).1 rfl ?_
        refine Run.x_lload (q := 804) X72 hx (hb hby at_802) rfl rfl ?_
        refine Run.x_lconst (q := 805) X72 hx (hb hby at_804) (z := (0 : Int64)) rfl rfl ?_
        refine Run.x_lcmp (q := 806) X72 hx (hb hby at_805)  rfl ?_
        by_cases hc806 : z72 < (0 : Int64)
        · skip
          refine Run.x_ifNo (q := 809) X72 hx (hb hby at_806) ((if0 _ _).trans (tlt ((lw_lt z72 (0 : Int64)).mpr hc806)).2.1) rfl ?_
          refine Run.st (B := T72.setTop (mkF m 812 #[.val (.long p1), .second, .val (.int p2), .val (.int p3), .val (.int p4), .val (.int p5), .val (.int p6), .val (.ref b1), .val (.long ww), .second, .val (.int z21), .val (.int z22), .val (.int z23), .val (.ref b24), .val (.int hs), .val (.int dq), .val (.int fr), .val (.int tq), .val (.long g), .second, .val (.int jq), .val (.int kq), .val (.int ng), .val (.long sd), .second, .val (.long pp), .second, .val (.long z72), .second, .unset, .unset, .unset, .unset] [(.long (-1 : Int64))])) (fun t kt => X72.ldc2Long hx hown (mvT hZ (hw _ (List.mem_of_getElem? (i := 39) rfl))) (g := (mkF m 809 #[.val (.long p1), .second, .val (.int p2), .val (.int p3), .val (.int p4), .val (.int p5), .val (.int p6), .val (.ref b1), .val (.long ww), .second, .val (.int z21), .val (.int z22), .val (.int z23), .val (.ref b24), .val (.int hs), .val (.int dq), .val (.int fr), .val (.int tq), .val (.long g), .second, .val (.int jq), .val (.int kq), .val (.int ng), .val (.long sd), .second, .val (.long pp), .second, .val (.long z72), .second, .unset, .unset, .unset, .unset] [])) rfl (hb hby at_809) _ kt) ?_
          refine Run.x_goto (q := 829) X72 hx (hb hby at_812) (by decide) (by decide) ?_
          have hm2 : (-1 : Int64).toInt = own_cap ((M * 10 + (z22.toInt - 48)) * 10 + (z23.toInt - 48)) := own_cap_neg hM1 (by omega) (by rw [← hm1]; have q := hc806; rw [lt64] at q; exact q)
          refine Run.x_lstore (q := 831) X72 hx #[.val (.long p1), .second, .val (.int p2), .val (.int p3), .val (.int p4), .val (.int p5), .val (.int p6), .val (.ref b1), .val (.long ww), .second, .val (.int z21), .val (.int z22), .val (.int z23), .val (.ref b24), .val (.int hs), .val (.int dq), .val (.int fr), .val (.int tq), .val (.long g), .second, .val (.int jq), .val (.int kq), .val (.int ng), .val (.long sd), .second, .val (.long pp), .second, .val (.long (-1 : Int64)), .second, .unset, .unset, .unset, .unset] (hb hby at_829) rfl rfl ?_
          exact J831 T72 h70 _ hs dq fr tq jq kq ng g sd pp (-1 : Int64) ((M * 10 + (z22.toInt - 48)) * 10 + (z23.toInt - 48)) X72 e72 N72 Z70 A_b1 hng (by omega) (by rw [hg]; show own_res ng (own_lp (own_sat M) [z22, z23]) = _; rw [own_lp_step hM hq1, own_lp_step (by omega) hq2]; rfl) hm2
        · skip
          refine Run.x_ifYes (q := 815) X72 hx (hb hby at_806) ((if0 _ _).trans (flt (mt (lw_lt z72 (0 : Int64)).mp hc806)).2.1) (by decide) (by decide) ?_
          have hcp2 := own_cap_step (c := 0) hM1 (by decide) (by rw [← hm1]; have q := hc806; rw [lt64] at q; exact q)
          refine Run.x_lload (q := 817) X72 hx (hb hby at_815) rfl rfl ?_
          refine Run.x_iconst (q := 818) X72 hx (hb hby at_817) (z := (1 : Int32)) rfl rfl ?_
          refine Run.x_iload (q := 820) X72 hx (hb hby at_818) rfl rfl ?_
          refine Run.x_bipush (q := 822) X72 hx (hb hby at_820) (z := (48 : Int32)) rfl rfl ?_
          refine Run.x_isub (q := 823) X72 hx (hb hby at_822) rfl rfl ?_
          refine Run.x_i2l (q := 824) X72 hx (hb hby at_823) rfl rfl ?_
          refine Run.x_aload (q := 826) X72 hx (hb hby at_824) rfl rfl rfl ?_
          refine Run.callS X72 hx hZ e72 (y := (⟨"org/tertiary/io/FieldsIntegerPinLaw", "mulAdd", "(JIJ[J)J"⟩ : MethodName)) hown (hw _ (List.mem_of_getElem? (i := 45) rfl)) (hw _ (List.mem_of_getElem? (i := 46) rfl)) (hw _ (List.mem_of_getElem? (i := 22) rfl)) (hw _ (List.mem_of_getElem? (i := 47) rfl)) (by decide) (argsL := [(.long z72), (.int (1 : Int32)), (.long (z23 - (48 : Int32)).toInt64), (.ref b1)]) (rest := []) (c_mul l Z a0 hw z72 (1 : Int32) (z23 - (48 : Int32)).toInt64 b1 h70 n0 Z70 1 A_b1 rfl (by decide) (by have q := hc806; rw [lt64] at q; have : (0 : Int64).toInt = 0 := rfl; omega) (by rw [hx2.1]; exact hx2.2.1)) pd_2 rfl (by rw [hml]; rfl) (W := 0) rfl (by decide) (by decide) (by decide) (by decide) (hb hby at_826) rfl ?_
          intro T73 v73 L73 X73 q73
          obtain ⟨z73, rfl, M73, e73, hz73⟩ := q73
          have N73 := Fr.app N72 M73
          show Run p e below s _ _ _ (T73.setTop (mkF m 829 #[.val (.long p1), .second, .val (.int p2), .val (.int p3), .val (.int p4), .val (.int p5), .val (.int p6), .val (.ref b1), .val (.long ww), .second, .val (.int z21), .val (.int z22), .val (.int z23), .val (.ref b24), .val (.int hs), .val (.int dq), .val (.int fr), .val (.int tq), .val (.long g), .second, .val (.int jq), .val (.int kq), .val (.int ng), .val (.long sd), .second, .val (.long pp), .second, .val (.long z72), .second, .unset, .unset, .unset, .unset] [(.long z73)]))
          have hm2 : z73.toInt = own_cap ((M * 10 + (z22.toInt - 48)) * 10 + (z23.toInt - 48)) := by rw [hz73, hm1, hcp2.1, hx2.1, Int.pow_one]
          refine Run.x_lstore (q := 831) X73 hx #[.val (.long p1), .second, .val (.int p2), .val (.int p3), .val (.int p4), .val (.int p5), .val (.int p6), .val (.ref b1), .val (.long ww), .second, .val (.int z21), .val (.int z22), .val (.int z23), .val (.ref b24), .val (.int hs), .val (.int dq), .val (.int fr), .val (.int tq), .val (.long g), .second, .val (.int jq), .val (.int kq), .val (.int ng), .val (.long sd), .second, .val (.long pp), .second, .val (.long z73), .second, .unset, .unset, .unset, .unset] (hb hby at_829) rfl rfl ?_
          exact J831 T73 h70 _ hs dq fr tq jq kq ng g sd pp z73 ((M * 10 + (z22.toInt - 48)) * 10 + (z23.toInt - 48)) X73 e73 N73 Z70 A_b1 hng (by omega) (by rw [hg]; show own_res ng (own_lp (own_sat M) [z22, z23]) = _; rw [own_lp_step hM hq1, own_lp_step (by omega) hq2]; rfl) hm2
  have J714 : ∀ (T74 : State) (h74 : Heap) (lo74 : List Loc) (hs : Int32) (dq : Int32) (fr : Int32) (tq : Int32) (jq : Int32) (kq : Int32) (ng : Int32) (g : Int64) (sd : Int64) (s25 : Slot) (M : Int) (jN : Nat) (kN : Nat), Stand p l e room_1 s m #[(.long p1), (.int p2), (.int p3), (.int p4), (.int p5), (.int p6)] below meth c T74 lo74 2 43 → T74.heap = h74 → Fr n0 lo74 → n0 ≤ h74.size → Ars Z h74 b1 .long [(.long (1 : Int64)), (.long (10 : Int64)), (.long (100 : Int64)), (.long (1000 : Int64)), (.long (10000 : Int64)), (.long (100000 : Int64)), (.long (1000000 : Int64)), (.long (10000000 : Int64)), (.long (100000000 : Int64)), (.long (1000000000 : Int64)), (.long (10000000000 : Int64)), (.long (100000000000 : Int64)), (.long (1000000000000 : Int64)), (.long (10000000000000 : Int64)), (.long (100000000000000 : Int64)), (.long (1000000000000000 : Int64)), (.long (10000000000000000 : Int64)), (.long (100000000000000000 : Int64)), (.long (1000000000000000000 : Int64))] → (s25 = .unset ∨ ∃ x, s25 = .val (.int x)) → (ng = 0 ∨ ng = 1) → ((sd = -1 ∧ M = 0) ∨ (0 ≤ sd.toInt ∧ M = sd.toInt)) → (jq.toInt = jN) → (jN ≤ 19) → (kq.toInt = kN) → (kN ≤ 2) → (1 ≤ kN → own_dg z22) → (2 ≤ kN → own_dg z23) → (g.toInt = own_res ng (own_lp (own_sat (M * 10 ^ jN + ww.toInt / 10 ^ (19 - jN))) ([z22, z23].take kN))) → Run p e below s (Tru n0) room_1.cells room_1.slots (T74.setTop (mkF m 714 #[.val (.long p1), .second, .val (.int p2), .val (.int p3), .val (.int p4), .val (.int p5), .val (.int p6), .val (.ref b1), .val (.long ww), .second, .val (.int z21), .val (.int z22), .val (.int z23), .val (.ref b24), .val (.int hs), .val (.int dq), .val (.int fr), .val (.int tq), .val (.long g), .second, .val (.int jq), .val (.int kq), .val (.int ng), .val (.long sd), .second, s25, .unset, .unset, .unset, .unset, .unset, .unset, .unset] [])) := by
    intro T74 h74 lo74 hs dq fr tq jq kq ng g sd s25 M jN kN X74 e74 N74 Z74 A_b1 hs25 hng hsd hj hj2 hk hk2 hd1 hd2 hg
    have hp0 : 0 ≤ ww.toInt / 10 ^ (19 - jN) := Int.ediv_nonneg hww0.1 (Int.le_of_lt (Int.pow_pos (by decide)))
    refine Run.x_iload (q := 716) X74 hx (hb hby at_714) rfl rfl ?_
    by_cases hc716 : jq = (0 : Int32)
    · skip
      refine Run.x_ifNo (q := 719) X74 hx (hb hby at_716) ((if0 _ _).trans (teq hc716).2) rfl ?_
      refine Run.x_lconst (q := 720) X74 hx (hb hby at_719) (z := (0 : Int64)) rfl rfl ?_
      refine Run.x_goto (q := 734) X74 hx (hb hby at_720) (by decide) (by decide) ?_
      have hpp : (0 : Int64).toInt = ww.toInt / 10 ^ (19 - jN) := own_w19 hww0.1 hww0.2 ((own_dz hj).mp hc716)
      rcases hs25 with rfl | ⟨x25, rfl⟩
      · skip
        refine Run.x_lstore (q := 736) X74 hx #[.val (.long p1), .second, .val (.int p2), .val (.int p3), .val (.int p4), .val (.int p5), .val (.int p6), .val (.ref b1), .val (.long ww), .second, .val (.int z21), .val (.int z22), .val (.int z23), .val (.ref b24), .val (.int hs), .val (.int dq), .val (.int fr), .val (.int tq), .val (.long g), .second, .val (.int jq), .val (.int kq), .val (.int ng), .val (.long sd), .second, .val (.long (0 : Int64)), .second, .unset, .unset, .unset, .unset, .unset, .unset] (hb hby at_734) rfl rfl ?_
        refine Run.x_lload (q := 738) X74 hx (hb hby at_736) rfl rfl ?_
        refine Run.x_lconst (q := 739) X74 hx (hb hby at_738) (z := (0 : Int64)) rfl rfl ?_
        refine Run.x_lcmp (q := 740) X74 hx (hb hby at_739)  rfl ?_
        by_cases hc740 : sd < (0 : Int64)
        · skip
          refine Run.x_ifYes (q := 757) X74 hx (hb hby at_740) ((if0 _ _).trans (tlt ((lw_lt sd (0 : Int64)).mpr hc740)).1) (by decide) (by decide) ?_
          have hsd' : M = 0 := by
            rcases hsd with ⟨-, q⟩ | ⟨q, -⟩
            · exact q
            · rw [lt64] at hc740; have : (0 : Int64).toInt = 0 := rfl; omega
          refine Run.x_lload (q := 759) X74 hx (hb hby at_757) rfl rfl ?_
          refine Run.x_lstore (q := 761) X74 hx #[.val (.long p1), .second, .val (.int p2), .val (.int p3), .val (.int p4), .val (.int p5), .val (.int p6), .val (.ref b1), .val (.long ww), .second, .val (.int z21), .val (.int z22), .val (.int z23), .val (.ref b24), .val (.int hs), .val (.int dq), .val (.int fr), .val (.int tq), .val (.long g), .second, .val (.int jq), .val (.int kq), .val (.int ng), .val (.long sd), .second, .val (.long (0 : Int64)), .second, .val (.long (0 : Int64)), .second, .unset, .unset, .unset, .unset] (hb hby at_759) rfl rfl ?_
          exact J761 T74 h74 _ hs dq fr tq jq kq ng g sd (0 : Int64) (0 : Int64) (M * 10 ^ jN + ww.toInt / 10 ^ (19 - jN)) kN X74 e74 N74 Z74 A_b1 hng (by subst hsd'; omega) hk hk2 hd1 hd2 hg (by subst hsd'; rw [hpp, Int.zero_mul, Int.zero_add]; unfold own_cap; rw [if_pos (Int.le_trans (Int.ediv_le_self _ hww0.1) hww0.2)])
        · skip
          refine Run.x_ifNo (q := 743) X74 hx (hb hby at_740) ((if0 _ _).trans (flt (mt (lw_lt sd (0 : Int64)).mp hc740)).1) rfl ?_
          have hsd' : 0 ≤ sd.toInt ∧ M = sd.toInt := by
            rcases hsd with ⟨q, -⟩ | q
            · subst q; exact absurd (by decide) hc740
            · exact q
          refine Run.x_lload (q := 745) X74 hx (hb hby at_743) rfl rfl ?_
          refine Run.x_iload (q := 747) X74 hx (hb hby at_745) rfl rfl ?_
          refine Run.x_lload (q := 749) X74 hx (hb hby at_747) rfl rfl ?_
          refine Run.x_aload (q := 751) X74 hx (hb hby at_749) rfl rfl rfl ?_
          refine Run.callS X74 hx hZ e74 (y := (⟨"org/tertiary/io/FieldsIntegerPinLaw", "mulAdd", "(JIJ[J)J"⟩ : MethodName)) hown (hw _ (List.mem_of_getElem? (i := 45) rfl)) (hw _ (List.mem_of_getElem? (i := 46) rfl)) (hw _ (List.mem_of_getElem? (i := 22) rfl)) (hw _ (List.mem_of_getElem? (i := 47) rfl)) (by decide) (argsL := [(.long sd), (.int jq), (.long (0 : Int64)), (.ref b1)]) (rest := []) (c_mul l Z a0 hw sd jq (0 : Int64) b1 h74 n0 Z74 jN A_b1 hj hj2 hsd'.1 (by rw [hpp]; exact hp0)) pd_2 rfl (by rw [hml]; rfl) (W := 0) rfl (by decide) (by decide) (by decide) (by decide) (hb hby at_751) rfl ?_
          intro T75 v75 L75 X75 q75
          obtain ⟨z75, rfl, M75, e75, hz75⟩ := q75
          have N75 := Fr.app N74 M75
          show Run p e below s _ _ _ (T75.setTop (mkF m 754 #[.val (.long p1), .second, .val (.int p2), .val (.int p3), .val (.int p4), .val (.int p5), .val (.int p6), .val (.ref b1), .val (.long ww), .second, .val (.int z21), .val (.int z22), .val (.int z23), .val (.ref b24), .val (.int hs), .val (.int dq), .val (.int fr), .val (.int tq), .val (.long g), .second, .val (.int jq), .val (.int kq), .val (.int ng), .val (.long sd), .second, .val (.long (0 : Int64)), .second, .unset, .unset, .unset, .unset, .unset, .unset] [(.long z75)]))
          refine Run.x_goto (q := 759) X75 hx (hb hby at_754) (by decide) (by decide) ?_
          refine Run.x_lstore (q := 761) X75 hx #[.val (.long p1), .second, .val (.int p2), .val (.int p3), .val (.int p4), .val (.int p5), .val (.int p6), .val (.ref b1), .val (.long ww), .second, .val (.int z21), .val (.int z22), .val (.int z23), .val (.ref b24), .val (.int hs), .val (.int dq), .val (.int fr), .val (.int tq), .val (.long g), .second, .val (.int jq), .val (.int kq), .val (.int ng), .val (.long sd), .second, .val (.long (0 : Int64)), .second, .val (.long z75), .second, .unset, .unset, .unset, .unset] (hb hby at_759) rfl rfl ?_
          exact J761 T75 h74 _ hs dq fr tq jq kq ng g sd (0 : Int64) z75 (M * 10 ^ jN + ww.toInt / 10 ^ (19 - jN)) kN X75 e75 N75 Z74 A_b1 hng (by have := Int.mul_nonneg (hsd'.2 ▸ hsd'.1 : 0 ≤ M) (Int.le_of_lt (Int.pow_pos (by decide : (0 : Int) < 10)) : (0 : Int) ≤ 10 ^ jN); omega) hk hk2 hd1 hd2 hg (by rw [hz75, hpp, ← hsd'.2])
      · skip
        refine Run.x_lstore (q := 736) X74 hx #[.val (.long p1), .second, .val (.int p2), .val (.int p3), .val (.int p4), .val (.int p5), .val (.int p6), .val (.ref b1), .val (.long ww), .second, .val (.int z21), .val (.int z22), .val (.int z23), .val (.ref b24), .val (.int hs), .val (.int dq), .val (.int fr), .val (.int tq), .val (.long g), .second, .val (.int jq), .val (.int kq), .val (.int ng), .val (.long sd), .second, .val (.long (0 : Int64)), .second, .unset, .unset, .unset, .unset, .unset, .unset] (hb hby at_734) rfl rfl ?_
        refine Run.x_lload (q := 738) X74 hx (hb hby at_736) rfl rfl ?_
        refine Run.x_lconst (q := 739) X74 hx (hb hby at_738) (z := (0 : Int64)) rfl rfl ?_
        refine Run.x_lcmp (q := 740) X74 hx (hb hby at_739)  rfl ?_
        by_cases hc740 : sd < (0 : Int64)
        · skip
          refine Run.x_ifYes (q := 757) X74 hx (hb hby at_740) ((if0 _ _).trans (tlt ((lw_lt sd (0 : Int64)).mpr hc740)).1) (by decide) (by decide) ?_
          have hsd' : M = 0 := by
            rcases hsd with ⟨-, q⟩ | ⟨q, -⟩
            · exact q
            · rw [lt64] at hc740; have : (0 : Int64).toInt = 0 := rfl; omega
          refine Run.x_lload (q := 759) X74 hx (hb hby at_757) rfl rfl ?_
          refine Run.x_lstore (q := 761) X74 hx #[.val (.long p1), .second, .val (.int p2), .val (.int p3), .val (.int p4), .val (.int p5), .val (.int p6), .val (.ref b1), .val (.long ww), .second, .val (.int z21), .val (.int z22), .val (.int z23), .val (.ref b24), .val (.int hs), .val (.int dq), .val (.int fr), .val (.int tq), .val (.long g), .second, .val (.int jq), .val (.int kq), .val (.int ng), .val (.long sd), .second, .val (.long (0 : Int64)), .second, .val (.long (0 : Int64)), .second, .unset, .unset, .unset, .unset] (hb hby at_759) rfl rfl ?_
          exact J761 T74 h74 _ hs dq fr tq jq kq ng g sd (0 : Int64) (0 : Int64) (M * 10 ^ jN + ww.toInt / 10 ^ (19 - jN)) kN X74 e74 N74 Z74 A_b1 hng (by subst hsd'; omega) hk hk2 hd1 hd2 hg (by subst hsd'; rw [hpp, Int.zero_mul, Int.zero_add]; unfold own_cap; rw [if_pos (Int.le_trans (Int.ediv_le_self _ hww0.1) hww0.2)])
        · skip
          refine Run.x_ifNo (q := 743) X74 hx (hb hby at_740) ((if0 _ _).trans (flt (mt (lw_lt sd (0 : Int64)).mp hc740)).1) rfl ?_
          have hsd' : 0 ≤ sd.toInt ∧ M = sd.toInt := by
            rcases hsd with ⟨q, -⟩ | q
            · subst q; exact absurd (by decide) hc740
            · exact q
          refine Run.x_lload (q := 745) X74 hx (hb hby at_743) rfl rfl ?_
          refine Run.x_iload (q := 747) X74 hx (hb hby at_745) rfl rfl ?_
          refine Run.x_lload (q := 749) X74 hx (hb hby at_747) rfl rfl ?_
          refine Run.x_aload (q := 751) X74 hx (hb hby at_749) rfl rfl rfl ?_
          refine Run.callS X74 hx hZ e74 (y := (⟨"org/tertiary/io/FieldsIntegerPinLaw", "mulAdd", "(JIJ[J)J"⟩ : MethodName)) hown (hw _ (List.mem_of_getElem? (i := 45) rfl)) (hw _ (List.mem_of_getElem? (i := 46) rfl)) (hw _ (List.mem_of_getElem? (i := 22) rfl)) (hw _ (List.mem_of_getElem? (i := 47) rfl)) (by decide) (argsL := [(.long sd), (.int jq), (.long (0 : Int64)), (.ref b1)]) (rest := []) (c_mul l Z a0 hw sd jq (0 : Int64) b1 h74 n0 Z74 jN A_b1 hj hj2 hsd'.1 (by rw [hpp]; exact hp0)) pd_2 rfl (by rw [hml]; rfl) (W := 0) rfl (by decide) (by decide) (by decide) (by decide) (hb hby at_751) rfl ?_
          intro T76 v76 L76 X76 q76
          obtain ⟨z76, rfl, M76, e76, hz76⟩ := q76
          have N76 := Fr.app N74 M76
          show Run p e below s _ _ _ (T76.setTop (mkF m 754 #[.val (.long p1), .second, .val (.int p2), .val (.int p3), .val (.int p4), .val (.int p5), .val (.int p6), .val (.ref b1), .val (.long ww), .second, .val (.int z21), .val (.int z22), .val (.int z23), .val (.ref b24), .val (.int hs), .val (.int dq), .val (.int fr), .val (.int tq), .val (.long g), .second, .val (.int jq), .val (.int kq), .val (.int ng), .val (.long sd), .second, .val (.long (0 : Int64)), .second, .unset, .unset, .unset, .unset, .unset, .unset] [(.long z76)]))
          refine Run.x_goto (q := 759) X76 hx (hb hby at_754) (by decide) (by decide) ?_
          refine Run.x_lstore (q := 761) X76 hx #[.val (.long p1), .second, .val (.int p2), .val (.int p3), .val (.int p4), .val (.int p5), .val (.int p6), .val (.ref b1), .val (.long ww), .second, .val (.int z21), .val (.int z22), .val (.int z23), .val (.ref b24), .val (.int hs), .val (.int dq), .val (.int fr), .val (.int tq), .val (.long g), .second, .val (.int jq), .val (.int kq), .val (.int ng), .val (.long sd), .second, .val (.long (0 : Int64)), .second, .val (.long z76), .second, .unset, .unset, .unset, .unset] (hb hby at_759) rfl rfl ?_
          exact J761 T76 h74 _ hs dq fr tq jq kq ng g sd (0 : Int64) z76 (M * 10 ^ jN + ww.toInt / 10 ^ (19 - jN)) kN X76 e76 N76 Z74 A_b1 hng (by have := Int.mul_nonneg (hsd'.2 ▸ hsd'.1 : 0 ≤ M) (Int.le_of_lt (Int.pow_pos (by decide : (0 : Int) < 10)) : (0 : Int) ≤ 10 ^ jN); omega) hk hk2 hd1 hd2 hg (by rw [hz76, hpp, ← hsd'.2])
    · skip
      refine Run.x_ifYes (q := 723) X74 hx (hb hby at_716) ((if0 _ _).trans (feq hc716).2) (by decide) (by decide) ?_
      refine Run.x_lload (q := 725) X74 hx (hb hby at_723) rfl rfl ?_
      refine Run.x_aload (q := 727) X74 hx (hb hby at_725) rfl rfl rfl ?_
      refine Run.x_bipush (q := 729) X74 hx (hb hby at_727) (z := (19 : Int32)) rfl rfl ?_
      refine Run.x_iload (q := 731) X74 hx (hb hby at_729) rfl rfl ?_
      refine Run.x_isub (q := 732) X74 hx (hb hby at_731) rfl rfl ?_
      have hs19 := own_s19 hj hj2 hc716
      obtain ⟨pw, hpw, hpv, hpz, hpm⟩ := own_pow (k := 19 - jN) hs19.2
      refine Run.ldJ X74 hx hZ e74 A_b1 (i := (19 - jN)) (v := (.long pw)) hs19.1 hpw (hb hby at_732) ?_
      show Run p e below s _ _ _ (T74.setTop (mkF m 733 #[.val (.long p1), .second, .val (.int p2), .val (.int p3), .val (.int p4), .val (.int p5), .val (.int p6), .val (.ref b1), .val (.long ww), .second, .val (.int z21), .val (.int z22), .val (.int z23), .val (.ref b24), .val (.int hs), .val (.int dq), .val (.int fr), .val (.int tq), .val (.long g), .second, .val (.int jq), .val (.int kq), .val (.int ng), .val (.long sd), .second, s25, .unset, .unset, .unset, .unset, .unset, .unset, .unset] [(.long pw), (.long ww)]))
      refine Run.x_ldiv (q := 734) X74 hx (hb hby at_733) hpz rfl rfl ?_
      have hpp : (ww / pw).toInt = ww.toInt / 10 ^ (19 - jN) := own_pdiv hww0.1 hpv hpm
      rcases hs25 with rfl | ⟨x25, rfl⟩
      · skip
        refine Run.x_lstore (q := 736) X74 hx #[.val (.long p1), .second, .val (.int p2), .val (.int p3), .val (.int p4), .val (.int p5), .val (.int p6), .val (.ref b1), .val (.long ww), .second, .val (.int z21), .val (.int z22), .val (.int z23), .val (.ref b24), .val (.int hs), .val (.int dq), .val (.int fr), .val (.int tq), .val (.long g), .second, .val (.int jq), .val (.int kq), .val (.int ng), .val (.long sd), .second, .val (.long (ww / pw)), .second, .unset, .unset, .unset, .unset, .unset, .unset] (hb hby at_734) rfl rfl ?_
        refine Run.x_lload (q := 738) X74 hx (hb hby at_736) rfl rfl ?_
        refine Run.x_lconst (q := 739) X74 hx (hb hby at_738) (z := (0 : Int64)) rfl rfl ?_
        refine Run.x_lcmp (q := 740) X74 hx (hb hby at_739)  rfl ?_
        by_cases hc740 : sd < (0 : Int64)
        · skip
          refine Run.x_ifYes (q := 757) X74 hx (hb hby at_740) ((if0 _ _).trans (tlt ((lw_lt sd (0 : Int64)).mpr hc740)).1) (by decide) (by decide) ?_
          have hsd' : M = 0 := by
            rcases hsd with ⟨-, q⟩ | ⟨q, -⟩
            · exact q
            · rw [lt64] at hc740; have : (0 : Int64).toInt = 0 := rfl; omega
          refine Run.x_lload (q := 759) X74 hx (hb hby at_757) rfl rfl ?_
          refine Run.x_lstore (q := 761) X74 hx #[.val (.long p1), .second, .val (.int p2), .val (.int p3), .val (.int p4), .val (.int p5), .val (.int p6), .val (.ref b1), .val (.long ww), .second, .val (.int z21), .val (.int z22), .val (.int z23), .val (.ref b24), .val (.int hs), .val (.int dq), .val (.int fr), .val (.int tq), .val (.long g), .second, .val (.int jq), .val (.int kq), .val (.int ng), .val (.long sd), .second, .val (.long (ww / pw)), .second, .val (.long (ww / pw)), .second, .unset, .unset, .unset, .unset] (hb hby at_759) rfl rfl ?_
          exact J761 T74 h74 _ hs dq fr tq jq kq ng g sd (ww / pw) (ww / pw) (M * 10 ^ jN + ww.toInt / 10 ^ (19 - jN)) kN X74 e74 N74 Z74 A_b1 hng (by subst hsd'; omega) hk hk2 hd1 hd2 hg (by subst hsd'; rw [hpp, Int.zero_mul, Int.zero_add]; unfold own_cap; rw [if_pos (Int.le_trans (Int.ediv_le_self _ hww0.1) hww0.2)])
        · skip
          refine Run.x_ifNo (q := 743) X74 hx (hb hby at_740) ((if0 _ _).trans (flt (mt (lw_lt sd (0 : Int64)).mp hc740)).1) rfl ?_
          have hsd' : 0 ≤ sd.toInt ∧ M = sd.toInt := by
            rcases hsd with ⟨q, -⟩ | q
            · subst q; exact absurd (by decide) hc740
            · exact q
          refine Run.x_lload (q := 745) X74 hx (hb hby at_743) rfl rfl ?_
          refine Run.x_iload (q := 747) X74 hx (hb hby at_745) rfl rfl ?_
          refine Run.x_lload (q := 749) X74 hx (hb hby at_747) rfl rfl ?_
          refine Run.x_aload (q := 751) X74 hx (hb hby at_749) rfl rfl rfl ?_
          refine Run.callS X74 hx hZ e74 (y := (⟨"org/tertiary/io/FieldsIntegerPinLaw", "mulAdd", "(JIJ[J)J"⟩ : MethodName)) hown (hw _ (List.mem_of_getElem? (i := 45) rfl)) (hw _ (List.mem_of_getElem? (i := 46) rfl)) (hw _ (List.mem_of_getElem? (i := 22) rfl)) (hw _ (List.mem_of_getElem? (i := 47) rfl)) (by decide) (argsL := [(.long sd), (.int jq), (.long (ww / pw)), (.ref b1)]) (rest := []) (c_mul l Z a0 hw sd jq (ww / pw) b1 h74 n0 Z74 jN A_b1 hj hj2 hsd'.1 (by rw [hpp]; exact hp0)) pd_2 rfl (by rw [hml]; rfl) (W := 0) rfl (by decide) (by decide) (by decide) (by decide) (hb hby at_751) rfl ?_
          intro T77 v77 L77 X77 q77
          obtain ⟨z77, rfl, M77, e77, hz77⟩ := q77
          have N77 := Fr.app N74 M77
          show Run p e below s _ _ _ (T77.setTop (mkF m 754 #[.val (.long p1), .second, .val (.int p2), .val (.int p3), .val (.int p4), .val (.int p5), .val (.int p6), .val (.ref b1), .val (.long ww), .second, .val (.int z21), .val (.int z22), .val (.int z23), .val (.ref b24), .val (.int hs), .val (.int dq), .val (.int fr), .val (.int tq), .val (.long g), .second, .val (.int jq), .val (.int kq), .val (.int ng), .val (.long sd), .second, .val (.long (ww / pw)), .second, .unset, .unset, .unset, .unset, .unset, .unset] [(.long z77)]))
          refine Run.x_goto (q := 759) X77 hx (hb hby at_754) (by decide) (by decide) ?_
          refine Run.x_lstore (q := 761) X77 hx #[.val (.long p1), .second, .val (.int p2), .val (.int p3), .val (.int p4), .val (.int p5), .val (.int p6), .val (.ref b1), .val (.long ww), .second, .val (.int z21), .val (.int z22), .val (.int z23), .val (.ref b24), .val (.int hs), .val (.int dq), .val (.int fr), .val (.int tq), .val (.long g), .second, .val (.int jq), .val (.int kq), .val (.int ng), .val (.long sd), .second, .val (.long (ww / pw)), .second, .val (.long z77), .second, .unset, .unset, .unset, .unset] (hb hby at_759) rfl rfl ?_
          exact J761 T77 h74 _ hs dq fr tq jq kq ng g sd (ww / pw) z77 (M * 10 ^ jN + ww.toInt / 10 ^ (19 - jN)) kN X77 e77 N77 Z74 A_b1 hng (by have := Int.mul_nonneg (hsd'.2 ▸ hsd'.1 : 0 ≤ M) (Int.le_of_lt (Int.pow_pos (by decide : (0 : Int) < 10)) : (0 : Int) ≤ 10 ^ jN); omega) hk hk2 hd1 hd2 hg (by rw [hz77, hpp, ← hsd'.2])
      · skip
        refine Run.x_lstore (q := 736) X74 hx #[.val (.long p1), .second, .val (.int p2), .val (.int p3), .val (.int p4), .val (.int p5), .val (.int p6), .val (.ref b1), .val (.long ww), .second, .val (.int z21), .val (.int z22), .val (.int z23), .val (.ref b24), .val (.int hs), .val (.int dq), .val (.int fr), .val (.int tq), .val (.long g), .second, .val (.int jq), .val (.int kq), .val (.int ng), .val (.long sd), .second, .val (.long (ww / pw)), .second, .unset, .unset, .unset, .unset, .unset, .unset] (hb hby at_734) rfl rfl ?_
        refine Run.x_lload (q := 738) X74 hx (hb hby at_736) rfl rfl ?_
        refine Run.x_lconst (q := 739) X74 hx (hb hby at_738) (z := (0 : Int64)) rfl rfl ?_
        refine Run.x_lcmp (q := 740) X74 hx (hb hby at_739)  rfl ?_
        by_cases hc740 : sd < (0 : Int64)
        · skip
          refine Run.x_ifYes (q := 757) X74 hx (hb hby at_740) ((if0 _ _).trans (tlt ((lw_lt sd (0 : Int64)).mpr hc740)).1) (by decide) (by decide) ?_
          have hsd' : M = 0 := by
            rcases hsd with ⟨-, q⟩ | ⟨q, -⟩
            · exact q
            · rw [lt64] at hc740; have : (0 : Int64).toInt = 0 := rfl; omega
          refine Run.x_lload (q := 759) X74 hx (hb hby at_757) rfl rfl ?_
          refine Run.x_lstore (q := 761) X74 hx #[.val (.long p1), .second, .val (.int p2), .val (.int p3), .val (.int p4), .val (.int p5), .val (.int p6), .val (.ref b1), .val (.long ww), .second, .val (.int z21), .val (.int z22), .val (.int z23), .val (.ref b24), .val (.int hs), .val (.int dq), .val (.int fr), .val (.int tq), .val (.long g), .second, .val (.int jq), .val (.int kq), .val (.int ng), .val (.long sd), .second, .val (.long (ww / pw)), .second, .val (.long (ww / pw)), .second, .unset, .unset, .unset, .unset] (hb hby at_759) rfl rfl ?_
          exact J761 T74 h74 _ hs dq fr tq jq kq ng g sd (ww / pw) (ww / pw) (M * 10 ^ jN + ww.toInt / 10 ^ (19 - jN)) kN X74 e74 N74 Z74 A_b1 hng (by subst hsd'; omega) hk hk2 hd1 hd2 hg (by subst hsd'; rw [hpp, Int.zero_mul, Int.zero_add]; unfold own_cap; rw [if_pos (Int.le_trans (Int.ediv_le_self _ hww0.1) hww0.2)])
        · skip
          refine Run.x_ifNo (q := 743) X74 hx (hb hby at_740) ((if0 _ _).trans (flt (mt (lw_lt sd (0 : Int64)).mp hc740)).1) rfl ?_
          have hsd' : 0 ≤ sd.toInt ∧ M = sd.toInt := by
            rcases hsd with ⟨q, -⟩ | q
            · subst q; exact absurd (by decide) hc740
            · exact q
          refine Run.x_lload (q := 745) X74 hx (hb hby at_743) rfl rfl ?_
          refine Run.x_iload (q := 747) X74 hx (hb hby at_745) rfl rfl ?_
          refine Run.x_lload (q := 749) X74 hx (hb hby at_747) rfl rfl ?_
          refine Run.x_aload (q := 751) X74 hx (hb hby at_749) rfl rfl rfl ?_
          refine Run.callS X74 hx hZ e74 (y := (⟨"org/tertiary/io/FieldsIntegerPinLaw", "mulAdd", "(JIJ[J)J"⟩ : MethodName)) hown (hw _ (List.mem_of_getElem? (i := 45) rfl)) (hw _ (List.mem_of_getElem? (i := 46) rfl)) (hw _ (List.mem_of_getElem? (i := 22) rfl)) (hw _ (List.mem_of_getElem? (i := 47) rfl)) (by decide) (argsL := [(.long sd), (.int jq), (.long (ww / pw)), (.ref b1)]) (rest := []) (c_mul l Z a0 hw sd jq (ww / pw) b1 h74 n0 Z74 jN A_b1 hj hj2 hsd'.1 (by rw [hpp]; exact hp0)) pd_2 rfl (by rw [hml]; rfl) (W := 0) rfl (by decide) (by decide) (by decide) (by decide) (hb hby at_751) rfl ?_
          intro T78 v78 L78 X78 q78
          obtain ⟨z78, rfl, M78, e78, hz78⟩ := q78
          have N78 := Fr.app N74 M78
          show Run p e below s _ _ _ (T78.setTop (mkF m 754 #[.val (.long p1), .second, .val (.int p2), .val (.int p3), .val (.int p4), .val (.int p5), .val (.int p6), .val (.ref b1), .val (.long ww), .second, .val (.int z21), .val (.int z22), .val (.int z23), .val (.ref b24), .val (.int hs), .val (.int dq), .val (.int fr), .val (.int tq), .val (.long g), .second, .val (.int jq), .val (.int kq), .val (.int ng), .val (.long sd), .second, .val (.long (ww / pw)), .second, .unset, .unset, .unset, .unset, .unset, .unset] [(.long z78)]))
          refine Run.x_goto (q := 759) X78 hx (hb hby at_754) (by decide) (by decide) ?_
          refine Run.x_lstore (q := 761) X78 hx #[.val (.long p1), .second, .val (.int p2), .val (.int p3), .val (.int p4), .val (.int p5), .val (.int p6), .val (.ref b1), .val (.long ww), .second, .val (.int z21), .val (.int z22), .val (.int z23), .val (.ref b24), .val (.int hs), .val (.int dq), .val (.int fr), .val (.int tq), .val (.long g), .second, .val (.int jq), .val (.int kq), .val (.int ng), .val (.long sd), .second, .val (.long (ww / pw)), .second, .val (.long z78), .second, .unset, .unset, .unset, .unset] (hb hby at_759) rfl rfl ?_
          exact J761 T78 h74 _ hs dq fr tq jq kq ng g sd (ww / pw) z78 (M * 10 ^ jN + ww.toInt / 10 ^ (19 - jN)) kN X78 e78 N78 Z74 A_b1 hng (by have := Int.mul_nonneg (hsd'.2 ▸ hsd'.1 : 0 ≤ M) (Int.le_of_lt (Int.pow_pos (by decide : (0 : Int) < 10)) : (0 : Int) ≤ 10 ^ jN); omega) hk hk2 hd1 hd2 hg (by rw [hz78, hpp, ← hsd'.2])
  have J656 : ∀ (T79 : State) (h79 : Heap) (lo79 : List Loc) (hs : Int32) (dq : Int32) (fr : Int32) (tq : Int32) (jq : Int32) (kq : Int32) (ng : Int32) (g : Int64) (sd : Int64) (s25 : Slot) (M : Int) (jN : Nat) (kN : Nat), Stand p l e room_1 s m #[(.long p1), (.int p2), (.int p3), (.int p4), (.int p5), (.int p6)] below meth c T79 lo79 2 43 → T79.heap = h79 → Fr n0 lo79 → n0 ≤ h79.size → Ars Z h79 b1 .long [(.long (1 : Int64)), (.long (10 : Int64)), (.long (100 : Int64)), (.long (1000 : Int64)), (.long (10000 : Int64)), (.long (100000 : Int64)), (.long (1000000 : Int64)), (.long (10000000 : Int64)), (.long (100000000 : Int64)), (.long (1000000000 : Int64)), (.long (10000000000 : Int64)), (.long (100000000000 : Int64)), (.long (1000000000000 : Int64)), (.long (10000000000000 : Int64)), (.long (100000000000000 : Int64)), (.long (1000000000000000 : Int64)), (.long (10000000000000000 : Int64)), (.long (100000000000000000 : Int64)), (.long (1000000000000000000 : Int64))] → (s25 = .unset ∨ ∃ x, s25 = .val (.int x)) → (ng = 0 ∨ ng = 1) → ((sd = -1 ∧ M = 0) ∨ (0 ≤ sd.toInt ∧ M = sd.toInt)) → (0 ≤ M) → (jq.toInt = jN) → (jN ≤ 19) → (kq.toInt = kN) → (kN ≤ 2) → (g.toInt = own_res ng (own_lp (own_sat (M * 10 ^ jN + ww.toInt / 10 ^ (19 - jN))) ([z22, z23].take kN))) → Run p e below s (Tru n0) room_1.cells room_1.slots (T79.setTop (mkF m 656 #[.val (.long p1), .second, .val (.int p2), .val (.int p3), .val (.int p4), .val (.int p5), .val (.int p6), .val (.ref b1), .val (.long ww), .second, .val (.int z21), .val (.int z22), .val (.int z23), .val (.ref b24), .val (.int hs), .val (.int dq), .val (.int fr), .val (.int tq), .val (.long g), .second, .val (.int jq), .val (.int kq), .val (.int ng), .val (.long sd), .second, s25, .unset, .unset, .unset, .unset, .unset, .unset, .unset] [])) := by
    intro T79 h79 lo79 hs dq fr tq jq kq ng g sd s25 M jN kN X79 e79 N79 Z79 A_b1 hs25 hng hsd hM hj hj2 hk hk2 hg
    have hp0 : 0 ≤ ww.toInt / 10 ^ (19 - jN) := Int.ediv_nonneg hww0.1 (Int.le_of_lt (Int.pow_pos (by decide)))
    have hp1 : 0 ≤ M * 10 ^ jN := Int.mul_nonneg hM (Int.le_of_lt (Int.pow_pos (by decide)))
    have k012 : (0 : Int32).toInt = 0 ∧ (1 : Int32).toInt = 1 ∧ (2 : Int32).toInt = 2 := by decide
    have hcase : kN = 0 ∨ kN = 1 ∨ kN = 2 := by omega
    rcases hcase with rfl | rfl | rfl
    · skip
      refine Run.x_iload (q := 658) X79 hx (hb hby at_656) rfl rfl ?_
      refine Run.x_iconst (q := 659) X79 hx (hb hby at_658) (z := (1 : Int32)) rfl rfl ?_
      refine Run.x_icmpYes (q := 685) X79 hx (hb hby at_659) (tlt (by rw [lt32]; omega)).1 (by decide) (by decide) ?_
      refine Run.x_iload (q := 687) X79 hx (hb hby at_685) rfl rfl ?_
      refine Run.x_iconst (q := 688) X79 hx (hb hby at_687) (z := (2 : Int32)) rfl rfl ?_
      refine Run.x_icmpYes (q := 714) X79 hx (hb hby at_688) (tlt (by rw [lt32]; omega)).1 (by decide) (by decide) ?_
      exact J714 T79 h79 _ hs dq fr tq jq kq ng g sd s25 M jN 0 X79 e79 N79 Z79 A_b1 hs25 hng hsd hj hj2 hk hk2 (fun q => absurd q (by decide)) (fun q => absurd q (by decide)) hg
    · skip
      refine Run.x_iload (q := 658) X79 hx (hb hby at_656) rfl rfl ?_
      refine Run.x_iconst (q := 659) X79 hx (hb hby at_658) (z := (1 : Int32)) rfl rfl ?_
      refine Run.x_icmpNo (q := 662) X79 hx (hb hby at_659) (flt (by rw [lt32]; omega)).1 rfl ?_
      refine Run.x_iload (q := 664) X79 hx (hb hby at_662) rfl rfl ?_
      refine Run.callS X79 hx hZ e79 (y := (⟨"org/tertiary/io/FieldsIntegerPinLaw", "isDigit", "(B)Z"⟩ : MethodName)) hown (hw _ (List.mem_of_getElem? (i := 42) rfl)) (hw _ (List.mem_of_getElem? (i := 43) rfl)) (hw _ (List.mem_of_getElem? (i := 22) rfl)) (hw _ (List.mem_of_getElem? (i := 44) rfl)) (by decide) (argsL := [(.int z22)]) (rest := []) (c_isd l Z a0 hw z22 h79 n0 Z79 ) pd_3 rfl (by rw [hml]; rfl) (W := 0) rfl (by decide) (by decide) (by decide) (by decide) (hb hby at_664) rfl ?_
      intro T80 v80 L80 X80 q80
      obtain ⟨rfl, M80, e80⟩ := q80
      have N80 := Fr.app N79 M80
      show Run p e below s _ _ _ (T80.setTop (mkF m 667 #[.val (.long p1), .second, .val (.int p2), .val (.int p3), .val (.int p4), .val (.int p5), .val (.int p6), .val (.ref b1), .val (.long ww), .second, .val (.int z21), .val (.int z22), .val (.int z23), .val (.ref b24), .val (.int hs), .val (.int dq), .val (.int fr), .val (.int tq), .val (.long g), .second, .val (.int jq), .val (.int kq), .val (.int ng), .val (.long sd), .second, s25, .unset, .unset, .unset, .unset, .unset, .unset, .unset] [(.int (own_b (own_dg z22)))]))
      by_cases hc667 : (own_b (own_dg z22)) = (0 : Int32)
      · skip
        refine Run.x_ifNo (q := 670) X80 hx (hb hby at_667) ((if0 _ _).trans (teq hc667).2) rfl ?_
        refine Run.x_lload (q := 672) X80 hx (hb hby at_670) rfl rfl ?_
        refine Run.st (B := T80.setTop (mkF m 675 #[.val (.long p1), .second, .val (.int p2), .val (.int p3), .val (.int p4), .val (.int p5), .val (.int p6), .val (.ref b1), .val (.long ww), .second, .val (.int z21), .val (.int z22), .val (.int z23), .val (.ref b24), .val (.int hs), .val (.int dq), .val (.int fr), .val (.int tq), .val (.long g), .second, .val (.int jq), .val (.int kq), .val (.int ng), .val (.long sd), .second, s25, .unset, .unset, .unset, .unset, .unset, .unset, .unset] [(.long (-9223372036854775808 : Int64)), (.long g)])) (fun t kt => X80.ldc2Long hx hown (mvT hZ (hw _ (List.mem_of_getElem? (i := 49) rfl))) (g := (mkF m 672 #[.val (.long p1), .second, .val (.int p2), .val (.int p3), .val (.int p4), .val (.int p5), .val (.int p6), .val (.ref b1), .val (.long ww), .second, .val (.int z21), .val (.int z22), .val (.int z23), .val (.ref b24), .val (.int hs), .val (.int dq), .val (.int fr), .val (.int tq), .val (.long g), .second, .val (.int jq), .val (.int kq), .val (.int ng), .val (.long sd), .second, s25, .unset, .unset, .unset, .unset, .unset, .unset, .unset] [(.long g)])) rfl (hb hby at_672) _ kt) ?_
        refine Run.x_lcmp (q := 676) X80 hx (hb hby at_675)  rfl ?_
        refine Run.x_ifNo (q := 679) X80 hx (hb hby at_676) ((if0 _ _).trans (teq ((lw_eq g (-9223372036854775808 : Int64)).mpr (by rw [eq64, hg]; show own_res ng (own_lp _ (z22 :: _)) = _; rw [own_lp_no (own_b_no hc667)]; rfl))).2) rfl ?_
        refine Run.x_iconst (q := 680) X80 hx (hb hby at_679) (z := (1 : Int32)) rfl rfl ?_
        refine Run.x_goto (q := 684) X80 hx (hb hby at_680) (by decide) (by decide) ?_
        refine Run.retN X80 hx hlk e80 (t := .boolean) hret (by simp) (z' := (1 : Int32)) (by decide) (hb hby at_684) (by decide) (by decide) ?_
        exact ⟨rfl, N80⟩
      · skip
        refine Run.x_ifYes (q := 685) X80 hx (hb hby at_667) ((if0 _ _).trans (feq hc667).2) (by decide) (by decide) ?_
        refine Run.x_iload (q := 687) X80 hx (hb hby at_685) rfl rfl ?_
        refine Run.x_iconst (q := 688) X80 hx (hb hby at_687) (z := (2 : Int32)) rfl rfl ?_
        refine Run.x_icmpYes (q := 714) X80 hx (hb hby at_688) (tlt (by rw [lt32]; omega)).1 (by decide) (by decide) ?_
        exact J714 T80 h79 _ hs dq fr tq jq kq ng g sd s25 M jN 1 X80 e80 N80 Z79 A_b1 hs25 hng hsd hj hj2 hk hk2 (fun _ => own_b_yes hc667) (fun q => absurd q (by decide)) hg
    · skip
      refine Run.x_iload (q := 658) X79 hx (hb hby at_656) rfl rfl ?_
      refine Run.x_iconst (q := 659) X79 hx (hb hby at_658) (z := (1 : Int32)) rfl rfl ?_
      refine Run.x_icmpNo (q := 662) X79 hx (hb hby at_659) (flt (by rw [lt32]; omega)).1 rfl ?_
      refine Run.x_iload (q := 664) X79 hx (hb hby at_662) rfl rfl ?_
      refine Run.callS X79 hx hZ e79 (y := (⟨"org/tertiary/io/FieldsIntegerPinLaw", "isDigit", "(B)Z"⟩ : MethodName)) hown (hw _ (List.mem_of_getElem? (i := 42) rfl)) (hw _ (List.mem_of_getElem? (i := 43) rfl)) (hw _ (List.mem_of_getElem? (i := 22) rfl)) (hw _ (List.mem_of_getElem? (i := 44) rfl)) (by decide) (argsL := [(.int z22)]) (rest := []) (c_isd l Z a0 hw z22 h79 n0 Z79 ) pd_3 rfl (by rw [hml]; rfl) (W := 0) rfl (by decide) (by decide) (by decide) (by decide) (hb hby at_664) rfl ?_
      intro T81 v81 L81 X81 q81
      obtain ⟨rfl, M81, e81⟩ := q81
      have N81 := Fr.app N79 M81
      show Run p e below s _ _ _ (T81.setTop (mkF m 667 #[.val (.long p1), .second, .val (.int p2), .val (.int p3), .val (.int p4), .val (.int p5), .val (.int p6), .val (.ref b1), .val (.long ww), .second, .val (.int z21), .val (.int z22), .val (.int z23), .val (.ref b24), .val (.int hs), .val (.int dq), .val (.int fr), .val (.int tq), .val (.long g), .second, .val (.int jq), .val (.int kq), .val (.int ng), .val (.long sd), .second, s25, .unset, .unset, .unset, .unset, .unset, .unset, .unset] [(.int (own_b (own_dg z22)))]))
      by_cases hc667 : (own_b (own_dg z22)) = (0 : Int32)
      · skip
        refine Run.x_ifNo (q := 670) X81 hx (hb hby at_667) ((if0 _ _).trans (teq hc667).2) rfl ?_
        refine Run.x_lload (q := 672) X81 hx (hb hby at_670) rfl rfl ?_
        refine Run.st (B := T81.setTop (mkF m 675 #[.val (.long p1), .second, .val (.int p2), .val (.int p3), .val (.int p4), .val (.int p5), .val (.int p6), .val (.ref b1), .val (.long ww), .second, .val (.int z21), .val (.int z22), .val (.int z23), .val (.ref b24), .val (.int hs), .val (.int dq), .val (.int fr), .val (.int tq), .val (.long g), .second, .val (.int jq), .val (.int kq), .val (.int ng), .val (.long sd), .second, s25, .unset, .unset, .unset, .unset, .unset, .unset, .unset] [(.long (-9223372036854775808 : Int64)), (.long g)])) (fun t kt => X81.ldc2Long hx hown (mvT hZ (hw _ (List.mem_of_getElem? (i := 49) rfl))) (g := (mkF m 672 #[.val (.long p1), .second, .val (.int p2), .val (.int p3), .val (.int p4), .val (.int p5), .val (.int p6), .val (.ref b1), .val (.long ww), .second, .val (.int z21), .val (.int z22), .val (.int z23), .val (.ref b24), .val (.int hs), .val (.int dq), .val (.int fr), .val (.int tq), .val (.long g), .second, .val (.int jq), .val (.int kq), .val (.int ng), .val (.long sd), .second, s25, .unset, .unset, .unset, .unset, .unset, .unset, .unset] [(.long g)])) rfl (hb hby at_672) _ kt) ?_
        refine Run.x_lcmp (q := 676) X81 hx (hb hby at_675)  rfl ?_
        refine Run.x_ifNo (q := 679) X81 hx (hb hby at_676) ((if0 _ _).trans (teq ((lw_eq g (-9223372036854775808 : Int64)).mpr (by rw [eq64, hg]; show own_res ng (own_lp _ (z22 :: _)) = _; rw [own_lp_no (own_b_no hc667)]; rfl))).2) rfl ?_
        refine Run.x_iconst (q := 680) X81 hx (hb hby at_679) (z := (1 : Int32)) rfl rfl ?_
        refine Run.x_goto (q := 684) X81 hx (hb hby at_680) (by decide) (by decide) ?_
        refine Run.retN X81 hx hlk e81 (t := .boolean) hret (by simp) (z' := (1 : Int32)) (by decide) (hb hby at_684) (by decide) (by decide) ?_
        exact ⟨rfl, N81⟩
      · skip
        refine Run.x_ifYes (q := 685) X81 hx (hb hby at_667) ((if0 _ _).trans (feq hc667).2) (by decide) (by decide) ?_
        refine Run.x_iload (q := 687) X81 hx (hb hby at_685) rfl rfl ?_
        refine Run.x_iconst (q := 688) X81 hx (hb hby at_687) (z := (2 : Int32)) rfl rfl ?_
        refine Run.x_icmpNo (q := 691) X81 hx (hb hby at_688) (flt (by rw [lt32]; omega)).1 rfl ?_
        refine Run.x_iload (q := 693) X81 hx (hb hby at_691) rfl rfl ?_
        refine Run.callS X81 hx hZ e81 (y := (⟨"org/tertiary/io/FieldsIntegerPinLaw", "isDigit", "(B)Z"⟩ : MethodName)) hown (hw _ (List.mem_of_getElem? (i := 42) rfl)) (hw _ (List.mem_of_getElem? (i := 43) rfl)) (hw _ (List.mem_of_getElem? (i := 22) rfl)) (hw _ (List.mem_of_getElem? (i := 44) rfl)) (by decide) (argsL := [(.int z23)]) (rest := []) (c_isd l Z a0 hw z23 h79 n0 Z79 ) pd_3 rfl (by rw [hml]; rfl) (W := 0) rfl (by decide) (by decide) (by decide) (by decide) (hb hby at_693) rfl ?_
        intro T82 v82 L82 X82 q82
        obtain ⟨rfl, M82, e82⟩ := q82
        have N82 := Fr.app N81 M82
        show Run p e below s _ _ _ (T82.setTop (mkF m 696 #[.val (.long p1), .second, .val (.int p2), .val (.int p3), .val (.int p4), .val (.int p5), .val (.int p6), .val (.ref b1), .val (.long ww), .second, .val (.int z21), .val (.int z22), .val (.int z23), .val (.ref b24), .val (.int hs), .val (.int dq), .val (.int fr), .val (.int tq), .val (.long g), .second, .val (.int jq), .val (.int kq), .val (.int ng), .val (.long sd), .second, s25, .unset, .unset, .unset, .unset, .unset, .unset, .unset] [(.int (own_b (own_dg z23)))]))
        by_cases hc696 : (own_b (own_dg z23)) = (0 : Int32)
        · skip
          refine Run.x_ifNo (q := 699) X82 hx (hb hby at_696) ((if0 _ _).trans (teq hc696).2) rfl ?_
          refine Run.x_lload (q := 701) X82 hx (hb hby at_699) rfl rfl ?_
          refine Run.st (B := T82.setTop (mkF m 704 #[.val (.long p1), .second, .val (.int p2), .val (.int p3), .val (.int p4), .val (.int p5), .val (.int p6), .val (.ref b1), .val (.long ww), .second, .val (.int z21), .val (.int z22), .val (.int z23), .val (.ref b24), .val (.int hs), .val (.int dq), .val (.int fr), .val (.int tq), .val (.long g), .second, .val (.int jq), .val (.int kq), .val (.int ng), .val (.long sd), .second, s25, .unset, .unset, .unset, .unset, .unset, .unset, .unset] [(.long (-9223372036854775808 : Int64)), (.long g)])) (fun t kt => X82.ldc2Long hx hown (mvT hZ (hw _ (List.mem_of_getElem? (i := 49) rfl))) (g := (mkF m 701 #[.val (.long p1), .second, .val (.int p2), .val (.int p3), .val (.int p4), .val (.int p5), .val (.int p6), .val (.ref b1), .val (.long ww), .second, .val (.int z21), .val (.int z22), .val (.int z23), .val (.ref b24), .val (.int hs), .val (.int dq), .val (.int fr), .val (.int tq), .val (.long g), .second, .val (.int jq), .val (.int kq), .val (.int ng), .val (.long sd), .second, s25, .unset, .unset, .unset, .unset, .unset, .unset, .unset] [(.long g)])) rfl (hb hby at_701) _ kt) ?_
          refine Run.x_lcmp (q := 705) X82 hx (hb hby at_704)  rfl ?_
          refine Run.x_ifNo (q := 708) X82 hx (hb hby at_705) ((if0 _ _).trans (teq ((lw_eq g (-9223372036854775808 : Int64)).mpr (by rw [eq64, hg]; show own_res ng (own_lp _ [z22, z23]) = _; rw [own_lp_step (by omega) (own_b_yes hc667), own_lp_no (own_b_no hc696)]; rfl))).2) rfl ?_
          refine Run.x_iconst (q := 709) X82 hx (hb hby at_708) (z := (1 : Int32)) rfl rfl ?_
          refine Run.x_goto (q := 713) X82 hx (hb hby at_709) (by decide) (by decide) ?_
          refine Run.retN X82 hx hlk e82 (t := .boolean) hret (by simp) (z' := (1 : Int32)) (by decide) (hb hby at_713) (by decide) (by decide) ?_
          exact ⟨rfl, N82⟩
        · skip
          refine Run.x_ifYes (q := 714) X82 hx (hb hby at_696) ((if0 _ _).trans (feq hc696).2) (by decide) (by decide) ?_
          exact J714 T82 h79 _ hs dq fr tq jq kq ng g sd s25 M jN 2 X82 e82 N82 Z79 A_b1 hs25 hng hsd hj hj2 hk hk2 (fun _ => own_b_yes hc667) (fun _ => own_b_yes hc696) hg
  refine Run.x_iloadN (q := 454) X67 hx (hb hby at_453) rfl rfl ?_
  refine Run.x_iconst (q := 455) X67 hx (hb hby at_454) (z := (1 : Int32)) rfl rfl ?_
  refine Run.x_iand (q := 456) X67 hx (hb hby at_455) rfl rfl ?_
  by_cases hc456 : (p2 &&& (1 : Int32)) = (0 : Int32)
  · skip
    refine Run.x_ifNo (q := 459) X67 hx (hb hby at_456) ((if0 _ _).trans (teq hc456).2) rfl ?_
    refine Run.x_iconst (q := 460) X67 hx (hb hby at_459) (z := (1 : Int32)) rfl rfl ?_
    refine Run.x_goto (q := 464) X67 hx (hb hby at_460) (by decide) (by decide) ?_
    refine Run.x_istore (q := 466) X67 hx #[.val (.long p1), .second, .val (.int p2), .val (.int p3), .val (.int p4), .val (.int p5), .val (.int p6), .val (.ref b1), .val (.long ww), .second, .val (.int z21), .val (.int z22), .val (.int z23), .val (.ref b24), .val (.int (1 : Int32)), .unset, .unset, .unset, .unset, .unset, .unset, .unset, .unset, .unset, .unset, .unset, .unset, .unset, .unset, .unset, .unset, .unset, .unset] (hb hby at_464) rfl rfl ?_
    refine Run.x_iloadN (q := 467) X67 hx (hb hby at_466) rfl rfl ?_
    refine Run.x_iconst (q := 468) X67 hx (hb hby at_467) (z := (1 : Int32)) rfl rfl ?_
    refine Run.x_iushr (q := 469) X67 hx (hb hby at_468) rfl rfl ?_
    refine Run.x_bipush (q := 471) X67 hx (hb hby at_469) (z := (22 : Int32)) rfl rfl ?_
    refine Run.x_irem (q := 472) X67 hx (hb hby at_471) (by decide) rfl rfl ?_
    refine Run.x_istore (q := 474) X67 hx #[.val (.long p1), .second, .val (.int p2), .val (.int p3), .val (.int p4), .val (.int p5), .val (.int p6), .val (.ref b1), .val (.long ww), .second, .val (.int z21), .val (.int z22), .val (.int z23), .val (.ref b24), .val (.int (1 : Int32)), .val (.int (((p2.toUInt32 >>> ((1 : Int32) &&& 31).toUInt32).toInt32) % (22 : Int32))), .unset, .unset, .unset, .unset, .unset, .unset, .unset, .unset, .unset, .unset, .unset, .unset, .unset, .unset, .unset, .unset, .unset] (hb hby at_472) rfl rfl ?_
    generalize hdd : (((p2.toUInt32 >>> ((1 : Int32) &&& 31).toUInt32).toInt32) % (22 : Int32)) = dd
    refine Run.x_iload (q := 476) X67 hx (hb hby at_474) rfl rfl ?_
    refine Run.x_ifNo (q := 479) X67 hx (hb hby at_476) ((if0 _ _).trans (feq (by decide : ¬ ((1 : Int32) = (0 : Int32)))).1) rfl ?_
    refine Run.x_iconst (q := 480) X67 hx (hb hby at_479) (z := (1 : Int32)) rfl rfl ?_
    refine Run.x_goto (q := 484) X67 hx (hb hby at_480) (by decide) (by decide) ?_
    refine Run.x_istore (q := 486) X67 hx #[.val (.long p1), .second, .val (.int p2), .val (.int p3), .val (.int p4), .val (.int p5), .val (.int p6), .val (.ref b1), .val (.long ww), .second, .val (.int z21), .val (.int z22), .val (.int z23), .val (.ref b24), .val (.int (1 : Int32)), .val (.int dd), .val (.int (1 : Int32)), .unset, .unset, .unset, .unset, .unset, .unset, .unset, .unset, .unset, .unset, .unset, .unset, .unset, .unset, .unset, .unset] (hb hby at_484) rfl rfl ?_
    refine Run.x_iconst (q := 487) X67 hx (hb hby at_486) (z := (2 : Int32)) rfl rfl ?_
    refine Run.x_iload (q := 489) X67 hx (hb hby at_487) rfl rfl ?_
    refine Run.x_iadd (q := 490) X67 hx (hb hby at_489) rfl rfl ?_
    refine Run.x_istore (q := 492) X67 hx #[.val (.long p1), .second, .val (.int p2), .val (.int p3), .val (.int p4), .val (.int p5), .val (.int p6), .val (.ref b1), .val (.long ww), .second, .val (.int z21), .val (.int z22), .val (.int z23), .val (.ref b24), .val (.int (1 : Int32)), .val (.int dd), .val (.int (1 : Int32)), .val (.int ((2 : Int32) + dd)), .unset, .unset, .unset, .unset, .unset, .unset, .unset, .unset, .unset, .unset, .unset, .unset, .unset, .unset, .unset] (hb hby at_490) rfl rfl ?_
    generalize htt : ((2 : Int32) + dd) = tt
    refine Run.x_aload (q := 494) X67 hx (hb hby at_492) rfl rfl rfl ?_
    refine Run.x_iload (q := 496) X67 hx (hb hby at_494) rfl rfl ?_
    refine Run.x_iload (q := 498) X67 hx (hb hby at_496) rfl rfl ?_
    have hdd' := own_d hdd
    obtain ⟨dN, hdN⟩ : ∃ n : Nat, dd.toInt = n := ⟨dd.toInt.toNat, by omega⟩
    have htt' := own_to hdd'.1 hdd'.2 htt
    have hbl : bs.length = 24 := by rw [hbs]; rfl
    have Aq : Ars Z h67 b24 .byte ((bs.take 1 ++ (bs.drop 1).take (1 + dN) ++ bs.drop (1 + (1 + dN))).map Value.int) := by rw [own_split]; exact A_b24
    refine Run.callS X67 hx hZ e67 (y := (⟨"org/tertiary/io/Fields", "integer", "([BII)J"⟩ : MethodName)) hown (hw _ (List.mem_of_getElem? (i := 29) rfl)) (hw _ (List.mem_of_getElem? (i := 30) rfl)) (hw _ (List.mem_of_getElem? (i := 31) rfl)) (hw _ (List.mem_of_getElem? (i := 32) rfl)) (by decide) (argsL := [(.ref b24), (.int (1 : Int32)), (.int tt)]) (rest := []) (c_int l Z a0 hw b24 (1 : Int32) tt h67 n0 Z67 (bs.take 1) ((bs.drop 1).take (1 + dN)) (bs.drop (1 + (1 + dN))) Aq (by rw [List.length_take, hbl]; decide) (by rw [List.length_take, List.length_take, List.length_drop, hbl, htt']; omega) (by rw [List.length_take, List.length_take, List.length_drop, hbl]; omega)) pd_4 rfl (by rw [hml]; rfl) (W := 0) rfl (by decide) (by decide) (by decide) (by decide) (hb hby at_498) rfl ?_
    intro T83 v83 L83 X83 q83
    obtain ⟨z83, rfl, M83, e83, hz83⟩ := q83
    have N83 := Fr.app N67 M83
    show Run p e below s _ _ _ (T83.setTop (mkF m 501 #[.val (.long p1), .second, .val (.int p2), .val (.int p3), .val (.int p4), .val (.int p5), .val (.int p6), .val (.ref b1), .val (.long ww), .second, .val (.int z21), .val (.int z22), .val (.int z23), .val (.ref b24), .val (.int (1 : Int32)), .val (.int dd), .val (.int (1 : Int32)), .val (.int tt), .unset, .unset, .unset, .unset, .unset, .unset, .unset, .unset, .unset, .unset, .unset, .unset, .unset, .unset, .unset] [(.long z83)]))
    refine Run.x_lstore (q := 503) X83 hx #[.val (.long p1), .second, .val (.int p2), .val (.int p3), .val (.int p4), .val (.int p5), .val (.int p6), .val (.ref b1), .val (.long ww), .second, .val (.int z21), .val (.int z22), .val (.int z23), .val (.ref b24), .val (.int (1 : Int32)), .val (.int dd), .val (.int (1 : Int32)), .val (.int tt), .val (.long z83), .second, .unset, .unset, .unset, .unset, .unset, .unset, .unset, .unset, .unset, .unset, .unset, .unset, .unset] (hb hby at_501) rfl rfl ?_
    refine Run.x_iload (q := 505) X83 hx (hb hby at_503) rfl rfl ?_
    refine Run.x_bipush (q := 507) X83 hx (hb hby at_505) (z := (19 : Int32)) rfl rfl ?_
    refine Run.callS X83 hx hZ e83 (y := (⟨"java/lang/Math", "min", "(II)I"⟩ : MethodName)) hown (hw _ (List.mem_of_getElem? (i := 35) rfl)) (hw _ (List.mem_of_getElem? (i := 36) rfl)) (hw _ (List.mem_of_getElem? (i := 37) rfl)) (hw _ (List.mem_of_getElem? (i := 38) rfl)) (by decide) (argsL := [(.int dd), (.int (19 : Int32))]) (rest := []) (c_min l Z a0 hw dd (19 : Int32) h67 n0 Z67 ) pd_5 rfl (by rw [hml]; rfl) (W := 0) rfl (by decide) (by decide) (by decide) (by decide) (hb hby at_507) rfl ?_
    intro T84 v84 L84 X84 q84
    obtain ⟨rfl, M84, e84⟩ := q84
    have N84 := Fr.app N83 M84
    show Run p e below s _ _ _ (T84.setTop (mkF m 510 #[.val (.long p1), .second, .val (.int p2), .val (.int p3), .val (.int p4), .val (.int p5), .val (.int p6), .val (.ref b1), .val (.long ww), .second, .val (.int z21), .val (.int z22), .val (.int z23), .val (.ref b24), .val (.int (1 : Int32)), .val (.int dd), .val (.int (1 : Int32)), .val (.int tt), .val (.long z83), .second, .unset, .unset, .unset, .unset, .unset, .unset, .unset, .unset, .unset, .unset, .unset, .unset, .unset] [(.int (if (19 : Int32) < dd then (19 : Int32) else dd))]))
    refine Run.x_istore (q := 512) X84 hx #[.val (.long p1), .second, .val (.int p2), .val (.int p3), .val (.int p4), .val (.int p5), .val (.int p6), .val (.ref b1), .val (.long ww), .second, .val (.int z21), .val (.int z22), .val (.int z23), .val (.ref b24), .val (.int (1 : Int32)), .val (.int dd), .val (.int (1 : Int32)), .val (.int tt), .val (.long z83), .second, .val (.int (if (19 : Int32) < dd then (19 : Int32) else dd)), .unset, .unset, .unset, .unset, .unset, .unset, .unset, .unset, .unset, .unset, .unset, .unset] (hb hby at_510) rfl rfl ?_
    generalize hjj : (if (19 : Int32) < dd then (19 : Int32) else dd) = jj
    refine Run.x_iload (q := 514) X84 hx (hb hby at_512) rfl rfl ?_
    refine Run.x_iload (q := 516) X84 hx (hb hby at_514) rfl rfl ?_
    refine Run.x_isub (q := 517) X84 hx (hb hby at_516) rfl rfl ?_
    refine Run.x_istore (q := 519) X84 hx #[.val (.long p1), .second, .val (.int p2), .val (.int p3), .val (.int p4), .val (.int p5), .val (.int p6), .val (.ref b1), .val (.long ww), .second, .val (.int z21), .val (.int z22), .val (.int z23), .val (.ref b24), .val (.int (1 : Int32)), .val (.int dd), .val (.int (1 : Int32)), .val (.int tt), .val (.long z83), .second, .val (.int jj), .val (.int (dd - jj)), .unset, .unset, .unset, .unset, .unset, .unset, .unset, .unset, .unset, .unset, .unset] (hb hby at_517) rfl rfl ?_
    generalize hkk : (dd - jj) = kk
    refine Run.x_iconst (q := 520) X84 hx (hb hby at_519) (z := (0 : Int32)) rfl rfl ?_
    refine Run.x_istore (q := 522) X84 hx #[.val (.long p1), .second, .val (.int p2), .val (.int p3), .val (.int p4), .val (.int p5), .val (.int p6), .val (.ref b1), .val (.long ww), .second, .val (.int z21), .val (.int z22), .val (.int z23), .val (.ref b24), .val (.int (1 : Int32)), .val (.int dd), .val (.int (1 : Int32)), .val (.int tt), .val (.long z83), .second, .val (.int jj), .val (.int kk), .val (.int (0 : Int32)), .unset, .unset, .unset, .unset, .unset, .unset, .unset, .unset, .unset, .unset] (hb hby at_520) rfl rfl ?_
    refine Run.st (B := T84.setTop (mkF m 525 #[.val (.long p1), .second, .val (.int p2), .val (.int p3), .val (.int p4), .val (.int p5), .val (.int p6), .val (.ref b1), .val (.long ww), .second, .val (.int z21), .val (.int z22), .val (.int z23), .val (.ref b24), .val (.int (1 : Int32)), .val (.int dd), .val (.int (1 : Int32)), .val (.int tt), .val (.long z83), .second, .val (.int jj), .val (.int kk), .val (.int (0 : Int32)), .unset, .unset, .unset, .unset, .unset, .unset, .unset, .unset, .unset, .unset] [(.long (-1 : Int64))])) (fun t kt => X84.ldc2Long hx hown (mvT hZ (hw _ (List.mem_of_getElem? (i := 39) rfl))) (g := (mkF m 522 #[.val (.long p1), .second, .val (.int p2), .val (.int p3), .val (.int p4), .val (.int p5), .val (.int p6), .val (.ref b1), .val (.long ww), .second, .val (.int z21), .val (.int z22), .val (.int z23), .val (.ref b24), .val (.int (1 : Int32)), .val (.int dd), .val (.int (1 : Int32)), .val (.int tt), .val (.long z83), .second, .val (.int jj), .val (.int kk), .val (.int (0 : Int32)), .unset, .unset, .unset, .unset, .unset, .unset, .unset, .unset, .unset, .unset] [])) rfl (hb hby at_522) _ kt) ?_
    refine Run.x_lstore (q := 527) X84 hx #[.val (.long p1), .second, .val (.int p2), .val (.int p3), .val (.int p4), .val (.int p5), .val (.int p6), .val (.ref b1), .val (.long ww), .second, .val (.int z21), .val (.int z22), .val (.int z23), .val (.ref b24), .val (.int (1 : Int32)), .val (.int dd), .val (.int (1 : Int32)), .val (.int tt), .val (.long z83), .second, .val (.int jj), .val (.int kk), .val (.int (0 : Int32)), .val (.long (-1 : Int64)), .second, .unset, .unset, .unset, .unset, .unset, .unset, .unset, .unset] (hb hby at_525) rfl rfl ?_
    refine Run.x_iload (q := 529) X84 hx (hb hby at_527) rfl rfl ?_
    refine Run.x_ifNo (q := 532) X84 hx (hb hby at_529) ((if0 _ _).trans (feq (by decide : ¬ ((1 : Int32) = (0 : Int32)))).1) rfl ?_
    refine Run.x_iload (q := 534) X84 hx (hb hby at_532) rfl rfl ?_
    refine Run.x_bipush (q := 536) X84 hx (hb hby at_534) (z := (45 : Int32)) rfl rfl ?_
    by_cases hc536 : z21 = (45 : Int32)
    · skip
      refine Run.x_icmpYes (q := 546) X84 hx (hb hby at_536) (teq hc536).1 (by decide) (by decide) ?_
      refine Run.x_iconst (q := 547) X84 hx (hb hby at_546) (z := (1 : Int32)) rfl rfl ?_
      refine Run.x_goto (q := 551) X84 hx (hb hby at_547) (by decide) (by decide) ?_
      refine Run.x_istore (q := 553) X84 hx #[.val (.long p1), .second, .val (.int p2), .val (.int p3), .val (.int p4), .val (.int p5), .val (.int p6), .val (.ref b1), .val (.long ww), .second, .val (.int z21), .val (.int z22), .val (.int z23), .val (.ref b24), .val (.int (1 : Int32)), .val (.int dd), .val (.int (1 : Int32)), .val (.int tt), .val (.long z83), .second, .val (.int jj), .val (.int kk), .val (.int (0 : Int32)), .val (.long (-1 : Int64)), .second, .val (.int (1 : Int32)), .unset, .unset, .unset, .unset, .unset, .unset, .unset] (hb hby at_551) rfl rfl ?_
      refine Run.x_iload (q := 555) X84 hx (hb hby at_553) rfl rfl ?_
      refine Run.x_ifYes (q := 581) X84 hx (hb hby at_555) ((if0 _ _).trans (feq (by decide : ¬ ((1 : Int32) = (0 : Int32)))).2) (by decide) (by decide) ?_
      refine Run.x_iload (q := 583) X84 hx (hb hby at_581) rfl rfl ?_
      refine Run.x_ifNo (q := 586) X84 hx (hb hby at_583) ((if0 _ _).trans (feq (by decide : ¬ ((1 : Int32) = (0 : Int32)))).1) rfl ?_
      refine Run.x_iload (q := 588) X84 hx (hb hby at_586) rfl rfl ?_
      by_cases hc588 : dd = (0 : Int32)
      · skip
        refine Run.x_ifNo (q := 591) X84 hx (hb hby at_588) ((if0 _ _).trans (teq hc588).2) rfl ?_
        refine Run.x_lload (q := 593) X84 hx (hb hby at_591) rfl rfl ?_
        refine Run.st (B := T84.setTop (mkF m 596 #[.val (.long p1), .second, .val (.int p2), .val (.int p3), .val (.int p4), .val (.int p5), .val (.int p6), .val (.ref b1), .val (.long ww), .second, .val (.int z21), .val (.int z22), .val (.int z23), .val (.ref b24), .val (.int (1 : Int32)), .val (.int dd), .val (.int (1 : Int32)), .val (.int tt), .val (.long z83), .second, .val (.int jj), .val (.int kk), .val (.int (0 : Int32)), .val (.long (-1 : Int64)), .second, .val (.int (1 : Int32)), .unset, .unset, .unset, .unset, .unset, .unset, .unset] [(.long (-9223372036854775808 : Int64)), (.long z83)])) (fun t kt => X84.ldc2Long hx hown (mvT hZ (hw _ (List.mem_of_getElem? (i := 49) rfl))) (g := (mkF m 593 #[.val (.long p1), .second, .val (.int p2), .val (.int p3), .val (.int p4), .val (.int p5), .val (.int p6), .val (.ref b1), .val (.long ww), .second, .val (.int z21), .val (.int z22), .val (.int z23), .val (.ref b24), .val (.int (1 : Int32)), .val (.int dd), .val (.int (1 : Int32)), .val (.int tt), .val (.long z83), .second, .val (.int jj), .val (.int kk), .val (.int (0 : Int32)), .val (.long (-1 : Int64)), .second, .val (.int (1 : Int32)), .unset, .unset, .unset, .unset, .unset, .unset, .unset] [(.long z83)])) rfl (hb hby at_593) _ kt) ?_
        refine Run.x_lcmp (q := 597) X84 hx (hb hby at_596)  rfl ?_
        refine Run.x_ifNo (q := 600) X84 hx (hb hby at_597) ((if0 _ _).trans (teq ((lw_eq z83 (-9223372036854775808 : Int64)).mpr (by have z := (own_dz hdN).mp hc588; subst z; rw [eq64, hz83, hS, show 1 + 0 = 0 + 1 from rfl, List.take_succ_cons, own_i1 (r := (bs.drop 2).take 0) hc536 rfl]; rfl))).2) rfl ?_
        refine Run.x_iconst (q := 601) X84 hx (hb hby at_600) (z := (1 : Int32)) rfl rfl ?_
        refine Run.x_goto (q := 605) X84 hx (hb hby at_601) (by decide) (by decide) ?_
        refine Run.retN X84 hx hlk e84 (t := .boolean) hret (by simp) (z' := (1 : Int32)) (by decide) (hb hby at_605) (by decide) (by decide) ?_
        exact ⟨rfl, N84⟩
      · skip
        refine Run.x_ifYes (q := 606) X84 hx (hb hby at_588) ((if0 _ _).trans (feq hc588).2) (by decide) (by decide) ?_
        refine Run.x_iload (q := 608) X84 hx (hb hby at_606) rfl rfl ?_
        refine Run.x_bipush (q := 610) X84 hx (hb hby at_608) (z := (45 : Int32)) rfl rfl ?_
        refine Run.x_icmpNo (q := 613) X84 hx (hb hby at_610) (teq hc536).2 rfl ?_
        refine Run.x_iconst (q := 614) X84 hx (hb hby at_613) (z := (1 : Int32)) rfl rfl ?_
        refine Run.x_goto (q := 618) X84 hx (hb hby at_614) (by decide) (by decide) ?_
        refine Run.x_istore (q := 620) X84 hx #[.val (.long p1), .second, .val (.int p2), .val (.int p3), .val (.int p4), .val (.int p5), .val (.int p6), .val (.ref b1), .val (.long ww), .second, .val (.int z21), .val (.int z22), .val (.int z23), .val (.ref b24), .val (.int (1 : Int32)), .val (.int dd), .val (.int (1 : Int32)), .val (.int tt), .val (.long z83), .second, .val (.int jj), .val (.int kk), .val (.int (1 : Int32)), .val (.long (-1 : Int64)), .second, .val (.int (1 : Int32)), .unset, .unset, .unset, .unset, .unset, .unset, .unset] (hb hby at_618) rfl rfl ?_
        refine Run.x_iload (q := 622) X84 hx (hb hby at_620) rfl rfl ?_
        refine Run.x_ifYes (q := 633) X84 hx (hb hby at_622) ((if0 _ _).trans (feq (by decide : ¬ ((1 : Int32) = (0 : Int32)))).2) (by decide) (by decide) ?_
        refine Run.x_goto (q := 656) X84 hx (hb hby at_633) (by decide) (by decide) ?_
        have hjk := own_j hdd'.1 hdd'.2 hjj hkk
        obtain ⟨jN, hjN⟩ : ∃ n : Nat, jj.toInt = n := ⟨jj.toInt.toNat, by omega⟩
        obtain ⟨kN, hkN⟩ : ∃ n : Nat, kk.toInt = n := ⟨kk.toInt.toNat, by omega⟩
        have hdjk : dN = jN + kN := by omega
        have hcut := own_cut (g := 0) hT1 hT2 (j := jN) (k := kN) (by omega) (by omega) (by omega)
        have hG : z83.toInt = own_res (1 : Int32) (own_lp (own_sat (0 * 10 ^ jN + ww.toInt / 10 ^ (19 - jN))) ([z22, z23].take kN)) := by
          rw [← hwD (M := 0) (by decide) jN (by omega), ← hcut, ← hdjk, hz83]
          rw [hS, Nat.add_comm 1 dN, List.take_succ_cons]
          rw [own_i2 hc536 (fun q => mt (own_dz hdN).mpr hc588 (by have := congrArg List.length q; rw [List.length_take, List.length_drop, hbl] at this; simp only [List.length_nil] at this; omega))]; rfl
        replace A_b1 := (((A_b1.other W64 ne_b1_b24).other W65 ne_b1_b24).other W66 ne_b1_b24).other W67 ne_b1_b24
        exact J656 T84 h67 _ (1 : Int32) dd (1 : Int32) tt jj kk (1 : Int32) z83 (-1 : Int64) (.val (.int (1 : Int32))) 0 jN kN X84 e84 N84 Z67 A_b1 (Or.inr ⟨_, rfl⟩) (Or.inr rfl) (Or.inl ⟨rfl, rfl⟩) (by decide) hjN (by omega) hkN (by omega) hG
    · skip
      refine Run.x_icmpNo (q := 539) X84 hx (hb hby at_536) (feq hc536).1 rfl ?_
      refine Run.x_iload (q := 541) X84 hx (hb hby at_539) rfl rfl ?_
      refine Run.x_bipush (q := 543) X84 hx (hb hby at_541) (z := (43 : Int32)) rfl rfl ?_
      by_cases hc543 : z21 = (43 : Int32)
      · skip
        refine Run.x_icmpNo (q := 546) X84 hx (hb hby at_543) (teq hc543).2 rfl ?_
        refine Run.x_iconst (q := 547) X84 hx (hb hby at_546) (z := (1 : Int32)) rfl rfl ?_
        refine Run.x_goto (q := 551) X84 hx (hb hby at_547) (by decide) (by decide) ?_
        refine Run.x_istore (q := 553) X84 hx #[.val (.long p1), .second, .val (.int p2), .val (.int p3), .val (.int p4), .val (.int p5), .val (.int p6), .val (.ref b1), .val (.long ww), .second, .val (.int z21), .val (.int z22), .val (.int z23), .val (.ref b24), .val (.int (1 : Int32)), .val (.int dd), .val (.int (1 : Int32)), .val (.int tt), .val (.long z83), .second, .val (.int jj), .val (.int kk), .val (.int (0 : Int32)), .val (.long (-1 : Int64)), .second, .val (.int (1 : Int32)), .unset, .unset, .unset, .unset, .unset, .unset, .unset] (hb hby at_551) rfl rfl ?_
        refine Run.x_iload (q := 555) X84 hx (hb hby at_553) rfl rfl ?_
        refine Run.x_ifYes (q := 581) X84 hx (hb hby at_555) ((if0 _ _).trans (feq (by decide : ¬ ((1 : Int32) = (0 : Int32)))).2) (by decide) (by decide) ?_
        refine Run.x_iload (q := 583) X84 hx (hb hby at_581) rfl rfl ?_
        refine Run.x_ifNo (q := 586) X84 hx (hb hby at_583) ((if0 _ _).trans (feq (by decide : ¬ ((1 : Int32) = (0 : Int32)))).1) rfl ?_
        refine Run.x_iload (q := 588) X84 hx (hb hby at_586) rfl rfl ?_
        by_cases hc588 : dd = (0 : Int32)
        · skip
          refine Run.x_ifNo (q := 591) X84 hx (hb hby at_588) ((if0 _ _).trans (teq hc588).2) rfl ?_
          refine Run.x_lload (q := 593) X84 hx (hb hby at_591) rfl rfl ?_
          refine Run.st (B := T84.setTop (mkF m 596 #[.val (.long p1), .second, .val (.int p2), .val (.int p3), .val (.int p4), .val (.int p5), .val (.int p6), .val (.ref b1), .val (.long ww), .second, .val (.int z21), .val (.int z22), .val (.int z23), .val (.ref b24), .val (.int (1 : Int32)), .val (.int dd), .val (.int (1 : Int32)), .val (.int tt), .val (.long z83), .second, .val (.int jj), .val (.int kk), .val (.int (0 : Int32)), .val (.long (-1 : Int64)), .second, .val (.int (1 : Int32)), .unset, .unset, .unset, .unset, .unset, .unset, .unset] [(.long (-9223372036854775808 : Int64)), (.long z83)])) (fun t kt => X84.ldc2Long hx hown (mvT hZ (hw _ (List.mem_of_getElem? (i := 49) rfl))) (g := (mkF m 593 #[.val (.long p1), .second, .val (.int p2), .val (.int p3), .val (.int p4), .val (.int p5), .val (.int p6), .val (.ref b1), .val (.long ww), .second, .val (.int z21), .val (.int z22), .val (.int z23), .val (.ref b24), .val (.int (1 : Int32)), .val (.int dd), .val (.int (1 : Int32)), .val (.int tt), .val (.long z83), .second, .val (.int jj), .val (.int kk), .val (.int (0 : Int32)), .val (.long (-1 : Int64)), .second, .val (.int (1 : Int32)), .unset, .unset, .unset, .unset, .unset, .unset, .unset] [(.long z83)])) rfl (hb hby at_593) _ kt) ?_
          refine Run.x_lcmp (q := 597) X84 hx (hb hby at_596)  rfl ?_
          refine Run.x_ifNo (q := 600) X84 hx (hb hby at_597) ((if0 _ _).trans (teq ((lw_eq z83 (-9223372036854775808 : Int64)).mpr (by have z := (own_dz hdN).mp hc588; subst z; rw [eq64, hz83, hS, show 1 + 0 = 0 + 1 from rfl, List.take_succ_cons, own_i3 (r := (bs.drop 2).take 0) hc536 hc543 rfl]; rfl))).2) rfl ?_
          refine Run.x_iconst (q := 601) X84 hx (hb hby at_600) (z := (1 : Int32)) rfl rfl ?_
          refine Run.x_goto (q := 605) X84 hx (hb hby at_601) (by decide) (by decide) ?_
          refine Run.retN X84 hx hlk e84 (t := .boolean) hret (by simp) (z' := (1 : Int32)) (by decide) (hb hby at_605) (by decide) (by decide) ?_
          exact ⟨rfl, N84⟩
        · skip
          refine Run.x_ifYes (q := 606) X84 hx (hb hby at_588) ((if0 _ _).trans (feq hc588).2) (by decide) (by decide) ?_
          refine Run.x_iload (q := 608) X84 hx (hb hby at_606) rfl rfl ?_
          refine Run.x_bipush (q := 610) X84 hx (hb hby at_608) (z := (45 : Int32)) rfl rfl ?_
          refine Run.x_icmpYes (q := 617) X84 hx (hb hby at_610) (feq hc536).2 (by decide) (by decide) ?_
          refine Run.x_iconst (q := 618) X84 hx (hb hby at_617) (z := (0 : Int32)) rfl rfl ?_
          refine Run.x_istore (q := 620) X84 hx #[.val (.long p1), .second, .val (.int p2), .val (.int p3), .val (.int p4), .val (.int p5), .val (.int p6), .val (.ref b1), .val (.long ww), .second, .val (.int z21), .val (.int z22), .val (.int z23), .val (.ref b24), .val (.int (1 : Int32)), .val (.int dd), .val (.int (1 : Int32)), .val (.int tt), .val (.long z83), .second, .val (.int jj), .val (.int kk), .val (.int (0 : Int32)), .val (.long (-1 : Int64)), .second, .val (.int (1 : Int32)), .unset, .unset, .unset, .unset, .unset, .unset, .unset] (hb hby at_618) rfl rfl ?_
          refine Run.x_iload (q := 622) X84 hx (hb hby at_620) rfl rfl ?_
          refine Run.x_ifYes (q := 633) X84 hx (hb hby at_622) ((if0 _ _).trans (feq (by decide : ¬ ((1 : Int32) = (0 : Int32)))).2) (by decide) (by decide) ?_
          refine Run.x_goto (q := 656) X84 hx (hb hby at_633) (by decide) (by decide) ?_
          have hjk := own_j hdd'.1 hdd'.2 hjj hkk
          obtain ⟨jN, hjN⟩ : ∃ n : Nat, jj.toInt = n := ⟨jj.toInt.toNat, by omega⟩
          obtain ⟨kN, hkN⟩ : ∃ n : Nat, kk.toInt = n := ⟨kk.toInt.toNat, by omega⟩
          have hdjk : dN = jN + kN := by omega
          have hcut := own_cut (g := 0) hT1 hT2 (j := jN) (k := kN) (by omega) (by omega) (by omega)
          have hG : z83.toInt = own_res (0 : Int32) (own_lp (own_sat (0 * 10 ^ jN + ww.toInt / 10 ^ (19 - jN))) ([z22, z23].take kN)) := by
            rw [← hwD (M := 0) (by decide) jN (by omega), ← hcut, ← hdjk, hz83]
            rw [hS, Nat.add_comm 1 dN, List.take_succ_cons]
            rw [own_i4 hc536 hc543 (fun q => mt (own_dz hdN).mpr hc588 (by have := congrArg List.length q; rw [List.length_take, List.length_drop, hbl] at this; simp only [List.length_nil] at this; omega))]; rfl
          replace A_b1 := (((A_b1.other W64 ne_b1_b24).other W65 ne_b1_b24).other W66 ne_b1_b24).other W67 ne_b1_b24
          exact J656 T84 h67 _ (1 : Int32) dd (1 : Int32) tt jj kk (0 : Int32) z83 (-1 : Int64) (.val (.int (1 : Int32))) 0 jN kN X84 e84 N84 Z67 A_b1 (Or.inr ⟨_, rfl⟩) (Or.inl rfl) (Or.inl ⟨rfl, rfl⟩) (by decide) hjN (by omega) hkN (by omega) hG
      · skip
        refine Run.x_icmpYes (q := 550) X84 hx (hb hby at_543) (feq hc543).2 (by decide) (by decide) ?_
        refine Run.x_iconst (q := 551) X84 hx (hb hby at_550) (z := (0 : Int32)) rfl rfl ?_
        refine Run.x_istore (q := 553) X84 hx #[.val (.long p1), .second, .val (.int p2), .val (.int p3), .val (.int p4), .val (.int p5), .val (.int p6), .val (.ref b1), .val (.long ww), .second, .val (.int z21), .val (.int z22), .val (.int z23), .val (.ref b24), .val (.int (1 : Int32)), .val (.int dd), .val (.int (1 : Int32)), .val (.int tt), .val (.long z83), .second, .val (.int jj), .val (.int kk), .val (.int (0 : Int32)), .val (.long (-1 : Int64)), .second, .val (.int (0 : Int32)), .unset, .unset, .unset, .unset, .unset, .unset, .unset] (hb hby at_551) rfl rfl ?_
        refine Run.x_iload (q := 555) X84 hx (hb hby at_553) rfl rfl ?_
        refine Run.x_ifNo (q := 558) X84 hx (hb hby at_555) ((if0 _ _).trans (teq (by decide : (0 : Int32) = (0 : Int32))).2) rfl ?_
        refine Run.x_iload (q := 560) X84 hx (hb hby at_558) rfl rfl ?_
        refine Run.callS X84 hx hZ e84 (y := (⟨"org/tertiary/io/FieldsIntegerPinLaw", "isDigit", "(B)Z"⟩ : MethodName)) hown (hw _ (List.mem_of_getElem? (i := 42) rfl)) (hw _ (List.mem_of_getElem? (i := 43) rfl)) (hw _ (List.mem_of_getElem? (i := 22) rfl)) (hw _ (List.mem_of_getElem? (i := 44) rfl)) (by decide) (argsL := [(.int z21)]) (rest := []) (c_isd l Z a0 hw z21 h67 n0 Z67 ) pd_3 rfl (by rw [hml]; rfl) (W := 0) rfl (by decide) (by decide) (by decide) (by decide) (hb hby at_560) rfl ?_
        intro T85 v85 L85 X85 q85
        obtain ⟨rfl, M85, e85⟩ := q85
        have N85 := Fr.app N84 M85
        show Run p e below s _ _ _ (T85.setTop (mkF m 563 #[.val (.long p1), .second, .val (.int p2), .val (.int p3), .val (.int p4), .val (.int p5), .val (.int p6), .val (.ref b1), .val (.long ww), .second, .val (.int z21), .val (.int z22), .val (.int z23), .val (.ref b24), .val (.int (1 : Int32)), .val (.int dd), .val (.int (1 : Int32)), .val (.int tt), .val (.long z83), .second, .val (.int jj), .val (.int kk), .val (.int (0 : Int32)), .val (.long (-1 : Int64)), .second, .val (.int (0 : Int32)), .unset, .unset, .unset, .unset, .unset, .unset, .unset] [(.int (own_b (own_dg z21)))]))
        by_cases hc563 : (own_b (own_dg z21)) = (0 : Int32)
        · skip
          refine Run.x_ifNo (q := 566) X85 hx (hb hby at_563) ((if0 _ _).trans (teq hc563).2) rfl ?_
          refine Run.x_lload (q := 568) X85 hx (hb hby at_566) rfl rfl ?_
          refine Run.st (B := T85.setTop (mkF m 571 #[.val (.long p1), .second, .val (.int p2), .val (.int p3), .val (.int p4), .val (.int p5), .val (.int p6), .val (.ref b1), .val (.long ww), .second, .val (.int z21), .val (.int z22), .val (.int z23), .val (.ref b24), .val (.int (1 : Int32)), .val (.int dd), .val (.int (1 : Int32)), .val (.int tt), .val (.long z83), .second, .val (.int jj), .val (.int kk), .val (.int (0 : Int32)), .val (.long (-1 : Int64)), .second, .val (.int (0 : Int32)), .unset, .unset, .unset, .unset, .unset, .unset, .unset] [(.long (-9223372036854775808 : Int64)), (.long z83)])) (fun t kt => X85.ldc2Long hx hown (mvT hZ (hw _ (List.mem_of_getElem? (i := 49) rfl))) (g := (mkF m 568 #[.val (.long p1), .second, .val (.int p2), .val (.int p3), .val (.int p4), .val (.int p5), .val (.int p6), .val (.ref b1), .val (.long ww), .second, .val (.int z21), .val (.int z22), .val (.int z23), .val (.ref b24), .val (.int (1 : Int32)), .val (.int dd), .val (.int (1 : Int32)), .val (.int tt), .val (.long z83), .second, .val (.int jj), .val (.int kk), .val (.int (0 : Int32)), .val (.long (-1 : Int64)), .second, .val (.int (0 : Int32)), .unset, .unset, .unset, .unset, .unset, .unset, .unset] [(.long z83)])) rfl (hb hby at_568) _ kt) ?_
          refine Run.x_lcmp (q := 572) X85 hx (hb hby at_571)  rfl ?_
          refine Run.x_ifNo (q := 575) X85 hx (hb hby at_572) ((if0 _ _).trans (teq ((lw_eq z83 (-9223372036854775808 : Int64)).mpr (by rw [eq64, hz83, hS, Nat.add_comm 1 dN, List.take_succ_cons, own_i5 hc536 hc543, own_lp_no (own_b_no hc563)]; rfl))).2) rfl ?_
          refine Run.x_iconst (q := 576) X85 hx (hb hby at_575) (z := (1 : Int32)) rfl rfl ?_
          refine Run.x_goto (q := 580) X85 hx (hb hby at_576) (by decide) (by decide) ?_
          refine Run.retN X85 hx hlk e85 (t := .boolean) hret (by simp) (z' := (1 : Int32)) (by decide) (hb hby at_580) (by decide) (by decide) ?_
          exact ⟨rfl, N85⟩
        · skip
          refine Run.x_ifYes (q := 581) X85 hx (hb hby at_563) ((if0 _ _).trans (feq hc563).2) (by decide) (by decide) ?_
          refine Run.x_iload (q := 583) X85 hx (hb hby at_581) rfl rfl ?_
          refine Run.x_ifYes (q := 606) X85 hx (hb hby at_583) ((if0 _ _).trans (teq (by decide : (0 : Int32) = (0 : Int32))).1) (by decide) (by decide) ?_
          refine Run.x_iload (q := 608) X85 hx (hb hby at_606) rfl rfl ?_
          refine Run.x_bipush (q := 610) X85 hx (hb hby at_608) (z := (45 : Int32)) rfl rfl ?_
          refine Run.x_icmpYes (q := 617) X85 hx (hb hby at_610) (feq hc536).2 (by decide) (by decide) ?_
          refine Run.x_iconst (q := 618) X85 hx (hb hby at_617) (z := (0 : Int32)) rfl rfl ?_
          refine Run.x_istore (q := 620) X85 hx #[.val (.long p1), .second, .val (.int p2), .val (.int p3), .val (.int p4), .val (.int p5), .val (.int p6), .val (.ref b1), .val (.long ww), .second, .val (.int z21), .val (.int z22), .val (.int z23), .val (.ref b24), .val (.int (1 : Int32)), .val (.int dd), .val (.int (1 : Int32)), .val (.int tt), .val (.long z83), .second, .val (.int jj), .val (.int kk), .val (.int (0 : Int32)), .val (.long (-1 : Int64)), .second, .val (.int (0 : Int32)), .unset, .unset, .unset, .unset, .unset, .unset, .unset] (hb hby at_618) rfl rfl ?_
          refine Run.x_iload (q := 622) X85 hx (hb hby at_620) rfl rfl ?_
          refine Run.x_ifNo (q := 625) X85 hx (hb hby at_622) ((if0 _ _).trans (teq (by decide : (0 : Int32) = (0 : Int32))).2) rfl ?_
          refine Run.x_iload (q := 627) X85 hx (hb hby at_625) rfl rfl ?_
          refine Run.x_bipush (q := 629) X85 hx (hb hby at_627) (z := (48 : Int32)) rfl rfl ?_
          refine Run.x_isub (q := 630) X85 hx (hb hby at_629) rfl rfl ?_
          refine Run.x_i2l (q := 631) X85 hx (hb hby at_630) rfl rfl ?_
          refine Run.x_lstore (q := 633) X85 hx #[.val (.long p1), .second, .val (.int p2), .val (.int p3), .val (.int p4), .val (.int p5), .val (.int p6), .val (.ref b1), .val (.long ww), .second, .val (.int z21), .val (.int z22), .val (.int z23), .val (.ref b24), .val (.int (1 : Int32)), .val (.int dd), .val (.int (1 : Int32)), .val (.int tt), .val (.long z83), .second, .val (.int jj), .val (.int kk), .val (.int (0 : Int32)), .val (.long (z21 - (48 : Int32)).toInt64), .second, .val (.int (0 : Int32)), .unset, .unset, .unset, .unset, .unset, .unset, .unset] (hb hby at_631) rfl rfl ?_
          generalize hsd : (z21 - (48 : Int32)).toInt64 = sd
          have hsd0 : 0 ≤ sd.toInt := by rw [← hsd, (own_dsub (own_b_yes hc563)).1]; exact (own_dsub (own_b_yes hc563)).2.1
          refine Run.x_goto (q := 656) X85 hx (hb hby at_633) (by decide) (by decide) ?_
          have hjk := own_j hdd'.1 hdd'.2 hjj hkk
          obtain ⟨jN, hjN⟩ : ∃ n : Nat, jj.toInt = n := ⟨jj.toInt.toNat, by omega⟩
          obtain ⟨kN, hkN⟩ : ∃ n : Nat, kk.toInt = n := ⟨kk.toInt.toNat, by omega⟩
          have hdjk : dN = jN + kN := by omega
          have hcut := own_cut (g := 0) hT1 hT2 (j := jN) (k := kN) (by omega) (by omega) (by omega)
          have hG : z83.toInt = own_res (0 : Int32) (own_lp (own_sat (sd.toInt * 10 ^ jN + ww.toInt / 10 ^ (19 - jN))) ([z22, z23].take kN)) := by
            rw [← hwD (M := sd.toInt) hsd0 jN (by omega), ← hcut, ← hdjk, hz83]
            rw [hS, Nat.add_comm 1 dN, List.take_succ_cons]
            rw [own_i5 hc536 hc543, own_0, own_lp_step (by decide) (own_b_yes hc563), ← hsd, (own_dsub (own_b_yes hc563)).1, Int.zero_mul, Int.zero_add]
          replace A_b1 := (((A_b1.other W64 ne_b1_b24).other W65 ne_b1_b24).other W66 ne_b1_b24).other W67 ne_b1_b24
          exact J656 T85 h67 _ (1 : Int32) dd (1 : Int32) tt jj kk (0 : Int32) z83 sd (.val (.int (0 : Int32))) sd.toInt jN kN X85 e85 N85 Z67 A_b1 (Or.inr ⟨_, rfl⟩) (Or.inl rfl) (Or.inr ⟨hsd0, rfl⟩) hsd0 hjN (by omega) hkN (by omega) hG
  · skip
    refine Run.x_ifYes (q := 463) X67 hx (hb hby at_456) ((if0 _ _).trans (feq hc456).2) (by decide) (by decide) ?_
    refine Run.x_iconst (q := 464) X67 hx (hb hby at_463) (z := (0 : Int32)) rfl rfl ?_
    refine Run.x_istore (q := 466) X67 hx #[.val (.long p1), .second, .val (.int p2), .val (.int p3), .val (.int p4), .val (.int p5), .val (.int p6), .val (.ref b1), .val (.long ww), .second, .val (.int z21), .val (.int z22), .val (.int z23), .val (.ref b24), .val (.int (0 : Int32)), .unset, .unset, .unset, .unset, .unset, .unset, .unset, .unset, .unset, .unset, .unset, .unset, .unset, .unset, .unset, .unset, .unset, .unset] (hb hby at_464) rfl rfl ?_
    refine Run.x_iloadN (q := 467) X67 hx (hb hby at_466) rfl rfl ?_
    refine Run.x_iconst (q := 468) X67 hx (hb hby at_467) (z := (1 : Int32)) rfl rfl ?_
    refine Run.x_iushr (q := 469) X67 hx (hb hby at_468) rfl rfl ?_
    refine Run.x_bipush (q := 471) X67 hx (hb hby at_469) (z := (22 : Int32)) rfl rfl ?_
    refine Run.x_irem (q := 472) X67 hx (hb hby at_471) (by decide) rfl rfl ?_
    refine Run.x_istore (q := 474) X67 hx #[.val (.long p1), .second, .val (.int p2), .val (.int p3), .val (.int p4), .val (.int p5), .val (.int p6), .val (.ref b1), .val (.long ww), .second, .val (.int z21), .val (.int z22), .val (.int z23), .val (.ref b24), .val (.int (0 : Int32)), .val (.int (((p2.toUInt32 >>> ((1 : Int32) &&& 31).toUInt32).toInt32) % (22 : Int32))), .unset, .unset, .unset, .unset, .unset, .unset, .unset, .unset, .unset, .unset, .unset, .unset, .unset, .unset, .unset, .unset, .unset] (hb hby at_472) rfl rfl ?_
    generalize hdd : (((p2.toUInt32 >>> ((1 : Int32) &&& 31).toUInt32).toInt32) % (22 : Int32)) = dd
    refine Run.x_iload (q := 476) X67 hx (hb hby at_474) rfl rfl ?_
    refine Run.x_ifYes (q := 483) X67 hx (hb hby at_476) ((if0 _ _).trans (teq (by decide : (0 : Int32) = (0 : Int32))).1) (by decide) (by decide) ?_
    refine Run.x_iconst (q := 484) X67 hx (hb hby at_483) (z := (2 : Int32)) rfl rfl ?_
    refine Run.x_istore (q := 486) X67 hx #[.val (.long p1), .second, .val (.int p2), .val (.int p3), .val (.int p4), .val (.int p5), .val (.int p6), .val (.ref b1), .val (.long ww), .second, .val (.int z21), .val (.int z22), .val (.int z23), .val (.ref b24), .val (.int (0 : Int32)), .val (.int dd), .val (.int (2 : Int32)), .unset, .unset, .unset, .unset, .unset, .unset, .unset, .unset, .unset, .unset, .unset, .unset, .unset, .unset, .unset, .unset] (hb hby at_484) rfl rfl ?_
    refine Run.x_iconst (q := 487) X67 hx (hb hby at_486) (z := (2 : Int32)) rfl rfl ?_
    refine Run.x_iload (q := 489) X67 hx (hb hby at_487) rfl rfl ?_
    refine Run.x_iadd (q := 490) X67 hx (hb hby at_489) rfl rfl ?_
    refine Run.x_istore (q := 492) X67 hx #[.val (.long p1), .second, .val (.int p2), .val (.int p3), .val (.int p4), .val (.int p5), .val (.int p6), .val (.ref b1), .val (.long ww), .second, .val (.int z21), .val (.int z22), .val (.int z23), .val (.ref b24), .val (.int (0 : Int32)), .val (.int dd), .val (.int (2 : Int32)), .val (.int ((2 : Int32) + dd)), .unset, .unset, .unset, .unset, .unset, .unset, .unset, .unset, .unset, .unset, .unset, .unset, .unset, .unset, .unset] (hb hby at_490) rfl rfl ?_
    generalize htt : ((2 : Int32) + dd) = tt
    refine Run.x_aload (q := 494) X67 hx (hb hby at_492) rfl rfl rfl ?_
    refine Run.x_iload (q := 496) X67 hx (hb hby at_494) rfl rfl ?_
    refine Run.x_iload (q := 498) X67 hx (hb hby at_496) rfl rfl ?_
    have hdd' := own_d hdd
    obtain ⟨dN, hdN⟩ : ∃ n : Nat, dd.toInt = n := ⟨dd.toInt.toNat, by omega⟩
    have htt' := own_to hdd'.1 hdd'.2 htt
    have hbl : bs.length = 24 := by rw [hbs]; rfl
    have Aq : Ars Z h67 b24 .byte ((bs.take 2 ++ (bs.drop 2).take (dN) ++ bs.drop (2 + (dN))).map Value.int) := by rw [own_split]; exact A_b24
    refine Run.callS X67 hx hZ e67 (y := (⟨"org/tertiary/io/Fields", "integer", "([BII)J"⟩ : MethodName)) hown (hw _ (List.mem_of_getElem? (i := 29) rfl)) (hw _ (List.mem_of_getElem? (i := 30) rfl)) (hw _ (List.mem_of_getElem? (i := 31) rfl)) (hw _ (List.mem_of_getElem? (i := 32) rfl)) (by decide) (argsL := [(.ref b24), (.int (2 : Int32)), (.int tt)]) (rest := []) (c_int l Z a0 hw b24 (2 : Int32) tt h67 n0 Z67 (bs.take 2) ((bs.drop 2).take (dN)) (bs.drop (2 + (dN))) Aq (by rw [List.length_take, hbl]; decide) (by rw [List.length_take, List.length_take, List.length_drop, hbl, htt']; omega) (by rw [List.length_take, List.length_take, List.length_drop, hbl]; omega)) pd_4 rfl (by rw [hml]; rfl) (W := 0) rfl (by decide) (by decide) (by decide) (by decide) (hb hby at_498) rfl ?_
    intro T86 v86 L86 X86 q86
    obtain ⟨z86, rfl, M86, e86, hz86⟩ := q86
    have N86 := Fr.app N67 M86
    show Run p e below s _ _ _ (T86.setTop (mkF m 501 #[.val (.long p1), .second, .val (.int p2), .val (.int p3), .val (.int p4), .val (.int p5), .val (.int p6), .val (.ref b1), .val (.long ww), .second, .val (.int z21), .val (.int z22), .val (.int z23), .val (.ref b24), .val (.int (0 : Int32)), .val (.int dd), .val (.int (2 : Int32)), .val (.int tt), .unset, .unset, .unset, .unset, .unset, .unset, .unset, .unset, .unset, .unset, .unset, .unset, .unset, .unset, .unset] [(.long z86)]))
    refine Run.x_lstore (q := 503) X86 hx #[.val (.long p1), .second, .val (.int p2), .val (.int p3), .val (.int p4), .val (.int p5), .val (.int p6), .val (.ref b1), .val (.long ww), .second, .val (.int z21), .val (.int z22), .val (.int z23), .val (.ref b24), .val (.int (0 : Int32)), .val (.int dd), .val (.int (2 : Int32)), .val (.int tt), .val (.long z86), .second, .unset, .unset, .unset, .unset, .unset, .unset, .unset, .unset, .unset, .unset, .unset, .unset, .unset] (hb hby at_501) rfl rfl ?_
    refine Run.x_iload (q := 505) X86 hx (hb hby at_503) rfl rfl ?_
    refine Run.x_bipush (q := 507) X86 hx (hb hby at_505) (z := (19 : Int32)) rfl rfl ?_
    refine Run.callS X86 hx hZ e86 (y := (⟨"java/lang/Math", "min", "(II)I"⟩ : MethodName)) hown (hw _ (List.mem_of_getElem? (i := 35) rfl)) (hw _ (List.mem_of_getElem? (i := 36) rfl)) (hw _ (List.mem_of_getElem? (i := 37) rfl)) (hw _ (List.mem_of_getElem? (i := 38) rfl)) (by decide) (argsL := [(.int dd), (.int (19 : Int32))]) (rest := []) (c_min l Z a0 hw dd (19 : Int32) h67 n0 Z67 ) pd_5 rfl (by rw [hml]; rfl) (W := 0) rfl (by decide) (by decide) (by decide) (by decide) (hb hby at_507) rfl ?_
    intro T87 v87 L87 X87 q87
    obtain ⟨rfl, M87, e87⟩ := q87
    have N87 := Fr.app N86 M87
    show Run p e below s _ _ _ (T87.setTop (mkF m 510 #[.val (.long p1), .second, .val (.int p2), .val (.int p3), .val (.int p4), .val (.int p5), .val (.int p6), .val (.ref b1), .val (.long ww), .second, .val (.int z21), .val (.int z22), .val (.int z23), .val (.ref b24), .val (.int (0 : Int32)), .val (.int dd), .val (.int (2 : Int32)), .val (.int tt), .val (.long z86), .second, .unset, .unset, .unset, .unset, .unset, .unset, .unset, .unset, .unset, .unset, .unset, .unset, .unset] [(.int (if (19 : Int32) < dd then (19 : Int32) else dd))]))
    refine Run.x_istore (q := 512) X87 hx #[.val (.long p1), .second, .val (.int p2), .val (.int p3), .val (.int p4), .val (.int p5), .val (.int p6), .val (.ref b1), .val (.long ww), .second, .val (.int z21), .val (.int z22), .val (.int z23), .val (.ref b24), .val (.int (0 : Int32)), .val (.int dd), .val (.int (2 : Int32)), .val (.int tt), .val (.long z86), .second, .val (.int (if (19 : Int32) < dd then (19 : Int32) else dd)), .unset, .unset, .unset, .unset, .unset, .unset, .unset, .unset, .unset, .unset, .unset, .unset] (hb hby at_510) rfl rfl ?_
    generalize hjj : (if (19 : Int32) < dd then (19 : Int32) else dd) = jj
    refine Run.x_iload (q := 514) X87 hx (hb hby at_512) rfl rfl ?_
    refine Run.x_iload (q := 516) X87 hx (hb hby at_514) rfl rfl ?_
    refine Run.x_isub (q := 517) X87 hx (hb hby at_516) rfl rfl ?_
    refine Run.x_istore (q := 519) X87 hx #[.val (.long p1), .second, .val (.int p2), .val (.int p3), .val (.int p4), .val (.int p5), .val (.int p6), .val (.ref b1), .val (.long ww), .second, .val (.int z21), .val (.int z22), .val (.int z23), .val (.ref b24), .val (.int (0 : Int32)), .val (.int dd), .val (.int (2 : Int32)), .val (.int tt), .val (.long z86), .second, .val (.int jj), .val (.int (dd - jj)), .unset, .unset, .unset, .unset, .unset, .unset, .unset, .unset, .unset, .unset, .unset] (hb hby at_517) rfl rfl ?_
    generalize hkk : (dd - jj) = kk
    refine Run.x_iconst (q := 520) X87 hx (hb hby at_519) (z := (0 : Int32)) rfl rfl ?_
    refine Run.x_istore (q := 522) X87 hx #[.val (.long p1), .second, .val (.int p2), .val (.int p3), .val (.int p4), .val (.int p5), .val (.int p6), .val (.ref b1), .val (.long ww), .second, .val (.int z21), .val (.int z22), .val (.int z23), .val (.ref b24), .val (.int (0 : Int32)), .val (.int dd), .val (.int (2 : Int32)), .val (.int tt), .val (.long z86), .second, .val (.int jj), .val (.int kk), .val (.int (0 : Int32)), .unset, .unset, .unset, .unset, .unset, .unset, .unset, .unset, .unset, .unset] (hb hby at_520) rfl rfl ?_
    refine Run.st (B := T87.setTop (mkF m 525 #[.val (.long p1), .second, .val (.int p2), .val (.int p3), .val (.int p4), .val (.int p5), .val (.int p6), .val (.ref b1), .val (.long ww), .second, .val (.int z21), .val (.int z22), .val (.int z23), .val (.ref b24), .val (.int (0 : Int32)), .val (.int dd), .val (.int (2 : Int32)), .val (.int tt), .val (.long z86), .second, .val (.int jj), .val (.int kk), .val (.int (0 : Int32)), .unset, .unset, .unset, .unset, .unset, .unset, .unset, .unset, .unset, .unset] [(.long (-1 : Int64))])) (fun t kt => X87.ldc2Long hx hown (mvT hZ (hw _ (List.mem_of_getElem? (i := 39) rfl))) (g := (mkF m 522 #[.val (.long p1), .second, .val (.int p2), .val (.int p3), .val (.int p4), .val (.int p5), .val (.int p6), .val (.ref b1), .val (.long ww), .second, .val (.int z21), .val (.int z22), .val (.int z23), .val (.ref b24), .val (.int (0 : Int32)), .val (.int dd), .val (.int (2 : Int32)), .val (.int tt), .val (.long z86), .second, .val (.int jj), .val (.int kk), .val (.int (0 : Int32)), .unset, .unset, .unset, .unset, .unset, .unset, .unset, .unset, .unset, .unset] [])) rfl (hb hby at_522) _ kt) ?_
    refine Run.x_lstore (q := 527) X87 hx #[.val (.long p1), .second, .val (.int p2), .val (.int p3), .val (.int p4), .val (.int p5), .val (.int p6), .val (.ref b1), .val (.long ww), .second, .val (.int z21), .val (.int z22), .val (.int z23), .val (.ref b24), .val (.int (0 : Int32)), .val (.int dd), .val (.int (2 : Int32)), .val (.int tt), .val (.long z86), .second, .val (.int jj), .val (.int kk), .val (.int (0 : Int32)), .val (.long (-1 : Int64)), .second, .unset, .unset, .unset, .unset, .unset, .unset, .unset, .unset] (hb hby at_525) rfl rfl ?_
    refine Run.x_iload (q := 529) X87 hx (hb hby at_527) rfl rfl ?_
    refine Run.x_ifYes (q := 636) X87 hx (hb hby at_529) ((if0 _ _).trans (teq (by decide : (0 : Int32) = (0 : Int32))).1) (by decide) (by decide) ?_
    refine Run.x_iload (q := 638) X87 hx (hb hby at_636) rfl rfl ?_
    by_cases hc638 : dd = (0 : Int32)
    · skip
      refine Run.x_ifNo (q := 641) X87 hx (hb hby at_638) ((if0 _ _).trans (teq hc638).2) rfl ?_
      refine Run.x_lload (q := 643) X87 hx (hb hby at_641) rfl rfl ?_
      refine Run.st (B := T87.setTop (mkF m 646 #[.val (.long p1), .second, .val (.int p2), .val (.int p3), .val (.int p4), .val (.int p5), .val (.int p6), .val (.ref b1), .val (.long ww), .second, .val (.int z21), .val (.int z22), .val (.int z23), .val (.ref b24), .val (.int (0 : Int32)), .val (.int dd), .val (.int (2 : Int32)), .val (.int tt), .val (.long z86), .second, .val (.int jj), .val (.int kk), .val (.int (0 : Int32)), .val (.long (-1 : Int64)), .second, .unset, .unset, .unset, .unset, .unset, .unset, .unset, .unset] [(.long (-9223372036854775808 : Int64)), (.long z86)])) (fun t kt => X87.ldc2Long hx hown (mvT hZ (hw _ (List.mem_of_getElem? (i := 49) rfl))) (g := (mkF m 643 #[.val (.long p1), .second, .val (.int p2), .val (.int p3), .val (.int p4), .val (.int p5), .val (.int p6), .val (.ref b1), .val (.long ww), .second, .val (.int z21), .val (.int z22), .val (.int z23), .val (.ref b24), .val (.int (0 : Int32)), .val (.int dd), .val (.int (2 : Int32)), .val (.int tt), .val (.long z86), .second, .val (.int jj), .val (.int kk), .val (.int (0 : Int32)), .val (.long (-1 : Int64)), .second, .unset, .unset, .unset, .unset, .unset, .unset, .unset, .unset] [(.long z86)])) rfl (hb hby at_643) _ kt) ?_
      refine Run.x_lcmp (q := 647) X87 hx (hb hby at_646)  rfl ?_
      refine Run.x_ifNo (q := 650) X87 hx (hb hby at_647) ((if0 _ _).trans (teq ((lw_eq z86 (-9223372036854775808 : Int64)).mpr (by have z := (own_dz hdN).mp hc638; subst z; rw [eq64, hz86]; rfl))).2) rfl ?_
      refine Run.x_iconst (q := 651) X87 hx (hb hby at_650) (z := (1 : Int32)) rfl rfl ?_
      refine Run.x_goto (q := 655) X87 hx (hb hby at_651) (by decide) (by decide) ?_
      refine Run.retN X87 hx hlk e87 (t := .boolean) hret (by simp) (z' := (1 : Int32)) (by decide) (hb hby at_655) (by decide) (by decide) ?_
      exact ⟨rfl, N87⟩
    · skip
      refine Run.x_ifYes (q := 656) X87 hx (hb hby at_638) ((if0 _ _).trans (feq hc638).2) (by decide) (by decide) ?_
      have hjk := own_j hdd'.1 hdd'.2 hjj hkk
      obtain ⟨jN, hjN⟩ : ∃ n : Nat, jj.toInt = n := ⟨jj.toInt.toNat, by omega⟩
      obtain ⟨kN, hkN⟩ : ∃ n : Nat, kk.toInt = n := ⟨kk.toInt.toNat, by omega⟩
      have hdjk : dN = jN + kN := by omega
      have hcut := own_cut (g := 0) hT1 hT2 (j := jN) (k := kN) (by omega) (by omega) (by omega)
      have hG : z86.toInt = own_res (0 : Int32) (own_lp (own_sat (0 * 10 ^ jN + ww.toInt / 10 ^ (19 - jN))) ([z22, z23].take kN)) := by
        rw [← hwD (M := 0) (by decide) jN (by omega), ← hcut, ← hdjk, hz86]
        obtain ⟨c0, hc0, hv0⟩ := hD 0 (by decide)
        obtain ⟨m, rfl⟩ : ∃ m, dN = m + 1 := ⟨dN - 1, by have := mt (own_dz hdN).mpr hc638; omega⟩
        have hcons : (bs.drop 2).take (m + 1) = c0 :: ((bs.drop 2).drop 1).take m := by
          have q := List.drop_eq_getElem_cons (l := bs.drop 2) (i := 0) (List.getElem?_eq_some_iff.mp hc0).1
          have q2 := (List.getElem?_eq_some_iff.mp hc0).2
          rw [q2] at q; rw [show bs.drop 2 = (bs.drop 2).drop 0 from rfl, q]; rfl
        rw [hcons, own_i5 (by rw [eq32]; have : (45 : Int32).toInt = 45 := rfl; omega) (by rw [eq32]; have : (43 : Int32).toInt = 43 := rfl; omega)]; rfl
      replace A_b1 := (((A_b1.other W64 ne_b1_b24).other W65 ne_b1_b24).other W66 ne_b1_b24).other W67 ne_b1_b24
      exact J656 T87 h67 _ (0 : Int32) dd (2 : Int32) tt jj kk (0 : Int32) z86 (-1 : Int64) .unset 0 jN kN X87 e87 N87 Z67 A_b1 (Or.inl rfl) (Or.inl rfl) (Or.inl ⟨rfl, rfl⟩) (by decide) hjN (by omega) hkN (by omega) hG
set_option maxRecDepth 65536 in
set_option maxHeartbeats 40000000 in
theorem comes_1 {Post : Tables → Env → Array Value → State → Outcome → State → Prop} (hpost : ∀ tb e args s v u, (limb_1_1.after args s (.returned v) u = true ∧ limb_1_2.after args s (.returned v) u = true ∧ True) → FrameEnd s (.returned v) u (Jvm.fieldLocs frame_1_writes args s ++ Jvm.arrayLocs frame_1_arrays args s ++ Jvm.staticLocs frame_1_statics s) 16 192 → Post tb e args s (.returned v) u) :
    ArmFor flags0 classFile x code maxLocals ret World_1 tables_1 room_1 Calls_1 rest_1 Pre_1 Post := by
  intro l hfl _ _ p e ha hc hk s m args below hf hA hF happ hP
  obtain ⟨hcalls, hrest, hpre⟩ := hP
  obtain ⟨-, -, -, hnamed, -, -, -, hat⟩ := (Spec.applies_iff hf).mp happ
  obtain ⟨hg, hn⟩ := and_e (Cond.before_iff.mp (show (Jvm.Cond.and given_1 narrow_1).before args s = true from hpre))
  obtain ⟨g1, g2⟩ := and_e hg
  obtain ⟨g3, g4⟩ := and_e g2
  obtain ⟨g5, g6⟩ := and_e g4
  obtain ⟨g7, g8⟩ := and_e g6
  obtain ⟨g9, g10⟩ := and_e g8
  obtain ⟨g11, g12⟩ := and_e g10
  obtain ⟨w0, w1, w2, w3, w4, w5, rfl⟩ : ∃ w0 w1 w2 w3 w4 w5 : Value, args = #[w0, w1, w2, w3, w4, w5] := by
    have hs : args.size = 6 := by simpa [Cond.value, given_1] using g1
    obtain ⟨L⟩ := args
    match L, hs with
    | [w0, w1, w2, w3, w4, w5], _ => exact ⟨w0, w1, w2, w3, w4, w5, rfl⟩
  have hw := fun d (hd : d ∈ tables_1) => atoms_spec (ws := Jvm.Cond.code x code maxLocals ret :: tables_1) hat d (List.mem_cons_of_mem _ hd)
  have hfit : Fit s := fun {y c} hc i hi => by
    obtain ⟨ha, rfl⟩ := Array.getElem?_eq_some_iff.mp hc
    have q := List.all_eq_true.mp ((Array.all_eq_true_iff_forall_mem.mp hF) _ (Array.getElem_mem ha)) i (List.mem_range.mpr hi)
    simpa [Array.getElem?_eq_getElem hi] using q
  obtain ⟨i0, ei0⟩ := isL_v g3
  obtain rfl : w0 = (.long i0) := Option.some.inj ei0
  obtain ⟨i1, ei1⟩ := is_v g5
  obtain rfl : w1 = (.int i1) := Option.some.inj ei1
  obtain ⟨i2, ei2⟩ := is_v g7
  obtain rfl : w2 = (.int i2) := Option.some.inj ei2
  obtain ⟨i3, ei3⟩ := is_v g9
  obtain rfl : w3 = (.int i3) := Option.some.inj ei3
  obtain ⟨i4, ei4⟩ := is_v g11
  obtain rfl : w4 = (.int i4) := Option.some.inj ei4
  obtain ⟨i5, ei5⟩ := is_v g12
  obtain rfl : w5 = (.int i5) := Option.some.inj ei5
  obtain ⟨n, o, h1, h2, h3, _, L, rfl, ⟨rfl, N⟩, hq⟩ := c_law l s _ hw i0 i1 i2 i3 i4 i5 s.heap s.heap.size (Nat.le_refl _)  tables_1 p e ha hc hk s m _ below hf ((Spec.applies_iff_loose hf).mp happ).1 ⟨rfl, State.Warmed39.refl s, rfl⟩ trivial
  refine ⟨n, _, h1, h2, h3, hpost _ _ _ _ _ _ ⟨Cond.after_iff.mpr rfl, Cond.after_iff.mpr (eq_i res_at (Term.int_eval (1)) rfl), trivial⟩ ⟨hq.1, hq.2.1, (hq.2.2.sift fun y hy => Or.inr (N y hy)).mono (by decide) (by decide)⟩⟩
theorem main_1_1 : Claimed_1_1 := comes_1 fun _ _ _ _ _ _ h hF => ⟨h.1, hF⟩
theorem main_1_2 : Claimed_1_2 := comes_1 fun _ _ _ _ _ _ h hF => ⟨h.2.1, hF⟩
end Jvm.Pilot.@@N@@
namespace Jvm.Pilot.@@N@@
open Jvm Jvm.ClassFile Sem Op Lib Jvm.Free Jvm.Stand Jvm.Pilot.@@N@@.Jvm.D
/-! MADE BY PROGRAM (witnessworld.py) out of the Statement's table words and the real class files: 12 classes; the members and pool entries that the words name. The judged class is class 1, her method 1. -/
namespace start1
open Jvm.ClassFile
def u (s : String) : CpInfo := .utf8 (stringToUtf16 s)
/-- a pool by its gaps: so many unusable entries, then the entry; so many at the end -/
def gap : Nat → List CpInfo → List CpInfo
  | 0, r => r
  | n + 1, r => .unusable :: gap n r
def poolList (es : List (Nat × CpInfo)) (last : Nat) : List CpInfo := es.foldr (fun e r => gap e.1 (e.2 :: r)) (gap last [])
def pool (es : List (Nat × CpInfo)) (last : Nat) : Array CpInfo := ⟨poolList es last⟩
def fileOf (pool : Array CpInfo) (this : Nat) (attrs : Array Attribute := #[]) (ms : Array MethodInfo := #[]) (fl : Nat := 33) (sup : Nat := 0) (ifs : Array Nat := #[]) (fds : Array FieldInfo := #[]) : ClassFile where
  minorVersion := 0
  majorVersion := 65
  constantPool := pool
  accessFlags := fl
  thisClass := this
  superClass := sup
  interfaces := ifs
  fields := fds
  methods := ms
  attributes := attrs
def plain (name : String) (sup : Option ClassId) : Class where
  name := name
  kind := .ordinary
  loader := none
  accessFlags := 33
  super := sup
  interfaces := #[]
  cf := none
  fields := #[]
  methods := #[]
  instanceTypes := #[]
  staticTypes := #[]
  resolved := #[]
  callSites := []
  init := .initialized
  statics := none
  mirror := none

def pool0 : Array CpInfo := pool [(5, u "<init>"), (0, u "()V"), (1, .class_ 10), (1, u "java/lang/Object")] 113

def k0m0 : Method := { name := "<init>", desc := "()V", sig := { parameters := [], returnType := none }, accessFlags := 1, code := none }
/-- java/lang/Object -/
def k0 : Class := { plain "java/lang/Object" none with
  accessFlags := 33
  interfaces := #[]
  cf := some (fileOf pool0 8 #[] #[{ accessFlags := 1, nameIndex := 5, descriptorIndex := 6, attributes := #[] }] 33 0 #[] #[])
  fields := #[]
  methods := #[k0m0]
  instanceTypes := #[]
  staticTypes := #[]
  resolved := Array.replicate 124 none
  statics := none }

def pool1 : Array CpInfo := pool [(2, .class_ 4), (1, u "java/lang/Object"), (0, u "<init>"), (0, u "()V"), (0, .long 10), (1, .long 100), (1, .long 1000), (1, .long 10000), (1, .long 100000), (1, .long 1000000), (1, .long 10000000), (1, .long 100000000), (1, .long 1000000000), (1, .long 10000000000), (1, .long 100000000000), (1, .long 1000000000000), (1, .long 10000000000000), (1, .long 100000000000000), (1, .long 1000000000000000), (1, .long 10000000000000000), (1, .long 100000000000000000), (1, .long 1000000000000000000), (3, .long 9223372036854775807), (1, .methodref 48 49), (0, .class_ 50), (0, .nameAndType 51 52), (0, u "org/tertiary/io/FieldsIntegerPinLaw"), (0, u "drawn"), (0, u "(I)B"), (0, .methodref 48 54), (0, .nameAndType 55 56), (0, u "dig"), (0, u "(JJ)B"), (0, .methodref 58 59), (0, .class_ 60), (0, .nameAndType 61 62), (0, u "org/tertiary/io/Fields"), (0, u "integer"), (0, u "([BII)J"), (0, .methodref 64 65), (0, .class_ 66), (0, .nameAndType 67 68), (0, u "java/lang/Math"), (0, u "min"), (0, u "(II)I"), (0, .long 18446744073709551615), (1, .methodref 48 72), (0, .nameAndType 73 74), (0, u "isDigit"), (0, u "(B)Z"), (0, .long 9223372036854775808), (1, .methodref 48 78), (0, .nameAndType 79 80), (0, u "mulAdd"), (0, u "(JIJ[J)J"), (0, .long 9223372036854775809), (1, .long 9223372036854775800), (1, .long 48), (3, u "law"), (0, u "(JIIIII)Z")] 7

def k1m0 : Method := { name := "<init>", desc := "()V", sig := { parameters := [], returnType := none }, accessFlags := 2, code := none }
def k1c1 : Code := { maxStack := 7, maxLocals := 33, code := code, exceptionTable := #[], attributes := #[] }
def k1m1 : Method := { name := "law", desc := "(JIIIII)Z", sig := { parameters := [.long, .int, .int, .int, .int, .int], returnType := some .boolean }, accessFlags := 9, code := some k1c1 }
def k1c2 : Code := { maxStack := 6, maxLocals := 6, code := method_3_code, exceptionTable := #[], attributes := #[] }
def k1m2 : Method := { name := "mulAdd", desc := "(JIJ[J)J", sig := { parameters := [.long, .int, .long, (.array .long)], returnType := some .long }, accessFlags := 10, code := some k1c2 }
def k1c3 : Code := { maxStack := 6, maxLocals := 4, code := method_4_code, exceptionTable := #[], attributes := #[] }
def k1m3 : Method := { name := "dig", desc := "(JJ)B", sig := { parameters := [.long, .long], returnType := some .byte }, accessFlags := 10, code := some k1c3 }
def k1c4 : Code := { maxStack := 2, maxLocals := 1, code := method_5_code, exceptionTable := #[], attributes := #[] }
def k1m4 : Method := { name := "isDigit", desc := "(B)Z", sig := { parameters := [.byte], returnType := some .boolean }, accessFlags := 10, code := some k1c4 }
def k1c5 : Code := { maxStack := 3, maxLocals := 2, code := method_6_code, exceptionTable := #[], attributes := #[] }
def k1m5 : Method := { name := "drawn", desc := "(I)B", sig := { parameters := [.int], returnType := some .byte }, accessFlags := 10, code := some k1c5 }
/-- org/tertiary/io/FieldsIntegerPinLaw -/
def k1 : Class := { plain "org/tertiary/io/FieldsIntegerPinLaw" (some 0) with
  accessFlags := 49
  interfaces := #[]
  cf := some (fileOf pool1 48 #[] #[{ accessFlags := 2, nameIndex := 5, descriptorIndex := 6, attributes := #[] }, { accessFlags := 9, nameIndex := 89, descriptorIndex := 90, attributes := #[] }, { accessFlags := 10, nameIndex := 79, descriptorIndex := 80, attributes := #[] }, { accessFlags := 10, nameIndex := 55, descriptorIndex := 56, attributes := #[] }, { accessFlags := 10, nameIndex := 73, descriptorIndex := 74, attributes := #[] }, { accessFlags := 10, nameIndex := 51, descriptorIndex := 52, attributes := #[] }] 49 2 #[] #[])
  fields := #[]
  methods := #[k1m0, k1m1, k1m2, k1m3, k1m4, k1m5]
  instanceTypes := #[]
  staticTypes := #[]
  resolved := Array.replicate 98 none
  statics := none }

def pool2 : Array CpInfo := pool [(4, .class_ 6), (1, u "java/lang/Object"), (0, u "<init>"), (0, u "()V"), (3, .class_ 14), (1, u "org/tertiary/io/Fields"), (0, u "ONE_CHARACTER"), (0, u "[Ljava/lang/String;"), (47, u "ELEMENTS"), (0, u "Ljava/util/Set;"), (6, .long 10), (11, u "POWERS_OF_TEN"), (0, u "[D"), (14, .long 9223372036854775808), (1, .long 922337203685477580), (1, .long 9223372036854775807), (138, u "I"), (138, u "X_COORDINATE"), (0, u "Ljava/lang/String;"), (3, u "Y_COORDINATE"), (2, u "Z_COORDINATE"), (2, u "OCCUPANCY"), (2, u "B_FACTOR"), (2, u "RESIDUE_NUMBER"), (2, u "SEQUENCE_POSITION"), (2, u "ATOM_NAME"), (2, u "ALTERNATE_LOCATION"), (2, u "RESIDUE_NAME"), (2, u "PARENT"), (2, u "COMPONENT_TYPE"), (2, u "CHAIN"), (2, u "INSERTION_CODE"), (2, u "ELEMENT"), (2, u "ENTRY_ID"), (2, u "RECORD_NAME"), (2, u "NOT_A_NUMBER"), (0, u "J"), (0, u "EXACT_DIGITS"), (15, u "integer"), (0, u "([BII)J")] 18

def k2m0 : Method := { name := "<init>", desc := "()V", sig := { parameters := [], returnType := none }, accessFlags := 2, code := none }
def k2c1 : Code := { maxStack := 4, maxLocals := 8, code := prog_50_method_7_code, exceptionTable := #[], attributes := #[] }
def k2m1 : Method := { name := "integer", desc := "([BII)J", sig := { parameters := [(.array .byte), .int, .int], returnType := some .long }, accessFlags := 8, code := some k2c1 }
/-- org/tertiary/io/Fields -/
def k2 : Class := { plain "org/tertiary/io/Fields" (some 0) with
  accessFlags := 48
  interfaces := #[]
  cf := some (fileOf pool2 12 #[] #[{ accessFlags := 2, nameIndex := 7, descriptorIndex := 8, attributes := #[] }, { accessFlags := 8, nameIndex := 453, descriptorIndex := 454, attributes := #[] }] 48 4 #[] #[{ accessFlags := 24, nameIndex := 382, descriptorIndex := 383, attributes := #[] }, { accessFlags := 24, nameIndex := 387, descriptorIndex := 383, attributes := #[] }, { accessFlags := 24, nameIndex := 390, descriptorIndex := 383, attributes := #[] }, { accessFlags := 24, nameIndex := 393, descriptorIndex := 383, attributes := #[] }, { accessFlags := 24, nameIndex := 396, descriptorIndex := 383, attributes := #[] }, { accessFlags := 24, nameIndex := 399, descriptorIndex := 383, attributes := #[] }, { accessFlags := 24, nameIndex := 402, descriptorIndex := 383, attributes := #[] }, { accessFlags := 24, nameIndex := 405, descriptorIndex := 383, attributes := #[] }, { accessFlags := 24, nameIndex := 408, descriptorIndex := 383, attributes := #[] }, { accessFlags := 24, nameIndex := 411, descriptorIndex := 383, attributes := #[] }, { accessFlags := 24, nameIndex := 414, descriptorIndex := 383, attributes := #[] }, { accessFlags := 24, nameIndex := 417, descriptorIndex := 383, attributes := #[] }, { accessFlags := 24, nameIndex := 420, descriptorIndex := 383, attributes := #[] }, { accessFlags := 24, nameIndex := 423, descriptorIndex := 383, attributes := #[] }, { accessFlags := 24, nameIndex := 426, descriptorIndex := 383, attributes := #[] }, { accessFlags := 24, nameIndex := 429, descriptorIndex := 383, attributes := #[] }, { accessFlags := 24, nameIndex := 432, descriptorIndex := 383, attributes := #[] }, { accessFlags := 24, nameIndex := 435, descriptorIndex := 436, attributes := #[] }, { accessFlags := 26, nameIndex := 437, descriptorIndex := 243, attributes := #[] }, { accessFlags := 26, nameIndex := 84, descriptorIndex := 85, attributes := #[] }, { accessFlags := 26, nameIndex := 64, descriptorIndex := 65, attributes := #[] }, { accessFlags := 26, nameIndex := 15, descriptorIndex := 16, attributes := #[] }])
  fields := #[{ name := "X_COORDINATE", type := (.object "java/lang/String"), accessFlags := 24, slot := 0, constantValue := 0 }, { name := "Y_COORDINATE", type := (.object "java/lang/String"), accessFlags := 24, slot := 1, constantValue := 0 }, { name := "Z_COORDINATE", type := (.object "java/lang/String"), accessFlags := 24, slot := 2, constantValue := 0 }, { name := "OCCUPANCY", type := (.object "java/lang/String"), accessFlags := 24, slot := 3, constantValue := 0 }, { name := "B_FACTOR", type := (.object "java/lang/String"), accessFlags := 24, slot := 4, constantValue := 0 }, { name := "RESIDUE_NUMBER", type := (.object "java/lang/String"), accessFlags := 24, slot := 5, constantValue := 0 }, { name := "SEQUENCE_POSITION", type := (.object "java/lang/String"), accessFlags := 24, slot := 6, constantValue := 0 }, { name := "ATOM_NAME", type := (.object "java/lang/String"), accessFlags := 24, slot := 7, constantValue := 0 }, { name := "ALTERNATE_LOCATION", type := (.object "java/lang/String"), accessFlags := 24, slot := 8, constantValue := 0 }, { name := "RESIDUE_NAME", type := (.object "java/lang/String"), accessFlags := 24, slot := 9, constantValue := 0 }, { name := "PARENT", type := (.object "java/lang/String"), accessFlags := 24, slot := 10, constantValue := 0 }, { name := "COMPONENT_TYPE", type := (.object "java/lang/String"), accessFlags := 24, slot := 11, constantValue := 0 }, { name := "CHAIN", type := (.object "java/lang/String"), accessFlags := 24, slot := 12, constantValue := 0 }, { name := "INSERTION_CODE", type := (.object "java/lang/String"), accessFlags := 24, slot := 13, constantValue := 0 }, { name := "ELEMENT", type := (.object "java/lang/String"), accessFlags := 24, slot := 14, constantValue := 0 }, { name := "ENTRY_ID", type := (.object "java/lang/String"), accessFlags := 24, slot := 15, constantValue := 0 }, { name := "RECORD_NAME", type := (.object "java/lang/String"), accessFlags := 24, slot := 16, constantValue := 0 }, { name := "NOT_A_NUMBER", type := .long, accessFlags := 24, slot := 17, constantValue := 0 }, { name := "EXACT_DIGITS", type := .int, accessFlags := 26, slot := 18, constantValue := 0 }, { name := "POWERS_OF_TEN", type := (.array .double), accessFlags := 26, slot := 19, constantValue := 0 }, { name := "ELEMENTS", type := (.object "java/util/Set"), accessFlags := 26, slot := 20, constantValue := 0 }, { name := "ONE_CHARACTER", type := (.array (.object "java/lang/String")), accessFlags := 26, slot := 21, constantValue := 0 }]
  methods := #[k2m0, k2m1]
  instanceTypes := #[]
  staticTypes := #[(.object "java/lang/String"), (.object "java/lang/String"), (.object "java/lang/String"), (.object "java/lang/String"), (.object "java/lang/String"), (.object "java/lang/String"), (.object "java/lang/String"), (.object "java/lang/String"), (.object "java/lang/String"), (.object "java/lang/String"), (.object "java/lang/String"), (.object "java/lang/String"), (.object "java/lang/String"), (.object "java/lang/String"), (.object "java/lang/String"), (.object "java/lang/String"), (.object "java/lang/String"), .long, .int, (.array .double), (.object "java/util/Set"), (.array (.object "java/lang/String"))]
  resolved := Array.replicate 473 none
  statics := none }

def pool3 : Array CpInfo := pool [(1, .class_ 2), (0, u "java/lang/Math"), (1, .class_ 6), (1, u "java/lang/Object"), (0, u "<init>"), (0, u "()V"), (89, .class_ 100), (1, u "java/lang/Math$RandomNumberGeneratorHolder"), (71, u "negativeZeroFloatBits"), (0, u "J"), (2, u "negativeZeroDoubleBits"), (24, u "min"), (43, u "$assertionsDisabled"), (0, u "Z"), (88, u "(II)I"), (2, u "twoToTheDoubleScaleDown"), (0, u "D"), (4, u "twoToTheDoubleScaleUp"), (9, u "E"), (3, u "PI"), (2, u "TAU"), (2, u "DEGREES_TO_RADIANS"), (0, u "RADIANS_TO_DEGREES")] 94

def k3m0 : Method := { name := "<init>", desc := "()V", sig := { parameters := [], returnType := none }, accessFlags := 2, code := none }
def k3c1 : Code := { maxStack := 2, maxLocals := 2, code := jdk_29_method_69_code, exceptionTable := #[], attributes := #[] }
def k3m1 : Method := { name := "min", desc := "(II)I", sig := { parameters := [.int, .int], returnType := some .int }, accessFlags := 9, code := some k3c1 }
/-- java/lang/Math -/
def k3 : Class := { plain "java/lang/Math" (some 0) with
  accessFlags := 49
  interfaces := #[]
  cf := some (fileOf pool3 1 #[.nestMembers #[98]] #[{ accessFlags := 2, nameIndex := 7, descriptorIndex := 8, attributes := #[] }, { accessFlags := 9, nameIndex := 201, descriptorIndex := 335, attributes := #[] }] 49 4 #[] #[{ accessFlags := 25, nameIndex := 354, descriptorIndex := 339, attributes := #[] }, { accessFlags := 25, nameIndex := 358, descriptorIndex := 339, attributes := #[] }, { accessFlags := 25, nameIndex := 361, descriptorIndex := 339, attributes := #[] }, { accessFlags := 26, nameIndex := 364, descriptorIndex := 339, attributes := #[] }, { accessFlags := 26, nameIndex := 365, descriptorIndex := 339, attributes := #[] }, { accessFlags := 26, nameIndex := 172, descriptorIndex := 173, attributes := #[] }, { accessFlags := 26, nameIndex := 176, descriptorIndex := 173, attributes := #[] }, { accessFlags := 8, nameIndex := 344, descriptorIndex := 339, attributes := #[] }, { accessFlags := 8, nameIndex := 338, descriptorIndex := 339, attributes := #[] }, { accessFlags := 4120, nameIndex := 245, descriptorIndex := 246, attributes := #[] }])
  fields := #[{ name := "E", type := .double, accessFlags := 25, slot := 0, constantValue := 0 }, { name := "PI", type := .double, accessFlags := 25, slot := 1, constantValue := 0 }, { name := "TAU", type := .double, accessFlags := 25, slot := 2, constantValue := 0 }, { name := "DEGREES_TO_RADIANS", type := .double, accessFlags := 26, slot := 3, constantValue := 0 }, { name := "RADIANS_TO_DEGREES", type := .double, accessFlags := 26, slot := 4, constantValue := 0 }, { name := "negativeZeroFloatBits", type := .long, accessFlags := 26, slot := 5, constantValue := 0 }, { name := "negativeZeroDoubleBits", type := .long, accessFlags := 26, slot := 6, constantValue := 0 }, { name := "twoToTheDoubleScaleUp", type := .double, accessFlags := 8, slot := 7, constantValue := 0 }, { name := "twoToTheDoubleScaleDown", type := .double, accessFlags := 8, slot := 8, constantValue := 0 }, { name := "$assertionsDisabled", type := .boolean, accessFlags := 4120, slot := 9, constantValue := 0 }]
  methods := #[k3m0, k3m1]
  instanceTypes := #[]
  staticTypes := #[.double, .double, .double, .double, .double, .long, .long, .double, .double, .boolean]
  resolved := Array.replicate 460 none
  statics := none }

def pool4 : Array CpInfo := pool [(1, u "java/lang/Cloneable"), (0, .class_ 1), (0, u "java/lang/Object"), (0, .class_ 3)] 3

/-- java/lang/Cloneable -/
def k4 : Class := { plain "java/lang/Cloneable" (some 0) with
  accessFlags := 1537
  interfaces := #[]
  cf := some (fileOf pool4 2 #[] #[] 1537 4 #[] #[])
  fields := #[]
  methods := #[]
  instanceTypes := #[]
  staticTypes := #[]
  resolved := Array.replicate 8 none
  statics := none }

def pool5 : Array CpInfo := pool [(1, u "java/io/Serializable"), (0, .class_ 1), (0, u "java/lang/Object"), (0, .class_ 3)] 3

/-- java/io/Serializable -/
def k5 : Class := { plain "java/io/Serializable" (some 0) with
  accessFlags := 1537
  interfaces := #[]
  cf := some (fileOf pool5 2 #[] #[] 1537 4 #[] #[])
  fields := #[]
  methods := #[]
  instanceTypes := #[]
  staticTypes := #[]
  resolved := Array.replicate 8 none
  statics := none }

/-- the primitive byte -/
def k6 : Class := { plain "byte" none with kind := .primitive 'B', accessFlags := 0x411 }
/-- [B -/
def k7 : Class := { plain "[B" (some 0) with kind := .array 6 .byte, interfaces := #[4, 5], accessFlags := 1041 }

/-- the primitive int -/
def k8 : Class := { plain "int" none with kind := .primitive 'I', accessFlags := 0x411 }
/-- [I -/
def k9 : Class := { plain "[I" (some 0) with kind := .array 8 .int, interfaces := #[4, 5], accessFlags := 1041 }

/-- the primitive long -/
def k10 : Class := { plain "long" none with kind := .primitive 'J', accessFlags := 0x411 }
/-- [J -/
def k11 : Class := { plain "[J" (some 0) with kind := .array 10 .long, interfaces := #[4, 5], accessFlags := 1041 }

def heap : Heap := #[]
def classes : Array Class := #[k0, k1, k2, k3, k4, k5, k6, k7, k8, k9, k10, k11]
def interned : List (Array UInt16 × Addr) := []
def slotsUsed : Nat := 0
def theMethod : MethodId := ⟨1, 1⟩
def args0 : Array Value := #[.long 3, .int 4, .int 5, .int 7, .int 9, .int 11]
def aboutOver (below : List Frame) : State where
  vm := { classes := classes, interned := interned.toArray }
  heap := heap
  slotsUsed := slotsUsed
  threads := #[{ frames := .invoking theMethod args0 :: below }]
def below0 : List Frame := [.native { method := ⟨0, 0⟩, args := #[] }]
def about1 : State := aboutOver below0
def p0 : Program := .bare "" "" ""
def e0 : Env := launch0.env 0 0 0
theorem w_frames : about1.frames = Frame.invoking theMethod args0 :: below0 := rfl
set_option maxRecDepth 65536 in
theorem w_args : argsFit about1.vm theMethod args0 = true := by decide +kernel
set_option maxRecDepth 65536 in
theorem w_heap : heapFits about1 = true := by decide +kernel
set_option maxRecDepth 65536 in
theorem w_runnable : about1.curStatus? = some .runnable := by decide +kernel
set_option maxRecDepth 65536 in
theorem w_alone : about1.alone = true := by decide +kernel
set_option maxRecDepth 65536 in
theorem w_named : about1.methodNamed? x = some theMethod := by decide +kernel
set_option maxRecDepth 65536 in
theorem w_hears : about1.hears theMethod below0 = true := by decide +kernel
set_option maxRecDepth 65536 in
theorem w_ripe : about1.ripe theMethod args0 below0 = true := by decide +kernel
theorem w_running : about1.status = .running := rfl
set_option maxRecDepth 65536 in
theorem w_room : about1.hasRoom e0.platform room_1 = true :=
  launch0.hasRoom_least _ room_1 (by decide +kernel) (by decide +kernel) (by decide +kernel) (by decide +kernel) (by decide +kernel) (by decide +kernel)
theorem allAtoms_all (ts : List Jvm.Cond) (a : Array Jvm.Value) (st : Jvm.State) : (allAtoms ts).before a st = ts.all (fun c => c.before a st) := by
  induction ts with
  | nil => rfl
  | cons c t ih =>
    show (Jvm.Cond.and c (allAtoms t)).before a st = _
    rw [Jvm.Cond.before_and, ih, List.all_cons]
def words1 : List Jvm.Cond := Jvm.Cond.code x code maxLocals ret :: tables_1
/-- a 'code' word, met by the world's own term for the bytes: nothing is compared byte by byte -/
theorem code_word {y : MethodName} {bytes : ByteArray} {mx : Nat} {rt : Option FieldType} {a : Array Value} {s : State} {m : MethodId} {meth : Method} {c : Code} (h1 : s.methodNamed? y = some m) (h2 : s.vm.method? m = some meth) (h3 : meth.code = some c) (h4 : c.code = bytes)
    (h5 : (c.maxLocals == mx && c.exceptionTable.isEmpty && decide (c.maxStack ≤ mostOperands) && decide (meth.sig.returnType = rt) && !meth.locks && decide (parseMethodDescriptor y.desc = some meth.sig)) = true) : (Jvm.Cond.code y bytes mx rt).before a s = true := by
  simp only [Bool.and_eq_true, beq_iff_eq, Bool.not_eq_true', decide_eq_true_eq] at h5
  obtain ⟨⟨⟨⟨⟨g1, g2⟩, g3⟩, g4⟩, g5⟩, g6⟩ := h5
  simp [Cond.before, Cond.holds, Cond.value, h1, h2, h3, h4, g1, g2, g3, g4, g5, g6]
def isCode : Jvm.Cond → Bool
  | .code _ _ _ _ => true
  | _ => false
theorem all_split {L : List Jvm.Cond} {P : Jvm.Cond → Bool} (h1 : L.all (fun c => isCode c || P c) = true) (h2 : ∀ c ∈ L.filter isCode, P c = true) : L.all P = true := by
  refine List.all_eq_true.mpr fun c hc => ?_
  have h := List.all_eq_true.mp h1 c hc
  rcases Bool.eq_false_or_eq_true (isCode c) with hi | hi
  · exact h2 c (List.mem_filter.mpr ⟨hc, hi⟩)
  · simpa [hi] using h
set_option maxRecDepth 65536 in
theorem w_c0 : (Jvm.Cond.code x code maxLocals ret).before args0 about1 = true := code_word (m := ⟨1, 1⟩) (meth := k1m1) (c := k1c1) (by decide +kernel) rfl rfl rfl (by decide +kernel)
set_option maxRecDepth 65536 in
theorem w_c1 : (Jvm.Cond.code ({ cls := "org/tertiary/io/FieldsIntegerPinLaw", name := "drawn", desc := "(I)B" } : Jvm.MethodName) method_6_code (2 : Nat) (Option.some Jvm.ClassFile.FieldType.byte)).before args0 about1 = true := code_word (m := ⟨1, 5⟩) (meth := k1m5) (c := k1c5) (by decide +kernel) rfl rfl rfl (by decide +kernel)
set_option maxRecDepth 65536 in
theorem w_c2 : (Jvm.Cond.code ({ cls := "org/tertiary/io/FieldsIntegerPinLaw", name := "dig", desc := "(JJ)B" } : Jvm.MethodName) method_4_code (4 : Nat) (Option.some Jvm.ClassFile.FieldType.byte)).before args0 about1 = true := code_word (m := ⟨1, 3⟩) (meth := k1m3) (c := k1c3) (by decide +kernel) rfl rfl rfl (by decide +kernel)
set_option maxRecDepth 65536 in
theorem w_c3 : (Jvm.Cond.code ({ cls := "org/tertiary/io/Fields", name := "integer", desc := "([BII)J" } : Jvm.MethodName) prog_50_method_7_code (8 : Nat) (Option.some Jvm.ClassFile.FieldType.long)).before args0 about1 = true := code_word (m := ⟨2, 1⟩) (meth := k2m1) (c := k2c1) (by decide +kernel) rfl rfl rfl (by decide +kernel)
set_option maxRecDepth 65536 in
theorem w_c4 : (Jvm.Cond.code ({ cls := "java/lang/Math", name := "min", desc := "(II)I" } : Jvm.MethodName) jdk_29_method_69_code (2 : Nat) (Option.some Jvm.ClassFile.FieldType.int)).before args0 about1 = true := code_word (m := ⟨3, 1⟩) (meth := k3m1) (c := k3c1) (by decide +kernel) rfl rfl rfl (by decide +kernel)
set_option maxRecDepth 65536 in
theorem w_c5 : (Jvm.Cond.code ({ cls := "org/tertiary/io/FieldsIntegerPinLaw", name := "isDigit", desc := "(B)Z" } : Jvm.MethodName) method_5_code (1 : Nat) (Option.some Jvm.ClassFile.FieldType.boolean)).before args0 about1 = true := code_word (m := ⟨1, 4⟩) (meth := k1m4) (c := k1c4) (by decide +kernel) rfl rfl rfl (by decide +kernel)
set_option maxRecDepth 65536 in
theorem w_c6 : (Jvm.Cond.code ({ cls := "org/tertiary/io/FieldsIntegerPinLaw", name := "mulAdd", desc := "(JIJ[J)J" } : Jvm.MethodName) method_3_code (6 : Nat) (Option.some Jvm.ClassFile.FieldType.long)).before args0 about1 = true := code_word (m := ⟨1, 2⟩) (meth := k1m2) (c := k1c2) (by decide +kernel) rfl rfl rfl (by decide +kernel)
def codes1 : List Jvm.Cond := [Jvm.Cond.code x code maxLocals ret, Jvm.Cond.code ({ cls := "org/tertiary/io/FieldsIntegerPinLaw", name := "drawn", desc := "(I)B" } : Jvm.MethodName) method_6_code (2 : Nat) (Option.some Jvm.ClassFile.FieldType.byte), Jvm.Cond.code ({ cls := "org/tertiary/io/FieldsIntegerPinLaw", name := "dig", desc := "(JJ)B" } : Jvm.MethodName) method_4_code (4 : Nat) (Option.some Jvm.ClassFile.FieldType.byte), Jvm.Cond.code ({ cls := "org/tertiary/io/Fields", name := "integer", desc := "([BII)J" } : Jvm.MethodName) prog_50_method_7_code (8 : Nat) (Option.some Jvm.ClassFile.FieldType.long), Jvm.Cond.code ({ cls := "java/lang/Math", name := "min", desc := "(II)I" } : Jvm.MethodName) jdk_29_method_69_code (2 : Nat) (Option.some Jvm.ClassFile.FieldType.int), Jvm.Cond.code ({ cls := "org/tertiary/io/FieldsIntegerPinLaw", name := "isDigit", desc := "(B)Z" } : Jvm.MethodName) method_5_code (1 : Nat) (Option.some Jvm.ClassFile.FieldType.boolean), Jvm.Cond.code ({ cls := "org/tertiary/io/FieldsIntegerPinLaw", name := "mulAdd", desc := "(JIJ[J)J" } : Jvm.MethodName) method_3_code (6 : Nat) (Option.some Jvm.ClassFile.FieldType.long)]
set_option maxRecDepth 65536 in
theorem codes_eq : words1.filter isCode = codes1 := rfl
theorem w_codes : ∀ c ∈ words1.filter isCode, c.before args0 about1 = true := by
  rw [codes_eq]
  intro c hc
  simp only [codes1, List.mem_cons, List.not_mem_nil, or_false] at hc
  rcases hc with rfl | rfl | rfl | rfl | rfl | rfl | rfl
  · exact w_c0
  · exact w_c1
  · exact w_c2
  · exact w_c3
  · exact w_c4
  · exact w_c5
  · exact w_c6
set_option maxRecDepth 65536 in
theorem w_t1 : (words1.take 24).all (fun c => isCode c || c.before args0 about1) = true := by decide +kernel
set_option maxRecDepth 65536 in
theorem w_t2 : ((words1.drop 24).take 24).all (fun c => isCode c || c.before args0 about1) = true := by decide +kernel
set_option maxRecDepth 65536 in
theorem w_t3 : ((words1.drop 24).drop 24).all (fun c => isCode c || c.before args0 about1) = true := by decide +kernel
theorem w_tables : (allAtoms (Jvm.Cond.code x code maxLocals ret :: tables_1)).before args0 about1 = true := by
  rw [allAtoms_all]
  show words1.all (fun c => c.before args0 about1) = true
  refine all_split ?_ w_codes
  rw [← List.take_append_drop 24 words1, List.all_append, w_t1, ← List.take_append_drop 24 (words1.drop 24), List.all_append, w_t2, w_t3]
  rfl
set_option maxRecDepth 65536 in
theorem w_case : (Jvm.Cond.and given_1 narrow_1).before args0 about1 = true := by decide +kernel
theorem w_applies : (headSpec (Jvm.Cond.code x code maxLocals ret :: tables_1) room_1).applies x e0.platform about1 = true :=
  (Spec.applies_iff w_frames).mpr ⟨w_running, w_runnable, w_alone, w_named, w_hears, w_ripe, w_room, w_tables⟩
theorem atStart : AtStart classFile x code maxLocals ret World_1 tables_1 room_1 Calls_1 rest_1 Pre_1 launch0 p0 e0 about1 theMethod args0 below0 :=
  ⟨lists_1, trivial, launch0.admits_env _ _ _, launch0.least_env, fairChoices_fair.cas, fairChoices_fair.clock, w_frames, w_args, w_heap, w_applies, trivial, trivial, w_case⟩
end start1
theorem witness_1 : WitnessClaimed_1 := ⟨start1.p0, start1.e0, start1.about1, start1.theMethod, start1.args0, start1.below0, start1.atStart⟩
end Jvm.Pilot.@@N@@
