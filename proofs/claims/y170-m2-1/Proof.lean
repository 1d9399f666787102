import JvmDerived
import JvmDerived.Pilot.@@N@@Statement
import JvmDerived.Pilot.@@N@@Code
set_option linter.unusedVariables false
set_option linter.unusedSimpArgs false
namespace Jvm.OwnRun
open Sem ClassFile Op Lib Jvm.Stand Jvm.Free Jvm.LawKit Jvm.RoadKit
/-- the run that stands at A comes to the end of this invocation, and Q holds there -/
def Run (p : Program) (e : Env) (below : List Frame) (s : State) (Q : Option Value → Heap → List Loc → Prop) (k n : Nat) (A : State) : Prop :=
  ∃ s₂ o, Steps p.tables e below A s₂ ∧ s₂.status = .running ∧ Ended s₂ below o ∧ ∃ v L, o = .returned v ∧ Q v s₂.heap L ∧ FrameEnd s o s₂ L k n
/-- the contract of a body at one heap and one row of arguments -/
def Ctr (l : Launch) (Z : State) (y : MethodName) (bytes : ByteArray) (ml : Nat) (ret : Option FieldType) (rm : Room) (as' : Array Value) (h0 : Heap) (Q : Option Value → Heap → List Loc → Prop) : Prop :=
  ∀ ws : List Jvm.Cond, MetFree l y (head1 (Jvm.Cond.code y bytes ml ret :: ws) rm) (fun a U => a = as' ∧ Z.Warmed39 U.vm ∧ U.heap = h0) (fun _ _ _ _ _ => True) (fun _ U o U' => ∃ v L, o = .returned v ∧ Q v U'.heap L ∧ FrameEnd U o U' L rm.cells rm.slots)
section Laws
variable {p : Program} {l : Launch} {e : Env} {R : Room} {s : State} {m : MethodId} {args : Array Value} {below : List Frame} {meth : Method} {c : Code} {T : State} {locs : List Loc} {cells slots : Nat} {Z : State} {a0 : Array Value} {h h' : Heap}
variable {Q Q' : Option Value → Heap → List Loc → Prop} {k n : Nat}
theorem Run.st {A B : State} (f : ∀ t, Steps p.tables e below B t → Steps p.tables e below A t) (r : Run p e below s Q k n B) : Run p e below s Q k n A := by
  obtain ⟨s₂, o, h1, r⟩ := r
  exact ⟨s₂, o, f _ h1, r⟩
theorem Ctr.of {y : MethodName} {bytes : ByteArray} {ml : Nat} {ret : Option FieldType} {rm : Room} {as' : Array Value} {h0 : Heap} {Ls : Array Slot} (hpl : plainFor y = true) (hef : ∀ m, entryFrame m as' ml = mkF m 0 Ls [])
    (body : ∀ (p : Program) (e : Env) (s : State) (m : MethodId) (below : List Frame) (meth : Method) (c : Code) (T : State), p.tables.exec = Jvm.exec → c.code = bytes → c.maxLocals = ml → s.vm.findClass y.cls = some m.cls → meth.name = y.name → meth.sig.returnType = ret → meth.locks = false → Z.Warmed39 s.vm → T.heap = h0 →
      Stand p l e rm s m as' below meth c T [] 0 0 → Run p e below s Q rm.cells rm.slots (T.setTop (mkF m 0 Ls []))) : Ctr l Z y bytes ml ret rm as' h0 Q := by
  intro ws
  refine MetFree.of_bodySF hpl hisR ?_
  intro p e s m args below meth c s₁ Bd hml0 hP hK
  obtain ⟨rfl, hZ, hh⟩ := hP
  have q := body p e s m below meth c s₁ Bd.exec Bd.bytes hml0 (findClass_of_methodNamed Bd.named) (name_of_methodNamed Bd.named Bd.method).1 Bd.returns Bd.notSynchronized hZ (by rw [← hh, Bd.state]; rfl) (Stand.of_body Bd)
  rw [hef]
  exact q
theorem Run.end_ (X : Stand p l e R s m args below meth c T locs cells slots) (hlk : meth.locks = false) (eT : T.heap = h) {v : Option Value} (hv : meth.sig.returnType = none → v = none) (hc : cells ≤ k) (hn : slots ≤ n) (hQ : Q v h locs) {A : State}
    (f : ∀ fs, (∀ (f : JFrame) (acts : List Action), f.method = m → f.locked = none → f.entered = [] → (doReturn e (T.setTop f) acts v).1 = T.setFrames fs) → Steps p.tables e below A (T.setFrames fs)) : Run p e below s Q k n A := by
  obtain ⟨fs, hr, hrun, hended, hW, hsame⟩ := X.leave (v := v) hv
  exact ⟨_, _, f fs hr, hrun, hended, _, _, rfl, by rw [show (T.setFrames fs).heap = h from eT]; exact hQ, ⟨_, rfl⟩, hW, hsame.mono hc hn⟩
theorem Run.retN (X : Stand p l e R s m args below meth c T locs cells slots) (hx : p.tables.exec = Jvm.exec) (hlk : meth.locks = false) (eT : T.heap = h) {t : FieldType} (hret : meth.sig.returnType = some t) (ht : t = .boolean ∨ t = .byte ∨ t = .char ∨ t = .short) {pc : Nat} {Ls : Array Slot} {z : Int32} {rest : List Value}
    {z' : Int32} (hz : nar t z = z') (hd : decode c.code pc = .ok (.ireturn, 1)) (hc : cells ≤ k) (hn : slots ≤ n) (hQ : Q (some (.int z')) h locs) : Run p e below s Q k n (T.setTop (mkF m pc Ls (.int z :: rest))) :=
  Run.end_ X hlk eT (v := some (.int (nar t z))) (fun q => by rw [hret] at q; cases q) hc hn (hz ▸ hQ) fun fs hr => RoadKit.retN X hx hret ht hd hr
theorem Run.retI (X : Stand p l e R s m args below meth c T locs cells slots) (hx : p.tables.exec = Jvm.exec) (hlk : meth.locks = false) (eT : T.heap = h) (hret : meth.sig.returnType = some .int) {pc : Nat} {Ls : Array Slot} {z : Int32} {rest : List Value}
    (hd : decode c.code pc = .ok (.ireturn, 1)) (hc : cells ≤ k) (hn : slots ≤ n) (hQ : Q (some (.int z)) h locs) : Run p e below s Q k n (T.setTop (mkF m pc Ls (.int z :: rest))) :=
  Run.end_ X hlk eT (v := some (.int z)) (fun q => by rw [hret] at q; cases q) hc hn hQ fun fs hr => RoadKit.retOut X hx hret rfl (Or.inl ⟨rfl, Or.inl rfl, z, rfl⟩) hd hr
theorem Run.retJ (X : Stand p l e R s m args below meth c T locs cells slots) (hx : p.tables.exec = Jvm.exec) (hlk : meth.locks = false) (eT : T.heap = h) (hret : meth.sig.returnType = some .long) {pc : Nat} {Ls : Array Slot} {z : Int64} {rest : List Value}
    (hd : decode c.code pc = .ok (.lreturn, 1)) (hc : cells ≤ k) (hn : slots ≤ n) (hQ : Q (some (.long z)) h locs) : Run p e below s Q k n (T.setTop (mkF m pc Ls (.long z :: rest))) :=
  Run.end_ X hlk eT (v := some (.long z)) (fun q => by rw [hret] at q; cases q) hc hn hQ fun fs hr => RoadKit.retOut X hx hret rfl (Or.inr (Or.inl ⟨rfl, rfl, z, rfl⟩)) hd hr
theorem Run.retA (X : Stand p l e R s m args below meth c T locs cells slots) (hx : p.tables.exec = Jvm.exec) (hlk : meth.locks = false) (eT : T.heap = h) {t : FieldType} (hret : meth.sig.returnType = some t) (ht : t.isReference = true) {w : Value} (hw : w.isRef = true) (hnr : narrow t w = w) {pc : Nat} {Ls : Array Slot} {rest : List Value}
    (hd : decode c.code pc = .ok (.areturn, 1)) (hc : cells ≤ k) (hn : slots ≤ n) (hQ : Q (some w) h locs) : Run p e below s Q k n (T.setTop (mkF m pc Ls (w :: rest))) :=
  Run.end_ X hlk eT (v := some w) (fun q => by rw [hret] at q; cases q) hc hn hQ fun fs hr => RoadKit.retOut X hx hret hnr (Or.inr (Or.inr (Or.inr (Or.inr ⟨rfl, ht, hw⟩)))) hd hr
theorem Run.retV (X : Stand p l e R s m args below meth c T locs cells slots) (hx : p.tables.exec = Jvm.exec) (hlk : meth.locks = false) (eT : T.heap = h) (hret : meth.sig.returnType = none) {pc : Nat} {Ls : Array Slot}
    (hd : decode c.code pc = .ok (.return_, 1)) (hc : cells ≤ k) (hn : slots ≤ n) (hQ : Q none h locs) : Run p e below s Q k n (T.setTop (mkF m pc Ls [])) :=
  Run.end_ X hlk eT (v := none) (fun _ => rfl) hc hn hQ fun fs hr => X.returnOut hx hret hd hr
/-- a call's premises that are alike for every kind of call -/
theorem Ctr.back {y : MethodName} {bytes : ByteArray} {ml : Nat} {ret : Option FieldType} {rm : Room} {as' : Array Value} {len W : Nat} (K : Ctr l Z y bytes ml ret rm as' h Q') (hZ : Z.Warmed39 s.vm) (wc : (Jvm.Cond.code y bytes ml ret).before a0 Z = true) (wz : (Jvm.Cond.initialized y.cls).before a0 Z = true) (hf : rm.frames + 1 ≤ R.frames) (hl : W + (ml + 11) + rm.locals ≤ R.locals) :
    Back l R p e below s args y len W (fun A a => a = as' ∧ A.U.heap = h ∧ A.cells + rm.cells ≤ R.cells ∧ A.slots + rm.slots ≤ R.slots) (fun A _ v B => ∃ L, Q' v B.U.heap L ∧ B.locs = A.locs ++ L ∧ B.cells = A.cells + rm.cells ∧ B.slots = A.slots + rm.slots) := backOf (K []) hZ wc wz hf hl
theorem Run.callS (X : Stand p l e R s m args below meth c T locs cells slots) (hx : p.tables.exec = Jvm.exec) (hZ : Z.Warmed39 s.vm) (eT : T.heap = h) {own : String} {index : Nat} {y : MethodName} {bytes : ByteArray} {ml : Nat} {ret : Option FieldType} {rm : Room}
    (hown : s.vm.findClass own = some m.cls) (w1 : (Jvm.Cond.methodLink own index y).before a0 Z = true) (w2 : (Jvm.Cond.static y).before a0 Z = true) (w3 : (Jvm.Cond.initialized y.cls).before a0 Z = true) (w4 : (Jvm.Cond.code y bytes ml ret).before a0 Z = true)
    (hy : y.cls ≠ "java/lang/invoke/MethodHandle" ∧ y.cls ≠ "java/lang/invoke/VarHandle") {argsL rest : List Value} (K : Ctr l Z y bytes ml ret rm argsL.toArray h Q') {ps : List FieldType} {r : Option FieldType} (hpd : parseMethodDescriptor y.desc = some ⟨ps, r⟩) (hlen : argsL.length = ps.length)
    {pc : Nat} {Ls : Array Slot} (hsz : Ls.size = c.maxLocals) {W : Nat} (hW : (rest.map fun v => v.category).sum = W) (hf : rm.frames + 1 ≤ R.frames) (hl : W + (ml + 11) + rm.locals ≤ R.locals) (hc : cells + rm.cells ≤ R.cells) (hs : slots + rm.slots ≤ R.slots)
    (hd : decode c.code pc = .ok (.invokestatic index, 3)) {st : List Value} (hst : st = argsL.reverse ++ rest)
    (kk : ∀ (T' : State) (v : Option Value) (L : List Loc), Stand p l e R s m args below meth c T' (locs ++ L) (cells + rm.cells) (slots + rm.slots) → Q' v T'.heap L → Run p e below s Q k n (T'.setTop (mkF m (pc + 3) Ls (v.toList ++ rest)))) :
    Run p e below s Q k n (T.setTop (mkF m pc Ls st)) := by
  obtain ⟨v, _, ⟨T', L', k', n'⟩, -, X', ⟨L, hQ, l1, y1, z1⟩, st1⟩ := Jvm.LawKit.callS X hx (y := y) hown (mvT hZ w1) (mvT hZ w2) (mvT hZ w3) (mvT hZ w4) hy (K.back hZ w4 w3 hf hl) (g := mkF m pc Ls st) rfl hsz (argsL := argsL) (rest := rest) (lenOf hpd hlen) hst (by show 2 * 0 + _ ≤ _; rw [hW]; omega) hd (fun _ _ => ⟨rfl, eT, hc, hs⟩)
  dsimp only [Pt.U, Pt.locs, Pt.cells, Pt.slots] at X' l1 y1 z1 st1 hQ
  subst l1 y1 z1
  exact Run.st st1 (kk T' v L X' hQ)
theorem Run.callC (X : Stand p l e R s m args below meth c T locs cells slots) (hx : p.tables.exec = Jvm.exec) (hZ : Z.Warmed39 s.vm) (eT : T.heap = h) {own : String} {index : Nat} {y : MethodName} {bytes : ByteArray} {ml : Nat} {rm : Room}
    (hown : s.vm.findClass own = some m.cls) (hy1 : y.name = "<init>") (w1 : (Jvm.Cond.methodLink own index y).before a0 Z = true) (w2 : (Jvm.Cond.instanceMethod y).before a0 Z = true) (w3 : (Jvm.Cond.initialized y.cls).before a0 Z = true) (w4 : (Jvm.Cond.code y bytes ml none).before a0 Z = true)
    (hy : y.cls ≠ "java/lang/invoke/MethodHandle" ∧ y.cls ≠ "java/lang/invoke/VarHandle") {a : Addr} {argsL rest : List Value} (K : Ctr l Z y bytes ml none rm (.ref a :: argsL).toArray h Q') {ps : List FieldType} {r : Option FieldType} (hpd : parseMethodDescriptor y.desc = some ⟨ps, r⟩) (hlen : argsL.length = ps.length)
    {pc : Nat} {Ls : Array Slot} (hsz : Ls.size = c.maxLocals) {W : Nat} (hW : (rest.map fun v => v.category).sum = W) (hf : rm.frames + 1 ≤ R.frames) (hl : W + (ml + 11) + rm.locals ≤ R.locals) (hc : cells + rm.cells ≤ R.cells) (hs : slots + rm.slots ≤ R.slots)
    (hd : decode c.code pc = .ok (.invokespecial index, 3)) {st : List Value} (hst : st = argsL.reverse ++ .ref a :: rest)
    (kk : ∀ (T' : State) (v : Option Value) (L : List Loc), Stand p l e R s m args below meth c T' (locs ++ L) (cells + rm.cells) (slots + rm.slots) → Q' v T'.heap L → Run p e below s Q k n (T'.setTop (mkF m (pc + 3) Ls (v.toList ++ rest)))) :
    Run p e below s Q k n (T.setTop (mkF m pc Ls st)) := by
  obtain ⟨v, _, ⟨T', L', k', n'⟩, -, X', ⟨L, hQ, l1, y1, z1⟩, st1⟩ := X.specialBack hx (y := y) hy1 hown (mvT hZ w1) (mvT hZ w2) (mvT hZ w4) hy (K.back hZ w4 w3 hf hl) (g := mkF m pc Ls st) rfl hsz (Steps.refl _) (a := a) (argsL := argsL) (rest := rest) (lenOf hpd hlen) hst (by show 2 * 0 + _ ≤ _; rw [hW]; omega) hd (fun _ _ => ⟨rfl, eT, hc, hs⟩)
  dsimp only [Pt.U, Pt.locs, Pt.cells, Pt.slots] at X' l1 y1 z1 st1 hQ
  subst l1 y1 z1
  exact Run.st (fun t q => st1.trans q) (kk T' v L X' hQ)
/-- 'invokevirtual', the body that the receiver's class selects -/
theorem Run.callV (X : Stand p l e R s m args below meth c T locs cells slots) (hx : p.tables.exec = Jvm.exec) (hZ : Z.Warmed39 s.vm) (eT : T.heap = h) {own C : String} {index : Nat} {y z : MethodName} {bytes : ByteArray} {ml : Nat} {ret : Option FieldType} {rm : Room}
    (hown : s.vm.findClass own = some m.cls) (w1 : (Jvm.Cond.methodLink own index y).before a0 Z = true) (w2 : (Jvm.Cond.declares y).before a0 Z = true) (hnf : NotFace s y) (w5 : (Jvm.Cond.selects C y z).before a0 Z = true) (w6 : (Jvm.Cond.instanceMethod z).before a0 Z = true) (w3 : (Jvm.Cond.initialized z.cls).before a0 Z = true) (w4 : (Jvm.Cond.code z bytes ml ret).before a0 Z = true)
    (hy : y.cls ≠ "java/lang/invoke/MethodHandle" ∧ y.cls ≠ "java/lang/invoke/VarHandle") {a : Addr} (E : Exa Z h a C) {argsL rest : List Value} (K : Ctr l Z z bytes ml ret rm (.ref a :: argsL).toArray h Q') {ps : List FieldType} {r : Option FieldType} (hpd : parseMethodDescriptor y.desc = some ⟨ps, r⟩) (hlen : argsL.length = ps.length)
    {pc : Nat} {Ls : Array Slot} (hsz : Ls.size = c.maxLocals) {W : Nat} (hW : (rest.map fun v => v.category).sum = W) (hf : rm.frames + 1 ≤ R.frames) (hl : W + (ml + 11) + rm.locals ≤ R.locals) (hc : cells + rm.cells ≤ R.cells) (hs : slots + rm.slots ≤ R.slots)
    (hd : decode c.code pc = .ok (.invokevirtual index, 3)) {st : List Value} (hst : st = argsL.reverse ++ .ref a :: rest)
    (kk : ∀ (T' : State) (v : Option Value) (L : List Loc), Stand p l e R s m args below meth c T' (locs ++ L) (cells + rm.cells) (slots + rm.slots) → Q' v T'.heap L → Run p e below s Q k n (T'.setTop (mkF m (pc + 3) Ls (v.toList ++ rest)))) :
    Run p e below s Q k n (T.setTop (mkF m pc Ls st)) := by
  obtain ⟨cq, kq, qa, qb, qc⟩ := isOf hZ eT E
  obtain ⟨v, _, ⟨T', L', k', n'⟩, -, X', ⟨L, hQ, l1, y1, z1⟩, st1⟩ := X.virtualBack hx (y := y) (z := z) hown (mvT hZ w1) (mvT hZ w2) hnf (mvT hZ w5) (mvT hZ w6) hy (K.back hZ w4 w3 hf hl) qa qc (g := mkF m pc Ls st) rfl hsz (Steps.refl _) (argsL := argsL) (rest := rest) (lenOf hpd hlen) hst (by show 2 * 0 + _ ≤ _; rw [hW]; omega) hd (fun _ _ => ⟨rfl, eT, hc, hs⟩)
  dsimp only [Pt.U, Pt.locs, Pt.cells, Pt.slots] at X' l1 y1 z1 st1 hQ
  subst l1 y1 z1
  exact Run.st (fun t q => st1.trans q) (kk T' v L X' hQ)
theorem Run.init (X : Stand p l e R s m args below meth c T locs cells slots) (hx : p.tables.exec = Jvm.exec) (hZ : Z.Warmed39 s.vm) (eT : T.heap = h) {own : String} {idx : Nat} (hown : s.vm.findClass own = some m.cls) (w1 : (Jvm.Cond.methodLink own idx Lib.objectInit).before a0 Z = true) (w2 : (Jvm.Cond.instanceMethod Lib.objectInit).before a0 Z = true)
    (w3 : (Jvm.Cond.code Lib.objectInit ⟨#[0xb1]⟩ 1 none).before a0 Z = true) {pc : Nat} {Ls : Array Slot} (hsz : Ls.size = c.maxLocals) {a : Addr} {rest : List Value} (hd : decode c.code pc = .ok (.invokespecial idx, 3)) (hf : 1 ≤ R.frames) {W : Nat} (hW : (rest.map fun v => v.category).sum = W) (hl : W + 12 ≤ R.locals)
    (kk : ∀ (T' : State), Stand p l e R s m args below meth c T' locs cells slots → T'.heap = h → Run p e below s Q k n (T'.setTop (mkF m (pc + 3) Ls rest))) :
    Run p e below s Q k n (T.setTop (mkF m pc Ls (.ref a :: rest))) := by
  obtain ⟨T', X', e', st'⟩ := initO X hx hZ hown w1 w2 w3 eT (g := mkF m pc Ls (.ref a :: rest)) rfl hsz rfl hd hf (W := W) (by show 2 * 0 + _ ≤ _; rw [hW]; omega) hl
  exact Run.st st' (kk T' X' e')
theorem Run.irem (X : Stand p l e R s m args below meth c T locs cells slots) (hx : p.tables.exec = Jvm.exec) {pc : Nat} {Ls : Array Slot} {x y : Int32} {rest : List Value} (hd : decode c.code pc = .ok (.irem, 1)) (hy : y ≠ 0) (r : Run p e below s Q k n (T.setTop (mkF m (pc + 1) Ls (.int (x % y) :: rest)))) :
    Run p e below s Q k n (T.setTop (mkF m pc Ls (.int y :: .int x :: rest))) := Run.st (fun t q => iremM (g := mkF m pc Ls (.int y :: .int x :: rest)) X hx rfl hd rfl hy q) r
theorem Run.lrem (X : Stand p l e R s m args below meth c T locs cells slots) (hx : p.tables.exec = Jvm.exec) {pc : Nat} {Ls : Array Slot} {x y : Int64} {rest : List Value} (hd : decode c.code pc = .ok (.lrem, 1)) (hy : y ≠ 0) (r : Run p e below s Q k n (T.setTop (mkF m (pc + 1) Ls (.long (x % y) :: rest)))) :
    Run p e below s Q k n (T.setTop (mkF m pc Ls (.long y :: .long x :: rest))) := by
  rw [← lrem_mod] at r
  exact Run.st (fun t q => XS.lrem (g := mkF m pc Ls (.long y :: .long x :: rest)) X.here hx rfl hd rfl hy q) r
theorem Run.x_iloadN (X : Stand p l e R s m args below meth c T locs cells slots) (hx : p.tables.exec = Jvm.exec) {pc q : Nat} {Ls : Array Slot} {S : List Value} {j : Fin 4} {v : Int32} (hd : decode c.code pc = .ok (.iload_n j, 1)) (hl : Ls[j.val]? = some (.val (.int v))) (hq : pc + 1 = q) (r : Run p e below s Q k n (T.setTop (mkF m q Ls (.int v :: S)))) : Run p e below s Q k n (T.setTop (mkF m pc Ls (S))) := by
  subst hq; exact Run.st (fun t kt => XS.iloadN X.here hx rfl hd hl kt) r
theorem Run.x_iload (X : Stand p l e R s m args below meth c T locs cells slots) (hx : p.tables.exec = Jvm.exec) {pc q : Nat} {Ls : Array Slot} {S : List Value} {j : Nat} {v : Int32} (hd : decode c.code pc = .ok (.iload j, 2)) (hl : Ls[j]? = some (.val (.int v))) (hq : pc + 2 = q) (r : Run p e below s Q k n (T.setTop (mkF m q Ls (.int v :: S)))) : Run p e below s Q k n (T.setTop (mkF m pc Ls (S))) := by
  subst hq; exact Run.st (fun t kt => XS.iload X.here hx rfl hd hl kt) r
theorem Run.x_lloadN (X : Stand p l e R s m args below meth c T locs cells slots) (hx : p.tables.exec = Jvm.exec) {pc q : Nat} {Ls : Array Slot} {S : List Value} {j : Fin 4} {v : Int64} (hd : decode c.code pc = .ok (.lload_n j, 1)) (hl : Ls[j.val]? = some (.val (.long v))) (hq : pc + 1 = q) (r : Run p e below s Q k n (T.setTop (mkF m q Ls (.long v :: S)))) : Run p e below s Q k n (T.setTop (mkF m pc Ls (S))) := by
  subst hq; exact Run.st (fun t kt => XS.lloadN X.here hx rfl hd hl kt) r
theorem Run.x_lload (X : Stand p l e R s m args below meth c T locs cells slots) (hx : p.tables.exec = Jvm.exec) {pc q : Nat} {Ls : Array Slot} {S : List Value} {j : Nat} {v : Int64} (hd : decode c.code pc = .ok (.lload j, 2)) (hl : Ls[j]? = some (.val (.long v))) (hq : pc + 2 = q) (r : Run p e below s Q k n (T.setTop (mkF m q Ls (.long v :: S)))) : Run p e below s Q k n (T.setTop (mkF m pc Ls (S))) := by
  subst hq; exact Run.st (fun t kt => XS.lload X.here hx rfl hd hl kt) r
theorem Run.x_aloadN (X : Stand p l e R s m args below meth c T locs cells slots) (hx : p.tables.exec = Jvm.exec) {pc q : Nat} {Ls : Array Slot} {S : List Value} {j : Fin 4} {v : Value} (hd : decode c.code pc = .ok (.aload_n j, 1)) (hl : Ls[j.val]? = some (.val v)) (hv : v.isRef = true) (hq : pc + 1 = q) (r : Run p e below s Q k n (T.setTop (mkF m q Ls (v :: S)))) : Run p e below s Q k n (T.setTop (mkF m pc Ls (S))) := by
  subst hq; exact Run.st (fun t kt => XS.aloadN X.here hx rfl hd hl hv kt) r
theorem Run.x_aload (X : Stand p l e R s m args below meth c T locs cells slots) (hx : p.tables.exec = Jvm.exec) {pc q : Nat} {Ls : Array Slot} {S : List Value} {j : Nat} {v : Value} (hd : decode c.code pc = .ok (.aload j, 2)) (hl : Ls[j]? = some (.val v)) (hv : v.isRef = true) (hq : pc + 2 = q) (r : Run p e below s Q k n (T.setTop (mkF m q Ls (v :: S)))) : Run p e below s Q k n (T.setTop (mkF m pc Ls (S))) := by
  subst hq; exact Run.st (fun t kt => XS.aload X.here hx rfl hd hl hv kt) r
theorem Run.x_istoreN (X : Stand p l e R s m args below meth c T locs cells slots) (hx : p.tables.exec = Jvm.exec) {pc q : Nat} {Ls : Array Slot} {S : List Value} {j : Fin 4} {v : Int32} (L' : Array Slot) (hd : decode c.code pc = .ok (.istore_n j, 1)) (hl : storeLocals Ls j.val (.int v) = some L') (hq : pc + 1 = q) (r : Run p e below s Q k n (T.setTop (mkF m q L' (S)))) : Run p e below s Q k n (T.setTop (mkF m pc Ls (.int v :: S))) := by
  subst hq; exact Run.st (fun t kt => XS.istoreN X.here hx rfl hd rfl hl kt) r
theorem Run.x_istore (X : Stand p l e R s m args below meth c T locs cells slots) (hx : p.tables.exec = Jvm.exec) {pc q : Nat} {Ls : Array Slot} {S : List Value} {j : Nat} {v : Int32} (L' : Array Slot) (hd : decode c.code pc = .ok (.istore j, 2)) (hl : storeLocals Ls j (.int v) = some L') (hq : pc + 2 = q) (r : Run p e below s Q k n (T.setTop (mkF m q L' (S)))) : Run p e below s Q k n (T.setTop (mkF m pc Ls (.int v :: S))) := by
  subst hq; exact Run.st (fun t kt => XS.istore X.here hx rfl hd rfl hl kt) r
theorem Run.x_lstoreN (X : Stand p l e R s m args below meth c T locs cells slots) (hx : p.tables.exec = Jvm.exec) {pc q : Nat} {Ls : Array Slot} {S : List Value} {j : Fin 4} {v : Int64} (L' : Array Slot) (hd : decode c.code pc = .ok (.lstore_n j, 1)) (hl : storeLocals Ls j.val (.long v) = some L') (hq : pc + 1 = q) (r : Run p e below s Q k n (T.setTop (mkF m q L' (S)))) : Run p e below s Q k n (T.setTop (mkF m pc Ls (.long v :: S))) := by
  subst hq; exact Run.st (fun t kt => XS.lstoreN X.here hx rfl hd rfl hl kt) r
theorem Run.x_lstore (X : Stand p l e R s m args below meth c T locs cells slots) (hx : p.tables.exec = Jvm.exec) {pc q : Nat} {Ls : Array Slot} {S : List Value} {j : Nat} {v : Int64} (L' : Array Slot) (hd : decode c.code pc = .ok (.lstore j, 2)) (hl : storeLocals Ls j (.long v) = some L') (hq : pc + 2 = q) (r : Run p e below s Q k n (T.setTop (mkF m q L' (S)))) : Run p e below s Q k n (T.setTop (mkF m pc Ls (.long v :: S))) := by
  subst hq; exact Run.st (fun t kt => XS.lstore X.here hx rfl hd rfl hl kt) r
theorem Run.x_astoreN (X : Stand p l e R s m args below meth c T locs cells slots) (hx : p.tables.exec = Jvm.exec) {pc q : Nat} {Ls : Array Slot} {S : List Value} {j : Fin 4} {v : Value} (L' : Array Slot) (hd : decode c.code pc = .ok (.astore_n j, 1)) (hv : v.isRef = true) (hl : storeLocals Ls j.val v = some L') (hq : pc + 1 = q) (r : Run p e below s Q k n (T.setTop (mkF m q L' (S)))) : Run p e below s Q k n (T.setTop (mkF m pc Ls (v :: S))) := by
  subst hq; exact Run.st (fun t kt => XS.astoreN X.here hx rfl hd rfl hv hl kt) r
theorem Run.x_astore (X : Stand p l e R s m args below meth c T locs cells slots) (hx : p.tables.exec = Jvm.exec) {pc q : Nat} {Ls : Array Slot} {S : List Value} {j : Nat} {v : Value} (L' : Array Slot) (hd : decode c.code pc = .ok (.astore j, 2)) (hv : v.isRef = true) (hl : storeLocals Ls j v = some L') (hq : pc + 2 = q) (r : Run p e below s Q k n (T.setTop (mkF m q L' (S)))) : Run p e below s Q k n (T.setTop (mkF m pc Ls (v :: S))) := by
  subst hq; exact Run.st (fun t kt => XS.astore X.here hx rfl hd rfl hv hl kt) r
theorem Run.x_iconst (X : Stand p l e R s m args below meth c T locs cells slots) (hx : p.tables.exec = Jvm.exec) {pc q : Nat} {Ls : Array Slot} {S : List Value} {i : Int} {z : Int32} (hd : decode c.code pc = .ok (.iconst i, 1)) (hz : Int32.ofInt i = z) (hq : pc + 1 = q) (r : Run p e below s Q k n (T.setTop (mkF m q Ls (.int z :: S)))) : Run p e below s Q k n (T.setTop (mkF m pc Ls (S))) := by
  subst hq; subst hz; exact Run.st (fun t kt => XS.iconst X.here hx rfl hd kt) r
theorem Run.x_bipush (X : Stand p l e R s m args below meth c T locs cells slots) (hx : p.tables.exec = Jvm.exec) {pc q : Nat} {Ls : Array Slot} {S : List Value} {i : Int} {z : Int32} (hd : decode c.code pc = .ok (.bipush i, 2)) (hz : (Int8.ofInt i).toInt32 = z) (hq : pc + 2 = q) (r : Run p e below s Q k n (T.setTop (mkF m q Ls (.int z :: S)))) : Run p e below s Q k n (T.setTop (mkF m pc Ls (S))) := by
  subst hq; subst hz; exact Run.st (fun t kt => XS.bipush X.here hx rfl hd kt) r
theorem Run.x_sipush (X : Stand p l e R s m args below meth c T locs cells slots) (hx : p.tables.exec = Jvm.exec) {pc q : Nat} {Ls : Array Slot} {S : List Value} {i : Int} {z : Int32} (hd : decode c.code pc = .ok (.sipush i, 3)) (hz : (Int16.ofInt i).toInt32 = z) (hq : pc + 3 = q) (r : Run p e below s Q k n (T.setTop (mkF m q Ls (.int z :: S)))) : Run p e below s Q k n (T.setTop (mkF m pc Ls (S))) := by
  subst hq; subst hz; exact Run.st (fun t kt => XS.sipush X.here hx rfl hd kt) r
theorem Run.x_lconst (X : Stand p l e R s m args below meth c T locs cells slots) (hx : p.tables.exec = Jvm.exec) {pc q : Nat} {Ls : Array Slot} {S : List Value} {i : Fin 2} {z : Int64} (hd : decode c.code pc = .ok (.lconst i, 1)) (hz : Int64.ofNat i = z) (hq : pc + 1 = q) (r : Run p e below s Q k n (T.setTop (mkF m q Ls (.long z :: S)))) : Run p e below s Q k n (T.setTop (mkF m pc Ls (S))) := by
  subst hq; subst hz; exact Run.st (fun t kt => XS.lconst X.here hx rfl hd kt) r
theorem Run.x_null (X : Stand p l e R s m args below meth c T locs cells slots) (hx : p.tables.exec = Jvm.exec) {pc q : Nat} {Ls : Array Slot} {S : List Value}  (hd : decode c.code pc = .ok (.aconst_null, 1)) (hq : pc + 1 = q) (r : Run p e below s Q k n (T.setTop (mkF m q Ls (.null :: S)))) : Run p e below s Q k n (T.setTop (mkF m pc Ls (S))) := by
  subst hq; exact Run.st (fun t kt => XS.aconstNull X.here hx rfl hd kt) r
theorem Run.x_iadd (X : Stand p l e R s m args below meth c T locs cells slots) (hx : p.tables.exec = Jvm.exec) {pc q : Nat} {Ls : Array Slot} {S : List Value} {x y z : Int32} (hd : decode c.code pc = .ok (.iadd, 1)) (hz : x + y = z) (hq : pc + 1 = q) (r : Run p e below s Q k n (T.setTop (mkF m q Ls (.int z :: S)))) : Run p e below s Q k n (T.setTop (mkF m pc Ls (.int y :: .int x :: S))) := by
  subst hq; subst hz; exact Run.st (fun t kt => XS.iadd X.here hx rfl hd rfl kt) r
theorem Run.x_ladd (X : Stand p l e R s m args below meth c T locs cells slots) (hx : p.tables.exec = Jvm.exec) {pc q : Nat} {Ls : Array Slot} {S : List Value} {x y z : Int64} (hd : decode c.code pc = .ok (.ladd, 1)) (hz : x + y = z) (hq : pc + 1 = q) (r : Run p e below s Q k n (T.setTop (mkF m q Ls (.long z :: S)))) : Run p e below s Q k n (T.setTop (mkF m pc Ls (.long y :: .long x :: S))) := by
  subst hq; subst hz; exact Run.st (fun t kt => XS.ladd X.here hx rfl hd rfl kt) r
theorem Run.x_isub (X : Stand p l e R s m args below meth c T locs cells slots) (hx : p.tables.exec = Jvm.exec) {pc q : Nat} {Ls : Array Slot} {S : List Value} {x y z : Int32} (hd : decode c.code pc = .ok (.isub, 1)) (hz : x - y = z) (hq : pc + 1 = q) (r : Run p e below s Q k n (T.setTop (mkF m q Ls (.int z :: S)))) : Run p e below s Q k n (T.setTop (mkF m pc Ls (.int y :: .int x :: S))) := by
  subst hq; subst hz; exact Run.st (fun t kt => XS.isub X.here hx rfl hd rfl kt) r
theorem Run.x_lsub (X : Stand p l e R s m args below meth c T locs cells slots) (hx : p.tables.exec = Jvm.exec) {pc q : Nat} {Ls : Array Slot} {S : List Value} {x y z : Int64} (hd : decode c.code pc = .ok (.lsub, 1)) (hz : x - y = z) (hq : pc + 1 = q) (r : Run p e below s Q k n (T.setTop (mkF m q Ls (.long z :: S)))) : Run p e below s Q k n (T.setTop (mkF m pc Ls (.long y :: .long x :: S))) := by
  subst hq; subst hz; exact Run.st (fun t kt => XS.lsub X.here hx rfl hd rfl kt) r
theorem Run.x_imul (X : Stand p l e R s m args below meth c T locs cells slots) (hx : p.tables.exec = Jvm.exec) {pc q : Nat} {Ls : Array Slot} {S : List Value} {x y z : Int32} (hd : decode c.code pc = .ok (.imul, 1)) (hz : x * y = z) (hq : pc + 1 = q) (r : Run p e below s Q k n (T.setTop (mkF m q Ls (.int z :: S)))) : Run p e below s Q k n (T.setTop (mkF m pc Ls (.int y :: .int x :: S))) := by
  subst hq; subst hz; exact Run.st (fun t kt => XS.imul X.here hx rfl hd rfl kt) r
theorem Run.x_lmul (X : Stand p l e R s m args below meth c T locs cells slots) (hx : p.tables.exec = Jvm.exec) {pc q : Nat} {Ls : Array Slot} {S : List Value} {x y z : Int64} (hd : decode c.code pc = .ok (.lmul, 1)) (hz : x * y = z) (hq : pc + 1 = q) (r : Run p e below s Q k n (T.setTop (mkF m q Ls (.long z :: S)))) : Run p e below s Q k n (T.setTop (mkF m pc Ls (.long y :: .long x :: S))) := by
  subst hq; subst hz; exact Run.st (fun t kt => XS.lmul X.here hx rfl hd rfl kt) r
theorem Run.x_iand (X : Stand p l e R s m args below meth c T locs cells slots) (hx : p.tables.exec = Jvm.exec) {pc q : Nat} {Ls : Array Slot} {S : List Value} {x y z : Int32} (hd : decode c.code pc = .ok (.iand, 1)) (hz : x &&& y = z) (hq : pc + 1 = q) (r : Run p e below s Q k n (T.setTop (mkF m q Ls (.int z :: S)))) : Run p e below s Q k n (T.setTop (mkF m pc Ls (.int y :: .int x :: S))) := by
  subst hq; subst hz; exact Run.st (fun t kt => XS.iand X.here hx rfl hd rfl kt) r
theorem Run.x_land (X : Stand p l e R s m args below meth c T locs cells slots) (hx : p.tables.exec = Jvm.exec) {pc q : Nat} {Ls : Array Slot} {S : List Value} {x y z : Int64} (hd : decode c.code pc = .ok (.land, 1)) (hz : x &&& y = z) (hq : pc + 1 = q) (r : Run p e below s Q k n (T.setTop (mkF m q Ls (.long z :: S)))) : Run p e below s Q k n (T.setTop (mkF m pc Ls (.long y :: .long x :: S))) := by
  subst hq; subst hz; exact Run.st (fun t kt => XS.land X.here hx rfl hd rfl kt) r
theorem Run.x_ior (X : Stand p l e R s m args below meth c T locs cells slots) (hx : p.tables.exec = Jvm.exec) {pc q : Nat} {Ls : Array Slot} {S : List Value} {x y z : Int32} (hd : decode c.code pc = .ok (.ior, 1)) (hz : x ||| y = z) (hq : pc + 1 = q) (r : Run p e below s Q k n (T.setTop (mkF m q Ls (.int z :: S)))) : Run p e below s Q k n (T.setTop (mkF m pc Ls (.int y :: .int x :: S))) := by
  subst hq; subst hz; exact Run.st (fun t kt => XS.ior X.here hx rfl hd rfl kt) r
theorem Run.x_lor (X : Stand p l e R s m args below meth c T locs cells slots) (hx : p.tables.exec = Jvm.exec) {pc q : Nat} {Ls : Array Slot} {S : List Value} {x y z : Int64} (hd : decode c.code pc = .ok (.lor, 1)) (hz : x ||| y = z) (hq : pc + 1 = q) (r : Run p e below s Q k n (T.setTop (mkF m q Ls (.long z :: S)))) : Run p e below s Q k n (T.setTop (mkF m pc Ls (.long y :: .long x :: S))) := by
  subst hq; subst hz; exact Run.st (fun t kt => XS.lor X.here hx rfl hd rfl kt) r
theorem Run.x_ixor (X : Stand p l e R s m args below meth c T locs cells slots) (hx : p.tables.exec = Jvm.exec) {pc q : Nat} {Ls : Array Slot} {S : List Value} {x y z : Int32} (hd : decode c.code pc = .ok (.ixor, 1)) (hz : x ^^^ y = z) (hq : pc + 1 = q) (r : Run p e below s Q k n (T.setTop (mkF m q Ls (.int z :: S)))) : Run p e below s Q k n (T.setTop (mkF m pc Ls (.int y :: .int x :: S))) := by
  subst hq; subst hz; exact Run.st (fun t kt => XS.ixor X.here hx rfl hd rfl kt) r
theorem Run.x_lxor (X : Stand p l e R s m args below meth c T locs cells slots) (hx : p.tables.exec = Jvm.exec) {pc q : Nat} {Ls : Array Slot} {S : List Value} {x y z : Int64} (hd : decode c.code pc = .ok (.lxor, 1)) (hz : x ^^^ y = z) (hq : pc + 1 = q) (r : Run p e below s Q k n (T.setTop (mkF m q Ls (.long z :: S)))) : Run p e below s Q k n (T.setTop (mkF m pc Ls (.long y :: .long x :: S))) := by
  subst hq; subst hz; exact Run.st (fun t kt => XS.lxor X.here hx rfl hd rfl kt) r
theorem Run.x_ishl (X : Stand p l e R s m args below meth c T locs cells slots) (hx : p.tables.exec = Jvm.exec) {pc q : Nat} {Ls : Array Slot} {S : List Value} {x y z : Int32} (hd : decode c.code pc = .ok (.ishl, 1)) (hz : x <<< (y &&& 31) = z) (hq : pc + 1 = q) (r : Run p e below s Q k n (T.setTop (mkF m q Ls (.int z :: S)))) : Run p e below s Q k n (T.setTop (mkF m pc Ls (.int y :: .int x :: S))) := by
  subst hq; subst hz; exact Run.st (fun t kt => XS.ishl X.here hx rfl hd rfl kt) r
theorem Run.x_ishr (X : Stand p l e R s m args below meth c T locs cells slots) (hx : p.tables.exec = Jvm.exec) {pc q : Nat} {Ls : Array Slot} {S : List Value} {x y z : Int32} (hd : decode c.code pc = .ok (.ishr, 1)) (hz : x >>> (y &&& 31) = z) (hq : pc + 1 = q) (r : Run p e below s Q k n (T.setTop (mkF m q Ls (.int z :: S)))) : Run p e below s Q k n (T.setTop (mkF m pc Ls (.int y :: .int x :: S))) := by
  subst hq; subst hz; exact Run.st (fun t kt => XS.ishr X.here hx rfl hd rfl kt) r
theorem Run.x_iushr (X : Stand p l e R s m args below meth c T locs cells slots) (hx : p.tables.exec = Jvm.exec) {pc q : Nat} {Ls : Array Slot} {S : List Value} {x y z : Int32} (hd : decode c.code pc = .ok (.iushr, 1)) (hz : (x.toUInt32 >>> (y &&& 31).toUInt32).toInt32 = z) (hq : pc + 1 = q) (r : Run p e below s Q k n (T.setTop (mkF m q Ls (.int z :: S)))) : Run p e below s Q k n (T.setTop (mkF m pc Ls (.int y :: .int x :: S))) := by
  subst hq; subst hz; exact Run.st (fun t kt => XS.iushr X.here hx rfl hd rfl kt) r
theorem Run.x_lshl (X : Stand p l e R s m args below meth c T locs cells slots) (hx : p.tables.exec = Jvm.exec) {pc q : Nat} {Ls : Array Slot} {S : List Value} {x z : Int64} {y : Int32} (hd : decode c.code pc = .ok (.lshl, 1)) (hz : x <<< (y &&& 0x3f).toInt64 = z) (hq : pc + 1 = q) (r : Run p e below s Q k n (T.setTop (mkF m q Ls (.long z :: S)))) : Run p e below s Q k n (T.setTop (mkF m pc Ls (.int y :: .long x :: S))) := by
  subst hq; subst hz; exact Run.st (fun t kt => XS.lshl X.here hx rfl hd rfl kt) r
theorem Run.x_lshr (X : Stand p l e R s m args below meth c T locs cells slots) (hx : p.tables.exec = Jvm.exec) {pc q : Nat} {Ls : Array Slot} {S : List Value} {x z : Int64} {y : Int32} (hd : decode c.code pc = .ok (.lshr, 1)) (hz : x >>> (y &&& 0x3f).toInt64 = z) (hq : pc + 1 = q) (r : Run p e below s Q k n (T.setTop (mkF m q Ls (.long z :: S)))) : Run p e below s Q k n (T.setTop (mkF m pc Ls (.int y :: .long x :: S))) := by
  subst hq; subst hz; exact Run.st (fun t kt => XS.lshr X.here hx rfl hd rfl kt) r
theorem Run.x_lushr (X : Stand p l e R s m args below meth c T locs cells slots) (hx : p.tables.exec = Jvm.exec) {pc q : Nat} {Ls : Array Slot} {S : List Value} {x z : Int64} {y : Int32} (hd : decode c.code pc = .ok (.lushr, 1)) (hz : (x.toUInt64 >>> (y &&& 0x3f).toInt64.toUInt64).toInt64 = z) (hq : pc + 1 = q) (r : Run p e below s Q k n (T.setTop (mkF m q Ls (.long z :: S)))) : Run p e below s Q k n (T.setTop (mkF m pc Ls (.int y :: .long x :: S))) := by
  subst hq; subst hz; exact Run.st (fun t kt => XS.lushr X.here hx rfl hd rfl kt) r
theorem Run.x_ineg (X : Stand p l e R s m args below meth c T locs cells slots) (hx : p.tables.exec = Jvm.exec) {pc q : Nat} {Ls : Array Slot} {S : List Value} {x : Int32} {z : Int32} (hd : decode c.code pc = .ok (.ineg, 1)) (hz : -x = z) (hq : pc + 1 = q) (r : Run p e below s Q k n (T.setTop (mkF m q Ls (.int z :: S)))) : Run p e below s Q k n (T.setTop (mkF m pc Ls (.int x :: S))) := by
  subst hq; subst hz; exact Run.st (fun t kt => XS.ineg X.here hx rfl hd rfl kt) r
theorem Run.x_lneg (X : Stand p l e R s m args below meth c T locs cells slots) (hx : p.tables.exec = Jvm.exec) {pc q : Nat} {Ls : Array Slot} {S : List Value} {x : Int64} {z : Int64} (hd : decode c.code pc = .ok (.lneg, 1)) (hz : -x = z) (hq : pc + 1 = q) (r : Run p e below s Q k n (T.setTop (mkF m q Ls (.long z :: S)))) : Run p e below s Q k n (T.setTop (mkF m pc Ls (.long x :: S))) := by
  subst hq; subst hz; exact Run.st (fun t kt => XS.lneg X.here hx rfl hd rfl kt) r
theorem Run.x_i2l (X : Stand p l e R s m args below meth c T locs cells slots) (hx : p.tables.exec = Jvm.exec) {pc q : Nat} {Ls : Array Slot} {S : List Value} {x : Int32} {z : Int64} (hd : decode c.code pc = .ok (.i2l, 1)) (hz : x.toInt64 = z) (hq : pc + 1 = q) (r : Run p e below s Q k n (T.setTop (mkF m q Ls (.long z :: S)))) : Run p e below s Q k n (T.setTop (mkF m pc Ls (.int x :: S))) := by
  subst hq; subst hz; exact Run.st (fun t kt => XS.i2l X.here hx rfl hd rfl kt) r
theorem Run.x_l2i (X : Stand p l e R s m args below meth c T locs cells slots) (hx : p.tables.exec = Jvm.exec) {pc q : Nat} {Ls : Array Slot} {S : List Value} {x : Int64} {z : Int32} (hd : decode c.code pc = .ok (.l2i, 1)) (hz : x.toInt32 = z) (hq : pc + 1 = q) (r : Run p e below s Q k n (T.setTop (mkF m q Ls (.int z :: S)))) : Run p e below s Q k n (T.setTop (mkF m pc Ls (.long x :: S))) := by
  subst hq; subst hz; exact Run.st (fun t kt => XS.l2i X.here hx rfl hd rfl kt) r
theorem Run.x_i2b (X : Stand p l e R s m args below meth c T locs cells slots) (hx : p.tables.exec = Jvm.exec) {pc q : Nat} {Ls : Array Slot} {S : List Value} {x : Int32} {z : Int32} (hd : decode c.code pc = .ok (.i2b, 1)) (hz : x.toInt8.toInt32 = z) (hq : pc + 1 = q) (r : Run p e below s Q k n (T.setTop (mkF m q Ls (.int z :: S)))) : Run p e below s Q k n (T.setTop (mkF m pc Ls (.int x :: S))) := by
  subst hq; subst hz; exact Run.st (fun t kt => XS.i2b X.here hx rfl hd rfl kt) r
theorem Run.x_i2s (X : Stand p l e R s m args below meth c T locs cells slots) (hx : p.tables.exec = Jvm.exec) {pc q : Nat} {Ls : Array Slot} {S : List Value} {x : Int32} {z : Int32} (hd : decode c.code pc = .ok (.i2s, 1)) (hz : x.toInt16.toInt32 = z) (hq : pc + 1 = q) (r : Run p e below s Q k n (T.setTop (mkF m q Ls (.int z :: S)))) : Run p e below s Q k n (T.setTop (mkF m pc Ls (.int x :: S))) := by
  subst hq; subst hz; exact Run.st (fun t kt => XS.i2s X.here hx rfl hd rfl kt) r
theorem Run.x_i2c (X : Stand p l e R s m args below meth c T locs cells slots) (hx : p.tables.exec = Jvm.exec) {pc q : Nat} {Ls : Array Slot} {S : List Value} {x : Int32} {z : Int32} (hd : decode c.code pc = .ok (.i2c, 1)) (hz : x.toUInt32.toUInt16.toUInt32.toInt32 = z) (hq : pc + 1 = q) (r : Run p e below s Q k n (T.setTop (mkF m q Ls (.int z :: S)))) : Run p e below s Q k n (T.setTop (mkF m pc Ls (.int x :: S))) := by
  subst hq; subst hz; exact Run.st (fun t kt => XS.i2c X.here hx rfl hd rfl kt) r
theorem Run.x_lcmp (X : Stand p l e R s m args below meth c T locs cells slots) (hx : p.tables.exec = Jvm.exec) {pc q : Nat} {Ls : Array Slot} {S : List Value} {x y : Int64} (hd : decode c.code pc = .ok (.lcmp, 1)) (hq : pc + 1 = q) (r : Run p e below s Q k n (T.setTop (mkF m q Ls (.int (lcmpW x y) :: S)))) : Run p e below s Q k n (T.setTop (mkF m pc Ls (.long y :: .long x :: S))) := by
  subst hq; exact Run.st (fun t kt => XS.lcmp X.here hx rfl hd rfl kt) r
theorem Run.x_idiv (X : Stand p l e R s m args below meth c T locs cells slots) (hx : p.tables.exec = Jvm.exec) {pc q : Nat} {Ls : Array Slot} {S : List Value} {x y z : Int32} (hd : decode c.code pc = .ok (.idiv, 1)) (hy : y ≠ 0) (hz : x / y = z) (hq : pc + 1 = q) (r : Run p e below s Q k n (T.setTop (mkF m q Ls (.int z :: S)))) : Run p e below s Q k n (T.setTop (mkF m pc Ls (.int y :: .int x :: S))) := by
  subst hq; subst hz; exact Run.st (fun t kt => XS.idiv X.here hx rfl hd rfl hy kt) r
theorem Run.x_ldiv (X : Stand p l e R s m args below meth c T locs cells slots) (hx : p.tables.exec = Jvm.exec) {pc q : Nat} {Ls : Array Slot} {S : List Value} {x y z : Int64} (hd : decode c.code pc = .ok (.ldiv, 1)) (hy : y ≠ 0) (hz : x / y = z) (hq : pc + 1 = q) (r : Run p e below s Q k n (T.setTop (mkF m q Ls (.long z :: S)))) : Run p e below s Q k n (T.setTop (mkF m pc Ls (.long y :: .long x :: S))) := by
  subst hq; subst hz; exact Run.st (fun t kt => XS.ldiv X.here hx rfl hd rfl hy kt) r
theorem Run.x_irem (X : Stand p l e R s m args below meth c T locs cells slots) (hx : p.tables.exec = Jvm.exec) {pc q : Nat} {Ls : Array Slot} {S : List Value} {x y z : Int32} (hd : decode c.code pc = .ok (.irem, 1)) (hy : y ≠ 0) (hz : x % y = z) (hq : pc + 1 = q) (r : Run p e below s Q k n (T.setTop (mkF m q Ls (.int z :: S)))) : Run p e below s Q k n (T.setTop (mkF m pc Ls (.int y :: .int x :: S))) := by
  subst hq; subst hz; exact Run.st (fun t kt => iremM (g := mkF m pc Ls (.int y :: .int x :: S)) X hx rfl hd rfl hy kt) r
theorem Run.x_lrem (X : Stand p l e R s m args below meth c T locs cells slots) (hx : p.tables.exec = Jvm.exec) {pc q : Nat} {Ls : Array Slot} {S : List Value} {x y z : Int64} (hd : decode c.code pc = .ok (.lrem, 1)) (hy : y ≠ 0) (hz : x % y = z) (hq : pc + 1 = q) (r : Run p e below s Q k n (T.setTop (mkF m q Ls (.long z :: S)))) : Run p e below s Q k n (T.setTop (mkF m pc Ls (.long y :: .long x :: S))) := by
  subst hq; subst hz; rw [← lrem_mod] at r; exact Run.st (fun t kt => XS.lrem X.here hx rfl hd rfl hy kt) r
theorem Run.x_iinc (X : Stand p l e R s m args below meth c T locs cells slots) (hx : p.tables.exec = Jvm.exec) {pc q : Nat} {Ls : Array Slot} {S : List Value} {j : Nat} {i : Int} {x z : Int32} (L' : Array Slot) (hd : decode c.code pc = .ok (.iinc j i, 3)) (hl : Ls[j]? = some (.val (.int x))) (hz : x + Int32.ofInt i = z) (hl' : storeLocals Ls j (.int z) = some L') (hq : pc + 3 = q) (r : Run p e below s Q k n (T.setTop (mkF m q L' (S)))) : Run p e below s Q k n (T.setTop (mkF m pc Ls (S))) := by
  subst hq; subst hz; exact Run.st (fun t kt => XS.iinc X.here hx rfl hd hl hl' kt) r
theorem Run.x_dup (X : Stand p l e R s m args below meth c T locs cells slots) (hx : p.tables.exec = Jvm.exec) {pc q : Nat} {Ls : Array Slot} {S : List Value} {v : Value} (hd : decode c.code pc = .ok (.dup, 1)) (hc : v.category = 1) (hq : pc + 1 = q) (r : Run p e below s Q k n (T.setTop (mkF m q Ls (v :: v :: S)))) : Run p e below s Q k n (T.setTop (mkF m pc Ls (v :: S))) := by
  subst hq; exact Run.st (fun t kt => XS.dup X.here hx rfl hd rfl hc kt) r
theorem Run.x_dup_x1 (X : Stand p l e R s m args below meth c T locs cells slots) (hx : p.tables.exec = Jvm.exec) {pc q : Nat} {Ls : Array Slot} {S : List Value} {v w : Value} (hd : decode c.code pc = .ok (.dup_x1, 1)) (hc : v.category = 1) (hc' : w.category = 1) (hq : pc + 1 = q) (r : Run p e below s Q k n (T.setTop (mkF m q Ls (v :: w :: v :: S)))) : Run p e below s Q k n (T.setTop (mkF m pc Ls (v :: w :: S))) := by
  subst hq; exact Run.st (fun t kt => XS.dupX1 X.here hx rfl hd rfl hc hc' kt) r
theorem Run.x_dup2 (X : Stand p l e R s m args below meth c T locs cells slots) (hx : p.tables.exec = Jvm.exec) {pc q : Nat} {Ls : Array Slot} {S : List Value} {v w : Value} (hd : decode c.code pc = .ok (.dup2, 1)) (hc : v.category = 1) (hc' : w.category = 1) (hq : pc + 1 = q) (r : Run p e below s Q k n (T.setTop (mkF m q Ls (v :: w :: v :: w :: S)))) : Run p e below s Q k n (T.setTop (mkF m pc Ls (v :: w :: S))) := by
  subst hq; exact Run.st (fun t kt => XT.dup2 X.here hx rfl hd rfl hc hc' kt) r
theorem Run.x_pop (X : Stand p l e R s m args below meth c T locs cells slots) (hx : p.tables.exec = Jvm.exec) {pc q : Nat} {Ls : Array Slot} {S : List Value} {v : Value} (hd : decode c.code pc = .ok (.pop, 1)) (hc : v.category = 1) (hq : pc + 1 = q) (r : Run p e below s Q k n (T.setTop (mkF m q Ls (S)))) : Run p e below s Q k n (T.setTop (mkF m pc Ls (v :: S))) := by
  subst hq; exact Run.st (fun t kt => XS.pop X.here hx rfl hd rfl hc kt) r
theorem Run.x_goto (X : Stand p l e R s m args below meth c T locs cells slots) (hx : p.tables.exec = Jvm.exec) {pc q : Nat} {Ls : Array Slot} {S : List Value}  {o : Int} (hd : decode c.code pc = .ok (.goto o, 3)) (ho : 0 ≤ (pc : Int) + o) (hq : ((pc : Int) + o).toNat = q) (r : Run p e below s Q k n (T.setTop (mkF m q Ls (S)))) : Run p e below s Q k n (T.setTop (mkF m pc Ls (S))) :=
  Run.st (fun t kt => XS.goto X.here hx rfl (pc0 := pc) (pc' := q) rfl hd ho hq kt) r
theorem Run.x_ifYes (X : Stand p l e R s m args below meth c T locs cells slots) (hx : p.tables.exec = Jvm.exec) {pc q : Nat} {Ls : Array Slot} {S : List Value} {cd : ClassFile.Cond} {x : Int32} {o : Int} (hd : decode c.code pc = .ok (.ifCond cd o, 3)) (hc : ifCond.holds cd x = true) (ho : 0 ≤ (pc : Int) + o) (hq : ((pc : Int) + o).toNat = q) (r : Run p e below s Q k n (T.setTop (mkF m q Ls (S)))) : Run p e below s Q k n (T.setTop (mkF m pc Ls (.int x :: S))) :=
  Run.st (fun t kt => XS.ifYes X.here hx rfl (pc0 := pc) (pc' := q) rfl hd rfl hc ho hq kt) r
theorem Run.x_icmpYes (X : Stand p l e R s m args below meth c T locs cells slots) (hx : p.tables.exec = Jvm.exec) {pc q : Nat} {Ls : Array Slot} {S : List Value} {cd : ClassFile.Cond} {x y : Int32} {o : Int} (hd : decode c.code pc = .ok (.if_icmp cd o, 3)) (hc : if_icmp.holds cd x y = true) (ho : 0 ≤ (pc : Int) + o) (hq : ((pc : Int) + o).toNat = q) (r : Run p e below s Q k n (T.setTop (mkF m q Ls (S)))) : Run p e below s Q k n (T.setTop (mkF m pc Ls (.int y :: .int x :: S))) :=
  Run.st (fun t kt => XS.icmpYes X.here hx rfl (pc0 := pc) (pc' := q) rfl hd rfl hc ho hq kt) r
theorem Run.x_ifNo (X : Stand p l e R s m args below meth c T locs cells slots) (hx : p.tables.exec = Jvm.exec) {pc q : Nat} {Ls : Array Slot} {S : List Value} {cd : ClassFile.Cond} {x : Int32} {o : Int} (hd : decode c.code pc = .ok (.ifCond cd o, 3)) (hc : ifCond.holds cd x = false) (hq : pc + 3 = q) (r : Run p e below s Q k n (T.setTop (mkF m q Ls (S)))) : Run p e below s Q k n (T.setTop (mkF m pc Ls (.int x :: S))) := by
  subst hq; exact Run.st (fun t kt => XS.ifNo X.here hx rfl hd rfl hc kt) r
theorem Run.x_icmpNo (X : Stand p l e R s m args below meth c T locs cells slots) (hx : p.tables.exec = Jvm.exec) {pc q : Nat} {Ls : Array Slot} {S : List Value} {cd : ClassFile.Cond} {x y : Int32} {o : Int} (hd : decode c.code pc = .ok (.if_icmp cd o, 3)) (hc : if_icmp.holds cd x y = false) (hq : pc + 3 = q) (r : Run p e below s Q k n (T.setTop (mkF m q Ls (S)))) : Run p e below s Q k n (T.setTop (mkF m pc Ls (.int y :: .int x :: S))) := by
  subst hq; exact Run.st (fun t kt => XS.icmpNo X.here hx rfl hd rfl hc kt) r
/-- an array and all that it holds -/
def Ars (Z : State) (h : Heap) (a : Addr) (ty : FieldType) (vs : List Value) : Prop := ∃ c : Cell, Arr Z h a c ty ∧ c.slots.toList = vs
variable {a b : Addr} {ty : FieldType} {vs : List Value} {v : Value} {sl : Nat} {ws : List Addr}
theorem Ars.lt (A : Ars Z h a ty vs) : a < h.size := by obtain ⟨c, A, -⟩ := A; exact A.lt
theorem Ars.ext (A : Ars Z h a ty vs) (E : Ext h h') : Ars Z h' a ty vs := by obtain ⟨c, A, r⟩ := A; exact ⟨c, A.ext E, r⟩
theorem Ars.other (A : Ars Z h b ty vs) (W : Wr h h' a sl v) (q : b ≠ a) : Ars Z h' b ty vs := by obtain ⟨c, A, r⟩ := A; exact ⟨c, A.other W q, r⟩
theorem Ars.keep (A : Ars Z h a ty vs) (K : Keep h h' ws) (q : a ∉ ws) : Ars Z h' a ty vs := by obtain ⟨c, A, r⟩ := A; exact ⟨c, ⟨K.2.1 a c A.1 q, A.2⟩, r⟩
theorem Ars.same (A : Ars Z h a ty vs) (W : Wr h h' a sl v) : Ars Z h' a ty (vs.set sl v) := by
  obtain ⟨c, A, r⟩ := A
  exact ⟨_, A.same W, by subst r; simp [Cell.setSlot]⟩
theorem Ars.new {k : ClassId} {z : Int32} (A : Arr Z h a (newA k ty z) ty) : Ars Z h a ty (List.replicate z.toNatClampNeg (defaultValue ty)) := ⟨_, A, by simp [newA]⟩
theorem in_of {c : Cell} {j : Int32} {i : Nat} (e : c.slots.toList = vs) (hj : j.toInt = i) (hi : i < vs.length) : ¬ (j < 0 ∨ c.slots.size ≤ j.toNatClampNeg) ∧ j.toNatClampNeg = i := by
  have e2 : j.toNatClampNeg = i := by show j.toInt.toNat = i; rw [hj]; rfl
  have e3 : c.slots.size = vs.length := by rw [← e]; simp
  refine ⟨?_, e2⟩
  rw [e2, e3, Int32.lt_iff_toInt_lt, hj]
  have : (0 : Int32).toInt = 0 := rfl
  omega
theorem at_of {c : Cell} {j : Int32} {i : Nat} (e : c.slots.toList = vs) (hj : j.toInt = i) (hi : vs[i]? = some v) : ¬ (j < 0 ∨ c.slots.size ≤ j.toNatClampNeg) ∧ c.slots[j.toNatClampNeg]? = some v := by
  obtain ⟨q, e2⟩ := in_of e hj (List.getElem?_eq_some_iff.mp hi).1
  refine ⟨q, ?_⟩
  rw [e2, ← hi, ← e]; simp
theorem Run.newP (X : Stand p l e R s m args below meth c T locs cells slots) (hx : p.tables.exec = Jvm.exec) (hZ : Z.Warmed39 s.vm) (eT : T.heap = h) {aty : ArrayType} (w : (Jvm.Cond.arrayClass (newarray.typeOf aty)).before a0 Z = true) {pc : Nat} {Ls : Array Slot} {z : Int32} {rest : List Value} (hd : decode c.code pc = .ok (.newarray aty, 2))
    {len : Nat} (hz : ¬ z < 0) (hlen : z.toNatClampNeg = len) {cap : Nat} (hcap : len ≤ cap) (hb : cap * 8 ≤ 536870912) (hc : cells + 1 ≤ R.cells) (hl : slots + cap ≤ R.slots)
    (kk : ∀ (T' : State) (h' : Heap) (b : Addr), b = h.size → Stand p l e R s m args below meth c T' locs (cells + 1) (slots + cap) → T'.heap = h' → Ext h h' → Ars Z h' b (newarray.typeOf aty) (List.replicate len (defaultValue (newarray.typeOf aty))) → Run p e below s Q k n (T'.setTop (mkF m (pc + 2) Ls (.ref b :: rest)))) :
    Run p e below s Q k n (T.setTop (mkF m pc Ls (.int z :: rest))) := by
  obtain ⟨T', h', k', X', e', E', A', st'⟩ := RoadKit.newP X hx hZ w eT (g := mkF m pc Ls (.int z :: rest)) rfl hd rfl hz (cap := cap) (by rw [hlen]; exact hcap) hb hc hl
  have A2 := Ars.new A'
  rw [hlen] at A2
  exact Run.st st' (kk T' h' _ rfl X' e' E' A2)
theorem Run.newR (X : Stand p l e R s m args below meth c T locs cells slots) (hx : p.tables.exec = Jvm.exec) (hZ : Z.Warmed39 s.vm) (eT : T.heap = h) {own C : String} {index : Nat} (hown : s.vm.findClass own = some m.cls) (w1 : (Jvm.Cond.classLink own index C).before a0 Z = true) (w2 : (Jvm.Cond.arrayOver (.object C)).before a0 Z = true) {pc : Nat} {Ls : Array Slot} {z : Int32} {rest : List Value} (hd : decode c.code pc = .ok (.anewarray index, 3))
    {len : Nat} (hz : ¬ z < 0) (hlen : z.toNatClampNeg = len) {cap : Nat} (hcap : len ≤ cap) (hb : cap * 8 ≤ 536870912) (hc : cells + 1 ≤ R.cells) (hl : slots + cap ≤ R.slots)
    (kk : ∀ (T' : State) (h' : Heap) (b : Addr), b = h.size → Stand p l e R s m args below meth c T' locs (cells + 1) (slots + cap) → T'.heap = h' → Ext h h' → Ars Z h' b (.object C) (List.replicate len .null) → Run p e below s Q k n (T'.setTop (mkF m (pc + 3) Ls (.ref b :: rest)))) :
    Run p e below s Q k n (T.setTop (mkF m pc Ls (.int z :: rest))) := by
  obtain ⟨T', h', k', X', e', E', A', -, st'⟩ := RoadKit.newR X hx hZ hown w1 w2 eT (g := mkF m pc Ls (.int z :: rest)) rfl hd rfl hz (cap := cap) (by rw [hlen]; exact hcap) hb hc hl
  have A2 := Ars.new A'
  rw [hlen] at A2
  exact Run.st st' (kk T' h' _ rfl X' e' E' A2)
theorem Run.ldI (X : Stand p l e R s m args below meth c T locs cells slots) (hx : p.tables.exec = Jvm.exec) (hZ : Z.Warmed39 s.vm) (eT : T.heap = h) (A : Ars Z h a .int vs) {j : Int32} {i : Nat} (hj : j.toInt = i) (hi : vs[i]? = some v) {pc : Nat} {Ls : Array Slot} {rest : List Value} (hd : decode c.code pc = .ok (.iaload, 1))
    (r : Run p e below s Q k n (T.setTop (mkF m (pc + 1) Ls (v :: rest)))) : Run p e below s Q k n (T.setTop (mkF m pc Ls (.int j :: .ref a :: rest))) := by
  obtain ⟨cl, A, q⟩ := A
  obtain ⟨q1, q2⟩ := at_of q hj hi
  exact Run.st (fun t kt => X.iaload hx (j := j) (v := v) (by rw [eT]; exact A.1) (State.isArrayOf_alike hZ.alike A.2.1) A.2.2 q1 q2 (g := mkF m pc Ls (.int j :: .ref a :: rest)) rfl rfl hd _ kt) r
theorem Run.ldC (X : Stand p l e R s m args below meth c T locs cells slots) (hx : p.tables.exec = Jvm.exec) (hZ : Z.Warmed39 s.vm) (eT : T.heap = h) (A : Ars Z h a .char vs) {j : Int32} {i : Nat} (hj : j.toInt = i) (hi : vs[i]? = some v) {pc : Nat} {Ls : Array Slot} {rest : List Value} (hd : decode c.code pc = .ok (.caload, 1))
    (r : Run p e below s Q k n (T.setTop (mkF m (pc + 1) Ls (v :: rest)))) : Run p e below s Q k n (T.setTop (mkF m pc Ls (.int j :: .ref a :: rest))) := by
  obtain ⟨cl, A, q⟩ := A
  obtain ⟨q1, q2⟩ := at_of q hj hi
  exact Run.st (fun t kt => X.caload hx (j := j) (v := v) (by rw [eT]; exact A.1) (State.isArrayOf_alike hZ.alike A.2.1) A.2.2 q1 q2 (g := mkF m pc Ls (.int j :: .ref a :: rest)) rfl rfl hd _ kt) r
theorem Run.ldJ (X : Stand p l e R s m args below meth c T locs cells slots) (hx : p.tables.exec = Jvm.exec) (hZ : Z.Warmed39 s.vm) (eT : T.heap = h) (A : Ars Z h a .long vs) {j : Int32} {i : Nat} (hj : j.toInt = i) (hi : vs[i]? = some v) {pc : Nat} {Ls : Array Slot} {rest : List Value} (hd : decode c.code pc = .ok (.laload, 1))
    (r : Run p e below s Q k n (T.setTop (mkF m (pc + 1) Ls (v :: rest)))) : Run p e below s Q k n (T.setTop (mkF m pc Ls (.int j :: .ref a :: rest))) := by
  obtain ⟨cl, A, q⟩ := A
  obtain ⟨q1, q2⟩ := at_of q hj hi
  exact Run.st (fun t kt => X.laload hx (j := j) (v := v) (by rw [eT]; exact A.1) (State.isArrayOf_alike hZ.alike A.2.1) A.2.2 q1 q2 (g := mkF m pc Ls (.int j :: .ref a :: rest)) rfl rfl hd _ kt) r
theorem Run.ldB (X : Stand p l e R s m args below meth c T locs cells slots) (hx : p.tables.exec = Jvm.exec) (hZ : Z.Warmed39 s.vm) (eT : T.heap = h) (A : Ars Z h a .byte vs) {j : Int32} {i : Nat} (hj : j.toInt = i) (hi : vs[i]? = some v) {pc : Nat} {Ls : Array Slot} {rest : List Value} (hd : decode c.code pc = .ok (.baload, 1))
    (r : Run p e below s Q k n (T.setTop (mkF m (pc + 1) Ls (v :: rest)))) : Run p e below s Q k n (T.setTop (mkF m pc Ls (.int j :: .ref a :: rest))) := by
  obtain ⟨cl, A, q⟩ := A
  obtain ⟨q1, q2⟩ := at_of q hj hi
  exact Run.st (fun t kt => X.baloadBytes hx (j := j) (v := v) (by rw [eT]; exact A.1) (State.isArrayOf_alike hZ.alike A.2.1) A.2.2 q1 q2 (g := mkF m pc Ls (.int j :: .ref a :: rest)) rfl rfl hd _ kt) r
theorem Run.ldZ (X : Stand p l e R s m args below meth c T locs cells slots) (hx : p.tables.exec = Jvm.exec) (hZ : Z.Warmed39 s.vm) (eT : T.heap = h) (A : Ars Z h a .boolean vs) {j : Int32} {i : Nat} (hj : j.toInt = i) (hi : vs[i]? = some v) {pc : Nat} {Ls : Array Slot} {rest : List Value} (hd : decode c.code pc = .ok (.baload, 1))
    (r : Run p e below s Q k n (T.setTop (mkF m (pc + 1) Ls (v :: rest)))) : Run p e below s Q k n (T.setTop (mkF m pc Ls (.int j :: .ref a :: rest))) := by
  obtain ⟨cl, A, q⟩ := A
  obtain ⟨q1, q2⟩ := at_of q hj hi
  exact Run.st (fun t kt => X.baloadBooleans hx (j := j) (v := v) (by rw [eT]; exact A.1) (State.isArrayOf_alike hZ.alike A.2.1) A.2.2 q1 q2 (g := mkF m pc Ls (.int j :: .ref a :: rest)) rfl rfl hd _ kt) r
theorem Run.ldD (X : Stand p l e R s m args below meth c T locs cells slots) (hx : p.tables.exec = Jvm.exec) (hZ : Z.Warmed39 s.vm) (eT : T.heap = h) (A : Ars Z h a .double vs) {j : Int32} {i : Nat} (hj : j.toInt = i) (hi : vs[i]? = some v) {pc : Nat} {Ls : Array Slot} {rest : List Value} (hd : decode c.code pc = .ok (.daload, 1))
    (r : Run p e below s Q k n (T.setTop (mkF m (pc + 1) Ls (v :: rest)))) : Run p e below s Q k n (T.setTop (mkF m pc Ls (.int j :: .ref a :: rest))) := by
  obtain ⟨cl, A, q⟩ := A
  obtain ⟨q1, q2⟩ := at_of q hj hi
  exact Run.st (fun t kt => X.daload hx (j := j) (v := v) (by rw [eT]; exact A.1) (State.isArrayOf_alike hZ.alike A.2.1) A.2.2 q1 q2 (g := mkF m pc Ls (.int j :: .ref a :: rest)) rfl rfl hd _ kt) r
theorem Run.ldR (X : Stand p l e R s m args below meth c T locs cells slots) (hx : p.tables.exec = Jvm.exec) (hZ : Z.Warmed39 s.vm) (eT : T.heap = h) (A : Ars Z h a ty vs) {j : Int32} {i : Nat} (hj : j.toInt = i) (hi : vs[i]? = some v) (hty : ty.isReference = true) {pc : Nat} {Ls : Array Slot} {rest : List Value} (hd : decode c.code pc = .ok (.aaload, 1))
    (r : Run p e below s Q k n (T.setTop (mkF m (pc + 1) Ls (v :: rest)))) : Run p e below s Q k n (T.setTop (mkF m pc Ls (.int j :: .ref a :: rest))) := by
  obtain ⟨cl, A, q⟩ := A
  obtain ⟨q1, q2⟩ := at_of q hj hi
  exact Run.st (fun t kt => X.aaload hx (j := j) (v := v) (by rw [eT]; exact A.1) (State.isArrayOf_alike hZ.alike A.2.1) hty A.2.2 q1 q2 (g := mkF m pc Ls (.int j :: .ref a :: rest)) rfl rfl hd _ kt) r
theorem Run.alen (X : Stand p l e R s m args below meth c T locs cells slots) (hx : p.tables.exec = Jvm.exec) (hZ : Z.Warmed39 s.vm) (eT : T.heap = h) (A : Ars Z h a ty vs) {z : Int32} (hz : vs.length.toInt32 = z) {pc : Nat} {Ls : Array Slot} {rest : List Value} (hd : decode c.code pc = .ok (.arraylength, 1))
    (r : Run p e below s Q k n (T.setTop (mkF m (pc + 1) Ls (.int z :: rest)))) : Run p e below s Q k n (T.setTop (mkF m pc Ls (.ref a :: rest))) := by
  obtain ⟨cl, A, q⟩ := A
  have e1 : cl.slots.size.toInt32 = z := by rw [← hz, ← q]; simp
  rw [← e1] at r
  exact Run.st (fun t kt => X.arraylength hx (by rw [eT]; exact A.1) (State.isArrayOf_alike hZ.alike A.2.1) (g := mkF m pc Ls (.ref a :: rest)) rfl rfl hd _ kt) r
theorem Run.stI (X : Stand p l e R s m args below meth c T locs cells slots) (hx : p.tables.exec = Jvm.exec) (hZ : Z.Warmed39 s.vm) (eT : T.heap = h) (A : Ars Z h a .int vs) {j z : Int32} {i : Nat} (hj : j.toInt = i) (hi : i < vs.length) {pc : Nat} {Ls : Array Slot} {rest : List Value} (hd : decode c.code pc = .ok (.iastore, 1))
    (kk : ∀ (T' : State) (h' : Heap), Stand p l e R s m args below meth c T' (locs ++ [⟨a, i⟩]) cells slots → T'.heap = h' → Wr h h' a i (.int z) → Ars Z h' a .int (vs.set i (.int z)) → Run p e below s Q k n (T'.setTop (mkF m (pc + 1) Ls rest))) : Run p e below s Q k n (T.setTop (mkF m pc Ls (.int z :: .int j :: .ref a :: rest))) := by
  obtain ⟨cl, A1, q⟩ := id A
  obtain ⟨q1, q2⟩ := in_of q hj hi
  obtain ⟨T', h', X', e', W', st'⟩ := RoadKit.stI X hx hZ eT A1 (j := j) (x := z) q1 (g := mkF m pc Ls (.int z :: .int j :: .ref a :: rest)) rfl rfl hd
  rw [q2] at X' W'
  exact Run.st st' (kk T' h' X' e' W' (A.same W'))
theorem Run.stJ (X : Stand p l e R s m args below meth c T locs cells slots) (hx : p.tables.exec = Jvm.exec) (hZ : Z.Warmed39 s.vm) (eT : T.heap = h) (A : Ars Z h a .long vs) {j : Int32} {z : Int64} {i : Nat} (hj : j.toInt = i) (hi : i < vs.length) {pc : Nat} {Ls : Array Slot} {rest : List Value} (hd : decode c.code pc = .ok (.lastore, 1))
    (kk : ∀ (T' : State) (h' : Heap), Stand p l e R s m args below meth c T' (locs ++ [⟨a, i⟩]) cells slots → T'.heap = h' → Wr h h' a i (.long z) → Ars Z h' a .long (vs.set i (.long z)) → Run p e below s Q k n (T'.setTop (mkF m (pc + 1) Ls rest))) : Run p e below s Q k n (T.setTop (mkF m pc Ls (.long z :: .int j :: .ref a :: rest))) := by
  obtain ⟨cl, A1, q⟩ := id A
  obtain ⟨q1, q2⟩ := in_of q hj hi
  obtain ⟨T', h', X', e', W', st'⟩ := RoadKit.stJ X hx hZ eT A1 (j := j) (x := z) q1 (g := mkF m pc Ls (.long z :: .int j :: .ref a :: rest)) rfl rfl hd
  rw [q2] at X' W'
  exact Run.st st' (kk T' h' X' e' W' (A.same W'))
theorem Run.stD (X : Stand p l e R s m args below meth c T locs cells slots) (hx : p.tables.exec = Jvm.exec) (hZ : Z.Warmed39 s.vm) (eT : T.heap = h) (A : Ars Z h a .double vs) {j : Int32} {z : UInt64} {i : Nat} (hj : j.toInt = i) (hi : i < vs.length) {pc : Nat} {Ls : Array Slot} {rest : List Value} (hd : decode c.code pc = .ok (.dastore, 1))
    (kk : ∀ (T' : State) (h' : Heap), Stand p l e R s m args below meth c T' (locs ++ [⟨a, i⟩]) cells slots → T'.heap = h' → Wr h h' a i (.double z) → Ars Z h' a .double (vs.set i (.double z)) → Run p e below s Q k n (T'.setTop (mkF m (pc + 1) Ls rest))) : Run p e below s Q k n (T.setTop (mkF m pc Ls (.double z :: .int j :: .ref a :: rest))) := by
  obtain ⟨cl, A1, q⟩ := id A
  obtain ⟨q1, q2⟩ := in_of q hj hi
  obtain ⟨T', h', X', e', W', st'⟩ := RoadKit.stD X hx hZ eT A1 (j := j) (x := z) q1 (g := mkF m pc Ls (.double z :: .int j :: .ref a :: rest)) rfl rfl hd
  rw [q2] at X' W'
  exact Run.st st' (kk T' h' X' e' W' (A.same W'))
theorem Run.retD (X : Stand p l e R s m args below meth c T locs cells slots) (hx : p.tables.exec = Jvm.exec) (hlk : meth.locks = false) (eT : T.heap = h) (hret : meth.sig.returnType = some .double) {pc : Nat} {Ls : Array Slot} {z : UInt64} {rest : List Value}
    (hd : decode c.code pc = .ok (.dreturn, 1)) (hc : cells ≤ k) (hn : slots ≤ n) (hQ : Q (some (.double z)) h locs) : Run p e below s Q k n (T.setTop (mkF m pc Ls (.double z :: rest))) :=
  Run.end_ X hlk eT (v := some (.double z)) (fun q => by rw [hret] at q; cases q) hc hn hQ fun fs hr => RoadKit.retOut X hx hret rfl (Or.inr (Or.inr (Or.inl ⟨rfl, rfl, z, rfl⟩))) hd hr
theorem Run.stC (X : Stand p l e R s m args below meth c T locs cells slots) (hx : p.tables.exec = Jvm.exec) (hZ : Z.Warmed39 s.vm) (eT : T.heap = h) (A : Ars Z h a .char vs) {j z : Int32} {i : Nat} (hj : j.toInt = i) (hi : i < vs.length) {z' : Int32} (hz : nar .char z = z') {pc : Nat} {Ls : Array Slot} {rest : List Value} (hd : decode c.code pc = .ok (.castore, 1))
    (kk : ∀ (T' : State) (h' : Heap), Stand p l e R s m args below meth c T' (locs ++ [⟨a, i⟩]) cells slots → T'.heap = h' → Wr h h' a i (.int z') → Ars Z h' a .char (vs.set i (.int z')) → Run p e below s Q k n (T'.setTop (mkF m (pc + 1) Ls rest))) : Run p e below s Q k n (T.setTop (mkF m pc Ls (.int z :: .int j :: .ref a :: rest))) := by
  obtain ⟨cl, A1, q⟩ := id A
  obtain ⟨q1, q2⟩ := in_of q hj hi
  obtain ⟨T', h', X', e', W', st'⟩ := RoadKit.stC X hx hZ eT A1 (j := j) (x := z) q1 (g := mkF m pc Ls (.int z :: .int j :: .ref a :: rest)) rfl rfl hd
  rw [q2] at X' W'
  rw [hz] at W'
  exact Run.st st' (kk T' h' X' e' W' (A.same W'))
theorem Run.stB (X : Stand p l e R s m args below meth c T locs cells slots) (hx : p.tables.exec = Jvm.exec) (hZ : Z.Warmed39 s.vm) (eT : T.heap = h) (A : Ars Z h a .byte vs) {j z : Int32} {i : Nat} (hj : j.toInt = i) (hi : i < vs.length) {z' : Int32} (hz : nar .byte z = z') {pc : Nat} {Ls : Array Slot} {rest : List Value} (hd : decode c.code pc = .ok (.bastore, 1))
    (kk : ∀ (T' : State) (h' : Heap), Stand p l e R s m args below meth c T' (locs ++ [⟨a, i⟩]) cells slots → T'.heap = h' → Wr h h' a i (.int z') → Ars Z h' a .byte (vs.set i (.int z')) → Run p e below s Q k n (T'.setTop (mkF m (pc + 1) Ls rest))) : Run p e below s Q k n (T.setTop (mkF m pc Ls (.int z :: .int j :: .ref a :: rest))) := by
  obtain ⟨cl, A1, q⟩ := id A
  obtain ⟨q1, q2⟩ := in_of q hj hi
  obtain ⟨T', h', X', e', W', st'⟩ := RoadKit.stB X hx hZ eT A1 (j := j) (x := z) q1 (g := mkF m pc Ls (.int z :: .int j :: .ref a :: rest)) rfl rfl hd
  rw [q2] at X' W'
  rw [hz] at W'
  exact Run.st st' (kk T' h' X' e' W' (A.same W'))
theorem Run.stZ (X : Stand p l e R s m args below meth c T locs cells slots) (hx : p.tables.exec = Jvm.exec) (hZ : Z.Warmed39 s.vm) (eT : T.heap = h) (A : Ars Z h a .boolean vs) {j z : Int32} {i : Nat} (hj : j.toInt = i) (hi : i < vs.length) {z' : Int32} (hz : nar .boolean z = z') {pc : Nat} {Ls : Array Slot} {rest : List Value} (hd : decode c.code pc = .ok (.bastore, 1))
    (kk : ∀ (T' : State) (h' : Heap), Stand p l e R s m args below meth c T' (locs ++ [⟨a, i⟩]) cells slots → T'.heap = h' → Wr h h' a i (.int z') → Ars Z h' a .boolean (vs.set i (.int z')) → Run p e below s Q k n (T'.setTop (mkF m (pc + 1) Ls rest))) : Run p e below s Q k n (T.setTop (mkF m pc Ls (.int z :: .int j :: .ref a :: rest))) := by
  obtain ⟨cl, A1, q⟩ := id A
  obtain ⟨q1, q2⟩ := in_of q hj hi
  obtain ⟨T', h', X', e', W', st'⟩ := RoadKit.stZ X hx hZ eT A1 (j := j) (x := z) q1 (g := mkF m pc Ls (.int z :: .int j :: .ref a :: rest)) rfl rfl hd
  rw [q2] at X' W'
  rw [hz] at W'
  exact Run.st st' (kk T' h' X' e' W' (A.same W'))
end Laws
/-- what lies at a is no class's statics -/
def NSt (h : Heap) (a : Addr) : Prop := ∀ c : Cell, h[a]? = some c → c.vm.isStatics = false
theorem Exa_ns {Z : State} {h : Heap} {a : Addr} {C : String} (E : Exa Z h a C) : NSt h a := by
  obtain ⟨c, _, h1, -, -, h4, -⟩ := E
  intro c' q
  cases h1.symm.trans q
  exact h4
theorem Ars.ns {Z : State} {h : Heap} {a : Addr} {ty : FieldType} {vs : List Value} (A : Ars Z h a ty vs) : NSt h a := by
  obtain ⟨c, A, -⟩ := A
  intro c' q
  cases A.1.symm.trans q
  exact A.plain
theorem Sta_keep {Z : State} {h h' : Heap} {C n d : String} {v : Value} {ws : List Addr} (F : Sta Z h C n d v) (K : Keep h h' ws) (q : ∀ x ∈ ws, NSt h x) : Sta Z h' C n d v := by
  obtain ⟨cf, i, k, f, st, cell, h1, h2, h3, h4, h5, h6, h7⟩ := F
  refine ⟨cf, i, k, f, st, cell, h1, h2, h3, h4, K.2.1 _ _ h5 (fun hm => ?_), h6, h7⟩
  have := q st hm cell h5
  rw [h6] at this
  cases this
theorem nar_b01 {z : Int32} (hz : z = 0 ∨ z = 1) : nar .boolean z = z := by rcases hz with rfl | rfl <;> decide
theorem nar_b (x : Int32) : nar .byte x.toInt8.toInt32 = x.toInt8.toInt32 := by
  show x.toInt8.toInt32.toInt8.toInt32 = x.toInt8.toInt32
  simp
theorem nar_c (x : Int32) : nar .char x.toUInt32.toUInt16.toUInt32.toInt32 = x.toUInt32.toUInt16.toUInt32.toInt32 := by
  show x.toUInt32.toUInt16.toUInt32.toInt32.toUInt32.toUInt16.toUInt32.toInt32 = _
  have q : ∀ y : UInt16, y.toUInt32.toInt32.toUInt32.toUInt16 = y := fun y => by simp
  rw [q]
theorem ints_at (xs : List Int32) {i : Nat} (h : i < xs.length) : ∃ x, (xs.map Value.int)[i]? = some (.int x) := ⟨xs[i], by simp [h]⟩
/-- 1 or 0 -/
def own_b (c : Prop) [Decidable c] : Int32 := if c then 1 else 0
theorem own_b1 {c : Prop} [Decidable c] (h : c) : own_b c = 1 := if_pos h
theorem own_b0 {c : Prop} [Decidable c] (h : ¬ c) : own_b c = 0 := if_neg h
theorem own_b01 (c : Prop) [Decidable c] : own_b c = 0 ∨ own_b c = 1 := by unfold own_b; split <;> simp
theorem sub_w (a b : Int32) : (a.toInt64 - b.toInt64).toInt = a.toInt - b.toInt := by
  have h1 := c_lsub a.toInt64 b.toInt64
  have h2 := rng64 (a.toInt64 - b.toInt64)
  have h3 := rng32 a
  have h4 := rng32 b
  rw [c_i2l, c_i2l] at h1
  omega
theorem lt32 (a b : Int32) : a < b ↔ a.toInt < b.toInt := Int32.lt_iff_toInt_lt
theorem lt64 (a b : Int64) : a < b ↔ a.toInt < b.toInt := Int64.lt_iff_toInt_lt
theorem eq32 (a b : Int32) : a = b ↔ a.toInt = b.toInt := Int32.toInt_inj.symm
theorem eq64 (a b : Int64) : a = b ↔ a.toInt = b.toInt := Int64.toInt_inj.symm
/-- an int comes back, nothing is touched -/
def PureI (h0 : Heap) (n0 : Nat) (z : Int32) (v : Option Value) (h : Heap) (L : List Loc) : Prop := v = some (.int z) ∧ Fr n0 L ∧ h = h0
def PureJ (h0 : Heap) (n0 : Nat) (z : Int64) (v : Option Value) (h : Heap) (L : List Loc) : Prop := v = some (.long z) ∧ Fr n0 L ∧ h = h0
def PureR (h0 : Heap) (n0 : Nat) (z : Value) (v : Option Value) (h : Heap) (L : List Loc) : Prop := v = some z ∧ Fr n0 L ∧ h = h0
theorem PureI.mk {h0 : Heap} {n0 : Nat} {z z' : Int32} {L : List Loc} (e : z' = z) (N : Fr n0 L) : PureI h0 n0 z (some (.int z')) h0 L := ⟨by rw [e], N, rfl⟩
theorem PureJ.mk {h0 : Heap} {n0 : Nat} {z z' : Int64} {L : List Loc} (e : z' = z) (N : Fr n0 L) : PureJ h0 n0 z (some (.long z')) h0 L := ⟨by rw [e], N, rfl⟩
/-- the law's own end -/
def Tru (n0 : Nat) (v : Option Value) (h : Heap) (L : List Loc) : Prop := v = some (.int 1) ∧ Fr n0 L
end Jvm.OwnRun
namespace Jvm.Pilot.@@N@@
open Jvm Jvm.ClassFile Sem Op Lib Jvm.Free Jvm.Stand Jvm.LawKit Jvm.RoadKit Jvm.OwnRun Bundle Jvm.Pilot.@@N@@.Jvm.D
abbrev own_r (x : Int64) : Prop := -16777216 ≤ x.toInt ∧ x.toInt ≤ 16777216
theorem own_coord (p : Int32) : own_r ((p <<< ((7 : Int32) &&& 31)) >>> ((7 : Int32) &&& 31)).toInt64 := by
  have q := c_ishr (p <<< ((7 : Int32) &&& 31)) 7 7 (by decide)
  have r := rng32 (p <<< ((7 : Int32) &&& 31))
  unfold own_r
  rw [c_i2l, q]
  omega
theorem own_dif {x y : Int64} (hx : own_r x) (hy : own_r y) : (x - y).toInt = x.toInt - y.toInt ∧ -33554432 ≤ (x - y).toInt ∧ (x - y).toInt ≤ 33554432 := by
  unfold own_r at *
  have q := c_lsub x y
  have r := rng64 (x - y)
  omega
theorem own_sub {x y : Int64} (hx : own_r x) (hy : own_r y) : FP.dsub (FP.l2d x) (FP.l2d y) = FP.l2d (x - y) := by
  unfold own_r at *
  exact dsub_w ⟨by omega, by omega⟩ ⟨by omega, by omega⟩
abbrev own_q (x : Int64) : Prop := -33554432 ≤ x.toInt ∧ x.toInt ≤ 33554432
theorem own_sq {d : Int64} (h : own_q d) : (d * d).toInt = d.toInt * d.toInt ∧ 0 ≤ d.toInt * d.toInt ∧ d.toInt * d.toInt ≤ 1125899906842624 := by
  unfold own_q at h
  have q := c_lmul d d
  have r := rng64 (d * d)
  have h0 : 0 ≤ d.toInt * d.toInt := by
    rcases Int.le_total 0 d.toInt with k | k
    · exact Int.mul_nonneg k k
    · exact Int.mul_nonneg_of_nonpos_of_nonpos k k
  have h1 : d.toInt * d.toInt ≤ 33554432 * 33554432 := by
    rcases Int.le_total 0 d.toInt with k | k
    · exact Int.mul_le_mul h.2 h.2 k (by decide)
    · have : (-d.toInt) * (-d.toInt) ≤ 33554432 * 33554432 := Int.mul_le_mul (by omega) (by omega) (by omega) (by decide)
      rwa [Int.neg_mul_neg] at this
  generalize d.toInt * d.toInt = t at *
  omega
theorem own_mul {d : Int64} (h : own_q d) : FP.dmul (FP.l2d d) (FP.l2d d) = FP.l2d (d * d) := by
  unfold own_q at h
  refine dmul_k (A := 33554432) (B := 33554432) (by omega) (by omega) (by omega) (by omega) (by decide) (by decide) (by decide) ?_ ?_ <;>
  · rintro ⟨q, r⟩
    subst q
    exact absurd r (by decide)
abbrev own_p (x : Int64) (k : Int) : Prop := 0 ≤ x.toInt ∧ x.toInt ≤ k * 1125899906842624
theorem own_sqp {d : Int64} (h : own_q d) : own_p (d * d) 1 := by
  have q := own_sq h
  unfold own_p
  rw [q.1]
  omega
theorem own_add {x y : Int64} {a b : Int} (ha : a ≤ 3) (hb : b ≤ 3) (hx : own_p x a) (hy : own_p y b) : FP.dadd (FP.l2d x) (FP.l2d y) = FP.l2d (x + y) := by
  unfold own_p at *
  exact dadd_w ⟨by omega, by omega⟩ ⟨by omega, by omega⟩
theorem own_addp {x y : Int64} {a b : Int} (ha : a ≤ 3) (hb : b ≤ 3) (hx : own_p x a) (hy : own_p y b) : own_p (x + y) (a + b) := by
  unfold own_p at *
  have q := c_ladd x y
  have r := rng64 (x + y)
  omega
theorem own_i {p : Int32} {v : Int32} (h : (p &&& 3) % 3 = v) : v = 0 ∨ v = 1 ∨ v = 2 := by
  have q := c_mask p 3 2 (by decide) (by decide)
  have r := (c_irem (p &&& 3) 3 3 (by decide)).1 (by rw [q]; omega)
  rw [h] at r
  simp only [eq32]
  have : (0 : Int32).toInt = 0 ∧ (1 : Int32).toInt = 1 ∧ (2 : Int32).toInt = 2 := by decide
  omega
theorem own_3 {p : Int32} {n : Nat} (h : p.toInt = n) (h' : n ≤ 2) : (3 * p).toInt = (3 * n : Nat) ∧ (3 * p + 1).toInt = (3 * n + 1 : Nat) ∧ (3 * p + 2).toInt = (3 * n + 2 : Nat) := by
  have q := c_imul 3 p
  have r := rng32 (3 * p)
  have k3 : (3 : Int32).toInt = 3 ∧ (1 : Int32).toInt = 1 ∧ (2 : Int32).toInt = 2 := by decide
  rw [k3.1] at q
  have e : (3 * p).toInt = 3 * n := by omega
  have q1 := c_iadd (3 * p) 1
  have r1 := rng32 (3 * p + 1)
  have q2 := c_iadd (3 * p) 2
  have r2 := rng32 (3 * p + 2)
  omega
theorem d1_0 : decode method_2_code 0 = .ok (.iload_n 0, 1) := by decide +kernel
theorem d1_1 : decode method_2_code 1 = .ok (.bipush 7, 2) := by decide +kernel
theorem d1_3 : decode method_2_code 3 = .ok (.ishl, 1) := by decide +kernel
theorem d1_4 : decode method_2_code 4 = .ok (.bipush 7, 2) := by decide +kernel
theorem d1_6 : decode method_2_code 6 = .ok (.ishr, 1) := by decide +kernel
theorem d1_7 : decode method_2_code 7 = .ok (.i2l, 1) := by decide +kernel
theorem d1_8 : decode method_2_code 8 = .ok (.lreturn, 1) := by decide +kernel
theorem pn_0 : plainName "org/tertiary/analysis/SuperpositionSquaredDistancePinLaw" = true := by first | (simp [plainName, overriddenIn]; done) | decide +kernel
theorem ef_c_coord (m : MethodId) (p1 : Int32) : entryFrame m #[(.int p1)] 1 = mkF m 0 #[.val (.int p1)] [] := by first | (simp [entryFrame, mkF, argsToLocals, Value.category]; done) | rfl
set_option maxRecDepth 65536 in
set_option maxHeartbeats 40000000 in
theorem c_coord (l : Launch) (Z : State) (a0 : Array Value) (hw : ∀ d ∈ tables_1, d.before a0 Z = true) (p1 : Int32) (h0 : Heap) (n0 : Nat) (Z0 : n0 ≤ h0.size)  :
    Ctr l Z (⟨"org/tertiary/analysis/SuperpositionSquaredDistancePinLaw", "coord", "(I)J"⟩ : MethodName) method_2_code 1 (some .long) ({ frames := 0, cells := 0, slots := 0, locals := 0 } : Room) #[(.int p1)] h0 (fun v h L => ∃ z : Int64, v = some (.long z) ∧ Fr n0 L ∧ h = h0 ∧ own_r z) := by
  refine Ctr.of (plainFor_of_name pn_0) (fun m => ef_c_coord m p1) ?_
  intro p e s m below meth c T0 hx hby hml hown hnm hret hlk hZ e0 X0
  have N0 := Fr.nil n0
  replace hown : s.vm.findClass "org/tertiary/analysis/SuperpositionSquaredDistancePinLaw" = some m.cls := hown
  replace hml : c.maxLocals = 1 := hml
  refine Run.x_iloadN (q := 1) X0 hx (hb hby d1_0) rfl rfl ?_
  refine Run.x_bipush (q := 3) X0 hx (hb hby d1_1) (z := (7 : Int32)) rfl rfl ?_
  refine Run.x_ishl (q := 4) X0 hx (hb hby d1_3) rfl rfl ?_
  refine Run.x_bipush (q := 6) X0 hx (hb hby d1_4) (z := (7 : Int32)) rfl rfl ?_
  refine Run.x_ishr (q := 7) X0 hx (hb hby d1_6) rfl rfl ?_
  refine Run.x_i2l (q := 8) X0 hx (hb hby d1_7) rfl rfl ?_
  refine Run.retJ X0 hx hlk e0 hret (hb hby d1_8) (by decide) (by decide) ?_
  exact ⟨_, rfl, N0, rfl, own_coord p1⟩
theorem d2_0 : decode prog_16_method_5_code 0 = .ok (.aload_n 0, 1) := by decide +kernel
theorem d2_1 : decode prog_16_method_5_code 1 = .ok (.iconst 3, 1) := by decide +kernel
theorem d2_2 : decode prog_16_method_5_code 2 = .ok (.iload_n 1, 1) := by decide +kernel
theorem d2_3 : decode prog_16_method_5_code 3 = .ok (.imul, 1) := by decide +kernel
theorem d2_4 : decode prog_16_method_5_code 4 = .ok (.daload, 1) := by decide +kernel
theorem d2_5 : decode prog_16_method_5_code 5 = .ok (.aload_n 2, 1) := by decide +kernel
theorem d2_6 : decode prog_16_method_5_code 6 = .ok (.iconst 3, 1) := by decide +kernel
theorem d2_7 : decode prog_16_method_5_code 7 = .ok (.iload_n 3, 1) := by decide +kernel
theorem d2_8 : decode prog_16_method_5_code 8 = .ok (.imul, 1) := by decide +kernel
theorem d2_9 : decode prog_16_method_5_code 9 = .ok (.daload, 1) := by decide +kernel
theorem d2_10 : decode prog_16_method_5_code 10 = .ok (.dsub, 1) := by decide +kernel
theorem d2_11 : decode prog_16_method_5_code 11 = .ok (.dstore 4, 2) := by decide +kernel
theorem d2_13 : decode prog_16_method_5_code 13 = .ok (.aload_n 0, 1) := by decide +kernel
theorem d2_14 : decode prog_16_method_5_code 14 = .ok (.iconst 3, 1) := by decide +kernel
theorem d2_15 : decode prog_16_method_5_code 15 = .ok (.iload_n 1, 1) := by decide +kernel
theorem d2_16 : decode prog_16_method_5_code 16 = .ok (.imul, 1) := by decide +kernel
theorem d2_17 : decode prog_16_method_5_code 17 = .ok (.iconst 1, 1) := by decide +kernel
theorem d2_18 : decode prog_16_method_5_code 18 = .ok (.iadd, 1) := by decide +kernel
theorem d2_19 : decode prog_16_method_5_code 19 = .ok (.daload, 1) := by decide +kernel
theorem d2_20 : decode prog_16_method_5_code 20 = .ok (.aload_n 2, 1) := by decide +kernel
theorem d2_21 : decode prog_16_method_5_code 21 = .ok (.iconst 3, 1) := by decide +kernel
theorem d2_22 : decode prog_16_method_5_code 22 = .ok (.iload_n 3, 1) := by decide +kernel
theorem d2_23 : decode prog_16_method_5_code 23 = .ok (.imul, 1) := by decide +kernel
theorem d2_24 : decode prog_16_method_5_code 24 = .ok (.iconst 1, 1) := by decide +kernel
theorem d2_25 : decode prog_16_method_5_code 25 = .ok (.iadd, 1) := by decide +kernel
theorem d2_26 : decode prog_16_method_5_code 26 = .ok (.daload, 1) := by decide +kernel
theorem d2_27 : decode prog_16_method_5_code 27 = .ok (.dsub, 1) := by decide +kernel
theorem d2_28 : decode prog_16_method_5_code 28 = .ok (.dstore 6, 2) := by decide +kernel
theorem d2_30 : decode prog_16_method_5_code 30 = .ok (.aload_n 0, 1) := by decide +kernel
theorem d2_31 : decode prog_16_method_5_code 31 = .ok (.iconst 3, 1) := by decide +kernel
theorem d2_32 : decode prog_16_method_5_code 32 = .ok (.iload_n 1, 1) := by decide +kernel
theorem d2_33 : decode prog_16_method_5_code 33 = .ok (.imul, 1) := by decide +kernel
theorem d2_34 : decode prog_16_method_5_code 34 = .ok (.iconst 2, 1) := by decide +kernel
theorem d2_35 : decode prog_16_method_5_code 35 = .ok (.iadd, 1) := by decide +kernel
theorem d2_36 : decode prog_16_method_5_code 36 = .ok (.daload, 1) := by decide +kernel
theorem d2_37 : decode prog_16_method_5_code 37 = .ok (.aload_n 2, 1) := by decide +kernel
theorem d2_38 : decode prog_16_method_5_code 38 = .ok (.iconst 3, 1) := by decide +kernel
theorem d2_39 : decode prog_16_method_5_code 39 = .ok (.iload_n 3, 1) := by decide +kernel
theorem d2_40 : decode prog_16_method_5_code 40 = .ok (.imul, 1) := by decide +kernel
theorem d2_41 : decode prog_16_method_5_code 41 = .ok (.iconst 2, 1) := by decide +kernel
theorem d2_42 : decode prog_16_method_5_code 42 = .ok (.iadd, 1) := by decide +kernel
theorem d2_43 : decode prog_16_method_5_code 43 = .ok (.daload, 1) := by decide +kernel
theorem d2_44 : decode prog_16_method_5_code 44 = .ok (.dsub, 1) := by decide +kernel
theorem d2_45 : decode prog_16_method_5_code 45 = .ok (.dstore 8, 2) := by decide +kernel
theorem d2_47 : decode prog_16_method_5_code 47 = .ok (.dload 4, 2) := by decide +kernel
theorem d2_49 : decode prog_16_method_5_code 49 = .ok (.dload 4, 2) := by decide +kernel
theorem d2_51 : decode prog_16_method_5_code 51 = .ok (.dmul, 1) := by decide +kernel
theorem d2_52 : decode prog_16_method_5_code 52 = .ok (.dload 6, 2) := by decide +kernel
theorem d2_54 : decode prog_16_method_5_code 54 = .ok (.dload 6, 2) := by decide +kernel
theorem d2_56 : decode prog_16_method_5_code 56 = .ok (.dmul, 1) := by decide +kernel
theorem d2_57 : decode prog_16_method_5_code 57 = .ok (.dadd, 1) := by decide +kernel
theorem d2_58 : decode prog_16_method_5_code 58 = .ok (.dload 8, 2) := by decide +kernel
theorem d2_60 : decode prog_16_method_5_code 60 = .ok (.dload 8, 2) := by decide +kernel
theorem d2_62 : decode prog_16_method_5_code 62 = .ok (.dmul, 1) := by decide +kernel
theorem d2_63 : decode prog_16_method_5_code 63 = .ok (.dadd, 1) := by decide +kernel
theorem d2_64 : decode prog_16_method_5_code 64 = .ok (.dreturn, 1) := by decide +kernel
theorem pn_1 : plainName "org/tertiary/analysis/Superposition" = true := by first | (simp [plainName, overriddenIn]; done) | decide +kernel
theorem ef_c_sd (m : MethodId) (aa : Addr) (p2 : Int32) (bb : Addr) (p4 : Int32) : entryFrame m #[(.ref aa), (.int p2), (.ref bb), (.int p4)] 10 = mkF m 0 #[.val (.ref aa), .val (.int p2), .val (.ref bb), .val (.int p4), .unset, .unset, .unset, .unset, .unset, .unset] [] := by first | (simp [entryFrame, mkF, argsToLocals, Value.category]; done) | rfl
set_option maxRecDepth 65536 in
set_option maxHeartbeats 40000000 in
theorem c_sd (l : Launch) (Z : State) (a0 : Array Value) (hw : ∀ d ∈ tables_1, d.before a0 Z = true) (aa : Addr) (p2 : Int32) (bb : Addr) (p4 : Int32) (h0 : Heap) (n0 : Nat) (Z0 : n0 ≤ h0.size) (va : List Value) (vb : List Value) (ii : Nat) (jj : Nat) (x0 : Int64) (x1 : Int64) (x2 : Int64) (y0 : Int64) (y1 : Int64) (y2 : Int64) (A_aa : Ars Z h0 aa .double va) (A_bb : Ars Z h0 bb .double vb) (hi : p2.toInt = ii) (hi2 : ii ≤ 2) (hj : p4.toInt = jj) (hj2 : jj ≤ 2) (hx0 : va[3 * ii]? = some (.double (FP.l2d x0))) (hy0 : vb[3 * jj]? = some (.double (FP.l2d y0))) (rx0 : own_r x0) (ry0 : own_r y0) (hx1 : va[3 * ii + 1]? = some (.double (FP.l2d x1))) (hy1 : vb[3 * jj + 1]? = some (.double (FP.l2d y1))) (rx1 : own_r x1) (ry1 : own_r y1) (hx2 : va[3 * ii + 2]? = some (.double (FP.l2d x2))) (hy2 : vb[3 * jj + 2]? = some (.double (FP.l2d y2))) (rx2 : own_r x2) (ry2 : own_r y2) :
    Ctr l Z (⟨"org/tertiary/analysis/Superposition", "squaredDistance", "([DI[DI)D"⟩ : MethodName) prog_16_method_5_code 10 (some .double) ({ frames := 0, cells := 0, slots := 0, locals := 0 } : Room) #[(.ref aa), (.int p2), (.ref bb), (.int p4)] h0 (fun v h L => v = some (.double (FP.l2d ((((x0 - y0) * (x0 - y0)) + ((x1 - y1) * (x1 - y1))) + ((x2 - y2) * (x2 - y2))))) ∧ Fr n0 L ∧ h = h0) := by
  refine Ctr.of (plainFor_of_name pn_1) (fun m => ef_c_sd m aa p2 bb p4) ?_
  intro p e s m below meth c T0 hx hby hml hown hnm hret hlk hZ e0 X0
  have N0 := Fr.nil n0
  replace hown : s.vm.findClass "org/tertiary/analysis/Superposition" = some m.cls := hown
  replace hml : c.maxLocals = 10 := hml
  have hi3 := own_3 hi hi2
  have hj3 := own_3 hj hj2
  refine Run.x_aloadN (q := 1) X0 hx (hb hby d2_0) rfl rfl rfl ?_
  refine Run.x_iconst (q := 2) X0 hx (hb hby d2_1) (z := (3 : Int32)) rfl rfl ?_
  refine Run.x_iloadN (q := 3) X0 hx (hb hby d2_2) rfl rfl ?_
  refine Run.x_imul (q := 4) X0 hx (hb hby d2_3) rfl rfl ?_
  refine Run.ldD X0 hx hZ e0 A_aa (i := (3 * ii)) (v := (.double (FP.l2d x0))) hi3.1 hx0 (hb hby d2_4) ?_
  show Run p e below s _ _ _ (T0.setTop (mkF m 5 #[.val (.ref aa), .val (.int p2), .val (.ref bb), .val (.int p4), .unset, .unset, .unset, .unset, .unset, .unset] [(.double (FP.l2d x0))]))
  refine Run.x_aloadN (q := 6) X0 hx (hb hby d2_5) rfl rfl rfl ?_
  refine Run.x_iconst (q := 7) X0 hx (hb hby d2_6) (z := (3 : Int32)) rfl rfl ?_
  refine Run.x_iloadN (q := 8) X0 hx (hb hby d2_7) rfl rfl ?_
  refine Run.x_imul (q := 9) X0 hx (hb hby d2_8) rfl rfl ?_
  refine Run.ldD X0 hx hZ e0 A_bb (i := (3 * jj)) (v := (.double (FP.l2d y0))) hj3.1 hy0 (hb hby d2_9) ?_
  show Run p e below s _ _ _ (T0.setTop (mkF m 10 #[.val (.ref aa), .val (.int p2), .val (.ref bb), .val (.int p4), .unset, .unset, .unset, .unset, .unset, .unset] [(.double (FP.l2d y0)), (.double (FP.l2d x0))]))
  refine Run.st (B := T0.setTop (mkF m 11 #[.val (.ref aa), .val (.int p2), .val (.ref bb), .val (.int p4), .unset, .unset, .unset, .unset, .unset, .unset] [(.double (FP.l2d (x0 - y0)))])) (fun t kt => XS.dsubS X0.here hx rfl (hb hby d2_10) rfl (nn_w (own_sub rx0 ry0)) (own_sub rx0 ry0) kt) ?_
  refine Run.st (B := T0.setTop (mkF m 13 #[.val (.ref aa), .val (.int p2), .val (.ref bb), .val (.int p4), .val (.double (FP.l2d (x0 - y0))), .second, .unset, .unset, .unset, .unset] [])) (fun t kt => XS.dstore X0.here hx rfl (hb hby d2_11) rfl (l' := #[.val (.ref aa), .val (.int p2), .val (.ref bb), .val (.int p4), .val (.double (FP.l2d (x0 - y0))), .second, .unset, .unset, .unset, .unset]) rfl kt) ?_
  refine Run.x_aloadN (q := 14) X0 hx (hb hby d2_13) rfl rfl rfl ?_
  refine Run.x_iconst (q := 15) X0 hx (hb hby d2_14) (z := (3 : Int32)) rfl rfl ?_
  refine Run.x_iloadN (q := 16) X0 hx (hb hby d2_15) rfl rfl ?_
  refine Run.x_imul (q := 17) X0 hx (hb hby d2_16) rfl rfl ?_
  refine Run.x_iconst (q := 18) X0 hx (hb hby d2_17) (z := (1 : Int32)) rfl rfl ?_
  refine Run.x_iadd (q := 19) X0 hx (hb hby d2_18) rfl rfl ?_
  refine Run.ldD X0 hx hZ e0 A_aa (i := (3 * ii + 1)) (v := (.double (FP.l2d x1))) hi3.2.1 hx1 (hb hby d2_19) ?_
  show Run p e below s _ _ _ (T0.setTop (mkF m 20 #[.val (.ref aa), .val (.int p2), .val (.ref bb), .val (.int p4), .val (.double (FP.l2d (x0 - y0))), .second, .unset, .unset, .unset, .unset] [(.double (FP.l2d x1))]))
  refine Run.x_aloadN (q := 21) X0 hx (hb hby d2_20) rfl rfl rfl ?_
  refine Run.x_iconst (q := 22) X0 hx (hb hby d2_21) (z := (3 : Int32)) rfl rfl ?_
  refine Run.x_iloadN (q := 23) X0 hx (hb hby d2_22) rfl rfl ?_
  refine Run.x_imul (q := 24) X0 hx (hb hby d2_23) rfl rfl ?_
  refine Run.x_iconst (q := 25) X0 hx (hb hby d2_24) (z := (1 : Int32)) rfl rfl ?_
  refine Run.x_iadd (q := 26) X0 hx (hb hby d2_25) rfl rfl ?_
  refine Run.ldD X0 hx hZ e0 A_bb (i := (3 * jj + 1)) (v := (.double (FP.l2d y1))) hj3.2.1 hy1 (hb hby d2_26) ?_
  show Run p e below s _ _ _ (T0.setTop (mkF m 27 #[.val (.ref aa), .val (.int p2), .val (.ref bb), .val (.int p4), .val (.double (FP.l2d (x0 - y0))), .second, .unset, .unset, .unset, .unset] [(.double (FP.l2d y1)), (.double (FP.l2d x1))]))
  refine Run.st (B := T0.setTop (mkF m 28 #[.val (.ref aa), .val (.int p2), .val (.ref bb), .val (.int p4), .val (.double (FP.l2d (x0 - y0))), .second, .unset, .unset, .unset, .unset] [(.double (FP.l2d (x1 - y1)))])) (fun t kt => XS.dsubS X0.here hx rfl (hb hby d2_27) rfl (nn_w (own_sub rx1 ry1)) (own_sub rx1 ry1) kt) ?_
  refine Run.st (B := T0.setTop (mkF m 30 #[.val (.ref aa), .val (.int p2), .val (.ref bb), .val (.int p4), .val (.double (FP.l2d (x0 - y0))), .second, .val (.double (FP.l2d (x1 - y1))), .second, .unset, .unset] [])) (fun t kt => XS.dstore X0.here hx rfl (hb hby d2_28) rfl (l' := #[.val (.ref aa), .val (.int p2), .val (.ref bb), .val (.int p4), .val (.double (FP.l2d (x0 - y0))), .second, .val (.double (FP.l2d (x1 - y1))), .second, .unset, .unset]) rfl kt) ?_
  refine Run.x_aloadN (q := 31) X0 hx (hb hby d2_30) rfl rfl rfl ?_
  refine Run.x_iconst (q := 32) X0 hx (hb hby d2_31) (z := (3 : Int32)) rfl rfl ?_
  refine Run.x_iloadN (q := 33) X0 hx (hb hby d2_32) rfl rfl ?_
  refine Run.x_imul (q := 34) X0 hx (hb hby d2_33) rfl rfl ?_
  refine Run.x_iconst (q := 35) X0 hx (hb hby d2_34) (z := (2 : Int32)) rfl rfl ?_
  refine Run.x_iadd (q := 36) X0 hx (hb hby d2_35) rfl rfl ?_
  refine Run.ldD X0 hx hZ e0 A_aa (i := (3 * ii + 2)) (v := (.double (FP.l2d x2))) hi3.2.2 hx2 (hb hby d2_36) ?_
  show Run p e below s _ _ _ (T0.setTop (mkF m 37 #[.val (.ref aa), .val (.int p2), .val (.ref bb), .val (.int p4), .val (.double (FP.l2d (x0 - y0))), .second, .val (.double (FP.l2d (x1 - y1))), .second, .unset, .unset] [(.double (FP.l2d x2))]))
  refine Run.x_aloadN (q := 38) X0 hx (hb hby d2_37) rfl rfl rfl ?_
  refine Run.x_iconst (q := 39) X0 hx (hb hby d2_38) (z := (3 : Int32)) rfl rfl ?_
  refine Run.x_iloadN (q := 40) X0 hx (hb hby d2_39) rfl rfl ?_
  refine Run.x_imul (q := 41) X0 hx (hb hby d2_40) rfl rfl ?_
  refine Run.x_iconst (q := 42) X0 hx (hb hby d2_41) (z := (2 : Int32)) rfl rfl ?_
  refine Run.x_iadd (q := 43) X0 hx (hb hby d2_42) rfl rfl ?_
  refine Run.ldD X0 hx hZ e0 A_bb (i := (3 * jj + 2)) (v := (.double (FP.l2d y2))) hj3.2.2 hy2 (hb hby d2_43) ?_
  show Run p e below s _ _ _ (T0.setTop (mkF m 44 #[.val (.ref aa), .val (.int p2), .val (.ref bb), .val (.int p4), .val (.double (FP.l2d (x0 - y0))), .second, .val (.double (FP.l2d (x1 - y1))), .second, .unset, .unset] [(.double (FP.l2d y2)), (.double (FP.l2d x2))]))
  refine Run.st (B := T0.setTop (mkF m 45 #[.val (.ref aa), .val (.int p2), .val (.ref bb), .val (.int p4), .val (.double (FP.l2d (x0 - y0))), .second, .val (.double (FP.l2d (x1 - y1))), .second, .unset, .unset] [(.double (FP.l2d (x2 - y2)))])) (fun t kt => XS.dsubS X0.here hx rfl (hb hby d2_44) rfl (nn_w (own_sub rx2 ry2)) (own_sub rx2 ry2) kt) ?_
  refine Run.st (B := T0.setTop (mkF m 47 #[.val (.ref aa), .val (.int p2), .val (.ref bb), .val (.int p4), .val (.double (FP.l2d (x0 - y0))), .second, .val (.double (FP.l2d (x1 - y1))), .second, .val (.double (FP.l2d (x2 - y2))), .second] [])) (fun t kt => XS.dstore X0.here hx rfl (hb hby d2_45) rfl (l' := #[.val (.ref aa), .val (.int p2), .val (.ref bb), .val (.int p4), .val (.double (FP.l2d (x0 - y0))), .second, .val (.double (FP.l2d (x1 - y1))), .second, .val (.double (FP.l2d (x2 - y2))), .second]) rfl kt) ?_
  refine Run.st (B := T0.setTop (mkF m 49 #[.val (.ref aa), .val (.int p2), .val (.ref bb), .val (.int p4), .val (.double (FP.l2d (x0 - y0))), .second, .val (.double (FP.l2d (x1 - y1))), .second, .val (.double (FP.l2d (x2 - y2))), .second] [(.double (FP.l2d (x0 - y0)))])) (fun t kt => XS.dload X0.here hx rfl (hb hby d2_47) rfl kt) ?_
  refine Run.st (B := T0.setTop (mkF m 51 #[.val (.ref aa), .val (.int p2), .val (.ref bb), .val (.int p4), .val (.double (FP.l2d (x0 - y0))), .second, .val (.double (FP.l2d (x1 - y1))), .second, .val (.double (FP.l2d (x2 - y2))), .second] [(.double (FP.l2d (x0 - y0))), (.double (FP.l2d (x0 - y0)))])) (fun t kt => XS.dload X0.here hx rfl (hb hby d2_49) rfl kt) ?_
  refine Run.st (B := T0.setTop (mkF m 52 #[.val (.ref aa), .val (.int p2), .val (.ref bb), .val (.int p4), .val (.double (FP.l2d (x0 - y0))), .second, .val (.double (FP.l2d (x1 - y1))), .second, .val (.double (FP.l2d (x2 - y2))), .second] [(.double (FP.l2d ((x0 - y0) * (x0 - y0))))])) (fun t kt => XS.dmulS X0.here hx rfl (hb hby d2_51) rfl (nn_w (own_mul (own_dif rx0 ry0).2)) (own_mul (own_dif rx0 ry0).2) kt) ?_
  refine Run.st (B := T0.setTop (mkF m 54 #[.val (.ref aa), .val (.int p2), .val (.ref bb), .val (.int p4), .val (.double (FP.l2d (x0 - y0))), .second, .val (.double (FP.l2d (x1 - y1))), .second, .val (.double (FP.l2d (x2 - y2))), .second] [(.double (FP.l2d (x1 - y1))), (.double (FP.l2d ((x0 - y0) * (x0 - y0))))])) (fun t kt => XS.dload X0.here hx rfl (hb hby d2_52) rfl kt) ?_
  refine Run.st (B := T0.setTop (mkF m 56 #[.val (.ref aa), .val (.int p2), .val (.ref bb), .val (.int p4), .val (.double (FP.l2d (x0 - y0))), .second, .val (.double (FP.l2d (x1 - y1))), .second, .val (.double (FP.l2d (x2 - y2))), .second] [(.double (FP.l2d (x1 - y1))), (.double (FP.l2d (x1 - y1))), (.double (FP.l2d ((x0 - y0) * (x0 - y0))))])) (fun t kt => XS.dload X0.here hx rfl (hb hby d2_54) rfl kt) ?_
  refine Run.st (B := T0.setTop (mkF m 57 #[.val (.ref aa), .val (.int p2), .val (.ref bb), .val (.int p4), .val (.double (FP.l2d (x0 - y0))), .second, .val (.double (FP.l2d (x1 - y1))), .second, .val (.double (FP.l2d (x2 - y2))), .second] [(.double (FP.l2d ((x1 - y1) * (x1 - y1)))), (.double (FP.l2d ((x0 - y0) * (x0 - y0))))])) (fun t kt => XS.dmulS X0.here hx rfl (hb hby d2_56) rfl (nn_w (own_mul (own_dif rx1 ry1).2)) (own_mul (own_dif rx1 ry1).2) kt) ?_
  refine Run.st (B := T0.setTop (mkF m 58 #[.val (.ref aa), .val (.int p2), .val (.ref bb), .val (.int p4), .val (.double (FP.l2d (x0 - y0))), .second, .val (.double (FP.l2d (x1 - y1))), .second, .val (.double (FP.l2d (x2 - y2))), .second] [(.double (FP.l2d (((x0 - y0) * (x0 - y0)) + ((x1 - y1) * (x1 - y1)))))])) (fun t kt => XS.daddS X0.here hx rfl (hb hby d2_57) rfl (nn_w (own_add (a := 1) (b := 1) (by decide) (by decide) (own_sqp (own_dif rx0 ry0).2) (own_sqp (own_dif rx1 ry1).2))) (own_add (a := 1) (b := 1) (by decide) (by decide) (own_sqp (own_dif rx0 ry0).2) (own_sqp (own_dif rx1 ry1).2)) kt) ?_
  refine Run.st (B := T0.setTop (mkF m 60 #[.val (.ref aa), .val (.int p2), .val (.ref bb), .val (.int p4), .val (.double (FP.l2d (x0 - y0))), .second, .val (.double (FP.l2d (x1 - y1))), .second, .val (.double (FP.l2d (x2 - y2))), .second] [(.double (FP.l2d (x2 - y2))), (.double (FP.l2d (((x0 - y0) * (x0 - y0)) + ((x1 - y1) * (x1 - y1)))))])) (fun t kt => XS.dload X0.here hx rfl (hb hby d2_58) rfl kt) ?_
  refine Run.st (B := T0.setTop (mkF m 62 #[.val (.ref aa), .val (.int p2), .val (.ref bb), .val (.int p4), .val (.double (FP.l2d (x0 - y0))), .second, .val (.double (FP.l2d (x1 - y1))), .second, .val (.double (FP.l2d (x2 - y2))), .second] [(.double (FP.l2d (x2 - y2))), (.double (FP.l2d (x2 - y2))), (.double (FP.l2d (((x0 - y0) * (x0 - y0)) + ((x1 - y1) * (x1 - y1)))))])) (fun t kt => XS.dload X0.here hx rfl (hb hby d2_60) rfl kt) ?_
  refine Run.st (B := T0.setTop (mkF m 63 #[.val (.ref aa), .val (.int p2), .val (.ref bb), .val (.int p4), .val (.double (FP.l2d (x0 - y0))), .second, .val (.double (FP.l2d (x1 - y1))), .second, .val (.double (FP.l2d (x2 - y2))), .second] [(.double (FP.l2d ((x2 - y2) * (x2 - y2)))), (.double (FP.l2d (((x0 - y0) * (x0 - y0)) + ((x1 - y1) * (x1 - y1)))))])) (fun t kt => XS.dmulS X0.here hx rfl (hb hby d2_62) rfl (nn_w (own_mul (own_dif rx2 ry2).2)) (own_mul (own_dif rx2 ry2).2) kt) ?_
  refine Run.st (B := T0.setTop (mkF m 64 #[.val (.ref aa), .val (.int p2), .val (.ref bb), .val (.int p4), .val (.double (FP.l2d (x0 - y0))), .second, .val (.double (FP.l2d (x1 - y1))), .second, .val (.double (FP.l2d (x2 - y2))), .second] [(.double (FP.l2d ((((x0 - y0) * (x0 - y0)) + ((x1 - y1) * (x1 - y1))) + ((x2 - y2) * (x2 - y2)))))])) (fun t kt => XS.daddS X0.here hx rfl (hb hby d2_63) rfl (nn_w (own_add (a := 1 + 1) (b := 1) (by decide) (by decide) (own_addp (by decide) (by decide) (own_sqp (own_dif rx0 ry0).2) (own_sqp (own_dif rx1 ry1).2)) (own_sqp (own_dif rx2 ry2).2))) (own_add (a := 1 + 1) (b := 1) (by decide) (by decide) (own_addp (by decide) (by decide) (own_sqp (own_dif rx0 ry0).2) (own_sqp (own_dif rx1 ry1).2)) (own_sqp (own_dif rx2 ry2).2)) kt) ?_
  refine Run.retD X0 hx hlk e0 hret (hb hby d2_64) (by decide) (by decide) ?_
  exact ⟨rfl, N0, rfl⟩
theorem ef_c_law (m : MethodId) (p1 : Int32) (p2 : Int32) (p3 : Int32) (p4 : Int32) (p5 : Int32) (p6 : Int32) : entryFrame m #[(.int p1), (.int p2), (.int p3), (.int p4), (.int p5), (.int p6)] maxLocals = mkF m 0 #[.val (.int p1), .val (.int p2), .val (.int p3), .val (.int p4), .val (.int p5), .val (.int p6), .unset, .unset, .unset, .unset, .unset, .unset, .unset, .unset, .unset, .unset, .unset, .unset, .unset, .unset, .unset, .unset, .unset, .unset, .unset, .unset, .unset, .unset, .unset, .unset, .unset, .unset, .unset, .unset, .unset, .unset] [] := by first | (simp [entryFrame, mkF, argsToLocals, Value.category, maxLocals]; done) | rfl
theorem pd_0 : parseMethodDescriptor "(I)J" = some ⟨[.int], some .long⟩ := by decide +kernel
theorem pd_1 : parseMethodDescriptor "([DI[DI)D" = some ⟨[(.array .double), .int, (.array .double), .int], some .double⟩ := by decide +kernel
set_option maxRecDepth 65536 in
set_option maxHeartbeats 40000000 in
theorem c_law (l : Launch) (Z : State) (a0 : Array Value) (hw : ∀ d ∈ tables_1, d.before a0 Z = true) (p1 : Int32) (p2 : Int32) (p3 : Int32) (p4 : Int32) (p5 : Int32) (p6 : Int32) (h0 : Heap) (n0 : Nat) (Z0 : n0 ≤ h0.size)  :
    Ctr l Z x code maxLocals ret room_1 #[(.int p1), (.int p2), (.int p3), (.int p4), (.int p5), (.int p6)] h0 (Tru n0) := by
  refine Ctr.of (plainFor_of_name pn_0) (fun m => ef_c_law m p1 p2 p3 p4 p5 p6) ?_
  intro p e s m below meth c T0 hx hby hml hown hnm hret hlk hZ e0 X0
  have N0 := Fr.nil n0
  replace hown : s.vm.findClass "org/tertiary/analysis/SuperpositionSquaredDistancePinLaw" = some m.cls := hown
  replace hml : c.maxLocals = 36 := hml
  refine Run.x_iloadN (q := 1) X0 hx (hb hby at_0) rfl rfl ?_
  refine Run.x_bipush (q := 3) X0 hx (hb hby at_1) (z := (25 : Int32)) rfl rfl ?_
  refine Run.x_iushr (q := 4) X0 hx (hb hby at_3) rfl rfl ?_
  refine Run.x_iconst (q := 5) X0 hx (hb hby at_4) (z := (3 : Int32)) rfl rfl ?_
  refine Run.x_iand (q := 6) X0 hx (hb hby at_5) rfl rfl ?_
  refine Run.x_iconst (q := 7) X0 hx (hb hby at_6) (z := (3 : Int32)) rfl rfl ?_
  refine Run.x_irem (q := 8) X0 hx (hb hby at_7) (by decide) rfl rfl ?_
  refine Run.x_istore (q := 10) X0 hx #[.val (.int p1), .val (.int p2), .val (.int p3), .val (.int p4), .val (.int p5), .val (.int p6), .val (.int ((((p1.toUInt32 >>> ((25 : Int32) &&& 31).toUInt32).toInt32) &&& (3 : Int32)) % (3 : Int32))), .unset, .unset, .unset, .unset, .unset, .unset, .unset, .unset, .unset, .unset, .unset, .unset, .unset, .unset, .unset, .unset, .unset, .unset, .unset, .unset, .unset, .unset, .unset, .unset, .unset, .unset, .unset, .unset, .unset] (hb hby at_8) rfl rfl ?_
  generalize hvi : ((((p1.toUInt32 >>> ((25 : Int32) &&& 31).toUInt32).toInt32) &&& (3 : Int32)) % (3 : Int32)) = vi
  refine Run.x_iloadN (q := 11) X0 hx (hb hby at_10) rfl rfl ?_
  refine Run.x_bipush (q := 13) X0 hx (hb hby at_11) (z := (25 : Int32)) rfl rfl ?_
  refine Run.x_iushr (q := 14) X0 hx (hb hby at_13) rfl rfl ?_
  refine Run.x_iconst (q := 15) X0 hx (hb hby at_14) (z := (3 : Int32)) rfl rfl ?_
  refine Run.x_iand (q := 16) X0 hx (hb hby at_15) rfl rfl ?_
  refine Run.x_iconst (q := 17) X0 hx (hb hby at_16) (z := (3 : Int32)) rfl rfl ?_
  refine Run.x_irem (q := 18) X0 hx (hb hby at_17) (by decide) rfl rfl ?_
  refine Run.x_istore (q := 20) X0 hx #[.val (.int p1), .val (.int p2), .val (.int p3), .val (.int p4), .val (.int p5), .val (.int p6), .val (.int vi), .val (.int ((((p4.toUInt32 >>> ((25 : Int32) &&& 31).toUInt32).toInt32) &&& (3 : Int32)) % (3 : Int32))), .unset, .unset, .unset, .unset, .unset, .unset, .unset, .unset, .unset, .unset, .unset, .unset, .unset, .unset, .unset, .unset, .unset, .unset, .unset, .unset, .unset, .unset, .unset, .unset, .unset, .unset, .unset, .unset] (hb hby at_18) rfl rfl ?_
  generalize hvj : ((((p4.toUInt32 >>> ((25 : Int32) &&& 31).toUInt32).toInt32) &&& (3 : Int32)) % (3 : Int32)) = vj
  refine Run.x_iloadN (q := 21) X0 hx (hb hby at_20) rfl rfl ?_
  refine Run.callS X0 hx hZ e0 (y := (⟨"org/tertiary/analysis/SuperpositionSquaredDistancePinLaw", "coord", "(I)J"⟩ : MethodName)) hown (hw _ (List.mem_of_getElem? (i := 0) rfl)) (hw _ (List.mem_of_getElem? (i := 1) rfl)) (hw _ (List.mem_of_getElem? (i := 2) rfl)) (hw _ (List.mem_of_getElem? (i := 3) rfl)) (by decide) (argsL := [(.int p1)]) (rest := []) (c_coord l Z a0 hw p1 h0 n0 Z0) pd_0 rfl (by rw [hml]; rfl) (W := 0) rfl (by decide) (by decide) (by decide) (by decide) (hb hby at_21) rfl ?_
  intro T1 v1 L1 X1 q1
  obtain ⟨z1, rfl, M1, e1, hz1⟩ := q1
  have N1 := Fr.app N0 M1
  show Run p e below s _ _ _ (T1.setTop (mkF m 24 #[.val (.int p1), .val (.int p2), .val (.int p3), .val (.int p4), .val (.int p5), .val (.int p6), .val (.int vi), .val (.int vj), .unset, .unset, .unset, .unset, .unset, .unset, .unset, .unset, .unset, .unset, .unset, .unset, .unset, .unset, .unset, .unset, .unset, .unset, .unset, .unset, .unset, .unset, .unset, .unset, .unset, .unset, .unset, .unset] [(.long z1)]))
  refine Run.x_lstore (q := 26) X1 hx #[.val (.int p1), .val (.int p2), .val (.int p3), .val (.int p4), .val (.int p5), .val (.int p6), .val (.int vi), .val (.int vj), .val (.long z1), .second, .unset, .unset, .unset, .unset, .unset, .unset, .unset, .unset, .unset, .unset, .unset, .unset, .unset, .unset, .unset, .unset, .unset, .unset, .unset, .unset, .unset, .unset, .unset, .unset, .unset, .unset] (hb hby at_24) rfl rfl ?_
  refine Run.x_iloadN (q := 27) X1 hx (hb hby at_26) rfl rfl ?_
  refine Run.callS X1 hx hZ e1 (y := (⟨"org/tertiary/analysis/SuperpositionSquaredDistancePinLaw", "coord", "(I)J"⟩ : MethodName)) hown (hw _ (List.mem_of_getElem? (i := 0) rfl)) (hw _ (List.mem_of_getElem? (i := 1) rfl)) (hw _ (List.mem_of_getElem? (i := 2) rfl)) (hw _ (List.mem_of_getElem? (i := 3) rfl)) (by decide) (argsL := [(.int p2)]) (rest := []) (c_coord l Z a0 hw p2 h0 n0 Z0) pd_0 rfl (by rw [hml]; rfl) (W := 0) rfl (by decide) (by decide) (by decide) (by decide) (hb hby at_27) rfl ?_
  intro T2 v2 L2 X2 q2
  obtain ⟨z2, rfl, M2, e2, hz2⟩ := q2
  have N2 := Fr.app N1 M2
  show Run p e below s _ _ _ (T2.setTop (mkF m 30 #[.val (.int p1), .val (.int p2), .val (.int p3), .val (.int p4), .val (.int p5), .val (.int p6), .val (.int vi), .val (.int vj), .val (.long z1), .second, .unset, .unset, .unset, .unset, .unset, .unset, .unset, .unset, .unset, .unset, .unset, .unset, .unset, .unset, .unset, .unset, .unset, .unset, .unset, .unset, .unset, .unset, .unset, .unset, .unset, .unset] [(.long z2)]))
  refine Run.x_lstore (q := 32) X2 hx #[.val (.int p1), .val (.int p2), .val (.int p3), .val (.int p4), .val (.int p5), .val (.int p6), .val (.int vi), .val (.int vj), .val (.long z1), .second, .val (.long z2), .second, .unset, .unset, .unset, .unset, .unset, .unset, .unset, .unset, .unset, .unset, .unset, .unset, .unset, .unset, .unset, .unset, .unset, .unset, .unset, .unset, .unset, .unset, .unset, .unset] (hb hby at_30) rfl rfl ?_
  refine Run.x_iloadN (q := 33) X2 hx (hb hby at_32) rfl rfl ?_
  refine Run.callS X2 hx hZ e2 (y := (⟨"org/tertiary/analysis/SuperpositionSquaredDistancePinLaw", "coord", "(I)J"⟩ : MethodName)) hown (hw _ (List.mem_of_getElem? (i := 0) rfl)) (hw _ (List.mem_of_getElem? (i := 1) rfl)) (hw _ (List.mem_of_getElem? (i := 2) rfl)) (hw _ (List.mem_of_getElem? (i := 3) rfl)) (by decide) (argsL := [(.int p3)]) (rest := []) (c_coord l Z a0 hw p3 h0 n0 Z0) pd_0 rfl (by rw [hml]; rfl) (W := 0) rfl (by decide) (by decide) (by decide) (by decide) (hb hby at_33) rfl ?_
  intro T3 v3 L3 X3 q3
  obtain ⟨z3, rfl, M3, e3, hz3⟩ := q3
  have N3 := Fr.app N2 M3
  show Run p e below s _ _ _ (T3.setTop (mkF m 36 #[.val (.int p1), .val (.int p2), .val (.int p3), .val (.int p4), .val (.int p5), .val (.int p6), .val (.int vi), .val (.int vj), .val (.long z1), .second, .val (.long z2), .second, .unset, .unset, .unset, .unset, .unset, .unset, .unset, .unset, .unset, .unset, .unset, .unset, .unset, .unset, .unset, .unset, .unset, .unset, .unset, .unset, .unset, .unset, .unset, .unset] [(.long z3)]))
  refine Run.x_lstore (q := 38) X3 hx #[.val (.int p1), .val (.int p2), .val (.int p3), .val (.int p4), .val (.int p5), .val (.int p6), .val (.int vi), .val (.int vj), .val (.long z1), .second, .val (.long z2), .second, .val (.long z3), .second, .unset, .unset, .unset, .unset, .unset, .unset, .unset, .unset, .unset, .unset, .unset, .unset, .unset, .unset, .unset, .unset, .unset, .unset, .unset, .unset, .unset, .unset] (hb hby at_36) rfl rfl ?_
  refine Run.x_iloadN (q := 39) X3 hx (hb hby at_38) rfl rfl ?_
  refine Run.callS X3 hx hZ e3 (y := (⟨"org/tertiary/analysis/SuperpositionSquaredDistancePinLaw", "coord", "(I)J"⟩ : MethodName)) hown (hw _ (List.mem_of_getElem? (i := 0) rfl)) (hw _ (List.mem_of_getElem? (i := 1) rfl)) (hw _ (List.mem_of_getElem? (i := 2) rfl)) (hw _ (List.mem_of_getElem? (i := 3) rfl)) (by decide) (argsL := [(.int p4)]) (rest := []) (c_coord l Z a0 hw p4 h0 n0 Z0) pd_0 rfl (by rw [hml]; rfl) (W := 0) rfl (by decide) (by decide) (by decide) (by decide) (hb hby at_39) rfl ?_
  intro T4 v4 L4 X4 q4
  obtain ⟨z4, rfl, M4, e4, hz4⟩ := q4
  have N4 := Fr.app N3 M4
  show Run p e below s _ _ _ (T4.setTop (mkF m 42 #[.val (.int p1), .val (.int p2), .val (.int p3), .val (.int p4), .val (.int p5), .val (.int p6), .val (.int vi), .val (.int vj), .val (.long z1), .second, .val (.long z2), .second, .val (.long z3), .second, .unset, .unset, .unset, .unset, .unset, .unset, .unset, .unset, .unset, .unset, .unset, .unset, .unset, .unset, .unset, .unset, .unset, .unset, .unset, .unset, .unset, .unset] [(.long z4)]))
  refine Run.x_lstore (q := 44) X4 hx #[.val (.int p1), .val (.int p2), .val (.int p3), .val (.int p4), .val (.int p5), .val (.int p6), .val (.int vi), .val (.int vj), .val (.long z1), .second, .val (.long z2), .second, .val (.long z3), .second, .val (.long z4), .second, .unset, .unset, .unset, .unset, .unset, .unset, .unset, .unset, .unset, .unset, .unset, .unset, .unset, .unset, .unset, .unset, .unset, .unset, .unset, .unset] (hb hby at_42) rfl rfl ?_
  refine Run.x_iload (q := 46) X4 hx (hb hby at_44) rfl rfl ?_
  refine Run.callS X4 hx hZ e4 (y := (⟨"org/tertiary/analysis/SuperpositionSquaredDistancePinLaw", "coord", "(I)J"⟩ : MethodName)) hown (hw _ (List.mem_of_getElem? (i := 0) rfl)) (hw _ (List.mem_of_getElem? (i := 1) rfl)) (hw _ (List.mem_of_getElem? (i := 2) rfl)) (hw _ (List.mem_of_getElem? (i := 3) rfl)) (by decide) (argsL := [(.int p5)]) (rest := []) (c_coord l Z a0 hw p5 h0 n0 Z0) pd_0 rfl (by rw [hml]; rfl) (W := 0) rfl (by decide) (by decide) (by decide) (by decide) (hb hby at_46) rfl ?_
  intro T5 v5 L5 X5 q5
  obtain ⟨z5, rfl, M5, e5, hz5⟩ := q5
  have N5 := Fr.app N4 M5
  show Run p e below s _ _ _ (T5.setTop (mkF m 49 #[.val (.int p1), .val (.int p2), .val (.int p3), .val (.int p4), .val (.int p5), .val (.int p6), .val (.int vi), .val (.int vj), .val (.long z1), .second, .val (.long z2), .second, .val (.long z3), .second, .val (.long z4), .second, .unset, .unset, .unset, .unset, .unset, .unset, .unset, .unset, .unset, .unset, .unset, .unset, .unset, .unset, .unset, .unset, .unset, .unset, .unset, .unset] [(.long z5)]))
  refine Run.x_lstore (q := 51) X5 hx #[.val (.int p1), .val (.int p2), .val (.int p3), .val (.int p4), .val (.int p5), .val (.int p6), .val (.int vi), .val (.int vj), .val (.long z1), .second, .val (.long z2), .second, .val (.long z3), .second, .val (.long z4), .second, .val (.long z5), .second, .unset, .unset, .unset, .unset, .unset, .unset, .unset, .unset, .unset, .unset, .unset, .unset, .unset, .unset, .unset, .unset, .unset, .unset] (hb hby at_49) rfl rfl ?_
  refine Run.x_iload (q := 53) X5 hx (hb hby at_51) rfl rfl ?_
  refine Run.callS X5 hx hZ e5 (y := (⟨"org/tertiary/analysis/SuperpositionSquaredDistancePinLaw", "coord", "(I)J"⟩ : MethodName)) hown (hw _ (List.mem_of_getElem? (i := 0) rfl)) (hw _ (List.mem_of_getElem? (i := 1) rfl)) (hw _ (List.mem_of_getElem? (i := 2) rfl)) (hw _ (List.mem_of_getElem? (i := 3) rfl)) (by decide) (argsL := [(.int p6)]) (rest := []) (c_coord l Z a0 hw p6 h0 n0 Z0) pd_0 rfl (by rw [hml]; rfl) (W := 0) rfl (by decide) (by decide) (by decide) (by decide) (hb hby at_53) rfl ?_
  intro T6 v6 L6 X6 q6
  obtain ⟨z6, rfl, M6, e6, hz6⟩ := q6
  have N6 := Fr.app N5 M6
  show Run p e below s _ _ _ (T6.setTop (mkF m 56 #[.val (.int p1), .val (.int p2), .val (.int p3), .val (.int p4), .val (.int p5), .val (.int p6), .val (.int vi), .val (.int vj), .val (.long z1), .second, .val (.long z2), .second, .val (.long z3), .second, .val (.long z4), .second, .val (.long z5), .second, .unset, .unset, .unset, .unset, .unset, .unset, .unset, .unset, .unset, .unset, .unset, .unset, .unset, .unset, .unset, .unset, .unset, .unset] [(.long z6)]))
  refine Run.x_lstore (q := 58) X6 hx #[.val (.int p1), .val (.int p2), .val (.int p3), .val (.int p4), .val (.int p5), .val (.int p6), .val (.int vi), .val (.int vj), .val (.long z1), .second, .val (.long z2), .second, .val (.long z3), .second, .val (.long z4), .second, .val (.long z5), .second, .val (.long z6), .second, .unset, .unset, .unset, .unset, .unset, .unset, .unset, .unset, .unset, .unset, .unset, .unset, .unset, .unset, .unset, .unset] (hb hby at_56) rfl rfl ?_
  refine Run.st (B := T6.setTop (mkF m 61 #[.val (.int p1), .val (.int p2), .val (.int p3), .val (.int p4), .val (.int p5), .val (.int p6), .val (.int vi), .val (.int vj), .val (.long z1), .second, .val (.long z2), .second, .val (.long z3), .second, .val (.long z4), .second, .val (.long z5), .second, .val (.long z6), .second, .unset, .unset, .unset, .unset, .unset, .unset, .unset, .unset, .unset, .unset, .unset, .unset, .unset, .unset, .unset, .unset] [(.double (4741671816366391296 : UInt64))])) (fun t kt => X6.ldc2DoubleC hx hown (mvT hZ (hw _ (List.mem_of_getElem? (i := 4) rfl))) (g := (mkF m 58 #[.val (.int p1), .val (.int p2), .val (.int p3), .val (.int p4), .val (.int p5), .val (.int p6), .val (.int vi), .val (.int vj), .val (.long z1), .second, .val (.long z2), .second, .val (.long z3), .second, .val (.long z4), .second, .val (.long z5), .second, .val (.long z6), .second, .unset, .unset, .unset, .unset, .unset, .unset, .unset, .unset, .unset, .unset, .unset, .unset, .unset, .unset, .unset, .unset] [])) rfl (hb hby at_58) _ kt) ?_
  refine Run.st (B := T6.setTop (mkF m 63 #[.val (.int p1), .val (.int p2), .val (.int p3), .val (.int p4), .val (.int p5), .val (.int p6), .val (.int vi), .val (.int vj), .val (.long z1), .second, .val (.long z2), .second, .val (.long z3), .second, .val (.long z4), .second, .val (.long z5), .second, .val (.long z6), .second, .val (.double (4741671816366391296 : UInt64)), .second, .unset, .unset, .unset, .unset, .unset, .unset, .unset, .unset, .unset, .unset, .unset, .unset, .unset, .unset] [])) (fun t kt => XS.dstore X6.here hx rfl (hb hby at_61) rfl (l' := #[.val (.int p1), .val (.int p2), .val (.int p3), .val (.int p4), .val (.int p5), .val (.int p6), .val (.int vi), .val (.int vj), .val (.long z1), .second, .val (.long z2), .second, .val (.long z3), .second, .val (.long z4), .second, .val (.long z5), .second, .val (.long z6), .second, .val (.double (4741671816366391296 : UInt64)), .second, .unset, .unset, .unset, .unset, .unset, .unset, .unset, .unset, .unset, .unset, .unset, .unset, .unset, .unset]) rfl kt) ?_
  refine Run.st (B := T6.setTop (mkF m 66 #[.val (.int p1), .val (.int p2), .val (.int p3), .val (.int p4), .val (.int p5), .val (.int p6), .val (.int vi), .val (.int vj), .val (.long z1), .second, .val (.long z2), .second, .val (.long z3), .second, .val (.long z4), .second, .val (.long z5), .second, .val (.long z6), .second, .val (.double (4741671816366391296 : UInt64)), .second, .unset, .unset, .unset, .unset, .unset, .unset, .unset, .unset, .unset, .unset, .unset, .unset, .unset, .unset] [(.double (13965043853221167104 : UInt64))])) (fun t kt => X6.ldc2DoubleC hx hown (mvT hZ (hw _ (List.mem_of_getElem? (i := 5) rfl))) (g := (mkF m 63 #[.val (.int p1), .val (.int p2), .val (.int p3), .val (.int p4), .val (.int p5), .val (.int p6), .val (.int vi), .val (.int vj), .val (.long z1), .second, .val (.long z2), .second, .val (.long z3), .second, .val (.long z4), .second, .val (.long z5), .second, .val (.long z6), .second, .val (.double (4741671816366391296 : UInt64)), .second, .unset, .unset, .unset, .unset, .unset, .unset, .unset, .unset, .unset, .unset, .unset, .unset, .unset, .unset] [])) rfl (hb hby at_63) _ kt) ?_
  refine Run.st (B := T6.setTop (mkF m 68 #[.val (.int p1), .val (.int p2), .val (.int p3), .val (.int p4), .val (.int p5), .val (.int p6), .val (.int vi), .val (.int vj), .val (.long z1), .second, .val (.long z2), .second, .val (.long z3), .second, .val (.long z4), .second, .val (.long z5), .second, .val (.long z6), .second, .val (.double (4741671816366391296 : UInt64)), .second, .val (.double (13965043853221167104 : UInt64)), .second, .unset, .unset, .unset, .unset, .unset, .unset, .unset, .unset, .unset, .unset, .unset, .unset] [])) (fun t kt => XS.dstore X6.here hx rfl (hb hby at_66) rfl (l' := #[.val (.int p1), .val (.int p2), .val (.int p3), .val (.int p4), .val (.int p5), .val (.int p6), .val (.int vi), .val (.int vj), .val (.long z1), .second, .val (.long z2), .second, .val (.long z3), .second, .val (.long z4), .second, .val (.long z5), .second, .val (.long z6), .second, .val (.double (4741671816366391296 : UInt64)), .second, .val (.double (13965043853221167104 : UInt64)), .second, .unset, .unset, .unset, .unset, .unset, .unset, .unset, .unset, .unset, .unset, .unset, .unset]) rfl kt) ?_
  refine Run.x_bipush (q := 70) X6 hx (hb hby at_68) (z := (9 : Int32)) rfl rfl ?_
  refine Run.newP X6 hx hZ e6 (hw _ (List.mem_of_getElem? (i := 6) rfl)) (hb hby at_70) (len := 9) (by decide) (by decide) (cap := 9) (by decide) (by decide) (by decide) (by decide) ?_
  intro T7 h7 b7 gg7 X7 e7 E7 A_b7
  have g_b7 : n0 ≤ b7 := Nat.le_trans Z0 (Nat.le_of_eq gg7.symm)
  have Z7 : n0 ≤ h7.size := Nat.le_trans Z0 E7.1
  replace A_b7 : Ars Z h7 b7 .double [(.double 0), (.double 0), (.double 0), (.double 0), (.double 0), (.double 0), (.double 0), (.double 0), (.double 0)] := A_b7
  show Run p e below s _ _ _ (T7.setTop (mkF m 72 #[.val (.int p1), .val (.int p2), .val (.int p3), .val (.int p4), .val (.int p5), .val (.int p6), .val (.int vi), .val (.int vj), .val (.long z1), .second, .val (.long z2), .second, .val (.long z3), .second, .val (.long z4), .second, .val (.long z5), .second, .val (.long z6), .second, .val (.double (4741671816366391296 : UInt64)), .second, .val (.double (13965043853221167104 : UInt64)), .second, .unset, .unset, .unset, .unset, .unset, .unset, .unset, .unset, .unset, .unset, .unset, .unset] [(.ref b7)]))
  refine Run.x_dup (q := 73) X7 hx (hb hby at_72) rfl rfl ?_
  refine Run.x_iconst (q := 74) X7 hx (hb hby at_73) (z := (0 : Int32)) rfl rfl ?_
  refine Run.st (B := T7.setTop (mkF m 76 #[.val (.int p1), .val (.int p2), .val (.int p3), .val (.int p4), .val (.int p5), .val (.int p6), .val (.int vi), .val (.int vj), .val (.long z1), .second, .val (.long z2), .second, .val (.long z3), .second, .val (.long z4), .second, .val (.long z5), .second, .val (.long z6), .second, .val (.double (4741671816366391296 : UInt64)), .second, .val (.double (13965043853221167104 : UInt64)), .second, .unset, .unset, .unset, .unset, .unset, .unset, .unset, .unset, .unset, .unset, .unset, .unset] [(.double (4741671816366391296 : UInt64)), (.int (0 : Int32)), (.ref b7), (.ref b7)])) (fun t kt => XS.dload X7.here hx rfl (hb hby at_74) rfl kt) ?_
  refine Run.stD X7 hx hZ e7 A_b7 (i := 0) (by decide) (Nat.le_of_ble_eq_true rfl) (hb hby at_76) ?_
  intro T8 h8 X8 e8 W8 A8
  replace A_b7 : Ars Z h8 b7 .double [(.double (4741671816366391296 : UInt64)), (.double 0), (.double 0), (.double 0), (.double 0), (.double 0), (.double 0), (.double 0), (.double 0)] := A8
  have N8 := Fr.snoc X8 N6 g_b7
  have Z8 : n0 ≤ h8.size := Nat.le_trans Z7 (Nat.le_of_eq W8.size.symm)
  show Run p e below s _ _ _ (T8.setTop (mkF m 77 #[.val (.int p1), .val (.int p2), .val (.int p3), .val (.int p4), .val (.int p5), .val (.int p6), .val (.int vi), .val (.int vj), .val (.long z1), .second, .val (.long z2), .second, .val (.long z3), .second, .val (.long z4), .second, .val (.long z5), .second, .val (.long z6), .second, .val (.double (4741671816366391296 : UInt64)), .second, .val (.double (13965043853221167104 : UInt64)), .second, .unset, .unset, .unset, .unset, .unset, .unset, .unset, .unset, .unset, .unset, .unset, .unset] [(.ref b7)]))
  refine Run.x_dup (q := 78) X8 hx (hb hby at_77) rfl rfl ?_
  refine Run.x_iconst (q := 79) X8 hx (hb hby at_78) (z := (1 : Int32)) rfl rfl ?_
  refine Run.st (B := T8.setTop (mkF m 81 #[.val (.int p1), .val (.int p2), .val (.int p3), .val (.int p4), .val (.int p5), .val (.int p6), .val (.int vi), .val (.int vj), .val (.long z1), .second, .val (.long z2), .second, .val (.long z3), .second, .val (.long z4), .second, .val (.long z5), .second, .val (.long z6), .second, .val (.double (4741671816366391296 : UInt64)), .second, .val (.double (13965043853221167104 : UInt64)), .second, .unset, .unset, .unset, .unset, .unset, .unset, .unset, .unset, .unset, .unset, .unset, .unset] [(.double (4741671816366391296 : UInt64)), (.int (1 : Int32)), (.ref b7), (.ref b7)])) (fun t kt => XS.dload X8.here hx rfl (hb hby at_79) rfl kt) ?_
  refine Run.stD X8 hx hZ e8 A_b7 (i := 1) (by decide) (Nat.le_of_ble_eq_true rfl) (hb hby at_81) ?_
  intro T9 h9 X9 e9 W9 A9
  replace A_b7 : Ars Z h9 b7 .double [(.double (4741671816366391296 : UInt64)), (.double (4741671816366391296 : UInt64)), (.double 0), (.double 0), (.double 0), (.double 0), (.double 0), (.double 0), (.double 0)] := A9
  have N9 := Fr.snoc X9 N8 g_b7
  have Z9 : n0 ≤ h9.size := Nat.le_trans Z8 (Nat.le_of_eq W9.size.symm)
  show Run p e below s _ _ _ (T9.setTop (mkF m 82 #[.val (.int p1), .val (.int p2), .val (.int p3), .val (.int p4), .val (.int p5), .val (.int p6), .val (.int vi), .val (.int vj), .val (.long z1), .second, .val (.long z2), .second, .val (.long z3), .second, .val (.long z4), .second, .val (.long z5), .second, .val (.long z6), .second, .val (.double (4741671816366391296 : UInt64)), .second, .val (.double (13965043853221167104 : UInt64)), .second, .unset, .unset, .unset, .unset, .unset, .unset, .unset, .unset, .unset, .unset, .unset, .unset] [(.ref b7)]))
  refine Run.x_dup (q := 83) X9 hx (hb hby at_82) rfl rfl ?_
  refine Run.x_iconst (q := 84) X9 hx (hb hby at_83) (z := (2 : Int32)) rfl rfl ?_
  refine Run.st (B := T9.setTop (mkF m 86 #[.val (.int p1), .val (.int p2), .val (.int p3), .val (.int p4), .val (.int p5), .val (.int p6), .val (.int vi), .val (.int vj), .val (.long z1), .second, .val (.long z2), .second, .val (.long z3), .second, .val (.long z4), .second, .val (.long z5), .second, .val (.long z6), .second, .val (.double (4741671816366391296 : UInt64)), .second, .val (.double (13965043853221167104 : UInt64)), .second, .unset, .unset, .unset, .unset, .unset, .unset, .unset, .unset, .unset, .unset, .unset, .unset] [(.double (4741671816366391296 : UInt64)), (.int (2 : Int32)), (.ref b7), (.ref b7)])) (fun t kt => XS.dload X9.here hx rfl (hb hby at_84) rfl kt) ?_
  refine Run.stD X9 hx hZ e9 A_b7 (i := 2) (by decide) (Nat.le_of_ble_eq_true rfl) (hb hby at_86) ?_
  intro T10 h10 X10 e10 W10 A10
  replace A_b7 : Ars Z h10 b7 .double [(.double (4741671816366391296 : UInt64)), (.double (4741671816366391296 : UInt64)), (.double (4741671816366391296 : UInt64)), (.double 0), (.double 0), (.double 0), (.double 0), (.double 0), (.double 0)] := A10
  have N10 := Fr.snoc X10 N9 g_b7
  have Z10 : n0 ≤ h10.size := Nat.le_trans Z9 (Nat.le_of_eq W10.size.symm)
  show Run p e below s _ _ _ (T10.setTop (mkF m 87 #[.val (.int p1), .val (.int p2), .val (.int p3), .val (.int p4), .val (.int p5), .val (.int p6), .val (.int vi), .val (.int vj), .val (.long z1), .second, .val (.long z2), .second, .val (.long z3), .second, .val (.long z4), .second, .val (.long z5), .second, .val (.long z6), .second, .val (.double (4741671816366391296 : UInt64)), .second, .val (.double (13965043853221167104 : UInt64)), .second, .unset, .unset, .unset, .unset, .unset, .unset, .unset, .unset, .unset, .unset, .unset, .unset] [(.ref b7)]))
  refine Run.x_dup (q := 88) X10 hx (hb hby at_87) rfl rfl ?_
  refine Run.x_iconst (q := 89) X10 hx (hb hby at_88) (z := (3 : Int32)) rfl rfl ?_
  refine Run.st (B := T10.setTop (mkF m 91 #[.val (.int p1), .val (.int p2), .val (.int p3), .val (.int p4), .val (.int p5), .val (.int p6), .val (.int vi), .val (.int vj), .val (.long z1), .second, .val (.long z2), .second, .val (.long z3), .second, .val (.long z4), .second, .val (.long z5), .second, .val (.long z6), .second, .val (.double (4741671816366391296 : UInt64)), .second, .val (.double (13965043853221167104 : UInt64)), .second, .unset, .unset, .unset, .unset, .unset, .unset, .unset, .unset, .unset, .unset, .unset, .unset] [(.double (4741671816366391296 : UInt64)), (.int (3 : Int32)), (.ref b7), (.ref b7)])) (fun t kt => XS.dload X10.here hx rfl (hb hby at_89) rfl kt) ?_
  refine Run.stD X10 hx hZ e10 A_b7 (i := 3) (by decide) (Nat.le_of_ble_eq_true rfl) (hb hby at_91) ?_
  intro T11 h11 X11 e11 W11 A11
  replace A_b7 : Ars Z h11 b7 .double [(.double (4741671816366391296 : UInt64)), (.double (4741671816366391296 : UInt64)), (.double (4741671816366391296 : UInt64)), (.double (4741671816366391296 : UInt64)), (.double 0), (.double 0), (.double 0), (.double 0), (.double 0)] := A11
  have N11 := Fr.snoc X11 N10 g_b7
  have Z11 : n0 ≤ h11.size := Nat.le_trans Z10 (Nat.le_of_eq W11.size.symm)
  show Run p e below s _ _ _ (T11.setTop (mkF m 92 #[.val (.int p1), .val (.int p2), .val (.int p3), .val (.int p4), .val (.int p5), .val (.int p6), .val (.int vi), .val (.int vj), .val (.long z1), .second, .val (.long z2), .second, .val (.long z3), .second, .val (.long z4), .second, .val (.long z5), .second, .val (.long z6), .second, .val (.double (4741671816366391296 : UInt64)), .second, .val (.double (13965043853221167104 : UInt64)), .second, .unset, .unset, .unset, .unset, .unset, .unset, .unset, .unset, .unset, .unset, .unset, .unset] [(.ref b7)]))
  refine Run.x_dup (q := 93) X11 hx (hb hby at_92) rfl rfl ?_
  refine Run.x_iconst (q := 94) X11 hx (hb hby at_93) (z := (4 : Int32)) rfl rfl ?_
  refine Run.st (B := T11.setTop (mkF m 96 #[.val (.int p1), .val (.int p2), .val (.int p3), .val (.int p4), .val (.int p5), .val (.int p6), .val (.int vi), .val (.int vj), .val (.long z1), .second, .val (.long z2), .second, .val (.long z3), .second, .val (.long z4), .second, .val (.long z5), .second, .val (.long z6), .second, .val (.double (4741671816366391296 : UInt64)), .second, .val (.double (13965043853221167104 : UInt64)), .second, .unset, .unset, .unset, .unset, .unset, .unset, .unset, .unset, .unset, .unset, .unset, .unset] [(.double (4741671816366391296 : UInt64)), (.int (4 : Int32)), (.ref b7), (.ref b7)])) (fun t kt => XS.dload X11.here hx rfl (hb hby at_94) rfl kt) ?_
  refine Run.stD X11 hx hZ e11 A_b7 (i := 4) (by decide) (Nat.le_of_ble_eq_true rfl) (hb hby at_96) ?_
  intro T12 h12 X12 e12 W12 A12
  replace A_b7 : Ars Z h12 b7 .double [(.double (4741671816366391296 : UInt64)), (.double (4741671816366391296 : UInt64)), (.double (4741671816366391296 : UInt64)), (.double (4741671816366391296 : UInt64)), (.double (4741671816366391296 : UInt64)), (.double 0), (.double 0), (.double 0), (.double 0)] := A12
  have N12 := Fr.snoc X12 N11 g_b7
  have Z12 : n0 ≤ h12.size := Nat.le_trans Z11 (Nat.le_of_eq W12.size.symm)
  show Run p e below s _ _ _ (T12.setTop (mkF m 97 #[.val (.int p1), .val (.int p2), .val (.int p3), .val (.int p4), .val (.int p5), .val (.int p6), .val (.int vi), .val (.int vj), .val (.long z1), .second, .val (.long z2), .second, .val (.long z3), .second, .val (.long z4), .second, .val (.long z5), .second, .val (.long z6), .second, .val (.double (4741671816366391296 : UInt64)), .second, .val (.double (13965043853221167104 : UInt64)), .second, .unset, .unset, .unset, .unset, .unset, .unset, .unset, .unset, .unset, .unset, .unset, .unset] [(.ref b7)]))
  refine Run.x_dup (q := 98) X12 hx (hb hby at_97) rfl rfl ?_
  refine Run.x_iconst (q := 99) X12 hx (hb hby at_98) (z := (5 : Int32)) rfl rfl ?_
  refine Run.st (B := T12.setTop (mkF m 101 #[.val (.int p1), .val (.int p2), .val (.int p3), .val (.int p4), .val (.int p5), .val (.int p6), .val (.int vi), .val (.int vj), .val (.long z1), .second, .val (.long z2), .second, .val (.long z3), .second, .val (.long z4), .second, .val (.long z5), .second, .val (.long z6), .second, .val (.double (4741671816366391296 : UInt64)), .second, .val (.double (13965043853221167104 : UInt64)), .second, .unset, .unset, .unset, .unset, .unset, .unset, .unset, .unset, .unset, .unset, .unset, .unset] [(.double (4741671816366391296 : UInt64)), (.int (5 : Int32)), (.ref b7), (.ref b7)])) (fun t kt => XS.dload X12.here hx rfl (hb hby at_99) rfl kt) ?_
  refine Run.stD X12 hx hZ e12 A_b7 (i := 5) (by decide) (Nat.le_of_ble_eq_true rfl) (hb hby at_101) ?_
  intro T13 h13 X13 e13 W13 A13
  replace A_b7 : Ars Z h13 b7 .double [(.double (4741671816366391296 : UInt64)), (.double (4741671816366391296 : UInt64)), (.double (4741671816366391296 : UInt64)), (.double (4741671816366391296 : UInt64)), (.double (4741671816366391296 : UInt64)), (.double (4741671816366391296 : UInt64)), (.double 0), (.double 0), (.double 0)] := A13
  have N13 := Fr.snoc X13 N12 g_b7
  have Z13 : n0 ≤ h13.size := Nat.le_trans Z12 (Nat.le_of_eq W13.size.symm)
  show Run p e below s _ _ _ (T13.setTop (mkF m 102 #[.val (.int p1), .val (.int p2), .val (.int p3), .val (.int p4), .val (.int p5), .val (.int p6), .val (.int vi), .val (.int vj), .val (.long z1), .second, .val (.long z2), .second, .val (.long z3), .second, .val (.long z4), .second, .val (.long z5), .second, .val (.long z6), .second, .val (.double (4741671816366391296 : UInt64)), .second, .val (.double (13965043853221167104 : UInt64)), .second, .unset, .unset, .unset, .unset, .unset, .unset, .unset, .unset, .unset, .unset, .unset, .unset] [(.ref b7)]))
  refine Run.x_dup (q := 103) X13 hx (hb hby at_102) rfl rfl ?_
  refine Run.x_bipush (q := 105) X13 hx (hb hby at_103) (z := (6 : Int32)) rfl rfl ?_
  refine Run.st (B := T13.setTop (mkF m 107 #[.val (.int p1), .val (.int p2), .val (.int p3), .val (.int p4), .val (.int p5), .val (.int p6), .val (.int vi), .val (.int vj), .val (.long z1), .second, .val (.long z2), .second, .val (.long z3), .second, .val (.long z4), .second, .val (.long z5), .second, .val (.long z6), .second, .val (.double (4741671816366391296 : UInt64)), .second, .val (.double (13965043853221167104 : UInt64)), .second, .unset, .unset, .unset, .unset, .unset, .unset, .unset, .unset, .unset, .unset, .unset, .unset] [(.double (4741671816366391296 : UInt64)), (.int (6 : Int32)), (.ref b7), (.ref b7)])) (fun t kt => XS.dload X13.here hx rfl (hb hby at_105) rfl kt) ?_
  refine Run.stD X13 hx hZ e13 A_b7 (i := 6) (by decide) (Nat.le_of_ble_eq_true rfl) (hb hby at_107) ?_
  intro T14 h14 X14 e14 W14 A14
  replace A_b7 : Ars Z h14 b7 .double [(.double (4741671816366391296 : UInt64)), (.double (4741671816366391296 : UInt64)), (.double (4741671816366391296 : UInt64)), (.double (4741671816366391296 : UInt64)), (.double (4741671816366391296 : UInt64)), (.double (4741671816366391296 : UInt64)), (.double (4741671816366391296 : UInt64)), (.double 0), (.double 0)] := A14
  have N14 := Fr.snoc X14 N13 g_b7
  have Z14 : n0 ≤ h14.size := Nat.le_trans Z13 (Nat.le_of_eq W14.size.symm)
  show Run p e below s _ _ _ (T14.setTop (mkF m 108 #[.val (.int p1), .val (.int p2), .val (.int p3), .val (.int p4), .val (.int p5), .val (.int p6), .val (.int vi), .val (.int vj), .val (.long z1), .second, .val (.long z2), .second, .val (.long z3), .second, .val (.long z4), .second, .val (.long z5), .second, .val (.long z6), .second, .val (.double (4741671816366391296 : UInt64)), .second, .val (.double (13965043853221167104 : UInt64)), .second, .unset, .unset, .unset, .unset, .unset, .unset, .unset, .unset, .unset, .unset, .unset, .unset] [(.ref b7)]))
  refine Run.x_dup (q := 109) X14 hx (hb hby at_108) rfl rfl ?_
  refine Run.x_bipush (q := 111) X14 hx (hb hby at_109) (z := (7 : Int32)) rfl rfl ?_
  refine Run.st (B := T14.setTop (mkF m 113 #[.val (.int p1), .val (.int p2), .val (.int p3), .val (.int p4), .val (.int p5), .val (.int p6), .val (.int vi), .val (.int vj), .val (.long z1), .second, .val (.long z2), .second, .val (.long z3), .second, .val (.long z4), .second, .val (.long z5), .second, .val (.long z6), .second, .val (.double (4741671816366391296 : UInt64)), .second, .val (.double (13965043853221167104 : UInt64)), .second, .unset, .unset, .unset, .unset, .unset, .unset, .unset, .unset, .unset, .unset, .unset, .unset] [(.double (4741671816366391296 : UInt64)), (.int (7 : Int32)), (.ref b7), (.ref b7)])) (fun t kt => XS.dload X14.here hx rfl (hb hby at_111) rfl kt) ?_
  refine Run.stD X14 hx hZ e14 A_b7 (i := 7) (by decide) (Nat.le_of_ble_eq_true rfl) (hb hby at_113) ?_
  intro T15 h15 X15 e15 W15 A15
  replace A_b7 : Ars Z h15 b7 .double [(.double (4741671816366391296 : UInt64)), (.double (4741671816366391296 : UInt64)), (.double (4741671816366391296 : UInt64)), (.double (4741671816366391296 : UInt64)), (.double (4741671816366391296 : UInt64)), (.double (4741671816366391296 : UInt64)), (.double (4741671816366391296 : UInt64)), (.double (4741671816366391296 : UInt64)), (.double 0)] := A15
  have N15 := Fr.snoc X15 N14 g_b7
  have Z15 : n0 ≤ h15.size := Nat.le_trans Z14 (Nat.le_of_eq W15.size.symm)
  show Run p e below s _ _ _ (T15.setTop (mkF m 114 #[.val (.int p1), .val (.int p2), .val (.int p3), .val (.int p4), .val (.int p5), .val (.int p6), .val (.int vi), .val (.int vj), .val (.long z1), .second, .val (.long z2), .second, .val (.long z3), .second, .val (.long z4), .second, .val (.long z5), .second, .val (.long z6), .second, .val (.double (4741671816366391296 : UInt64)), .second, .val (.double (13965043853221167104 : UInt64)), .second, .unset, .unset, .unset, .unset, .unset, .unset, .unset, .unset, .unset, .unset, .unset, .unset] [(.ref b7)]))
  refine Run.x_dup (q := 115) X15 hx (hb hby at_114) rfl rfl ?_
  refine Run.x_bipush (q := 117) X15 hx (hb hby at_115) (z := (8 : Int32)) rfl rfl ?_
  refine Run.st (B := T15.setTop (mkF m 119 #[.val (.int p1), .val (.int p2), .val (.int p3), .val (.int p4), .val (.int p5), .val (.int p6), .val (.int vi), .val (.int vj), .val (.long z1), .second, .val (.long z2), .second, .val (.long z3), .second, .val (.long z4), .second, .val (.long z5), .second, .val (.long z6), .second, .val (.double (4741671816366391296 : UInt64)), .second, .val (.double (13965043853221167104 : UInt64)), .second, .unset, .unset, .unset, .unset, .unset, .unset, .unset, .unset, .unset, .unset, .unset, .unset] [(.double (4741671816366391296 : UInt64)), (.int (8 : Int32)), (.ref b7), (.ref b7)])) (fun t kt => XS.dload X15.here hx rfl (hb hby at_117) rfl kt) ?_
  refine Run.stD X15 hx hZ e15 A_b7 (i := 8) (by decide) (Nat.le_of_ble_eq_true rfl) (hb hby at_119) ?_
  intro T16 h16 X16 e16 W16 A16
  replace A_b7 : Ars Z h16 b7 .double [(.double (4741671816366391296 : UInt64)), (.double (4741671816366391296 : UInt64)), (.double (4741671816366391296 : UInt64)), (.double (4741671816366391296 : UInt64)), (.double (4741671816366391296 : UInt64)), (.double (4741671816366391296 : UInt64)), (.double (4741671816366391296 : UInt64)), (.double (4741671816366391296 : UInt64)), (.double (4741671816366391296 : UInt64))] := A16
  have N16 := Fr.snoc X16 N15 g_b7
  have Z16 : n0 ≤ h16.size := Nat.le_trans Z15 (Nat.le_of_eq W16.size.symm)
  show Run p e below s _ _ _ (T16.setTop (mkF m 120 #[.val (.int p1), .val (.int p2), .val (.int p3), .val (.int p4), .val (.int p5), .val (.int p6), .val (.int vi), .val (.int vj), .val (.long z1), .second, .val (.long z2), .second, .val (.long z3), .second, .val (.long z4), .second, .val (.long z5), .second, .val (.long z6), .second, .val (.double (4741671816366391296 : UInt64)), .second, .val (.double (13965043853221167104 : UInt64)), .second, .unset, .unset, .unset, .unset, .unset, .unset, .unset, .unset, .unset, .unset, .unset, .unset] [(.ref b7)]))
  refine Run.x_astore (q := 122) X16 hx #[.val (.int p1), .val (.int p2), .val (.int p3), .val (.int p4), .val (.int p5), .val (.int p6), .val (.int vi), .val (.int vj), .val (.long z1), .second, .val (.long z2), .second, .val (.long z3), .second, .val (.long z4), .second, .val (.long z5), .second, .val (.long z6), .second, .val (.double (4741671816366391296 : UInt64)), .second, .val (.double (13965043853221167104 : UInt64)), .second, .val (.ref b7), .unset, .unset, .unset, .unset, .unset, .unset, .unset, .unset, .unset, .unset, .unset] (hb hby at_120) rfl rfl rfl ?_
  refine Run.x_bipush (q := 124) X16 hx (hb hby at_122) (z := (9 : Int32)) rfl rfl ?_
  refine Run.newP X16 hx hZ e16 (hw _ (List.mem_of_getElem? (i := 6) rfl)) (hb hby at_124) (len := 9) (by decide) (by decide) (cap := 9) (by decide) (by decide) (by decide) (by decide) ?_
  intro T17 h17 b17 gg17 X17 e17 E17 A_b17
  have g_b17 : n0 ≤ b17 := Nat.le_trans Z16 (Nat.le_of_eq gg17.symm)
  have ne_b7_b17 : b7 ≠ b17 := Nat.ne_of_lt (Nat.lt_of_lt_of_le A_b7.lt (Nat.le_of_eq gg17.symm))
  have Z17 : n0 ≤ h17.size := Nat.le_trans Z16 E17.1
  replace A_b17 : Ars Z h17 b17 .double [(.double 0), (.double 0), (.double 0), (.double 0), (.double 0), (.double 0), (.double 0), (.double 0), (.double 0)] := A_b17
  show Run p e below s _ _ _ (T17.setTop (mkF m 126 #[.val (.int p1), .val (.int p2), .val (.int p3), .val (.int p4), .val (.int p5), .val (.int p6), .val (.int vi), .val (.int vj), .val (.long z1), .second, .val (.long z2), .second, .val (.long z3), .second, .val (.long z4), .second, .val (.long z5), .second, .val (.long z6), .second, .val (.double (4741671816366391296 : UInt64)), .second, .val (.double (13965043853221167104 : UInt64)), .second, .val (.ref b7), .unset, .unset, .unset, .unset, .unset, .unset, .unset, .unset, .unset, .unset, .unset] [(.ref b17)]))
  refine Run.x_dup (q := 127) X17 hx (hb hby at_126) rfl rfl ?_
  refine Run.x_iconst (q := 128) X17 hx (hb hby at_127) (z := (0 : Int32)) rfl rfl ?_
  refine Run.st (B := T17.setTop (mkF m 130 #[.val (.int p1), .val (.int p2), .val (.int p3), .val (.int p4), .val (.int p5), .val (.int p6), .val (.int vi), .val (.int vj), .val (.long z1), .second, .val (.long z2), .second, .val (.long z3), .second, .val (.long z4), .second, .val (.long z5), .second, .val (.long z6), .second, .val (.double (4741671816366391296 : UInt64)), .second, .val (.double (13965043853221167104 : UInt64)), .second, .val (.ref b7), .unset, .unset, .unset, .unset, .unset, .unset, .unset, .unset, .unset, .unset, .unset] [(.double (13965043853221167104 : UInt64)), (.int (0 : Int32)), (.ref b17), (.ref b17)])) (fun t kt => XS.dload X17.here hx rfl (hb hby at_128) rfl kt) ?_
  refine Run.stD X17 hx hZ e17 A_b17 (i := 0) (by decide) (Nat.le_of_ble_eq_true rfl) (hb hby at_130) ?_
  intro T18 h18 X18 e18 W18 A18
  replace A_b17 : Ars Z h18 b17 .double [(.double (13965043853221167104 : UInt64)), (.double 0), (.double 0), (.double 0), (.double 0), (.double 0), (.double 0), (.double 0), (.double 0)] := A18
  have N18 := Fr.snoc X18 N16 g_b17
  have Z18 : n0 ≤ h18.size := Nat.le_trans Z17 (Nat.le_of_eq W18.size.symm)
  show Run p e below s _ _ _ (T18.setTop (mkF m 131 #[.val (.int p1), .val (.int p2), .val (.int p3), .val (.int p4), .val (.int p5), .val (.int p6), .val (.int vi), .val (.int vj), .val (.long z1), .second, .val (.long z2), .second, .val (.long z3), .second, .val (.long z4), .second, .val (.long z5), .second, .val (.long z6), .second, .val (.double (4741671816366391296 : UInt64)), .second, .val (.double (13965043853221167104 : UInt64)), .second, .val (.ref b7), .unset, .unset, .unset, .unset, .unset, .unset, .unset, .unset, .unset, .unset, .unset] [(.ref b17)]))
  refine Run.x_dup (q := 132) X18 hx (hb hby at_131) rfl rfl ?_
  refine Run.x_iconst (q := 133) X18 hx (hb hby at_132) (z := (1 : Int32)) rfl rfl ?_
  refine Run.st (B := T18.setTop (mkF m 135 #[.val (.int p1), .val (.int p2), .val (.int p3), .val (.int p4), .val (.int p5), .val (.int p6), .val (.int vi), .val (.int vj), .val (.long z1), .second, .val (.long z2), .second, .val (.long z3), .second, .val (.long z4), .second, .val (.long z5), .second, .val (.long z6), .second, .val (.double (4741671816366391296 : UInt64)), .second, .val (.double (13965043853221167104 : UInt64)), .second, .val (.ref b7), .unset, .unset, .unset, .unset, .unset, .unset, .unset, .unset, .unset, .unset, .unset] [(.double (13965043853221167104 : UInt64)), (.int (1 : Int32)), (.ref b17), (.ref b17)])) (fun t kt => XS.dload X18.here hx rfl (hb hby at_133) rfl kt) ?_
  refine Run.stD X18 hx hZ e18 A_b17 (i := 1) (by decide) (Nat.le_of_ble_eq_true rfl) (hb hby at_135) ?_
  intro T19 h19 X19 e19 W19 A19
  replace A_b17 : Ars Z h19 b17 .double [(.double (13965043853221167104 : UInt64)), (.double (13965043853221167104 : UInt64)), (.double 0), (.double 0), (.double 0), (.double 0), (.double 0), (.double 0), (.double 0)] := A19
  have N19 := Fr.snoc X19 N18 g_b17
  have Z19 : n0 ≤ h19.size := Nat.le_trans Z18 (Nat.le_of_eq W19.size.symm)
  show Run p e below s _ _ _ (T19.setTop (mkF m 136 #[.val (.int p1), .val (.int p2), .val (.int p3), .val (.int p4), .val (.int p5), .val (.int p6), .val (.int vi), .val (.int vj), .val (.long z1), .second, .val (.long z2), .second, .val (.long z3), .second, .val (.long z4), .second, .val (.long z5), .second, .val (.long z6), .second, .val (.double (4741671816366391296 : UInt64)), .second, .val (.double (13965043853221167104 : UInt64)), .second, .val (.ref b7), .unset, .unset, .unset, .unset, .unset, .unset, .unset, .unset, .unset, .unset, .unset] [(.ref b17)]))
  refine Run.x_dup (q := 137) X19 hx (hb hby at_136) rfl rfl ?_
  refine Run.x_iconst (q := 138) X19 hx (hb hby at_137) (z := (2 : Int32)) rfl rfl ?_
  refine Run.st (B := T19.setTop (mkF m 140 #[.val (.int p1), .val (.int p2), .val (.int p3), .val (.int p4), .val (.int p5), .val (.int p6), .val (.int vi), .val (.int vj), .val (.long z1), .second, .val (.long z2), .second, .val (.long z3), .second, .val (.long z4), .second, .val (.long z5), .second, .val (.long z6), .second, .val (.double (4741671816366391296 : UInt64)), .second, .val (.double (13965043853221167104 : UInt64)), .second, .val (.ref b7), .unset, .unset, .unset, .unset, .unset, .unset, .unset, .unset, .unset, .unset, .unset] [(.double (13965043853221167104 : UInt64)), (.int (2 : Int32)), (.ref b17), (.ref b17)])) (fun t kt => XS.dload X19.here hx rfl (hb hby at_138) rfl kt) ?_
  refine Run.stD X19 hx hZ e19 A_b17 (i := 2) (by decide) (Nat.le_of_ble_eq_true rfl) (hb hby at_140) ?_
  intro T20 h20 X20 e20 W20 A20
  replace A_b17 : Ars Z h20 b17 .double [(.double (13965043853221167104 : UInt64)), (.double (13965043853221167104 : UInt64)), (.double (13965043853221167104 : UInt64)), (.double 0), (.double 0), (.double 0), (.double 0), (.double 0), (.double 0)] := A20
  have N20 := Fr.snoc X20 N19 g_b17
  have Z20 : n0 ≤ h20.size := Nat.le_trans Z19 (Nat.le_of_eq W20.size.symm)
  show Run p e below s _ _ _ (T20.setTop (mkF m 141 #[.val (.int p1), .val (.int p2), .val (.int p3), .val (.int p4), .val (.int p5), .val (.int p6), .val (.int vi), .val (.int vj), .val (.long z1), .second, .val (.long z2), .second, .val (.long z3), .second, .val (.long z4), .second, .val (.long z5), .second, .val (.long z6), .second, .val (.double (4741671816366391296 : UInt64)), .second, .val (.double (13965043853221167104 : UInt64)), .second, .val (.ref b7), .unset, .unset, .unset, .unset, .unset, .unset, .unset, .unset, .unset, .unset, .unset] [(.ref b17)]))
  refine Run.x_dup (q := 142) X20 hx (hb hby at_141) rfl rfl ?_
  refine Run.x_iconst (q := 143) X20 hx (hb hby at_142) (z := (3 : Int32)) rfl rfl ?_
  refine Run.st (B := T20.setTop (mkF m 145 #[.val (.int p1), .val (.int p2), .val (.int p3), .val (.int p4), .val (.int p5), .val (.int p6), .val (.int vi), .val (.int vj), .val (.long z1), .second, .val (.long z2), .second, .val (.long z3), .second, .val (.long z4), .second, .val (.long z5), .second, .val (.long z6), .second, .val (.double (4741671816366391296 : UInt64)), .second, .val (.double (13965043853221167104 : UInt64)), .second, .val (.ref b7), .unset, .unset, .unset, .unset, .unset, .unset, .unset, .unset, .unset, .unset, .unset] [(.double (13965043853221167104 : UInt64)), (.int (3 : Int32)), (.ref b17), (.ref b17)])) (fun t kt => XS.dload X20.here hx rfl (hb hby at_143) rfl kt) ?_
  refine Run.stD X20 hx hZ e20 A_b17 (i := 3) (by decide) (Nat.le_of_ble_eq_true rfl) (hb hby at_145) ?_
  intro T21 h21 X21 e21 W21 A21
  replace A_b17 : Ars Z h21 b17 .double [(.double (13965043853221167104 : UInt64)), (.double (13965043853221167104 : UInt64)), (.double (13965043853221167104 : UInt64)), (.double (13965043853221167104 : UInt64)), (.double 0), (.double 0), (.double 0), (.double 0), (.double 0)] := A21
  have N21 := Fr.snoc X21 N20 g_b17
  have Z21 : n0 ≤ h21.size := Nat.le_trans Z20 (Nat.le_of_eq W21.size.symm)
  show Run p e below s _ _ _ (T21.setTop (mkF m 146 #[.val (.int p1), .val (.int p2), .val (.int p3), .val (.int p4), .val (.int p5), .val (.int p6), .val (.int vi), .val (.int vj), .val (.long z1), .second, .val (.long z2), .second, .val (.long z3), .second, .val (.long z4), .second, .val (.long z5), .second, .val (.long z6), .second, .val (.double (4741671816366391296 : UInt64)), .second, .val (.double (13965043853221167104 : UInt64)), .second, .val (.ref b7), .unset, .unset, .unset, .unset, .unset, .unset, .unset, .unset, .unset, .unset, .unset] [(.ref b17)]))
  refine Run.x_dup (q := 147) X21 hx (hb hby at_146) rfl rfl ?_
  refine Run.x_iconst (q := 148) X21 hx (hb hby at_147) (z := (4 : Int32)) rfl rfl ?_
  refine Run.st (B := T21.setTop (mkF m 150 #[.val (.int p1), .val (.int p2), .val (.int p3), .val (.int p4), .val (.int p5), .val (.int p6), .val (.int vi), .val (.int vj), .val (.long z1), .second, .val (.long z2), .second, .val (.long z3), .second, .val (.long z4), .second, .val (.long z5), .second, .val (.long z6), .second, .val (.double (4741671816366391296 : UInt64)), .second, .val (.double (13965043853221167104 : UInt64)), .second, .val (.ref b7), .unset, .unset, .unset, .unset, .unset, .unset, .unset, .unset, .unset, .unset, .unset] [(.double (13965043853221167104 : UInt64)), (.int (4 : Int32)), (.ref b17), (.ref b17)])) (fun t kt => XS.dload X21.here hx rfl (hb hby at_148) rfl kt) ?_
  refine Run.stD X21 hx hZ e21 A_b17 (i := 4) (by decide) (Nat.le_of_ble_eq_true rfl) (hb hby at_150) ?_
  intro T22 h22 X22 e22 W22 A22
  replace A_b17 : Ars Z h22 b17 .double [(.double (13965043853221167104 : UInt64)), (.double (13965043853221167104 : UInt64)), (.double (13965043853221167104 : UInt64)), (.double (13965043853221167104 : UInt64)), (.double (13965043853221167104 : UInt64)), (.double 0), (.double 0), (.double 0), (.double 0)] := A22
  have N22 := Fr.snoc X22 N21 g_b17
  have Z22 : n0 ≤ h22.size := Nat.le_trans Z21 (Nat.le_of_eq W22.size.symm)
  show Run p e below s _ _ _ (T22.setTop (mkF m 151 #[.val (.int p1), .val (.int p2), .val (.int p3), .val (.int p4), .val (.int p5), .val (.int p6), .val (.int vi), .val (.int vj), .val (.long z1), .second, .val (.long z2), .second, .val (.long z3), .second, .val (.long z4), .second, .val (.long z5), .second, .val (.long z6), .second, .val (.double (4741671816366391296 : UInt64)), .second, .val (.double (13965043853221167104 : UInt64)), .second, .val (.ref b7), .unset, .unset, .unset, .unset, .unset, .unset, .unset, .unset, .unset, .unset, .unset] [(.ref b17)]))
  refine Run.x_dup (q := 152) X22 hx (hb hby at_151) rfl rfl ?_
  refine Run.x_iconst (q := 153) X22 hx (hb hby at_152) (z := (5 : Int32)) rfl rfl ?_
  refine Run.st (B := T22.setTop (mkF m 155 #[.val (.int p1), .val (.int p2), .val (.int p3), .val (.int p4), .val (.int p5), .val (.int p6), .val (.int vi), .val (.int vj), .val (.long z1), .second, .val (.long z2), .second, .val (.long z3), .second, .val (.long z4), .second, .val (.long z5), .second, .val (.long z6), .second, .val (.double (4741671816366391296 : UInt64)), .second, .val (.double (13965043853221167104 : UInt64)), .second, .val (.ref b7), .unset, .unset, .unset, .unset, .unset, .unset, .unset, .unset, .unset, .unset, .unset] [(.double (13965043853221167104 : UInt64)), (.int (5 : Int32)), (.ref b17), (.ref b17)])) (fun t kt => XS.dload X22.here hx rfl (hb hby at_153) rfl kt) ?_
  refine Run.stD X22 hx hZ e22 A_b17 (i := 5) (by decide) (Nat.le_of_ble_eq_true rfl) (hb hby at_155) ?_
  intro T23 h23 X23 e23 W23 A23
  replace A_b17 : Ars Z h23 b17 .double [(.double (13965043853221167104 : UInt64)), (.double (13965043853221167104 : UInt64)), (.double (13965043853221167104 : UInt64)), (.double (13965043853221167104 : UInt64)), (.double (13965043853221167104 : UInt64)), (.double (13965043853221167104 : UInt64)), (.double 0), (.double 0), (.double 0)] := A23
  have N23 := Fr.snoc X23 N22 g_b17
  have Z23 : n0 ≤ h23.size := Nat.le_trans Z22 (Nat.le_of_eq W23.size.symm)
  show Run p e below s _ _ _ (T23.setTop (mkF m 156 #[.val (.int p1), .val (.int p2), .val (.int p3), .val (.int p4), .val (.int p5), .val (.int p6), .val (.int vi), .val (.int vj), .val (.long z1), .second, .val (.long z2), .second, .val (.long z3), .second, .val (.long z4), .second, .val (.long z5), .second, .val (.long z6), .second, .val (.double (4741671816366391296 : UInt64)), .second, .val (.double (13965043853221167104 : UInt64)), .second, .val (.ref b7), .unset, .unset, .unset, .unset, .unset, .unset, .unset, .unset, .unset, .unset, .unset] [(.ref b17)]))
  refine Run.x_dup (q := 157) X23 hx (hb hby at_156) rfl rfl ?_
  refine Run.x_bipush (q := 159) X23 hx (hb hby at_157) (z := (6 : Int32)) rfl rfl ?_
  refine Run.st (B := T23.setTop (mkF m 161 #[.val (.int p1), .val (.int p2), .val (.int p3), .val (.int p4), .val (.int p5), .val (.int p6), .val (.int vi), .val (.int vj), .val (.long z1), .second, .val (.long z2), .second, .val (.long z3), .second, .val (.long z4), .second, .val (.long z5), .second, .val (.long z6), .second, .val (.double (4741671816366391296 : UInt64)), .second, .val (.double (13965043853221167104 : UInt64)), .second, .val (.ref b7), .unset, .unset, .unset, .unset, .unset, .unset, .unset, .unset, .unset, .unset, .unset] [(.double (13965043853221167104 : UInt64)), (.int (6 : Int32)), (.ref b17), (.ref b17)])) (fun t kt => XS.dload X23.here hx rfl (hb hby at_159) rfl kt) ?_
  refine Run.stD X23 hx hZ e23 A_b17 (i := 6) (by decide) (Nat.le_of_ble_eq_true rfl) (hb hby at_161) ?_
  intro T24 h24 X24 e24 W24 A24
  replace A_b17 : Ars Z h24 b17 .double [(.double (13965043853221167104 : UInt64)), (.double (13965043853221167104 : UInt64)), (.double (13965043853221167104 : UInt64)), (.double (13965043853221167104 : UInt64)), (.double (13965043853221167104 : UInt64)), (.double (13965043853221167104 : UInt64)), (.double (13965043853221167104 : UInt64)), (.double 0), (.double 0)] := A24
  have N24 := Fr.snoc X24 N23 g_b17
  have Z24 : n0 ≤ h24.size := Nat.le_trans Z23 (Nat.le_of_eq W24.size.symm)
  show Run p e below s _ _ _ (T24.setTop (mkF m 162 #[.val (.int p1), .val (.int p2), .val (.int p3), .val (.int p4), .val (.int p5), .val (.int p6), .val (.int vi), .val (.int vj), .val (.long z1), .second, .val (.long z2), .second, .val (.long z3), .second, .val (.long z4), .second, .val (.long z5), .second, .val (.long z6), .second, .val (.double (4741671816366391296 : UInt64)), .second, .val (.double (13965043853221167104 : UInt64)), .second, .val (.ref b7), .unset, .unset, .unset, .unset, .unset, .unset, .unset, .unset, .unset, .unset, .unset] [(.ref b17)]))
  refine Run.x_dup (q := 163) X24 hx (hb hby at_162) rfl rfl ?_
  refine Run.x_bipush (q := 165) X24 hx (hb hby at_163) (z := (7 : Int32)) rfl rfl ?_
  refine Run.st (B := T24.setTop (mkF m 167 #[.val (.int p1), .val (.int p2), .val (.int p3), .val (.int p4), .val (.int p5), .val (.int p6), .val (.int vi), .val (.int vj), .val (.long z1), .second, .val (.long z2), .second, .val (.long z3), .second, .val (.long z4), .second, .val (.long z5), .second, .val (.long z6), .second, .val (.double (4741671816366391296 : UInt64)), .second, .val (.double (13965043853221167104 : UInt64)), .second, .val (.ref b7), .unset, .unset, .unset, .unset, .unset, .unset, .unset, .unset, .unset, .unset, .unset] [(.double (13965043853221167104 : UInt64)), (.int (7 : Int32)), (.ref b17), (.ref b17)])) (fun t kt => XS.dload X24.here hx rfl (hb hby at_165) rfl kt) ?_
  refine Run.stD X24 hx hZ e24 A_b17 (i := 7) (by decide) (Nat.le_of_ble_eq_true rfl) (hb hby at_167) ?_
  intro T25 h25 X25 e25 W25 A25
  replace A_b17 : Ars Z h25 b17 .double [(.double (13965043853221167104 : UInt64)), (.double (13965043853221167104 : UInt64)), (.double (13965043853221167104 : UInt64)), (.double (13965043853221167104 : UInt64)), (.double (13965043853221167104 : UInt64)), (.double (13965043853221167104 : UInt64)), (.double (13965043853221167104 : UInt64)), (.double (13965043853221167104 : UInt64)), (.double 0)] := A25
  have N25 := Fr.snoc X25 N24 g_b17
  have Z25 : n0 ≤ h25.size := Nat.le_trans Z24 (Nat.le_of_eq W25.size.symm)
  show Run p e below s _ _ _ (T25.setTop (mkF m 168 #[.val (.int p1), .val (.int p2), .val (.int p3), .val (.int p4), .val (.int p5), .val (.int p6), .val (.int vi), .val (.int vj), .val (.long z1), .second, .val (.long z2), .second, .val (.long z3), .second, .val (.long z4), .second, .val (.long z5), .second, .val (.long z6), .second, .val (.double (4741671816366391296 : UInt64)), .second, .val (.double (13965043853221167104 : UInt64)), .second, .val (.ref b7), .unset, .unset, .unset, .unset, .unset, .unset, .unset, .unset, .unset, .unset, .unset] [(.ref b17)]))
  refine Run.x_dup (q := 169) X25 hx (hb hby at_168) rfl rfl ?_
  refine Run.x_bipush (q := 171) X25 hx (hb hby at_169) (z := (8 : Int32)) rfl rfl ?_
  refine Run.st (B := T25.setTop (mkF m 173 #[.val (.int p1), .val (.int p2), .val (.int p3), .val (.int p4), .val (.int p5), .val (.int p6), .val (.int vi), .val (.int vj), .val (.long z1), .second, .val (.long z2), .second, .val (.long z3), .second, .val (.long z4), .second, .val (.long z5), .second, .val (.long z6), .second, .val (.double (4741671816366391296 : UInt64)), .second, .val (.double (13965043853221167104 : UInt64)), .second, .val (.ref b7), .unset, .unset, .unset, .unset, .unset, .unset, .unset, .unset, .unset, .unset, .unset] [(.double (13965043853221167104 : UInt64)), (.int (8 : Int32)), (.ref b17), (.ref b17)])) (fun t kt => XS.dload X25.here hx rfl (hb hby at_171) rfl kt) ?_
  refine Run.stD X25 hx hZ e25 A_b17 (i := 8) (by decide) (Nat.le_of_ble_eq_true rfl) (hb hby at_173) ?_
  intro T26 h26 X26 e26 W26 A26
  replace A_b17 : Ars Z h26 b17 .double [(.double (13965043853221167104 : UInt64)), (.double (13965043853221167104 : UInt64)), (.double (13965043853221167104 : UInt64)), (.double (13965043853221167104 : UInt64)), (.double (13965043853221167104 : UInt64)), (.double (13965043853221167104 : UInt64)), (.double (13965043853221167104 : UInt64)), (.double (13965043853221167104 : UInt64)), (.double (13965043853221167104 : UInt64))] := A26
  have N26 := Fr.snoc X26 N25 g_b17
  have Z26 : n0 ≤ h26.size := Nat.le_trans Z25 (Nat.le_of_eq W26.size.symm)
  show Run p e below s _ _ _ (T26.setTop (mkF m 174 #[.val (.int p1), .val (.int p2), .val (.int p3), .val (.int p4), .val (.int p5), .val (.int p6), .val (.int vi), .val (.int vj), .val (.long z1), .second, .val (.long z2), .second, .val (.long z3), .second, .val (.long z4), .second, .val (.long z5), .second, .val (.long z6), .second, .val (.double (4741671816366391296 : UInt64)), .second, .val (.double (13965043853221167104 : UInt64)), .second, .val (.ref b7), .unset, .unset, .unset, .unset, .unset, .unset, .unset, .unset, .unset, .unset, .unset] [(.ref b17)]))
  refine Run.x_astore (q := 176) X26 hx #[.val (.int p1), .val (.int p2), .val (.int p3), .val (.int p4), .val (.int p5), .val (.int p6), .val (.int vi), .val (.int vj), .val (.long z1), .second, .val (.long z2), .second, .val (.long z3), .second, .val (.long z4), .second, .val (.long z5), .second, .val (.long z6), .second, .val (.double (4741671816366391296 : UInt64)), .second, .val (.double (13965043853221167104 : UInt64)), .second, .val (.ref b7), .val (.ref b17), .unset, .unset, .unset, .unset, .unset, .unset, .unset, .unset, .unset, .unset] (hb hby at_174) rfl rfl rfl ?_
  rcases own_i hvi with rfl | rfl | rfl
  · skip
    show Run p e below s _ _ _ (T26.setTop (mkF m 176 #[.val (.int p1), .val (.int p2), .val (.int p3), .val (.int p4), .val (.int p5), .val (.int p6), .val (.int (0 : Int32)), .val (.int vj), .val (.long z1), .second, .val (.long z2), .second, .val (.long z3), .second, .val (.long z4), .second, .val (.long z5), .second, .val (.long z6), .second, .val (.double (4741671816366391296 : UInt64)), .second, .val (.double (13965043853221167104 : UInt64)), .second, .val (.ref b7), .val (.ref b17), .unset, .unset, .unset, .unset, .unset, .unset, .unset, .unset, .unset, .unset] []))
    refine Run.x_aload (q := 178) X26 hx (hb hby at_176) rfl rfl rfl ?_
    refine Run.x_iconst (q := 179) X26 hx (hb hby at_178) (z := (3 : Int32)) rfl rfl ?_
    refine Run.x_iload (q := 181) X26 hx (hb hby at_179) rfl rfl ?_
    refine Run.x_imul (q := 182) X26 hx (hb hby at_181) (z := (0 : Int32)) (by decide) rfl ?_
    refine Run.x_lload (q := 184) X26 hx (hb hby at_182) rfl rfl ?_
    refine Run.st (B := T26.setTop (mkF m 185 #[.val (.int p1), .val (.int p2), .val (.int p3), .val (.int p4), .val (.int p5), .val (.int p6), .val (.int (0 : Int32)), .val (.int vj), .val (.long z1), .second, .val (.long z2), .second, .val (.long z3), .second, .val (.long z4), .second, .val (.long z5), .second, .val (.long z6), .second, .val (.double (4741671816366391296 : UInt64)), .second, .val (.double (13965043853221167104 : UInt64)), .second, .val (.ref b7), .val (.ref b17), .unset, .unset, .unset, .unset, .unset, .unset, .unset, .unset, .unset, .unset] [(.double (FP.l2d z1)), (.int (0 : Int32)), (.ref b7)])) (fun t kt => XS.l2dS X26.here hx rfl (hb hby at_184) rfl rfl kt) ?_
    replace A_b7 := (((((((((A_b7.ext E17).other W18 ne_b7_b17).other W19 ne_b7_b17).other W20 ne_b7_b17).other W21 ne_b7_b17).other W22 ne_b7_b17).other W23 ne_b7_b17).other W24 ne_b7_b17).other W25 ne_b7_b17).other W26 ne_b7_b17
    refine Run.stD X26 hx hZ e26 A_b7 (i := 0) (by decide) (Nat.le_of_ble_eq_true rfl) (hb hby at_185) ?_
    intro T27 h27 X27 e27 W27 A27
    replace A_b7 : Ars Z h27 b7 .double [(.double (FP.l2d z1)), (.double (4741671816366391296 : UInt64)), (.double (4741671816366391296 : UInt64)), (.double (4741671816366391296 : UInt64)), (.double (4741671816366391296 : UInt64)), (.double (4741671816366391296 : UInt64)), (.double (4741671816366391296 : UInt64)), (.double (4741671816366391296 : UInt64)), (.double (4741671816366391296 : UInt64))] := A27
    have N27 := Fr.snoc X27 N26 g_b7
    have Z27 : n0 ≤ h27.size := Nat.le_trans Z26 (Nat.le_of_eq W27.size.symm)
    show Run p e below s _ _ _ (T27.setTop (mkF m 186 #[.val (.int p1), .val (.int p2), .val (.int p3), .val (.int p4), .val (.int p5), .val (.int p6), .val (.int (0 : Int32)), .val (.int vj), .val (.long z1), .second, .val (.long z2), .second, .val (.long z3), .second, .val (.long z4), .second, .val (.long z5), .second, .val (.long z6), .second, .val (.double (4741671816366391296 : UInt64)), .second, .val (.double (13965043853221167104 : UInt64)), .second, .val (.ref b7), .val (.ref b17), .unset, .unset, .unset, .unset, .unset, .unset, .unset, .unset, .unset, .unset] []))
    refine Run.x_aload (q := 188) X27 hx (hb hby at_186) rfl rfl rfl ?_
    refine Run.x_iconst (q := 189) X27 hx (hb hby at_188) (z := (3 : Int32)) rfl rfl ?_
    refine Run.x_iload (q := 191) X27 hx (hb hby at_189) rfl rfl ?_
    refine Run.x_imul (q := 192) X27 hx (hb hby at_191) (z := (0 : Int32)) (by decide) rfl ?_
    refine Run.x_iconst (q := 193) X27 hx (hb hby at_192) (z := (1 : Int32)) rfl rfl ?_
    refine Run.x_iadd (q := 194) X27 hx (hb hby at_193) (z := (1 : Int32)) (by decide) rfl ?_
    refine Run.x_lload (q := 196) X27 hx (hb hby at_194) rfl rfl ?_
    refine Run.st (B := T27.setTop (mkF m 197 #[.val (.int p1), .val (.int p2), .val (.int p3), .val (.int p4), .val (.int p5), .val (.int p6), .val (.int (0 : Int32)), .val (.int vj), .val (.long z1), .second, .val (.long z2), .second, .val (.long z3), .second, .val (.long z4), .second, .val (.long z5), .second, .val (.long z6), .second, .val (.double (4741671816366391296 : UInt64)), .second, .val (.double (13965043853221167104 : UInt64)), .second, .val (.ref b7), .val (.ref b17), .unset, .unset, .unset, .unset, .unset, .unset, .unset, .unset, .unset, .unset] [(.double (FP.l2d z2)), (.int (1 : Int32)), (.ref b7)])) (fun t kt => XS.l2dS X27.here hx rfl (hb hby at_196) rfl rfl kt) ?_
    refine Run.stD X27 hx hZ e27 A_b7 (i := 1) (by decide) (Nat.le_of_ble_eq_true rfl) (hb hby at_197) ?_
    intro T28 h28 X28 e28 W28 A28
    replace A_b7 : Ars Z h28 b7 .double [(.double (FP.l2d z1)), (.double (FP.l2d z2)), (.double (4741671816366391296 : UInt64)), (.double (4741671816366391296 : UInt64)), (.double (4741671816366391296 : UInt64)), (.double (4741671816366391296 : UInt64)), (.double (4741671816366391296 : UInt64)), (.double (4741671816366391296 : UInt64)), (.double (4741671816366391296 : UInt64))] := A28
    have N28 := Fr.snoc X28 N27 g_b7
    have Z28 : n0 ≤ h28.size := Nat.le_trans Z27 (Nat.le_of_eq W28.size.symm)
    show Run p e below s _ _ _ (T28.setTop (mkF m 198 #[.val (.int p1), .val (.int p2), .val (.int p3), .val (.int p4), .val (.int p5), .val (.int p6), .val (.int (0 : Int32)), .val (.int vj), .val (.long z1), .second, .val (.long z2), .second, .val (.long z3), .second, .val (.long z4), .second, .val (.long z5), .second, .val (.long z6), .second, .val (.double (4741671816366391296 : UInt64)), .second, .val (.double (13965043853221167104 : UInt64)), .second, .val (.ref b7), .val (.ref b17), .unset, .unset, .unset, .unset, .unset, .unset, .unset, .unset, .unset, .unset] []))
    refine Run.x_aload (q := 200) X28 hx (hb hby at_198) rfl rfl rfl ?_
    refine Run.x_iconst (q := 201) X28 hx (hb hby at_200) (z := (3 : Int32)) rfl rfl ?_
    refine Run.x_iload (q := 203) X28 hx (hb hby at_201) rfl rfl ?_
    refine Run.x_imul (q := 204) X28 hx (hb hby at_203) (z := (0 : Int32)) (by decide) rfl ?_
    refine Run.x_iconst (q := 205) X28 hx (hb hby at_204) (z := (2 : Int32)) rfl rfl ?_
    refine Run.x_iadd (q := 206) X28 hx (hb hby at_205) (z := (2 : Int32)) (by decide) rfl ?_
    refine Run.x_lload (q := 208) X28 hx (hb hby at_206) rfl rfl ?_
    refine Run.st (B := T28.setTop (mkF m 209 #[.val (.int p1), .val (.int p2), .val (.int p3), .val (.int p4), .val (.int p5), .val (.int p6), .val (.int (0 : Int32)), .val (.int vj), .val (.long z1), .second, .val (.long z2), .second, .val (.long z3), .second, .val (.long z4), .second, .val (.long z5), .second, .val (.long z6), .second, .val (.double (4741671816366391296 : UInt64)), .second, .val (.double (13965043853221167104 : UInt64)), .second, .val (.ref b7), .val (.ref b17), .unset, .unset, .unset, .unset, .unset, .unset, .unset, .unset, .unset, .unset] [(.double (FP.l2d z3)), (.int (2 : Int32)), (.ref b7)])) (fun t kt => XS.l2dS X28.here hx rfl (hb hby at_208) rfl rfl kt) ?_
    refine Run.stD X28 hx hZ e28 A_b7 (i := 2) (by decide) (Nat.le_of_ble_eq_true rfl) (hb hby at_209) ?_
    intro T29 h29 X29 e29 W29 A29
    replace A_b7 : Ars Z h29 b7 .double [(.double (FP.l2d z1)), (.double (FP.l2d z2)), (.double (FP.l2d z3)), (.double (4741671816366391296 : UInt64)), (.double (4741671816366391296 : UInt64)), (.double (4741671816366391296 : UInt64)), (.double (4741671816366391296 : UInt64)), (.double (4741671816366391296 : UInt64)), (.double (4741671816366391296 : UInt64))] := A29
    have N29 := Fr.snoc X29 N28 g_b7
    have Z29 : n0 ≤ h29.size := Nat.le_trans Z28 (Nat.le_of_eq W29.size.symm)
    show Run p e below s _ _ _ (T29.setTop (mkF m 210 #[.val (.int p1), .val (.int p2), .val (.int p3), .val (.int p4), .val (.int p5), .val (.int p6), .val (.int (0 : Int32)), .val (.int vj), .val (.long z1), .second, .val (.long z2), .second, .val (.long z3), .second, .val (.long z4), .second, .val (.long z5), .second, .val (.long z6), .second, .val (.double (4741671816366391296 : UInt64)), .second, .val (.double (13965043853221167104 : UInt64)), .second, .val (.ref b7), .val (.ref b17), .unset, .unset, .unset, .unset, .unset, .unset, .unset, .unset, .unset, .unset] []))
    rcases own_i hvj with rfl | rfl | rfl
    · skip
      show Run p e below s _ _ _ (T29.setTop (mkF m 210 #[.val (.int p1), .val (.int p2), .val (.int p3), .val (.int p4), .val (.int p5), .val (.int p6), .val (.int (0 : Int32)), .val (.int (0 : Int32)), .val (.long z1), .second, .val (.long z2), .second, .val (.long z3), .second, .val (.long z4), .second, .val (.long z5), .second, .val (.long z6), .second, .val (.double (4741671816366391296 : UInt64)), .second, .val (.double (13965043853221167104 : UInt64)), .second, .val (.ref b7), .val (.ref b17), .unset, .unset, .unset, .unset, .unset, .unset, .unset, .unset, .unset, .unset] []))
      refine Run.x_aload (q := 212) X29 hx (hb hby at_210) rfl rfl rfl ?_
      refine Run.x_iconst (q := 213) X29 hx (hb hby at_212) (z := (3 : Int32)) rfl rfl ?_
      refine Run.x_iload (q := 215) X29 hx (hb hby at_213) rfl rfl ?_
      refine Run.x_imul (q := 216) X29 hx (hb hby at_215) (z := (0 : Int32)) (by decide) rfl ?_
      refine Run.x_lload (q := 218) X29 hx (hb hby at_216) rfl rfl ?_
      refine Run.st (B := T29.setTop (mkF m 219 #[.val (.int p1), .val (.int p2), .val (.int p3), .val (.int p4), .val (.int p5), .val (.int p6), .val (.int (0 : Int32)), .val (.int (0 : Int32)), .val (.long z1), .second, .val (.long z2), .second, .val (.long z3), .second, .val (.long z4), .second, .val (.long z5), .second, .val (.long z6), .second, .val (.double (4741671816366391296 : UInt64)), .second, .val (.double (13965043853221167104 : UInt64)), .second, .val (.ref b7), .val (.ref b17), .unset, .unset, .unset, .unset, .unset, .unset, .unset, .unset, .unset, .unset] [(.double (FP.l2d z4)), (.int (0 : Int32)), (.ref b17)])) (fun t kt => XS.l2dS X29.here hx rfl (hb hby at_218) rfl rfl kt) ?_
      replace A_b17 := ((A_b17.other W27 (Ne.symm ne_b7_b17)).other W28 (Ne.symm ne_b7_b17)).other W29 (Ne.symm ne_b7_b17)
      refine Run.stD X29 hx hZ e29 A_b17 (i := 0) (by decide) (Nat.le_of_ble_eq_true rfl) (hb hby at_219) ?_
      intro T30 h30 X30 e30 W30 A30
      replace A_b17 : Ars Z h30 b17 .double [(.double (FP.l2d z4)), (.double (13965043853221167104 : UInt64)), (.double (13965043853221167104 : UInt64)), (.double (13965043853221167104 : UInt64)), (.double (13965043853221167104 : UInt64)), (.double (13965043853221167104 : UInt64)), (.double (13965043853221167104 : UInt64)), (.double (13965043853221167104 : UInt64)), (.double (13965043853221167104 : UInt64))] := A30
      have N30 := Fr.snoc X30 N29 g_b17
      have Z30 : n0 ≤ h30.size := Nat.le_trans Z29 (Nat.le_of_eq W30.size.symm)
      show Run p e below s _ _ _ (T30.setTop (mkF m 220 #[.val (.int p1), .val (.int p2), .val (.int p3), .val (.int p4), .val (.int p5), .val (.int p6), .val (.int (0 : Int32)), .val (.int (0 : Int32)), .val (.long z1), .second, .val (.long z2), .second, .val (.long z3), .second, .val (.long z4), .second, .val (.long z5), .second, .val (.long z6), .second, .val (.double (4741671816366391296 : UInt64)), .second, .val (.double (13965043853221167104 : UInt64)), .second, .val (.ref b7), .val (.ref b17), .unset, .unset, .unset, .unset, .unset, .unset, .unset, .unset, .unset, .unset] []))
      refine Run.x_aload (q := 222) X30 hx (hb hby at_220) rfl rfl rfl ?_
      refine Run.x_iconst (q := 223) X30 hx (hb hby at_222) (z := (3 : Int32)) rfl rfl ?_
      refine Run.x_iload (q := 225) X30 hx (hb hby at_223) rfl rfl ?_
      refine Run.x_imul (q := 226) X30 hx (hb hby at_225) (z := (0 : Int32)) (by decide) rfl ?_
      refine Run.x_iconst (q := 227) X30 hx (hb hby at_226) (z := (1 : Int32)) rfl rfl ?_
      refine Run.x_iadd (q := 228) X30 hx (hb hby at_227) (z := (1 : Int32)) (by decide) rfl ?_
      refine Run.x_lload (q := 230) X30 hx (hb hby at_228) rfl rfl ?_
      refine Run.st (B := T30.setTop (mkF m 231 #[.val (.int p1), .val (.int p2), .val (.int p3), .val (.int p4), .val (.int p5), .val (.int p6), .val (.int (0 : Int32)), .val (.int (0 : Int32)), .val (.long z1), .second, .val (.long z2), .second, .val (.long z3), .second, .val (.long z4), .second, .val (.long z5), .second, .val (.long z6), .second, .val (.double (4741671816366391296 : UInt64)), .second, .val (.double (13965043853221167104 : UInt64)), .second, .val (.ref b7), .val (.ref b17), .unset, .unset, .unset, .unset, .unset, .unset, .unset, .unset, .unset, .unset] [(.double (FP.l2d z5)), (.int (1 : Int32)), (.ref b17)])) (fun t kt => XS.l2dS X30.here hx rfl (hb hby at_230) rfl rfl kt) ?_
      refine Run.stD X30 hx hZ e30 A_b17 (i := 1) (by decide) (Nat.le_of_ble_eq_true rfl) (hb hby at_231) ?_
      intro T31 h31 X31 e31 W31 A31
      replace A_b17 : Ars Z h31 b17 .double [(.double (FP.l2d z4)), (.double (FP.l2d z5)), (.double (13965043853221167104 : UInt64)), (.double (13965043853221167104 : UInt64)), (.double (13965043853221167104 : UInt64)), (.double (13965043853221167104 : UInt64)), (.double (13965043853221167104 : UInt64)), (.double (13965043853221167104 : UInt64)), (.double (13965043853221167104 : UInt64))] := A31
      have N31 := Fr.snoc X31 N30 g_b17
      have Z31 : n0 ≤ h31.size := Nat.le_trans Z30 (Nat.le_of_eq W31.size.symm)
      show Run p e below s _ _ _ (T31.setTop (mkF m 232 #[.val (.int p1), .val (.int p2), .val (.int p3), .val (.int p4), .val (.int p5), .val (.int p6), .val (.int (0 : Int32)), .val (.int (0 : Int32)), .val (.long z1), .second, .val (.long z2), .second, .val (.long z3), .second, .val (.long z4), .second, .val (.long z5), .second, .val (.long z6), .second, .val (.double (4741671816366391296 : UInt64)), .second, .val (.double (13965043853221167104 : UInt64)), .second, .val (.ref b7), .val (.ref b17), .unset, .unset, .unset, .unset, .unset, .unset, .unset, .unset, .unset, .unset] []))
      refine Run.x_aload (q := 234) X31 hx (hb hby at_232) rfl rfl rfl ?_
      refine Run.x_iconst (q := 235) X31 hx (hb hby at_234) (z := (3 : Int32)) rfl rfl ?_
      refine Run.x_iload (q := 237) X31 hx (hb hby at_235) rfl rfl ?_
      refine Run.x_imul (q := 238) X31 hx (hb hby at_237) (z := (0 : Int32)) (by decide) rfl ?_
      refine Run.x_iconst (q := 239) X31 hx (hb hby at_238) (z := (2 : Int32)) rfl rfl ?_
      refine Run.x_iadd (q := 240) X31 hx (hb hby at_239) (z := (2 : Int32)) (by decide) rfl ?_
      refine Run.x_lload (q := 242) X31 hx (hb hby at_240) rfl rfl ?_
      refine Run.st (B := T31.setTop (mkF m 243 #[.val (.int p1), .val (.int p2), .val (.int p3), .val (.int p4), .val (.int p5), .val (.int p6), .val (.int (0 : Int32)), .val (.int (0 : Int32)), .val (.long z1), .second, .val (.long z2), .second, .val (.long z3), .second, .val (.long z4), .second, .val (.long z5), .second, .val (.long z6), .second, .val (.double (4741671816366391296 : UInt64)), .second, .val (.double (13965043853221167104 : UInt64)), .second, .val (.ref b7), .val (.ref b17), .unset, .unset, .unset, .unset, .unset, .unset, .unset, .unset, .unset, .unset] [(.double (FP.l2d z6)), (.int (2 : Int32)), (.ref b17)])) (fun t kt => XS.l2dS X31.here hx rfl (hb hby at_242) rfl rfl kt) ?_
      refine Run.stD X31 hx hZ e31 A_b17 (i := 2) (by decide) (Nat.le_of_ble_eq_true rfl) (hb hby at_243) ?_
      intro T32 h32 X32 e32 W32 A32
      replace A_b17 : Ars Z h32 b17 .double [(.double (FP.l2d z4)), (.double (FP.l2d z5)), (.double (FP.l2d z6)), (.double (13965043853221167104 : UInt64)), (.double (13965043853221167104 : UInt64)), (.double (13965043853221167104 : UInt64)), (.double (13965043853221167104 : UInt64)), (.double (13965043853221167104 : UInt64)), (.double (13965043853221167104 : UInt64))] := A32
      have N32 := Fr.snoc X32 N31 g_b17
      have Z32 : n0 ≤ h32.size := Nat.le_trans Z31 (Nat.le_of_eq W32.size.symm)
      show Run p e below s _ _ _ (T32.setTop (mkF m 244 #[.val (.int p1), .val (.int p2), .val (.int p3), .val (.int p4), .val (.int p5), .val (.int p6), .val (.int (0 : Int32)), .val (.int (0 : Int32)), .val (.long z1), .second, .val (.long z2), .second, .val (.long z3), .second, .val (.long z4), .second, .val (.long z5), .second, .val (.long z6), .second, .val (.double (4741671816366391296 : UInt64)), .second, .val (.double (13965043853221167104 : UInt64)), .second, .val (.ref b7), .val (.ref b17), .unset, .unset, .unset, .unset, .unset, .unset, .unset, .unset, .unset, .unset] []))
      refine Run.x_lload (q := 246) X32 hx (hb hby at_244) rfl rfl ?_
      refine Run.x_lload (q := 248) X32 hx (hb hby at_246) rfl rfl ?_
      refine Run.x_lsub (q := 249) X32 hx (hb hby at_248) rfl rfl ?_
      refine Run.x_lstore (q := 251) X32 hx #[.val (.int p1), .val (.int p2), .val (.int p3), .val (.int p4), .val (.int p5), .val (.int p6), .val (.int (0 : Int32)), .val (.int (0 : Int32)), .val (.long z1), .second, .val (.long z2), .second, .val (.long z3), .second, .val (.long z4), .second, .val (.long z5), .second, .val (.long z6), .second, .val (.double (4741671816366391296 : UInt64)), .second, .val (.double (13965043853221167104 : UInt64)), .second, .val (.ref b7), .val (.ref b17), .val (.long (z1 - z4)), .second, .unset, .unset, .unset, .unset, .unset, .unset, .unset, .unset] (hb hby at_249) rfl rfl ?_
      refine Run.x_lload (q := 253) X32 hx (hb hby at_251) rfl rfl ?_
      refine Run.x_lload (q := 255) X32 hx (hb hby at_253) rfl rfl ?_
      refine Run.x_lsub (q := 256) X32 hx (hb hby at_255) rfl rfl ?_
      refine Run.x_lstore (q := 258) X32 hx #[.val (.int p1), .val (.int p2), .val (.int p3), .val (.int p4), .val (.int p5), .val (.int p6), .val (.int (0 : Int32)), .val (.int (0 : Int32)), .val (.long z1), .second, .val (.long z2), .second, .val (.long z3), .second, .val (.long z4), .second, .val (.long z5), .second, .val (.long z6), .second, .val (.double (4741671816366391296 : UInt64)), .second, .val (.double (13965043853221167104 : UInt64)), .second, .val (.ref b7), .val (.ref b17), .val (.long (z1 - z4)), .second, .val (.long (z2 - z5)), .second, .unset, .unset, .unset, .unset, .unset, .unset] (hb hby at_256) rfl rfl ?_
      refine Run.x_lload (q := 260) X32 hx (hb hby at_258) rfl rfl ?_
      refine Run.x_lload (q := 262) X32 hx (hb hby at_260) rfl rfl ?_
      refine Run.x_lsub (q := 263) X32 hx (hb hby at_262) rfl rfl ?_
      refine Run.x_lstore (q := 265) X32 hx #[.val (.int p1), .val (.int p2), .val (.int p3), .val (.int p4), .val (.int p5), .val (.int p6), .val (.int (0 : Int32)), .val (.int (0 : Int32)), .val (.long z1), .second, .val (.long z2), .second, .val (.long z3), .second, .val (.long z4), .second, .val (.long z5), .second, .val (.long z6), .second, .val (.double (4741671816366391296 : UInt64)), .second, .val (.double (13965043853221167104 : UInt64)), .second, .val (.ref b7), .val (.ref b17), .val (.long (z1 - z4)), .second, .val (.long (z2 - z5)), .second, .val (.long (z3 - z6)), .second, .unset, .unset, .unset, .unset] (hb hby at_263) rfl rfl ?_
      refine Run.x_lload (q := 267) X32 hx (hb hby at_265) rfl rfl ?_
      refine Run.x_lload (q := 269) X32 hx (hb hby at_267) rfl rfl ?_
      refine Run.x_lmul (q := 270) X32 hx (hb hby at_269) rfl rfl ?_
      refine Run.x_lload (q := 272) X32 hx (hb hby at_270) rfl rfl ?_
      refine Run.x_lload (q := 274) X32 hx (hb hby at_272) rfl rfl ?_
      refine Run.x_lmul (q := 275) X32 hx (hb hby at_274) rfl rfl ?_
      refine Run.x_ladd (q := 276) X32 hx (hb hby at_275) rfl rfl ?_
      refine Run.x_lload (q := 278) X32 hx (hb hby at_276) rfl rfl ?_
      refine Run.x_lload (q := 280) X32 hx (hb hby at_278) rfl rfl ?_
      refine Run.x_lmul (q := 281) X32 hx (hb hby at_280) rfl rfl ?_
      refine Run.x_ladd (q := 282) X32 hx (hb hby at_281) rfl rfl ?_
      refine Run.x_lstore (q := 284) X32 hx #[.val (.int p1), .val (.int p2), .val (.int p3), .val (.int p4), .val (.int p5), .val (.int p6), .val (.int (0 : Int32)), .val (.int (0 : Int32)), .val (.long z1), .second, .val (.long z2), .second, .val (.long z3), .second, .val (.long z4), .second, .val (.long z5), .second, .val (.long z6), .second, .val (.double (4741671816366391296 : UInt64)), .second, .val (.double (13965043853221167104 : UInt64)), .second, .val (.ref b7), .val (.ref b17), .val (.long (z1 - z4)), .second, .val (.long (z2 - z5)), .second, .val (.long (z3 - z6)), .second, .val (.long ((((z1 - z4) * (z1 - z4)) + ((z2 - z5) * (z2 - z5))) + ((z3 - z6) * (z3 - z6)))), .second, .unset, .unset] (hb hby at_282) rfl rfl ?_
      refine Run.x_aload (q := 286) X32 hx (hb hby at_284) rfl rfl rfl ?_
      refine Run.x_iload (q := 288) X32 hx (hb hby at_286) rfl rfl ?_
      refine Run.x_aload (q := 290) X32 hx (hb hby at_288) rfl rfl rfl ?_
      refine Run.x_iload (q := 292) X32 hx (hb hby at_290) rfl rfl ?_
      replace A_b7 := ((A_b7.other W30 ne_b7_b17).other W31 ne_b7_b17).other W32 ne_b7_b17
      refine Run.callS X32 hx hZ e32 (y := (⟨"org/tertiary/analysis/Superposition", "squaredDistance", "([DI[DI)D"⟩ : MethodName)) hown (hw _ (List.mem_of_getElem? (i := 7) rfl)) (hw _ (List.mem_of_getElem? (i := 8) rfl)) (hw _ (List.mem_of_getElem? (i := 9) rfl)) (hw _ (List.mem_of_getElem? (i := 10) rfl)) (by decide) (argsL := [(.ref b7), (.int (0 : Int32)), (.ref b17), (.int (0 : Int32))]) (rest := []) (c_sd l Z a0 hw b7 (0 : Int32) b17 (0 : Int32) h32 n0 Z32 [(Value.double (FP.l2d z1)), (Value.double (FP.l2d z2)), (Value.double (FP.l2d z3)), (Value.double (4741671816366391296 : UInt64)), (Value.double (4741671816366391296 : UInt64)), (Value.double (4741671816366391296 : UInt64)), (Value.double (4741671816366391296 : UInt64)), (Value.double (4741671816366391296 : UInt64)), (Value.double (4741671816366391296 : UInt64))] [(Value.double (FP.l2d z4)), (Value.double (FP.l2d z5)), (Value.double (FP.l2d z6)), (Value.double (13965043853221167104 : UInt64)), (Value.double (13965043853221167104 : UInt64)), (Value.double (13965043853221167104 : UInt64)), (Value.double (13965043853221167104 : UInt64)), (Value.double (13965043853221167104 : UInt64)), (Value.double (13965043853221167104 : UInt64))] 0 0 z1 z2 z3 z4 z5 z6 A_b7 A_b17 rfl (by decide) rfl (by decide) rfl rfl hz1 hz4 rfl rfl hz2 hz5 rfl rfl hz3 hz6) pd_1 rfl (by rw [hml]; rfl) (W := 0) rfl (by decide) (by decide) (by decide) (by decide) (hb hby at_292) rfl ?_
      intro T33 v33 L33 X33 q33
      obtain ⟨rfl, M33, e33⟩ := q33
      have N33 := Fr.app N32 M33
      show Run p e below s _ _ _ (T33.setTop (mkF m 295 #[.val (.int p1), .val (.int p2), .val (.int p3), .val (.int p4), .val (.int p5), .val (.int p6), .val (.int (0 : Int32)), .val (.int (0 : Int32)), .val (.long z1), .second, .val (.long z2), .second, .val (.long z3), .second, .val (.long z4), .second, .val (.long z5), .second, .val (.long z6), .second, .val (.double (4741671816366391296 : UInt64)), .second, .val (.double (13965043853221167104 : UInt64)), .second, .val (.ref b7), .val (.ref b17), .val (.long (z1 - z4)), .second, .val (.long (z2 - z5)), .second, .val (.long (z3 - z6)), .second, .val (.long ((((z1 - z4) * (z1 - z4)) + ((z2 - z5) * (z2 - z5))) + ((z3 - z6) * (z3 - z6)))), .second, .unset, .unset] [(.double (FP.l2d ((((z1 - z4) * (z1 - z4)) + ((z2 - z5) * (z2 - z5))) + ((z3 - z6) * (z3 - z6)))))]))
      refine Run.st (B := T33.setTop (mkF m 297 #[.val (.int p1), .val (.int p2), .val (.int p3), .val (.int p4), .val (.int p5), .val (.int p6), .val (.int (0 : Int32)), .val (.int (0 : Int32)), .val (.long z1), .second, .val (.long z2), .second, .val (.long z3), .second, .val (.long z4), .second, .val (.long z5), .second, .val (.long z6), .second, .val (.double (4741671816366391296 : UInt64)), .second, .val (.double (13965043853221167104 : UInt64)), .second, .val (.ref b7), .val (.ref b17), .val (.long (z1 - z4)), .second, .val (.long (z2 - z5)), .second, .val (.long (z3 - z6)), .second, .val (.long ((((z1 - z4) * (z1 - z4)) + ((z2 - z5) * (z2 - z5))) + ((z3 - z6) * (z3 - z6)))), .second, .val (.double (FP.l2d ((((z1 - z4) * (z1 - z4)) + ((z2 - z5) * (z2 - z5))) + ((z3 - z6) * (z3 - z6))))), .second] [])) (fun t kt => XS.dstore X33.here hx rfl (hb hby at_295) rfl (l' := #[.val (.int p1), .val (.int p2), .val (.int p3), .val (.int p4), .val (.int p5), .val (.int p6), .val (.int (0 : Int32)), .val (.int (0 : Int32)), .val (.long z1), .second, .val (.long z2), .second, .val (.long z3), .second, .val (.long z4), .second, .val (.long z5), .second, .val (.long z6), .second, .val (.double (4741671816366391296 : UInt64)), .second, .val (.double (13965043853221167104 : UInt64)), .second, .val (.ref b7), .val (.ref b17), .val (.long (z1 - z4)), .second, .val (.long (z2 - z5)), .second, .val (.long (z3 - z6)), .second, .val (.long ((((z1 - z4) * (z1 - z4)) + ((z2 - z5) * (z2 - z5))) + ((z3 - z6) * (z3 - z6)))), .second, .val (.double (FP.l2d ((((z1 - z4) * (z1 - z4)) + ((z2 - z5) * (z2 - z5))) + ((z3 - z6) * (z3 - z6))))), .second]) rfl kt) ?_
      refine Run.st (B := T33.setTop (mkF m 299 #[.val (.int p1), .val (.int p2), .val (.int p3), .val (.int p4), .val (.int p5), .val (.int p6), .val (.int (0 : Int32)), .val (.int (0 : Int32)), .val (.long z1), .second, .val (.long z2), .second, .val (.long z3), .second, .val (.long z4), .second, .val (.long z5), .second, .val (.long z6), .second, .val (.double (4741671816366391296 : UInt64)), .second, .val (.double (13965043853221167104 : UInt64)), .second, .val (.ref b7), .val (.ref b17), .val (.long (z1 - z4)), .second, .val (.long (z2 - z5)), .second, .val (.long (z3 - z6)), .second, .val (.long ((((z1 - z4) * (z1 - z4)) + ((z2 - z5) * (z2 - z5))) + ((z3 - z6) * (z3 - z6)))), .second, .val (.double (FP.l2d ((((z1 - z4) * (z1 - z4)) + ((z2 - z5) * (z2 - z5))) + ((z3 - z6) * (z3 - z6))))), .second] [(.double (FP.l2d ((((z1 - z4) * (z1 - z4)) + ((z2 - z5) * (z2 - z5))) + ((z3 - z6) * (z3 - z6)))))])) (fun t kt => XS.dload X33.here hx rfl (hb hby at_297) rfl kt) ?_
      refine Run.x_lload (q := 301) X33 hx (hb hby at_299) rfl rfl ?_
      refine Run.st (B := T33.setTop (mkF m 302 #[.val (.int p1), .val (.int p2), .val (.int p3), .val (.int p4), .val (.int p5), .val (.int p6), .val (.int (0 : Int32)), .val (.int (0 : Int32)), .val (.long z1), .second, .val (.long z2), .second, .val (.long z3), .second, .val (.long z4), .second, .val (.long z5), .second, .val (.long z6), .second, .val (.double (4741671816366391296 : UInt64)), .second, .val (.double (13965043853221167104 : UInt64)), .second, .val (.ref b7), .val (.ref b17), .val (.long (z1 - z4)), .second, .val (.long (z2 - z5)), .second, .val (.long (z3 - z6)), .second, .val (.long ((((z1 - z4) * (z1 - z4)) + ((z2 - z5) * (z2 - z5))) + ((z3 - z6) * (z3 - z6)))), .second, .val (.double (FP.l2d ((((z1 - z4) * (z1 - z4)) + ((z2 - z5) * (z2 - z5))) + ((z3 - z6) * (z3 - z6))))), .second] [(.double (FP.l2d ((((z1 - z4) * (z1 - z4)) + ((z2 - z5) * (z2 - z5))) + ((z3 - z6) * (z3 - z6))))), (.double (FP.l2d ((((z1 - z4) * (z1 - z4)) + ((z2 - z5) * (z2 - z5))) + ((z3 - z6) * (z3 - z6)))))])) (fun t kt => XS.l2dS X33.here hx rfl (hb hby at_301) rfl rfl kt) ?_
      refine Run.st (B := T33.setTop (mkF m 303 #[.val (.int p1), .val (.int p2), .val (.int p3), .val (.int p4), .val (.int p5), .val (.int p6), .val (.int (0 : Int32)), .val (.int (0 : Int32)), .val (.long z1), .second, .val (.long z2), .second, .val (.long z3), .second, .val (.long z4), .second, .val (.long z5), .second, .val (.long z6), .second, .val (.double (4741671816366391296 : UInt64)), .second, .val (.double (13965043853221167104 : UInt64)), .second, .val (.ref b7), .val (.ref b17), .val (.long (z1 - z4)), .second, .val (.long (z2 - z5)), .second, .val (.long (z3 - z6)), .second, .val (.long ((((z1 - z4) * (z1 - z4)) + ((z2 - z5) * (z2 - z5))) + ((z3 - z6) * (z3 - z6)))), .second, .val (.double (FP.l2d ((((z1 - z4) * (z1 - z4)) + ((z2 - z5) * (z2 - z5))) + ((z3 - z6) * (z3 - z6))))), .second] [(.int (0 : Int32))])) (fun t kt => XS.dcmpS X33.here hx rfl (hb hby at_302) rfl (dcmpV_self (nn_w rfl) _) kt) ?_
      refine Run.x_ifNo (q := 306) X33 hx (hb hby at_303) ((if0 _ _).trans (teq (by decide : (0 : Int32) = (0 : Int32))).2) rfl ?_
      refine Run.x_iconst (q := 307) X33 hx (hb hby at_306) (z := (1 : Int32)) rfl rfl ?_
      refine Run.x_goto (q := 311) X33 hx (hb hby at_307) (by decide) (by decide) ?_
      refine Run.retN X33 hx hlk e33 (t := .boolean) hret (by simp) (z' := (1 : Int32)) (by decide) (hb hby at_311) (by decide) (by decide) ?_
      exact ⟨rfl, N33⟩
    · skip
      show Run p e below s _ _ _ (T29.setTop (mkF m 210 #[.val (.int p1), .val (.int p2), .val (.int p3), .val (.int p4), .val (.int p5), .val (.int p6), .val (.int (0 : Int32)), .val (.int (1 : Int32)), .val (.long z1), .second, .val (.long z2), .second, .val (.long z3), .second, .val (.long z4), .second, .val (.long z5), .second, .val (.long z6), .second, .val (.double (4741671816366391296 : UInt64)), .second, .val (.double (13965043853221167104 : UInt64)), .second, .val (.ref b7), .val (.ref b17), .unset, .unset, .unset, .unset, .unset, .unset, .unset, .unset, .unset, .unset] []))
      refine Run.x_aload (q := 212) X29 hx (hb hby at_210) rfl rfl rfl ?_
      refine Run.x_iconst (q := 213) X29 hx (hb hby at_212) (z := (3 : Int32)) rfl rfl ?_
      refine Run.x_iload (q := 215) X29 hx (hb hby at_213) rfl rfl ?_
      refine Run.x_imul (q := 216) X29 hx (hb hby at_215) (z := (3 : Int32)) (by decide) rfl ?_
      refine Run.x_lload (q := 218) X29 hx (hb hby at_216) rfl rfl ?_
      refine Run.st (B := T29.setTop (mkF m 219 #[.val (.int p1), .val (.int p2), .val (.int p3), .val (.int p4), .val (.int p5), .val (.int p6), .val (.int (0 : Int32)), .val (.int (1 : Int32)), .val (.long z1), .second, .val (.long z2), .second, .val (.long z3), .second, .val (.long z4), .second, .val (.long z5), .second, .val (.long z6), .second, .val (.double (4741671816366391296 : UInt64)), .second, .val (.double (13965043853221167104 : UInt64)), .second, .val (.ref b7), .val (.ref b17), .unset, .unset, .unset, .unset, .unset, .unset, .unset, .unset, .unset, .unset] [(.double (FP.l2d z4)), (.int (3 : Int32)), (.ref b17)])) (fun t kt => XS.l2dS X29.here hx rfl (hb hby at_218) rfl rfl kt) ?_
      replace A_b17 := ((A_b17.other W27 (Ne.symm ne_b7_b17)).other W28 (Ne.symm ne_b7_b17)).other W29 (Ne.symm ne_b7_b17)
      refine Run.stD X29 hx hZ e29 A_b17 (i := 3) (by decide) (Nat.le_of_ble_eq_true rfl) (hb hby at_219) ?_
      intro T34 h34 X34 e34 W34 A34
      replace A_b17 : Ars Z h34 b17 .double [(.double (13965043853221167104 : UInt64)), (.double (13965043853221167104 : UInt64)), (.double (13965043853221167104 : UInt64)), (.double (FP.l2d z4)), (.double (13965043853221167104 : UInt64)), (.double (13965043853221167104 : UInt64)), (.double (13965043853221167104 : UInt64)), (.double (13965043853221167104 : UInt64)), (.double (13965043853221167104 : UInt64))] := A34
      have N34 := Fr.snoc X34 N29 g_b17
      have Z34 : n0 ≤ h34.size := Nat.le_trans Z29 (Nat.le_of_eq W34.size.symm)
      show Run p e below s _ _ _ (T34.setTop (mkF m 220 #[.val (.int p1), .val (.int p2), .val (.int p3), .val (.int p4), .val (.int p5), .val (.int p6), .val (.int (0 : Int32)), .val (.int (1 : Int32)), .val (.long z1), .second, .val (.long z2), .second, .val (.long z3), .second, .val (.long z4), .second, .val (.long z5), .second, .val (.long z6), .second, .val (.double (4741671816366391296 : UInt64)), .second, .val (.double (13965043853221167104 : UInt64)), .second, .val (.ref b7), .val (.ref b17), .unset, .unset, .unset, .unset, .unset, .unset, .unset, .unset, .unset, .unset] []))
      refine Run.x_aload (q := 222) X34 hx (hb hby at_220) rfl rfl rfl ?_
      refine Run.x_iconst (q := 223) X34 hx (hb hby at_222) (z := (3 : Int32)) rfl rfl ?_
      refine Run.x_iload (q := 225) X34 hx (hb hby at_223) rfl rfl ?_
      refine Run.x_imul (q := 226) X34 hx (hb hby at_225) (z := (3 : Int32)) (by decide) rfl ?_
      refine Run.x_iconst (q := 227) X34 hx (hb hby at_226) (z := (1 : Int32)) rfl rfl ?_
      refine Run.x_iadd (q := 228) X34 hx (hb hby at_227) (z := (4 : Int32)) (by decide) rfl ?_
      refine Run.x_lload (q := 230) X34 hx (hb hby at_228) rfl rfl ?_
      refine Run.st (B := T34.setTop (mkF m 231 #[.val (.int p1), .val (.int p2), .val (.int p3), .val (.int p4), .val (.int p5), .val (.int p6), .val (.int (0 : Int32)), .val (.int (1 : Int32)), .val (.long z1), .second, .val (.long z2), .second, .val (.long z3), .second, .val (.long z4), .second, .val (.long z5), .second, .val (.long z6), .second, .val (.double (4741671816366391296 : UInt64)), .second, .val (.double (13965043853221167104 : UInt64)), .second, .val (.ref b7), .val (.ref b17), .unset, .unset, .unset, .unset, .unset, .unset, .unset, .unset, .unset, .unset] [(.double (FP.l2d z5)), (.int (4 : Int32)), (.ref b17)])) (fun t kt => XS.l2dS X34.here hx rfl (hb hby at_230) rfl rfl kt) ?_
      refine Run.stD X34 hx hZ e34 A_b17 (i := 4) (by decide) (Nat.le_of_ble_eq_true rfl) (hb hby at_231) ?_
      intro T35 h35 X35 e35 W35 A35
      replace A_b17 : Ars Z h35 b17 .double [(.double (13965043853221167104 : UInt64)), (.double (13965043853221167104 : UInt64)), (.double (13965043853221167104 : UInt64)), (.double (FP.l2d z4)), (.double (FP.l2d z5)), (.double (13965043853221167104 : UInt64)), (.double (13965043853221167104 : UInt64)), (.double (13965043853221167104 : UInt64)), (.double (13965043853221167104 : UInt64))] := A35
      have N35 := Fr.snoc X35 N34 g_b17
      have Z35 : n0 ≤ h35.size := Nat.le_trans Z34 (Nat.le_of_eq W35.size.symm)
      show Run p e below s _ _ _ (T35.setTop (mkF m 232 #[.val (.int p1), .val (.int p2), .val (.int p3), .val (.int p4), .val (.int p5), .val (.int p6), .val (.int (0 : Int32)), .val (.int (1 : Int32)), .val (.long z1), .second, .val (.long z2), .second, .val (.long z3), .second, .val (.long z4), .second, .val (.long z5), .second, .val (.long z6), .second, .val (.double (4741671816366391296 : UInt64)), .second, .val (.double (13965043853221167104 : UInt64)), .second, .val (.ref b7), .val (.ref b17), .unset, .unset, .unset, .unset, .unset, .unset, .unset, .unset, .unset, .unset] []))
      refine Run.x_aload (q := 234) X35 hx (hb hby at_232) rfl rfl rfl ?_
      refine Run.x_iconst (q := 235) X35 hx (hb hby at_234) (z := (3 : Int32)) rfl rfl ?_
      refine Run.x_iload (q := 237) X35 hx (hb hby at_235) rfl rfl ?_
      refine Run.x_imul (q := 238) X35 hx (hb hby at_237) (z := (3 : Int32)) (by decide) rfl ?_
      refine Run.x_iconst (q := 239) X35 hx (hb hby at_238) (z := (2 : Int32)) rfl rfl ?_
      refine Run.x_iadd (q := 240) X35 hx (hb hby at_239) (z := (5 : Int32)) (by decide) rfl ?_
      refine Run.x_lload (q := 242) X35 hx (hb hby at_240) rfl rfl ?_
      refine Run.st (B := T35.setTop (mkF m 243 #[.val (.int p1), .val (.int p2), .val (.int p3), .val (.int p4), .val (.int p5), .val (.int p6), .val (.int (0 : Int32)), .val (.int (1 : Int32)), .val (.long z1), .second, .val (.long z2), .second, .val (.long z3), .second, .val (.long z4), .second, .val (.long z5), .second, .val (.long z6), .second, .val (.double (4741671816366391296 : UInt64)), .second, .val (.double (13965043853221167104 : UInt64)), .second, .val (.ref b7), .val (.ref b17), .unset, .unset, .unset, .unset, .unset, .unset, .unset, .unset, .unset, .unset] [(.double (FP.l2d z6)), (.int (5 : Int32)), (.ref b17)])) (fun t kt => XS.l2dS X35.here hx rfl (hb hby at_242) rfl rfl kt) ?_
      refine Run.stD X35 hx hZ e35 A_b17 (i := 5) (by decide) (Nat.le_of_ble_eq_true rfl) (hb hby at_243) ?_
      intro T36 h36 X36 e36 W36 A36
      replace A_b17 : Ars Z h36 b17 .double [(.double (13965043853221167104 : UInt64)), (.double (13965043853221167104 : UInt64)), (.double (13965043853221167104 : UInt64)), (.double (FP.l2d z4)), (.double (FP.l2d z5)), (.double (FP.l2d z6)), (.double (13965043853221167104 : UInt64)), (.double (13965043853221167104 : UInt64)), (.double (13965043853221167104 : UInt64))] := A36
      have N36 := Fr.snoc X36 N35 g_b17
      have Z36 : n0 ≤ h36.size := Nat.le_trans Z35 (Nat.le_of_eq W36.size.symm)
      show Run p e below s _ _ _ (T36.setTop (mkF m 244 #[.val (.int p1), .val (.int p2), .val (.int p3), .val (.int p4), .val (.int p5), .val (.int p6), .val (.int (0 : Int32)), .val (.int (1 : Int32)), .val (.long z1), .second, .val (.long z2), .second, .val (.long z3), .second, .val (.long z4), .second, .val (.long z5), .second, .val (.long z6), .second, .val (.double (4741671816366391296 : UInt64)), .second, .val (.double (13965043853221167104 : UInt64)), .second, .val (.ref b7), .val (.ref b17), .unset, .unset, .unset, .unset, .unset, .unset, .unset, .unset, .unset, .unset] []))
      refine Run.x_lload (q := 246) X36 hx (hb hby at_244) rfl rfl ?_
      refine Run.x_lload (q := 248) X36 hx (hb hby at_246) rfl rfl ?_
      refine Run.x_lsub (q := 249) X36 hx (hb hby at_248) rfl rfl ?_
      refine Run.x_lstore (q := 251) X36 hx #[.val (.int p1), .val (.int p2), .val (.int p3), .val (.int p4), .val (.int p5), .val (.int p6), .val (.int (0 : Int32)), .val (.int (1 : Int32)), .val (.long z1), .second, .val (.long z2), .second, .val (.long z3), .second, .val (.long z4), .second, .val (.long z5), .second, .val (.long z6), .second, .val (.double (4741671816366391296 : UInt64)), .second, .val (.double (13965043853221167104 : UInt64)), .second, .val (.ref b7), .val (.ref b17), .val (.long (z1 - z4)), .second, .unset, .unset, .unset, .unset, .unset, .unset, .unset, .unset] (hb hby at_249) rfl rfl ?_
      refine Run.x_lload (q := 253) X36 hx (hb hby at_251) rfl rfl ?_
      refine Run.x_lload (q := 255) X36 hx (hb hby at_253) rfl rfl ?_
      refine Run.x_lsub (q := 256) X36 hx (hb hby at_255) rfl rfl ?_
      refine Run.x_lstore (q := 258) X36 hx #[.val (.int p1), .val (.int p2), .val (.int p3), .val (.int p4), .val (.int p5), .val (.int p6), .val (.int (0 : Int32)), .val (.int (1 : Int32)), .val (.long z1), .second, .val (.long z2), .second, .val (.long z3), .second, .val (.long z4), .second, .val (.long z5), .second, .val (.long z6), .second, .val (.double (4741671816366391296 : UInt64)), .second, .val (.double (13965043853221167104 : UInt64)), .second, .val (.ref b7), .val (.ref b17), .val (.long (z1 - z4)), .second, .val (.long (z2 - z5)), .second, .unset, .unset, .unset, .unset, .unset, .unset] (hb hby at_256) rfl rfl ?_
      refine Run.x_lload (q := 260) X36 hx (hb hby at_258) rfl rfl ?_
      refine Run.x_lload (q := 262) X36 hx (hb hby at_260) rfl rfl ?_
      refine Run.x_lsub (q := 263) X36 hx (hb hby at_262) rfl rfl ?_
      refine Run.x_lstore (q := 265) X36 hx #[.val (.int p1), .val (.int p2), .val (.int p3), .val (.int p4), .val (.int p5), .val (.int p6), .val (.int (0 : Int32)), .val (.int (1 : Int32)), .val (.long z1), .second, .val (.long z2), .second, .val (.long z3), .second, .val (.long z4), .second, .val (.long z5), .second, .val (.long z6), .second, .val (.double (4741671816366391296 : UInt64)), .second, .val (.double (13965043853221167104 : UInt64)), .second, .val (.ref b7), .val (.ref b17), .val (.long (z1 - z4)), .second, .val (.long (z2 - z5)), .second, .val (.long (z3 - z6)), .second, .unset, .unset, .unset, .unset] (hb hby at_263) rfl rfl ?_
      refine Run.x_lload (q := 267) X36 hx (hb hby at_265) rfl rfl ?_
      refine Run.x_lload (q := 269) X36 hx (hb hby at_267) rfl rfl ?_
      refine Run.x_lmul (q := 270) X36 hx (hb hby at_269) rfl rfl ?_
      refine Run.x_lload (q := 272) X36 hx (hb hby at_270) rfl rfl ?_
      refine Run.x_lload (q := 274) X36 hx (hb hby at_272) rfl rfl ?_
      refine Run.x_lmul (q := 275) X36 hx (hb hby at_274) rfl rfl ?_
      refine Run.x_ladd (q := 276) X36 hx (hb hby at_275) rfl rfl ?_
      refine Run.x_lload (q := 278) X36 hx (hb hby at_276) rfl rfl ?_
      refine Run.x_lload (q := 280) X36 hx (hb hby at_278) rfl rfl ?_
      refine Run.x_lmul (q := 281) X36 hx (hb hby at_280) rfl rfl ?_
      refine Run.x_ladd (q := 282) X36 hx (hb hby at_281) rfl rfl ?_
      refine Run.x_lstore (q := 284) X36 hx #[.val (.int p1), .val (.int p2), .val (.int p3), .val (.int p4), .val (.int p5), .val (.int p6), .val (.int (0 : Int32)), .val (.int (1 : Int32)), .val (.long z1), .second, .val (.long z2), .second, .val (.long z3), .second, .val (.long z4), .second, .val (.long z5), .second, .val (.long z6), .second, .val (.double (4741671816366391296 : UInt64)), .second, .val (.double (13965043853221167104 : UInt64)), .second, .val (.ref b7), .val (.ref b17), .val (.long (z1 - z4)), .second, .val (.long (z2 - z5)), .second, .val (.long (z3 - z6)), .second, .val (.long ((((z1 - z4) * (z1 - z4)) + ((z2 - z5) * (z2 - z5))) + ((z3 - z6) * (z3 - z6)))), .second, .unset, .unset] (hb hby at_282) rfl rfl ?_
      refine Run.x_aload (q := 286) X36 hx (hb hby at_284) rfl rfl rfl ?_
      refine Run.x_iload (q := 288) X36 hx (hb hby at_286) rfl rfl ?_
      refine Run.x_aload (q := 290) X36 hx (hb hby at_288) rfl rfl rfl ?_
      refine Run.x_iload (q := 292) X36 hx (hb hby at_290) rfl rfl ?_
      replace A_b7 := ((A_b7.other W34 ne_b7_b17).other W35 ne_b7_b17).other W36 ne_b7_b17
      refine Run.callS X36 hx hZ e36 (y := (⟨"org/tertiary/analysis/Superposition", "squaredDistance", "([DI[DI)D"⟩ : MethodName)) hown (hw _ (List.mem_of_getElem? (i := 7) rfl)) (hw _ (List.mem_of_getElem? (i := 8) rfl)) (hw _ (List.mem_of_getElem? (i := 9) rfl)) (hw _ (List.mem_of_getElem? (i := 10) rfl)) (by decide) (argsL := [(.ref b7), (.int (0 : Int32)), (.ref b17), (.int (1 : Int32))]) (rest := []) (c_sd l Z a0 hw b7 (0 : Int32) b17 (1 : Int32) h36 n0 Z36 [(Value.double (FP.l2d z1)), (Value.double (FP.l2d z2)), (Value.double (FP.l2d z3)), (Value.double (4741671816366391296 : UInt64)), (Value.double (4741671816366391296 : UInt64)), (Value.double (4741671816366391296 : UInt64)), (Value.double (4741671816366391296 : UInt64)), (Value.double (4741671816366391296 : UInt64)), (Value.double (4741671816366391296 : UInt64))] [(Value.double (13965043853221167104 : UInt64)), (Value.double (13965043853221167104 : UInt64)), (Value.double (13965043853221167104 : UInt64)), (Value.double (FP.l2d z4)), (Value.double (FP.l2d z5)), (Value.double (FP.l2d z6)), (Value.double (13965043853221167104 : UInt64)), (Value.double (13965043853221167104 : UInt64)), (Value.double (13965043853221167104 : UInt64))] 0 1 z1 z2 z3 z4 z5 z6 A_b7 A_b17 rfl (by decide) rfl (by decide) rfl rfl hz1 hz4 rfl rfl hz2 hz5 rfl rfl hz3 hz6) pd_1 rfl (by rw [hml]; rfl) (W := 0) rfl (by decide) (by decide) (by decide) (by decide) (hb hby at_292) rfl ?_
      intro T37 v37 L37 X37 q37
      obtain ⟨rfl, M37, e37⟩ := q37
      have N37 := Fr.app N36 M37
      show Run p e below s _ _ _ (T37.setTop (mkF m 295 #[.val (.int p1), .val (.int p2), .val (.int p3), .val (.int p4), .val (.int p5), .val (.int p6), .val (.int (0 : Int32)), .val (.int (1 : Int32)), .val (.long z1), .second, .val (.long z2), .second, .val (.long z3), .second, .val (.long z4), .second, .val (.long z5), .second, .val (.long z6), .second, .val (.double (4741671816366391296 : UInt64)), .second, .val (.double (13965043853221167104 : UInt64)), .second, .val (.ref b7), .val (.ref b17), .val (.long (z1 - z4)), .second, .val (.long (z2 - z5)), .second, .val (.long (z3 - z6)), .second, .val (.long ((((z1 - z4) * (z1 - z4)) + ((z2 - z5) * (z2 - z5))) + ((z3 - z6) * (z3 - z6)))), .second, .unset, .unset] [(.double (FP.l2d ((((z1 - z4) * (z1 - z4)) + ((z2 - z5) * (z2 - z5))) + ((z3 - z6) * (z3 - z6)))))]))
      refine Run.st (B := T37.setTop (mkF m 297 #[.val (.int p1), .val (.int p2), .val (.int p3), .val (.int p4), .val (.int p5), .val (.int p6), .val (.int (0 : Int32)), .val (.int (1 : Int32)), .val (.long z1), .second, .val (.long z2), .second, .val (.long z3), .second, .val (.long z4), .second, .val (.long z5), .second, .val (.long z6), .second, .val (.double (4741671816366391296 : UInt64)), .second, .val (.double (13965043853221167104 : UInt64)), .second, .val (.ref b7), .val (.ref b17), .val (.long (z1 - z4)), .second, .val (.long (z2 - z5)), .second, .val (.long (z3 - z6)), .second, .val (.long ((((z1 - z4) * (z1 - z4)) + ((z2 - z5) * (z2 - z5))) + ((z3 - z6) * (z3 - z6)))), .second, .val (.double (FP.l2d ((((z1 - z4) * (z1 - z4)) + ((z2 - z5) * (z2 - z5))) + ((z3 - z6) * (z3 - z6))))), .second] [])) (fun t kt => XS.dstore X37.here hx rfl (hb hby at_295) rfl (l' := #[.val (.int p1), .val (.int p2), .val (.int p3), .val (.int p4), .val (.int p5), .val (.int p6), .val (.int (0 : Int32)), .val (.int (1 : Int32)), .val (.long z1), .second, .val (.long z2), .second, .val (.long z3), .second, .val (.long z4), .second, .val (.long z5), .second, .val (.long z6), .second, .val (.double (4741671816366391296 : UInt64)), .second, .val (.double (13965043853221167104 : UInt64)), .second, .val (.ref b7), .val (.ref b17), .val (.long (z1 - z4)), .second, .val (.long (z2 - z5)), .second, .val (.long (z3 - z6)), .second, .val (.long ((((z1 - z4) * (z1 - z4)) + ((z2 - z5) * (z2 - z5))) + ((z3 - z6) * (z3 - z6)))), .second, .val (.double (FP.l2d ((((z1 - z4) * (z1 - z4)) + ((z2 - z5) * (z2 - z5))) + ((z3 - z6) * (z3 - z6))))), .second]) rfl kt) ?_
      refine Run.st (B := T37.setTop (mkF m 299 #[.val (.int p1), .val (.int p2), .val (.int p3), .val (.int p4), .val (.int p5), .val (.int p6), .val (.int (0 : Int32)), .val (.int (1 : Int32)), .val (.long z1), .second, .val (.long z2), .second, .val (.long z3), .second, .val (.long z4), .second, .val (.long z5), .second, .val (.long z6), .second, .val (.double (4741671816366391296 : UInt64)), .second, .val (.double (13965043853221167104 : UInt64)), .second, .val (.ref b7), .val (.ref b17), .val (.long (z1 - z4)), .second, .val (.long (z2 - z5)), .second, .val (.long (z3 - z6)), .second, .val (.long ((((z1 - z4) * (z1 - z4)) + ((z2 - z5) * (z2 - z5))) + ((z3 - z6) * (z3 - z6)))), .second, .val (.double (FP.l2d ((((z1 - z4) * (z1 - z4)) + ((z2 - z5) * (z2 - z5))) + ((z3 - z6) * (z3 - z6))))), .second] [(.double (FP.l2d ((((z1 - z4) * (z1 - z4)) + ((z2 - z5) * (z2 - z5))) + ((z3 - z6) * (z3 - z6)))))])) (fun t kt => XS.dload X37.here hx rfl (hb hby at_297) rfl kt) ?_
      refine Run.x_lload (q := 301) X37 hx (hb hby at_299) rfl rfl ?_
      refine Run.st (B := T37.setTop (mkF m 302 #[.val (.int p1), .val (.int p2), .val (.int p3), .val (.int p4), .val (.int p5), .val (.int p6), .val (.int (0 : Int32)), .val (.int (1 : Int32)), .val (.long z1), .second, .val (.long z2), .second, .val (.long z3), .second, .val (.long z4), .second, .val (.long z5), .second, .val (.long z6), .second, .val (.double (4741671816366391296 : UInt64)), .second, .val (.double (13965043853221167104 : UInt64)), .second, .val (.ref b7), .val (.ref b17), .val (.long (z1 - z4)), .second, .val (.long (z2 - z5)), .second, .val (.long (z3 - z6)), .second, .val (.long ((((z1 - z4) * (z1 - z4)) + ((z2 - z5) * (z2 - z5))) + ((z3 - z6) * (z3 - z6)))), .second, .val (.double (FP.l2d ((((z1 - z4) * (z1 - z4)) + ((z2 - z5) * (z2 - z5))) + ((z3 - z6) * (z3 - z6))))), .second] [(.double (FP.l2d ((((z1 - z4) * (z1 - z4)) + ((z2 - z5) * (z2 - z5))) + ((z3 - z6) * (z3 - z6))))), (.double (FP.l2d ((((z1 - z4) * (z1 - z4)) + ((z2 - z5) * (z2 - z5))) + ((z3 - z6) * (z3 - z6)))))])) (fun t kt => XS.l2dS X37.here hx rfl (hb hby at_301) rfl rfl kt) ?_
      refine Run.st (B := T37.setTop (mkF m 303 #[.val (.int p1), .val (.int p2), .val (.int p3), .val (.int p4), .val (.int p5), .val (.int p6), .val (.int (0 : Int32)), .val (.int (1 : Int32)), .val (.long z1), .second, .val (.long z2), .second, .val (.long z3), .second, .val (.long z4), .second, .val (.long z5), .second, .val (.long z6), .second, .val (.double (4741671816366391296 : UInt64)), .second, .val (.double (13965043853221167104 : UInt64)), .second, .val (.ref b7), .val (.ref b17), .val (.long (z1 - z4)), .second, .val (.long (z2 - z5)), .second, .val (.long (z3 - z6)), .second, .val (.long ((((z1 - z4) * (z1 - z4)) + ((z2 - z5) * (z2 - z5))) + ((z3 - z6) * (z3 - z6)))), .second, .val (.double (FP.l2d ((((z1 - z4) * (z1 - z4)) + ((z2 - z5) * (z2 - z5))) + ((z3 - z6) * (z3 - z6))))), .second] [(.int (0 : Int32))])) (fun t kt => XS.dcmpS X37.here hx rfl (hb hby at_302) rfl (dcmpV_self (nn_w rfl) _) kt) ?_
      refine Run.x_ifNo (q := 306) X37 hx (hb hby at_303) ((if0 _ _).trans (teq (by decide : (0 : Int32) = (0 : Int32))).2) rfl ?_
      refine Run.x_iconst (q := 307) X37 hx (hb hby at_306) (z := (1 : Int32)) rfl rfl ?_
      refine Run.x_goto (q := 311) X37 hx (hb hby at_307) (by decide) (by decide) ?_
      refine Run.retN X37 hx hlk e37 (t := .boolean) hret (by simp) (z' := (1 : Int32)) (by decide) (hb hby at_311) (by decide) (by decide) ?_
      exact ⟨rfl, N37⟩
    · skip
      show Run p e below s _ _ _ (T29.setTop (mkF m 210 #[.val (.int p1), .val (.int p2), .val (.int p3), .val (.int p4), .val (.int p5), .val (.int p6), .val (.int (0 : Int32)), .val (.int (2 : Int32)), .val (.long z1), .second, .val (.long z2), .second, .val (.long z3), .second, .val (.long z4), .second, .val (.long z5), .second, .val (.long z6), .second, .val (.double (4741671816366391296 : UInt64)), .second, .val (.double (13965043853221167104 : UInt64)), .second, .val (.ref b7), .val (.ref b17), .unset, .unset, .unset, .unset, .unset, .unset, .unset, .unset, .unset, .unset] []))
      refine Run.x_aload (q := 212) X29 hx (hb hby at_210) rfl rfl rfl ?_
      refine Run.x_iconst (q := 213) X29 hx (hb hby at_212) (z := (3 : Int32)) rfl rfl ?_
      refine Run.x_iload (q := 215) X29 hx (hb hby at_213) rfl rfl ?_
      refine Run.x_imul (q := 216) X29 hx (hb hby at_215) (z := (6 : Int32)) (by decide) rfl ?_
      refine Run.x_lload (q := 218) X29 hx (hb hby at_216) rfl rfl ?_
      refine Run.st (B := T29.setTop (mkF m 219 #[.val (.int p1), .val (.int p2), .val (.int p3), .val (.int p4), .val (.int p5), .val (.int p6), .val (.int (0 : Int32)), .val (.int (2 : Int32)), .val (.long z1), .second, .val (.long z2), .second, .val (.long z3), .second, .val (.long z4), .second, .val (.long z5), .second, .val (.long z6), .second, .val (.double (4741671816366391296 : UInt64)), .second, .val (.double (13965043853221167104 : UInt64)), .second, .val (.ref b7), .val (.ref b17), .unset, .unset, .unset, .unset, .unset, .unset, .unset, .unset, .unset, .unset] [(.double (FP.l2d z4)), (.int (6 : Int32)), (.ref b17)])) (fun t kt => XS.l2dS X29.here hx rfl (hb hby at_218) rfl rfl kt) ?_
      replace A_b17 := ((A_b17.other W27 (Ne.symm ne_b7_b17)).other W28 (Ne.symm ne_b7_b17)).other W29 (Ne.symm ne_b7_b17)
      refine Run.stD X29 hx hZ e29 A_b17 (i := 6) (by decide) (Nat.le_of_ble_eq_true rfl) (hb hby at_219) ?_
      intro T38 h38 X38 e38 W38 A38
      replace A_b17 : Ars Z h38 b17 .double [(.double (13965043853221167104 : UInt64)), (.double (13965043853221167104 : UInt64)), (.double (13965043853221167104 : UInt64)), (.double (13965043853221167104 : UInt64)), (.double (13965043853221167104 : UInt64)), (.double (13965043853221167104 : UInt64)), (.double (FP.l2d z4)), (.double (13965043853221167104 : UInt64)), (.double (13965043853221167104 : UInt64))] := A38
      have N38 := Fr.snoc X38 N29 g_b17
      have Z38 : n0 ≤ h38.size := Nat.le_trans Z29 (Nat.le_of_eq W38.size.symm)
      show Run p e below s _ _ _ (T38.setTop (mkF m 220 #[.val (.int p1), .val (.int p2), .val (.int p3), .val (.int p4), .val (.int p5), .val (.int p6), .val (.int (0 : Int32)), .val (.int (2 : Int32)), .val (.long z1), .second, .val (.long z2), .second, .val (.long z3), .second, .val (.long z4), .second, .val (.long z5), .second, .val (.long z6), .second, .val (.double (4741671816366391296 : UInt64)), .second, .val (.double (13965043853221167104 : UInt64)), .second, .val (.ref b7), .val (.ref b17), .unset, .unset, .unset, .unset, .unset, .unset, .unset, .unset, .unset, .unset] []))
      refine Run.x_aload (q := 222) X38 hx (hb hby at_220) rfl rfl rfl ?_
      refine Run.x_iconst (q := 223) X38 hx (hb hby at_222) (z := (3 : Int32)) rfl rfl ?_
      refine Run.x_iload (q := 225) X38 hx (hb hby at_223) rfl rfl ?_
      refine Run.x_imul (q := 226) X38 hx (hb hby at_225) (z := (6 : Int32)) (by decide) rfl ?_
      refine Run.x_iconst (q := 227) X38 hx (hb hby at_226) (z := (1 : Int32)) rfl rfl ?_
      refine Run.x_iadd (q := 228) X38 hx (hb hby at_227) (z := (7 : Int32)) (by decide) rfl ?_
      refine Run.x_lload (q := 230) X38 hx (hb hby at_228) rfl rfl ?_
      refine Run.st (B := T38.setTop (mkF m 231 #[.val (.int p1), .val (.int p2), .val (.int p3), .val (.int p4), .val (.int p5), .val (.int p6), .val (.int (0 : Int32)), .val (.int (2 : Int32)), .val (.long z1), .second, .val (.long z2), .second, .val (.long z3), .second, .val (.long z4), .second, .val (.long z5), .second, .val (.long z6), .second, .val (.double (4741671816366391296 : UInt64)), .second, .val (.double (13965043853221167104 : UInt64)), .second, .val (.ref b7), .val (.ref b17), .unset, .unset, .unset, .unset, .unset, .unset, .unset, .unset, .unset, .unset] [(.double (FP.l2d z5)), (.int (7 : Int32)), (.ref b17)])) (fun t kt => XS.l2dS X38.here hx rfl (hb hby at_230) rfl rfl kt) ?_
      refine Run.stD X38 hx hZ e38 A_b17 (i := 7) (by decide) (Nat.le_of_ble_eq_true rfl) (hb hby at_231) ?_
      intro T39 h39 X39 e39 W39 A39
      replace A_b17 : Ars Z h39 b17 .double [(.double (13965043853221167104 : UInt64)), (.double (13965043853221167104 : UInt64)), (.double (13965043853221167104 : UInt64)), (.double (13965043853221167104 : UInt64)), (.double (13965043853221167104 : UInt64)), (.double (13965043853221167104 : UInt64)), (.double (FP.l2d z4)), (.double (FP.l2d z5)), (.double (13965043853221167104 : UInt64))] := A39
      have N39 := Fr.snoc X39 N38 g_b17
      have Z39 : n0 ≤ h39.size := Nat.le_trans Z38 (Nat.le_of_eq W39.size.symm)
      show Run p e below s _ _ _ (T39.setTop (mkF m 232 #[.val (.int p1), .val (.int p2), .val (.int p3), .val (.int p4), .val (.int p5), .val (.int p6), .val (.int (0 : Int32)), .val (.int (2 : Int32)), .val (.long z1), .second, .val (.long z2), .second, .val (.long z3), .second, .val (.long z4), .second, .val (.long z5), .second, .val (.long z6), .second, .val (.double (4741671816366391296 : UInt64)), .second, .val (.double (13965043853221167104 : UInt64)), .second, .val (.ref b7), .val (.ref b17), .unset, .unset, .unset, .unset, .unset, .unset, .unset, .unset, .unset, .unset] []))
      refine Run.x_aload (q := 234) X39 hx (hb hby at_232) rfl rfl rfl ?_
      refine Run.x_iconst (q := 235) X39 hx (hb hby at_234) (z := (3 : Int32)) rfl rfl ?_
      refine Run.x_iload (q := 237) X39 hx (hb hby at_235) rfl rfl ?_
      refine Run.x_imul (q := 238) X39 hx (hb hby at_237) (z := (6 : Int32)) (by decide) rfl ?_
      refine Run.x_iconst (q := 239) X39 hx (hb hby at_238) (z := (2 : Int32)) rfl rfl ?_
      refine Run.x_iadd (q := 240) X39 hx (hb hby at_239) (z := (8 : Int32)) (by decide) rfl ?_
      refine Run.x_lload (q := 242) X39 hx (hb hby at_240) rfl rfl ?_
      refine Run.st (B := T39.setTop (mkF m 243 #[.val (.int p1), .val (.int p2), .val (.int p3), .val (.int p4), .val (.int p5), .val (.int p6), .val (.int (0 : Int32)), .val (.int (2 : Int32)), .val (.long z1), .second, .val (.long z2), .second, .val (.long z3), .second, .val (.long z4), .second, .val (.long z5), .second, .val (.long z6), .second, .val (.double (4741671816366391296 : UInt64)), .second, .val (.double (13965043853221167104 : UInt64)), .second, .val (.ref b7), .val (.ref b17), .unset, .unset, .unset, .unset, .unset, .unset, .unset, .unset, .unset, .unset] [(.double (FP.l2d z6)), (.int (8 : Int32)), (.ref b17)])) (fun t kt => XS.l2dS X39.here hx rfl (hb hby at_242) rfl rfl kt) ?_
      refine Run.stD X39 hx hZ e39 A_b17 (i := 8) (by decide) (Nat.le_of_ble_eq_true rfl) (hb hby at_243) ?_
      intro T40 h40 X40 e40 W40 A40
      replace A_b17 : Ars Z h40 b17 .double [(.double (13965043853221167104 : UInt64)), (.double (13965043853221167104 : UInt64)), (.double (13965043853221167104 : UInt64)), (.double (13965043853221167104 : UInt64)), (.double (13965043853221167104 : UInt64)), (.double (13965043853221167104 : UInt64)), (.double (FP.l2d z4)), (.double (FP.l2d z5)), (.double (FP.l2d z6))] := A40
      have N40 := Fr.snoc X40 N39 g_b17
      have Z40 : n0 ≤ h40.size := Nat.le_trans Z39 (Nat.le_of_eq W40.size.symm)
      show Run p e below s _ _ _ (T40.setTop (mkF m 244 #[.val (.int p1), .val (.int p2), .val (.int p3), .val (.int p4), .val (.int p5), .val (.int p6), .val (.int (0 : Int32)), .val (.int (2 : Int32)), .val (.long z1), .second, .val (.long z2), .second, .val (.long z3), .second, .val (.long z4), .second, .val (.long z5), .second, .val (.long z6), .second, .val (.double (4741671816366391296 : UInt64)), .second, .val (.double (13965043853221167104 : UInt64)), .second, .val (.ref b7), .val (.ref b17), .unset, .unset, .unset, .unset, .unset, .unset, .unset, .unset, .unset, .unset] []))
      refine Run.x_lload (q := 246) X40 hx (hb hby at_244) rfl rfl ?_
      refine Run.x_lload (q := 248) X40 hx (hb hby at_246) rfl rfl ?_
      refine Run.x_lsub (q := 249) X40 hx (hb hby at_248) rfl rfl ?_
      refine Run.x_lstore (q := 251) X40 hx #[.val (.int p1), .val (.int p2), .val (.int p3), .val (.int p4), .val (.int p5), .val (.int p6), .val (.int (0 : Int32)), .val (.int (2 : Int32)), .val (.long z1), .second, .val (.long z2), .second, .val (.long z3), .second, .val (.long z4), .second, .val (.long z5), .second, .val (.long z6), .second, .val (.double (4741671816366391296 : UInt64)), .second, .val (.double (13965043853221167104 : UInt64)), .second, .val (.ref b7), .val (.ref b17), .val (.long (z1 - z4)), .second, .unset, .unset, .unset, .unset, .unset, .unset, .unset, .unset] (hb hby at_249) rfl rfl ?_
      refine Run.x_lload (q := 253) X40 hx (hb hby at_251) rfl rfl ?_
      refine Run.x_lload (q := 255) X40 hx (hb hby at_253) rfl rfl ?_
      refine Run.x_lsub (q := 256) X40 hx (hb hby at_255) rfl rfl ?_
      refine Run.x_lstore (q := 258) X40 hx #[.val (.int p1), .val (.int p2), .val (.int p3), .val (.int p4), .val (.int p5), .val (.int p6), .val (.int (0 : Int32)), .val (.int (2 : Int32)), .val (.long z1), .second, .val (.long z2), .second, .val (.long z3), .second, .val (.long z4), .second, .val (.long z5), .second, .val (.long z6), .second, .val (.double (4741671816366391296 : UInt64)), .second, .val (.double (13965043853221167104 : UInt64)), .second, .val (.ref b7), .val (.ref b17), .val (.long (z1 - z4)), .second, .val (.long (z2 - z5)), .second, .unset, .unset, .unset, .unset, .unset, .unset] (hb hby at_256) rfl rfl ?_
      refine Run.x_lload (q := 260) X40 hx (hb hby at_258) rfl rfl ?_
      refine Run.x_lload (q := 262) X40 hx (hb hby at_260) rfl rfl ?_
      refine Run.x_lsub (q := 263) X40 hx (hb hby at_262) rfl rfl ?_
      refine Run.x_lstore (q := 265) X40 hx #[.val (.int p1), .val (.int p2), .val (.int p3), .val (.int p4), .val (.int p5), .val (.int p6), .val (.int (0 : Int32)), .val (.int (2 : Int32)), .val (.long z1), .second, .val (.long z2), .second, .val (.long z3), .second, .val (.long z4), .second, .val (.long z5), .second, .val (.long z6), .second, .val (.double (4741671816366391296 : UInt64)), .second, .val (.double (13965043853221167104 : UInt64)), .second, .val (.ref b7), .val (.ref b17), .val (.long (z1 - z4)), .second, .val (.long (z2 - z5)), .second, .val (.long (z3 - z6)), .second, .unset, .unset, .unset, .unset] (hb hby at_263) rfl rfl ?_
      refine Run.x_lload (q := 267) X40 hx (hb hby at_265) rfl rfl ?_
      refine Run.x_lload (q := 269) X40 hx (hb hby at_267) rfl rfl ?_
      refine Run.x_lmul (q := 270) X40 hx (hb hby at_269) rfl rfl ?_
      refine Run.x_lload (q := 272) X40 hx (hb hby at_270) rfl rfl ?_
      refine Run.x_lload (q := 274) X40 hx (hb hby at_272) rfl rfl ?_
      refine Run.x_lmul (q := 275) X40 hx (hb hby at_274) rfl rfl ?_
      refine Run.x_ladd (q := 276) X40 hx (hb hby at_275) rfl rfl ?_
      refine Run.x_lload (q := 278) X40 hx (hb hby at_276) rfl rfl ?_
      refine Run.x_lload (q := 280) X40 hx (hb hby at_278) rfl rfl ?_
      refine Run.x_lmul (q := 281) X40 hx (hb hby at_280) rfl rfl ?_
      refine Run.x_ladd (q := 282) X40 hx (hb hby at_281) rfl rfl ?_
      refine Run.x_lstore (q := 284) X40 hx #[.val (.int p1), .val (.int p2), .val (.int p3), .val (.int p4), .val (.int p5), .val (.int p6), .val (.int (0 : Int32)), .val (.int (2 : Int32)), .val (.long z1), .second, .val (.long z2), .second, .val (.long z3), .second, .val (.long z4), .second, .val (.long z5), .second, .val (.long z6), .second, .val (.double (4741671816366391296 : UInt64)), .second, .val (.double (13965043853221167104 : UInt64)), .second, .val (.ref b7), .val (.ref b17), .val (.long (z1 - z4)), .second, .val (.long (z2 - z5)), .second, .val (.long (z3 - z6)), .second, .val (.long ((((z1 - z4) * (z1 - z4)) + ((z2 - z5) * (z2 - z5))) + ((z3 - z6) * (z3 - z6)))), .second, .unset, .unset] (hb hby at_282) rfl rfl ?_
      refine Run.x_aload (q := 286) X40 hx (hb hby at_284) rfl rfl rfl ?_
      refine Run.x_iload (q := 288) X40 hx (hb hby at_286) rfl rfl ?_
      refine Run.x_aload (q := 290) X40 hx (hb hby at_288) rfl rfl rfl ?_
      refine Run.x_iload (q := 292) X40 hx (hb hby at_290) rfl rfl ?_
      replace A_b7 := ((A_b7.other W38 ne_b7_b17).other W39 ne_b7_b17).other W40 ne_b7_b17
      refine Run.callS X40 hx hZ e40 (y := (⟨"org/tertiary/analysis/Superposition", "squaredDistance", "([DI[DI)D"⟩ : MethodName)) hown (hw _ (List.mem_of_getElem? (i := 7) rfl)) (hw _ (List.mem_of_getElem? (i := 8) rfl)) (hw _ (List.mem_of_getElem? (i := 9) rfl)) (hw _ (List.mem_of_getElem? (i := 10) rfl)) (by decide) (argsL := [(.ref b7), (.int (0 : Int32)), (.ref b17), (.int (2 : Int32))]) (rest := []) (c_sd l Z a0 hw b7 (0 : Int32) b17 (2 : Int32) h40 n0 Z40 [(Value.double (FP.l2d z1)), (Value.double (FP.l2d z2)), (Value.double (FP.l2d z3)), (Value.double (4741671816366391296 : UInt64)), (Value.double (4741671816366391296 : UInt64)), (Value.double (4741671816366391296 : UInt64)), (Value.double (4741671816366391296 : UInt64)), (Value.double (4741671816366391296 : UInt64)), (Value.double (4741671816366391296 : UInt64))] [(Value.double (13965043853221167104 : UInt64)), (Value.double (13965043853221167104 : UInt64)), (Value.double (13965043853221167104 : UInt64)), (Value.double (13965043853221167104 : UInt64)), (Value.double (13965043853221167104 : UInt64)), (Value.double (13965043853221167104 : UInt64)), (Value.double (FP.l2d z4)), (Value.double (FP.l2d z5)), (Value.double (FP.l2d z6))] 0 2 z1 z2 z3 z4 z5 z6 A_b7 A_b17 rfl (by decide) rfl (by decide) rfl rfl hz1 hz4 rfl rfl hz2 hz5 rfl rfl hz3 hz6) pd_1 rfl (by rw [hml]; rfl) (W := 0) rfl (by decide) (by decide) (by decide) (by decide) (hb hby at_292) rfl ?_
      intro T41 v41 L41 X41 q41
      obtain ⟨rfl, M41, e41⟩ := q41
      have N41 := Fr.app N40 M41
      show Run p e below s _ _ _ (T41.setTop (mkF m 295 #[.val (.int p1), .val (.int p2), .val (.int p3), .val (.int p4), .val (.int p5), .val (.int p6), .val (.int (0 : Int32)), .val (.int (2 : Int32)), .val (.long z1), .second, .val (.long z2), .second, .val (.long z3), .second, .val (.long z4), .second, .val (.long z5), .second, .val (.long z6), .second, .val (.double (4741671816366391296 : UInt64)), .second, .val (.double (13965043853221167104 : UInt64)), .second, .val (.ref b7), .val (.ref b17), .val (.long (z1 - z4)), .second, .val (.long (z2 - z5)), .second, .val (.long (z3 - z6)), .second, .val (.long ((((z1 - z4) * (z1 - z4)) + ((z2 - z5) * (z2 - z5))) + ((z3 - z6) * (z3 - z6)))), .second, .unset, .unset] [(.double (FP.l2d ((((z1 - z4) * (z1 - z4)) + ((z2 - z5) * (z2 - z5))) + ((z3 - z6) * (z3 - z6)))))]))
      refine Run.st (B := T41.setTop (mkF m 297 #[.val (.int p1), .val (.int p2), .val (.int p3), .val (.int p4), .val (.int p5), .val (.int p6), .val (.int (0 : Int32)), .val (.int (2 : Int32)), .val (.long z1), .second, .val (.long z2), .second, .val (.long z3), .second, .val (.long z4), .second, .val (.long z5), .second, .val (.long z6), .second, .val (.double (4741671816366391296 : UInt64)), .second, .val (.double (13965043853221167104 : UInt64)), .second, .val (.ref b7), .val (.ref b17), .val (.long (z1 - z4)), .second, .val (.long (z2 - z5)), .second, .val (.long (z3 - z6)), .second, .val (.long ((((z1 - z4) * (z1 - z4)) + ((z2 - z5) * (z2 - z5))) + ((z3 - z6) * (z3 - z6)))), .second, .val (.double (FP.l2d ((((z1 - z4) * (z1 - z4)) + ((z2 - z5) * (z2 - z5))) + ((z3 - z6) * (z3 - z6))))), .second] [])) (fun t kt => XS.dstore X41.here hx rfl (hb hby at_295) rfl (l' := #[.val (.int p1), .val (.int p2), .val (.int p3), .val (.int p4), .val (.int p5), .val (.int p6), .val (.int (0 : Int32)), .val (.int (2 : Int32)), .val (.long z1), .second, .val (.long z2), .second, .val (.long z3), .second, .val (.long z4), .second, .val (.long z5), .second, .val (.long z6), .second, .val (.double (4741671816366391296 : UInt64)), .second, .val (.double (13965043853221167104 : UInt64)), .second, .val (.ref b7), .val (.ref b17), .val (.long (z1 - z4)), .second, .val (.long (z2 - z5)), .second, .val (.long (z3 - z6)), .second, .val (.long ((((z1 - z4) * (z1 - z4)) + ((z2 - z5) * (z2 - z5))) + ((z3 - z6) * (z3 - z6)))), .second, .val (.double (FP.l2d ((((z1 - z4) * (z1 - z4)) + ((z2 - z5) * (z2 - z5))) + ((z3 - z6) * (z3 - z6))))), .second]) rfl kt) ?_
      refine Run.st (B := T41.setTop (mkF m 299 #[.val (.int p1), .val (.int p2), .val (.int p3), .val (.int p4), .val (.int p5), .val (.int p6), .val (.int (0 : Int32)), .val (.int (2 : Int32)), .val (.long z1), .second, .val (.long z2), .second, .val (.long z3), .second, .val (.long z4), .second, .val (.long z5), .second, .val (.long z6), .second, .val (.double (4741671816366391296 : UInt64)), .second, .val (.double (13965043853221167104 : UInt64)), .second, .val (.ref b7), .val (.ref b17), .val (.long (z1 - z4)), .second, .val (.long (z2 - z5)), .second, .val (.long (z3 - z6)), .second, .val (.long ((((z1 - z4) * (z1 - z4)) + ((z2 - z5) * (z2 - z5))) + ((z3 - z6) * (z3 - z6)))), .second, .val (.double (FP.l2d ((((z1 - z4) * (z1 - z4)) + ((z2 - z5) * (z2 - z5))) + ((z3 - z6) * (z3 - z6))))), .second] [(.double (FP.l2d ((((z1 - z4) * (z1 - z4)) + ((z2 - z5) * (z2 - z5))) + ((z3 - z6) * (z3 - z6)))))])) (fun t kt => XS.dload X41.here hx rfl (hb hby at_297) rfl kt) ?_
      refine Run.x_lload (q := 301) X41 hx (hb hby at_299) rfl rfl ?_
      refine Run.st (B := T41.setTop (mkF m 302 #[.val (.int p1), .val (.int p2), .val (.int p3), .val (.int p4), .val (.int p5), .val (.int p6), .val (.int (0 : Int32)), .val (.int (2 : Int32)), .val (.long z1), .second, .val (.long z2), .second, .val (.long z3), .second, .val (.long z4), .second, .val (.long z5), .second, .val (.long z6), .second, .val (.double (4741671816366391296 : UInt64)), .second, .val (.double (13965043853221167104 : UInt64)), .second, .val (.ref b7), .val (.ref b17), .val (.long (z1 - z4)), .second, .val (.long (z2 - z5)), .second, .val (.long (z3 - z6)), .second, .val (.long ((((z1 - z4) * (z1 - z4)) + ((z2 - z5) * (z2 - z5))) + ((z3 - z6) * (z3 - z6)))), .second, .val (.double (FP.l2d ((((z1 - z4) * (z1 - z4)) + ((z2 - z5) * (z2 - z5))) + ((z3 - z6) * (z3 - z6))))), .second] [(.double (FP.l2d ((((z1 - z4) * (z1 - z4)) + ((z2 - z5) * (z2 - z5))) + ((z3 - z6) * (z3 - z6))))), (.double (FP.l2d ((((z1 - z4) * (z1 - z4)) + ((z2 - z5) * (z2 - z5))) + ((z3 - z6) * (z3 - z6)))))])) (fun t kt => XS.l2dS X41.here hx rfl (hb hby at_301) rfl rfl kt) ?_
      refine Run.st (B := T41.setTop (mkF m 303 #[.val (.int p1), .val (.int p2), .val (.int p3), .val (.int p4), .val (.int p5), .val (.int p6), .val (.int (0 : Int32)), .val (.int (2 : Int32)), .val (.long z1), .second, .val (.long z2), .second, .val (.long z3), .second, .val (.long z4), .second, .val (.long z5), .second, .val (.long z6), .second, .val (.double (4741671816366391296 : UInt64)), .second, .val (.double (13965043853221167104 : UInt64)), .second, .val (.ref b7), .val (.ref b17), .val (.long (z1 - z4)), .second, .val (.long (z2 - z5)), .second, .val (.long (z3 - z6)), .second, .val (.long ((((z1 - z4) * (z1 - z4)) + ((z2 - z5) * (z2 - z5))) + ((z3 - z6) * (z3 - z6)))), .second, .val (.double (FP.l2d ((((z1 - z4) * (z1 - z4)) + ((z2 - z5) * (z2 - z5))) + ((z3 - z6) * (z3 - z6))))), .second] [(.int (0 : Int32))])) (fun t kt => XS.dcmpS X41.here hx rfl (hb hby at_302) rfl (dcmpV_self (nn_w rfl) _) kt) ?_
      refine Run.x_ifNo (q := 306) X41 hx (hb hby at_303) ((if0 _ _).trans (teq (by decide : (0 : Int32) = (0 : Int32))).2) rfl ?_
      refine Run.x_iconst (q := 307) X41 hx (hb hby at_306) (z := (1 : Int32)) rfl rfl ?_
      refine Run.x_goto (q := 311) X41 hx (hb hby at_307) (by decide) (by decide) ?_
      refine Run.retN X41 hx hlk e41 (t := .boolean) hret (by simp) (z' := (1 : Int32)) (by decide) (hb hby at_311) (by decide) (by decide) ?_
      exact ⟨rfl, N41⟩
  · skip
    show Run p e below s _ _ _ (T26.setTop (mkF m 176 #[.val (.int p1), .val (.int p2), .val (.int p3), .val (.int p4), .val (.int p5), .val (.int p6), .val (.int (1 : Int32)), .val (.int vj), .val (.long z1), .second, .val (.long z2), .second, .val (.long z3), .second, .val (.long z4), .second, .val (.long z5), .second, .val (.long z6), .second, .val (.double (4741671816366391296 : UInt64)), .second, .val (.double (13965043853221167104 : UInt64)), .second, .val (.ref b7), .val (.ref b17), .unset, .unset, .unset, .unset, .unset, .unset, .unset, .unset, .unset, .unset] []))
    refine Run.x_aload (q := 178) X26 hx (hb hby at_176) rfl rfl rfl ?_
    refine Run.x_iconst (q := 179) X26 hx (hb hby at_178) (z := (3 : Int32)) rfl rfl ?_
    refine Run.x_iload (q := 181) X26 hx (hb hby at_179) rfl rfl ?_
    refine Run.x_imul (q := 182) X26 hx (hb hby at_181) (z := (3 : Int32)) (by decide) rfl ?_
    refine Run.x_lload (q := 184) X26 hx (hb hby at_182) rfl rfl ?_
    refine Run.st (B := T26.setTop (mkF m 185 #[.val (.int p1), .val (.int p2), .val (.int p3), .val (.int p4), .val (.int p5), .val (.int p6), .val (.int (1 : Int32)), .val (.int vj), .val (.long z1), .second, .val (.long z2), .second, .val (.long z3), .second, .val (.long z4), .second, .val (.long z5), .second, .val (.long z6), .second, .val (.double (4741671816366391296 : UInt64)), .second, .val (.double (13965043853221167104 : UInt64)), .second, .val (.ref b7), .val (.ref b17), .unset, .unset, .unset, .unset, .unset, .unset, .unset, .unset, .unset, .unset] [(.double (FP.l2d z1)), (.int (3 : Int32)), (.ref b7)])) (fun t kt => XS.l2dS X26.here hx rfl (hb hby at_184) rfl rfl kt) ?_
    replace A_b7 := (((((((((A_b7.ext E17).other W18 ne_b7_b17).other W19 ne_b7_b17).other W20 ne_b7_b17).other W21 ne_b7_b17).other W22 ne_b7_b17).other W23 ne_b7_b17).other W24 ne_b7_b17).other W25 ne_b7_b17).other W26 ne_b7_b17
    refine Run.stD X26 hx hZ e26 A_b7 (i := 3) (by decide) (Nat.le_of_ble_eq_true rfl) (hb hby at_185) ?_
    intro T42 h42 X42 e42 W42 A42
    replace A_b7 : Ars Z h42 b7 .double [(.double (4741671816366391296 : UInt64)), (.double (4741671816366391296 : UInt64)), (.double (4741671816366391296 : UInt64)), (.double (FP.l2d z1)), (.double (4741671816366391296 : UInt64)), (.double (4741671816366391296 : UInt64)), (.double (4741671816366391296 : UInt64)), (.double (4741671816366391296 : UInt64)), (.double (4741671816366391296 : UInt64))] := A42
    have N42 := Fr.snoc X42 N26 g_b7
    have Z42 : n0 ≤ h42.size := Nat.le_trans Z26 (Nat.le_of_eq W42.size.symm)
    show Run p e below s _ _ _ (T42.setTop (mkF m 186 #[.val (.int p1), .val (.int p2), .val (.int p3), .val (.int p4), .val (.int p5), .val (.int p6), .val (.int (1 : Int32)), .val (.int vj), .val (.long z1), .second, .val (.long z2), .second, .val (.long z3), .second, .val (.long z4), .second, .val (.long z5), .second, .val (.long z6), .second, .val (.double (4741671816366391296 : UInt64)), .second, .val (.double (13965043853221167104 : UInt64)), .second, .val (.ref b7), .val (.ref b17), .unset, .unset, .unset, .unset, .unset, .unset, .unset, .unset, .unset, .unset] []))
    refine Run.x_aload (q := 188) X42 hx (hb hby at_186) rfl rfl rfl ?_
    refine Run.x_iconst (q := 189) X42 hx (hb hby at_188) (z := (3 : Int32)) rfl rfl ?_
    refine Run.x_iload (q := 191) X42 hx (hb hby at_189) rfl rfl ?_
    refine Run.x_imul (q := 192) X42 hx (hb hby at_191) (z := (3 : Int32)) (by decide) rfl ?_
    refine Run.x_iconst (q := 193) X42 hx (hb hby at_192) (z := (1 : Int32)) rfl rfl ?_
    refine Run.x_iadd (q := 194) X42 hx (hb hby at_193) (z := (4 : Int32)) (by decide) rfl ?_
    refine Run.x_lload (q := 196) X42 hx (hb hby at_194) rfl rfl ?_
    refine Run.st (B := T42.setTop (mkF m 197 #[.val (.int p1), .val (.int p2), .val (.int p3), .val (.int p4), .val (.int p5), .val (.int p6), .val (.int (1 : Int32)), .val (.int vj), .val (.long z1), .second, .val (.long z2), .second, .val (.long z3), .second, .val (.long z4), .second, .val (.long z5), .second, .val (.long z6), .second, .val (.double (4741671816366391296 : UInt64)), .second, .val (.double (13965043853221167104 : UInt64)), .second, .val (.ref b7), .val (.ref b17), .unset, .unset, .unset, .unset, .unset, .unset, .unset, .unset, .unset, .unset] [(.double (FP.l2d z2)), (.int (4 : Int32)), (.ref b7)])) (fun t kt => XS.l2dS X42.here hx rfl (hb hby at_196) rfl rfl kt) ?_
    refine Run.stD X42 hx hZ e42 A_b7 (i := 4) (by decide) (Nat.le_of_ble_eq_true rfl) (hb hby at_197) ?_
    intro T43 h43 X43 e43 W43 A43
    replace A_b7 : Ars Z h43 b7 .double [(.double (4741671816366391296 : UInt64)), (.double (4741671816366391296 : UInt64)), (.double (4741671816366391296 : UInt64)), (.double (FP.l2d z1)), (.double (FP.l2d z2)), (.double (4741671816366391296 : UInt64)), (.double (4741671816366391296 : UInt64)), (.double (4741671816366391296 : UInt64)), (.double (4741671816366391296 : UInt64))] := A43
    have N43 := Fr.snoc X43 N42 g_b7
    have Z43 : n0 ≤ h43.size := Nat.le_trans Z42 (Nat.le_of_eq W43.size.symm)
    show Run p e below s _ _ _ (T43.setTop (mkF m 198 #[.val (.int p1), .val (.int p2), .val (.int p3), .val (.int p4), .val (.int p5), .val (.int p6), .val (.int (1 : Int32)), .val (.int vj), .val (.long z1), .second, .val (.long z2), .second, .val (.long z3), .second, .val (.long z4), .second, .val (.long z5), .second, .val (.long z6), .second, .val (.double (4741671816366391296 : UInt64)), .second, .val (.double (13965043853221167104 : UInt64)), .second, .val (.ref b7), .val (.ref b17), .unset, .unset, .unset, .unset, .unset, .unset, .unset, .unset, .unset, .unset] []))
    refine Run.x_aload (q := 200) X43 hx (hb hby at_198) rfl rfl rfl ?_
    refine Run.x_iconst (q := 201) X43 hx (hb hby at_200) (z := (3 : Int32)) rfl rfl ?_
    refine Run.x_iload (q := 203) X43 hx (hb hby at_201) rfl rfl ?_
    refine Run.x_imul (q := 204) X43 hx (hb hby at_203) (z := (3 : Int32)) (by decide) rfl ?_
    refine Run.x_iconst (q := 205) X43 hx (hb hby at_204) (z := (2 : Int32)) rfl rfl ?_
    refine Run.x_iadd (q := 206) X43 hx (hb hby at_205) (z := (5 : Int32)) (by decide) rfl ?_
    refine Run.x_lload (q := 208) X43 hx (hb hby at_206) rfl rfl ?_
    refine Run.st (B := T43.setTop (mkF m 209 #[.val (.int p1), .val (.int p2), .val (.int p3), .val (.int p4), .val (.int p5), .val (.int p6), .val (.int (1 : Int32)), .val (.int vj), .val (.long z1), .second, .val (.long z2), .second, .val (.long z3), .second, .val (.long z4), .second, .val (.long z5), .second, .val (.long z6), .second, .val (.double (4741671816366391296 : UInt64)), .second, .val (.double (13965043853221167104 : UInt64)), .second, .val (.ref b7), .val (.ref b17), .unset, .unset, .unset, .unset, .unset, .unset, .unset, .unset, .unset, .unset] [(.double (FP.l2d z3)), (.int (5 : Int32)), (.ref b7)])) (fun t kt => XS.l2dS X43.here hx rfl (hb hby at_208) rfl rfl kt) ?_
    refine Run.stD X43 hx hZ e43 A_b7 (i := 5) (by decide) (Nat.le_of_ble_eq_true rfl) (hb hby at_209) ?_
    intro T44 h44 X44 e44 W44 A44
    replace A_b7 : Ars Z h44 b7 .double [(.double (4741671816366391296 : UInt64)), (.double (4741671816366391296 : UInt64)), (.double (4741671816366391296 : UInt64)), (.double (FP.l2d z1)), (.double (FP.l2d z2)), (.double (FP.l2d z3)), (.double (4741671816366391296 : UInt64)), (.double (4741671816366391296 : UInt64)), (.double (4741671816366391296 : UInt64))] := A44
    have N44 := Fr.snoc X44 N43 g_b7
    have Z44 : n0 ≤ h44.size := Nat.le_trans Z43 (Nat.le_of_eq W44.size.symm)
    show Run p e below s _ _ _ (T44.setTop (mkF m 210 #[.val (.int p1), .val (.int p2), .val (.int p3), .val (.int p4), .val (.int p5), .val (.int p6), .val (.int (1 : Int32)), .val (.int vj), .val (.long z1), .second, .val (.long z2), .second, .val (.long z3), .second, .val (.long z4), .second, .val (.long z5), .second, .val (.long z6), .second, .val (.double (4741671816366391296 : UInt64)), .second, .val (.double (13965043853221167104 : UInt64)), .second, .val (.ref b7), .val (.ref b17), .unset, .unset, .unset, .unset, .unset, .unset, .unset, .unset, .unset, .unset] []))
    rcases own_i hvj with rfl | rfl | rfl
    · skip
      show Run p e below s _ _ _ (T44.setTop (mkF m 210 #[.val (.int p1), .val (.int p2), .val (.int p3), .val (.int p4), .val (.int p5), .val (.int p6), .val (.int (1 : Int32)), .val (.int (0 : Int32)), .val (.long z1), .second, .val (.long z2), .second, .val (.long z3), .second, .val (.long z4), .second, .val (.long z5), .second, .val (.long z6), .second, .val (.double (4741671816366391296 : UInt64)), .second, .val (.double (13965043853221167104 : UInt64)), .second, .val (.ref b7), .val (.ref b17), .unset, .unset, .unset, .unset, .unset, .unset, .unset, .unset, .unset, .unset] []))
      refine Run.x_aload (q := 212) X44 hx (hb hby at_210) rfl rfl rfl ?_
      refine Run.x_iconst (q := 213) X44 hx (hb hby at_212) (z := (3 : Int32)) rfl rfl ?_
      refine Run.x_iload (q := 215) X44 hx (hb hby at_213) rfl rfl ?_
      refine Run.x_imul (q := 216) X44 hx (hb hby at_215) (z := (0 : Int32)) (by decide) rfl ?_
      refine Run.x_lload (q := 218) X44 hx (hb hby at_216) rfl rfl ?_
      refine Run.st (B := T44.setTop (mkF m 219 #[.val (.int p1), .val (.int p2), .val (.int p3), .val (.int p4), .val (.int p5), .val (.int p6), .val (.int (1 : Int32)), .val (.int (0 : Int32)), .val (.long z1), .second, .val (.long z2), .second, .val (.long z3), .second, .val (.long z4), .second, .val (.long z5), .second, .val (.long z6), .second, .val (.double (4741671816366391296 : UInt64)), .second, .val (.double (13965043853221167104 : UInt64)), .second, .val (.ref b7), .val (.ref b17), .unset, .unset, .unset, .unset, .unset, .unset, .unset, .unset, .unset, .unset] [(.double (FP.l2d z4)), (.int (0 : Int32)), (.ref b17)])) (fun t kt => XS.l2dS X44.here hx rfl (hb hby at_218) rfl rfl kt) ?_
      replace A_b17 := ((A_b17.other W42 (Ne.symm ne_b7_b17)).other W43 (Ne.symm ne_b7_b17)).other W44 (Ne.symm ne_b7_b17)
      refine Run.stD X44 hx hZ e44 A_b17 (i := 0) (by decide) (Nat.le_of_ble_eq_true rfl) (hb hby at_219) ?_
      intro T45 h45 X45 e45 W45 A45
      replace A_b17 : Ars Z h45 b17 .double [(.double (FP.l2d z4)), (.double (13965043853221167104 : UInt64)), (.double (13965043853221167104 : UInt64)), (.double (13965043853221167104 : UInt64)), (.double (13965043853221167104 : UInt64)), (.double (13965043853221167104 : UInt64)), (.double (13965043853221167104 : UInt64)), (.double (13965043853221167104 : UInt64)), (.double (13965043853221167104 : UInt64))] := A45
      have N45 := Fr.snoc X45 N44 g_b17
      have Z45 : n0 ≤ h45.size := Nat.le_trans Z44 (Nat.le_of_eq W45.size.symm)
      show Run p e below s _ _ _ (T45.setTop (mkF m 220 #[.val (.int p1), .val (.int p2), .val (.int p3), .val (.int p4), .val (.int p5), .val (.int p6), .val (.int (1 : Int32)), .val (.int (0 : Int32)), .val (.long z1), .second, .val (.long z2), .second, .val (.long z3), .second, .val (.long z4), .second, .val (.long z5), .second, .val (.long z6), .second, .val (.double (4741671816366391296 : UInt64)), .second, .val (.double (13965043853221167104 : UInt64)), .second, .val (.ref b7), .val (.ref b17), .unset, .unset, .unset, .unset, .unset, .unset, .unset, .unset, .unset, .unset] []))
      refine Run.x_aload (q := 222) X45 hx (hb hby at_220) rfl rfl rfl ?_
      refine Run.x_iconst (q := 223) X45 hx (hb hby at_222) (z := (3 : Int32)) rfl rfl ?_
      refine Run.x_iload (q := 225) X45 hx (hb hby at_223) rfl rfl ?_
      refine Run.x_imul (q := 226) X45 hx (hb hby at_225) (z := (0 : Int32)) (by decide) rfl ?_
      refine Run.x_iconst (q := 227) X45 hx (hb hby at_226) (z := (1 : Int32)) rfl rfl ?_
      refine Run.x_iadd (q := 228) X45 hx (hb hby at_227) (z := (1 : Int32)) (by decide) rfl ?_
      refine Run.x_lload (q := 230) X45 hx (hb hby at_228) rfl rfl ?_
      refine Run.st (B := T45.setTop (mkF m 231 #[.val (.int p1), .val (.int p2), .val (.int p3), .val (.int p4), .val (.int p5), .val (.int p6), .val (.int (1 : Int32)), .val (.int (0 : Int32)), .val (.long z1), .second, .val (.long z2), .second, .val (.long z3), .second, .val (.long z4), .second, .val (.long z5), .second, .val (.long z6), .second, .val (.double (4741671816366391296 : UInt64)), .second, .val (.double (13965043853221167104 : UInt64)), .second, .val (.ref b7), .val (.ref b17), .unset, .unset, .unset, .unset, .unset, .unset, .unset, .unset, .unset, .unset] [(.double (FP.l2d z5)), (.int (1 : Int32)), (.ref b17)])) (fun t kt => XS.l2dS X45.here hx rfl (hb hby at_230) rfl rfl kt) ?_
      refine Run.stD X45 hx hZ e45 A_b17 (i := 1) (by decide) (Nat.le_of_ble_eq_true rfl) (hb hby at_231) ?_
      intro T46 h46 X46 e46 W46 A46
      replace A_b17 : Ars Z h46 b17 .double [(.double (FP.l2d z4)), (.double (FP.l2d z5)), (.double (13965043853221167104 : UInt64)), (.double (13965043853221167104 : UInt64)), (.double (13965043853221167104 : UInt64)), (.double (13965043853221167104 : UInt64)), (.double (13965043853221167104 : UInt64)), (.double (13965043853221167104 : UInt64)), (.double (13965043853221167104 : UInt64))] := A46
      have N46 := Fr.snoc X46 N45 g_b17
      have Z46 : n0 ≤ h46.size := Nat.le_trans Z45 (Nat.le_of_eq W46.size.symm)
      show Run p e below s _ _ _ (T46.setTop (mkF m 232 #[.val (.int p1), .val (.int p2), .val (.int p3), .val (.int p4), .val (.int p5), .val (.int p6), .val (.int (1 : Int32)), .val (.int (0 : Int32)), .val (.long z1), .second, .val (.long z2), .second, .val (.long z3), .second, .val (.long z4), .second, .val (.long z5), .second, .val (.long z6), .second, .val (.double (4741671816366391296 : UInt64)), .second, .val (.double (13965043853221167104 : UInt64)), .second, .val (.ref b7), .val (.ref b17), .unset, .unset, .unset, .unset, .unset, .unset, .unset, .unset, .unset, .unset] []))
      refine Run.x_aload (q := 234) X46 hx (hb hby at_232) rfl rfl rfl ?_
      refine Run.x_iconst (q := 235) X46 hx (hb hby at_234) (z := (3 : Int32)) rfl rfl ?_
      refine Run.x_iload (q := 237) X46 hx (hb hby at_235) rfl rfl ?_
      refine Run.x_imul (q := 238) X46 hx (hb hby at_237) (z := (0 : Int32)) (by decide) rfl ?_
      refine Run.x_iconst (q := 239) X46 hx (hb hby at_238) (z := (2 : Int32)) rfl rfl ?_
      refine Run.x_iadd (q := 240) X46 hx (hb hby at_239) (z := (2 : Int32)) (by decide) rfl ?_
      refine Run.x_lload (q := 242) X46 hx (hb hby at_240) rfl rfl ?_
      refine Run.st (B := T46.setTop (mkF m 243 #[.val (.int p1), .val (.int p2), .val (.int p3), .val (.int p4), .val (.int p5), .val (.int p6), .val (.int (1 : Int32)), .val (.int (0 : Int32)), .val (.long z1), .second, .val (.long z2), .second, .val (.long z3), .second, .val (.long z4), .second, .val (.long z5), .second, .val (.long z6), .second, .val (.double (4741671816366391296 : UInt64)), .second, .val (.double (13965043853221167104 : UInt64)), .second, .val (.ref b7), .val (.ref b17), .unset, .unset, .unset, .unset, .unset, .unset, .unset, .unset, .unset, .unset] [(.double (FP.l2d z6)), (.int (2 : Int32)), (.ref b17)])) (fun t kt => XS.l2dS X46.here hx rfl (hb hby at_242) rfl rfl kt) ?_
      refine Run.stD X46 hx hZ e46 A_b17 (i := 2) (by decide) (Nat.le_of_ble_eq_true rfl) (hb hby at_243) ?_
      intro T47 h47 X47 e47 W47 A47
      replace A_b17 : Ars Z h47 b17 .double [(.double (FP.l2d z4)), (.double (FP.l2d z5)), (.double (FP.l2d z6)), (.double (13965043853221167104 : UInt64)), (.double (13965043853221167104 : UInt64)), (.double (13965043853221167104 : UInt64)), (.double (13965043853221167104 : UInt64)), (.double (13965043853221167104 : UInt64)), (.double (13965043853221167104 : UInt64))] := A47
      have N47 := Fr.snoc X47 N46 g_b17
      have Z47 : n0 ≤ h47.size := Nat.le_trans Z46 (Nat.le_of_eq W47.size.symm)
      show Run p e below s _ _ _ (T47.setTop (mkF m 244 #[.val (.int p1), .val (.int p2), .val (.int p3), .val (.int p4), .val (.int p5), .val (.int p6), .val (.int (1 : Int32)), .val (.int (0 : Int32)), .val (.long z1), .second, .val (.long z2), .second, .val (.long z3), .second, .val (.long z4), .second, .val (.long z5), .second, .val (.long z6), .second, .val (.double (4741671816366391296 : UInt64)), .second, .val (.double (13965043853221167104 : UInt64)), .second, .val (.ref b7), .val (.ref b17), .unset, .unset, .unset, .unset, .unset, .unset, .unset, .unset, .unset, .unset] []))
      refine Run.x_lload (q := 246) X47 hx (hb hby at_244) rfl rfl ?_
      refine Run.x_lload (q := 248) X47 hx (hb hby at_246) rfl rfl ?_
      refine Run.x_lsub (q := 249) X47 hx (hb hby at_248) rfl rfl ?_
      refine Run.x_lstore (q := 251) X47 hx #[.val (.int p1), .val (.int p2), .val (.int p3), .val (.int p4), .val (.int p5), .val (.int p6), .val (.int (1 : Int32)), .val (.int (0 : Int32)), .val (.long z1), .second, .val (.long z2), .second, .val (.long z3), .second, .val (.long z4), .second, .val (.long z5), .second, .val (.long z6), .second, .val (.double (4741671816366391296 : UInt64)), .second, .val (.double (13965043853221167104 : UInt64)), .second, .val (.ref b7), .val (.ref b17), .val (.long (z1 - z4)), .second, .unset, .unset, .unset, .unset, .unset, .unset, .unset, .unset] (hb hby at_249) rfl rfl ?_
      refine Run.x_lload (q := 253) X47 hx (hb hby at_251) rfl rfl ?_
      refine Run.x_lload (q := 255) X47 hx (hb hby at_253) rfl rfl ?_
      refine Run.x_lsub (q := 256) X47 hx (hb hby at_255) rfl rfl ?_
      refine Run.x_lstore (q := 258) X47 hx #[.val (.int p1), .val (.int p2), .val (.int p3), .val (.int p4), .val (.int p5), .val (.int p6), .val (.int (1 : Int32)), .val (.int (0 : Int32)), .val (.long z1), .second, .val (.long z2), .second, .val (.long z3), .second, .val (.long z4), .second, .val (.long z5), .second, .val (.long z6), .second, .val (.double (4741671816366391296 : UInt64)), .second, .val (.double (13965043853221167104 : UInt64)), .second, .val (.ref b7), .val (.ref b17), .val (.long (z1 - z4)), .second, .val (.long (z2 - z5)), .second, .unset, .unset, .unset, .unset, .unset, .unset] (hb hby at_256) rfl rfl ?_
      refine Run.x_lload (q := 260) X47 hx (hb hby at_258) rfl rfl ?_
      refine Run.x_lload (q := 262) X47 hx (hb hby at_260) rfl rfl ?_
      refine Run.x_lsub (q := 263) X47 hx (hb hby at_262) rfl rfl ?_
      refine Run.x_lstore (q := 265) X47 hx #[.val (.int p1), .val (.int p2), .val (.int p3), .val (.int p4), .val (.int p5), .val (.int p6), .val (.int (1 : Int32)), .val (.int (0 : Int32)), .val (.long z1), .second, .val (.long z2), .second, .val (.long z3), .second, .val (.long z4), .second, .val (.long z5), .second, .val (.long z6), .second, .val (.double (4741671816366391296 : UInt64)), .second, .val (.double (13965043853221167104 : UInt64)), .second, .val (.ref b7), .val (.ref b17), .val (.long (z1 - z4)), .second, .val (.long (z2 - z5)), .second, .val (.long (z3 - z6)), .second, .unset, .unset, .unset, .unset] (hb hby at_263) rfl rfl ?_
      refine Run.x_lload (q := 267) X47 hx (hb hby at_265) rfl rfl ?_
      refine Run.x_lload (q := 269) X47 hx (hb hby at_267) rfl rfl ?_
      refine Run.x_lmul (q := 270) X47 hx (hb hby at_269) rfl rfl ?_
      refine Run.x_lload (q := 272) X47 hx (hb hby at_270) rfl rfl ?_
      refine Run.x_lload (q := 274) X47 hx (hb hby at_272) rfl rfl ?_
      refine Run.x_lmul (q := 275) X47 hx (hb hby at_274) rfl rfl ?_
      refine Run.x_ladd (q := 276) X47 hx (hb hby at_275) rfl rfl ?_
      refine Run.x_lload (q := 278) X47 hx (hb hby at_276) rfl rfl ?_
      refine Run.x_lload (q := 280) X47 hx (hb hby at_278) rfl rfl ?_
      refine Run.x_lmul (q := 281) X47 hx (hb hby at_280) rfl rfl ?_
      refine Run.x_ladd (q := 282) X47 hx (hb hby at_281) rfl rfl ?_
      refine Run.x_lstore (q := 284) X47 hx #[.val (.int p1), .val (.int p2), .val (.int p3), .val (.int p4), .val (.int p5), .val (.int p6), .val (.int (1 : Int32)), .val (.int (0 : Int32)), .val (.long z1), .second, .val (.long z2), .second, .val (.long z3), .second, .val (.long z4), .second, .val (.long z5), .second, .val (.long z6), .second, .val (.double (4741671816366391296 : UInt64)), .second, .val (.double (13965043853221167104 : UInt64)), .second, .val (.ref b7), .val (.ref b17), .val (.long (z1 - z4)), .second, .val (.long (z2 - z5)), .second, .val (.long (z3 - z6)), .second, .val (.long ((((z1 - z4) * (z1 - z4)) + ((z2 - z5) * (z2 - z5))) + ((z3 - z6) * (z3 - z6)))), .second, .unset, .unset] (hb hby at_282) rfl rfl ?_
      refine Run.x_aload (q := 286) X47 hx (hb hby at_284) rfl rfl rfl ?_
      refine Run.x_iload (q := 288) X47 hx (hb hby at_286) rfl rfl ?_
      refine Run.x_aload (q := 290) X47 hx (hb hby at_288) rfl rfl rfl ?_
      refine Run.x_iload (q := 292) X47 hx (hb hby at_290) rfl rfl ?_
      replace A_b7 := ((A_b7.other W45 ne_b7_b17).other W46 ne_b7_b17).other W47 ne_b7_b17
      refine Run.callS X47 hx hZ e47 (y := (⟨"org/tertiary/analysis/Superposition", "squaredDistance", "([DI[DI)D"⟩ : MethodName)) hown (hw _ (List.mem_of_getElem? (i := 7) rfl)) (hw _ (List.mem_of_getElem? (i := 8) rfl)) (hw _ (List.mem_of_getElem? (i := 9) rfl)) (hw _ (List.mem_of_getElem? (i := 10) rfl)) (by decide) (argsL := [(.ref b7), (.int (1 : Int32)), (.ref b17), (.int (0 : Int32))]) (rest := []) (c_sd l Z a0 hw b7 (1 : Int32) b17 (0 : Int32) h47 n0 Z47 [(Value.double (4741671816366391296 : UInt64)), (Value.double (4741671816366391296 : UInt64)), (Value.double (4741671816366391296 : UInt64)), (Value.double (FP.l2d z1)), (Value.double (FP.l2d z2)), (Value.double (FP.l2d z3)), (Value.double (4741671816366391296 : UInt64)), (Value.double (4741671816366391296 : UInt64)), (Value.double (4741671816366391296 : UInt64))] [(Value.double (FP.l2d z4)), (Value.double (FP.l2d z5)), (Value.double (FP.l2d z6)), (Value.double (13965043853221167104 : UInt64)), (Value.double (13965043853221167104 : UInt64)), (Value.double (13965043853221167104 : UInt64)), (Value.double (13965043853221167104 : UInt64)), (Value.double (13965043853221167104 : UInt64)), (Value.double (13965043853221167104 : UInt64))] 1 0 z1 z2 z3 z4 z5 z6 A_b7 A_b17 rfl (by decide) rfl (by decide) rfl rfl hz1 hz4 rfl rfl hz2 hz5 rfl rfl hz3 hz6) pd_1 rfl (by rw [hml]; rfl) (W := 0) rfl (by decide) (by decide) (by decide) (by decide) (hb hby at_292) rfl ?_
      intro T48 v48 L48 X48 q48
      obtain ⟨rfl, M48, e48⟩ := q48
      have N48 := Fr.app N47 M48
      show Run p e below s _ _ _ (T48.setTop (mkF m 295 #[.val (.int p1), .val (.int p2), .val (.int p3), .val (.int p4), .val (.int p5), .val (.int p6), .val (.int (1 : Int32)), .val (.int (0 : Int32)), .val (.long z1), .second, .val (.long z2), .second, .val (.long z3), .second, .val (.long z4), .second, .val (.long z5), .second, .val (.long z6), .second, .val (.double (4741671816366391296 : UInt64)), .second, .val (.double (13965043853221167104 : UInt64)), .second, .val (.ref b7), .val (.ref b17), .val (.long (z1 - z4)), .second, .val (.long (z2 - z5)), .second, .val (.long (z3 - z6)), .second, .val (.long ((((z1 - z4) * (z1 - z4)) + ((z2 - z5) * (z2 - z5))) + ((z3 - z6) * (z3 - z6)))), .second, .unset, .unset] [(.double (FP.l2d ((((z1 - z4) * (z1 - z4)) + ((z2 - z5) * (z2 - z5))) + ((z3 - z6) * (z3 - z6)))))]))
      refine Run.st (B := T48.setTop (mkF m 297 #[.val (.int p1), .val (.int p2), .val (.int p3), .val (.int p4), .val (.int p5), .val (.int p6), .val (.int (1 : Int32)), .val (.int (0 : Int32)), .val (.long z1), .second, .val (.long z2), .second, .val (.long z3), .second, .val (.long z4), .second, .val (.long z5), .second, .val (.long z6), .second, .val (.double (4741671816366391296 : UInt64)), .second, .val (.double (13965043853221167104 : UInt64)), .second, .val (.ref b7), .val (.ref b17), .val (.long (z1 - z4)), .second, .val (.long (z2 - z5)), .second, .val (.long (z3 - z6)), .second, .val (.long ((((z1 - z4) * (z1 - z4)) + ((z2 - z5) * (z2 - z5))) + ((z3 - z6) * (z3 - z6)))), .second, .val (.double (FP.l2d ((((z1 - z4) * (z1 - z4)) + ((z2 - z5) * (z2 - z5))) + ((z3 - z6) * (z3 - z6))))), .second] [])) (fun t kt => XS.dstore X48.here hx rfl (hb hby at_295) rfl (l' := #[.val (.int p1), .val (.int p2), .val (.int p3), .val (.int p4), .val (.int p5), .val (.int p6), .val (.int (1 : Int32)), .val (.int (0 : Int32)), .val (.long z1), .second, .val (.long z2), .second, .val (.long z3), .second, .val (.long z4), .second, .val (.long z5), .second, .val (.long z6), .second, .val (.double (4741671816366391296 : UInt64)), .second, .val (.double (13965043853221167104 : UInt64)), .second, .val (.ref b7), .val (.ref b17), .val (.long (z1 - z4)), .second, .val (.long (z2 - z5)), .second, .val (.long (z3 - z6)), .second, .val (.long ((((z1 - z4) * (z1 - z4)) + ((z2 - z5) * (z2 - z5))) + ((z3 - z6) * (z3 - z6)))), .second, .val (.double (FP.l2d ((((z1 - z4) * (z1 - z4)) + ((z2 - z5) * (z2 - z5))) + ((z3 - z6) * (z3 - z6))))), .second]) rfl kt) ?_
      refine Run.st (B := T48.setTop (mkF m 299 #[.val (.int p1), .val (.int p2), .val (.int p3), .val (.int p4), .val (.int p5), .val (.int p6), .val (.int (1 : Int32)), .val (.int (0 : Int32)), .val (.long z1), .second, .val (.long z2), .second, .val (.long z3), .second, .val (.long z4), .second, .val (.long z5), .second, .val (.long z6), .second, .val (.double (4741671816366391296 : UInt64)), .second, .val (.double (13965043853221167104 : UInt64)), .second, .val (.ref b7), .val (.ref b17), .val (.long (z1 - z4)), .second, .val (.long (z2 - z5)), .second, .val (.long (z3 - z6)), .second, .val (.long ((((z1 - z4) * (z1 - z4)) + ((z2 - z5) * (z2 - z5))) + ((z3 - z6) * (z3 - z6)))), .second, .val (.double (FP.l2d ((((z1 - z4) * (z1 - z4)) + ((z2 - z5) * (z2 - z5))) + ((z3 - z6) * (z3 - z6))))), .second] [(.double (FP.l2d ((((z1 - z4) * (z1 - z4)) + ((z2 - z5) * (z2 - z5))) + ((z3 - z6) * (z3 - z6)))))])) (fun t kt => XS.dload X48.here hx rfl (hb hby at_297) rfl kt) ?_
      refine Run.x_lload (q := 301) X48 hx (hb hby at_299) rfl rfl ?_
      refine Run.st (B := T48.setTop (mkF m 302 #[.val (.int p1), .val (.int p2), .val (.int p3), .val (.int p4), .val (.int p5), .val (.int p6), .val (.int (1 : Int32)), .val (.int (0 : Int32)), .val (.long z1), .second, .val (.long z2), .second, .val (.long z3), .second, .val (.long z4), .second, .val (.long z5), .second, .val (.long z6), .second, .val (.double (4741671816366391296 : UInt64)), .second, .val (.double (13965043853221167104 : UInt64)), .second, .val (.ref b7), .val (.ref b17), .val (.long (z1 - z4)), .second, .val (.long (z2 - z5)), .second, .val (.long (z3 - z6)), .second, .val (.long ((((z1 - z4) * (z1 - z4)) + ((z2 - z5) * (z2 - z5))) + ((z3 - z6) * (z3 - z6)))), .second, .val (.double (FP.l2d ((((z1 - z4) * (z1 - z4)) + ((z2 - z5) * (z2 - z5))) + ((z3 - z6) * (z3 - z6))))), .second] [(.double (FP.l2d ((((z1 - z4) * (z1 - z4)) + ((z2 - z5) * (z2 - z5))) + ((z3 - z6) * (z3 - z6))))), (.double (FP.l2d ((((z1 - z4) * (z1 - z4)) + ((z2 - z5) * (z2 - z5))) + ((z3 - z6) * (z3 - z6)))))])) (fun t kt => XS.l2dS X48.here hx rfl (hb hby at_301) rfl rfl kt) ?_
      refine Run.st (B := T48.setTop (mkF m 303 #[.val (.int p1), .val (.int p2), .val (.int p3), .val (.int p4), .val (.int p5), .val (.int p6), .val (.int (1 : Int32)), .val (.int (0 : Int32)), .val (.long z1), .second, .val (.long z2), .second, .val (.long z3), .second, .val (.long z4), .second, .val (.long z5), .second, .val (.long z6), .second, .val (.double (4741671816366391296 : UInt64)), .second, .val (.double (13965043853221167104 : UInt64)), .second, .val (.ref b7), .val (.ref b17), .val (.long (z1 - z4)), .second, .val (.long (z2 - z5)), .second, .val (.long (z3 - z6)), .second, .val (.long ((((z1 - z4) * (z1 - z4)) + ((z2 - z5) * (z2 - z5))) + ((z3 - z6) * (z3 - z6)))), .second, .val (.double (FP.l2d ((((z1 - z4) * (z1 - z4)) + ((z2 - z5) * (z2 - z5))) + ((z3 - z6) * (z3 - z6))))), .second] [(.int (0 : Int32))])) (fun t kt => XS.dcmpS X48.here hx rfl (hb hby at_302) rfl (dcmpV_self (nn_w rfl) _) kt) ?_
      refine Run.x_ifNo (q := 306) X48 hx (hb hby at_303) ((if0 _ _).trans (teq (by decide : (0 : Int32) = (0 : Int32))).2) rfl ?_
      refine Run.x_iconst (q := 307) X48 hx (hb hby at_306) (z := (1 : Int32)) rfl rfl ?_
      refine Run.x_goto (q := 311) X48 hx (hb hby at_307) (by decide) (by decide) ?_
      refine Run.retN X48 hx hlk e48 (t := .boolean) hret (by simp) (z' := (1 : Int32)) (by decide) (hb hby at_311) (by decide) (by decide) ?_
      exact ⟨rfl, N48⟩
    · skip
      show Run p e below s _ _ _ (T44.setTop (mkF m 210 #[.val (.int p1), .val (.int p2), .val (.int p3), .val (.int p4), .val (.int p5), .val (.int p6), .val (.int (1 : Int32)), .val (.int (1 : Int32)), .val (.long z1), .second, .val (.long z2), .second, .val (.long z3), .second, .val (.long z4), .second, .val (.long z5), .second, .val (.long z6), .second, .val (.double (4741671816366391296 : UInt64)), .second, .val (.double (13965043853221167104 : UInt64)), .second, .val (.ref b7), .val (.ref b17), .unset, .unset, .unset, .unset, .unset, .unset, .unset, .unset, .unset, .unset] []))
      refine Run.x_aload (q := 212) X44 hx (hb hby at_210) rfl rfl rfl ?_
      refine Run.x_iconst (q := 213) X44 hx (hb hby at_212) (z := (3 : Int32)) rfl rfl ?_
      refine Run.x_iload (q := 215) X44 hx (hb hby at_213) rfl rfl ?_
      refine Run.x_imul (q := 216) X44 hx (hb hby at_215) (z := (3 : Int32)) (by decide) rfl ?_
      refine Run.x_lload (q := 218) X44 hx (hb hby at_216) rfl rfl ?_
      refine Run.st (B := T44.setTop (mkF m 219 #[.val (.int p1), .val (.int p2), .val (.int p3), .val (.int p4), .val (.int p5), .val (.int p6), .val (.int (1 : Int32)), .val (.int (1 : Int32)), .val (.long z1), .second, .val (.long z2), .second, .val (.long z3), .second, .val (.long z4), .second, .val (.long z5), .second, .val (.long z6), .second, .val (.double (4741671816366391296 : UInt64)), .second, .val (.double (13965043853221167104 : UInt64)), .second, .val (.ref b7), .val (.ref b17), .unset, .unset, .unset, .unset, .unset, .unset, .unset, .unset, .unset, .unset] [(.double (FP.l2d z4)), (.int (3 : Int32)), (.ref b17)])) (fun t kt => XS.l2dS X44.here hx rfl (hb hby at_218) rfl rfl kt) ?_
      replace A_b17 := ((A_b17.other W42 (Ne.symm ne_b7_b17)).other W43 (Ne.symm ne_b7_b17)).other W44 (Ne.symm ne_b7_b17)
      refine Run.stD X44 hx hZ e44 A_b17 (i := 3) (by decide) (Nat.le_of_ble_eq_true rfl) (hb hby at_219) ?_
      intro T49 h49 X49 e49 W49 A49
      replace A_b17 : Ars Z h49 b17 .double [(.double (13965043853221167104 : UInt64)), (.double (13965043853221167104 : UInt64)), (.double (13965043853221167104 : UInt64)), (.double (FP.l2d z4)), (.double (13965043853221167104 : UInt64)), (.double (13965043853221167104 : UInt64)), (.double (13965043853221167104 : UInt64)), (.double (13965043853221167104 : UInt64)), (.double (13965043853221167104 : UInt64))] := A49
      have N49 := Fr.snoc X49 N44 g_b17
      have Z49 : n0 ≤ h49.size := Nat.le_trans Z44 (Nat.le_of_eq W49.size.symm)
      show Run p e below s _ _ _ (T49.setTop (mkF m 220 #[.val (.int p1), .val (.int p2), .val (.int p3), .val (.int p4), .val (.int p5), .val (.int p6), .val (.int (1 : Int32)), .val (.int (1 : Int32)), .val (.long z1), .second, .val (.long z2), .second, .val (.long z3), .second, .val (.long z4), .second, .val (.long z5), .second, .val (.long z6), .second, .val (.double (4741671816366391296 : UInt64)), .second, .val (.double (13965043853221167104 : UInt64)), .second, .val (.ref b7), .val (.ref b17), .unset, .unset, .unset, .unset, .unset, .unset, .unset, .unset, .unset, .unset] []))
      refine Run.x_aload (q := 222) X49 hx (hb hby at_220) rfl rfl rfl ?_
      refine Run.x_iconst (q := 223) X49 hx (hb hby at_222) (z := (3 : Int32)) rfl rfl ?_
      refine Run.x_iload (q := 225) X49 hx (hb hby at_223) rfl rfl ?_
      refine Run.x_imul (q := 226) X49 hx (hb hby at_225) (z := (3 : Int32)) (by decide) rfl ?_
      refine Run.x_iconst (q := 227) X49 hx (hb hby at_226) (z := (1 : Int32)) rfl rfl ?_
      refine Run.x_iadd (q := 228) X49 hx (hb hby at_227) (z := (4 : Int32)) (by decide) rfl ?_
      refine Run.x_lload (q := 230) X49 hx (hb hby at_228) rfl rfl ?_
      refine Run.st (B := T49.setTop (mkF m 231 #[.val (.int p1), .val (.int p2), .val (.int p3), .val (.int p4), .val (.int p5), .val (.int p6), .val (.int (1 : Int32)), .val (.int (1 : Int32)), .val (.long z1), .second, .val (.long z2), .second, .val (.long z3), .second, .val (.long z4), .second, .val (.long z5), .second, .val (.long z6), .second, .val (.double (4741671816366391296 : UInt64)), .second, .val (.double (13965043853221167104 : UInt64)), .second, .val (.ref b7), .val (.ref b17), .unset, .unset, .unset, .unset, .unset, .unset, .unset, .unset, .unset, .unset] [(.double (FP.l2d z5)), (.int (4 : Int32)), (.ref b17)])) (fun t kt => XS.l2dS X49.here hx rfl (hb hby at_230) rfl rfl kt) ?_
      refine Run.stD X49 hx hZ e49 A_b17 (i := 4) (by decide) (Nat.le_of_ble_eq_true rfl) (hb hby at_231) ?_
      intro T50 h50 X50 e50 W50 A50
      replace A_b17 : Ars Z h50 b17 .double [(.double (13965043853221167104 : UInt64)), (.double (13965043853221167104 : UInt64)), (.double (13965043853221167104 : UInt64)), (.double (FP.l2d z4)), (.double (FP.l2d z5)), (.double (13965043853221167104 : UInt64)), (.double (13965043853221167104 : UInt64)), (.double (13965043853221167104 : UInt64)), (.double (13965043853221167104 : UInt64))] := A50
      have N50 := Fr.snoc X50 N49 g_b17
      have Z50 : n0 ≤ h50.size := Nat.le_trans Z49 (Nat.le_of_eq W50.size.symm)
      show Run p e below s _ _ _ (T50.setTop (mkF m 232 #[.val (.int p1), .val (.int p2), .val (.int p3), .val (.int p4), .val (.int p5), .val (.int p6), .val (.int (1 : Int32)), .val (.int (1 : Int32)), .val (.long z1), .second, .val (.long z2), .second, .val (.long z3), .second, .val (.long z4), .second, .val (.long z5), .second, .val (.long z6), .second, .val (.double (4741671816366391296 : UInt64)), .second, .val (.double (13965043853221167104 : UInt64)), .second, .val (.ref b7), .val (.ref b17), .unset, .unset, .unset, .unset, .unset, .unset, .unset, .unset, .unset, .unset] []))
      refine Run.x_aload (q := 234) X50 hx (hb hby at_232) rfl rfl rfl ?_
      refine Run.x_iconst (q := 235) X50 hx (hb hby at_234) (z := (3 : Int32)) rfl rfl ?_
      refine Run.x_iload (q := 237) X50 hx (hb hby at_235) rfl rfl ?_
      refine Run.x_imul (q := 238) X50 hx (hb hby at_237) (z := (3 : Int32)) (by decide) rfl ?_
      refine Run.x_iconst (q := 239) X50 hx (hb hby at_238) (z := (2 : Int32)) rfl rfl ?_
      refine Run.x_iadd (q := 240) X50 hx (hb hby at_239) (z := (5 : Int32)) (by decide) rfl ?_
      refine Run.x_lload (q := 242) X50 hx (hb hby at_240) rfl rfl ?_
      refine Run.st (B := T50.setTop (mkF m 243 #[.val (.int p1), .val (.int p2), .val (.int p3), .val (.int p4), .val (.int p5), .val (.int p6), .val (.int (1 : Int32)), .val (.int (1 : Int32)), .val (.long z1), .second, .val (.long z2), .second, .val (.long z3), .second, .val (.long z4), .second, .val (.long z5), .second, .val (.long z6), .second, .val (.double (4741671816366391296 : UInt64)), .second, .val (.double (13965043853221167104 : UInt64)), .second, .val (.ref b7), .val (.ref b17), .unset, .unset, .unset, .unset, .unset, .unset, .unset, .unset, .unset, .unset] [(.double (FP.l2d z6)), (.int (5 : Int32)), (.ref b17)])) (fun t kt => XS.l2dS X50.here hx rfl (hb hby at_242) rfl rfl kt) ?_
      refine Run.stD X50 hx hZ e50 A_b17 (i := 5) (by decide) (Nat.le_of_ble_eq_true rfl) (hb hby at_243) ?_
      intro T51 h51 X51 e51 W51 A51
      replace A_b17 : Ars Z h51 b17 .double [(.double (13965043853221167104 : UInt64)), (.double (13965043853221167104 : UInt64)), (.double (13965043853221167104 : UInt64)), (.double (FP.l2d z4)), (.double (FP.l2d z5)), (.double (FP.l2d z6)), (.double (13965043853221167104 : UInt64)), (.double (13965043853221167104 : UInt64)), (.double (13965043853221167104 : UInt64))] := A51
      have N51 := Fr.snoc X51 N50 g_b17
      have Z51 : n0 ≤ h51.size := Nat.le_trans Z50 (Nat.le_of_eq W51.size.symm)
      show Run p e below s _ _ _ (T51.setTop (mkF m 244 #[.val (.int p1), .val (.int p2), .val (.int p3), .val (.int p4), .val (.int p5), .val (.int p6), .val (.int (1 : Int32)), .val (.int (1 : Int32)), .val (.long z1), .second, .val (.long z2), .second, .val (.long z3), .second, .val (.long z4), .second, .val (.long z5), .second, .val (.long z6), .second, .val (.double (4741671816366391296 : UInt64)), .second, .val (.double (13965043853221167104 : UInt64)), .second, .val (.ref b7), .val (.ref b17), .unset, .unset, .unset, .unset, .unset, .unset, .unset, .unset, .unset, .unset] []))
      refine Run.x_lload (q := 246) X51 hx (hb hby at_244) rfl rfl ?_
      refine Run.x_lload (q := 248) X51 hx (hb hby at_246) rfl rfl ?_
      refine Run.x_lsub (q := 249) X51 hx (hb hby at_248) rfl rfl ?_
      refine Run.x_lstore (q := 251) X51 hx #[.val (.int p1), .val (.int p2), .val (.int p3), .val (.int p4), .val (.int p5), .val (.int p6), .val (.int (1 : Int32)), .val (.int (1 : Int32)), .val (.long z1), .second, .val (.long z2), .second, .val (.long z3), .second, .val (.long z4), .second, .val (.long z5), .second, .val (.long z6), .second, .val (.double (4741671816366391296 : UInt64)), .second, .val (.double (13965043853221167104 : UInt64)), .second, .val (.ref b7), .val (.ref b17), .val (.long (z1 - z4)), .second, .unset, .unset, .unset, .unset, .unset, .unset, .unset, .unset] (hb hby at_249) rfl rfl ?_
      refine Run.x_lload (q := 253) X51 hx (hb hby at_251) rfl rfl ?_
      refine Run.x_lload (q := 255) X51 hx (hb hby at_253) rfl rfl ?_
      refine Run.x_lsub (q := 256) X51 hx (hb hby at_255) rfl rfl ?_
      refine Run.x_lstore (q := 258) X51 hx #[.val (.int p1), .val (.int p2), .val (.int p3), .val (.int p4), .val (.int p5), .val (.int p6), .val (.int (1 : Int32)), .val (.int (1 : Int32)), .val (.long z1), .second, .val (.long z2), .second, .val (.long z3), .second, .val (.long z4), .second, .val (.long z5), .second, .val (.long z6), .second, .val (.double (4741671816366391296 : UInt64)), .second, .val (.double (13965043853221167104 : UInt64)), .second, .val (.ref b7), .val (.ref b17), .val (.long (z1 - z4)), .second, .val (.long (z2 - z5)), .second, .unset, .unset, .unset, .unset, .unset, .unset] (hb hby at_256) rfl rfl ?_
      refine Run.x_lload (q := 260) X51 hx (hb hby at_258) rfl rfl ?_
      refine Run.x_lload (q := 262) X51 hx (hb hby at_260) rfl rfl ?_
      refine Run.x_lsub (q := 263) X51 hx (hb hby at_262) rfl rfl ?_
      refine Run.x_lstore (q := 265) X51 hx #[.val (.int p1), .val (.int p2), .val (.int p3), .val (.int p4), .val (.int p5), .val (.int p6), .val (.int (1 : Int32)), .val (.int (1 : Int32)), .val (.long z1), .second, .val (.long z2), .second, .val (.long z3), .second, .val (.long z4), .second, .val (.long z5), .second, .val (.long z6), .second, .val (.double (4741671816366391296 : UInt64)), .second, .val (.double (13965043853221167104 : UInt64)), .second, .val (.ref b7), .val (.ref b17), .val (.long (z1 - z4)), .second, .val (.long (z2 - z5)), .second, .val (.long (z3 - z6)), .second, .unset, .unset, .unset, .unset] (hb hby at_263) rfl rfl ?_
      refine Run.x_lload (q := 267) X51 hx (hb hby at_265) rfl rfl ?_
      refine Run.x_lload (q := 269) X51 hx (hb hby at_267) rfl rfl ?_
      refine Run.x_lmul (q := 270) X51 hx (hb hby at_269) rfl rfl ?_
      refine Run.x_lload (q := 272) X51 hx (hb hby at_270) rfl rfl ?_
      refine Run.x_lload (q := 274) X51 hx (hb hby at_272) rfl rfl ?_
      refine Run.x_lmul (q := 275) X51 hx (hb hby at_274) rfl rfl ?_
      refine Run.x_ladd (q := 276) X51 hx (hb hby at_275) rfl rfl ?_
      refine Run.x_lload (q := 278) X51 hx (hb hby at_276) rfl rfl ?_
      refine Run.x_lload (q := 280) X51 hx (hb hby at_278) rfl rfl ?_
      refine Run.x_lmul (q := 281) X51 hx (hb hby at_280) rfl rfl ?_
      refine Run.x_ladd (q := 282) X51 hx (hb hby at_281) rfl rfl ?_
      refine Run.x_lstore (q := 284) X51 hx #[.val (.int p1), .val (.int p2), .val (.int p3), .val (.int p4), .val (.int p5), .val (.int p6), .val (.int (1 : Int32)), .val (.int (1 : Int32)), .val (.long z1), .second, .val (.long z2), .second, .val (.long z3), .second, .val (.long z4), .second, .val (.long z5), .second, .val (.long z6), .second, .val (.double (4741671816366391296 : UInt64)), .second, .val (.double (13965043853221167104 : UInt64)), .second, .val (.ref b7), .val (.ref b17), .val (.long (z1 - z4)), .second, .val (.long (z2 - z5)), .second, .val (.long (z3 - z6)), .second, .val (.long ((((z1 - z4) * (z1 - z4)) + ((z2 - z5) * (z2 - z5))) + ((z3 - z6) * (z3 - z6)))), .second, .unset, .unset] (hb hby at_282) rfl rfl ?_
      refine Run.x_aload (q := 286) X51 hx (hb hby at_284) rfl rfl rfl ?_
      refine Run.x_iload (q := 288) X51 hx (hb hby at_286) rfl rfl ?_
      refine Run.x_aload (q := 290) X51 hx (hb hby at_288) rfl rfl rfl ?_
      refine Run.x_iload (q := 292) X51 hx (hb hby at_290) rfl rfl ?_
      replace A_b7 := ((A_b7.other W49 ne_b7_b17).other W50 ne_b7_b17).other W51 ne_b7_b17
      refine Run.callS X51 hx hZ e51 (y := (⟨"org/tertiary/analysis/Superposition", "squaredDistance", "([DI[DI)D"⟩ : MethodName)) hown (hw _ (List.mem_of_getElem? (i := 7) rfl)) (hw _ (List.mem_of_getElem? (i := 8) rfl)) (hw _ (List.mem_of_getElem? (i := 9) rfl)) (hw _ (List.mem_of_getElem? (i := 10) rfl)) (by decide) (argsL := [(.ref b7), (.int (1 : Int32)), (.ref b17), (.int (1 : Int32))]) (rest := []) (c_sd l Z a0 hw b7 (1 : Int32) b17 (1 : Int32) h51 n0 Z51 [(Value.double (4741671816366391296 : UInt64)), (Value.double (4741671816366391296 : UInt64)), (Value.double (4741671816366391296 : UInt64)), (Value.double (FP.l2d z1)), (Value.double (FP.l2d z2)), (Value.double (FP.l2d z3)), (Value.double (4741671816366391296 : UInt64)), (Value.double (4741671816366391296 : UInt64)), (Value.double (4741671816366391296 : UInt64))] [(Value.double (13965043853221167104 : UInt64)), (Value.double (13965043853221167104 : UInt64)), (Value.double (13965043853221167104 : UInt64)), (Value.double (FP.l2d z4)), (Value.double (FP.l2d z5)), (Value.double (FP.l2d z6)), (Value.double (13965043853221167104 : UInt64)), (Value.double (13965043853221167104 : UInt64)), (Value.double (13965043853221167104 : UInt64))] 1 1 z1 z2 z3 z4 z5 z6 A_b7 A_b17 rfl (by decide) rfl (by decide) rfl rfl hz1 hz4 rfl rfl hz2 hz5 rfl rfl hz3 hz6) pd_1 rfl (by rw [hml]; rfl) (W := 0) rfl (by decide) (by decide) (by decide) (by decide) (hb hby at_292) rfl ?_
      intro T52 v52 L52 X52 q52
      obtain ⟨rfl, M52, e52⟩ := q52
      have N52 := Fr.app N51 M52
      show Run p e below s _ _ _ (T52.setTop (mkF m 295 #[.val (.int p1), .val (.int p2), .val (.int p3), .val (.int p4), .val (.int p5), .val (.int p6), .val (.int (1 : Int32)), .val (.int (1 : Int32)), .val (.long z1), .second, .val (.long z2), .second, .val (.long z3), .second, .val (.long z4), .second, .val (.long z5), .second, .val (.long z6), .second, .val (.double (4741671816366391296 : UInt64)), .second, .val (.double (13965043853221167104 : UInt64)), .second, .val (.ref b7), .val (.ref b17), .val (.long (z1 - z4)), .second, .val (.long (z2 - z5)), .second, .val (.long (z3 - z6)), .second, .val (.long ((((z1 - z4) * (z1 - z4)) + ((z2 - z5) * (z2 - z5))) + ((z3 - z6) * (z3 - z6)))), .second, .unset, .unset] [(.double (FP.l2d ((((z1 - z4) * (z1 - z4)) + ((z2 - z5) * (z2 - z5))) + ((z3 - z6) * (z3 - z6)))))]))
      refine Run.st (B := T52.setTop (mkF m 297 #[.val (.int p1), .val (.int p2), .val (.int p3), .val (.int p4), .val (.int p5), .val (.int p6), .val (.int (1 : Int32)), .val (.int (1 : Int32)), .val (.long z1), .second, .val (.long z2), .second, .val (.long z3), .second, .val (.long z4), .second, .val (.long z5), .second, .val (.long z6), .second, .val (.double (4741671816366391296 : UInt64)), .second, .val (.double (13965043853221167104 : UInt64)), .second, .val (.ref b7), .val (.ref b17), .val (.long (z1 - z4)), .second, .val (.long (z2 - z5)), .second, .val (.long (z3 - z6)), .second, .val (.long ((((z1 - z4) * (z1 - z4)) + ((z2 - z5) * (z2 - z5))) + ((z3 - z6) * (z3 - z6)))), .second, .val (.double (FP.l2d ((((z1 - z4) * (z1 - z4)) + ((z2 - z5) * (z2 - z5))) + ((z3 - z6) * (z3 - z6))))), .second] [])) (fun t kt => XS.dstore X52.here hx rfl (hb hby at_295) rfl (l' := #[.val (.int p1), .val (.int p2), .val (.int p3), .val (.int p4), .val (.int p5), .val (.int p6), .val (.int (1 : Int32)), .val (.int (1 : Int32)), .val (.long z1), .second, .val (.long z2), .second, .val (.long z3), .second, .val (.long z4), .second, .val (.long z5), .second, .val (.long z6), .second, .val (.double (4741671816366391296 : UInt64)), .second, .val (.double (13965043853221167104 : UInt64)), .second, .val (.ref b7), .val (.ref b17), .val (.long (z1 - z4)), .second, .val (.long (z2 - z5)), .second, .val (.long (z3 - z6)), .second, .val (.long ((((z1 - z4) * (z1 - z4)) + ((z2 - z5) * (z2 - z5))) + ((z3 - z6) * (z3 - z6)))), .second, .val (.double (FP.l2d ((((z1 - z4) * (z1 - z4)) + ((z2 - z5) * (z2 - z5))) + ((z3 - z6) * (z3 - z6))))), .second]) rfl kt) ?_
      refine Run.st (B := T52.setTop (mkF m 299 #[.val (.int p1), .val (.int p2), .val (.int p3), .val (.int p4), .val (.int p5), .val (.int p6), .val (.int (1 : Int32)), .val (.int (1 : Int32)), .val (.long z1), .second, .val (.long z2), .second, .val (.long z3), .second, .val (.long z4), .second, .val (.long z5), .second, .val (.long z6), .second, .val (.double (4741671816366391296 : UInt64)), .second, .val (.double (13965043853221167104 : UInt64)), .second, .val (.ref b7), .val (.ref b17), .val (.long (z1 - z4)), .second, .val (.long (z2 - z5)), .second, .val (.long (z3 - z6)), .second, .val (.long ((((z1 - z4) * (z1 - z4)) + ((z2 - z5) * (z2 - z5))) + ((z3 - z6) * (z3 - z6)))), .second, .val (.double (FP.l2d ((((z1 - z4) * (z1 - z4)) + ((z2 - z5) * (z2 - z5))) + ((z3 - z6) * (z3 - z6))))), .second] [(.double (FP.l2d ((((z1 - z4) * (z1 - z4)) + ((z2 - z5) * (z2 - z5))) + ((z3 - z6) * (z3 - z6)))))])) (fun t kt => XS.dload X52.here hx rfl (hb hby at_297) rfl kt) ?_
      refine Run.x_lload (q := 301) X52 hx (hb hby at_299) rfl rfl ?_
      refine Run.st (B := T52.setTop (mkF m 302 #[.val (.int p1), .val (.int p2), .val (.int p3), .val (.int p4), .val (.int p5), .val (.int p6), .val (.int (1 : Int32)), .val (.int (1 : Int32)), .val (.long z1), .second, .val (.long z2), .second, .val (.long z3), .second, .val (.long z4), .second, .val (.long z5), .second, .val (.long z6), .second, .val (.double (4741671816366391296 : UInt64)), .second, .val (.double (13965043853221167104 : UInt64)), .second, .val (.ref b7), .val (.ref b17), .val (.long (z1 - z4)), .second, .val (.long (z2 - z5)), .second, .val (.long (z3 - z6)), .second, .val (.long ((((z1 - z4) * (z1 - z4)) + ((z2 - z5) * (z2 - z5))) + ((z3 - z6) * (z3 - z6)))), .second, .val (.double (FP.l2d ((((z1 - z4) * (z1 - z4)) + ((z2 - z5) * (z2 - z5))) + ((z3 - z6) * (z3 - z6))))), .second] [(.double (FP.l2d ((((z1 - z4) * (z1 - z4)) + ((z2 - z5) * (z2 - z5))) + ((z3 - z6) * (z3 - z6))))), (.double (FP.l2d ((((z1 - z4) * (z1 - z4)) + ((z2 - z5) * (z2 - z5))) + ((z3 - z6) * (z3 - z6)))))])) (fun t kt => XS.l2dS X52.here hx rfl (hb hby at_301) rfl rfl kt) ?_
      refine Run.st (B := T52.setTop (mkF m 303 #[.val (.int p1), .val (.int p2), .val (.int p3), .val (.int p4), .val (.int p5), .val (.int p6), .val (.int (1 : Int32)), .val (.int (1 : Int32)), .val (.long z1), .second, .val (.long z2), .second, .val (.long z3), .second, .val (.long z4), .second, .val (.long z5), .second, .val (.long z6), .second, .val (.double (4741671816366391296 : UInt64)), .second, .val (.double (13965043853221167104 : UInt64)), .second, .val (.ref b7), .val (.ref b17), .val (.long (z1 - z4)), .second, .val (.long (z2 - z5)), .second, .val (.long (z3 - z6)), .second, .val (.long ((((z1 - z4) * (z1 - z4)) + ((z2 - z5) * (z2 - z5))) + ((z3 - z6) * (z3 - z6)))), .second, .val (.double (FP.l2d ((((z1 - z4) * (z1 - z4)) + ((z2 - z5) * (z2 - z5))) + ((z3 - z6) * (z3 - z6))))), .second] [(.int (0 : Int32))])) (fun t kt => XS.dcmpS X52.here hx rfl (hb hby at_302) rfl (dcmpV_self (nn_w rfl) _) kt) ?_
      refine Run.x_ifNo (q := 306) X52 hx (hb hby at_303) ((if0 _ _).trans (teq (by decide : (0 : Int32) = (0 : Int32))).2) rfl ?_
      refine Run.x_iconst (q := 307) X52 hx (hb hby at_306) (z := (1 : Int32)) rfl rfl ?_
      refine Run.x_goto (q := 311) X52 hx (hb hby at_307) (by decide) (by decide) ?_
      refine Run.retN X52 hx hlk e52 (t := .boolean) hret (by simp) (z' := (1 : Int32)) (by decide) (hb hby at_311) (by decide) (by decide) ?_
      exact ⟨rfl, N52⟩
    · skip
      show Run p e below s _ _ _ (T44.setTop (mkF m 210 #[.val (.int p1), .val (.int p2), .val (.int p3), .val (.int p4), .val (.int p5), .val (.int p6), .val (.int (1 : Int32)), .val (.int (2 : Int32)), .val (.long z1), .second, .val (.long z2), .second, .val (.long z3), .second, .val (.long z4), .second, .val (.long z5), .second, .val (.long z6), .second, .val (.double (4741671816366391296 : UInt64)), .second, .val (.double (13965043853221167104 : UInt64)), .second, .val (.ref b7), .val (.ref b17), .unset, .unset, .unset, .unset, .unset, .unset, .unset, .unset, .unset, .unset] []))
      refine Run.x_aload (q := 212) X44 hx (hb hby at_210) rfl rfl rfl ?_
      refine Run.x_iconst (q := 213) X44 hx (hb hby at_212) (z := (3 : Int32)) rfl rfl ?_
      refine Run.x_iload (q := 215) X44 hx (hb hby at_213) rfl rfl ?_
      refine Run.x_imul (q := 216) X44 hx (hb hby at_215) (z := (6 : Int32)) (by decide) rfl ?_
      refine Run.x_lload (q := 218) X44 hx (hb hby at_216) rfl rfl ?_
      refine Run.st (B := T44.setTop (mkF m 219 #[.val (.int p1), .val (.int p2), .val (.int p3), .val (.int p4), .val (.int p5), .val (.int p6), .val (.int (1 : Int32)), .val (.int (2 : Int32)), .val (.long z1), .second, .val (.long z2), .second, .val (.long z3), .second, .val (.long z4), .second, .val (.long z5), .second, .val (.long z6), .second, .val (.double (4741671816366391296 : UInt64)), .second, .val (.double (13965043853221167104 : UInt64)), .second, .val (.ref b7), .val (.ref b17), .unset, .unset, .unset, .unset, .unset, .unset, .unset, .unset, .unset, .unset] [(.double (FP.l2d z4)), (.int (6 : Int32)), (.ref b17)])) (fun t kt => XS.l2dS X44.here hx rfl (hb hby at_218) rfl rfl kt) ?_
      replace A_b17 := ((A_b17.other W42 (Ne.symm ne_b7_b17)).other W43 (Ne.symm ne_b7_b17)).other W44 (Ne.symm ne_b7_b17)
      refine Run.stD X44 hx hZ e44 A_b17 (i := 6) (by decide) (Nat.le_of_ble_eq_true rfl) (hb hby at_219) ?_
      intro T53 h53 X53 e53 W53 A53
      replace A_b17 : Ars Z h53 b17 .double [(.double (13965043853221167104 : UInt64)), (.double (13965043853221167104 : UInt64)), (.double (13965043853221167104 : UInt64)), (.double (13965043853221167104 : UInt64)), (.double (13965043853221167104 : UInt64)), (.double (13965043853221167104 : UInt64)), (.double (FP.l2d z4)), (.double (13965043853221167104 : UInt64)), (.double (13965043853221167104 : UInt64))] := A53
      have N53 := Fr.snoc X53 N44 g_b17
      have Z53 : n0 ≤ h53.size := Nat.le_trans Z44 (Nat.le_of_eq W53.size.symm)
      show Run p e below s _ _ _ (T53.setTop (mkF m 220 #[.val (.int p1), .val (.int p2), .val (.int p3), .val (.int p4), .val (.int p5), .val (.int p6), .val (.int (1 : Int32)), .val (.int (2 : Int32)), .val (.long z1), .second, .val (.long z2), .second, .val (.long z3), .second, .val (.long z4), .second, .val (.long z5), .second, .val (.long z6), .second, .val (.double (4741671816366391296 : UInt64)), .second, .val (.double (13965043853221167104 : UInt64)), .second, .val (.ref b7), .val (.ref b17), .unset, .unset, .unset, .unset, .unset, .unset, .unset, .unset, .unset, .unset] []))
      refine Run.x_aload (q := 222) X53 hx (hb hby at_220) rfl rfl rfl ?_
      refine Run.x_iconst (q := 223) X53 hx (hb hby at_222) (z := (3 : Int32)) rfl rfl ?_
      refine Run.x_iload (q := 225) X53 hx (hb hby at_223) rfl rfl ?_
      refine Run.x_imul (q := 226) X53 hx (hb hby at_225) (z := (6 : Int32)) (by decide) rfl ?_
      refine Run.x_iconst (q := 227) X53 hx (hb hby at_226) (z := (1 : Int32)) rfl rfl ?_
      refine Run.x_iadd (q := 228) X53 hx (hb hby at_227) (z := (7 : Int32)) (by decide) rfl ?_
      refine Run.x_lload (q := 230) X53 hx (hb hby at_228) rfl rfl ?_
      refine Run.st (B := T53.setTop (mkF m 231 #[.val (.int p1), .val (.int p2), .val (.int p3), .val (.int p4), .val (.int p5), .val (.int p6), .val (.int (1 : Int32)), .val (.int (2 : Int32)), .val (.long z1), .second, .val (.long z2), .second, .val (.long z3), .second, .val (.long z4), .second, .val (.long z5), .second, .val (.long z6), .second, .val (.double (4741671816366391296 : UInt64)), .second, .val (.double (13965043853221167104 : UInt64)), .second, .val (.ref b7), .val (.ref b17), .unset, .unset, .unset, .unset, .unset, .unset, .unset, .unset, .unset, .unset] [(.double (FP.l2d z5)), (.int (7 : Int32)), (.ref b17)])) (fun t kt => XS.l2dS X53.here hx rfl (hb hby at_230) rfl rfl kt) ?_
      refine Run.stD X53 hx hZ e53 A_b17 (i := 7) (by decide) (Nat.le_of_ble_eq_true rfl) (hb hby at_231) ?_
      intro T54 h54 X54 e54 W54 A54
      replace A_b17 : Ars Z h54 b17 .double [(.double (13965043853221167104 : UInt64)), (.double (13965043853221167104 : UInt64)), (.double (13965043853221167104 : UInt64)), (.double (13965043853221167104 : UInt64)), (.double (13965043853221167104 : UInt64)), (.double (13965043853221167104 : UInt64)), (.double (FP.l2d z4)), (.double (FP.l2d z5)), (.double (13965043853221167104 : UInt64))] := A54
      have N54 := Fr.snoc X54 N53 g_b17
      have Z54 : n0 ≤ h54.size := Nat.le_trans Z53 (Nat.le_of_eq W54.size.symm)
      show Run p e below s _ _ _ (T54.setTop (mkF m 232 #[.val (.int p1), .val (.int p2), .val (.int p3), .val (.int p4), .val (.int p5), .val (.int p6), .val (.int (1 : Int32)), .val (.int (2 : Int32)), .val (.long z1), .second, .val (.long z2), .second, .val (.long z3), .second, .val (.long z4), .second, .val (.long z5), .second, .val (.long z6), .second, .val (.double (4741671816366391296 : UInt64)), .second, .val (.double (13965043853221167104 : UInt64)), .second, .val (.ref b7), .val (.ref b17), .unset, .unset, .unset, .unset, .unset, .unset, .unset, .unset, .unset, .unset] []))
      refine Run.x_aload (q := 234) X54 hx (hb hby at_232) rfl rfl rfl ?_
      refine Run.x_iconst (q := 235) X54 hx (hb hby at_234) (z := (3 : Int32)) rfl rfl ?_
      refine Run.x_iload (q := 237) X54 hx (hb hby at_235) rfl rfl ?_
      refine Run.x_imul (q := 238) X54 hx (hb hby at_237) (z := (6 : Int32)) (by decide) rfl ?_
      refine Run.x_iconst (q := 239) X54 hx (hb hby at_238) (z := (2 : Int32)) rfl rfl ?_
      refine Run.x_iadd (q := 240) X54 hx (hb hby at_239) (z := (8 : Int32)) (by decide) rfl ?_
      refine Run.x_lload (q := 242) X54 hx (hb hby at_240) rfl rfl ?_
      refine Run.st (B := T54.setTop (mkF m 243 #[.val (.int p1), .val (.int p2), .val (.int p3), .val (.int p4), .val (.int p5), .val (.int p6), .val (.int (1 : Int32)), .val (.int (2 : Int32)), .val (.long z1), .second, .val (.long z2), .second, .val (.long z3), .second, .val (.long z4), .second, .val (.long z5), .second, .val (.long z6), .second, .val (.double (4741671816366391296 : UInt64)), .second, .val (.double (13965043853221167104 : UInt64)), .second, .val (.ref b7), .val (.ref b17), .unset, .unset, .unset, .unset, .unset, .unset, .unset, .unset, .unset, .unset] [(.double (FP.l2d z6)), (.int (8 : Int32)), (.ref b17)])) (fun t kt => XS.l2dS X54.here hx rfl (hb hby at_242) rfl rfl kt) ?_
      refine Run.stD X54 hx hZ e54 A_b17 (i := 8) (by decide) (Nat.le_of_ble_eq_true rfl) (hb hby at_243) ?_
      intro T55 h55 X55 e55 W55 A55
      replace A_b17 : Ars Z h55 b17 .double [(.double (13965043853221167104 : UInt64)), (.double (13965043853221167104 : UInt64)), (.double (13965043853221167104 : UInt64)), (.double (13965043853221167104 : UInt64)), (.double (13965043853221167104 : UInt64)), (.double (13965043853221167104 : UInt64)), (.double (FP.l2d z4)), (.double (FP.l2d z5)), (.double (FP.l2d z6))] := A55
      have N55 := Fr.snoc X55 N54 g_b17
      have Z55 : n0 ≤ h55.size := Nat.le_trans Z54 (Nat.le_of_eq W55.size.symm)
      show Run p e below s _ _ _ (T55.setTop (mkF m 244 #[.val (.int p1), .val (.int p2), .val (.int p3), .val (.int p4), .val (.int p5), .val (.int p6), .val (.int (1 : Int32)), .val (.int (2 : Int32)), .val (.long z1), .second, .val (.long z2), .second, .val (.long z3), .second, .val (.long z4), .second, .val (.long z5), .second, .val (.long z6), .second, .val (.double (4741671816366391296 : UInt64)), .second, .val (.double (13965043853221167104 : UInt64)), .second, .val (.ref b7), .val (.ref b17), .unset, .unset, .unset, .unset, .unset, .unset, .unset, .unset, .unset, .unset] []))
      refine Run.x_lload (q := 246) X55 hx (hb hby at_244) rfl rfl ?_
      refine Run.x_lload (q := 248) X55 hx (hb hby at_246) rfl rfl ?_
      refine Run.x_lsub (q := 249) X55 hx (hb hby at_248) rfl rfl ?_
      refine Run.x_lstore (q := 251) X55 hx #[.val (.int p1), .val (.int p2), .val (.int p3), .val (.int p4), .val (.int p5), .val (.int p6), .val (.int (1 : Int32)), .val (.int (2 : Int32)), .val (.long z1), .second, .val (.long z2), .second, .val (.long z3), .second, .val (.long z4), .second, .val (.long z5), .second, .val (.long z6), .second, .val (.double (4741671816366391296 : UInt64)), .second, .val (.double (13965043853221167104 : UInt64)), .second, .val (.ref b7), .val (.ref b17), .val (.long (z1 - z4)), .second, .unset, .unset, .unset, .unset, .unset, .unset, .unset, .unset] (hb hby at_249) rfl rfl ?_
      refine Run.x_lload (q := 253) X55 hx (hb hby at_251) rfl rfl ?_
      refine Run.x_lload (q := 255) X55 hx (hb hby at_253) rfl rfl ?_
      refine Run.x_lsub (q := 256) X55 hx (hb hby at_255) rfl rfl ?_
      refine Run.x_lstore (q := 258) X55 hx #[.val (.int p1), .val (.int p2), .val (.int p3), .val (.int p4), .val (.int p5), .val (.int p6), .val (.int (1 : Int32)), .val (.int (2 : Int32)), .val (.long z1), .second, .val (.long z2), .second, .val (.long z3), .second, .val (.long z4), .second, .val (.long z5), .second, .val (.long z6), .second, .val (.double (4741671816366391296 : UInt64)), .second, .val (.double (13965043853221167104 : UInt64)), .second, .val (.ref b7), .val (.ref b17), .val (.long (z1 - z4)), .second, .val (.long (z2 - z5)), .second, .unset, .unset, .unset, .unset, .unset, .unset] (hb hby at_256) rfl rfl ?_
      refine Run.x_lload (q := 260) X55 hx (hb hby at_258) rfl rfl ?_
      refine Run.x_lload (q := 262) X55 hx (hb hby at_260) rfl rfl ?_
      refine Run.x_lsub (q := 263) X55 hx (hb hby at_262) rfl rfl ?_
      refine Run.x_lstore (q := 265) X55 hx #[.val (.int p1), .val (.int p2), .val (.int p3), .val (.int p4), .val (.int p5), .val (.int p6), .val (.int (1 : Int32)), .val (.int (2 : Int32)), .val (.long z1), .second, .val (.long z2), .second, .val (.long z3), .second, .val (.long z4), .second, .val (.long z5), .second, .val (.long z6), .second, .val (.double (4741671816366391296 : UInt64)), .second, .val (.double (13965043853221167104 : UInt64)), .second, .val (.ref b7), .val (.ref b17), .val (.long (z1 - z4)), .second, .val (.long (z2 - z5)), .second, .val (.long (z3 - z6)), .second, .unset, .unset, .unset, .unset] (hb hby at_263) rfl rfl ?_
      refine Run.x_lload (q := 267) X55 hx (hb hby at_265) rfl rfl ?_
      refine Run.x_lload (q := 269) X55 hx (hb hby at_267) rfl rfl ?_
      refine Run.x_lmul (q := 270) X55 hx (hb hby at_269) rfl rfl ?_
      refine Run.x_lload (q := 272) X55 hx (hb hby at_270) rfl rfl ?_
      refine Run.x_lload (q := 274) X55 hx (hb hby at_272) rfl rfl ?_
      refine Run.x_lmul (q := 275) X55 hx (hb hby at_274) rfl rfl ?_
      refine Run.x_ladd (q := 276) X55 hx (hb hby at_275) rfl rfl ?_
      refine Run.x_lload (q := 278) X55 hx (hb hby at_276) rfl rfl ?_
      refine Run.x_lload (q := 280) X55 hx (hb hby at_278) rfl rfl ?_
      refine Run.x_lmul (q := 281) X55 hx (hb hby at_280) rfl rfl ?_
      refine Run.x_ladd (q := 282) X55 hx (hb hby at_281) rfl rfl ?_
      refine Run.x_lstore (q := 284) X55 hx #[.val (.int p1), .val (.int p2), .val (.int p3), .val (.int p4), .val (.int p5), .val (.int p6), .val (.int (1 : Int32)), .val (.int (2 : Int32)), .val (.long z1), .second, .val (.long z2), .second, .val (.long z3), .second, .val (.long z4), .second, .val (.long z5), .second, .val (.long z6), .second, .val (.double (4741671816366391296 : UInt64)), .second, .val (.double (13965043853221167104 : UInt64)), .second, .val (.ref b7), .val (.ref b17), .val (.long (z1 - z4)), .second, .val (.long (z2 - z5)), .second, .val (.long (z3 - z6)), .second, .val (.long ((((z1 - z4) * (z1 - z4)) + ((z2 - z5) * (z2 - z5))) + ((z3 - z6) * (z3 - z6)))), .second, .unset, .unset] (hb hby at_282) rfl rfl ?_
      refine Run.x_aload (q := 286) X55 hx (hb hby at_284) rfl rfl rfl ?_
      refine Run.x_iload (q := 288) X55 hx (hb hby at_286) rfl rfl ?_
      refine Run.x_aload (q := 290) X55 hx (hb hby at_288) rfl rfl rfl ?_
      refine Run.x_iload (q := 292) X55 hx (hb hby at_290) rfl rfl ?_
      replace A_b7 := ((A_b7.other W53 ne_b7_b17).other W54 ne_b7_b17).other W55 ne_b7_b17
      refine Run.callS X55 hx hZ e55 (y := (⟨"org/tertiary/analysis/Superposition", "squaredDistance", "([DI[DI)D"⟩ : MethodName)) hown (hw _ (List.mem_of_getElem? (i := 7) rfl)) (hw _ (List.mem_of_getElem? (i := 8) rfl)) (hw _ (List.mem_of_getElem? (i := 9) rfl)) (hw _ (List.mem_of_getElem? (i := 10) rfl)) (by decide) (argsL := [(.ref b7), (.int (1 : Int32)), (.ref b17), (.int (2 : Int32))]) (rest := []) (c_sd l Z a0 hw b7 (1 : Int32) b17 (2 : Int32) h55 n0 Z55 [(Value.double (4741671816366391296 : UInt64)), (Value.double (4741671816366391296 : UInt64)), (Value.double (4741671816366391296 : UInt64)), (Value.double (FP.l2d z1)), (Value.double (FP.l2d z2)), (Value.double (FP.l2d z3)), (Value.double (4741671816366391296 : UInt64)), (Value.double (4741671816366391296 : UInt64)), (Value.double (4741671816366391296 : UInt64))] [(Value.double (13965043853221167104 : UInt64)), (Value.double (13965043853221167104 : UInt64)), (Value.double (13965043853221167104 : UInt64)), (Value.double (13965043853221167104 : UInt64)), (Value.double (13965043853221167104 : UInt64)), (Value.double (13965043853221167104 : UInt64)), (Value.double (FP.l2d z4)), (Value.double (FP.l2d z5)), (Value.double (FP.l2d z6))] 1 2 z1 z2 z3 z4 z5 z6 A_b7 A_b17 rfl (by decide) rfl (by decide) rfl rfl hz1 hz4 rfl rfl hz2 hz5 rfl rfl hz3 hz6) pd_1 rfl (by rw [hml]; rfl) (W := 0) rfl (by decide) (by decide) (by decide) (by decide) (hb hby at_292) rfl ?_
      intro T56 v56 L56 X56 q56
      obtain ⟨rfl, M56, e56⟩ := q56
      have N56 := Fr.app N55 M56
      show Run p e below s _ _ _ (T56.setTop (mkF m 295 #[.val (.int p1), .val (.int p2), .val (.int p3), .val (.int p4), .val (.int p5), .val (.int p6), .val (.int (1 : Int32)), .val (.int (2 : Int32)), .val (.long z1), .second, .val (.long z2), .second, .val (.long z3), .second, .val (.long z4), .second, .val (.long z5), .second, .val (.long z6), .second, .val (.double (4741671816366391296 : UInt64)), .second, .val (.double (13965043853221167104 : UInt64)), .second, .val (.ref b7), .val (.ref b17), .val (.long (z1 - z4)), .second, .val (.long (z2 - z5)), .second, .val (.long (z3 - z6)), .second, .val (.long ((((z1 - z4) * (z1 - z4)) + ((z2 - z5) * (z2 - z5))) + ((z3 - z6) * (z3 - z6)))), .second, .unset, .unset] [(.double (FP.l2d ((((z1 - z4) * (z1 - z4)) + ((z2 - z5) * (z2 - z5))) + ((z3 - z6) * (z3 - z6)))))]))
      refine Run.st (B := T56.setTop (mkF m 297 #[.val (.int p1), .val (.int p2), .val (.int p3), .val (.int p4), .val (.int p5), .val (.int p6), .val (.int (1 : Int32)), .val (.int (2 : Int32)), .val (.long z1), .second, .val (.long z2), .second, .val (.long z3), .second, .val (.long z4), .second, .val (.long z5), .second, .val (.long z6), .second, .val (.double (4741671816366391296 : UInt64)), .second, .val (.double (13965043853221167104 : UInt64)), .second, .val (.ref b7), .val (.ref b17), .val (.long (z1 - z4)), .second, .val (.long (z2 - z5)), .second, .val (.long (z3 - z6)), .second, .val (.long ((((z1 - z4) * (z1 - z4)) + ((z2 - z5) * (z2 - z5))) + ((z3 - z6) * (z3 - z6)))), .second, .val (.double (FP.l2d ((((z1 - z4) * (z1 - z4)) + ((z2 - z5) * (z2 - z5))) + ((z3 - z6) * (z3 - z6))))), .second] [])) (fun t kt => XS.dstore X56.here hx rfl (hb hby at_295) rfl (l' := #[.val (.int p1), .val (.int p2), .val (.int p3), .val (.int p4), .val (.int p5), .val (.int p6), .val (.int (1 : Int32)), .val (.int (2 : Int32)), .val (.long z1), .second, .val (.long z2), .second, .val (.long z3), .second, .val (.long z4), .second, .val (.long z5), .second, .val (.long z6), .second, .val (.double (4741671816366391296 : UInt64)), .second, .val (.double (13965043853221167104 : UInt64)), .second, .val (.ref b7), .val (.ref b17), .val (.long (z1 - z4)), .second, .val (.long (z2 - z5)), .second, .val (.long (z3 - z6)), .second, .val (.long ((((z1 - z4) * (z1 - z4)) + ((z2 - z5) * (z2 - z5))) + ((z3 - z6) * (z3 - z6)))), .second, .val (.double (FP.l2d ((((z1 - z4) * (z1 - z4)) + ((z2 - z5) * (z2 - z5))) + ((z3 - z6) * (z3 - z6))))), .second]) rfl kt) ?_
      refine Run.st (B := T56.setTop (mkF m 299 #[.val (.int p1), .val (.int p2), .val (.int p3), .val (.int p4), .val (.int p5), .val (.int p6), .val (.int (1 : Int32)), .val (.int (2 : Int32)), .val (.long z1), .second, .val (.long z2), .second, .val (.long z3), .second, .val (.long z4), .second, .val (.long z5), .second, .val (.long z6), .second, .val (.double (4741671816366391296 : UInt64)), .second, .val (.double (13965043853221167104 : UInt64)), .second, .val (.ref b7), .val (.ref b17), .val (.long (z1 - z4)), .second, .val (.long (z2 - z5)), .second, .val (.long (z3 - z6)), .second, .val (.long ((((z1 - z4) * (z1 - z4)) + ((z2 - z5) * (z2 - z5))) + ((z3 - z6) * (z3 - z6)))), .second, .val (.double (FP.l2d ((((z1 - z4) * (z1 - z4)) + ((z2 - z5) * (z2 - z5))) + ((z3 - z6) * (z3 - z6))))), .second] [(.double (FP.l2d ((((z1 - z4) * (z1 - z4)) + ((z2 - z5) * (z2 - z5))) + ((z3 - z6) * (z3 - z6)))))])) (fun t kt => XS.dload X56.here hx rfl (hb hby at_297) rfl kt) ?_
      refine Run.x_lload (q := 301) X56 hx (hb hby at_299) rfl rfl ?_
      refine Run.st (B := T56.setTop (mkF m 302 #[.val (.int p1), .val (.int p2), .val (.int p3), .val (.int p4), .val (.int p5), .val (.int p6), .val (.int (1 : Int32)), .val (.int (2 : Int32)), .val (.long z1), .second, .val (.long z2), .second, .val (.long z3), .second, .val (.long z4), .second, .val (.long z5), .second, .val (.long z6), .second, .val (.double (4741671816366391296 : UInt64)), .second, .val (.double (13965043853221167104 : UInt64)), .second, .val (.ref b7), .val (.ref b17), .val (.long (z1 - z4)), .second, .val (.long (z2 - z5)), .second, .val (.long (z3 - z6)), .second, .val (.long ((((z1 - z4) * (z1 - z4)) + ((z2 - z5) * (z2 - z5))) + ((z3 - z6) * (z3 - z6)))), .second, .val (.double (FP.l2d ((((z1 - z4) * (z1 - z4)) + ((z2 - z5) * (z2 - z5))) + ((z3 - z6) * (z3 - z6))))), .second] [(.double (FP.l2d ((((z1 - z4) * (z1 - z4)) + ((z2 - z5) * (z2 - z5))) + ((z3 - z6) * (z3 - z6))))), (.double (FP.l2d ((((z1 - z4) * (z1 - z4)) + ((z2 - z5) * (z2 - z5))) + ((z3 - z6) * (z3 - z6)))))])) (fun t kt => XS.l2dS X56.here hx rfl (hb hby at_301) rfl rfl kt) ?_
      refine Run.st (B := T56.setTop (mkF m 303 #[.val (.int p1), .val (.int p2), .val (.int p3), .val (.int p4), .val (.int p5), .val (.int p6), .val (.int (1 : Int32)), .val (.int (2 : Int32)), .val (.long z1), .second, .val (.long z2), .second, .val (.long z3), .second, .val (.long z4), .second, .val (.long z5), .second, .val (.long z6), .second, .val (.double (4741671816366391296 : UInt64)), .second, .val (.double (13965043853221167104 : UInt64)), .second, .val (.ref b7), .val (.ref b17), .val (.long (z1 - z4)), .second, .val (.long (z2 - z5)), .second, .val (.long (z3 - z6)), .second, .val (.long ((((z1 - z4) * (z1 - z4)) + ((z2 - z5) * (z2 - z5))) + ((z3 - z6) * (z3 - z6)))), .second, .val (.double (FP.l2d ((((z1 - z4) * (z1 - z4)) + ((z2 - z5) * (z2 - z5))) + ((z3 - z6) * (z3 - z6))))), .second] [(.int (0 : Int32))])) (fun t kt => XS.dcmpS X56.here hx rfl (hb hby at_302) rfl (dcmpV_self (nn_w rfl) _) kt) ?_
      refine Run.x_ifNo (q := 306) X56 hx (hb hby at_303) ((if0 _ _).trans (teq (by decide : (0 : Int32) = (0 : Int32))).2) rfl ?_
      refine Run.x_iconst (q := 307) X56 hx (hb hby at_306) (z := (1 : Int32)) rfl rfl ?_
      refine Run.x_goto (q := 311) X56 hx (hb hby at_307) (by decide) (by decide) ?_
      refine Run.retN X56 hx hlk e56 (t := .boolean) hret (by simp) (z' := (1 : Int32)) (by decide) (hb hby at_311) (by decide) (by decide) ?_
      exact ⟨rfl, N56⟩
  · skip
    show Run p e below s _ _ _ (T26.setTop (mkF m 176 #[.val (.int p1), .val (.int p2), .val (.int p3), .val (.int p4), .val (.int p5), .val (.int p6), .val (.int (2 : Int32)), .val (.int vj), .val (.long z1), .second, .val (.long z2), .second, .val (.long z3), .second, .val (.long z4), .second, .val (.long z5), .second, .val (.long z6), .second, .val (.double (4741671816366391296 : UInt64)), .second, .val (.double (13965043853221167104 : UInt64)), .second, .val (.ref b7), .val (.ref b17), .unset, .unset, .unset, .unset, .unset, .unset, .unset, .unset, .unset, .unset] []))
    refine Run.x_aload (q := 178) X26 hx (hb hby at_176) rfl rfl rfl ?_
    refine Run.x_iconst (q := 179) X26 hx (hb hby at_178) (z := (3 : Int32)) rfl rfl ?_
    refine Run.x_iload (q := 181) X26 hx (hb hby at_179) rfl rfl ?_
    refine Run.x_imul (q := 182) X26 hx (hb hby at_181) (z := (6 : Int32)) (by decide) rfl ?_
    refine Run.x_lload (q := 184) X26 hx (hb hby at_182) rfl rfl ?_
    refine Run.st (B := T26.setTop (mkF m 185 #[.val (.int p1), .val (.int p2), .val (.int p3), .val (.int p4), .val (.int p5), .val (.int p6), .val (.int (2 : Int32)), .val (.int vj), .val (.long z1), .second, .val (.long z2), .second, .val (.long z3), .second, .val (.long z4), .second, .val (.long z5), .second, .val (.long z6), .second, .val (.double (4741671816366391296 : UInt64)), .second, .val (.double (13965043853221167104 : UInt64)), .second, .val (.ref b7), .val (.ref b17), .unset, .unset, .unset, .unset, .unset, .unset, .unset, .unset, .unset, .unset] [(.double (FP.l2d z1)), (.int (6 : Int32)), (.ref b7)])) (fun t kt => XS.l2dS X26.here hx rfl (hb hby at_184) rfl rfl kt) ?_
    replace A_b7 := (((((((((A_b7.ext E17).other W18 ne_b7_b17).other W19 ne_b7_b17).other W20 ne_b7_b17).other W21 ne_b7_b17).other W22 ne_b7_b17).other W23 ne_b7_b17).other W24 ne_b7_b17).other W25 ne_b7_b17).other W26 ne_b7_b17
    refine Run.stD X26 hx hZ e26 A_b7 (i := 6) (by decide) (Nat.le_of_ble_eq_true rfl) (hb hby at_185) ?_
    intro T57 h57 X57 e57 W57 A57
    replace A_b7 : Ars Z h57 b7 .double [(.double (4741671816366391296 : UInt64)), (.double (4741671816366391296 : UInt64)), (.double (4741671816366391296 : UInt64)), (.double (4741671816366391296 : UInt64)), (.double (4741671816366391296 : UInt64)), (.double (4741671816366391296 : UInt64)), (.double (FP.l2d z1)), (.double (4741671816366391296 : UInt64)), (.double (4741671816366391296 : UInt64))] := A57
    have N57 := Fr.snoc X57 N26 g_b7
    have Z57 : n0 ≤ h57.size := Nat.le_trans Z26 (Nat.le_of_eq W57.size.symm)
    show Run p e below s _ _ _ (T57.setTop (mkF m 186 #[.val (.int p1), .val (.int p2), .val (.int p3), .val (.int p4), .val (.int p5), .val (.int p6), .val (.int (2 : Int32)), .val (.int vj), .val (.long z1), .second, .val (.long z2), .second, .val (.long z3), .second, .val (.long z4), .second, .val (.long z5), .second, .val (.long z6), .second, .val (.double (4741671816366391296 : UInt64)), .second, .val (.double (13965043853221167104 : UInt64)), .second, .val (.ref b7), .val (.ref b17), .unset, .unset, .unset, .unset, .unset, .unset, .unset, .unset, .unset, .unset] []))
    refine Run.x_aload (q := 188) X57 hx (hb hby at_186) rfl rfl rfl ?_
    refine Run.x_iconst (q := 189) X57 hx (hb hby at_188) (z := (3 : Int32)) rfl rfl ?_
    refine Run.x_iload (q := 191) X57 hx (hb hby at_189) rfl rfl ?_
    refine Run.x_imul (q := 192) X57 hx (hb hby at_191) (z := (6 : Int32)) (by decide) rfl ?_
    refine Run.x_iconst (q := 193) X57 hx (hb hby at_192) (z := (1 : Int32)) rfl rfl ?_
    refine Run.x_iadd (q := 194) X57 hx (hb hby at_193) (z := (7 : Int32)) (by decide) rfl ?_
    refine Run.x_lload (q := 196) X57 hx (hb hby at_194) rfl rfl ?_
    refine Run.st (B := T57.setTop (mkF m 197 #[.val (.int p1), .val (.int p2), .val (.int p3), .val (.int p4), .val (.int p5), .val (.int p6), .val (.int (2 : Int32)), .val (.int vj), .val (.long z1), .second, .val (.long z2), .second, .val (.long z3), .second, .val (.long z4), .second, .val (.long z5), .second, .val (.long z6), .second, .val (.double (4741671816366391296 : UInt64)), .second, .val (.double (13965043853221167104 : UInt64)), .second, .val (.ref b7), .val (.ref b17), .unset, .unset, .unset, .unset, .unset, .unset, .unset, .unset, .unset, .unset] [(.double (FP.l2d z2)), (.int (7 : Int32)), (.ref b7)])) (fun t kt => XS.l2dS X57.here hx rfl (hb hby at_196) rfl rfl kt) ?_
    refine Run.stD X57 hx hZ e57 A_b7 (i := 7) (by decide) (Nat.le_of_ble_eq_true rfl) (hb hby at_197) ?_
    intro T58 h58 X58 e58 W58 A58
    replace A_b7 : Ars Z h58 b7 .double [(.double (4741671816366391296 : UInt64)), (.double (4741671816366391296 : UInt64)), (.double (4741671816366391296 : UInt64)), (.double (4741671816366391296 : UInt64)), (.double (4741671816366391296 : UInt64)), (.double (4741671816366391296 : UInt64)), (.double (FP.l2d z1)), (.double (FP.l2d z2)), (.double (4741671816366391296 : UInt64))] := A58
    have N58 := Fr.snoc X58 N57 g_b7
    have Z58 : n0 ≤ h58.size := Nat.le_trans Z57 (Nat.le_of_eq W58.size.symm)
    show Run p e below s _ _ _ (T58.setTop (mkF m 198 #[.val (.int p1), .val (.int p2), .val (.int p3), .val (.int p4), .val (.int p5), .val (.int p6), .val (.int (2 : Int32)), .val (.int vj), .val (.long z1), .second, .val (.long z2), .second, .val (.long z3), .second, .val (.long z4), .second, .val (.long z5), .second, .val (.long z6), .second, .val (.double (4741671816366391296 : UInt64)), .second, .val (.double (13965043853221167104 : UInt64)), .second, .val (.ref b7), .val (.ref b17), .unset, .unset, .unset, .unset, .unset, .unset, .unset, .unset, .unset, .unset] []))
    refine Run.x_aload (q := 200) X58 hx (hb hby at_198) rfl rfl rfl ?_
    refine Run.x_iconst (q := 201) X58 hx (hb hby at_200) (z := (3 : Int32)) rfl rfl ?_
    refine Run.x_iload (q := 203) X58 hx (hb hby at_201) rfl rfl ?_
    refine Run.x_imul (q := 204) X58 hx (hb hby at_203) (z := (6 : Int32)) (by decide) rfl ?_
    refine Run.x_iconst (q := 205) X58 hx (hb hby at_204) (z := (2 : Int32)) rfl rfl ?_
    refine Run.x_iadd (q := 206) X58 hx (hb hby at_205) (z := (8 : Int32)) (by decide) rfl ?_
    refine Run.x_lload (q := 208) X58 hx (hb hby at_206) rfl rfl ?_
    refine Run.st (B := T58.setTop (mkF m 209 #[.val (.int p1), .val (.int p2), .val (.int p3), .val (.int p4), .val (.int p5), .val (.int p6), .val (.int (2 : Int32)), .val (.int vj), .val (.long z1), .second, .val (.long z2), .second, .val (.long z3), .second, .val (.long z4), .second, .val (.long z5), .second, .val (.long z6), .second, .val (.double (4741671816366391296 : UInt64)), .second, .val (.double (13965043853221167104 : UInt64)), .second, .val (.ref b7), .val (.ref b17), .unset, .unset, .unset, .unset, .unset, .unset, .unset, .unset, .unset, .unset] [(.double (FP.l2d z3)), (.int (8 : Int32)), (.ref b7)])) (fun t kt => XS.l2dS X58.here hx rfl (hb hby at_208) rfl rfl kt) ?_
    refine Run.stD X58 hx hZ e58 A_b7 (i := 8) (by decide) (Nat.le_of_ble_eq_true rfl) (hb hby at_209) ?_
    intro T59 h59 X59 e59 W59 A59
    replace A_b7 : Ars Z h59 b7 .double [(.double (4741671816366391296 : UInt64)), (.double (4741671816366391296 : UInt64)), (.double (4741671816366391296 : UInt64)), (.double (4741671816366391296 : UInt64)), (.double (4741671816366391296 : UInt64)), (.double (4741671816366391296 : UInt64)), (.double (FP.l2d z1)), (.double (FP.l2d z2)), (.double (FP.l2d z3))] := A59
    have N59 := Fr.snoc X59 N58 g_b7
    have Z59 : n0 ≤ h59.size := Nat.le_trans Z58 (Nat.le_of_eq W59.size.symm)
    show Run p e below s _ _ _ (T59.setTop (mkF m 210 #[.val (.int p1), .val (.int p2), .val (.int p3), .val (.int p4), .val (.int p5), .val (.int p6), .val (.int (2 : Int32)), .val (.int vj), .val (.long z1), .second, .val (.long z2), .second, .val (.long z3), .second, .val (.long z4), .second, .val (.long z5), .second, .val (.long z6), .second, .val (.double (4741671816366391296 : UInt64)), .second, .val (.double (13965043853221167104 : UInt64)), .second, .val (.ref b7), .val (.ref b17), .unset, .unset, .unset, .unset, .unset, .unset, .unset, .unset, .unset, .unset] []))
    rcases own_i hvj with rfl | rfl | rfl
    · skip
      show Run p e below s _ _ _ (T59.setTop (mkF m 210 #[.val (.int p1), .val (.int p2), .val (.int p3), .val (.int p4), .val (.int p5), .val (.int p6), .val (.int (2 : Int32)), .val (.int (0 : Int32)), .val (.long z1), .second, .val (.long z2), .second, .val (.long z3), .second, .val (.long z4), .second, .val (.long z5), .second, .val (.long z6), .second, .val (.double (4741671816366391296 : UInt64)), .second, .val (.double (13965043853221167104 : UInt64)), .second, .val (.ref b7), .val (.ref b17), .unset, .unset, .unset, .unset, .unset, .unset, .unset, .unset, .unset, .unset] []))
      refine Run.x_aload (q := 212) X59 hx (hb hby at_210) rfl rfl rfl ?_
      refine Run.x_iconst (q := 213) X59 hx (hb hby at_212) (z := (3 : Int32)) rfl rfl ?_
      refine Run.x_iload (q := 215) X59 hx (hb hby at_213) rfl rfl ?_
      refine Run.x_imul (q := 216) X59 hx (hb hby at_215) (z := (0 : Int32)) (by decide) rfl ?_
      refine Run.x_lload (q := 218) X59 hx (hb hby at_216) rfl rfl ?_
      refine Run.st (B := T59.setTop (mkF m 219 #[.val (.int p1), .val (.int p2), .val (.int p3), .val (.int p4), .val (.int p5), .val (.int p6), .val (.int (2 : Int32)), .val (.int (0 : Int32)), .val (.long z1), .second, .val (.long z2), .second, .val (.long z3), .second, .val (.long z4), .second, .val (.long z5), .second, .val (.long z6), .second, .val (.double (4741671816366391296 : UInt64)), .second, .val (.double (13965043853221167104 : UInt64)), .second, .val (.ref b7), .val (.ref b17), .unset, .unset, .unset, .unset, .unset, .unset, .unset, .unset, .unset, .unset] [(.double (FP.l2d z4)), (.int (0 : Int32)), (.ref b17)])) (fun t kt => XS.l2dS X59.here hx rfl (hb hby at_218) rfl rfl kt) ?_
      replace A_b17 := ((A_b17.other W57 (Ne.symm ne_b7_b17)).other W58 (Ne.symm ne_b7_b17)).other W59 (Ne.symm ne_b7_b17)
      refine Run.stD X59 hx hZ e59 A_b17 (i := 0) (by decide) (Nat.le_of_ble_eq_true rfl) (hb hby at_219) ?_
      intro T60 h60 X60 e60 W60 A60
      replace A_b17 : Ars Z h60 b17 .double [(.double (FP.l2d z4)), (.double (13965043853221167104 : UInt64)), (.double (13965043853221167104 : UInt64)), (.double (13965043853221167104 : UInt64)), (.double (13965043853221167104 : UInt64)), (.double (13965043853221167104 : UInt64)), (.double (13965043853221167104 : UInt64)), (.double (13965043853221167104 : UInt64)), (.double (13965043853221167104 : UInt64))] := A60
      have N60 := Fr.snoc X60 N59 g_b17
      have Z60 : n0 ≤ h60.size := Nat.le_trans Z59 (Nat.le_of_eq W60.size.symm)
      show Run p e below s _ _ _ (T60.setTop (mkF m 220 #[.val (.int p1), .val (.int p2), .val (.int p3), .val (.int p4), .val (.int p5), .val (.int p6), .val (.int (2 : Int32)), .val (.int (0 : Int32)), .val (.long z1), .second, .val (.long z2), .second, .val (.long z3), .second, .val (.long z4), .second, .val (.long z5), .second, .val (.long z6), .second, .val (.double (4741671816366391296 : UInt64)), .second, .val (.double (13965043853221167104 : UInt64)), .second, .val (.ref b7), .val (.ref b17), .unset, .unset, .unset, .unset, .unset, .unset, .unset, .unset, .unset, .unset] []))
      refine Run.x_aload (q := 222) X60 hx (hb hby at_220) rfl rfl rfl ?_
      refine Run.x_iconst (q := 223) X60 hx (hb hby at_222) (z := (3 : Int32)) rfl rfl ?_
      refine Run.x_iload (q := 225) X60 hx (hb hby at_223) rfl rfl ?_
      refine Run.x_imul (q := 226) X60 hx (hb hby at_225) (z := (0 : Int32)) (by decide) rfl ?_
      refine Run.x_iconst (q := 227) X60 hx (hb hby at_226) (z := (1 : Int32)) rfl rfl ?_
      refine Run.x_iadd (q := 228) X60 hx (hb hby at_227) (z := (1 : Int32)) (by decide) rfl ?_
      refine Run.x_lload (q := 230) X60 hx (hb hby at_228) rfl rfl ?_
      refine Run.st (B := T60.setTop (mkF m 231 #[.val (.int p1), .val (.int p2), .val (.int p3), .val (.int p4), .val (.int p5), .val (.int p6), .val (.int (2 : Int32)), .val (.int (0 : Int32)), .val (.long z1), .second, .val (.long z2), .second, .val (.long z3), .second, .val (.long z4), .second, .val (.long z5), .second, .val (.long z6), .second, .val (.double (4741671816366391296 : UInt64)), .second, .val (.double (13965043853221167104 : UInt64)), .second, .val (.ref b7), .val (.ref b17), .unset, .unset, .unset, .unset, .unset, .unset, .unset, .unset, .unset, .unset] [(.double (FP.l2d z5)), (.int (1 : Int32)), (.ref b17)])) (fun t kt => XS.l2dS X60.here hx rfl (hb hby at_230) rfl rfl kt) ?_
      refine Run.stD X60 hx hZ e60 A_b17 (i := 1) (by decide) (Nat.le_of_ble_eq_true rfl) (hb hby at_231) ?_
      intro T61 h61 X61 e61 W61 A61
      replace A_b17 : Ars Z h61 b17 .double [(.double (FP.l2d z4)), (.double (FP.l2d z5)), (.double (13965043853221167104 : UInt64)), (.double (13965043853221167104 : UInt64)), (.double (13965043853221167104 : UInt64)), (.double (13965043853221167104 : UInt64)), (.double (13965043853221167104 : UInt64)), (.double (13965043853221167104 : UInt64)), (.double (13965043853221167104 : UInt64))] := A61
      have N61 := Fr.snoc X61 N60 g_b17
      have Z61 : n0 ≤ h61.size := Nat.le_trans Z60 (Nat.le_of_eq W61.size.symm)
      show Run p e below s _ _ _ (T61.setTop (mkF m 232 #[.val (.int p1), .val (.int p2), .val (.int p3), .val (.int p4), .val (.int p5), .val (.int p6), .val (.int (2 : Int32)), .val (.int (0 : Int32)), .val (.long z1), .second, .val (.long z2), .second, .val (.long z3), .second, .val (.long z4), .second, .val (.long z5), .second, .val (.long z6), .second, .val (.double (4741671816366391296 : UInt64)), .second, .val (.double (13965043853221167104 : UInt64)), .second, .val (.ref b7), .val (.ref b17), .unset, .unset, .unset, .unset, .unset, .unset, .unset, .unset, .unset, .unset] []))
      refine Run.x_aload (q := 234) X61 hx (hb hby at_232) rfl rfl rfl ?_
      refine Run.x_iconst (q := 235) X61 hx (hb hby at_234) (z := (3 : Int32)) rfl rfl ?_
      refine Run.x_iload (q := 237) X61 hx (hb hby at_235) rfl rfl ?_
      refine Run.x_imul (q := 238) X61 hx (hb hby at_237) (z := (0 : Int32)) (by decide) rfl ?_
      refine Run.x_iconst (q := 239) X61 hx (hb hby at_238) (z := (2 : Int32)) rfl rfl ?_
      refine Run.x_iadd (q := 240) X61 hx (hb hby at_239) (z := (2 : Int32)) (by decide) rfl ?_
      refine Run.x_lload (q := 242) X61 hx (hb hby at_240) rfl rfl ?_
      refine Run.st (B := T61.setTop (mkF m 243 #[.val (.int p1), .val (.int p2), .val (.int p3), .val (.int p4), .val (.int p5), .val (.int p6), .val (.int (2 : Int32)), .val (.int (0 : Int32)), .val (.long z1), .second, .val (.long z2), .second, .val (.long z3), .second, .val (.long z4), .second, .val (.long z5), .second, .val (.long z6), .second, .val (.double (4741671816366391296 : UInt64)), .second, .val (.double (13965043853221167104 : UInt64)), .second, .val (.ref b7), .val (.ref b17), .unset, .unset, .unset, .unset, .unset, .unset, .unset, .unset, .unset, .unset] [(.double (FP.l2d z6)), (.int (2 : Int32)), (.ref b17)])) (fun t kt => XS.l2dS X61.here hx rfl (hb hby at_242) rfl rfl kt) ?_
      refine Run.stD X61 hx hZ e61 A_b17 (i := 2) (by decide) (Nat.le_of_ble_eq_true rfl) (hb hby at_243) ?_
      intro T62 h62 X62 e62 W62 A62
      replace A_b17 : Ars Z h62 b17 .double [(.double (FP.l2d z4)), (.double (FP.l2d z5)), (.double (FP.l2d z6)), (.double (13965043853221167104 : UInt64)), (.double (13965043853221167104 : UInt64)), (.double (13965043853221167104 : UInt64)), (.double (13965043853221167104 : UInt64)), (.double (13965043853221167104 : UInt64)), (.double (13965043853221167104 : UInt64))] := A62
      have N62 := Fr.snoc X62 N61 g_b17
      have Z62 : n0 ≤ h62.size := Nat.le_trans Z61 (Nat.le_of_eq W62.size.symm)
      show Run p e below s _ _ _ (T62.setTop (mkF m 244 #[.val (.int p1), .val (.int p2), .val (.int p3), .val (.int p4), .val (.int p5), .val (.int p6), .val (.int (2 : Int32)), .val (.int (0 : Int32)), .val (.long z1), .second, .val (.long z2), .second, .val (.long z3), .second, .val (.long z4), .second, .val (.long z5), .second, .val (.long z6), .second, .val (.double (4741671816366391296 : UInt64)), .second, .val (.double (13965043853221167104 : UInt64)), .second, .val (.ref b7), .val (.ref b17), .unset, .unset, .unset, .unset, .unset, .unset, .unset, .unset, .unset, .unset] []))
      refine Run.x_lload (q := 246) X62 hx (hb hby at_244) rfl rfl ?_
      refine Run.x_lload (q := 248) X62 hx (hb hby at_246) rfl rfl ?_
      refine Run.x_lsub (q := 249) X62 hx (hb hby at_248) rfl rfl ?_
      refine Run.x_lstore (q := 251) X62 hx #[.val (.int p1), .val (.int p2), .val (.int p3), .val (.int p4), .val (.int p5), .val (.int p6), .val (.int (2 : Int32)), .val (.int (0 : Int32)), .val (.long z1), .second, .val (.long z2), .second, .val (.long z3), .second, .val (.long z4), .second, .val (.long z5), .second, .val (.long z6), .second, .val (.double (4741671816366391296 : UInt64)), .second, .val (.double (13965043853221167104 : UInt64)), .second, .val (.ref b7), .val (.ref b17), .val (.long (z1 - z4)), .second, .unset, .unset, .unset, .unset, .unset, .unset, .unset, .unset] (hb hby at_249) rfl rfl ?_
      refine Run.x_lload (q := 253) X62 hx (hb hby at_251) rfl rfl ?_
      refine Run.x_lload (q := 255) X62 hx (hb hby at_253) rfl rfl ?_
      refine Run.x_lsub (q := 256) X62 hx (hb hby at_255) rfl rfl ?_
      refine Run.x_lstore (q := 258) X62 hx #[.val (.int p1), .val (.int p2), .val (.int p3), .val (.int p4), .val (.int p5), .val (.int p6), .val (.int (2 : Int32)), .val (.int (0 : Int32)), .val (.long z1), .second, .val (.long z2), .second, .val (.long z3), .second, .val (.long z4), .second, .val (.long z5), .second, .val (.long z6), .second, .val (.double (4741671816366391296 : UInt64)), .second, .val (.double (13965043853221167104 : UInt64)), .second, .val (.ref b7), .val (.ref b17), .val (.long (z1 - z4)), .second, .val (.long (z2 - z5)), .second, .unset, .unset, .unset, .unset, .unset, .unset] (hb hby at_256) rfl rfl ?_
      refine Run.x_lload (q := 260) X62 hx (hb hby at_258) rfl rfl ?_
      refine Run.x_lload (q := 262) X62 hx (hb hby at_260) rfl rfl ?_
      refine Run.x_lsub (q := 263) X62 hx (hb hby at_262) rfl rfl ?_
      refine Run.x_lstore (q := 265) X62 hx #[.val (.int p1), .val (.int p2), .val (.int p3), .val (.int p4), .val (.int p5), .val (.int p6), .val (.int (2 : Int32)), .val (.int (0 : Int32)), .val (.long z1), .second, .val (.long z2), .second, .val (.long z3), .second, .val (.long z4), .second, .val (.long z5), .second, .val (.long z6), .second, .val (.double (4741671816366391296 : UInt64)), .second, .val (.double (13965043853221167104 : UInt64)), .second, .val (.ref b7), .val (.ref b17), .val (.long (z1 - z4)), .second, .val (.long (z2 - z5)), .second, .val (.long (z3 - z6)), .second, .unset, .unset, .unset, .unset] (hb hby at_263) rfl rfl ?_
      refine Run.x_lload (q := 267) X62 hx (hb hby at_265) rfl rfl ?_
      refine Run.x_lload (q := 269) X62 hx (hb hby at_267) rfl rfl ?_
      refine Run.x_lmul (q := 270) X62 hx (hb hby at_269) rfl rfl ?_
      refine Run.x_lload (q := 272) X62 hx (hb hby at_270) rfl rfl ?_
      refine Run.x_lload (q := 274) X62 hx (hb hby at_272) rfl rfl ?_
      refine Run.x_lmul (q := 275) X62 hx (hb hby at_274) rfl rfl ?_
      refine Run.x_ladd (q := 276) X62 hx (hb hby at_275) rfl rfl ?_
      refine Run.x_lload (q := 278) X62 hx (hb hby at_276) rfl rfl ?_
      refine Run.x_lload (q := 280) X62 hx (hb hby at_278) rfl rfl ?_
      refine Run.x_lmul (q := 281) X62 hx (hb hby at_280) rfl rfl ?_
      refine Run.x_ladd (q := 282) X62 hx (hb hby at_281) rfl rfl ?_
      refine Run.x_lstore (q := 284) X62 hx #[.val (.int p1), .val (.int p2), .val (.int p3), .val (.int p4), .val (.int p5), .val (.int p6), .val (.int (2 : Int32)), .val (.int (0 : Int32)), .val (.long z1), .second, .val (.long z2), .second, .val (.long z3), .second, .val (.long z4), .second, .val (.long z5), .second, .val (.long z6), .second, .val (.double (4741671816366391296 : UInt64)), .second, .val (.double (13965043853221167104 : UInt64)), .second, .val (.ref b7), .val (.ref b17), .val (.long (z1 - z4)), .second, .val (.long (z2 - z5)), .second, .val (.long (z3 - z6)), .second, .val (.long ((((z1 - z4) * (z1 - z4)) + ((z2 - z5) * (z2 - z5))) + ((z3 - z6) * (z3 - z6)))), .second, .unset, .unset] (hb hby at_282) rfl rfl ?_
      refine Run.x_aload (q := 286) X62 hx (hb hby at_284) rfl rfl rfl ?_
      refine Run.x_iload (q := 288) X62 hx (hb hby at_286) rfl rfl ?_
      refine Run.x_aload (q := 290) X62 hx (hb hby at_288) rfl rfl rfl ?_
      refine Run.x_iload (q := 292) X62 hx (hb hby at_290) rfl rfl ?_
      replace A_b7 := ((A_b7.other W60 ne_b7_b17).other W61 ne_b7_b17).other W62 ne_b7_b17
      refine Run.callS X62 hx hZ e62 (y := (⟨"org/tertiary/analysis/Superposition", "squaredDistance", "([DI[DI)D"⟩ : MethodName)) hown (hw _ (List.mem_of_getElem? (i := 7) rfl)) (hw _ (List.mem_of_getElem? (i := 8) rfl)) (hw _ (List.mem_of_getElem? (i := 9) rfl)) (hw _ (List.mem_of_getElem? (i := 10) rfl)) (by decide) (argsL := [(.ref b7), (.int (2 : Int32)), (.ref b17), (.int (0 : Int32))]) (rest := []) (c_sd l Z a0 hw b7 (2 : Int32) b17 (0 : Int32) h62 n0 Z62 [(Value.double (4741671816366391296 : UInt64)), (Value.double (4741671816366391296 : UInt64)), (Value.double (4741671816366391296 : UInt64)), (Value.double (4741671816366391296 : UInt64)), (Value.double (4741671816366391296 : UInt64)), (Value.double (4741671816366391296 : UInt64)), (Value.double (FP.l2d z1)), (Value.double (FP.l2d z2)), (Value.double (FP.l2d z3))] [(Value.double (FP.l2d z4)), (Value.double (FP.l2d z5)), (Value.double (FP.l2d z6)), (Value.double (13965043853221167104 : UInt64)), (Value.double (13965043853221167104 : UInt64)), (Value.double (13965043853221167104 : UInt64)), (Value.double (13965043853221167104 : UInt64)), (Value.double (13965043853221167104 : UInt64)), (Value.double (13965043853221167104 : UInt64))] 2 0 z1 z2 z3 z4 z5 z6 A_b7 A_b17 rfl (by decide) rfl (by decide) rfl rfl hz1 hz4 rfl rfl hz2 hz5 rfl rfl hz3 hz6) pd_1 rfl (by rw [hml]; rfl) (W := 0) rfl (by decide) (by decide) (by decide) (by decide) (hb hby at_292) rfl ?_
      intro T63 v63 L63 X63 q63
      obtain ⟨rfl, M63, e63⟩ := q63
      have N63 := Fr.app N62 M63
      show Run p e below s _ _ _ (T63.setTop (mkF m 295 #[.val (.int p1), .val (.int p2), .val (.int p3), .val (.int p4), .val (.int p5), .val (.int p6), .val (.int (2 : Int32)), .val (.int (0 : Int32)), .val (.long z1), .second, .val (.long z2), .second, .val (.long z3), .second, .val (.long z4), .second, .val (.long z5), .second, .val (.long z6), .second, .val (.double (4741671816366391296 : UInt64)), .second, .val (.double (13965043853221167104 : UInt64)), .second, .val (.ref b7), .val (.ref b17), .val (.long (z1 - z4)), .second, .val (.long (z2 - z5)), .second, .val (.long (z3 - z6)), .second, .val (.long ((((z1 - z4) * (z1 - z4)) + ((z2 - z5) * (z2 - z5))) + ((z3 - z6) * (z3 - z6)))), .second, .unset, .unset] [(.double (FP.l2d ((((z1 - z4) * (z1 - z4)) + ((z2 - z5) * (z2 - z5))) + ((z3 - z6) * (z3 - z6)))))]))
      refine Run.st (B := T63.setTop (mkF m 297 #[.val (.int p1), .val (.int p2), .val (.int p3), .val (.int p4), .val (.int p5), .val (.int p6), .val (.int (2 : Int32)), .val (.int (0 : Int32)), .val (.long z1), .second, .val (.long z2), .second, .val (.long z3), .second, .val (.long z4), .second, .val (.long z5), .second, .val (.long z6), .second, .val (.double (4741671816366391296 : UInt64)), .second, .val (.double (13965043853221167104 : UInt64)), .second, .val (.ref b7), .val (.ref b17), .val (.long (z1 - z4)), .second, .val (.long (z2 - z5)), .second, .val (.long (z3 - z6)), .second, .val (.long ((((z1 - z4) * (z1 - z4)) + ((z2 - z5) * (z2 - z5))) + ((z3 - z6) * (z3 - z6)))), .second, .val (.double (FP.l2d ((((z1 - z4) * (z1 - z4)) + ((z2 - z5) * (z2 - z5))) + ((z3 - z6) * (z3 - z6))))), .second] [])) (fun t kt => XS.dstore X63.here hx rfl (hb hby at_295) rfl (l' := #[.val (.int p1), .val (.int p2), .val (.int p3), .val (.int p4), .val (.int p5), .val (.int p6), .val (.int (2 : Int32)), .val (.int (0 : Int32)), .val (.long z1), .second, .val (.long z2), .second, .val (.long z3), .second, .val (.long z4), .second, .val (.long z5), .second, .val (.long z6), .second, .val (.double (4741671816366391296 : UInt64)), .second, .val (.double (13965043853221167104 : UInt64)), .second, .val (.ref b7), .val (.ref b17), .val (.long (z1 - z4)), .second, .val (.long (z2 - z5)), .second, .val (.long (z3 - z6)), .second, .val (.long ((((z1 - z4) * (z1 - z4)) + ((z2 - z5) * (z2 - z5))) + ((z3 - z6) * (z3 - z6)))), .second, .val (.double (FP.l2d ((((z1 - z4) * (z1 - z4)) + ((z2 - z5) * (z2 - z5))) + ((z3 - z6) * (z3 - z6))))), .second]) rfl kt) ?_
      refine Run.st (B := T63.setTop (mkF m 299 #[.val (.int p1), .val (.int p2), .val (.int p3), .val (.int p4), .val (.int p5), .val (.int p6), .val (.int (2 : Int32)), .val (.int (0 : Int32)), .val (.long z1), .second, .val (.long z2), .second, .val (.long z3), .second, .val (.long z4), .second, .val (.long z5), .second, .val (.long z6), .second, .val (.double (4741671816366391296 : UInt64)), .second, .val (.double (13965043853221167104 : UInt64)), .second, .val (.ref b7), .val (.ref b17), .val (.long (z1 - z4)), .second, .val (.long (z2 - z5)), .second, .val (.long (z3 - z6)), .second, .val (.long ((((z1 - z4) * (z1 - z4)) + ((z2 - z5) * (z2 - z5))) + ((z3 - z6) * (z3 - z6)))), .second, .val (.double (FP.l2d ((((z1 - z4) * (z1 - z4)) + ((z2 - z5) * (z2 - z5))) + ((z3 - z6) * (z3 - z6))))), .second] [(.double (FP.l2d ((((z1 - z4) * (z1 - z4)) + ((z2 - z5) * (z2 - z5))) + ((z3 - z6) * (z3 - z6)))))])) (fun t kt => XS.dload X63.here hx rfl (hb hby at_297) rfl kt) ?_
      refine Run.x_lload (q := 301) X63 hx (hb hby at_299) rfl rfl ?_
      refine Run.st (B := T63.setTop (mkF m 302 #[.val (.int p1), .val (.int p2), .val (.int p3), .val (.int p4), .val (.int p5), .val (.int p6), .val (.int (2 : Int32)), .val (.int (0 : Int32)), .val (.long z1), .second, .val (.long z2), .second, .val (.long z3), .second, .val (.long z4), .second, .val (.long z5), .second, .val (.long z6), .second, .val (.double (4741671816366391296 : UInt64)), .second, .val (.double (13965043853221167104 : UInt64)), .second, .val (.ref b7), .val (.ref b17), .val (.long (z1 - z4)), .second, .val (.long (z2 - z5)), .second, .val (.long (z3 - z6)), .second, .val (.long ((((z1 - z4) * (z1 - z4)) + ((z2 - z5) * (z2 - z5))) + ((z3 - z6) * (z3 - z6)))), .second, .val (.double (FP.l2d ((((z1 - z4) * (z1 - z4)) + ((z2 - z5) * (z2 - z5))) + ((z3 - z6) * (z3 - z6))))), .second] [(.double (FP.l2d ((((z1 - z4) * (z1 - z4)) + ((z2 - z5) * (z2 - z5))) + ((z3 - z6) * (z3 - z6))))), (.double (FP.l2d ((((z1 - z4) * (z1 - z4)) + ((z2 - z5) * (z2 - z5))) + ((z3 - z6) * (z3 - z6)))))])) (fun t kt => XS.l2dS X63.here hx rfl (hb hby at_301) rfl rfl kt) ?_
      refine Run.st (B := T63.setTop (mkF m 303 #[.val (.int p1), .val (.int p2), .val (.int p3), .val (.int p4), .val (.int p5), .val (.int p6), .val (.int (2 : Int32)), .val (.int (0 : Int32)), .val (.long z1), .second, .val (.long z2), .second, .val (.long z3), .second, .val (.long z4), .second, .val (.long z5), .second, .val (.long z6), .second, .val (.double (4741671816366391296 : UInt64)), .second, .val (.double (13965043853221167104 : UInt64)), .second, .val (.ref b7), .val (.ref b17), .val (.long (z1 - z4)), .second, .val (.long (z2 - z5)), .second, .val (.long (z3 - z6)), .second, .val (.long ((((z1 - z4) * (z1 - z4)) + ((z2 - z5) * (z2 - z5))) + ((z3 - z6) * (z3 - z6)))), .second, .val (.double (FP.l2d ((((z1 - z4) * (z1 - z4)) + ((z2 - z5) * (z2 - z5))) + ((z3 - z6) * (z3 - z6))))), .second] [(.int (0 : Int32))])) (fun t kt => XS.dcmpS X63.here hx rfl (hb hby at_302) rfl (dcmpV_self (nn_w rfl) _) kt) ?_
      refine Run.x_ifNo (q := 306) X63 hx (hb hby at_303) ((if0 _ _).trans (teq (by decide : (0 : Int32) = (0 : Int32))).2) rfl ?_
      refine Run.x_iconst (q := 307) X63 hx (hb hby at_306) (z := (1 : Int32)) rfl rfl ?_
      refine Run.x_goto (q := 311) X63 hx (hb hby at_307) (by decide) (by decide) ?_
      refine Run.retN X63 hx hlk e63 (t := .boolean) hret (by simp) (z' := (1 : Int32)) (by decide) (hb hby at_311) (by decide) (by decide) ?_
      exact ⟨rfl, N63⟩
    · skip
      show Run p e below s _ _ _ (T59.setTop (mkF m 210 #[.val (.int p1), .val (.int p2), .val (.int p3), .val (.int p4), .val (.int p5), .val (.int p6), .val (.int (2 : Int32)), .val (.int (1 : Int32)), .val (.long z1), .second, .val (.long z2), .second, .val (.long z3), .second, .val (.long z4), .second, .val (.long z5), .second, .val (.long z6), .second, .val (.double (4741671816366391296 : UInt64)), .second, .val (.double (13965043853221167104 : UInt64)), .second, .val (.ref b7), .val (.ref b17), .unset, .unset, .unset, .unset, .unset, .unset, .unset, .unset, .unset, .unset] []))
      refine Run.x_aload (q := 212) X59 hx (hb hby at_210) rfl rfl rfl ?_
      refine Run.x_iconst (q := 213) X59 hx (hb hby at_212) (z := (3 : Int32)) rfl rfl ?_
      refine Run.x_iload (q := 215) X59 hx (hb hby at_213) rfl rfl ?_
      refine Run.x_imul (q := 216) X59 hx (hb hby at_215) (z := (3 : Int32)) (by decide) rfl ?_
      refine Run.x_lload (q := 218) X59 hx (hb hby at_216) rfl rfl ?_
      refine Run.st (B := T59.setTop (mkF m 219 #[.val (.int p1), .val (.int p2), .val (.int p3), .val (.int p4), .val (.int p5), .val (.int p6), .val (.int (2 : Int32)), .val (.int (1 : Int32)), .val (.long z1), .second, .val (.long z2), .second, .val (.long z3), .second, .val (.long z4), .second, .val (.long z5), .second, .val (.long z6), .second, .val (.double (4741671816366391296 : UInt64)), .second, .val (.double (13965043853221167104 : UInt64)), .second, .val (.ref b7), .val (.ref b17), .unset, .unset, .unset, .unset, .unset, .unset, .unset, .unset, .unset, .unset] [(.double (FP.l2d z4)), (.int (3 : Int32)), (.ref b17)])) (fun t kt => XS.l2dS X59.here hx rfl (hb hby at_218) rfl rfl kt) ?_
      replace A_b17 := ((A_b17.other W57 (Ne.symm ne_b7_b17)).other W58 (Ne.symm ne_b7_b17)).other W59 (Ne.symm ne_b7_b17)
      refine Run.stD X59 hx hZ e59 A_b17 (i := 3) (by decide) (Nat.le_of_ble_eq_true rfl) (hb hby at_219) ?_
      intro T64 h64 X64 e64 W64 A64
      replace A_b17 : Ars Z h64 b17 .double [(.double (13965043853221167104 : UInt64)), (.double (13965043853221167104 : UInt64)), (.double (13965043853221167104 : UInt64)), (.double (FP.l2d z4)), (.double (13965043853221167104 : UInt64)), (.double (13965043853221167104 : UInt64)), (.double (13965043853221167104 : UInt64)), (.double (13965043853221167104 : UInt64)), (.double (13965043853221167104 : UInt64))] := A64
      have N64 := Fr.snoc X64 N59 g_b17
      have Z64 : n0 ≤ h64.size := Nat.le_trans Z59 (Nat.le_of_eq W64.size.symm)
      show Run p e below s _ _ _ (T64.setTop (mkF m 220 #[.val (.int p1), .val (.int p2), .val (.int p3), .val (.int p4), .val (.int p5), .val (.int p6), .val (.int (2 : Int32)), .val (.int (1 : Int32)), .val (.long z1), .second, .val (.long z2), .second, .val (.long z3), .second, .val (.long z4), .second, .val (.long z5), .second, .val (.long z6), .second, .val (.double (4741671816366391296 : UInt64)), .second, .val (.double (13965043853221167104 : UInt64)), .second, .val (.ref b7), .val (.ref b17), .unset, .unset, .unset, .unset, .unset, .unset, .unset, .unset, .unset, .unset] []))
      refine Run.x_aload (q := 222) X64 hx (hb hby at_220) rfl rfl rfl ?_
      refine Run.x_iconst (q := 223) X64 hx (hb hby at_222) (z := (3 : Int32)) rfl rfl ?_
      refine Run.x_iload (q := 225) X64 hx (hb hby at_223) rfl rfl ?_
      refine Run.x_imul (q := 226) X64 hx (hb hby at_225) (z := (3 : Int32)) (by decide) rfl ?_
      refine Run.x_iconst (q := 227) X64 hx (hb hby at_226) (z := (1 : Int32)) rfl rfl ?_
      refine Run.x_iadd (q := 228) X64 hx (hb hby at_227) (z := (4 : Int32)) (by decide) rfl ?_
      refine Run.x_lload (q := 230) X64 hx (hb hby at_228) rfl rfl ?_
      refine Run.st (B := T64.setTop (mkF m 231 #[.val (.int p1), .val (.int p2), .val (.int p3), .val (.int p4), .val (.int p5), .val (.int p6), .val (.int (2 : Int32)), .val (.int (1 : Int32)), .val (.long z1), .second, .val (.long z2), .second, .val (.long z3), .second, .val (.long z4), .second, .val (.long z5), .second, .val (.long z6), .second, .val (.double (4741671816366391296 : UInt64)), .second, .val (.double (13965043853221167104 : UInt64)), .second, .val (.ref b7), .val (.ref b17), .unset, .unset, .unset, .unset, .unset, .unset, .unset, .unset, .unset, .unset] [(.double (FP.l2d z5)), (.int (4 : Int32)), (.ref b17)])) (fun t kt => XS.l2dS X64.here hx rfl (hb hby at_230) rfl rfl kt) ?_
      refine Run.stD X64 hx hZ e64 A_b17 (i := 4) (by decide) (Nat.le_of_ble_eq_true rfl) (hb hby at_231) ?_
      intro T65 h65 X65 e65 W65 A65
      replace A_b17 : Ars Z h65 b17 .double [(.double (13965043853221167104 : UInt64)), (.double (13965043853221167104 : UInt64)), (.double (13965043853221167104 : UInt64)), (.double (FP.l2d z4)), (.double (FP.l2d z5)), (.double (13965043853221167104 : UInt64)), (.double (13965043853221167104 : UInt64)), (.double (13965043853221167104 : UInt64)), (.double (13965043853221167104 : UInt64))] := A65
      have N65 := Fr.snoc X65 N64 g_b17
      have Z65 : n0 ≤ h65.size := Nat.le_trans Z64 (Nat.le_of_eq W65.size.symm)
      show Run p e below s _ _ _ (T65.setTop (mkF m 232 #[.val (.int p1), .val (.int p2), .val (.int p3), .val (.int p4), .val (.int p5), .val (.int p6), .val (.int (2 : Int32)), .val (.int (1 : Int32)), .val (.long z1), .second, .val (.long z2), .second, .val (.long z3), .second, .val (.long z4), .second, .val (.long z5), .second, .val (.long z6), .second, .val (.double (4741671816366391296 : UInt64)), .second, .val (.double (13965043853221167104 : UInt64)), .second, .val (.ref b7), .val (.ref b17), .unset, .unset, .unset, .unset, .unset, .unset, .unset, .unset, .unset, .unset] []))
      refine Run.x_aload (q := 234) X65 hx (hb hby at_232) rfl rfl rfl ?_
      refine Run.x_iconst (q := 235) X65 hx (hb hby at_234) (z := (3 : Int32)) rfl rfl ?_
      refine Run.x_iload (q := 237) X65 hx (hb hby at_235) rfl rfl ?_
      refine Run.x_imul (q := 238) X65 hx (hb hby at_237) (z := (3 : Int32)) (by decide) rfl ?_
      refine Run.x_iconst (q := 239) X65 hx (hb hby at_238) (z := (2 : Int32)) rfl rfl ?_
      refine Run.x_iadd (q := 240) X65 hx (hb hby at_239) (z := (5 : Int32)) (by decide) rfl ?_
      refine Run.x_lload (q := 242) X65 hx (hb hby at_240) rfl rfl ?_
      refine Run.st (B := T65.setTop (mkF m 243 #[.val (.int p1), .val (.int p2), .val (.int p3), .val (.int p4), .val (.int p5), .val (.int p6), .val (.int (2 : Int32)), .val (.int (1 : Int32)), .val (.long z1), .second, .val (.long z2), .second, .val (.long z3), .second, .val (.long z4), .second, .val (.long z5), .second, .val (.long z6), .second, .val (.double (4741671816366391296 : UInt64)), .second, .val (.double (13965043853221167104 : UInt64)), .second, .val (.ref b7), .val (.ref b17), .unset, .unset, .unset, .unset, .unset, .unset, .unset, .unset, .unset, .unset] [(.double (FP.l2d z6)), (.int (5 : Int32)), (.ref b17)])) (fun t kt => XS.l2dS X65.here hx rfl (hb hby at_242) rfl rfl kt) ?_
      refine Run.stD X65 hx hZ e65 A_b17 (i := 5) (by decide) (Nat.le_of_ble_eq_true rfl) (hb hby at_243) ?_
      intro T66 h66 X66 e66 W66 A66
      replace A_b17 : Ars Z h66 b17 .double [(.double (13965043853221167104 : UInt64)), (.double (13965043853221167104 : UInt64)), (.double (13965043853221167104 : UInt64)), (.double (FP.l2d z4)), (.double (FP.l2d z5)), (.double (FP.l2d z6)), (.double (13965043853221167104 : UInt64)), (.double (13965043853221167104 : UInt64)), (.double (13965043853221167104 : UInt64))] := A66
      have N66 := Fr.snoc X66 N65 g_b17
      have Z66 : n0 ≤ h66.size := Nat.le_trans Z65 (Nat.le_of_eq W66.size.symm)
      show Run p e below s _ _ _ (T66.setTop (mkF m 244 #[.val (.int p1), .val (.int p2), .val (.int p3), .val (.int p4), .val (.int p5), .val (.int p6), .val (.int (2 : Int32)), .val (.int (1 : Int32)), .val (.long z1), .second, .val (.long z2), .second, .val (.long z3), .second, .val (.long z4), .second, .val (.long z5), .second, .val (.long z6), .second, .val (.double (4741671816366391296 : UInt64)), .second, .val (.double (13965043853221167104 : UInt64)), .second, .val (.ref b7), .val (.ref b17), .unset, .unset, .unset, .unset, .unset, .unset, .unset, .unset, .unset, .unset] []))
      refine Run.x_lload (q := 246) X66 hx (hb hby at_244) rfl rfl ?_
      refine Run.x_lload (q := 248) X66 hx (hb hby at_246) rfl rfl ?_
      refine Run.x_lsub (q := 249) X66 hx (hb hby at_248) rfl rfl ?_
      refine Run.x_lstore (q := 251) X66 hx #[.val (.int p1), .val (.int p2), .val (.int p3), .val (.int p4), .val (.int p5), .val (.int p6), .val (.int (2 : Int32)), .val (.int (1 : Int32)), .val (.long z1), .second, .val (.long z2), .second, .val (.long z3), .second, .val (.long z4), .second, .val (.long z5), .second, .val (.long z6), .second, .val (.double (4741671816366391296 : UInt64)), .second, .val (.double (13965043853221167104 : UInt64)), .second, .val (.ref b7), .val (.ref b17), .val (.long (z1 - z4)), .second, .unset, .unset, .unset, .unset, .unset, .unset, .unset, .unset] (hb hby at_249) rfl rfl ?_
      refine Run.x_lload (q := 253) X66 hx (hb hby at_251) rfl rfl ?_
      refine Run.x_lload (q := 255) X66 hx (hb hby at_253) rfl rfl ?_
      refine Run.x_lsub (q := 256) X66 hx (hb hby at_255) rfl rfl ?_
      refine Run.x_lstore (q := 258) X66 hx #[.val (.int p1), .val (.int p2), .val (.int p3), .val (.int p4), .val (.int p5), .val (.int p6), .val (.int (2 : Int32)), .val (.int (1 : Int32)), .val (.long z1), .second, .val (.long z2), .second, .val (.long z3), .second, .val (.long z4), .second, .val (.long z5), .second, .val (.long z6), .second, .val (.double (4741671816366391296 : UInt64)), .second, .val (.double (13965043853221167104 : UInt64)), .second, .val (.ref b7), .val (.ref b17), .val (.long (z1 - z4)), .second, .val (.long (z2 - z5)), .second, .unset, .unset, .unset, .unset, .unset, .unset] (hb hby at_256) rfl rfl ?_
      refine Run.x_lload (q := 260) X66 hx (hb hby at_258) rfl rfl ?_
      refine Run.x_lload (q := 262) X66 hx (hb hby at_260) rfl rfl ?_
      refine Run.x_lsub (q := 263) X66 hx (hb hby at_262) rfl rfl ?_
      refine Run.x_lstore (q := 265) X66 hx #[.val (.int p1), .val (.int p2), .val (.int p3), .val (.int p4), .val (.int p5), .val (.int p6), .val (.int (2 : Int32)), .val (.int (1 : Int32)), .val (.long z1), .second, .val (.long z2), .second, .val (.long z3), .second, .val (.long z4), .second, .val (.long z5), .second, .val (.long z6), .second, .val (.double (4741671816366391296 : UInt64)), .second, .val (.double (13965043853221167104 : UInt64)), .second, .val (.ref b7), .val (.ref b17), .val (.long (z1 - z4)), .second, .val (.long (z2 - z5)), .second, .val (.long (z3 - z6)), .second, .unset, .unset, .unset, .unset] (hb hby at_263) rfl rfl ?_
      refine Run.x_lload (q := 267) X66 hx (hb hby at_265) rfl rfl ?_
      refine Run.x_lload (q := 269) X66 hx (hb hby at_267) rfl rfl ?_
      refine Run.x_lmul (q := 270) X66 hx (hb hby at_269) rfl rfl ?_
      refine Run.x_lload (q := 272) X66 hx (hb hby at_270) rfl rfl ?_
      refine Run.x_lload (q := 274) X66 hx (hb hby at_272) rfl rfl ?_
      refine Run.x_lmul (q := 275) X66 hx (hb hby at_274) rfl rfl ?_
      refine Run.x_ladd (q := 276) X66 hx (hb hby at_275) rfl rfl ?_
      refine Run.x_lload (q := 278) X66 hx (hb hby at_276) rfl rfl ?_
      refine Run.x_lload (q := 280) X66 hx (hb hby at_278) rfl rfl ?_
      refine Run.x_lmul (q := 281) X66 hx (hb hby at_280) rfl rfl ?_
      refine Run.x_ladd (q := 282) X66 hx (hb hby at_281) rfl rfl ?_
      refine Run.x_lstore (q := 284) X66 hx #[.val (.int p1), .val (.int p2), .val (.int p3), .val (.int p4), .val (.int p5), .val (.int p6), .val (.int (2 : Int32)), .val (.int (1 : Int32)), .val (.long z1), .second, .val (.long z2), .second, .val (.long z3), .second, .val (.long z4), .second, .val (.long z5), .second, .val (.long z6), .second, .val (.double (4741671816366391296 : UInt64)), .second, .val (.double (13965043853221167104 : UInt64)), .second, .val (.ref b7), .val (.ref b17), .val (.long (z1 - z4)), .second, .val (.long (z2 - z5)), .second, .val (.long (z3 - z6)), .second, .val (.long ((((z1 - z4) * (z1 - z4)) + ((z2 - z5) * (z2 - z5))) + ((z3 - z6) * (z3 - z6)))), .second, .unset, .unset] (hb hby at_282) rfl rfl ?_
      refine Run.x_aload (q := 286) X66 hx (hb hby at_284) rfl rfl rfl ?_
      refine Run.x_iload (q := 288) X66 hx (hb hby at_286) rfl rfl ?_
      refine Run.x_aload (q := 290) X66 hx (hb hby at_288) rfl rfl rfl ?_
      refine Run.x_iload (q := 292) X66 hx (hb hby at_290) rfl rfl ?_
      replace A_b7 := ((A_b7.other W64 ne_b7_b17).other W65 ne_b7_b17).other W66 ne_b7_b17
      refine Run.callS X66 hx hZ e66 (y := (⟨"org/tertiary/analysis/Superposition", "squaredDistance", "([DI[DI)D"⟩ : MethodName)) hown (hw _ (List.mem_of_getElem? (i := 7) rfl)) (hw _ (List.mem_of_getElem? (i := 8) rfl)) (hw _ (List.mem_of_getElem? (i := 9) rfl)) (hw _ (List.mem_of_getElem? (i := 10) rfl)) (by decide) (argsL := [(.ref b7), (.int (2 : Int32)), (.ref b17), (.int (1 : Int32))]) (rest := []) (c_sd l Z a0 hw b7 (2 : Int32) b17 (1 : Int32) h66 n0 Z66 [(Value.double (4741671816366391296 : UInt64)), (Value.double (4741671816366391296 : UInt64)), (Value.double (4741671816366391296 : UInt64)), (Value.double (4741671816366391296 : UInt64)), (Value.double (4741671816366391296 : UInt64)), (Value.double (4741671816366391296 : UInt64)), (Value.double (FP.l2d z1)), (Value.double (FP.l2d z2)), (Value.double (FP.l2d z3))] [(Value.double (13965043853221167104 : UInt64)), (Value.double (13965043853221167104 : UInt64)), (Value.double (13965043853221167104 : UInt64)), (Value.double (FP.l2d z4)), (Value.double (FP.l2d z5)), (Value.double (FP.l2d z6)), (Value.double (13965043853221167104 : UInt64)), (Value.double (13965043853221167104 : UInt64)), (Value.double (13965043853221167104 : UInt64))] 2 1 z1 z2 z3 z4 z5 z6 A_b7 A_b17 rfl (by decide) rfl (by decide) rfl rfl hz1 hz4 rfl rfl hz2 hz5 rfl rfl hz3 hz6) pd_1 rfl (by rw [hml]; rfl) (W := 0) rfl (by decide) (by decide) (by decide) (by decide) (hb hby at_292) rfl ?_
      intro T67 v67 L67 X67 q67
      obtain ⟨rfl, M67, e67⟩ := q67
      have N67 := Fr.app N66 M67
      show Run p e below s _ _ _ (T67.setTop (mkF m 295 #[.val (.int p1), .val (.int p2), .val (.int p3), .val (.int p4), .val (.int p5), .val (.int p6), .val (.int (2 : Int32)), .val (.int (1 : Int32)), .val (.long z1), .second, .val (.long z2), .second, .val (.long z3), .second, .val (.long z4), .second, .val (.long z5), .second, .val (.long z6), .second, .val (.double (4741671816366391296 : UInt64)), .second, .val (.double (13965043853221167104 : UInt64)), .second, .val (.ref b7), .val (.ref b17), .val (.long (z1 - z4)), .second, .val (.long (z2 - z5)), .second, .val (.long (z3 - z6)), .second, .val (.long ((((z1 - z4) * (z1 - z4)) + ((z2 - z5) * (z2 - z5))) + ((z3 - z6) * (z3 - z6)))), .second, .unset, .unset] [(.double (FP.l2d ((((z1 - z4) * (z1 - z4)) + ((z2 - z5) * (z2 - z5))) + ((z3 - z6) * (z3 - z6)))))]))
      refine Run.st (B := T67.setTop (mkF m 297 #[.val (.int p1), .val (.int p2), .val (.int p3), .val (.int p4), .val (.int p5), .val (.int p6), .val (.int (2 : Int32)), .val (.int (1 : Int32)), .val (.long z1), .second, .val (.long z2), .second, .val (.long z3), .second, .val (.long z4), .second, .val (.long z5), .second, .val (.long z6), .second, .val (.double (4741671816366391296 : UInt64)), .second, .val (.double (13965043853221167104 : UInt64)), .second, .val (.ref b7), .val (.ref b17), .val (.long (z1 - z4)), .second, .val (.long (z2 - z5)), .second, .val (.long (z3 - z6)), .second, .val (.long ((((z1 - z4) * (z1 - z4)) + ((z2 - z5) * (z2 - z5))) + ((z3 - z6) * (z3 - z6)))), .second, .val (.double (FP.l2d ((((z1 - z4) * (z1 - z4)) + ((z2 - z5) * (z2 - z5))) + ((z3 - z6) * (z3 - z6))))), .second] [])) (fun t kt => XS.dstore X67.here hx rfl (hb hby at_295) rfl (l' := #[.val (.int p1), .val (.int p2), .val (.int p3), .val (.int p4), .val (.int p5), .val (.int p6), .val (.int (2 : Int32)), .val (.int (1 : Int32)), .val (.long z1), .second, .val (.long z2), .second, .val (.long z3), .second, .val (.long z4), .second, .val (.long z5), .second, .val (.long z6), .second, .val (.double (4741671816366391296 : UInt64)), .second, .val (.double (13965043853221167104 : UInt64)), .second, .val (.ref b7), .val (.ref b17), .val (.long (z1 - z4)), .second, .val (.long (z2 - z5)), .second, .val (.long (z3 - z6)), .second, .val (.long ((((z1 - z4) * (z1 - z4)) + ((z2 - z5) * (z2 - z5))) + ((z3 - z6) * (z3 - z6)))), .second, .val (.double (FP.l2d ((((z1 - z4) * (z1 - z4)) + ((z2 - z5) * (z2 - z5))) + ((z3 - z6) * (z3 - z6))))), .second]) rfl kt) ?_
      refine Run.st (B := T67.setTop (mkF m 299 #[.val (.int p1), .val (.int p2), .val (.int p3), .val (.int p4), .val (.int p5), .val (.int p6), .val (.int (2 : Int32)), .val (.int (1 : Int32)), .val (.long z1), .second, .val (.long z2), .second, .val (.long z3), .second, .val (.long z4), .second, .val (.long z5), .second, .val (.long z6), .second, .val (.double (4741671816366391296 : UInt64)), .second, .val (.double (13965043853221167104 : UInt64)), .second, .val (.ref b7), .val (.ref b17), .val (.long (z1 - z4)), .second, .val (.long (z2 - z5)), .second, .val (.long (z3 - z6)), .second, .val (.long ((((z1 - z4) * (z1 - z4)) + ((z2 - z5) * (z2 - z5))) + ((z3 - z6) * (z3 - z6)))), .second, .val (.double (FP.l2d ((((z1 - z4) * (z1 - z4)) + ((z2 - z5) * (z2 - z5))) + ((z3 - z6) * (z3 - z6))))), .second] [(.double (FP.l2d ((((z1 - z4) * (z1 - z4)) + ((z2 - z5) * (z2 - z5))) + ((z3 - z6) * (z3 - z6)))))])) (fun t kt => XS.dload X67.here hx rfl (hb hby at_297) rfl kt) ?_
      refine Run.x_lload (q := 301) X67 hx (hb hby at_299) rfl rfl ?_
      refine Run.st (B := T67.setTop (mkF m 302 #[.val (.int p1), .val (.int p2), .val (.int p3), .val (.int p4), .val (.int p5), .val (.int p6), .val (.int (2 : Int32)), .val (.int (1 : Int32)), .val (.long z1), .second, .val (.long z2), .second, .val (.long z3), .second, .val (.long z4), .second, .val (.long z5), .second, .val (.long z6), .second, .val (.double (4741671816366391296 : UInt64)), .second, .val (.double (13965043853221167104 : UInt64)), .second, .val (.ref b7), .val (.ref b17), .val (.long (z1 - z4)), .second, .val (.long (z2 - z5)), .second, .val (.long (z3 - z6)), .second, .val (.long ((((z1 - z4) * (z1 - z4)) + ((z2 - z5) * (z2 - z5))) + ((z3 - z6) * (z3 - z6)))), .second, .val (.double (FP.l2d ((((z1 - z4) * (z1 - z4)) + ((z2 - z5) * (z2 - z5))) + ((z3 - z6) * (z3 - z6))))), .second] [(.double (FP.l2d ((((z1 - z4) * (z1 - z4)) + ((z2 - z5) * (z2 - z5))) + ((z3 - z6) * (z3 - z6))))), (.double (FP.l2d ((((z1 - z4) * (z1 - z4)) + ((z2 - z5) * (z2 - z5))) + ((z3 - z6) * (z3 - z6)))))])) (fun t kt => XS.l2dS X67.here hx rfl (hb hby at_301) rfl rfl kt) ?_
      refine Run.st (B := T67.setTop (mkF m 303 #[.val (.int p1), .val (.int p2), .val (.int p3), .val (.int p4), .val (.int p5), .val (.int p6), .val (.int (2 : Int32)), .val (.int (1 : Int32)), .val (.long z1), .second, .val (.long z2), .second, .val (.long z3), .second, .val (.long z4), .second, .val (.long z5), .second, .val (.long z6), .second, .val (.double (4741671816366391296 : UInt64)), .second, .val (.double (13965043853221167104 : UInt64)), .second, .val (.ref b7), .val (.ref b17), .val (.long (z1 - z4)), .second, .val (.long (z2 - z5)), .second, .val (.long (z3 - z6)), .second, .val (.long ((((z1 - z4) * (z1 - z4)) + ((z2 - z5) * (z2 - z5))) + ((z3 - z6) * (z3 - z6)))), .second, .val (.double (FP.l2d ((((z1 - z4) * (z1 - z4)) + ((z2 - z5) * (z2 - z5))) + ((z3 - z6) * (z3 - z6))))), .second] [(.int (0 : Int32))])) (fun t kt => XS.dcmpS X67.here hx rfl (hb hby at_302) rfl (dcmpV_self (nn_w rfl) _) kt) ?_
      refine Run.x_ifNo (q := 306) X67 hx (hb hby at_303) ((if0 _ _).trans (teq (by decide : (0 : Int32) = (0 : Int32))).2) rfl ?_
      refine Run.x_iconst (q := 307) X67 hx (hb hby at_306) (z := (1 : Int32)) rfl rfl ?_
      refine Run.x_goto (q := 311) X67 hx (hb hby at_307) (by decide) (by decide) ?_
      refine Run.retN X67 hx hlk e67 (t := .boolean) hret (by simp) (z' := (1 : Int32)) (by decide) (hb hby at_311) (by decide) (by decide) ?_
      exact ⟨rfl, N67⟩
    · skip
      show Run p e below s _ _ _ (T59.setTop (mkF m 210 #[.val (.int p1), .val (.int p2), .val (.int p3), .val (.int p4), .val (.int p5), .val (.int p6), .val (.int (2 : Int32)), .val (.int (2 : Int32)), .val (.long z1), .second, .val (.long z2), .second, .val (.long z3), .second, .val (.long z4), .second, .val (.long z5), .second, .val (.long z6), .second, .val (.double (4741671816366391296 : UInt64)), .second, .val (.double (13965043853221167104 : UInt64)), .second, .val (.ref b7), .val (.ref b17), .unset, .unset, .unset, .unset, .unset, .unset, .unset, .unset, .unset, .unset] []))
      refine Run.x_aload (q := 212) X59 hx (hb hby at_210) rfl rfl rfl ?_
      refine Run.x_iconst (q := 213) X59 hx (hb hby at_212) (z := (3 : Int32)) rfl rfl ?_
      refine Run.x_iload (q := 215) X59 hx (hb hby at_213) rfl rfl ?_
      refine Run.x_imul (q := 216) X59 hx (hb hby at_215) (z := (6 : Int32)) (by decide) rfl ?_
      refine Run.x_lload (q := 218) X59 hx (hb hby at_216) rfl rfl ?_
      refine Run.st (B := T59.setTop (mkF m 219 #[.val (.int p1), .val (.int p2), .val (.int p3), .val (.int p4), .val (.int p5), .val (.int p6), .val (.int (2 : Int32)), .val (.int (2 : Int32)), .val (.long z1), .second, .val (.long z2), .second, .val (.long z3), .second, .val (.long z4), .second, .val (.long z5), .second, .val (.long z6), .second, .val (.double (4741671816366391296 : UInt64)), .second, .val (.double (13965043853221167104 : UInt64)), .second, .val (.ref b7), .val (.ref b17), .unset, .unset, .unset, .unset, .unset, .unset, .unset, .unset, .unset, .unset] [(.double (FP.l2d z4)), (.int (6 : Int32)), (.ref b17)])) (fun t kt => XS.l2dS X59.here hx rfl (hb hby at_218) rfl rfl kt) ?_
      replace A_b17 := ((A_b17.other W57 (Ne.symm ne_b7_b17)).other W58 (Ne.symm ne_b7_b17)).other W59 (Ne.symm ne_b7_b17)
      refine Run.stD X59 hx hZ e59 A_b17 (i := 6) (by decide) (Nat.le_of_ble_eq_true rfl) (hb hby at_219) ?_
      intro T68 h68 X68 e68 W68 A68
      replace A_b17 : Ars Z h68 b17 .double [(.double (13965043853221167104 : UInt64)), (.double (13965043853221167104 : UInt64)), (.double (13965043853221167104 : UInt64)), (.double (13965043853221167104 : UInt64)), (.double (13965043853221167104 : UInt64)), (.double (13965043853221167104 : UInt64)), (.double (FP.l2d z4)), (.double (13965043853221167104 : UInt64)), (.double (13965043853221167104 : UInt64))] := A68
      have N68 := Fr.snoc X68 N59 g_b17
      have Z68 : n0 ≤ h68.size := Nat.le_trans Z59 (Nat.le_of_eq W68.size.symm)
      show Run p e below s _ _ _ (T68.setTop (mkF m 220 #[.val (.int p1), .val (.int p2), .val (.int p3), .val (.int p4), .val (.int p5), .val (.int p6), .val (.int (2 : Int32)), .val (.int (2 : Int32)), .val (.long z1), .second, .val (.long z2), .second, .val (.long z3), .second, .val (.long z4), .second, .val (.long z5), .second, .val (.long z6), .second, .val (.double (4741671816366391296 : UInt64)), .second, .val (.double (13965043853221167104 : UInt64)), .second, .val (.ref b7), .val (.ref b17), .unset, .unset, .unset, .unset, .unset, .unset, .unset, .unset, .unset, .unset] []))
      refine Run.x_aload (q := 222) X68 hx (hb hby at_220) rfl rfl rfl ?_
      refine Run.x_iconst (q := 223) X68 hx (hb hby at_222) (z := (3 : Int32)) rfl rfl ?_
      refine Run.x_iload (q := 225) X68 hx (hb hby at_223) rfl rfl ?_
      refine Run.x_imul (q := 226) X68 hx (hb hby at_225) (z := (6 : Int32)) (by decide) rfl ?_
      refine Run.x_iconst (q := 227) X68 hx (hb hby at_226) (z := (1 : Int32)) rfl rfl ?_
      refine Run.x_iadd (q := 228) X68 hx (hb hby at_227) (z := (7 : Int32)) (by decide) rfl ?_
      refine Run.x_lload (q := 230) X68 hx (hb hby at_228) rfl rfl ?_
      refine Run.st (B := T68.setTop (mkF m 231 #[.val (.int p1), .val (.int p2), .val (.int p3), .val (.int p4), .val (.int p5), .val (.int p6), .val (.int (2 : Int32)), .val (.int (2 : Int32)), .val (.long z1), .second, .val (.long z2), .second, .val (.long z3), .second, .val (.long z4), .second, .val (.long z5), .second, .val (.long z6), .second, .val (.double (4741671816366391296 : UInt64)), .second, .val (.double (13965043853221167104 : UInt64)), .second, .val (.ref b7), .val (.ref b17), .unset, .unset, .unset, .unset, .unset, .unset, .unset, .unset, .unset, .unset] [(.double (FP.l2d z5)), (.int (7 : Int32)), (.ref b17)])) (fun t kt => XS.l2dS X68.here hx rfl (hb hby at_230) rfl rfl kt) ?_
      refine Run.stD X68 hx hZ e68 A_b17 (i := 7) (by decide) (Nat.le_of_ble_eq_true rfl) (hb hby at_231) ?_
      intro T69 h69 X69 e69 W69 A69
      replace A_b17 : Ars Z h69 b17 .double [(.double (13965043853221167104 : UInt64)), (.double (13965043853221167104 : UInt64)), (.double (13965043853221167104 : UInt64)), (.double (13965043853221167104 : UInt64)), (.double (13965043853221167104 : UInt64)), (.double (13965043853221167104 : UInt64)), (.double (FP.l2d z4)), (.double (FP.l2d z5)), (.double (13965043853221167104 : UInt64))] := A69
      have N69 := Fr.snoc X69 N68 g_b17
      have Z69 : n0 ≤ h69.size := Nat.le_trans Z68 (Nat.le_of_eq W69.size.symm)
      show Run p e below s _ _ _ (T69.setTop (mkF m 232 #[.val (.int p1), .val (.int p2), .val (.int p3), .val (.int p4), .val (.int p5), .val (.int p6), .val (.int (2 : Int32)), .val (.int (2 : Int32)), .val (.long z1), .second, .val (.long z2), .second, .val (.long z3), .second, .val (.long z4), .second, .val (.long z5), .second, .val (.long z6), .second, .val (.double (4741671816366391296 : UInt64)), .second, .val (.double (13965043853221167104 : UInt64)), .second, .val (.ref b7), .val (.ref b17), .unset, .unset, .unset, .unset, .unset, .unset, .unset, .unset, .unset, .unset] []))
      refine Run.x_aload (q := 234) X69 hx (hb hby at_232) rfl rfl rfl ?_
      refine Run.x_iconst (q := 235) X69 hx (hb hby at_234) (z := (3 : Int32)) rfl rfl ?_
      refine Run.x_iload (q := 237) X69 hx (hb hby at_235) rfl rfl ?_
      refine Run.x_imul (q := 238) X69 hx (hb hby at_237) (z := (6 : Int32)) (by decide) rfl ?_
      refine Run.x_iconst (q := 239) X69 hx (hb hby at_238) (z := (2 : Int32)) rfl rfl ?_
      refine Run.x_iadd (q := 240) X69 hx (hb hby at_239) (z := (8 : Int32)) (by decide) rfl ?_
      refine Run.x_lload (q := 242) X69 hx (hb hby at_240) rfl rfl ?_
      refine Run.st (B := T69.setTop (mkF m 243 #[.val (.int p1), .val (.int p2), .val (.int p3), .val (.int p4), .val (.int p5), .val (.int p6), .val (.int (2 : Int32)), .val (.int (2 : Int32)), .val (.long z1), .second, .val (.long z2), .second, .val (.long z3), .second, .val (.long z4), .second, .val (.long z5), .second, .val (.long z6), .second, .val (.double (4741671816366391296 : UInt64)), .second, .val (.double (13965043853221167104 : UInt64)), .second, .val (.ref b7), .val (.ref b17), .unset, .unset, .unset, .unset, .unset, .unset, .unset, .unset, .unset, .unset] [(.double (FP.l2d z6)), (.int (8 : Int32)), (.ref b17)])) (fun t kt => XS.l2dS X69.here hx rfl (hb hby at_242) rfl rfl kt) ?_
      refine Run.stD X69 hx hZ e69 A_b17 (i := 8) (by decide) (Nat.le_of_ble_eq_true rfl) (hb hby at_243) ?_
      intro T70 h70 X70 e70 W70 A70
      replace A_b17 : Ars Z h70 b17 .double [(.double (13965043853221167104 : UInt64)), (.double (13965043853221167104 : UInt64)), (.double (13965043853221167104 : UInt64)), (.double (13965043853221167104 : UInt64)), (.double (13965043853221167104 : UInt64)), (.double (13965043853221167104 : UInt64)), (.double (FP.l2d z4)), (.double (FP.l2d z5)), (.double (FP.l2d z6))] := A70
      have N70 := Fr.snoc X70 N69 g_b17
      have Z70 : n0 ≤ h70.size := Nat.le_trans Z69 (Nat.le_of_eq W70.size.symm)
      show Run p e below s _ _ _ (T70.setTop (mkF m 244 #[.val (.int p1), .val (.int p2), .val (.int p3), .val (.int p4), .val (.int p5), .val (.int p6), .val (.int (2 : Int32)), .val (.int (2 : Int32)), .val (.long z1), .second, .val (.long z2), .second, .val (.long z3), .second, .val (.long z4), .second, .val (.long z5), .second, .val (.long z6), .second, .val (.double (4741671816366391296 : UInt64)), .second, .val (.double (13965043853221167104 : UInt64)), .second, .val (.ref b7), .val (.ref b17), .unset, .unset, .unset, .unset, .unset, .unset, .unset, .unset, .unset, .unset] []))
      refine Run.x_lload (q := 246) X70 hx (hb hby at_244) rfl rfl ?_
      refine Run.x_lload (q := 248) X70 hx (hb hby at_246) rfl rfl ?_
      refine Run.x_lsub (q := 249) X70 hx (hb hby at_248) rfl rfl ?_
      refine Run.x_lstore (q := 251) X70 hx #[.val (.int p1), .val (.int p2), .val (.int p3), .val (.int p4), .val (.int p5), .val (.int p6), .val (.int (2 : Int32)), .val (.int (2 : Int32)), .val (.long z1), .second, .val (.long z2), .second, .val (.long z3), .second, .val (.long z4), .second, .val (.long z5), .second, .val (.long z6), .second, .val (.double (4741671816366391296 : UInt64)), .second, .val (.double (13965043853221167104 : UInt64)), .second, .val (.ref b7), .val (.ref b17), .val (.long (z1 - z4)), .second, .unset, .unset, .unset, .unset, .unset, .unset, .unset, .unset] (hb hby at_249) rfl rfl ?_
      refine Run.x_lload (q := 253) X70 hx (hb hby at_251) rfl rfl ?_
      refine Run.x_lload (q := 255) X70 hx (hb hby at_253) rfl rfl ?_
      refine Run.x_lsub (q := 256) X70 hx (hb hby at_255) rfl rfl ?_
      refine Run.x_lstore (q := 258) X70 hx #[.val (.int p1), .val (.int p2), .val (.int p3), .val (.int p4), .val (.int p5), .val (.int p6), .val (.int (2 : Int32)), .val (.int (2 : Int32)), .val (.long z1), .second, .val (.long z2), .second, .val (.long z3), .second, .val (.long z4), .second, .val (.long z5), .second, .val (.long z6), .second, .val (.double (4741671816366391296 : UInt64)), .second, .val (.double (13965043853221167104 : UInt64)), .second, .val (.ref b7), .val (.ref b17), .val (.long (z1 - z4)), .second, .val (.long (z2 - z5)), .second, .unset, .unset, .unset, .unset, .unset, .unset] (hb hby at_256) rfl rfl ?_
      refine Run.x_lload (q := 260) X70 hx (hb hby at_258) rfl rfl ?_
      refine Run.x_lload (q := 262) X70 hx (hb hby at_260) rfl rfl ?_
      refine Run.x_lsub (q := 263) X70 hx (hb hby at_262) rfl rfl ?_
      refine Run.x_lstore (q := 265) X70 hx #[.val (.int p1), .val (.int p2), .val (.int p3), .val (.int p4), .val (.int p5), .val (.int p6), .val (.int (2 : Int32)), .val (.int (2 : Int32)), .val (.long z1), .second, .val (.long z2), .second, .val (.long z3), .second, .val (.long z4), .second, .val (.long z5), .second, .val (.long z6), .second, .val (.double (4741671816366391296 : UInt64)), .second, .val (.double (13965043853221167104 : UInt64)), .second, .val (.ref b7), .val (.ref b17), .val (.long (z1 - z4)), .second, .val (.long (z2 - z5)), .second, .val (.long (z3 - z6)), .second, .unset, .unset, .unset, .unset] (hb hby at_263) rfl rfl ?_
      refine Run.x_lload (q := 267) X70 hx (hb hby at_265) rfl rfl ?_
      refine Run.x_lload (q := 269) X70 hx (hb hby at_267) rfl rfl ?_
      refine Run.x_lmul (q := 270) X70 hx (hb hby at_269) rfl rfl ?_
      refine Run.x_lload (q := 272) X70 hx (hb hby at_270) rfl rfl ?_
      refine Run.x_lload (q := 274) X70 hx (hb hby at_272) rfl rfl ?_
      refine Run.x_lmul (q := 275) X70 hx (hb hby at_274) rfl rfl ?_
      refine Run.x_ladd (q := 276) X70 hx (hb hby at_275) rfl rfl ?_
      refine Run.x_lload (q := 278) X70 hx (hb hby at_276) rfl rfl ?_
      refine Run.x_lload (q := 280) X70 hx (hb hby at_278) rfl rfl ?_
      refine Run.x_lmul (q := 281) X70 hx (hb hby at_280) rfl rfl ?_
      refine Run.x_ladd (q := 282) X70 hx (hb hby at_281) rfl rfl ?_
      refine Run.x_lstore (q := 284) X70 hx #[.val (.int p1), .val (.int p2), .val (.int p3), .val (.int p4), .val (.int p5), .val (.int p6), .val (.int (2 : Int32)), .val (.int (2 : Int32)), .val (.long z1), .second, .val (.long z2), .second, .val (.long z3), .second, .val (.long z4), .second, .val (.long z5), .second, .val (.long z6), .second, .val (.double (4741671816366391296 : UInt64)), .second, .val (.double (13965043853221167104 : UInt64)), .second, .val (.ref b7), .val (.ref b17), .val (.long (z1 - z4)), .second, .val (.long (z2 - z5)), .second, .val (.long (z3 - z6)), .second, .val (.long ((((z1 - z4) * (z1 - z4)) + ((z2 - z5) * (z2 - z5))) + ((z3 - z6) * (z3 - z6)))), .second, .unset, .unset] (hb hby at_282) rfl rfl ?_
      refine Run.x_aload (q := 286) X70 hx (hb hby at_284) rfl rfl rfl ?_
      refine Run.x_iload (q := 288) X70 hx (hb hby at_286) rfl rfl ?_
      refine Run.x_aload (q := 290) X70 hx (hb hby at_288) rfl rfl rfl ?_
      refine Run.x_iload (q := 292) X70 hx (hb hby at_290) rfl rfl ?_
      replace A_b7 := ((A_b7.other W68 ne_b7_b17).other W69 ne_b7_b17).other W70 ne_b7_b17
      refine Run.callS X70 hx hZ e70 (y := (⟨"org/tertiary/analysis/Superposition", "squaredDistance", "([DI[DI)D"⟩ : MethodName)) hown (hw _ (List.mem_of_getElem? (i := 7) rfl)) (hw _ (List.mem_of_getElem? (i := 8) rfl)) (hw _ (List.mem_of_getElem? (i := 9) rfl)) (hw _ (List.mem_of_getElem? (i := 10) rfl)) (by decide) (argsL := [(.ref b7), (.int (2 : Int32)), (.ref b17), (.int (2 : Int32))]) (rest := []) (c_sd l Z a0 hw b7 (2 : Int32) b17 (2 : Int32) h70 n0 Z70 [(Value.double (4741671816366391296 : UInt64)), (Value.double (4741671816366391296 : UInt64)), (Value.double (4741671816366391296 : UInt64)), (Value.double (4741671816366391296 : UInt64)), (Value.double (4741671816366391296 : UInt64)), (Value.double (4741671816366391296 : UInt64)), (Value.double (FP.l2d z1)), (Value.double (FP.l2d z2)), (Value.double (FP.l2d z3))] [(Value.double (13965043853221167104 : UInt64)), (Value.double (13965043853221167104 : UInt64)), (Value.double (13965043853221167104 : UInt64)), (Value.double (13965043853221167104 : UInt64)), (Value.double (13965043853221167104 : UInt64)), (Value.double (13965043853221167104 : UInt64)), (Value.double (FP.l2d z4)), (Value.double (FP.l2d z5)), (Value.double (FP.l2d z6))] 2 2 z1 z2 z3 z4 z5 z6 A_b7 A_b17 rfl (by decide) rfl (by decide) rfl rfl hz1 hz4 rfl rfl hz2 hz5 rfl rfl hz3 hz6) pd_1 rfl (by rw [hml]; rfl) (W := 0) rfl (by decide) (by decide) (by decide) (by decide) (hb hby at_292) rfl ?_
      intro T71 v71 L71 X71 q71
      obtain ⟨rfl, M71, e71⟩ := q71
      have N71 := Fr.app N70 M71
      show Run p e below s _ _ _ (T71.setTop (mkF m 295 #[.val (.int p1), .val (.int p2), .val (.int p3), .val (.int p4), .val (.int p5), .val (.int p6), .val (.int (2 : Int32)), .val (.int (2 : Int32)), .val (.long z1), .second, .val (.long z2), .second, .val (.long z3), .second, .val (.long z4), .second, .val (.long z5), .second, .val (.long z6), .second, .val (.double (4741671816366391296 : UInt64)), .second, .val (.double (13965043853221167104 : UInt64)), .second, .val (.ref b7), .val (.ref b17), .val (.long (z1 - z4)), .second, .val (.long (z2 - z5)), .second, .val (.long (z3 - z6)), .second, .val (.long ((((z1 - z4) * (z1 - z4)) + ((z2 - z5) * (z2 - z5))) + ((z3 - z6) * (z3 - z6)))), .second, .unset, .unset] [(.double (FP.l2d ((((z1 - z4) * (z1 - z4)) + ((z2 - z5) * (z2 - z5))) + ((z3 - z6) * (z3 - z6)))))]))
      refine Run.st (B := T71.setTop (mkF m 297 #[.val (.int p1), .val (.int p2), .val (.int p3), .val (.int p4), .val (.int p5), .val (.int p6), .val (.int (2 : Int32)), .val (.int (2 : Int32)), .val (.long z1), .second, .val (.long z2), .second, .val (.long z3), .second, .val (.long z4), .second, .val (.long z5), .second, .val (.long z6), .second, .val (.double (4741671816366391296 : UInt64)), .second, .val (.double (13965043853221167104 : UInt64)), .second, .val (.ref b7), .val (.ref b17), .val (.long (z1 - z4)), .second, .val (.long (z2 - z5)), .second, .val (.long (z3 - z6)), .second, .val (.long ((((z1 - z4) * (z1 - z4)) + ((z2 - z5) * (z2 - z5))) + ((z3 - z6) * (z3 - z6)))), .second, .val (.double (FP.l2d ((((z1 - z4) * (z1 - z4)) + ((z2 - z5) * (z2 - z5))) + ((z3 - z6) * (z3 - z6))))), .second] [])) (fun t kt => XS.dstore X71.here hx rfl (hb hby at_295) rfl (l' := #[.val (.int p1), .val (.int p2), .val (.int p3), .val (.int p4), .val (.int p5), .val (.int p6), .val (.int (2 : Int32)), .val (.int (2 : Int32)), .val (.long z1), .second, .val (.long z2), .second, .val (.long z3), .second, .val (.long z4), .second, .val (.long z5), .second, .val (.long z6), .second, .val (.double (4741671816366391296 : UInt64)), .second, .val (.double (13965043853221167104 : UInt64)), .second, .val (.ref b7), .val (.ref b17), .val (.long (z1 - z4)), .second, .val (.long (z2 - z5)), .second, .val (.long (z3 - z6)), .second, .val (.long ((((z1 - z4) * (z1 - z4)) + ((z2 - z5) * (z2 - z5))) + ((z3 - z6) * (z3 - z6)))), .second, .val (.double (FP.l2d ((((z1 - z4) * (z1 - z4)) + ((z2 - z5) * (z2 - z5))) + ((z3 - z6) * (z3 - z6))))), .second]) rfl kt) ?_
      refine Run.st (B := T71.setTop (mkF m 299 #[.val (.int p1), .val (.int p2), .val (.int p3), .val (.int p4), .val (.int p5), .val (.int p6), .val (.int (2 : Int32)), .val (.int (2 : Int32)), .val (.long z1), .second, .val (.long z2), .second, .val (.long z3), .second, .val (.long z4), .second, .val (.long z5), .second, .val (.long z6), .second, .val (.double (4741671816366391296 : UInt64)), .second, .val (.double (13965043853221167104 : UInt64)), .second, .val (.ref b7), .val (.ref b17), .val (.long (z1 - z4)), .second, .val (.long (z2 - z5)), .second, .val (.long (z3 - z6)), .second, .val (.long ((((z1 - z4) * (z1 - z4)) + ((z2 - z5) * (z2 - z5))) + ((z3 - z6) * (z3 - z6)))), .second, .val (.double (FP.l2d ((((z1 - z4) * (z1 - z4)) + ((z2 - z5) * (z2 - z5))) + ((z3 - z6) * (z3 - z6))))), .second] [(.double (FP.l2d ((((z1 - z4) * (z1 - z4)) + ((z2 - z5) * (z2 - z5))) + ((z3 - z6) * (z3 - z6)))))])) (fun t kt => XS.dload X71.here hx rfl (hb hby at_297) rfl kt) ?_
      refine Run.x_lload (q := 301) X71 hx (hb hby at_299) rfl rfl ?_
      refine Run.st (B := T71.setTop (mkF m 302 #[.val (.int p1), .val (.int p2), .val (.int p3), .val (.int p4), .val (.int p5), .val (.int p6), .val (.int (2 : Int32)), .val (.int (2 : Int32)), .val (.long z1), .second, .val (.long z2), .second, .val (.long z3), .second, .val (.long z4), .second, .val (.long z5), .second, .val (.long z6), .second, .val (.double (4741671816366391296 : UInt64)), .second, .val (.double (13965043853221167104 : UInt64)), .second, .val (.ref b7), .val (.ref b17), .val (.long (z1 - z4)), .second, .val (.long (z2 - z5)), .second, .val (.long (z3 - z6)), .second, .val (.long ((((z1 - z4) * (z1 - z4)) + ((z2 - z5) * (z2 - z5))) + ((z3 - z6) * (z3 - z6)))), .second, .val (.double (FP.l2d ((((z1 - z4) * (z1 - z4)) + ((z2 - z5) * (z2 - z5))) + ((z3 - z6) * (z3 - z6))))), .second] [(.double (FP.l2d ((((z1 - z4) * (z1 - z4)) + ((z2 - z5) * (z2 - z5))) + ((z3 - z6) * (z3 - z6))))), (.double (FP.l2d ((((z1 - z4) * (z1 - z4)) + ((z2 - z5) * (z2 - z5))) + ((z3 - z6) * (z3 - z6)))))])) (fun t kt => XS.l2dS X71.here hx rfl (hb hby at_301) rfl rfl kt) ?_
      refine Run.st (B := T71.setTop (mkF m 303 #[.val (.int p1), .val (.int p2), .val (.int p3), .val (.int p4), .val (.int p5), .val (.int p6), .val (.int (2 : Int32)), .val (.int (2 : Int32)), .val (.long z1), .second, .val (.long z2), .second, .val (.long z3), .second, .val (.long z4), .second, .val (.long z5), .second, .val (.long z6), .second, .val (.double (4741671816366391296 : UInt64)), .second, .val (.double (13965043853221167104 : UInt64)), .second, .val (.ref b7), .val (.ref b17), .val (.long (z1 - z4)), .second, .val (.long (z2 - z5)), .second, .val (.long (z3 - z6)), .second, .val (.long ((((z1 - z4) * (z1 - z4)) + ((z2 - z5) * (z2 - z5))) + ((z3 - z6) * (z3 - z6)))), .second, .val (.double (FP.l2d ((((z1 - z4) * (z1 - z4)) + ((z2 - z5) * (z2 - z5))) + ((z3 - z6) * (z3 - z6))))), .second] [(.int (0 : Int32))])) (fun t kt => XS.dcmpS X71.here hx rfl (hb hby at_302) rfl (dcmpV_self (nn_w rfl) _) kt) ?_
      refine Run.x_ifNo (q := 306) X71 hx (hb hby at_303) ((if0 _ _).trans (teq (by decide : (0 : Int32) = (0 : Int32))).2) rfl ?_
      refine Run.x_iconst (q := 307) X71 hx (hb hby at_306) (z := (1 : Int32)) rfl rfl ?_
      refine Run.x_goto (q := 311) X71 hx (hb hby at_307) (by decide) (by decide) ?_
      refine Run.retN X71 hx hlk e71 (t := .boolean) hret (by simp) (z' := (1 : Int32)) (by decide) (hb hby at_311) (by decide) (by decide) ?_
      exact ⟨rfl, N71⟩
set_option maxRecDepth 65536 in
set_option maxHeartbeats 40000000 in
theorem comes_1 {Post : Tables → Env → Array Value → State → Outcome → State → Prop} (hpost : ∀ tb e args s v u, (limb_1_1.after args s (.returned v) u = true ∧ limb_1_2.after args s (.returned v) u = true ∧ True) → FrameEnd s (.returned v) u (Jvm.fieldLocs frame_1_writes args s ++ Jvm.arrayLocs frame_1_arrays args s ++ Jvm.staticLocs frame_1_statics s) 16 128 → Post tb e args s (.returned v) u) :
    ArmFor flags0 classFile x code maxLocals ret World_1 tables_1 room_1 Calls_1 rest_1 Pre_1 Post := by
  intro l hfl _ _ p e ha hc hk s m args below hf hA hF happ hP
  obtain ⟨hcalls, hrest, hpre⟩ := hP
  obtain ⟨-, -, -, hnamed, -, -, -, hat⟩ := (Spec.applies_iff hf).mp happ
  obtain ⟨hg, hn⟩ := and_e (Cond.before_iff.mp (show (Jvm.Cond.and given_1 narrow_1).before args s = true from hpre))
  obtain ⟨g1, g2⟩ := and_e hg
  obtain ⟨g3, g4⟩ := and_e g2
  obtain ⟨g5, g6⟩ := and_e g4
  obtain ⟨g7, g8⟩ := and_e g6
  obtain ⟨g9, g10⟩ := and_e g8
  obtain ⟨g11, g12⟩ := and_e g10
  obtain ⟨w0, w1, w2, w3, w4, w5, rfl⟩ : ∃ w0 w1 w2 w3 w4 w5 : Value, args = #[w0, w1, w2, w3, w4, w5] := by
    have hs : args.size = 6 := by simpa [Cond.value, given_1] using g1
    obtain ⟨L⟩ := args
    match L, hs with
    | [w0, w1, w2, w3, w4, w5], _ => exact ⟨w0, w1, w2, w3, w4, w5, rfl⟩
  have hw := fun d (hd : d ∈ tables_1) => atoms_spec (ws := Jvm.Cond.code x code maxLocals ret :: tables_1) hat d (List.mem_cons_of_mem _ hd)
  have hfit : Fit s := fun {y c} hc i hi => by
    obtain ⟨ha, rfl⟩ := Array.getElem?_eq_some_iff.mp hc
    have q := List.all_eq_true.mp ((Array.all_eq_true_iff_forall_mem.mp hF) _ (Array.getElem_mem ha)) i (List.mem_range.mpr hi)
    simpa [Array.getElem?_eq_getElem hi] using q
  obtain ⟨i0, ei0⟩ := is_v g3
  obtain rfl : w0 = (.int i0) := Option.some.inj ei0
  obtain ⟨i1, ei1⟩ := is_v g5
  obtain rfl : w1 = (.int i1) := Option.some.inj ei1
  obtain ⟨i2, ei2⟩ := is_v g7
  obtain rfl : w2 = (.int i2) := Option.some.inj ei2
  obtain ⟨i3, ei3⟩ := is_v g9
  obtain rfl : w3 = (.int i3) := Option.some.inj ei3
  obtain ⟨i4, ei4⟩ := is_v g11
  obtain rfl : w4 = (.int i4) := Option.some.inj ei4
  obtain ⟨i5, ei5⟩ := is_v g12
  obtain rfl : w5 = (.int i5) := Option.some.inj ei5
  obtain ⟨n, o, h1, h2, h3, _, L, rfl, ⟨rfl, N⟩, hq⟩ := c_law l s _ hw i0 i1 i2 i3 i4 i5 s.heap s.heap.size (Nat.le_refl _)  tables_1 p e ha hc hk s m _ below hf ((Spec.applies_iff_loose hf).mp happ).1 ⟨rfl, State.Warmed39.refl s, rfl⟩ trivial
  refine ⟨n, _, h1, h2, h3, hpost _ _ _ _ _ _ ⟨Cond.after_iff.mpr rfl, Cond.after_iff.mpr (eq_i res_at (Term.int_eval (1)) rfl), trivial⟩ ⟨hq.1, hq.2.1, (hq.2.2.sift fun y hy => Or.inr (N y hy)).mono (by decide) (by decide)⟩⟩
theorem main_1_1 : Claimed_1_1 := comes_1 fun _ _ _ _ _ _ h hF => ⟨h.1, hF⟩
theorem main_1_2 : Claimed_1_2 := comes_1 fun _ _ _ _ _ _ h hF => ⟨h.2.1, hF⟩
end Jvm.Pilot.@@N@@
namespace Jvm.Pilot.@@N@@
open Jvm Jvm.ClassFile Sem Op Lib Jvm.Free Jvm.Stand Jvm.Pilot.@@N@@.Jvm.D
/-! MADE BY PROGRAM (witnessworld.py) out of the Statement's table words and the real class files: 11 classes; the members and pool entries that the words name. The judged class is class 1, her method 2. -/
namespace start1
open Jvm.ClassFile
def u (s : String) : CpInfo := .utf8 (stringToUtf16 s)
/-- a pool by its gaps: so many unusable entries, then the entry; so many at the end -/
def gap : Nat → List CpInfo → List CpInfo
  | 0, r => r
  | n + 1, r => .unusable :: gap n r
def poolList (es : List (Nat × CpInfo)) (last : Nat) : List CpInfo := es.foldr (fun e r => gap e.1 (e.2 :: r)) (gap last [])
def pool (es : List (Nat × CpInfo)) (last : Nat) : Array CpInfo := ⟨poolList es last⟩
def fileOf (pool : Array CpInfo) (this : Nat) (attrs : Array Attribute := #[]) (ms : Array MethodInfo := #[]) (fl : Nat := 33) (sup : Nat := 0) (ifs : Array Nat := #[]) (fds : Array FieldInfo := #[]) : ClassFile where
  minorVersion := 0
  majorVersion := 65
  constantPool := pool
  accessFlags := fl
  thisClass := this
  superClass := sup
  interfaces := ifs
  fields := fds
  methods := ms
  attributes := attrs
def plain (name : String) (sup : Option ClassId) : Class where
  name := name
  kind := .ordinary
  loader := none
  accessFlags := 33
  super := sup
  interfaces := #[]
  cf := none
  fields := #[]
  methods := #[]
  instanceTypes := #[]
  staticTypes := #[]
  resolved := #[]
  callSites := []
  init := .initialized
  statics := none
  mirror := none

def pool0 : Array CpInfo := pool [(5, u "<init>"), (0, u "()V"), (1, .class_ 10), (1, u "java/lang/Object")] 113

def k0m0 : Method := { name := "<init>", desc := "()V", sig := { parameters := [], returnType := none }, accessFlags := 1, code := none }
/-- java/lang/Object -/
def k0 : Class := { plain "java/lang/Object" none with
  accessFlags := 33
  interfaces := #[]
  cf := some (fileOf pool0 8 #[] #[{ accessFlags := 1, nameIndex := 5, descriptorIndex := 6, attributes := #[] }] 33 0 #[] #[])
  fields := #[]
  methods := #[k0m0]
  instanceTypes := #[]
  staticTypes := #[]
  resolved := Array.replicate 124 none
  statics := none }

def pool1 : Array CpInfo := pool [(2, .class_ 4), (1, u "java/lang/Object"), (0, u "<init>"), (0, u "()V"), (0, .methodref 8 9), (0, .class_ 10), (0, .nameAndType 11 12), (0, u "org/tertiary/analysis/SuperpositionSquaredDistancePinLaw"), (0, u "coord"), (0, u "(I)J"), (0, .double 4741671816366391296), (1, .double 13965043853221167104), (1, .methodref 18 19), (0, .class_ 20), (0, .nameAndType 21 22), (0, u "org/tertiary/analysis/Superposition"), (0, u "squaredDistance"), (0, u "([DI[DI)D"), (2, u "law"), (0, u "(IIIIII)Z")] 5

def k1m0 : Method := { name := "<init>", desc := "()V", sig := { parameters := [], returnType := none }, accessFlags := 2, code := none }
def k1c1 : Code := { maxStack := 2, maxLocals := 1, code := method_2_code, exceptionTable := #[], attributes := #[] }
def k1m1 : Method := { name := "coord", desc := "(I)J", sig := { parameters := [.int], returnType := some .long }, accessFlags := 10, code := some k1c1 }
def k1c2 : Code := { maxStack := 6, maxLocals := 36, code := code, exceptionTable := #[], attributes := #[] }
def k1m2 : Method := { name := "law", desc := "(IIIIII)Z", sig := { parameters := [.int, .int, .int, .int, .int, .int], returnType := some .boolean }, accessFlags := 9, code := some k1c2 }
/-- org/tertiary/analysis/SuperpositionSquaredDistancePinLaw -/
def k1 : Class := { plain "org/tertiary/analysis/SuperpositionSquaredDistancePinLaw" (some 0) with
  accessFlags := 49
  interfaces := #[]
  cf := some (fileOf pool1 8 #[] #[{ accessFlags := 2, nameIndex := 5, descriptorIndex := 6, attributes := #[] }, { accessFlags := 10, nameIndex := 11, descriptorIndex := 12, attributes := #[] }, { accessFlags := 9, nameIndex := 25, descriptorIndex := 26, attributes := #[] }] 49 2 #[] #[])
  fields := #[]
  methods := #[k1m0, k1m1, k1m2]
  instanceTypes := #[]
  staticTypes := #[]
  resolved := Array.replicate 32 none
  statics := none }

def pool2 : Array CpInfo := pool [(2, .class_ 4), (1, u "java/lang/Object"), (3, .class_ 10), (1, u "org/tertiary/analysis/Superposition"), (0, u "rotation"), (0, u "[[D"), (2, u "translation"), (0, u "[D"), (183, u "MAX_SWEEPS"), (0, u "I"), (2, u "NEGLIGIBLE"), (0, u "D"), (6, u "squaredDistance"), (0, u "([DI[DI)D")] 40

def k2c0 : Code := { maxStack := 6, maxLocals := 10, code := prog_16_method_5_code, exceptionTable := #[], attributes := #[] }
def k2m0 : Method := { name := "squaredDistance", desc := "([DI[DI)D", sig := { parameters := [(.array .double), .int, (.array .double), .int], returnType := some .double }, accessFlags := 8, code := some k2c0 }
/-- org/tertiary/analysis/Superposition -/
def k2 : Class := { plain "org/tertiary/analysis/Superposition" (some 0) with
  accessFlags := 49
  interfaces := #[]
  cf := some (fileOf pool2 8 #[] #[{ accessFlags := 8, nameIndex := 212, descriptorIndex := 213, attributes := #[] }] 49 2 #[] #[{ accessFlags := 26, nameIndex := 200, descriptorIndex := 201, attributes := #[] }, { accessFlags := 26, nameIndex := 204, descriptorIndex := 205, attributes := #[] }, { accessFlags := 18, nameIndex := 11, descriptorIndex := 12, attributes := #[] }, { accessFlags := 18, nameIndex := 15, descriptorIndex := 16, attributes := #[] }])
  fields := #[{ name := "MAX_SWEEPS", type := .int, accessFlags := 26, slot := 0, constantValue := 0 }, { name := "NEGLIGIBLE", type := .double, accessFlags := 26, slot := 1, constantValue := 0 }, { name := "rotation", type := (.array (.array .double)), accessFlags := 18, slot := 0, constantValue := 0 }, { name := "translation", type := (.array .double), accessFlags := 18, slot := 1, constantValue := 0 }]
  methods := #[k2m0]
  instanceTypes := #[(.array (.array .double)), (.array .double)]
  staticTypes := #[.int, .double]
  resolved := Array.replicate 254 none
  statics := none }

def pool3 : Array CpInfo := pool [(1, u "java/lang/Cloneable"), (0, .class_ 1), (0, u "java/lang/Object"), (0, .class_ 3)] 3

/-- java/lang/Cloneable -/
def k3 : Class := { plain "java/lang/Cloneable" (some 0) with
  accessFlags := 1537
  interfaces := #[]
  cf := some (fileOf pool3 2 #[] #[] 1537 4 #[] #[])
  fields := #[]
  methods := #[]
  instanceTypes := #[]
  staticTypes := #[]
  resolved := Array.replicate 8 none
  statics := none }

def pool4 : Array CpInfo := pool [(1, u "java/io/Serializable"), (0, .class_ 1), (0, u "java/lang/Object"), (0, .class_ 3)] 3

/-- java/io/Serializable -/
def k4 : Class := { plain "java/io/Serializable" (some 0) with
  accessFlags := 1537
  interfaces := #[]
  cf := some (fileOf pool4 2 #[] #[] 1537 4 #[] #[])
  fields := #[]
  methods := #[]
  instanceTypes := #[]
  staticTypes := #[]
  resolved := Array.replicate 8 none
  statics := none }

/-- the primitive byte -/
def k5 : Class := { plain "byte" none with kind := .primitive 'B', accessFlags := 0x411 }
/-- [B -/
def k6 : Class := { plain "[B" (some 0) with kind := .array 5 .byte, interfaces := #[3, 4], accessFlags := 1041 }

/-- the primitive double -/
def k7 : Class := { plain "double" none with kind := .primitive 'D', accessFlags := 0x411 }
/-- [D -/
def k8 : Class := { plain "[D" (some 0) with kind := .array 7 .double, interfaces := #[3, 4], accessFlags := 1041 }

/-- the primitive int -/
def k9 : Class := { plain "int" none with kind := .primitive 'I', accessFlags := 0x411 }
/-- [I -/
def k10 : Class := { plain "[I" (some 0) with kind := .array 9 .int, interfaces := #[3, 4], accessFlags := 1041 }

def heap : Heap := #[]
def classes : Array Class := #[k0, k1, k2, k3, k4, k5, k6, k7, k8, k9, k10]
def interned : List (Array UInt16 × Addr) := []
def slotsUsed : Nat := 0
def theMethod : MethodId := ⟨1, 2⟩
def args0 : Array Value := #[.int 3, .int 4, .int 5, .int 7, .int 9, .int 11]
def aboutOver (below : List Frame) : State where
  vm := { classes := classes, interned := interned.toArray }
  heap := heap
  slotsUsed := slotsUsed
  threads := #[{ frames := .invoking theMethod args0 :: below }]
def below0 : List Frame := [.native { method := ⟨0, 0⟩, args := #[] }]
def about1 : State := aboutOver below0
def p0 : Program := .bare "" "" ""
def e0 : Env := launch0.env 0 0 0
theorem w_frames : about1.frames = Frame.invoking theMethod args0 :: below0 := rfl
set_option maxRecDepth 65536 in
theorem w_args : argsFit about1.vm theMethod args0 = true := by decide +kernel
set_option maxRecDepth 65536 in
theorem w_heap : heapFits about1 = true := by decide +kernel
set_option maxRecDepth 65536 in
theorem w_runnable : about1.curStatus? = some .runnable := by decide +kernel
set_option maxRecDepth 65536 in
theorem w_alone : about1.alone = true := by decide +kernel
set_option maxRecDepth 65536 in
theorem w_named : about1.methodNamed? x = some theMethod := by decide +kernel
set_option maxRecDepth 65536 in
theorem w_hears : about1.hears theMethod below0 = true := by decide +kernel
set_option maxRecDepth 65536 in
theorem w_ripe : about1.ripe theMethod args0 below0 = true := by decide +kernel
theorem w_running : about1.status = .running := rfl
set_option maxRecDepth 65536 in
theorem w_room : about1.hasRoom e0.platform room_1 = true :=
  launch0.hasRoom_least _ room_1 (by decide +kernel) (by decide +kernel) (by decide +kernel) (by decide +kernel) (by decide +kernel) (by decide +kernel)
theorem allAtoms_all (ts : List Jvm.Cond) (a : Array Jvm.Value) (st : Jvm.State) : (allAtoms ts).before a st = ts.all (fun c => c.before a st) := by
  induction ts with
  | nil => rfl
  | cons c t ih =>
    show (Jvm.Cond.and c (allAtoms t)).before a st = _
    rw [Jvm.Cond.before_and, ih, List.all_cons]
def words1 : List Jvm.Cond := Jvm.Cond.code x code maxLocals ret :: tables_1
/-- a 'code' word, met by the world's own term for the bytes: nothing is compared byte by byte -/
theorem code_word {y : MethodName} {bytes : ByteArray} {mx : Nat} {rt : Option FieldType} {a : Array Value} {s : State} {m : MethodId} {meth : Method} {c : Code} (h1 : s.methodNamed? y = some m) (h2 : s.vm.method? m = some meth) (h3 : meth.code = some c) (h4 : c.code = bytes)
    (h5 : (c.maxLocals == mx && c.exceptionTable.isEmpty && decide (c.maxStack ≤ mostOperands) && decide (meth.sig.returnType = rt) && !meth.locks && decide (parseMethodDescriptor y.desc = some meth.sig)) = true) : (Jvm.Cond.code y bytes mx rt).before a s = true := by
  simp only [Bool.and_eq_true, beq_iff_eq, Bool.not_eq_true', decide_eq_true_eq] at h5
  obtain ⟨⟨⟨⟨⟨g1, g2⟩, g3⟩, g4⟩, g5⟩, g6⟩ := h5
  simp [Cond.before, Cond.holds, Cond.value, h1, h2, h3, h4, g1, g2, g3, g4, g5, g6]
def isCode : Jvm.Cond → Bool
  | .code _ _ _ _ => true
  | _ => false
theorem all_split {L : List Jvm.Cond} {P : Jvm.Cond → Bool} (h1 : L.all (fun c => isCode c || P c) = true) (h2 : ∀ c ∈ L.filter isCode, P c = true) : L.all P = true := by
  refine List.all_eq_true.mpr fun c hc => ?_
  have h := List.all_eq_true.mp h1 c hc
  rcases Bool.eq_false_or_eq_true (isCode c) with hi | hi
  · exact h2 c (List.mem_filter.mpr ⟨hc, hi⟩)
  · simpa [hi] using h
set_option maxRecDepth 65536 in
theorem w_c0 : (Jvm.Cond.code x code maxLocals ret).before args0 about1 = true := code_word (m := ⟨1, 2⟩) (meth := k1m2) (c := k1c2) (by decide +kernel) rfl rfl rfl (by decide +kernel)
set_option maxRecDepth 65536 in
theorem w_c1 : (Jvm.Cond.code ({ cls := "org/tertiary/analysis/SuperpositionSquaredDistancePinLaw", name := "coord", desc := "(I)J" } : Jvm.MethodName) method_2_code (1 : Nat) (Option.some Jvm.ClassFile.FieldType.long)).before args0 about1 = true := code_word (m := ⟨1, 1⟩) (meth := k1m1) (c := k1c1) (by decide +kernel) rfl rfl rfl (by decide +kernel)
set_option maxRecDepth 65536 in
theorem w_c2 : (Jvm.Cond.code ({ cls := "org/tertiary/analysis/Superposition", name := "squaredDistance", desc := "([DI[DI)D" } : Jvm.MethodName) prog_16_method_5_code (10 : Nat) (Option.some Jvm.ClassFile.FieldType.double)).before args0 about1 = true := code_word (m := ⟨2, 0⟩) (meth := k2m0) (c := k2c0) (by decide +kernel) rfl rfl rfl (by decide +kernel)
def codes1 : List Jvm.Cond := [Jvm.Cond.code x code maxLocals ret, Jvm.Cond.code ({ cls := "org/tertiary/analysis/SuperpositionSquaredDistancePinLaw", name := "coord", desc := "(I)J" } : Jvm.MethodName) method_2_code (1 : Nat) (Option.some Jvm.ClassFile.FieldType.long), Jvm.Cond.code ({ cls := "org/tertiary/analysis/Superposition", name := "squaredDistance", desc := "([DI[DI)D" } : Jvm.MethodName) prog_16_method_5_code (10 : Nat) (Option.some Jvm.ClassFile.FieldType.double)]
set_option maxRecDepth 65536 in
theorem codes_eq : words1.filter isCode = codes1 := rfl
theorem w_codes : ∀ c ∈ words1.filter isCode, c.before args0 about1 = true := by
  rw [codes_eq]
  intro c hc
  simp only [codes1, List.mem_cons, List.not_mem_nil, or_false] at hc
  rcases hc with rfl | rfl | rfl
  · exact w_c0
  · exact w_c1
  · exact w_c2
set_option maxRecDepth 65536 in
theorem w_t1 : words1.all (fun c => isCode c || c.before args0 about1) = true := by decide +kernel
theorem w_tables : (allAtoms (Jvm.Cond.code x code maxLocals ret :: tables_1)).before args0 about1 = true := by
  rw [allAtoms_all]
  show words1.all (fun c => c.before args0 about1) = true
  refine all_split ?_ w_codes
  rw [w_t1]
set_option maxRecDepth 65536 in
theorem w_case : (Jvm.Cond.and given_1 narrow_1).before args0 about1 = true := by decide +kernel
theorem w_applies : (headSpec (Jvm.Cond.code x code maxLocals ret :: tables_1) room_1).applies x e0.platform about1 = true :=
  (Spec.applies_iff w_frames).mpr ⟨w_running, w_runnable, w_alone, w_named, w_hears, w_ripe, w_room, w_tables⟩
theorem atStart : AtStart classFile x code maxLocals ret World_1 tables_1 room_1 Calls_1 rest_1 Pre_1 launch0 p0 e0 about1 theMethod args0 below0 :=
  ⟨lists_1, trivial, launch0.admits_env _ _ _, launch0.least_env, fairChoices_fair.cas, fairChoices_fair.clock, w_frames, w_args, w_heap, w_applies, trivial, trivial, w_case⟩
end start1
theorem witness_1 : WitnessClaimed_1 := ⟨start1.p0, start1.e0, start1.about1, start1.theMethod, start1.args0, start1.below0, start1.atStart⟩
end Jvm.Pilot.@@N@@
