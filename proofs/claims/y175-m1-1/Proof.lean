import JvmDerived
import JvmDerived.Pilot.@@N@@Statement
import JvmDerived.Pilot.@@N@@Code
set_option linter.unusedVariables false
set_option linter.unusedSimpArgs false
namespace Jvm.OwnRun
open Sem ClassFile Op Lib Jvm.Stand Jvm.Free Jvm.LawKit Jvm.RoadKit
/-- the run that stands at A comes to the end of this invocation, and Q holds there -/
def Run (p : Program) (e : Env) (below : List Frame) (s : State) (Q : Option Value → Heap → List Loc → Prop) (k n : Nat) (A : State) : Prop :=
  ∃ s₂ o, Steps p.tables e below A s₂ ∧ s₂.status = .running ∧ Ended s₂ below o ∧ ∃ v L, o = .returned v ∧ Q v s₂.heap L ∧ FrameEnd s o s₂ L k n
/-- the contract of a body at one heap and one row of arguments -/
def Ctr (l : Launch) (Z : State) (y : MethodName) (bytes : ByteArray) (ml : Nat) (ret : Option FieldType) (rm : Room) (as' : Array Value) (h0 : Heap) (Q : Option Value → Heap → List Loc → Prop) : Prop :=
  ∀ ws : List Jvm.Cond, MetFree l y (head1 (Jvm.Cond.code y bytes ml ret :: ws) rm) (fun a U => a = as' ∧ Z.Warmed39 U.vm ∧ U.heap = h0) (fun _ _ _ _ _ => True) (fun _ U o U' => ∃ v L, o = .returned v ∧ Q v U'.heap L ∧ FrameEnd U o U' L rm.cells rm.slots)
section Laws
variable {p : Program} {l : Launch} {e : Env} {R : Room} {s : State} {m : MethodId} {args : Array Value} {below : List Frame} {meth : Method} {c : Code} {T : State} {locs : List Loc} {cells slots : Nat} {Z : State} {a0 : Array Value} {h h' : Heap}
variable {Q Q' : Option Value → Heap → List Loc → Prop} {k n : Nat}
theorem Run.st {A B : State} (f : ∀ t, Steps p.tables e below B t → Steps p.tables e below A t) (r : Run p e below s Q k n B) : Run p e below s Q k n A := by
  obtain ⟨s₂, o, h1, r⟩ := r
  exact ⟨s₂, o, f _ h1, r⟩
theorem Ctr.of {y : MethodName} {bytes : ByteArray} {ml : Nat} {ret : Option FieldType} {rm : Room} {as' : Array Value} {h0 : Heap} {Ls : Array Slot} (hpl : plainFor y = true) (hef : ∀ m, entryFrame m as' ml = mkF m 0 Ls [])
    (body : ∀ (p : Program) (e : Env) (s : State) (m : MethodId) (below : List Frame) (meth : Method) (c : Code) (T : State), p.tables.exec = Jvm.exec → c.code = bytes → c.maxLocals = ml → s.vm.findClass y.cls = some m.cls → meth.name = y.name → meth.sig.returnType = ret → meth.locks = false → Z.Warmed39 s.vm → T.heap = h0 →
      Stand p l e rm s m as' below meth c T [] 0 0 → Run p e below s Q rm.cells rm.slots (T.setTop (mkF m 0 Ls []))) : Ctr l Z y bytes ml ret rm as' h0 Q := by
  intro ws
  refine MetFree.of_bodySF hpl hisR ?_
  intro p e s m args below meth c s₁ Bd hml0 hP hK
  obtain ⟨rfl, hZ, hh⟩ := hP
  have q := body p e s m below meth c s₁ Bd.exec Bd.bytes hml0 (findClass_of_methodNamed Bd.named) (name_of_methodNamed Bd.named Bd.method).1 Bd.returns Bd.notSynchronized hZ (by rw [← hh, Bd.state]; rfl) (Stand.of_body Bd)
  rw [hef]
  exact q
theorem Run.end_ (X : Stand p l e R s m args below meth c T locs cells slots) (hlk : meth.locks = false) (eT : T.heap = h) {v : Option Value} (hv : meth.sig.returnType = none → v = none) (hc : cells ≤ k) (hn : slots ≤ n) (hQ : Q v h locs) {A : State}
    (f : ∀ fs, (∀ (f : JFrame) (acts : List Action), f.method = m → f.locked = none → f.entered = [] → (doReturn e (T.setTop f) acts v).1 = T.setFrames fs) → Steps p.tables e below A (T.setFrames fs)) : Run p e below s Q k n A := by
  obtain ⟨fs, hr, hrun, hended, hW, hsame⟩ := X.leave (v := v) hv
  exact ⟨_, _, f fs hr, hrun, hended, _, _, rfl, by rw [show (T.setFrames fs).heap = h from eT]; exact hQ, ⟨_, rfl⟩, hW, hsame.mono hc hn⟩
theorem Run.retN (X : Stand p l e R s m args below meth c T locs cells slots) (hx : p.tables.exec = Jvm.exec) (hlk : meth.locks = false) (eT : T.heap = h) {t : FieldType} (hret : meth.sig.returnType = some t) (ht : t = .boolean ∨ t = .byte ∨ t = .char ∨ t = .short) {pc : Nat} {Ls : Array Slot} {z : Int32} {rest : List Value}
    {z' : Int32} (hz : nar t z = z') (hd : decode c.code pc = .ok (.ireturn, 1)) (hc : cells ≤ k) (hn : slots ≤ n) (hQ : Q (some (.int z')) h locs) : Run p e below s Q k n (T.setTop (mkF m pc Ls (.int z :: rest))) :=
  Run.end_ X hlk eT (v := some (.int (nar t z))) (fun q => by rw [hret] at q; cases q) hc hn (hz ▸ hQ) fun fs hr => RoadKit.retN X hx hret ht hd hr
theorem Run.retI (X : Stand p l e R s m args below meth c T locs cells slots) (hx : p.tables.exec = Jvm.exec) (hlk : meth.locks = false) (eT : T.heap = h) (hret : meth.sig.returnType = some .int) {pc : Nat} {Ls : Array Slot} {z : Int32} {rest : List Value}
    (hd : decode c.code pc = .ok (.ireturn, 1)) (hc : cells ≤ k) (hn : slots ≤ n) (hQ : Q (some (.int z)) h locs) : Run p e below s Q k n (T.setTop (mkF m pc Ls (.int z :: rest))) :=
  Run.end_ X hlk eT (v := some (.int z)) (fun q => by rw [hret] at q; cases q) hc hn hQ fun fs hr => RoadKit.retOut X hx hret rfl (Or.inl ⟨rfl, Or.inl rfl, z, rfl⟩) hd hr
theorem Run.retJ (X : Stand p l e R s m args below meth c T locs cells slots) (hx : p.tables.exec = Jvm.exec) (hlk : meth.locks = false) (eT : T.heap = h) (hret : meth.sig.returnType = some .long) {pc : Nat} {Ls : Array Slot} {z : Int64} {rest : List Value}
    (hd : decode c.code pc = .ok (.lreturn, 1)) (hc : cells ≤ k) (hn : slots ≤ n) (hQ : Q (some (.long z)) h locs) : Run p e below s Q k n (T.setTop (mkF m pc Ls (.long z :: rest))) :=
  Run.end_ X hlk eT (v := some (.long z)) (fun q => by rw [hret] at q; cases q) hc hn hQ fun fs hr => RoadKit.retOut X hx hret rfl (Or.inr (Or.inl ⟨rfl, rfl, z, rfl⟩)) hd hr
theorem Run.retA (X : Stand p l e R s m args below meth c T locs cells slots) (hx : p.tables.exec = Jvm.exec) (hlk : meth.locks = false) (eT : T.heap = h) {t : FieldType} (hret : meth.sig.returnType = some t) (ht : t.isReference = true) {w : Value} (hw : w.isRef = true) (hnr : narrow t w = w) {pc : Nat} {Ls : Array Slot} {rest : List Value}
    (hd : decode c.code pc = .ok (.areturn, 1)) (hc : cells ≤ k) (hn : slots ≤ n) (hQ : Q (some w) h locs) : Run p e below s Q k n (T.setTop (mkF m pc Ls (w :: rest))) :=
  Run.end_ X hlk eT (v := some w) (fun q => by rw [hret] at q; cases q) hc hn hQ fun fs hr => RoadKit.retOut X hx hret hnr (Or.inr (Or.inr (Or.inr (Or.inr ⟨rfl, ht, hw⟩)))) hd hr
theorem Run.retV (X : Stand p l e R s m args below meth c T locs cells slots) (hx : p.tables.exec = Jvm.exec) (hlk : meth.locks = false) (eT : T.heap = h) (hret : meth.sig.returnType = none) {pc : Nat} {Ls : Array Slot}
    (hd : decode c.code pc = .ok (.return_, 1)) (hc : cells ≤ k) (hn : slots ≤ n) (hQ : Q none h locs) : Run p e below s Q k n (T.setTop (mkF m pc Ls [])) :=
  Run.end_ X hlk eT (v := none) (fun _ => rfl) hc hn hQ fun fs hr => X.returnOut hx hret hd hr
/-- a call's premises that are alike for every kind of call -/
theorem Ctr.back {y : MethodName} {bytes : ByteArray} {ml : Nat} {ret : Option FieldType} {rm : Room} {as' : Array Value} {len W : Nat} (K : Ctr l Z y bytes ml ret rm as' h Q') (hZ : Z.Warmed39 s.vm) (wc : (Jvm.Cond.code y bytes ml ret).before a0 Z = true) (wz : (Jvm.Cond.initialized y.cls).before a0 Z = true) (hf : rm.frames + 1 ≤ R.frames) (hl : W + (ml + 11) + rm.locals ≤ R.locals) :
    Back l R p e below s args y len W (fun A a => a = as' ∧ A.U.heap = h ∧ A.cells + rm.cells ≤ R.cells ∧ A.slots + rm.slots ≤ R.slots) (fun A _ v B => ∃ L, Q' v B.U.heap L ∧ B.locs = A.locs ++ L ∧ B.cells = A.cells + rm.cells ∧ B.slots = A.slots + rm.slots) := backOf (K []) hZ wc wz hf hl
theorem Run.callS (X : Stand p l e R s m args below meth c T locs cells slots) (hx : p.tables.exec = Jvm.exec) (hZ : Z.Warmed39 s.vm) (eT : T.heap = h) {own : String} {index : Nat} {y : MethodName} {bytes : ByteArray} {ml : Nat} {ret : Option FieldType} {rm : Room}
    (hown : s.vm.findClass own = some m.cls) (w1 : (Jvm.Cond.methodLink own index y).before a0 Z = true) (w2 : (Jvm.Cond.static y).before a0 Z = true) (w3 : (Jvm.Cond.initialized y.cls).before a0 Z = true) (w4 : (Jvm.Cond.code y bytes ml ret).before a0 Z = true)
    (hy : y.cls ≠ "java/lang/invoke/MethodHandle" ∧ y.cls ≠ "java/lang/invoke/VarHandle") {argsL rest : List Value} (K : Ctr l Z y bytes ml ret rm argsL.toArray h Q') {ps : List FieldType} {r : Option FieldType} (hpd : parseMethodDescriptor y.desc = some ⟨ps, r⟩) (hlen : argsL.length = ps.length)
    {pc : Nat} {Ls : Array Slot} (hsz : Ls.size = c.maxLocals) {W : Nat} (hW : (rest.map fun v => v.category).sum = W) (hf : rm.frames + 1 ≤ R.frames) (hl : W + (ml + 11) + rm.locals ≤ R.locals) (hc : cells + rm.cells ≤ R.cells) (hs : slots + rm.slots ≤ R.slots)
    (hd : decode c.code pc = .ok (.invokestatic index, 3)) {st : List Value} (hst : st = argsL.reverse ++ rest)
    (kk : ∀ (T' : State) (v : Option Value) (L : List Loc), Stand p l e R s m args below meth c T' (locs ++ L) (cells + rm.cells) (slots + rm.slots) → Q' v T'.heap L → Run p e below s Q k n (T'.setTop (mkF m (pc + 3) Ls (v.toList ++ rest)))) :
    Run p e below s Q k n (T.setTop (mkF m pc Ls st)) := by
  obtain ⟨v, _, ⟨T', L', k', n'⟩, -, X', ⟨L, hQ, l1, y1, z1⟩, st1⟩ := Jvm.LawKit.callS X hx (y := y) hown (mvT hZ w1) (mvT hZ w2) (mvT hZ w3) (mvT hZ w4) hy (K.back hZ w4 w3 hf hl) (g := mkF m pc Ls st) rfl hsz (argsL := argsL) (rest := rest) (lenOf hpd hlen) hst (by show 2 * 0 + _ ≤ _; rw [hW]; omega) hd (fun _ _ => ⟨rfl, eT, hc, hs⟩)
  dsimp only [Pt.U, Pt.locs, Pt.cells, Pt.slots] at X' l1 y1 z1 st1 hQ
  subst l1 y1 z1
  exact Run.st st1 (kk T' v L X' hQ)
theorem Run.callC (X : Stand p l e R s m args below meth c T locs cells slots) (hx : p.tables.exec = Jvm.exec) (hZ : Z.Warmed39 s.vm) (eT : T.heap = h) {own : String} {index : Nat} {y : MethodName} {bytes : ByteArray} {ml : Nat} {rm : Room}
    (hown : s.vm.findClass own = some m.cls) (hy1 : y.name = "<init>") (w1 : (Jvm.Cond.methodLink own index y).before a0 Z = true) (w2 : (Jvm.Cond.instanceMethod y).before a0 Z = true) (w3 : (Jvm.Cond.initialized y.cls).before a0 Z = true) (w4 : (Jvm.Cond.code y bytes ml none).before a0 Z = true)
    (hy : y.cls ≠ "java/lang/invoke/MethodHandle" ∧ y.cls ≠ "java/lang/invoke/VarHandle") {a : Addr} {argsL rest : List Value} (K : Ctr l Z y bytes ml none rm (.ref a :: argsL).toArray h Q') {ps : List FieldType} {r : Option FieldType} (hpd : parseMethodDescriptor y.desc = some ⟨ps, r⟩) (hlen : argsL.length = ps.length)
    {pc : Nat} {Ls : Array Slot} (hsz : Ls.size = c.maxLocals) {W : Nat} (hW : (rest.map fun v => v.category).sum = W) (hf : rm.frames + 1 ≤ R.frames) (hl : W + (ml + 11) + rm.locals ≤ R.locals) (hc : cells + rm.cells ≤ R.cells) (hs : slots + rm.slots ≤ R.slots)
    (hd : decode c.code pc = .ok (.invokespecial index, 3)) {st : List Value} (hst : st = argsL.reverse ++ .ref a :: rest)
    (kk : ∀ (T' : State) (v : Option Value) (L : List Loc), Stand p l e R s m args below meth c T' (locs ++ L) (cells + rm.cells) (slots + rm.slots) → Q' v T'.heap L → Run p e below s Q k n (T'.setTop (mkF m (pc + 3) Ls (v.toList ++ rest)))) :
    Run p e below s Q k n (T.setTop (mkF m pc Ls st)) := by
  obtain ⟨v, _, ⟨T', L', k', n'⟩, -, X', ⟨L, hQ, l1, y1, z1⟩, st1⟩ := X.specialBack hx (y := y) hy1 hown (mvT hZ w1) (mvT hZ w2) (mvT hZ w4) hy (K.back hZ w4 w3 hf hl) (g := mkF m pc Ls st) rfl hsz (Steps.refl _) (a := a) (argsL := argsL) (rest := rest) (lenOf hpd hlen) hst (by show 2 * 0 + _ ≤ _; rw [hW]; omega) hd (fun _ _ => ⟨rfl, eT, hc, hs⟩)
  dsimp only [Pt.U, Pt.locs, Pt.cells, Pt.slots] at X' l1 y1 z1 st1 hQ
  subst l1 y1 z1
  exact Run.st (fun t q => st1.trans q) (kk T' v L X' hQ)
/-- 'invokevirtual', the body that the receiver's class selects -/
theorem Run.callV (X : Stand p l e R s m args below meth c T locs cells slots) (hx : p.tables.exec = Jvm.exec) (hZ : Z.Warmed39 s.vm) (eT : T.heap = h) {own C : String} {index : Nat} {y z : MethodName} {bytes : ByteArray} {ml : Nat} {ret : Option FieldType} {rm : Room}
    (hown : s.vm.findClass own = some m.cls) (w1 : (Jvm.Cond.methodLink own index y).before a0 Z = true) (w2 : (Jvm.Cond.declares y).before a0 Z = true) (hnf : NotFace s y) (w5 : (Jvm.Cond.selects C y z).before a0 Z = true) (w6 : (Jvm.Cond.instanceMethod z).before a0 Z = true) (w3 : (Jvm.Cond.initialized z.cls).before a0 Z = true) (w4 : (Jvm.Cond.code z bytes ml ret).before a0 Z = true)
    (hy : y.cls ≠ "java/lang/invoke/MethodHandle" ∧ y.cls ≠ "java/lang/invoke/VarHandle") {a : Addr} (E : Exa Z h a C) {argsL rest : List Value} (K : Ctr l Z z bytes ml ret rm (.ref a :: argsL).toArray h Q') {ps : List FieldType} {r : Option FieldType} (hpd : parseMethodDescriptor y.desc = some ⟨ps, r⟩) (hlen : argsL.length = ps.length)
    {pc : Nat} {Ls : Array Slot} (hsz : Ls.size = c.maxLocals) {W : Nat} (hW : (rest.map fun v => v.category).sum = W) (hf : rm.frames + 1 ≤ R.frames) (hl : W + (ml + 11) + rm.locals ≤ R.locals) (hc : cells + rm.cells ≤ R.cells) (hs : slots + rm.slots ≤ R.slots)
    (hd : decode c.code pc = .ok (.invokevirtual index, 3)) {st : List Value} (hst : st = argsL.reverse ++ .ref a :: rest)
    (kk : ∀ (T' : State) (v : Option Value) (L : List Loc), Stand p l e R s m args below meth c T' (locs ++ L) (cells + rm.cells) (slots + rm.slots) → Q' v T'.heap L → Run p e below s Q k n (T'.setTop (mkF m (pc + 3) Ls (v.toList ++ rest)))) :
    Run p e below s Q k n (T.setTop (mkF m pc Ls st)) := by
  obtain ⟨cq, kq, qa, qb, qc⟩ := isOf hZ eT E
  obtain ⟨v, _, ⟨T', L', k', n'⟩, -, X', ⟨L, hQ, l1, y1, z1⟩, st1⟩ := X.virtualBack hx (y := y) (z := z) hown (mvT hZ w1) (mvT hZ w2) hnf (mvT hZ w5) (mvT hZ w6) hy (K.back hZ w4 w3 hf hl) qa qc (g := mkF m pc Ls st) rfl hsz (Steps.refl _) (argsL := argsL) (rest := rest) (lenOf hpd hlen) hst (by show 2 * 0 + _ ≤ _; rw [hW]; omega) hd (fun _ _ => ⟨rfl, eT, hc, hs⟩)
  dsimp only [Pt.U, Pt.locs, Pt.cells, Pt.slots] at X' l1 y1 z1 st1 hQ
  subst l1 y1 z1
  exact Run.st (fun t q => st1.trans q) (kk T' v L X' hQ)
theorem Run.init (X : Stand p l e R s m args below meth c T locs cells slots) (hx : p.tables.exec = Jvm.exec) (hZ : Z.Warmed39 s.vm) (eT : T.heap = h) {own : String} {idx : Nat} (hown : s.vm.findClass own = some m.cls) (w1 : (Jvm.Cond.methodLink own idx Lib.objectInit).before a0 Z = true) (w2 : (Jvm.Cond.instanceMethod Lib.objectInit).before a0 Z = true)
    (w3 : (Jvm.Cond.code Lib.objectInit ⟨#[0xb1]⟩ 1 none).before a0 Z = true) {pc : Nat} {Ls : Array Slot} (hsz : Ls.size = c.maxLocals) {a : Addr} {rest : List Value} (hd : decode c.code pc = .ok (.invokespecial idx, 3)) (hf : 1 ≤ R.frames) {W : Nat} (hW : (rest.map fun v => v.category).sum = W) (hl : W + 12 ≤ R.locals)
    (kk : ∀ (T' : State), Stand p l e R s m args below meth c T' locs cells slots → T'.heap = h → Run p e below s Q k n (T'.setTop (mkF m (pc + 3) Ls rest))) :
    Run p e below s Q k n (T.setTop (mkF m pc Ls (.ref a :: rest))) := by
  obtain ⟨T', X', e', st'⟩ := initO X hx hZ hown w1 w2 w3 eT (g := mkF m pc Ls (.ref a :: rest)) rfl hsz rfl hd hf (W := W) (by show 2 * 0 + _ ≤ _; rw [hW]; omega) hl
  exact Run.st st' (kk T' X' e')
theorem Run.irem (X : Stand p l e R s m args below meth c T locs cells slots) (hx : p.tables.exec = Jvm.exec) {pc : Nat} {Ls : Array Slot} {x y : Int32} {rest : List Value} (hd : decode c.code pc = .ok (.irem, 1)) (hy : y ≠ 0) (r : Run p e below s Q k n (T.setTop (mkF m (pc + 1) Ls (.int (x % y) :: rest)))) :
    Run p e below s Q k n (T.setTop (mkF m pc Ls (.int y :: .int x :: rest))) := Run.st (fun t q => iremM (g := mkF m pc Ls (.int y :: .int x :: rest)) X hx rfl hd rfl hy q) r
theorem Run.lrem (X : Stand p l e R s m args below meth c T locs cells slots) (hx : p.tables.exec = Jvm.exec) {pc : Nat} {Ls : Array Slot} {x y : Int64} {rest : List Value} (hd : decode c.code pc = .ok (.lrem, 1)) (hy : y ≠ 0) (r : Run p e below s Q k n (T.setTop (mkF m (pc + 1) Ls (.long (x % y) :: rest)))) :
    Run p e below s Q k n (T.setTop (mkF m pc Ls (.long y :: .long x :: rest))) := by
  rw [← lrem_mod] at r
  exact Run.st (fun t q => XS.lrem (g := mkF m pc Ls (.long y :: .long x :: rest)) X.here hx rfl hd rfl hy q) r
theorem Run.x_iloadN (X : Stand p l e R s m args below meth c T locs cells slots) (hx : p.tables.exec = Jvm.exec) {pc q : Nat} {Ls : Array Slot} {S : List Value} {j : Fin 4} {v : Int32} (hd : decode c.code pc = .ok (.iload_n j, 1)) (hl : Ls[j.val]? = some (.val (.int v))) (hq : pc + 1 = q) (r : Run p e below s Q k n (T.setTop (mkF m q Ls (.int v :: S)))) : Run p e below s Q k n (T.setTop (mkF m pc Ls (S))) := by
  subst hq; exact Run.st (fun t kt => XS.iloadN X.here hx rfl hd hl kt) r
theorem Run.x_iload (X : Stand p l e R s m args below meth c T locs cells slots) (hx : p.tables.exec = Jvm.exec) {pc q : Nat} {Ls : Array Slot} {S : List Value} {j : Nat} {v : Int32} (hd : decode c.code pc = .ok (.iload j, 2)) (hl : Ls[j]? = some (.val (.int v))) (hq : pc + 2 = q) (r : Run p e below s Q k n (T.setTop (mkF m q Ls (.int v :: S)))) : Run p e below s Q k n (T.setTop (mkF m pc Ls (S))) := by
  subst hq; exact Run.st (fun t kt => XS.iload X.here hx rfl hd hl kt) r
theorem Run.x_lloadN (X : Stand p l e R s m args below meth c T locs cells slots) (hx : p.tables.exec = Jvm.exec) {pc q : Nat} {Ls : Array Slot} {S : List Value} {j : Fin 4} {v : Int64} (hd : decode c.code pc = .ok (.lload_n j, 1)) (hl : Ls[j.val]? = some (.val (.long v))) (hq : pc + 1 = q) (r : Run p e below s Q k n (T.setTop (mkF m q Ls (.long v :: S)))) : Run p e below s Q k n (T.setTop (mkF m pc Ls (S))) := by
  subst hq; exact Run.st (fun t kt => XS.lloadN X.here hx rfl hd hl kt) r
theorem Run.x_lload (X : Stand p l e R s m args below meth c T locs cells slots) (hx : p.tables.exec = Jvm.exec) {pc q : Nat} {Ls : Array Slot} {S : List Value} {j : Nat} {v : Int64} (hd : decode c.code pc = .ok (.lload j, 2)) (hl : Ls[j]? = some (.val (.long v))) (hq : pc + 2 = q) (r : Run p e below s Q k n (T.setTop (mkF m q Ls (.long v :: S)))) : Run p e below s Q k n (T.setTop (mkF m pc Ls (S))) := by
  subst hq; exact Run.st (fun t kt => XS.lload X.here hx rfl hd hl kt) r
theorem Run.x_aloadN (X : Stand p l e R s m args below meth c T locs cells slots) (hx : p.tables.exec = Jvm.exec) {pc q : Nat} {Ls : Array Slot} {S : List Value} {j : Fin 4} {v : Value} (hd : decode c.code pc = .ok (.aload_n j, 1)) (hl : Ls[j.val]? = some (.val v)) (hv : v.isRef = true) (hq : pc + 1 = q) (r : Run p e below s Q k n (T.setTop (mkF m q Ls (v :: S)))) : Run p e below s Q k n (T.setTop (mkF m pc Ls (S))) := by
  subst hq; exact Run.st (fun t kt => XS.aloadN X.here hx rfl hd hl hv kt) r
theorem Run.x_aload (X : Stand p l e R s m args below meth c T locs cells slots) (hx : p.tables.exec = Jvm.exec) {pc q : Nat} {Ls : Array Slot} {S : List Value} {j : Nat} {v : Value} (hd : decode c.code pc = .ok (.aload j, 2)) (hl : Ls[j]? = some (.val v)) (hv : v.isRef = true) (hq : pc + 2 = q) (r : Run p e below s Q k n (T.setTop (mkF m q Ls (v :: S)))) : Run p e below s Q k n (T.setTop (mkF m pc Ls (S))) := by
  subst hq; exact Run.st (fun t kt => XS.aload X.here hx rfl hd hl hv kt) r
theorem Run.x_istoreN (X : Stand p l e R s m args below meth c T locs cells slots) (hx : p.tables.exec = Jvm.exec) {pc q : Nat} {Ls : Array Slot} {S : List Value} {j : Fin 4} {v : Int32} (L' : Array Slot) (hd : decode c.code pc = .ok (.istore_n j, 1)) (hl : storeLocals Ls j.val (.int v) = some L') (hq : pc + 1 = q) (r : Run p e below s Q k n (T.setTop (mkF m q L' (S)))) : Run p e below s Q k n (T.setTop (mkF m pc Ls (.int v :: S))) := by
  subst hq; exact Run.st (fun t kt => XS.istoreN X.here hx rfl hd rfl hl kt) r
theorem Run.x_istore (X : Stand p l e R s m args below meth c T locs cells slots) (hx : p.tables.exec = Jvm.exec) {pc q : Nat} {Ls : Array Slot} {S : List Value} {j : Nat} {v : Int32} (L' : Array Slot) (hd : decode c.code pc = .ok (.istore j, 2)) (hl : storeLocals Ls j (.int v) = some L') (hq : pc + 2 = q) (r : Run p e below s Q k n (T.setTop (mkF m q L' (S)))) : Run p e below s Q k n (T.setTop (mkF m pc Ls (.int v :: S))) := by
  subst hq; exact Run.st (fun t kt => XS.istore X.here hx rfl hd rfl hl kt) r
theorem Run.x_lstoreN (X : Stand p l e R s m args below meth c T locs cells slots) (hx : p.tables.exec = Jvm.exec) {pc q : Nat} {Ls : Array Slot} {S : List Value} {j : Fin 4} {v : Int64} (L' : Array Slot) (hd : decode c.code pc = .ok (.lstore_n j, 1)) (hl : storeLocals Ls j.val (.long v) = some L') (hq : pc + 1 = q) (r : Run p e below s Q k n (T.setTop (mkF m q L' (S)))) : Run p e below s Q k n (T.setTop (mkF m pc Ls (.long v :: S))) := by
  subst hq; exact Run.st (fun t kt => XS.lstoreN X.here hx rfl hd rfl hl kt) r
theorem Run.x_lstore (X : Stand p l e R s m args below meth c T locs cells slots) (hx : p.tables.exec = Jvm.exec) {pc q : Nat} {Ls : Array Slot} {S : List Value} {j : Nat} {v : Int64} (L' : Array Slot) (hd : decode c.code pc = .ok (.lstore j, 2)) (hl : storeLocals Ls j (.long v) = some L') (hq : pc + 2 = q) (r : Run p e below s Q k n (T.setTop (mkF m q L' (S)))) : Run p e below s Q k n (T.setTop (mkF m pc Ls (.long v :: S))) := by
  subst hq; exact Run.st (fun t kt => XS.lstore X.here hx rfl hd rfl hl kt) r
theorem Run.x_astoreN (X : Stand p l e R s m args below meth c T locs cells slots) (hx : p.tables.exec = Jvm.exec) {pc q : Nat} {Ls : Array Slot} {S : List Value} {j : Fin 4} {v : Value} (L' : Array Slot) (hd : decode c.code pc = .ok (.astore_n j, 1)) (hv : v.isRef = true) (hl : storeLocals Ls j.val v = some L') (hq : pc + 1 = q) (r : Run p e below s Q k n (T.setTop (mkF m q L' (S)))) : Run p e below s Q k n (T.setTop (mkF m pc Ls (v :: S))) := by
  subst hq; exact Run.st (fun t kt => XS.astoreN X.here hx rfl hd rfl hv hl kt) r
theorem Run.x_astore (X : Stand p l e R s m args below meth c T locs cells slots) (hx : p.tables.exec = Jvm.exec) {pc q : Nat} {Ls : Array Slot} {S : List Value} {j : Nat} {v : Value} (L' : Array Slot) (hd : decode c.code pc = .ok (.astore j, 2)) (hv : v.isRef = true) (hl : storeLocals Ls j v = some L') (hq : pc + 2 = q) (r : Run p e below s Q k n (T.setTop (mkF m q L' (S)))) : Run p e below s Q k n (T.setTop (mkF m pc Ls (v :: S))) := by
  subst hq; exact Run.st (fun t kt => XS.astore X.here hx rfl hd rfl hv hl kt) r
theorem Run.x_iconst (X : Stand p l e R s m args below meth c T locs cells slots) (hx : p.tables.exec = Jvm.exec) {pc q : Nat} {Ls : Array Slot} {S : List Value} {i : Int} {z : Int32} (hd : decode c.code pc = .ok (.iconst i, 1)) (hz : Int32.ofInt i = z) (hq : pc + 1 = q) (r : Run p e below s Q k n (T.setTop (mkF m q Ls (.int z :: S)))) : Run p e below s Q k n (T.setTop (mkF m pc Ls (S))) := by
  subst hq; subst hz; exact Run.st (fun t kt => XS.iconst X.here hx rfl hd kt) r
theorem Run.x_bipush (X : Stand p l e R s m args below meth c T locs cells slots) (hx : p.tables.exec = Jvm.exec) {pc q : Nat} {Ls : Array Slot} {S : List Value} {i : Int} {z : Int32} (hd : decode c.code pc = .ok (.bipush i, 2)) (hz : (Int8.ofInt i).toInt32 = z) (hq : pc + 2 = q) (r : Run p e below s Q k n (T.setTop (mkF m q Ls (.int z :: S)))) : Run p e below s Q k n (T.setTop (mkF m pc Ls (S))) := by
  subst hq; subst hz; exact Run.st (fun t kt => XS.bipush X.here hx rfl hd kt) r
theorem Run.x_sipush (X : Stand p l e R s m args below meth c T locs cells slots) (hx : p.tables.exec = Jvm.exec) {pc q : Nat} {Ls : Array Slot} {S : List Value} {i : Int} {z : Int32} (hd : decode c.code pc = .ok (.sipush i, 3)) (hz : (Int16.ofInt i).toInt32 = z) (hq : pc + 3 = q) (r : Run p e below s Q k n (T.setTop (mkF m q Ls (.int z :: S)))) : Run p e below s Q k n (T.setTop (mkF m pc Ls (S))) := by
  subst hq; subst hz; exact Run.st (fun t kt => XS.sipush X.here hx rfl hd kt) r
theorem Run.x_lconst (X : Stand p l e R s m args below meth c T locs cells slots) (hx : p.tables.exec = Jvm.exec) {pc q : Nat} {Ls : Array Slot} {S : List Value} {i : Fin 2} {z : Int64} (hd : decode c.code pc = .ok (.lconst i, 1)) (hz : Int64.ofNat i = z) (hq : pc + 1 = q) (r : Run p e below s Q k n (T.setTop (mkF m q Ls (.long z :: S)))) : Run p e below s Q k n (T.setTop (mkF m pc Ls (S))) := by
  subst hq; subst hz; exact Run.st (fun t kt => XS.lconst X.here hx rfl hd kt) r
theorem Run.x_null (X : Stand p l e R s m args below meth c T locs cells slots) (hx : p.tables.exec = Jvm.exec) {pc q : Nat} {Ls : Array Slot} {S : List Value}  (hd : decode c.code pc = .ok (.aconst_null, 1)) (hq : pc + 1 = q) (r : Run p e below s Q k n (T.setTop (mkF m q Ls (.null :: S)))) : Run p e below s Q k n (T.setTop (mkF m pc Ls (S))) := by
  subst hq; exact Run.st (fun t kt => XS.aconstNull X.here hx rfl hd kt) r
theorem Run.x_iadd (X : Stand p l e R s m args below meth c T locs cells slots) (hx : p.tables.exec = Jvm.exec) {pc q : Nat} {Ls : Array Slot} {S : List Value} {x y z : Int32} (hd : decode c.code pc = .ok (.iadd, 1)) (hz : x + y = z) (hq : pc + 1 = q) (r : Run p e below s Q k n (T.setTop (mkF m q Ls (.int z :: S)))) : Run p e below s Q k n (T.setTop (mkF m pc Ls (.int y :: .int x :: S))) := by
  subst hq; subst hz; exact Run.st (fun t kt => XS.iadd X.here hx rfl hd rfl kt) r
theorem Run.x_ladd (X : Stand p l e R s m args below meth c T locs cells slots) (hx : p.tables.exec = Jvm.exec) {pc q : Nat} {Ls : Array Slot} {S : List Value} {x y z : Int64} (hd : decode c.code pc = .ok (.ladd, 1)) (hz : x + y = z) (hq : pc + 1 = q) (r : Run p e below s Q k n (T.setTop (mkF m q Ls (.long z :: S)))) : Run p e below s Q k n (T.setTop (mkF m pc Ls (.long y :: .long x :: S))) := by
  subst hq; subst hz; exact Run.st (fun t kt => XS.ladd X.here hx rfl hd rfl kt) r
theorem Run.x_isub (X : Stand p l e R s m args below meth c T locs cells slots) (hx : p.tables.exec = Jvm.exec) {pc q : Nat} {Ls : Array Slot} {S : List Value} {x y z : Int32} (hd : decode c.code pc = .ok (.isub, 1)) (hz : x - y = z) (hq : pc + 1 = q) (r : Run p e below s Q k n (T.setTop (mkF m q Ls (.int z :: S)))) : Run p e below s Q k n (T.setTop (mkF m pc Ls (.int y :: .int x :: S))) := by
  subst hq; subst hz; exact Run.st (fun t kt => XS.isub X.here hx rfl hd rfl kt) r
theorem Run.x_lsub (X : Stand p l e R s m args below meth c T locs cells slots) (hx : p.tables.exec = Jvm.exec) {pc q : Nat} {Ls : Array Slot} {S : List Value} {x y z : Int64} (hd : decode c.code pc = .ok (.lsub, 1)) (hz : x - y = z) (hq : pc + 1 = q) (r : Run p e below s Q k n (T.setTop (mkF m q Ls (.long z :: S)))) : Run p e below s Q k n (T.setTop (mkF m pc Ls (.long y :: .long x :: S))) := by
  subst hq; subst hz; exact Run.st (fun t kt => XS.lsub X.here hx rfl hd rfl kt) r
theorem Run.x_imul (X : Stand p l e R s m args below meth c T locs cells slots) (hx : p.tables.exec = Jvm.exec) {pc q : Nat} {Ls : Array Slot} {S : List Value} {x y z : Int32} (hd : decode c.code pc = .ok (.imul, 1)) (hz : x * y = z) (hq : pc + 1 = q) (r : Run p e below s Q k n (T.setTop (mkF m q Ls (.int z :: S)))) : Run p e below s Q k n (T.setTop (mkF m pc Ls (.int y :: .int x :: S))) := by
  subst hq; subst hz; exact Run.st (fun t kt => XS.imul X.here hx rfl hd rfl kt) r
theorem Run.x_lmul (X : Stand p l e R s m args below meth c T locs cells slots) (hx : p.tables.exec = Jvm.exec) {pc q : Nat} {Ls : Array Slot} {S : List Value} {x y z : Int64} (hd : decode c.code pc = .ok (.lmul, 1)) (hz : x * y = z) (hq : pc + 1 = q) (r : Run p e below s Q k n (T.setTop (mkF m q Ls (.long z :: S)))) : Run p e below s Q k n (T.setTop (mkF m pc Ls (.long y :: .long x :: S))) := by
  subst hq; subst hz; exact Run.st (fun t kt => XS.lmul X.here hx rfl hd rfl kt) r
theorem Run.x_iand (X : Stand p l e R s m args below meth c T locs cells slots) (hx : p.tables.exec = Jvm.exec) {pc q : Nat} {Ls : Array Slot} {S : List Value} {x y z : Int32} (hd : decode c.code pc = .ok (.iand, 1)) (hz : x &&& y = z) (hq : pc + 1 = q) (r : Run p e below s Q k n (T.setTop (mkF m q Ls (.int z :: S)))) : Run p e below s Q k n (T.setTop (mkF m pc Ls (.int y :: .int x :: S))) := by
  subst hq; subst hz; exact Run.st (fun t kt => XS.iand X.here hx rfl hd rfl kt) r
theorem Run.x_land (X : Stand p l e R s m args below meth c T locs cells slots) (hx : p.tables.exec = Jvm.exec) {pc q : Nat} {Ls : Array Slot} {S : List Value} {x y z : Int64} (hd : decode c.code pc = .ok (.land, 1)) (hz : x &&& y = z) (hq : pc + 1 = q) (r : Run p e below s Q k n (T.setTop (mkF m q Ls (.long z :: S)))) : Run p e below s Q k n (T.setTop (mkF m pc Ls (.long y :: .long x :: S))) := by
  subst hq; subst hz; exact Run.st (fun t kt => XS.land X.here hx rfl hd rfl kt) r
theorem Run.x_ior (X : Stand p l e R s m args below meth c T locs cells slots) (hx : p.tables.exec = Jvm.exec) {pc q : Nat} {Ls : Array Slot} {S : List Value} {x y z : Int32} (hd : decode c.code pc = .ok (.ior, 1)) (hz : x ||| y = z) (hq : pc + 1 = q) (r : Run p e below s Q k n (T.setTop (mkF m q Ls (.int z :: S)))) : Run p e below s Q k n (T.setTop (mkF m pc Ls (.int y :: .int x :: S))) := by
  subst hq; subst hz; exact Run.st (fun t kt => XS.ior X.here hx rfl hd rfl kt) r
theorem Run.x_lor (X : Stand p l e R s m args below meth c T locs cells slots) (hx : p.tables.exec = Jvm.exec) {pc q : Nat} {Ls : Array Slot} {S : List Value} {x y z : Int64} (hd : decode c.code pc = .ok (.lor, 1)) (hz : x ||| y = z) (hq : pc + 1 = q) (r : Run p e below s Q k n (T.setTop (mkF m q Ls (.long z :: S)))) : Run p e below s Q k n (T.setTop (mkF m pc Ls (.long y :: .long x :: S))) := by
  subst hq; subst hz; exact Run.st (fun t kt => XS.lor X.here hx rfl hd rfl kt) r
theorem Run.x_ixor (X : Stand p l e R s m args below meth c T locs cells slots) (hx : p.tables.exec = Jvm.exec) {pc q : Nat} {Ls : Array Slot} {S : List Value} {x y z : Int32} (hd : decode c.code pc = .ok (.ixor, 1)) (hz : x ^^^ y = z) (hq : pc + 1 = q) (r : Run p e below s Q k n (T.setTop (mkF m q Ls (.int z :: S)))) : Run p e below s Q k n (T.setTop (mkF m pc Ls (.int y :: .int x :: S))) := by
  subst hq; subst hz; exact Run.st (fun t kt => XS.ixor X.here hx rfl hd rfl kt) r
theorem Run.x_lxor (X : Stand p l e R s m args below meth c T locs cells slots) (hx : p.tables.exec = Jvm.exec) {pc q : Nat} {Ls : Array Slot} {S : List Value} {x y z : Int64} (hd : decode c.code pc = .ok (.lxor, 1)) (hz : x ^^^ y = z) (hq : pc + 1 = q) (r : Run p e below s Q k n (T.setTop (mkF m q Ls (.long z :: S)))) : Run p e below s Q k n (T.setTop (mkF m pc Ls (.long y :: .long x :: S))) := by
  subst hq; subst hz; exact Run.st (fun t kt => XS.lxor X.here hx rfl hd rfl kt) r
theorem Run.x_ishl (X : Stand p l e R s m args below meth c T locs cells slots) (hx : p.tables.exec = Jvm.exec) {pc q : Nat} {Ls : Array Slot} {S : List Value} {x y z : Int32} (hd : decode c.code pc = .ok (.ishl, 1)) (hz : x <<< (y &&& 31) = z) (hq : pc + 1 = q) (r : Run p e below s Q k n (T.setTop (mkF m q Ls (.int z :: S)))) : Run p e below s Q k n (T.setTop (mkF m pc Ls (.int y :: .int x :: S))) := by
  subst hq; subst hz; exact Run.st (fun t kt => XS.ishl X.here hx rfl hd rfl kt) r
theorem Run.x_ishr (X : Stand p l e R s m args below meth c T locs cells slots) (hx : p.tables.exec = Jvm.exec) {pc q : Nat} {Ls : Array Slot} {S : List Value} {x y z : Int32} (hd : decode c.code pc = .ok (.ishr, 1)) (hz : x >>> (y &&& 31) = z) (hq : pc + 1 = q) (r : Run p e below s Q k n (T.setTop (mkF m q Ls (.int z :: S)))) : Run p e below s Q k n (T.setTop (mkF m pc Ls (.int y :: .int x :: S))) := by
  subst hq; subst hz; exact Run.st (fun t kt => XS.ishr X.here hx rfl hd rfl kt) r
theorem Run.x_iushr (X : Stand p l e R s m args below meth c T locs cells slots) (hx : p.tables.exec = Jvm.exec) {pc q : Nat} {Ls : Array Slot} {S : List Value} {x y z : Int32} (hd : decode c.code pc = .ok (.iushr, 1)) (hz : (x.toUInt32 >>> (y &&& 31).toUInt32).toInt32 = z) (hq : pc + 1 = q) (r : Run p e below s Q k n (T.setTop (mkF m q Ls (.int z :: S)))) : Run p e below s Q k n (T.setTop (mkF m pc Ls (.int y :: .int x :: S))) := by
  subst hq; subst hz; exact Run.st (fun t kt => XS.iushr X.here hx rfl hd rfl kt) r
theorem Run.x_lshl (X : Stand p l e R s m args below meth c T locs cells slots) (hx : p.tables.exec = Jvm.exec) {pc q : Nat} {Ls : Array Slot} {S : List Value} {x z : Int64} {y : Int32} (hd : decode c.code pc = .ok (.lshl, 1)) (hz : x <<< (y &&& 0x3f).toInt64 = z) (hq : pc + 1 = q) (r : Run p e below s Q k n (T.setTop (mkF m q Ls (.long z :: S)))) : Run p e below s Q k n (T.setTop (mkF m pc Ls (.int y :: .long x :: S))) := by
  subst hq; subst hz; exact Run.st (fun t kt => XS.lshl X.here hx rfl hd rfl kt) r
theorem Run.x_lshr (X : Stand p l e R s m args below meth c T locs cells slots) (hx : p.tables.exec = Jvm.exec) {pc q : Nat} {Ls : Array Slot} {S : List Value} {x z : Int64} {y : Int32} (hd : decode c.code pc = .ok (.lshr, 1)) (hz : x >>> (y &&& 0x3f).toInt64 = z) (hq : pc + 1 = q) (r : Run p e below s Q k n (T.setTop (mkF m q Ls (.long z :: S)))) : Run p e below s Q k n (T.setTop (mkF m pc Ls (.int y :: .long x :: S))) := by
  subst hq; subst hz; exact Run.st (fun t kt => XS.lshr X.here hx rfl hd rfl kt) r
theorem Run.x_lushr (X : Stand p l e R s m args below meth c T locs cells slots) (hx : p.tables.exec = Jvm.exec) {pc q : Nat} {Ls : Array Slot} {S : List Value} {x z : Int64} {y : Int32} (hd : decode c.code pc = .ok (.lushr, 1)) (hz : (x.toUInt64 >>> (y &&& 0x3f).toInt64.toUInt64).toInt64 = z) (hq : pc + 1 = q) (r : Run p e below s Q k n (T.setTop (mkF m q Ls (.long z :: S)))) : Run p e below s Q k n (T.setTop (mkF m pc Ls (.int y :: .long x :: S))) := by
  subst hq; subst hz; exact Run.st (fun t kt => XS.lushr X.here hx rfl hd rfl kt) r
theorem Run.x_ineg (X : Stand p l e R s m args below meth c T locs cells slots) (hx : p.tables.exec = Jvm.exec) {pc q : Nat} {Ls : Array Slot} {S : List Value} {x : Int32} {z : Int32} (hd : decode c.code pc = .ok (.ineg, 1)) (hz : -x = z) (hq : pc + 1 = q) (r : Run p e below s Q k n (T.setTop (mkF m q Ls (.int z :: S)))) : Run p e below s Q k n (T.setTop (mkF m pc Ls (.int x :: S))) := by
  subst hq; subst hz; exact Run.st (fun t kt => XS.ineg X.here hx rfl hd rfl kt) r
theorem Run.x_lneg (X : Stand p l e R s m args below meth c T locs cells slots) (hx : p.tables.exec = Jvm.exec) {pc q : Nat} {Ls : Array Slot} {S : List Value} {x : Int64} {z : Int64} (hd : decode c.code pc = .ok (.lneg, 1)) (hz : -x = z) (hq : pc + 1 = q) (r : Run p e below s Q k n (T.setTop (mkF m q Ls (.long z :: S)))) : Run p e below s Q k n (T.setTop (mkF m pc Ls (.long x :: S))) := by
  subst hq; subst hz; exact Run.st (fun t kt => XS.lneg X.here hx rfl hd rfl kt) r
theorem Run.x_i2l (X : Stand p l e R s m args below meth c T locs cells slots) (hx : p.tables.exec = Jvm.exec) {pc q : Nat} {Ls : Array Slot} {S : List Value} {x : Int32} {z : Int64} (hd : decode c.code pc = .ok (.i2l, 1)) (hz : x.toInt64 = z) (hq : pc + 1 = q) (r : Run p e below s Q k n (T.setTop (mkF m q Ls (.long z :: S)))) : Run p e below s Q k n (T.setTop (mkF m pc Ls (.int x :: S))) := by
  subst hq; subst hz; exact Run.st (fun t kt => XS.i2l X.here hx rfl hd rfl kt) r
theorem Run.x_l2i (X : Stand p l e R s m args below meth c T locs cells slots) (hx : p.tables.exec = Jvm.exec) {pc q : Nat} {Ls : Array Slot} {S : List Value} {x : Int64} {z : Int32} (hd : decode c.code pc = .ok (.l2i, 1)) (hz : x.toInt32 = z) (hq : pc + 1 = q) (r : Run p e below s Q k n (T.setTop (mkF m q Ls (.int z :: S)))) : Run p e below s Q k n (T.setTop (mkF m pc Ls (.long x :: S))) := by
  subst hq; subst hz; exact Run.st (fun t kt => XS.l2i X.here hx rfl hd rfl kt) r
theorem Run.x_i2b (X : Stand p l e R s m args below meth c T locs cells slots) (hx : p.tables.exec = Jvm.exec) {pc q : Nat} {Ls : Array Slot} {S : List Value} {x : Int32} {z : Int32} (hd : decode c.code pc = .ok (.i2b, 1)) (hz : x.toInt8.toInt32 = z) (hq : pc + 1 = q) (r : Run p e below s Q k n (T.setTop (mkF m q Ls (.int z :: S)))) : Run p e below s Q k n (T.setTop (mkF m pc Ls (.int x :: S))) := by
  subst hq; subst hz; exact Run.st (fun t kt => XS.i2b X.here hx rfl hd rfl kt) r
theorem Run.x_i2s (X : Stand p l e R s m args below meth c T locs cells slots) (hx : p.tables.exec = Jvm.exec) {pc q : Nat} {Ls : Array Slot} {S : List Value} {x : Int32} {z : Int32} (hd : decode c.code pc = .ok (.i2s, 1)) (hz : x.toInt16.toInt32 = z) (hq : pc + 1 = q) (r : Run p e below s Q k n (T.setTop (mkF m q Ls (.int z :: S)))) : Run p e below s Q k n (T.setTop (mkF m pc Ls (.int x :: S))) := by
  subst hq; subst hz; exact Run.st (fun t kt => XS.i2s X.here hx rfl hd rfl kt) r
theorem Run.x_i2c (X : Stand p l e R s m args below meth c T locs cells slots) (hx : p.tables.exec = Jvm.exec) {pc q : Nat} {Ls : Array Slot} {S : List Value} {x : Int32} {z : Int32} (hd : decode c.code pc = .ok (.i2c, 1)) (hz : x.toUInt32.toUInt16.toUInt32.toInt32 = z) (hq : pc + 1 = q) (r : Run p e below s Q k n (T.setTop (mkF m q Ls (.int z :: S)))) : Run p e below s Q k n (T.setTop (mkF m pc Ls (.int x :: S))) := by
  subst hq; subst hz; exact Run.st (fun t kt => XS.i2c X.here hx rfl hd rfl kt) r
theorem Run.x_lcmp (X : Stand p l e R s m args below meth c T locs cells slots) (hx : p.tables.exec = Jvm.exec) {pc q : Nat} {Ls : Array Slot} {S : List Value} {x y : Int64} (hd : decode c.code pc = .ok (.lcmp, 1)) (hq : pc + 1 = q) (r : Run p e below s Q k n (T.setTop (mkF m q Ls (.int (lcmpW x y) :: S)))) : Run p e below s Q k n (T.setTop (mkF m pc Ls (.long y :: .long x :: S))) := by
  subst hq; exact Run.st (fun t kt => XS.lcmp X.here hx rfl hd rfl kt) r
theorem Run.x_idiv (X : Stand p l e R s m args below meth c T locs cells slots) (hx : p.tables.exec = Jvm.exec) {pc q : Nat} {Ls : Array Slot} {S : List Value} {x y z : Int32} (hd : decode c.code pc = .ok (.idiv, 1)) (hy : y ≠ 0) (hz : x / y = z) (hq : pc + 1 = q) (r : Run p e below s Q k n (T.setTop (mkF m q Ls (.int z :: S)))) : Run p e below s Q k n (T.setTop (mkF m pc Ls (.int y :: .int x :: S))) := by
  subst hq; subst hz; exact Run.st (fun t kt => XS.idiv X.here hx rfl hd rfl hy kt) r
theorem Run.x_ldiv (X : Stand p l e R s m args below meth c T locs cells slots) (hx : p.tables.exec = Jvm.exec) {pc q : Nat} {Ls : Array Slot} {S : List Value} {x y z : Int64} (hd : decode c.code pc = .ok (.ldiv, 1)) (hy : y ≠ 0) (hz : x / y = z) (hq : pc + 1 = q) (r : Run p e below s Q k n (T.setTop (mkF m q Ls (.long z :: S)))) : Run p e below s Q k n (T.setTop (mkF m pc Ls (.long y :: .long x :: S))) := by
  subst hq; subst hz; exact Run.st (fun t kt => XS.ldiv X.here hx rfl hd rfl hy kt) r
theorem Run.x_irem (X : Stand p l e R s m args below meth c T locs cells slots) (hx : p.tables.exec = Jvm.exec) {pc q : Nat} {Ls : Array Slot} {S : List Value} {x y z : Int32} (hd : decode c.code pc = .ok (.irem, 1)) (hy : y ≠ 0) (hz : x % y = z) (hq : pc + 1 = q) (r : Run p e below s Q k n (T.setTop (mkF m q Ls (.int z :: S)))) : Run p e below s Q k n (T.setTop (mkF m pc Ls (.int y :: .int x :: S))) := by
  subst hq; subst hz; exact Run.st (fun t kt => iremM (g := mkF m pc Ls (.int y :: .int x :: S)) X hx rfl hd rfl hy kt) r
theorem Run.x_lrem (X : Stand p l e R s m args below meth c T locs cells slots) (hx : p.tables.exec = Jvm.exec) {pc q : Nat} {Ls : Array Slot} {S : List Value} {x y z : Int64} (hd : decode c.code pc = .ok (.lrem, 1)) (hy : y ≠ 0) (hz : x % y = z) (hq : pc + 1 = q) (r : Run p e below s Q k n (T.setTop (mkF m q Ls (.long z :: S)))) : Run p e below s Q k n (T.setTop (mkF m pc Ls (.long y :: .long x :: S))) := by
  subst hq; subst hz; rw [← lrem_mod] at r; exact Run.st (fun t kt => XS.lrem X.here hx rfl hd rfl hy kt) r
theorem Run.x_iinc (X : Stand p l e R s m args below meth c T locs cells slots) (hx : p.tables.exec = Jvm.exec) {pc q : Nat} {Ls : Array Slot} {S : List Value} {j : Nat} {i : Int} {x z : Int32} (L' : Array Slot) (hd : decode c.code pc = .ok (.iinc j i, 3)) (hl : Ls[j]? = some (.val (.int x))) (hz : x + Int32.ofInt i = z) (hl' : storeLocals Ls j (.int z) = some L') (hq : pc + 3 = q) (r : Run p e below s Q k n (T.setTop (mkF m q L' (S)))) : Run p e below s Q k n (T.setTop (mkF m pc Ls (S))) := by
  subst hq; subst hz; exact Run.st (fun t kt => XS.iinc X.here hx rfl hd hl hl' kt) r
theorem Run.x_dup (X : Stand p l e R s m args below meth c T locs cells slots) (hx : p.tables.exec = Jvm.exec) {pc q : Nat} {Ls : Array Slot} {S : List Value} {v : Value} (hd : decode c.code pc = .ok (.dup, 1)) (hc : v.category = 1) (hq : pc + 1 = q) (r : Run p e below s Q k n (T.setTop (mkF m q Ls (v :: v :: S)))) : Run p e below s Q k n (T.setTop (mkF m pc Ls (v :: S))) := by
  subst hq; exact Run.st (fun t kt => XS.dup X.here hx rfl hd rfl hc kt) r
theorem Run.x_dup_x1 (X : Stand p l e R s m args below meth c T locs cells slots) (hx : p.tables.exec = Jvm.exec) {pc q : Nat} {Ls : Array Slot} {S : List Value} {v w : Value} (hd : decode c.code pc = .ok (.dup_x1, 1)) (hc : v.category = 1) (hc' : w.category = 1) (hq : pc + 1 = q) (r : Run p e below s Q k n (T.setTop (mkF m q Ls (v :: w :: v :: S)))) : Run p e below s Q k n (T.setTop (mkF m pc Ls (v :: w :: S))) := by
  subst hq; exact Run.st (fun t kt => XS.dupX1 X.here hx rfl hd rfl hc hc' kt) r
theorem Run.x_dup2 (X : Stand p l e R s m args below meth c T locs cells slots) (hx : p.tables.exec = Jvm.exec) {pc q : Nat} {Ls : Array Slot} {S : List Value} {v w : Value} (hd : decode c.code pc = .ok (.dup2, 1)) (hc : v.category = 1) (hc' : w.category = 1) (hq : pc + 1 = q) (r : Run p e below s Q k n (T.setTop (mkF m q Ls (v :: w :: v :: w :: S)))) : Run p e below s Q k n (T.setTop (mkF m pc Ls (v :: w :: S))) := by
  subst hq; exact Run.st (fun t kt => XT.dup2 X.here hx rfl hd rfl hc hc' kt) r
theorem Run.x_pop (X : Stand p l e R s m args below meth c T locs cells slots) (hx : p.tables.exec = Jvm.exec) {pc q : Nat} {Ls : Array Slot} {S : List Value} {v : Value} (hd : decode c.code pc = .ok (.pop, 1)) (hc : v.category = 1) (hq : pc + 1 = q) (r : Run p e below s Q k n (T.setTop (mkF m q Ls (S)))) : Run p e below s Q k n (T.setTop (mkF m pc Ls (v :: S))) := by
  subst hq; exact Run.st (fun t kt => XS.pop X.here hx rfl hd rfl hc kt) r
theorem Run.x_goto (X : Stand p l e R s m args below meth c T locs cells slots) (hx : p.tables.exec = Jvm.exec) {pc q : Nat} {Ls : Array Slot} {S : List Value}  {o : Int} (hd : decode c.code pc = .ok (.goto o, 3)) (ho : 0 ≤ (pc : Int) + o) (hq : ((pc : Int) + o).toNat = q) (r : Run p e below s Q k n (T.setTop (mkF m q Ls (S)))) : Run p e below s Q k n (T.setTop (mkF m pc Ls (S))) :=
  Run.st (fun t kt => XS.goto X.here hx rfl (pc0 := pc) (pc' := q) rfl hd ho hq kt) r
theorem Run.x_ifYes (X : Stand p l e R s m args below meth c T locs cells slots) (hx : p.tables.exec = Jvm.exec) {pc q : Nat} {Ls : Array Slot} {S : List Value} {cd : ClassFile.Cond} {x : Int32} {o : Int} (hd : decode c.code pc = .ok (.ifCond cd o, 3)) (hc : ifCond.holds cd x = true) (ho : 0 ≤ (pc : Int) + o) (hq : ((pc : Int) + o).toNat = q) (r : Run p e below s Q k n (T.setTop (mkF m q Ls (S)))) : Run p e below s Q k n (T.setTop (mkF m pc Ls (.int x :: S))) :=
  Run.st (fun t kt => XS.ifYes X.here hx rfl (pc0 := pc) (pc' := q) rfl hd rfl hc ho hq kt) r
theorem Run.x_icmpYes (X : Stand p l e R s m args below meth c T locs cells slots) (hx : p.tables.exec = Jvm.exec) {pc q : Nat} {Ls : Array Slot} {S : List Value} {cd : ClassFile.Cond} {x y : Int32} {o : Int} (hd : decode c.code pc = .ok (.if_icmp cd o, 3)) (hc : if_icmp.holds cd x y = true) (ho : 0 ≤ (pc : Int) + o) (hq : ((pc : Int) + o).toNat = q) (r : Run p e below s Q k n (T.setTop (mkF m q Ls (S)))) : Run p e below s Q k n (T.setTop (mkF m pc Ls (.int y :: .int x :: S))) :=
  Run.st (fun t kt => XS.icmpYes X.here hx rfl (pc0 := pc) (pc' := q) rfl hd rfl hc ho hq kt) r
theorem Run.x_ifNo (X : Stand p l e R s m args below meth c T locs cells slots) (hx : p.tables.exec = Jvm.exec) {pc q : Nat} {Ls : Array Slot} {S : List Value} {cd : ClassFile.Cond} {x : Int32} {o : Int} (hd : decode c.code pc = .ok (.ifCond cd o, 3)) (hc : ifCond.holds cd x = false) (hq : pc + 3 = q) (r : Run p e below s Q k n (T.setTop (mkF m q Ls (S)))) : Run p e below s Q k n (T.setTop (mkF m pc Ls (.int x :: S))) := by
  subst hq; exact Run.st (fun t kt => XS.ifNo X.here hx rfl hd rfl hc kt) r
theorem Run.x_icmpNo (X : Stand p l e R s m args below meth c T locs cells slots) (hx : p.tables.exec = Jvm.exec) {pc q : Nat} {Ls : Array Slot} {S : List Value} {cd : ClassFile.Cond} {x y : Int32} {o : Int} (hd : decode c.code pc = .ok (.if_icmp cd o, 3)) (hc : if_icmp.holds cd x y = false) (hq : pc + 3 = q) (r : Run p e below s Q k n (T.setTop (mkF m q Ls (S)))) : Run p e below s Q k n (T.setTop (mkF m pc Ls (.int y :: .int x :: S))) := by
  subst hq; exact Run.st (fun t kt => XS.icmpNo X.here hx rfl hd rfl hc kt) r
/-- an array and all that it holds -/
def Ars (Z : State) (h : Heap) (a : Addr) (ty : FieldType) (vs : List Value) : Prop := ∃ c : Cell, Arr Z h a c ty ∧ c.slots.toList = vs
variable {a b : Addr} {ty : FieldType} {vs : List Value} {v : Value} {sl : Nat} {ws : List Addr}
theorem Ars.lt (A : Ars Z h a ty vs) : a < h.size := by obtain ⟨c, A, -⟩ := A; exact A.lt
theorem Ars.ext (A : Ars Z h a ty vs) (E : Ext h h') : Ars Z h' a ty vs := by obtain ⟨c, A, r⟩ := A; exact ⟨c, A.ext E, r⟩
theorem Ars.other (A : Ars Z h b ty vs) (W : Wr h h' a sl v) (q : b ≠ a) : Ars Z h' b ty vs := by obtain ⟨c, A, r⟩ := A; exact ⟨c, A.other W q, r⟩
theorem Ars.keep (A : Ars Z h a ty vs) (K : Keep h h' ws) (q : a ∉ ws) : Ars Z h' a ty vs := by obtain ⟨c, A, r⟩ := A; exact ⟨c, ⟨K.2.1 a c A.1 q, A.2⟩, r⟩
theorem Ars.same (A : Ars Z h a ty vs) (W : Wr h h' a sl v) : Ars Z h' a ty (vs.set sl v) := by
  obtain ⟨c, A, r⟩ := A
  exact ⟨_, A.same W, by subst r; simp [Cell.setSlot]⟩
theorem Ars.new {k : ClassId} {z : Int32} (A : Arr Z h a (newA k ty z) ty) : Ars Z h a ty (List.replicate z.toNatClampNeg (defaultValue ty)) := ⟨_, A, by simp [newA]⟩
theorem in_of {c : Cell} {j : Int32} {i : Nat} (e : c.slots.toList = vs) (hj : j.toInt = i) (hi : i < vs.length) : ¬ (j < 0 ∨ c.slots.size ≤ j.toNatClampNeg) ∧ j.toNatClampNeg = i := by
  have e2 : j.toNatClampNeg = i := by show j.toInt.toNat = i; rw [hj]; rfl
  have e3 : c.slots.size = vs.length := by rw [← e]; simp
  refine ⟨?_, e2⟩
  rw [e2, e3, Int32.lt_iff_toInt_lt, hj]
  have : (0 : Int32).toInt = 0 := rfl
  omega
theorem at_of {c : Cell} {j : Int32} {i : Nat} (e : c.slots.toList = vs) (hj : j.toInt = i) (hi : vs[i]? = some v) : ¬ (j < 0 ∨ c.slots.size ≤ j.toNatClampNeg) ∧ c.slots[j.toNatClampNeg]? = some v := by
  obtain ⟨q, e2⟩ := in_of e hj (List.getElem?_eq_some_iff.mp hi).1
  refine ⟨q, ?_⟩
  rw [e2, ← hi, ← e]; simp
theorem Run.newP (X : Stand p l e R s m args below meth c T locs cells slots) (hx : p.tables.exec = Jvm.exec) (hZ : Z.Warmed39 s.vm) (eT : T.heap = h) {aty : ArrayType} (w : (Jvm.Cond.arrayClass (newarray.typeOf aty)).before a0 Z = true) {pc : Nat} {Ls : Array Slot} {z : Int32} {rest : List Value} (hd : decode c.code pc = .ok (.newarray aty, 2))
    {len : Nat} (hz : ¬ z < 0) (hlen : z.toNatClampNeg = len) {cap : Nat} (hcap : len ≤ cap) (hb : cap * 8 ≤ 536870912) (hc : cells + 1 ≤ R.cells) (hl : slots + cap ≤ R.slots)
    (kk : ∀ (T' : State) (h' : Heap) (b : Addr), b = h.size → Stand p l e R s m args below meth c T' locs (cells + 1) (slots + cap) → T'.heap = h' → Ext h h' → Ars Z h' b (newarray.typeOf aty) (List.replicate len (defaultValue (newarray.typeOf aty))) → Run p e below s Q k n (T'.setTop (mkF m (pc + 2) Ls (.ref b :: rest)))) :
    Run p e below s Q k n (T.setTop (mkF m pc Ls (.int z :: rest))) := by
  obtain ⟨T', h', k', X', e', E', A', st'⟩ := RoadKit.newP X hx hZ w eT (g := mkF m pc Ls (.int z :: rest)) rfl hd rfl hz (cap := cap) (by rw [hlen]; exact hcap) hb hc hl
  have A2 := Ars.new A'
  rw [hlen] at A2
  exact Run.st st' (kk T' h' _ rfl X' e' E' A2)
theorem Run.newR (X : Stand p l e R s m args below meth c T locs cells slots) (hx : p.tables.exec = Jvm.exec) (hZ : Z.Warmed39 s.vm) (eT : T.heap = h) {own C : String} {index : Nat} (hown : s.vm.findClass own = some m.cls) (w1 : (Jvm.Cond.classLink own index C).before a0 Z = true) (w2 : (Jvm.Cond.arrayOver (.object C)).before a0 Z = true) {pc : Nat} {Ls : Array Slot} {z : Int32} {rest : List Value} (hd : decode c.code pc = .ok (.anewarray index, 3))
    {len : Nat} (hz : ¬ z < 0) (hlen : z.toNatClampNeg = len) {cap : Nat} (hcap : len ≤ cap) (hb : cap * 8 ≤ 536870912) (hc : cells + 1 ≤ R.cells) (hl : slots + cap ≤ R.slots)
    (kk : ∀ (T' : State) (h' : Heap) (b : Addr), b = h.size → Stand p l e R s m args below meth c T' locs (cells + 1) (slots + cap) → T'.heap = h' → Ext h h' → Ars Z h' b (.object C) (List.replicate len .null) → Run p e below s Q k n (T'.setTop (mkF m (pc + 3) Ls (.ref b :: rest)))) :
    Run p e below s Q k n (T.setTop (mkF m pc Ls (.int z :: rest))) := by
  obtain ⟨T', h', k', X', e', E', A', -, st'⟩ := RoadKit.newR X hx hZ hown w1 w2 eT (g := mkF m pc Ls (.int z :: rest)) rfl hd rfl hz (cap := cap) (by rw [hlen]; exact hcap) hb hc hl
  have A2 := Ars.new A'
  rw [hlen] at A2
  exact Run.st st' (kk T' h' _ rfl X' e' E' A2)
theorem Run.ldI (X : Stand p l e R s m args below meth c T locs cells slots) (hx : p.tables.exec = Jvm.exec) (hZ : Z.Warmed39 s.vm) (eT : T.heap = h) (A : Ars Z h a .int vs) {j : Int32} {i : Nat} (hj : j.toInt = i) (hi : vs[i]? = some v) {pc : Nat} {Ls : Array Slot} {rest : List Value} (hd : decode c.code pc = .ok (.iaload, 1))
    (r : Run p e below s Q k n (T.setTop (mkF m (pc + 1) Ls (v :: rest)))) : Run p e below s Q k n (T.setTop (mkF m pc Ls (.int j :: .ref a :: rest))) := by
  obtain ⟨cl, A, q⟩ := A
  obtain ⟨q1, q2⟩ := at_of q hj hi
  exact Run.st (fun t kt => X.iaload hx (j := j) (v := v) (by rw [eT]; exact A.1) (State.isArrayOf_alike hZ.alike A.2.1) A.2.2 q1 q2 (g := mkF m pc Ls (.int j :: .ref a :: rest)) rfl rfl hd _ kt) r
theorem Run.ldC (X : Stand p l e R s m args below meth c T locs cells slots) (hx : p.tables.exec = Jvm.exec) (hZ : Z.Warmed39 s.vm) (eT : T.heap = h) (A : Ars Z h a .char vs) {j : Int32} {i : Nat} (hj : j.toInt = i) (hi : vs[i]? = some v) {pc : Nat} {Ls : Array Slot} {rest : List Value} (hd : decode c.code pc = .ok (.caload, 1))
    (r : Run p e below s Q k n (T.setTop (mkF m (pc + 1) Ls (v :: rest)))) : Run p e below s Q k n (T.setTop (mkF m pc Ls (.int j :: .ref a :: rest))) := by
  obtain ⟨cl, A, q⟩ := A
  obtain ⟨q1, q2⟩ := at_of q hj hi
  exact Run.st (fun t kt => X.caload hx (j := j) (v := v) (by rw [eT]; exact A.1) (State.isArrayOf_alike hZ.alike A.2.1) A.2.2 q1 q2 (g := mkF m pc Ls (.int j :: .ref a :: rest)) rfl rfl hd _ kt) r
theorem Run.ldJ (X : Stand p l e R s m args below meth c T locs cells slots) (hx : p.tables.exec = Jvm.exec) (hZ : Z.Warmed39 s.vm) (eT : T.heap = h) (A : Ars Z h a .long vs) {j : Int32} {i : Nat} (hj : j.toInt = i) (hi : vs[i]? = some v) {pc : Nat} {Ls : Array Slot} {rest : List Value} (hd : decode c.code pc = .ok (.laload, 1))
    (r : Run p e below s Q k n (T.setTop (mkF m (pc + 1) Ls (v :: rest)))) : Run p e below s Q k n (T.setTop (mkF m pc Ls (.int j :: .ref a :: rest))) := by
  obtain ⟨cl, A, q⟩ := A
  obtain ⟨q1, q2⟩ := at_of q hj hi
  exact Run.st (fun t kt => X.laload hx (j := j) (v := v) (by rw [eT]; exact A.1) (State.isArrayOf_alike hZ.alike A.2.1) A.2.2 q1 q2 (g := mkF m pc Ls (.int j :: .ref a :: rest)) rfl rfl hd _ kt) r
theorem Run.ldB (X : Stand p l e R s m args below meth c T locs cells slots) (hx : p.tables.exec = Jvm.exec) (hZ : Z.Warmed39 s.vm) (eT : T.heap = h) (A : Ars Z h a .byte vs) {j : Int32} {i : Nat} (hj : j.toInt = i) (hi : vs[i]? = some v) {pc : Nat} {Ls : Array Slot} {rest : List Value} (hd : decode c.code pc = .ok (.baload, 1))
    (r : Run p e below s Q k n (T.setTop (mkF m (pc + 1) Ls (v :: rest)))) : Run p e below s Q k n (T.setTop (mkF m pc Ls (.int j :: .ref a :: rest))) := by
  obtain ⟨cl, A, q⟩ := A
  obtain ⟨q1, q2⟩ := at_of q hj hi
  exact Run.st (fun t kt => X.baloadBytes hx (j := j) (v := v) (by rw [eT]; exact A.1) (State.isArrayOf_alike hZ.alike A.2.1) A.2.2 q1 q2 (g := mkF m pc Ls (.int j :: .ref a :: rest)) rfl rfl hd _ kt) r
theorem Run.ldZ (X : Stand p l e R s m args below meth c T locs cells slots) (hx : p.tables.exec = Jvm.exec) (hZ : Z.Warmed39 s.vm) (eT : T.heap = h) (A : Ars Z h a .boolean vs) {j : Int32} {i : Nat} (hj : j.toInt = i) (hi : vs[i]? = some v) {pc : Nat} {Ls : Array Slot} {rest : List Value} (hd : decode c.code pc = .ok (.baload, 1))
    (r : Run p e below s Q k n (T.setTop (mkF m (pc + 1) Ls (v :: rest)))) : Run p e below s Q k n (T.setTop (mkF m pc Ls (.int j :: .ref a :: rest))) := by
  obtain ⟨cl, A, q⟩ := A
  obtain ⟨q1, q2⟩ := at_of q hj hi
  exact Run.st (fun t kt => X.baloadBooleans hx (j := j) (v := v) (by rw [eT]; exact A.1) (State.isArrayOf_alike hZ.alike A.2.1) A.2.2 q1 q2 (g := mkF m pc Ls (.int j :: .ref a :: rest)) rfl rfl hd _ kt) r
theorem Run.ldR (X : Stand p l e R s m args below meth c T locs cells slots) (hx : p.tables.exec = Jvm.exec) (hZ : Z.Warmed39 s.vm) (eT : T.heap = h) (A : Ars Z h a ty vs) {j : Int32} {i : Nat} (hj : j.toInt = i) (hi : vs[i]? = some v) (hty : ty.isReference = true) {pc : Nat} {Ls : Array Slot} {rest : List Value} (hd : decode c.code pc = .ok (.aaload, 1))
    (r : Run p e below s Q k n (T.setTop (mkF m (pc + 1) Ls (v :: rest)))) : Run p e below s Q k n (T.setTop (mkF m pc Ls (.int j :: .ref a :: rest))) := by
  obtain ⟨cl, A, q⟩ := A
  obtain ⟨q1, q2⟩ := at_of q hj hi
  exact Run.st (fun t kt => X.aaload hx (j := j) (v := v) (by rw [eT]; exact A.1) (State.isArrayOf_alike hZ.alike A.2.1) hty A.2.2 q1 q2 (g := mkF m pc Ls (.int j :: .ref a :: rest)) rfl rfl hd _ kt) r
theorem Run.alen (X : Stand p l e R s m args below meth c T locs cells slots) (hx : p.tables.exec = Jvm.exec) (hZ : Z.Warmed39 s.vm) (eT : T.heap = h) (A : Ars Z h a ty vs) {z : Int32} (hz : vs.length.toInt32 = z) {pc : Nat} {Ls : Array Slot} {rest : List Value} (hd : decode c.code pc = .ok (.arraylength, 1))
    (r : Run p e below s Q k n (T.setTop (mkF m (pc + 1) Ls (.int z :: rest)))) : Run p e below s Q k n (T.setTop (mkF m pc Ls (.ref a :: rest))) := by
  obtain ⟨cl, A, q⟩ := A
  have e1 : cl.slots.size.toInt32 = z := by rw [← hz, ← q]; simp
  rw [← e1] at r
  exact Run.st (fun t kt => X.arraylength hx (by rw [eT]; exact A.1) (State.isArrayOf_alike hZ.alike A.2.1) (g := mkF m pc Ls (.ref a :: rest)) rfl rfl hd _ kt) r
theorem Run.stI (X : Stand p l e R s m args below meth c T locs cells slots) (hx : p.tables.exec = Jvm.exec) (hZ : Z.Warmed39 s.vm) (eT : T.heap = h) (A : Ars Z h a .int vs) {j z : Int32} {i : Nat} (hj : j.toInt = i) (hi : i < vs.length) {pc : Nat} {Ls : Array Slot} {rest : List Value} (hd : decode c.code pc = .ok (.iastore, 1))
    (kk : ∀ (T' : State) (h' : Heap), Stand p l e R s m args below meth c T' (locs ++ [⟨a, i⟩]) cells slots → T'.heap = h' → Wr h h' a i (.int z) → Ars Z h' a .int (vs.set i (.int z)) → Run p e below s Q k n (T'.setTop (mkF m (pc + 1) Ls rest))) : Run p e below s Q k n (T.setTop (mkF m pc Ls (.int z :: .int j :: .ref a :: rest))) := by
  obtain ⟨cl, A1, q⟩ := id A
  obtain ⟨q1, q2⟩ := in_of q hj hi
  obtain ⟨T', h', X', e', W', st'⟩ := RoadKit.stI X hx hZ eT A1 (j := j) (x := z) q1 (g := mkF m pc Ls (.int z :: .int j :: .ref a :: rest)) rfl rfl hd
  rw [q2] at X' W'
  exact Run.st st' (kk T' h' X' e' W' (A.same W'))
theorem Run.stJ (X : Stand p l e R s m args below meth c T locs cells slots) (hx : p.tables.exec = Jvm.exec) (hZ : Z.Warmed39 s.vm) (eT : T.heap = h) (A : Ars Z h a .long vs) {j : Int32} {z : Int64} {i : Nat} (hj : j.toInt = i) (hi : i < vs.length) {pc : Nat} {Ls : Array Slot} {rest : List Value} (hd : decode c.code pc = .ok (.lastore, 1))
    (kk : ∀ (T' : State) (h' : Heap), Stand p l e R s m args below meth c T' (locs ++ [⟨a, i⟩]) cells slots → T'.heap = h' → Wr h h' a i (.long z) → Ars Z h' a .long (vs.set i (.long z)) → Run p e below s Q k n (T'.setTop (mkF m (pc + 1) Ls rest))) : Run p e below s Q k n (T.setTop (mkF m pc Ls (.long z :: .int j :: .ref a :: rest))) := by
  obtain ⟨cl, A1, q⟩ := id A
  obtain ⟨q1, q2⟩ := in_of q hj hi
  obtain ⟨T', h', X', e', W', st'⟩ := RoadKit.stJ X hx hZ eT A1 (j := j) (x := z) q1 (g := mkF m pc Ls (.long z :: .int j :: .ref a :: rest)) rfl rfl hd
  rw [q2] at X' W'
  exact Run.st st' (kk T' h' X' e' W' (A.same W'))
theorem Run.stC (X : Stand p l e R s m args below meth c T locs cells slots) (hx : p.tables.exec = Jvm.exec) (hZ : Z.Warmed39 s.vm) (eT : T.heap = h) (A : Ars Z h a .char vs) {j z : Int32} {i : Nat} (hj : j.toInt = i) (hi : i < vs.length) {z' : Int32} (hz : nar .char z = z') {pc : Nat} {Ls : Array Slot} {rest : List Value} (hd : decode c.code pc = .ok (.castore, 1))
    (kk : ∀ (T' : State) (h' : Heap), Stand p l e R s m args below meth c T' (locs ++ [⟨a, i⟩]) cells slots → T'.heap = h' → Wr h h' a i (.int z') → Ars Z h' a .char (vs.set i (.int z')) → Run p e below s Q k n (T'.setTop (mkF m (pc + 1) Ls rest))) : Run p e below s Q k n (T.setTop (mkF m pc Ls (.int z :: .int j :: .ref a :: rest))) := by
  obtain ⟨cl, A1, q⟩ := id A
  obtain ⟨q1, q2⟩ := in_of q hj hi
  obtain ⟨T', h', X', e', W', st'⟩ := RoadKit.stC X hx hZ eT A1 (j := j) (x := z) q1 (g := mkF m pc Ls (.int z :: .int j :: .ref a :: rest)) rfl rfl hd
  rw [q2] at X' W'
  rw [hz] at W'
  exact Run.st st' (kk T' h' X' e' W' (A.same W'))
theorem Run.stB (X : Stand p l e R s m args below meth c T locs cells slots) (hx : p.tables.exec = Jvm.exec) (hZ : Z.Warmed39 s.vm) (eT : T.heap = h) (A : Ars Z h a .byte vs) {j z : Int32} {i : Nat} (hj : j.toInt = i) (hi : i < vs.length) {z' : Int32} (hz : nar .byte z = z') {pc : Nat} {Ls : Array Slot} {rest : List Value} (hd : decode c.code pc = .ok (.bastore, 1))
    (kk : ∀ (T' : State) (h' : Heap), Stand p l e R s m args below meth c T' (locs ++ [⟨a, i⟩]) cells slots → T'.heap = h' → Wr h h' a i (.int z') → Ars Z h' a .byte (vs.set i (.int z')) → Run p e below s Q k n (T'.setTop (mkF m (pc + 1) Ls rest))) : Run p e below s Q k n (T.setTop (mkF m pc Ls (.int z :: .int j :: .ref a :: rest))) := by
  obtain ⟨cl, A1, q⟩ := id A
  obtain ⟨q1, q2⟩ := in_of q hj hi
  obtain ⟨T', h', X', e', W', st'⟩ := RoadKit.stB X hx hZ eT A1 (j := j) (x := z) q1 (g := mkF m pc Ls (.int z :: .int j :: .ref a :: rest)) rfl rfl hd
  rw [q2] at X' W'
  rw [hz] at W'
  exact Run.st st' (kk T' h' X' e' W' (A.same W'))
theorem Run.stZ (X : Stand p l e R s m args below meth c T locs cells slots) (hx : p.tables.exec = Jvm.exec) (hZ : Z.Warmed39 s.vm) (eT : T.heap = h) (A : Ars Z h a .boolean vs) {j z : Int32} {i : Nat} (hj : j.toInt = i) (hi : i < vs.length) {z' : Int32} (hz : nar .boolean z = z') {pc : Nat} {Ls : Array Slot} {rest : List Value} (hd : decode c.code pc = .ok (.bastore, 1))
    (kk : ∀ (T' : State) (h' : Heap), Stand p l e R s m args below meth c T' (locs ++ [⟨a, i⟩]) cells slots → T'.heap = h' → Wr h h' a i (.int z') → Ars Z h' a .boolean (vs.set i (.int z')) → Run p e below s Q k n (T'.setTop (mkF m (pc + 1) Ls rest))) : Run p e below s Q k n (T.setTop (mkF m pc Ls (.int z :: .int j :: .ref a :: rest))) := by
  obtain ⟨cl, A1, q⟩ := id A
  obtain ⟨q1, q2⟩ := in_of q hj hi
  obtain ⟨T', h', X', e', W', st'⟩ := RoadKit.stZ X hx hZ eT A1 (j := j) (x := z) q1 (g := mkF m pc Ls (.int z :: .int j :: .ref a :: rest)) rfl rfl hd
  rw [q2] at X' W'
  rw [hz] at W'
  exact Run.st st' (kk T' h' X' e' W' (A.same W'))
end Laws
theorem nar_b01 {z : Int32} (hz : z = 0 ∨ z = 1) : nar .boolean z = z := by rcases hz with rfl | rfl <;> decide
theorem nar_b (x : Int32) : nar .byte x.toInt8.toInt32 = x.toInt8.toInt32 := by
  show x.toInt8.toInt32.toInt8.toInt32 = x.toInt8.toInt32
  simp
theorem nar_c (x : Int32) : nar .char x.toUInt32.toUInt16.toUInt32.toInt32 = x.toUInt32.toUInt16.toUInt32.toInt32 := by
  show x.toUInt32.toUInt16.toUInt32.toInt32.toUInt32.toUInt16.toUInt32.toInt32 = _
  have q : ∀ y : UInt16, y.toUInt32.toInt32.toUInt32.toUInt16 = y := fun y => by simp
  rw [q]
theorem ints_at (xs : List Int32) {i : Nat} (h : i < xs.length) : ∃ x, (xs.map Value.int)[i]? = some (.int x) := ⟨xs[i], by simp [h]⟩
/-- 1 or 0 -/
def own_b (c : Prop) [Decidable c] : Int32 := if c then 1 else 0
theorem own_b1 {c : Prop} [Decidable c] (h : c) : own_b c = 1 := if_pos h
theorem own_b0 {c : Prop} [Decidable c] (h : ¬ c) : own_b c = 0 := if_neg h
theorem own_b01 (c : Prop) [Decidable c] : own_b c = 0 ∨ own_b c = 1 := by unfold own_b; split <;> simp
theorem sub_w (a b : Int32) : (a.toInt64 - b.toInt64).toInt = a.toInt - b.toInt := by
  have h1 := c_lsub a.toInt64 b.toInt64
  have h2 := rng64 (a.toInt64 - b.toInt64)
  have h3 := rng32 a
  have h4 := rng32 b
  rw [c_i2l, c_i2l] at h1
  omega
theorem lt32 (a b : Int32) : a < b ↔ a.toInt < b.toInt := Int32.lt_iff_toInt_lt
theorem lt64 (a b : Int64) : a < b ↔ a.toInt < b.toInt := Int64.lt_iff_toInt_lt
theorem eq32 (a b : Int32) : a = b ↔ a.toInt = b.toInt := Int32.toInt_inj.symm
theorem eq64 (a b : Int64) : a = b ↔ a.toInt = b.toInt := Int64.toInt_inj.symm
/-- an int comes back, nothing is touched -/
def PureI (h0 : Heap) (n0 : Nat) (z : Int32) (v : Option Value) (h : Heap) (L : List Loc) : Prop := v = some (.int z) ∧ Fr n0 L ∧ h = h0
def PureJ (h0 : Heap) (n0 : Nat) (z : Int64) (v : Option Value) (h : Heap) (L : List Loc) : Prop := v = some (.long z) ∧ Fr n0 L ∧ h = h0
def PureR (h0 : Heap) (n0 : Nat) (z : Value) (v : Option Value) (h : Heap) (L : List Loc) : Prop := v = some z ∧ Fr n0 L ∧ h = h0
theorem PureI.mk {h0 : Heap} {n0 : Nat} {z z' : Int32} {L : List Loc} (e : z' = z) (N : Fr n0 L) : PureI h0 n0 z (some (.int z')) h0 L := ⟨by rw [e], N, rfl⟩
theorem PureJ.mk {h0 : Heap} {n0 : Nat} {z z' : Int64} {L : List Loc} (e : z' = z) (N : Fr n0 L) : PureJ h0 n0 z (some (.long z')) h0 L := ⟨by rw [e], N, rfl⟩
/-- the law's own end -/
def Tru (n0 : Nat) (v : Option Value) (h : Heap) (L : List Loc) : Prop := v = some (.int 1) ∧ Fr n0 L
end Jvm.OwnRun
namespace Jvm.Pilot.@@N@@
open Jvm Jvm.ClassFile Sem Op Lib Jvm.Free Jvm.Stand Jvm.LawKit Jvm.RoadKit Jvm.OwnRun Bundle Jvm.Pilot.@@N@@.Jvm.D
def own_sel (p : Int32) (a1 a2 a3 a4 a5 a6 a7 a8 : Addr) : Addr := if p = 400 then a2 else if p = 401 then a1 else if p = 403 then a5 else if p = 404 then a6 else if p = 408 then a7 else if p = 413 then a8 else if p = 429 then a4 else if p = 503 then a4 else a3
theorem own_lits : (400 : Int32).toInt = 400 ∧ (401 : Int32).toInt = 401 ∧ (403 : Int32).toInt = 403 ∧ (404 : Int32).toInt = 404 ∧ (408 : Int32).toInt = 408 ∧ (413 : Int32).toInt = 413 ∧ (429 : Int32).toInt = 429 ∧ (503 : Int32).toInt = 503 := by decide
theorem d1_0 : decode prog_7_method_5_code 0 = .ok (.iload_n 0, 1) := by decide +kernel
theorem d1_1 : decode prog_7_method_5_code 1 = .ok (.lookupswitch 117 #[(400, 75), (401, 81), (403, 87), (404, 93), (408, 99), (413, 105), (429, 111), (503, 111)], 75) := by decide +kernel
theorem d1_76 : decode prog_7_method_5_code 76 = .ok (.getstatic 3, 3) := by decide +kernel
theorem d1_79 : decode prog_7_method_5_code 79 = .ok (.goto 42, 3) := by decide +kernel
theorem d1_82 : decode prog_7_method_5_code 82 = .ok (.getstatic 7, 3) := by decide +kernel
theorem d1_85 : decode prog_7_method_5_code 85 = .ok (.goto 36, 3) := by decide +kernel
theorem d1_88 : decode prog_7_method_5_code 88 = .ok (.getstatic 10, 3) := by decide +kernel
theorem d1_91 : decode prog_7_method_5_code 91 = .ok (.goto 30, 3) := by decide +kernel
theorem d1_94 : decode prog_7_method_5_code 94 = .ok (.getstatic 13, 3) := by decide +kernel
theorem d1_97 : decode prog_7_method_5_code 97 = .ok (.goto 24, 3) := by decide +kernel
theorem d1_100 : decode prog_7_method_5_code 100 = .ok (.getstatic 16, 3) := by decide +kernel
theorem d1_103 : decode prog_7_method_5_code 103 = .ok (.goto 18, 3) := by decide +kernel
theorem d1_106 : decode prog_7_method_5_code 106 = .ok (.getstatic 19, 3) := by decide +kernel
theorem d1_109 : decode prog_7_method_5_code 109 = .ok (.goto 12, 3) := by decide +kernel
theorem d1_112 : decode prog_7_method_5_code 112 = .ok (.getstatic 22, 3) := by decide +kernel
theorem d1_115 : decode prog_7_method_5_code 115 = .ok (.goto 6, 3) := by decide +kernel
theorem d1_118 : decode prog_7_method_5_code 118 = .ok (.getstatic 31, 3) := by decide +kernel
theorem d1_121 : decode prog_7_method_5_code 121 = .ok (.areturn, 1) := by decide +kernel
theorem pn_0 : plainName "com/example/deliverd/deliverd/Failure" = true := by first | (simp [plainName, overriddenIn]; done) | decide +kernel
theorem ef_c_of (m : MethodId) (p1 : Int32) : entryFrame m #[(.int p1)] 1 = mkF m 0 #[.val (.int p1)] [] := by first | (simp [entryFrame, mkF, argsToLocals, Value.category]; done) | rfl
set_option maxRecDepth 65536 in
set_option maxHeartbeats 40000000 in
theorem c_of (l : Launch) (Z : State) (a0 : Array Value) (hw : ∀ d ∈ tables_1, d.before a0 Z = true) (p1 : Int32) (h0 : Heap) (n0 : Nat) (Z0 : n0 ≤ h0.size) (a1 : Addr) (a2 : Addr) (a3 : Addr) (a4 : Addr) (a5 : Addr) (a6 : Addr) (a7 : Addr) (a8 : Addr) (S_UNAUTHORIZED : Sta Z h0 "com/example/deliverd/deliverd/Failure" "UNAUTHORIZED" "Lcom/example/deliverd/deliverd/Failure;" (.ref a1)) (S_BAD_REQUEST : Sta Z h0 "com/example/deliverd/deliverd/Failure" "BAD_REQUEST" "Lcom/example/deliverd/deliverd/Failure;" (.ref a2)) (S_FAILED : Sta Z h0 "com/example/deliverd/deliverd/Failure" "FAILED" "Lcom/example/deliverd/deliverd/Failure;" (.ref a3)) (S_BUSY : Sta Z h0 "com/example/deliverd/deliverd/Failure" "BUSY" "Lcom/example/deliverd/deliverd/Failure;" (.ref a4)) (S_FORBIDDEN : Sta Z h0 "com/example/deliverd/deliverd/Failure" "FORBIDDEN" "Lcom/example/deliverd/deliverd/Failure;" (.ref a5)) (S_NOT_FOUND : Sta Z h0 "com/example/deliverd/deliverd/Failure" "NOT_FOUND" "Lcom/example/deliverd/deliverd/Failure;" (.ref a6)) (S_TIMED_OUT : Sta Z h0 "com/example/deliverd/deliverd/Failure" "TIMED_OUT" "Lcom/example/deliverd/deliverd/Failure;" (.ref a7)) (S_PAYLOAD_TOO_LARGE : Sta Z h0 "com/example/deliverd/deliverd/Failure" "PAYLOAD_TOO_LARGE" "Lcom/example/deliverd/deliverd/Failure;" (.ref a8)) :
    Ctr l Z (⟨"com/example/deliverd/deliverd/Failure", "ofStatus", "(I)Lcom/example/deliverd/deliverd/Failure;"⟩ : MethodName) prog_7_method_5_code 1 (some (.object "com/example/deliverd/deliverd/Failure")) ({ frames := 0, cells := 0, slots := 0, locals := 0 } : Room) #[(.int p1)] h0 (PureR h0 n0 (.ref (own_sel p1 a1 a2 a3 a4 a5 a6 a7 a8))) := by
  refine Ctr.of (plainFor_of_name pn_0) (fun m => ef_c_of m p1) ?_
  intro p e s m below meth c T0 hx hby hml hown hnm hret hlk hZ e0 X0
  have N0 := Fr.nil n0
  replace hown : s.vm.findClass "com/example/deliverd/deliverd/Failure" = some m.cls := hown
  replace hml : c.maxLocals = 1 := hml
  refine Run.x_iloadN (q := 1) X0 hx (hb hby d1_0) rfl rfl ?_
  by_cases hk400 : p1 = 400
  · subst hk400
    refine Run.st (B := T0.setTop (mkF m 76 #[.val (.int (400 : Int32))] [])) (fun t kt => X0.lookupswitchHit hx (g := (mkF m 1 #[.val (.int (400 : Int32))] [(.int (400 : Int32))])) rfl rfl (hb hby d1_1) (by decide) (a := 400) (off := 75) (by decide +kernel) (by show (0 : Int) ≤ (1 : Nat) + 75; decide) t kt) ?_
    obtain ⟨T1, X1, e1, st1⟩ := getS2 X0 hx hZ hown (host := "") (Or.inl (hw _ (List.mem_of_getElem? (i := 12) rfl))) Via.refl e0 S_BAD_REQUEST (g := (mkF m 76 #[.val (.int (400 : Int32))] [])) rfl (hb hby d1_76)
    refine Run.st st1 ?_
    show Run p e below s _ _ _ (T1.setTop (mkF m 79 #[.val (.int (400 : Int32))] [(.ref a2)]))
    refine Run.x_goto (q := 121) X1 hx (hb hby d1_79) (by decide) (by decide) ?_
    refine Run.retA X1 hx hlk e1 (t := (.object "com/example/deliverd/deliverd/Failure")) hret rfl rfl rfl (hb hby d1_121) (by decide) (by decide) ?_
    exact ⟨by simp [own_sel], N0, rfl⟩
  · skip
    by_cases hk401 : p1 = 401
    · subst hk401
      refine Run.st (B := T0.setTop (mkF m 82 #[.val (.int (401 : Int32))] [])) (fun t kt => X0.lookupswitchHit hx (g := (mkF m 1 #[.val (.int (401 : Int32))] [(.int (401 : Int32))])) rfl rfl (hb hby d1_1) (by decide) (a := 401) (off := 81) (by decide +kernel) (by show (0 : Int) ≤ (1 : Nat) + 81; decide) t kt) ?_
      obtain ⟨T2, X2, e2, st2⟩ := getS2 X0 hx hZ hown (host := "") (Or.inl (hw _ (List.mem_of_getElem? (i := 5) rfl))) Via.refl e0 S_UNAUTHORIZED (g := (mkF m 82 #[.val (.int (401 : Int32))] [])) rfl (hb hby d1_82)
      refine Run.st st2 ?_
      show Run p e below s _ _ _ (T2.setTop (mkF m 85 #[.val (.int (401 : Int32))] [(.ref a1)]))
      refine Run.x_goto (q := 121) X2 hx (hb hby d1_85) (by decide) (by decide) ?_
      refine Run.retA X2 hx hlk e2 (t := (.object "com/example/deliverd/deliverd/Failure")) hret rfl rfl rfl (hb hby d1_121) (by decide) (by decide) ?_
      exact ⟨by simp [own_sel], N0, rfl⟩
    · skip
      by_cases hk403 : p1 = 403
      · subst hk403
        refine Run.st (B := T0.setTop (mkF m 88 #[.val (.int (403 : Int32))] [])) (fun t kt => X0.lookupswitchHit hx (g := (mkF m 1 #[.val (.int (403 : Int32))] [(.int (403 : Int32))])) rfl rfl (hb hby d1_1) (by decide) (a := 403) (off := 87) (by decide +kernel) (by show (0 : Int) ≤ (1 : Nat) + 87; decide) t kt) ?_
        obtain ⟨T3, X3, e3, st3⟩ := getS2 X0 hx hZ hown (host := "") (Or.inl (hw _ (List.mem_of_getElem? (i := 21) rfl))) Via.refl e0 S_FORBIDDEN (g := (mkF m 88 #[.val (.int (403 : Int32))] [])) rfl (hb hby d1_88)
        refine Run.st st3 ?_
        show Run p e below s _ _ _ (T3.setTop (mkF m 91 #[.val (.int (403 : Int32))] [(.ref a5)]))
        refine Run.x_goto (q := 121) X3 hx (hb hby d1_91) (by decide) (by decide) ?_
        refine Run.retA X3 hx hlk e3 (t := (.object "com/example/deliverd/deliverd/Failure")) hret rfl rfl rfl (hb hby d1_121) (by decide) (by decide) ?_
        exact ⟨by simp [own_sel], N0, rfl⟩
      · skip
        by_cases hk404 : p1 = 404
        · subst hk404
          refine Run.st (B := T0.setTop (mkF m 94 #[.val (.int (404 : Int32))] [])) (fun t kt => X0.lookupswitchHit hx (g := (mkF m 1 #[.val (.int (404 : Int32))] [(.int (404 : Int32))])) rfl rfl (hb hby d1_1) (by decide) (a := 404) (off := 93) (by decide +kernel) (by show (0 : Int) ≤ (1 : Nat) + 93; decide) t kt) ?_
          obtain ⟨T4, X4, e4, st4⟩ := getS2 X0 hx hZ hown (host := "") (Or.inl (hw _ (List.mem_of_getElem? (i := 24) rfl))) Via.refl e0 S_NOT_FOUND (g := (mkF m 94 #[.val (.int (404 : Int32))] [])) rfl (hb hby d1_94)
          refine Run.st st4 ?_
          show Run p e below s _ _ _ (T4.setTop (mkF m 97 #[.val (.int (404 : Int32))] [(.ref a6)]))
          refine Run.x_goto (q := 121) X4 hx (hb hby d1_97) (by decide) (by decide) ?_
          refine Run.retA X4 hx hlk e4 (t := (.object "com/example/deliverd/deliverd/Failure")) hret rfl rfl rfl (hb hby d1_121) (by decide) (by decide) ?_
          exact ⟨by simp [own_sel], N0, rfl⟩
        · skip
          by_cases hk408 : p1 = 408
          · subst hk408
            refine Run.st (B := T0.setTop (mkF m 100 #[.val (.int (408 : Int32))] [])) (fun t kt => X0.lookupswitchHit hx (g := (mkF m 1 #[.val (.int (408 : Int32))] [(.int (408 : Int32))])) rfl rfl (hb hby d1_1) (by decide) (a := 408) (off := 99) (by decide +kernel) (by show (0 : Int) ≤ (1 : Nat) + 99; decide) t kt) ?_
            obtain ⟨T5, X5, e5, st5⟩ := getS2 X0 hx hZ hown (host := "") (Or.inl (hw _ (List.mem_of_getElem? (i := 27) rfl))) Via.refl e0 S_TIMED_OUT (g := (mkF m 100 #[.val (.int (408 : Int32))] [])) rfl (hb hby d1_100)
            refine Run.st st5 ?_
            show Run p e below s _ _ _ (T5.setTop (mkF m 103 #[.val (.int (408 : Int32))] [(.ref a7)]))
            refine Run.x_goto (q := 121) X5 hx (hb hby d1_103) (by decide) (by decide) ?_
            refine Run.retA X5 hx hlk e5 (t := (.object "com/example/deliverd/deliverd/Failure")) hret rfl rfl rfl (hb hby d1_121) (by decide) (by decide) ?_
            exact ⟨by simp [own_sel], N0, rfl⟩
          · skip
            by_cases hk413 : p1 = 413
            · subst hk413
              refine Run.st (B := T0.setTop (mkF m 106 #[.val (.int (413 : Int32))] [])) (fun t kt => X0.lookupswitchHit hx (g := (mkF m 1 #[.val (.int (413 : Int32))] [(.int (413 : Int32))])) rfl rfl (hb hby d1_1) (by decide) (a := 413) (off := 105) (by decide +kernel) (by show (0 : Int) ≤ (1 : Nat) + 105; decide) t kt) ?_
              obtain ⟨T6, X6, e6, st6⟩ := getS2 X0 hx hZ hown (host := "") (Or.inl (hw _ (List.mem_of_getElem? (i := 30) rfl))) Via.refl e0 S_PAYLOAD_TOO_LARGE (g := (mkF m 106 #[.val (.int (413 : Int32))] [])) rfl (hb hby d1_106)
              refine Run.st st6 ?_
              show Run p e below s _ _ _ (T6.setTop (mkF m 109 #[.val (.int (413 : Int32))] [(.ref a8)]))
              refine Run.x_goto (q := 121) X6 hx (hb hby d1_109) (by decide) (by decide) ?_
              refine Run.retA X6 hx hlk e6 (t := (.object "com/example/deliverd/deliverd/Failure")) hret rfl rfl rfl (hb hby d1_121) (by decide) (by decide) ?_
              exact ⟨by simp [own_sel], N0, rfl⟩
            · skip
              by_cases hk429 : p1 = 429
              · subst hk429
                refine Run.st (B := T0.setTop (mkF m 112 #[.val (.int (429 : Int32))] [])) (fun t kt => X0.lookupswitchHit hx (g := (mkF m 1 #[.val (.int (429 : Int32))] [(.int (429 : Int32))])) rfl rfl (hb hby d1_1) (by decide) (a := 429) (off := 111) (by decide +kernel) (by show (0 : Int) ≤ (1 : Nat) + 111; decide) t kt) ?_
                obtain ⟨T7, X7, e7, st7⟩ := getS2 X0 hx hZ hown (host := "") (Or.inl (hw _ (List.mem_of_getElem? (i := 18) rfl))) Via.refl e0 S_BUSY (g := (mkF m 112 #[.val (.int (429 : Int32))] [])) rfl (hb hby d1_112)
                refine Run.st st7 ?_
                show Run p e below s _ _ _ (T7.setTop (mkF m 115 #[.val (.int (429 : Int32))] [(.ref a4)]))
                refine Run.x_goto (q := 121) X7 hx (hb hby d1_115) (by decide) (by decide) ?_
                refine Run.retA X7 hx hlk e7 (t := (.object "com/example/deliverd/deliverd/Failure")) hret rfl rfl rfl (hb hby d1_121) (by decide) (by decide) ?_
                exact ⟨by simp [own_sel], N0, rfl⟩
              · skip
                by_cases hk503 : p1 = 503
                · subst hk503
                  refine Run.st (B := T0.setTop (mkF m 112 #[.val (.int (503 : Int32))] [])) (fun t kt => X0.lookupswitchHit hx (g := (mkF m 1 #[.val (.int (503 : Int32))] [(.int (503 : Int32))])) rfl rfl (hb hby d1_1) (by decide) (a := 503) (off := 111) (by decide +kernel) (by show (0 : Int) ≤ (1 : Nat) + 111; decide) t kt) ?_
                  obtain ⟨T8, X8, e8, st8⟩ := getS2 X0 hx hZ hown (host := "") (Or.inl (hw _ (List.mem_of_getElem? (i := 18) rfl))) Via.refl e0 S_BUSY (g := (mkF m 112 #[.val (.int (503 : Int32))] [])) rfl (hb hby d1_112)
                  refine Run.st st8 ?_
                  show Run p e below s _ _ _ (T8.setTop (mkF m 115 #[.val (.int (503 : Int32))] [(.ref a4)]))
                  refine Run.x_goto (q := 121) X8 hx (hb hby d1_115) (by decide) (by decide) ?_
                  refine Run.retA X8 hx hlk e8 (t := (.object "com/example/deliverd/deliverd/Failure")) hret rfl rfl rfl (hb hby d1_121) (by decide) (by decide) ?_
                  exact ⟨by simp [own_sel], N0, rfl⟩
                · skip
                  have hmiss : (#[(400, 75), (401, 81), (403, 87), (404, 93), (408, 99), (413, 105), (429, 111), (503, 111)] : Array (Int × Int)).find? (·.1 == p1.toInt) = none := by
                    have ql := own_lits
                    have nk400 := mt (eq32 p1 400).mpr hk400
                    have nk401 := mt (eq32 p1 401).mpr hk401
                    have nk403 := mt (eq32 p1 403).mpr hk403
                    have nk404 := mt (eq32 p1 404).mpr hk404
                    have nk408 := mt (eq32 p1 408).mpr hk408
                    have nk413 := mt (eq32 p1 413).mpr hk413
                    have nk429 := mt (eq32 p1 429).mpr hk429
                    have nk503 := mt (eq32 p1 503).mpr hk503
                    apply find_miss
                    simp only [List.mem_cons, List.not_mem_nil, or_false, forall_eq_or_imp, forall_eq]
                    omega
                  refine Run.st (B := T0.setTop (mkF m 118 #[.val (.int p1)] [])) (fun t kt => X0.lookupswitchMiss hx (g := (mkF m 1 #[.val (.int p1)] [(.int p1)])) rfl rfl (hb hby d1_1) (by decide) hmiss (by show (0 : Int) ≤ (1 : Nat) + 117; decide) t kt) ?_
                  obtain ⟨T9, X9, e9, st9⟩ := getS2 X0 hx hZ hown (host := "") (Or.inl (hw _ (List.mem_of_getElem? (i := 15) rfl))) Via.refl e0 S_FAILED (g := (mkF m 118 #[.val (.int p1)] [])) rfl (hb hby d1_118)
                  refine Run.st st9 ?_
                  show Run p e below s _ _ _ (T9.setTop (mkF m 121 #[.val (.int p1)] [(.ref a3)]))
                  refine Run.retA X9 hx hlk e9 (t := (.object "com/example/deliverd/deliverd/Failure")) hret rfl rfl rfl (hb hby d1_121) (by decide) (by decide) ?_
                  exact ⟨by simp [own_sel, hk400, hk401, hk403, hk404, hk408, hk413, hk429, hk503], N0, rfl⟩
theorem d2_0 : decode method_2_code 0 = .ok (.iload_n 0, 1) := by decide +kernel
theorem d2_1 : decode method_2_code 1 = .ok (.sipush 400, 3) := by decide +kernel
theorem d2_4 : decode method_2_code 4 = .ok (.if_icmp .ne 7, 3) := by decide +kernel
theorem d2_7 : decode method_2_code 7 = .ok (.getstatic 7, 3) := by decide +kernel
theorem d2_10 : decode method_2_code 10 = .ok (.areturn, 1) := by decide +kernel
theorem d2_11 : decode method_2_code 11 = .ok (.iload_n 0, 1) := by decide +kernel
theorem d2_12 : decode method_2_code 12 = .ok (.sipush 401, 3) := by decide +kernel
theorem d2_15 : decode method_2_code 15 = .ok (.if_icmp .ne 7, 3) := by decide +kernel
theorem d2_18 : decode method_2_code 18 = .ok (.getstatic 13, 3) := by decide +kernel
theorem d2_21 : decode method_2_code 21 = .ok (.areturn, 1) := by decide +kernel
theorem d2_22 : decode method_2_code 22 = .ok (.iload_n 0, 1) := by decide +kernel
theorem d2_23 : decode method_2_code 23 = .ok (.sipush 403, 3) := by decide +kernel
theorem d2_26 : decode method_2_code 26 = .ok (.if_icmp .ne 7, 3) := by decide +kernel
theorem d2_29 : decode method_2_code 29 = .ok (.getstatic 16, 3) := by decide +kernel
theorem d2_32 : decode method_2_code 32 = .ok (.areturn, 1) := by decide +kernel
theorem d2_33 : decode method_2_code 33 = .ok (.iload_n 0, 1) := by decide +kernel
theorem d2_34 : decode method_2_code 34 = .ok (.sipush 404, 3) := by decide +kernel
theorem d2_37 : decode method_2_code 37 = .ok (.if_icmp .ne 7, 3) := by decide +kernel
theorem d2_40 : decode method_2_code 40 = .ok (.getstatic 19, 3) := by decide +kernel
theorem d2_43 : decode method_2_code 43 = .ok (.areturn, 1) := by decide +kernel
theorem d2_44 : decode method_2_code 44 = .ok (.iload_n 0, 1) := by decide +kernel
theorem d2_45 : decode method_2_code 45 = .ok (.sipush 408, 3) := by decide +kernel
theorem d2_48 : decode method_2_code 48 = .ok (.if_icmp .ne 7, 3) := by decide +kernel
theorem d2_51 : decode method_2_code 51 = .ok (.getstatic 22, 3) := by decide +kernel
theorem d2_54 : decode method_2_code 54 = .ok (.areturn, 1) := by decide +kernel
theorem d2_55 : decode method_2_code 55 = .ok (.iload_n 0, 1) := by decide +kernel
theorem d2_56 : decode method_2_code 56 = .ok (.sipush 413, 3) := by decide +kernel
theorem d2_59 : decode method_2_code 59 = .ok (.if_icmp .ne 7, 3) := by decide +kernel
theorem d2_62 : decode method_2_code 62 = .ok (.getstatic 25, 3) := by decide +kernel
theorem d2_65 : decode method_2_code 65 = .ok (.areturn, 1) := by decide +kernel
theorem d2_66 : decode method_2_code 66 = .ok (.iload_n 0, 1) := by decide +kernel
theorem d2_67 : decode method_2_code 67 = .ok (.sipush 429, 3) := by decide +kernel
theorem d2_70 : decode method_2_code 70 = .ok (.if_icmp .ne 7, 3) := by decide +kernel
theorem d2_73 : decode method_2_code 73 = .ok (.getstatic 28, 3) := by decide +kernel
theorem d2_76 : decode method_2_code 76 = .ok (.areturn, 1) := by decide +kernel
theorem d2_77 : decode method_2_code 77 = .ok (.iload_n 0, 1) := by decide +kernel
theorem d2_78 : decode method_2_code 78 = .ok (.sipush 503, 3) := by decide +kernel
theorem d2_81 : decode method_2_code 81 = .ok (.if_icmp .ne 7, 3) := by decide +kernel
theorem d2_84 : decode method_2_code 84 = .ok (.getstatic 28, 3) := by decide +kernel
theorem d2_87 : decode method_2_code 87 = .ok (.areturn, 1) := by decide +kernel
theorem d2_88 : decode method_2_code 88 = .ok (.getstatic 31, 3) := by decide +kernel
theorem d2_91 : decode method_2_code 91 = .ok (.areturn, 1) := by decide +kernel
theorem pn_1 : plainName "com/example/deliverd/deliverd/FailureOfStatusPinLaw" = true := by first | (simp [plainName, overriddenIn]; done) | decide +kernel
theorem ef_c_exp (m : MethodId) (p1 : Int32) : entryFrame m #[(.int p1)] 1 = mkF m 0 #[.val (.int p1)] [] := by first | (simp [entryFrame, mkF, argsToLocals, Value.category]; done) | rfl
set_option maxRecDepth 65536 in
set_option maxHeartbeats 40000000 in
theorem c_exp (l : Launch) (Z : State) (a0 : Array Value) (hw : ∀ d ∈ tables_1, d.before a0 Z = true) (p1 : Int32) (h0 : Heap) (n0 : Nat) (Z0 : n0 ≤ h0.size) (a1 : Addr) (a2 : Addr) (a3 : Addr) (a4 : Addr) (a5 : Addr) (a6 : Addr) (a7 : Addr) (a8 : Addr) (S_UNAUTHORIZED : Sta Z h0 "com/example/deliverd/deliverd/Failure" "UNAUTHORIZED" "Lcom/example/deliverd/deliverd/Failure;" (.ref a1)) (S_BAD_REQUEST : Sta Z h0 "com/example/deliverd/deliverd/Failure" "BAD_REQUEST" "Lcom/example/deliverd/deliverd/Failure;" (.ref a2)) (S_FAILED : Sta Z h0 "com/example/deliverd/deliverd/Failure" "FAILED" "Lcom/example/deliverd/deliverd/Failure;" (.ref a3)) (S_BUSY : Sta Z h0 "com/example/deliverd/deliverd/Failure" "BUSY" "Lcom/example/deliverd/deliverd/Failure;" (.ref a4)) (S_FORBIDDEN : Sta Z h0 "com/example/deliverd/deliverd/Failure" "FORBIDDEN" "Lcom/example/deliverd/deliverd/Failure;" (.ref a5)) (S_NOT_FOUND : Sta Z h0 "com/example/deliverd/deliverd/Failure" "NOT_FOUND" "Lcom/example/deliverd/deliverd/Failure;" (.ref a6)) (S_TIMED_OUT : Sta Z h0 "com/example/deliverd/deliverd/Failure" "TIMED_OUT" "Lcom/example/deliverd/deliverd/Failure;" (.ref a7)) (S_PAYLOAD_TOO_LARGE : Sta Z h0 "com/example/deliverd/deliverd/Failure" "PAYLOAD_TOO_LARGE" "Lcom/example/deliverd/deliverd/Failure;" (.ref a8)) :
    Ctr l Z (⟨"com/example/deliverd/deliverd/FailureOfStatusPinLaw", "expected", "(I)Lcom/example/deliverd/deliverd/Failure;"⟩ : MethodName) method_2_code 1 (some (.object "com/example/deliverd/deliverd/Failure")) ({ frames := 0, cells := 0, slots := 0, locals := 0 } : Room) #[(.int p1)] h0 (PureR h0 n0 (.ref (own_sel p1 a1 a2 a3 a4 a5 a6 a7 a8))) := by
  refine Ctr.of (plainFor_of_name pn_1) (fun m => ef_c_exp m p1) ?_
  intro p e s m below meth c T0 hx hby hml hown hnm hret hlk hZ e0 X0
  have N0 := Fr.nil n0
  replace hown : s.vm.findClass "com/example/deliverd/deliverd/FailureOfStatusPinLaw" = some m.cls := hown
  replace hml : c.maxLocals = 1 := hml
  refine Run.x_iloadN (q := 1) X0 hx (hb hby d2_0) rfl rfl ?_
  refine Run.x_sipush (q := 4) X0 hx (hb hby d2_1) (z := (400 : Int32)) rfl rfl ?_
  by_cases hc4 : p1 = (400 : Int32)
  · skip
    refine Run.x_icmpNo (q := 7) X0 hx (hb hby d2_4) (teq hc4).2 rfl ?_
    obtain ⟨T1, X1, e1, st1⟩ := getS2 X0 hx hZ hown (host := "") (Or.inl (hw _ (List.mem_of_getElem? (i := 14) rfl))) Via.refl e0 S_BAD_REQUEST (g := (mkF m 7 #[.val (.int p1)] [])) rfl (hb hby d2_7)
    refine Run.st st1 ?_
    show Run p e below s _ _ _ (T1.setTop (mkF m 10 #[.val (.int p1)] [(.ref a2)]))
    refine Run.retA X1 hx hlk e1 (t := (.object "com/example/deliverd/deliverd/Failure")) hret rfl rfl rfl (hb hby d2_10) (by decide) (by decide) ?_
    exact ⟨by simp [own_sel, hc4], N0, rfl⟩
  · skip
    refine Run.x_icmpYes (q := 11) X0 hx (hb hby d2_4) (feq hc4).2 (by decide) (by decide) ?_
    refine Run.x_iloadN (q := 12) X0 hx (hb hby d2_11) rfl rfl ?_
    refine Run.x_sipush (q := 15) X0 hx (hb hby d2_12) (z := (401 : Int32)) rfl rfl ?_
    by_cases hc15 : p1 = (401 : Int32)
    · skip
      refine Run.x_icmpNo (q := 18) X0 hx (hb hby d2_15) (teq hc15).2 rfl ?_
      obtain ⟨T2, X2, e2, st2⟩ := getS2 X0 hx hZ hown (host := "") (Or.inl (hw _ (List.mem_of_getElem? (i := 11) rfl))) Via.refl e0 S_UNAUTHORIZED (g := (mkF m 18 #[.val (.int p1)] [])) rfl (hb hby d2_18)
      refine Run.st st2 ?_
      show Run p e below s _ _ _ (T2.setTop (mkF m 21 #[.val (.int p1)] [(.ref a1)]))
      refine Run.retA X2 hx hlk e2 (t := (.object "com/example/deliverd/deliverd/Failure")) hret rfl rfl rfl (hb hby d2_21) (by decide) (by decide) ?_
      exact ⟨by simp [own_sel, hc4, hc15], N0, rfl⟩
    · skip
      refine Run.x_icmpYes (q := 22) X0 hx (hb hby d2_15) (feq hc15).2 (by decide) (by decide) ?_
      refine Run.x_iloadN (q := 23) X0 hx (hb hby d2_22) rfl rfl ?_
      refine Run.x_sipush (q := 26) X0 hx (hb hby d2_23) (z := (403 : Int32)) rfl rfl ?_
      by_cases hc26 : p1 = (403 : Int32)
      · skip
        refine Run.x_icmpNo (q := 29) X0 hx (hb hby d2_26) (teq hc26).2 rfl ?_
        obtain ⟨T3, X3, e3, st3⟩ := getS2 X0 hx hZ hown (host := "") (Or.inl (hw _ (List.mem_of_getElem? (i := 23) rfl))) Via.refl e0 S_FORBIDDEN (g := (mkF m 29 #[.val (.int p1)] [])) rfl (hb hby d2_29)
        refine Run.st st3 ?_
        show Run p e below s _ _ _ (T3.setTop (mkF m 32 #[.val (.int p1)] [(.ref a5)]))
        refine Run.retA X3 hx hlk e3 (t := (.object "com/example/deliverd/deliverd/Failure")) hret rfl rfl rfl (hb hby d2_32) (by decide) (by decide) ?_
        exact ⟨by simp [own_sel, hc4, hc15, hc26], N0, rfl⟩
      · skip
        refine Run.x_icmpYes (q := 33) X0 hx (hb hby d2_26) (feq hc26).2 (by decide) (by decide) ?_
        refine Run.x_iloadN (q := 34) X0 hx (hb hby d2_33) rfl rfl ?_
        refine Run.x_sipush (q := 37) X0 hx (hb hby d2_34) (z := (404 : Int32)) rfl rfl ?_
        by_cases hc37 : p1 = (404 : Int32)
        · skip
          refine Run.x_icmpNo (q := 40) X0 hx (hb hby d2_37) (teq hc37).2 rfl ?_
          obtain ⟨T4, X4, e4, st4⟩ := getS2 X0 hx hZ hown (host := "") (Or.inl (hw _ (List.mem_of_getElem? (i := 26) rfl))) Via.refl e0 S_NOT_FOUND (g := (mkF m 40 #[.val (.int p1)] [])) rfl (hb hby d2_40)
          refine Run.st st4 ?_
          show Run p e below s _ _ _ (T4.setTop (mkF m 43 #[.val (.int p1)] [(.ref a6)]))
          refine Run.retA X4 hx hlk e4 (t := (.object "com/example/deliverd/deliverd/Failure")) hret rfl rfl rfl (hb hby d2_43) (by decide) (by decide) ?_
          exact ⟨by simp [own_sel, hc4, hc15, hc26, hc37], N0, rfl⟩
        · skip
          refine Run.x_icmpYes (q := 44) X0 hx (hb hby d2_37) (feq hc37).2 (by decide) (by decide) ?_
          refine Run.x_iloadN (q := 45) X0 hx (hb hby d2_44) rfl rfl ?_
          refine Run.x_sipush (q := 48) X0 hx (hb hby d2_45) (z := (408 : Int32)) rfl rfl ?_
          by_cases hc48 : p1 = (408 : Int32)
          · skip
            refine Run.x_icmpNo (q := 51) X0 hx (hb hby d2_48) (teq hc48).2 rfl ?_
            obtain ⟨T5, X5, e5, st5⟩ := getS2 X0 hx hZ hown (host := "") (Or.inl (hw _ (List.mem_of_getElem? (i := 29) rfl))) Via.refl e0 S_TIMED_OUT (g := (mkF m 51 #[.val (.int p1)] [])) rfl (hb hby d2_51)
            refine Run.st st5 ?_
            show Run p e below s _ _ _ (T5.setTop (mkF m 54 #[.val (.int p1)] [(.ref a7)]))
            refine Run.retA X5 hx hlk e5 (t := (.object "com/example/deliverd/deliverd/Failure")) hret rfl rfl rfl (hb hby d2_54) (by decide) (by decide) ?_
            exact ⟨by simp [own_sel, hc4, hc15, hc26, hc37, hc48], N0, rfl⟩
          · skip
            refine Run.x_icmpYes (q := 55) X0 hx (hb hby d2_48) (feq hc48).2 (by decide) (by decide) ?_
            refine Run.x_iloadN (q := 56) X0 hx (hb hby d2_55) rfl rfl ?_
            refine Run.x_sipush (q := 59) X0 hx (hb hby d2_56) (z := (413 : Int32)) rfl rfl ?_
            by_cases hc59 : p1 = (413 : Int32)
            · skip
              refine Run.x_icmpNo (q := 62) X0 hx (hb hby d2_59) (teq hc59).2 rfl ?_
              obtain ⟨T6, X6, e6, st6⟩ := getS2 X0 hx hZ hown (host := "") (Or.inl (hw _ (List.mem_of_getElem? (i := 32) rfl))) Via.refl e0 S_PAYLOAD_TOO_LARGE (g := (mkF m 62 #[.val (.int p1)] [])) rfl (hb hby d2_62)
              refine Run.st st6 ?_
              show Run p e below s _ _ _ (T6.setTop (mkF m 65 #[.val (.int p1)] [(.ref a8)]))
              refine Run.retA X6 hx hlk e6 (t := (.object "com/example/deliverd/deliverd/Failure")) hret rfl rfl rfl (hb hby d2_65) (by decide) (by decide) ?_
              exact ⟨by simp [own_sel, hc4, hc15, hc26, hc37, hc48, hc59], N0, rfl⟩
            · skip
              refine Run.x_icmpYes (q := 66) X0 hx (hb hby d2_59) (feq hc59).2 (by decide) (by decide) ?_
              refine Run.x_iloadN (q := 67) X0 hx (hb hby d2_66) rfl rfl ?_
              refine Run.x_sipush (q := 70) X0 hx (hb hby d2_67) (z := (429 : Int32)) rfl rfl ?_
              by_cases hc70 : p1 = (429 : Int32)
              · skip
                refine Run.x_icmpNo (q := 73) X0 hx (hb hby d2_70) (teq hc70).2 rfl ?_
                obtain ⟨T7, X7, e7, st7⟩ := getS2 X0 hx hZ hown (host := "") (Or.inl (hw _ (List.mem_of_getElem? (i := 20) rfl))) Via.refl e0 S_BUSY (g := (mkF m 73 #[.val (.int p1)] [])) rfl (hb hby d2_73)
                refine Run.st st7 ?_
                show Run p e below s _ _ _ (T7.setTop (mkF m 76 #[.val (.int p1)] [(.ref a4)]))
                refine Run.retA X7 hx hlk e7 (t := (.object "com/example/deliverd/deliverd/Failure")) hret rfl rfl rfl (hb hby d2_76) (by decide) (by decide) ?_
                exact ⟨by simp [own_sel, hc4, hc15, hc26, hc37, hc48, hc59, hc70], N0, rfl⟩
              · skip
                refine Run.x_icmpYes (q := 77) X0 hx (hb hby d2_70) (feq hc70).2 (by decide) (by decide) ?_
                refine Run.x_iloadN (q := 78) X0 hx (hb hby d2_77) rfl rfl ?_
                refine Run.x_sipush (q := 81) X0 hx (hb hby d2_78) (z := (503 : Int32)) rfl rfl ?_
                by_cases hc81 : p1 = (503 : Int32)
                · skip
                  refine Run.x_icmpNo (q := 84) X0 hx (hb hby d2_81) (teq hc81).2 rfl ?_
                  obtain ⟨T8, X8, e8, st8⟩ := getS2 X0 hx hZ hown (host := "") (Or.inl (hw _ (List.mem_of_getElem? (i := 20) rfl))) Via.refl e0 S_BUSY (g := (mkF m 84 #[.val (.int p1)] [])) rfl (hb hby d2_84)
                  refine Run.st st8 ?_
                  show Run p e below s _ _ _ (T8.setTop (mkF m 87 #[.val (.int p1)] [(.ref a4)]))
                  refine Run.retA X8 hx hlk e8 (t := (.object "com/example/deliverd/deliverd/Failure")) hret rfl rfl rfl (hb hby d2_87) (by decide) (by decide) ?_
                  exact ⟨by simp [own_sel, hc4, hc15, hc26, hc37, hc48, hc59, hc70, hc81], N0, rfl⟩
                · skip
                  refine Run.x_icmpYes (q := 88) X0 hx (hb hby d2_81) (feq hc81).2 (by decide) (by decide) ?_
                  obtain ⟨T9, X9, e9, st9⟩ := getS2 X0 hx hZ hown (host := "") (Or.inl (hw _ (List.mem_of_getElem? (i := 17) rfl))) Via.refl e0 S_FAILED (g := (mkF m 88 #[.val (.int p1)] [])) rfl (hb hby d2_88)
                  refine Run.st st9 ?_
                  show Run p e below s _ _ _ (T9.setTop (mkF m 91 #[.val (.int p1)] [(.ref a3)]))
                  refine Run.retA X9 hx hlk e9 (t := (.object "com/example/deliverd/deliverd/Failure")) hret rfl rfl rfl (hb hby d2_91) (by decide) (by decide) ?_
                  exact ⟨by simp [own_sel, hc4, hc15, hc26, hc37, hc48, hc59, hc70, hc81], N0, rfl⟩
theorem own_idx (p : Int32) : ∃ i : Nat, (p &&& 15).toInt = i ∧ i < 16 := by
  have q := c_mask p 15 4 (by decide) (by decide)
  exact ⟨(p &&& 15).toInt.toNat, by omega, by omega⟩
theorem ef_c_law (m : MethodId) (p1 : Int32) (p2 : Int32) : entryFrame m #[(.int p1), (.int p2)] maxLocals = mkF m 0 #[.val (.int p1), .val (.int p2), .unset, .unset, .unset] [] := by first | (simp [entryFrame, mkF, argsToLocals, Value.category, maxLocals]; done) | rfl
theorem pd_0 : parseMethodDescriptor "(I)Lcom/example/deliverd/deliverd/Failure;" = some ⟨[.int], some (.object "com/example/deliverd/deliverd/Failure")⟩ := by decide +kernel
set_option maxRecDepth 65536 in
set_option maxHeartbeats 40000000 in
theorem c_law (l : Launch) (Z : State) (a0 : Array Value) (hw : ∀ d ∈ tables_1, d.before a0 Z = true) (p1 : Int32) (p2 : Int32) (h0 : Heap) (n0 : Nat) (Z0 : n0 ≤ h0.size) (a1 : Addr) (a2 : Addr) (a3 : Addr) (a4 : Addr) (a5 : Addr) (a6 : Addr) (a7 : Addr) (a8 : Addr) (S_UNAUTHORIZED : Sta Z h0 "com/example/deliverd/deliverd/Failure" "UNAUTHORIZED" "Lcom/example/deliverd/deliverd/Failure;" (.ref a1)) (S_BAD_REQUEST : Sta Z h0 "com/example/deliverd/deliverd/Failure" "BAD_REQUEST" "Lcom/example/deliverd/deliverd/Failure;" (.ref a2)) (S_FAILED : Sta Z h0 "com/example/deliverd/deliverd/Failure" "FAILED" "Lcom/example/deliverd/deliverd/Failure;" (.ref a3)) (S_BUSY : Sta Z h0 "com/example/deliverd/deliverd/Failure" "BUSY" "Lcom/example/deliverd/deliverd/Failure;" (.ref a4)) (S_FORBIDDEN : Sta Z h0 "com/example/deliverd/deliverd/Failure" "FORBIDDEN" "Lcom/example/deliverd/deliverd/Failure;" (.ref a5)) (S_NOT_FOUND : Sta Z h0 "com/example/deliverd/deliverd/Failure" "NOT_FOUND" "Lcom/example/deliverd/deliverd/Failure;" (.ref a6)) (S_TIMED_OUT : Sta Z h0 "com/example/deliverd/deliverd/Failure" "TIMED_OUT" "Lcom/example/deliverd/deliverd/Failure;" (.ref a7)) (S_PAYLOAD_TOO_LARGE : Sta Z h0 "com/example/deliverd/deliverd/Failure" "PAYLOAD_TOO_LARGE" "Lcom/example/deliverd/deliverd/Failure;" (.ref a8)) :
    Ctr l Z x code maxLocals ret room_1 #[(.int p1), (.int p2)] h0 (Tru n0) := by
  refine Ctr.of (plainFor_of_name pn_1) (fun m => ef_c_law m p1 p2) ?_
  intro p e s m below meth c T0 hx hby hml hown hnm hret hlk hZ e0 X0
  have N0 := Fr.nil n0
  replace hown : s.vm.findClass "com/example/deliverd/deliverd/FailureOfStatusPinLaw" = some m.cls := hown
  replace hml : c.maxLocals = 5 := hml
  refine Run.x_bipush (q := 2) X0 hx (hb hby at_0) (z := (16 : Int32)) rfl rfl ?_
  refine Run.newP X0 hx hZ e0 (hw _ (List.mem_of_getElem? (i := 0) rfl)) (hb hby at_2) (len := 16) (by decide) (by decide) (cap := 16) (by decide) (by decide) (by decide) (by decide) ?_
  intro T1 h1 b1 gg1 X1 e1 E1 A_b1
  have g_b1 : n0 ≤ b1 := Nat.le_trans Z0 (Nat.le_of_eq gg1.symm)
  have Z1 : n0 ≤ h1.size := Nat.le_trans Z0 E1.1
  replace A_b1 : Ars Z h1 b1 .int [(.int (0 : Int32)), (.int (0 : Int32)), (.int (0 : Int32)), (.int (0 : Int32)), (.int (0 : Int32)), (.int (0 : Int32)), (.int (0 : Int32)), (.int (0 : Int32)), (.int (0 : Int32)), (.int (0 : Int32)), (.int (0 : Int32)), (.int (0 : Int32)), (.int (0 : Int32)), (.int (0 : Int32)), (.int (0 : Int32)), (.int (0 : Int32))] := A_b1
  show Run p e below s _ _ _ (T1.setTop (mkF m 4 #[.val (.int p1), .val (.int p2), .unset, .unset, .unset] [(.ref b1)]))
  refine Run.x_dup (q := 5) X1 hx (hb hby at_4) rfl rfl ?_
  refine Run.x_iconst (q := 6) X1 hx (hb hby at_5) (z := (0 : Int32)) rfl rfl ?_
  refine Run.x_sipush (q := 9) X1 hx (hb hby at_6) (z := (400 : Int32)) rfl rfl ?_
  refine Run.stI X1 hx hZ e1 A_b1 (i := 0) (by decide) (Nat.le_of_ble_eq_true rfl) (hb hby at_9) ?_
  intro T2 h2 X2 e2 W2 A2
  replace A_b1 : Ars Z h2 b1 .int [(.int (400 : Int32)), (.int (0 : Int32)), (.int (0 : Int32)), (.int (0 : Int32)), (.int (0 : Int32)), (.int (0 : Int32)), (.int (0 : Int32)), (.int (0 : Int32)), (.int (0 : Int32)), (.int (0 : Int32)), (.int (0 : Int32)), (.int (0 : Int32)), (.int (0 : Int32)), (.int (0 : Int32)), (.int (0 : Int32)), (.int (0 : Int32))] := A2
  have N2 := Fr.snoc X2 N0 g_b1
  have Z2 : n0 ≤ h2.size := Nat.le_trans Z1 (Nat.le_of_eq W2.size.symm)
  show Run p e below s _ _ _ (T2.setTop (mkF m 10 #[.val (.int p1), .val (.int p2), .unset, .unset, .unset] [(.ref b1)]))
  refine Run.x_dup (q := 11) X2 hx (hb hby at_10) rfl rfl ?_
  refine Run.x_iconst (q := 12) X2 hx (hb hby at_11) (z := (1 : Int32)) rfl rfl ?_
  refine Run.x_sipush (q := 15) X2 hx (hb hby at_12) (z := (401 : Int32)) rfl rfl ?_
  refine Run.stI X2 hx hZ e2 A_b1 (i := 1) (by decide) (Nat.le_of_ble_eq_true rfl) (hb hby at_15) ?_
  intro T3 h3 X3 e3 W3 A3
  replace A_b1 : Ars Z h3 b1 .int [(.int (400 : Int32)), (.int (401 : Int32)), (.int (0 : Int32)), (.int (0 : Int32)), (.int (0 : Int32)), (.int (0 : Int32)), (.int (0 : Int32)), (.int (0 : Int32)), (.int (0 : Int32)), (.int (0 : Int32)), (.int (0 : Int32)), (.int (0 : Int32)), (.int (0 : Int32)), (.int (0 : Int32)), (.int (0 : Int32)), (.int (0 : Int32))] := A3
  have N3 := Fr.snoc X3 N2 g_b1
  have Z3 : n0 ≤ h3.size := Nat.le_trans Z2 (Nat.le_of_eq W3.size.symm)
  show Run p e below s _ _ _ (T3.setTop (mkF m 16 #[.val (.int p1), .val (.int p2), .unset, .unset, .unset] [(.ref b1)]))
  refine Run.x_dup (q := 17) X3 hx (hb hby at_16) rfl rfl ?_
  refine Run.x_iconst (q := 18) X3 hx (hb hby at_17) (z := (2 : Int32)) rfl rfl ?_
  refine Run.x_sipush (q := 21) X3 hx (hb hby at_18) (z := (403 : Int32)) rfl rfl ?_
  refine Run.stI X3 hx hZ e3 A_b1 (i := 2) (by decide) (Nat.le_of_ble_eq_true rfl) (hb hby at_21) ?_
  intro T4 h4 X4 e4 W4 A4
  replace A_b1 : Ars Z h4 b1 .int [(.int (400 : Int32)), (.int (401 : Int32)), (.int (403 : Int32)), (.int (0 : Int32)), (.int (0 : Int32)), (.int (0 : Int32)), (.int (0 : Int32)), (.int (0 : Int32)), (.int (0 : Int32)), (.int (0 : Int32)), (.int (0 : Int32)), (.int (0 : Int32)), (.int (0 : Int32)), (.int (0 : Int32)), (.int (0 : Int32)), (.int (0 : Int32))] := A4
  have N4 := Fr.snoc X4 N3 g_b1
  have Z4 : n0 ≤ h4.size := Nat.le_trans Z3 (Nat.le_of_eq W4.size.symm)
  show Run p e below s _ _ _ (T4.setTop (mkF m 22 #[.val (.int p1), .val (.int p2), .unset, .unset, .unset] [(.ref b1)]))
  refine Run.x_dup (q := 23) X4 hx (hb hby at_22) rfl rfl ?_
  refine Run.x_iconst (q := 24) X4 hx (hb hby at_23) (z := (3 : Int32)) rfl rfl ?_
  refine Run.x_sipush (q := 27) X4 hx (hb hby at_24) (z := (404 : Int32)) rfl rfl ?_
  refine Run.stI X4 hx hZ e4 A_b1 (i := 3) (by decide) (Nat.le_of_ble_eq_true rfl) (hb hby at_27) ?_
  intro T5 h5 X5 e5 W5 A5
  replace A_b1 : Ars Z h5 b1 .int [(.int (400 : Int32)), (.int (401 : Int32)), (.int (403 : Int32)), (.int (404 : Int32)), (.int (0 : Int32)), (.int (0 : Int32)), (.int (0 : Int32)), (.int (0 : Int32)), (.int (0 : Int32)), (.int (0 : Int32)), (.int (0 : Int32)), (.int (0 : Int32)), (.int (0 : Int32)), (.int (0 : Int32)), (.int (0 : Int32)), (.int (0 : Int32))] := A5
  have N5 := Fr.snoc X5 N4 g_b1
  have Z5 : n0 ≤ h5.size := Nat.le_trans Z4 (Nat.le_of_eq W5.size.symm)
  show Run p e below s _ _ _ (T5.setTop (mkF m 28 #[.val (.int p1), .val (.int p2), .unset, .unset, .unset] [(.ref b1)]))
  refine Run.x_dup (q := 29) X5 hx (hb hby at_28) rfl rfl ?_
  refine Run.x_iconst (q := 30) X5 hx (hb hby at_29) (z := (4 : Int32)) rfl rfl ?_
  refine Run.x_sipush (q := 33) X5 hx (hb hby at_30) (z := (408 : Int32)) rfl rfl ?_
  refine Run.stI X5 hx hZ e5 A_b1 (i := 4) (by decide) (Nat.le_of_ble_eq_true rfl) (hb hby at_33) ?_
  intro T6 h6 X6 e6 W6 A6
  replace A_b1 : Ars Z h6 b1 .int [(.int (400 : Int32)), (.int (401 : Int32)), (.int (403 : Int32)), (.int (404 : Int32)), (.int (408 : Int32)), (.int (0 : Int32)), (.int (0 : Int32)), (.int (0 : Int32)), (.int (0 : Int32)), (.int (0 : Int32)), (.int (0 : Int32)), (.int (0 : Int32)), (.int (0 : Int32)), (.int (0 : Int32)), (.int (0 : Int32)), (.int (0 : Int32))] := A6
  have N6 := Fr.snoc X6 N5 g_b1
  have Z6 : n0 ≤ h6.size := Nat.le_trans Z5 (Nat.le_of_eq W6.size.symm)
  show Run p e below s _ _ _ (T6.setTop (mkF m 34 #[.val (.int p1), .val (.int p2), .unset, .unset, .unset] [(.ref b1)]))
  refine Run.x_dup (q := 35) X6 hx (hb hby at_34) rfl rfl ?_
  refine Run.x_iconst (q := 36) X6 hx (hb hby at_35) (z := (5 : Int32)) rfl rfl ?_
  refine Run.x_sipush (q := 39) X6 hx (hb hby at_36) (z := (413 : Int32)) rfl rfl ?_
  refine Run.stI X6 hx hZ e6 A_b1 (i := 5) (by decide) (Nat.le_of_ble_eq_true rfl) (hb hby at_39) ?_
  intro T7 h7 X7 e7 W7 A7
  replace A_b1 : Ars Z h7 b1 .int [(.int (400 : Int32)), (.int (401 : Int32)), (.int (403 : Int32)), (.int (404 : Int32)), (.int (408 : Int32)), (.int (413 : Int32)), (.int (0 : Int32)), (.int (0 : Int32)), (.int (0 : Int32)), (.int (0 : Int32)), (.int (0 : Int32)), (.int (0 : Int32)), (.int (0 : Int32)), (.int (0 : Int32)), (.int (0 : Int32)), (.int (0 : Int32))] := A7
  have N7 := Fr.snoc X7 N6 g_b1
  have Z7 : n0 ≤ h7.size := Nat.le_trans Z6 (Nat.le_of_eq W7.size.symm)
  show Run p e below s _ _ _ (T7.setTop (mkF m 40 #[.val (.int p1), .val (.int p2), .unset, .unset, .unset] [(.ref b1)]))
  refine Run.x_dup (q := 41) X7 hx (hb hby at_40) rfl rfl ?_
  refine Run.x_bipush (q := 43) X7 hx (hb hby at_41) (z := (6 : Int32)) rfl rfl ?_
  refine Run.x_sipush (q := 46) X7 hx (hb hby at_43) (z := (429 : Int32)) rfl rfl ?_
  refine Run.stI X7 hx hZ e7 A_b1 (i := 6) (by decide) (Nat.le_of_ble_eq_true rfl) (hb hby at_46) ?_
  intro T8 h8 X8 e8 W8 A8
  replace A_b1 : Ars Z h8 b1 .int [(.int (400 : Int32)), (.int (401 : Int32)), (.int (403 : Int32)), (.int (404 : Int32)), (.int (408 : Int32)), (.int (413 : Int32)), (.int (429 : Int32)), (.int (0 : Int32)), (.int (0 : Int32)), (.int (0 : Int32)), (.int (0 : Int32)), (.int (0 : Int32)), (.int (0 : Int32)), (.int (0 : Int32)), (.int (0 : Int32)), (.int (0 : Int32))] := A8
  have N8 := Fr.snoc X8 N7 g_b1
  have Z8 : n0 ≤ h8.size := Nat.le_trans Z7 (Nat.le_of_eq W8.size.symm)
  show Run p e below s _ _ _ (T8.setTop (mkF m 47 #[.val (.int p1), .val (.int p2), .unset, .unset, .unset] [(.ref b1)]))
  refine Run.x_dup (q := 48) X8 hx (hb hby at_47) rfl rfl ?_
  refine Run.x_bipush (q := 50) X8 hx (hb hby at_48) (z := (7 : Int32)) rfl rfl ?_
  refine Run.x_sipush (q := 53) X8 hx (hb hby at_50) (z := (503 : Int32)) rfl rfl ?_
  refine Run.stI X8 hx hZ e8 A_b1 (i := 7) (by decide) (Nat.le_of_ble_eq_true rfl) (hb hby at_53) ?_
  intro T9 h9 X9 e9 W9 A9
  replace A_b1 : Ars Z h9 b1 .int [(.int (400 : Int32)), (.int (401 : Int32)), (.int (403 : Int32)), (.int (404 : Int32)), (.int (408 : Int32)), (.int (413 : Int32)), (.int (429 : Int32)), (.int (503 : Int32)), (.int (0 : Int32)), (.int (0 : Int32)), (.int (0 : Int32)), (.int (0 : Int32)), (.int (0 : Int32)), (.int (0 : Int32)), (.int (0 : Int32)), (.int (0 : Int32))] := A9
  have N9 := Fr.snoc X9 N8 g_b1
  have Z9 : n0 ≤ h9.size := Nat.le_trans Z8 (Nat.le_of_eq W9.size.symm)
  show Run p e below s _ _ _ (T9.setTop (mkF m 54 #[.val (.int p1), .val (.int p2), .unset, .unset, .unset] [(.ref b1)]))
  refine Run.x_dup (q := 55) X9 hx (hb hby at_54) rfl rfl ?_
  refine Run.x_bipush (q := 57) X9 hx (hb hby at_55) (z := (8 : Int32)) rfl rfl ?_
  refine Run.x_sipush (q := 60) X9 hx (hb hby at_57) (z := (399 : Int32)) rfl rfl ?_
  refine Run.stI X9 hx hZ e9 A_b1 (i := 8) (by decide) (Nat.le_of_ble_eq_true rfl) (hb hby at_60) ?_
  intro T10 h10 X10 e10 W10 A10
  replace A_b1 : Ars Z h10 b1 .int [(.int (400 : Int32)), (.int (401 : Int32)), (.int (403 : Int32)), (.int (404 : Int32)), (.int (408 : Int32)), (.int (413 : Int32)), (.int (429 : Int32)), (.int (503 : Int32)), (.int (399 : Int32)), (.int (0 : Int32)), (.int (0 : Int32)), (.int (0 : Int32)), (.int (0 : Int32)), (.int (0 : Int32)), (.int (0 : Int32)), (.int (0 : Int32))] := A10
  have N10 := Fr.snoc X10 N9 g_b1
  have Z10 : n0 ≤ h10.size := Nat.le_trans Z9 (Nat.le_of_eq W10.size.symm)
  show Run p e below s _ _ _ (T10.setTop (mkF m 61 #[.val (.int p1), .val (.int p2), .unset, .unset, .unset] [(.ref b1)]))
  refine Run.x_dup (q := 62) X10 hx (hb hby at_61) rfl rfl ?_
  refine Run.x_bipush (q := 64) X10 hx (hb hby at_62) (z := (9 : Int32)) rfl rfl ?_
  refine Run.x_sipush (q := 67) X10 hx (hb hby at_64) (z := (402 : Int32)) rfl rfl ?_
  refine Run.stI X10 hx hZ e10 A_b1 (i := 9) (by decide) (Nat.le_of_ble_eq_true rfl) (hb hby at_67) ?_
  intro T11 h11 X11 e11 W11 A11
  replace A_b1 : Ars Z h11 b1 .int [(.int (400 : Int32)), (.int (401 : Int32)), (.int (403 : Int32)), (.int (404 : Int32)), (.int (408 : Int32)), (.int (413 : Int32)), (.int (429 : Int32)), (.int (503 : Int32)), (.int (399 : Int32)), (.int (402 : Int32)), (.int (0 : Int32)), (.int (0 : Int32)), (.int (0 : Int32)), (.int (0 : Int32)), (.int (0 : Int32)), (.int (0 : Int32))] := A11
  have N11 := Fr.snoc X11 N10 g_b1
  have Z11 : n0 ≤ h11.size := Nat.le_trans Z10 (Nat.le_of_eq W11.size.symm)
  show Run p e below s _ _ _ (T11.setTop (mkF m 68 #[.val (.int p1), .val (.int p2), .unset, .unset, .unset] [(.ref b1)]))
  refine Run.x_dup (q := 69) X11 hx (hb hby at_68) rfl rfl ?_
  refine Run.x_bipush (q := 71) X11 hx (hb hby at_69) (z := (10 : Int32)) rfl rfl ?_
  refine Run.x_sipush (q := 74) X11 hx (hb hby at_71) (z := (407 : Int32)) rfl rfl ?_
  refine Run.stI X11 hx hZ e11 A_b1 (i := 10) (by decide) (Nat.le_of_ble_eq_true rfl) (hb hby at_74) ?_
  intro T12 h12 X12 e12 W12 A12
  replace A_b1 : Ars Z h12 b1 .int [(.int (400 : Int32)), (.int (401 : Int32)), (.int (403 : Int32)), (.int (404 : Int32)), (.int (408 : Int32)), (.int (413 : Int32)), (.int (429 : Int32)), (.int (503 : Int32)), (.int (399 : Int32)), (.int (402 : Int32)), (.int (407 : Int32)), (.int (0 : Int32)), (.int (0 : Int32)), (.int (0 : Int32)), (.int (0 : Int32)), (.int (0 : Int32))] := A12
  have N12 := Fr.snoc X12 N11 g_b1
  have Z12 : n0 ≤ h12.size := Nat.le_trans Z11 (Nat.le_of_eq W12.size.symm)
  show Run p e below s _ _ _ (T12.setTop (mkF m 75 #[.val (.int p1), .val (.int p2), .unset, .unset, .unset] [(.ref b1)]))
  refine Run.x_dup (q := 76) X12 hx (hb hby at_75) rfl rfl ?_
  refine Run.x_bipush (q := 78) X12 hx (hb hby at_76) (z := (11 : Int32)) rfl rfl ?_
  refine Run.x_sipush (q := 81) X12 hx (hb hby at_78) (z := (409 : Int32)) rfl rfl ?_
  refine Run.stI X12 hx hZ e12 A_b1 (i := 11) (by decide) (Nat.le_of_ble_eq_true rfl) (hb hby at_81) ?_
  intro T13 h13 X13 e13 W13 A13
  replace A_b1 : Ars Z h13 b1 .int [(.int (400 : Int32)), (.int (401 : Int32)), (.int (403 : Int32)), (.int (404 : Int32)), (.int (408 : Int32)), (.int (413 : Int32)), (.int (429 : Int32)), (.int (503 : Int32)), (.int (399 : Int32)), (.int (402 : Int32)), (.int (407 : Int32)), (.int (409 : Int32)), (.int (0 : Int32)), (.int (0 : Int32)), (.int (0 : Int32)), (.int (0 : Int32))] := A13
  have N13 := Fr.snoc X13 N12 g_b1
  have Z13 : n0 ≤ h13.size := Nat.le_trans Z12 (Nat.le_of_eq W13.size.symm)
  show Run p e below s _ _ _ (T13.setTop (mkF m 82 #[.val (.int p1), .val (.int p2), .unset, .unset, .unset] [(.ref b1)]))
  refine Run.x_dup (q := 83) X13 hx (hb hby at_82) rfl rfl ?_
  refine Run.x_bipush (q := 85) X13 hx (hb hby at_83) (z := (12 : Int32)) rfl rfl ?_
  refine Run.x_sipush (q := 88) X13 hx (hb hby at_85) (z := (412 : Int32)) rfl rfl ?_
  refine Run.stI X13 hx hZ e13 A_b1 (i := 12) (by decide) (Nat.le_of_ble_eq_true rfl) (hb hby at_88) ?_
  intro T14 h14 X14 e14 W14 A14
  replace A_b1 : Ars Z h14 b1 .int [(.int (400 : Int32)), (.int (401 : Int32)), (.int (403 : Int32)), (.int (404 : Int32)), (.int (408 : Int32)), (.int (413 : Int32)), (.int (429 : Int32)), (.int (503 : Int32)), (.int (399 : Int32)), (.int (402 : Int32)), (.int (407 : Int32)), (.int (409 : Int32)), (.int (412 : Int32)), (.int (0 : Int32)), (.int (0 : Int32)), (.int (0 : Int32))] := A14
  have N14 := Fr.snoc X14 N13 g_b1
  have Z14 : n0 ≤ h14.size := Nat.le_trans Z13 (Nat.le_of_eq W14.size.symm)
  show Run p e below s _ _ _ (T14.setTop (mkF m 89 #[.val (.int p1), .val (.int p2), .unset, .unset, .unset] [(.ref b1)]))
  refine Run.x_dup (q := 90) X14 hx (hb hby at_89) rfl rfl ?_
  refine Run.x_bipush (q := 92) X14 hx (hb hby at_90) (z := (13 : Int32)) rfl rfl ?_
  refine Run.x_sipush (q := 95) X14 hx (hb hby at_92) (z := (430 : Int32)) rfl rfl ?_
  refine Run.stI X14 hx hZ e14 A_b1 (i := 13) (by decide) (Nat.le_of_ble_eq_true rfl) (hb hby at_95) ?_
  intro T15 h15 X15 e15 W15 A15
  replace A_b1 : Ars Z h15 b1 .int [(.int (400 : Int32)), (.int (401 : Int32)), (.int (403 : Int32)), (.int (404 : Int32)), (.int (408 : Int32)), (.int (413 : Int32)), (.int (429 : Int32)), (.int (503 : Int32)), (.int (399 : Int32)), (.int (402 : Int32)), (.int (407 : Int32)), (.int (409 : Int32)), (.int (412 : Int32)), (.int (430 : Int32)), (.int (0 : Int32)), (.int (0 : Int32))] := A15
  have N15 := Fr.snoc X15 N14 g_b1
  have Z15 : n0 ≤ h15.size := Nat.le_trans Z14 (Nat.le_of_eq W15.size.symm)
  show Run p e below s _ _ _ (T15.setTop (mkF m 96 #[.val (.int p1), .val (.int p2), .unset, .unset, .unset] [(.ref b1)]))
  refine Run.x_dup (q := 97) X15 hx (hb hby at_96) rfl rfl ?_
  refine Run.x_bipush (q := 99) X15 hx (hb hby at_97) (z := (14 : Int32)) rfl rfl ?_
  refine Run.x_sipush (q := 102) X15 hx (hb hby at_99) (z := (502 : Int32)) rfl rfl ?_
  refine Run.stI X15 hx hZ e15 A_b1 (i := 14) (by decide) (Nat.le_of_ble_eq_true rfl) (hb hby at_102) ?_
  intro T16 h16 X16 e16 W16 A16
  replace A_b1 : Ars Z h16 b1 .int [(.int (400 : Int32)), (.int (401 : Int32)), (.int (403 : Int32)), (.int (404 : Int32)), (.int (408 : Int32)), (.int (413 : Int32)), (.int (429 : Int32)), (.int (503 : Int32)), (.int (399 : Int32)), (.int (402 : Int32)), (.int (407 : Int32)), (.int (409 : Int32)), (.int (412 : Int32)), (.int (430 : Int32)), (.int (502 : Int32)), (.int (0 : Int32))] := A16
  have N16 := Fr.snoc X16 N15 g_b1
  have Z16 : n0 ≤ h16.size := Nat.le_trans Z15 (Nat.le_of_eq W16.size.symm)
  show Run p e below s _ _ _ (T16.setTop (mkF m 103 #[.val (.int p1), .val (.int p2), .unset, .unset, .unset] [(.ref b1)]))
  refine Run.x_dup (q := 104) X16 hx (hb hby at_103) rfl rfl ?_
  refine Run.x_bipush (q := 106) X16 hx (hb hby at_104) (z := (15 : Int32)) rfl rfl ?_
  refine Run.x_sipush (q := 109) X16 hx (hb hby at_106) (z := (504 : Int32)) rfl rfl ?_
  refine Run.stI X16 hx hZ e16 A_b1 (i := 15) (by decide) (Nat.le_of_ble_eq_true rfl) (hb hby at_109) ?_
  intro T17 h17 X17 e17 W17 A17
  replace A_b1 : Ars Z h17 b1 .int [(.int (400 : Int32)), (.int (401 : Int32)), (.int (403 : Int32)), (.int (404 : Int32)), (.int (408 : Int32)), (.int (413 : Int32)), (.int (429 : Int32)), (.int (503 : Int32)), (.int (399 : Int32)), (.int (402 : Int32)), (.int (407 : Int32)), (.int (409 : Int32)), (.int (412 : Int32)), (.int (430 : Int32)), (.int (502 : Int32)), (.int (504 : Int32))] := A17
  have N17 := Fr.snoc X17 N16 g_b1
  have Z17 : n0 ≤ h17.size := Nat.le_trans Z16 (Nat.le_of_eq W17.size.symm)
  show Run p e below s _ _ _ (T17.setTop (mkF m 110 #[.val (.int p1), .val (.int p2), .unset, .unset, .unset] [(.ref b1)]))
  refine Run.x_astoreN (q := 111) X17 hx #[.val (.int p1), .val (.int p2), .val (.ref b1), .unset, .unset] (hb hby at_110) rfl rfl rfl ?_
  refine Run.x_iloadN (q := 112) X17 hx (hb hby at_111) rfl rfl ?_
  refine Run.x_iconst (q := 113) X17 hx (hb hby at_112) (z := (1 : Int32)) rfl rfl ?_
  refine Run.x_iand (q := 114) X17 hx (hb hby at_113) rfl rfl ?_
  by_cases hc114 : (p2 &&& (1 : Int32)) = (0 : Int32)
  · skip
    refine Run.x_ifNo (q := 117) X17 hx (hb hby at_114) ((if0 _ _).trans (teq hc114).2) rfl ?_
    refine Run.x_iloadN (q := 118) X17 hx (hb hby at_117) rfl rfl ?_
    refine Run.x_istoreN (q := 119) X17 hx #[.val (.int p1), .val (.int p2), .val (.ref b1), .val (.int p1), .unset] (hb hby at_118) rfl rfl ?_
    refine Run.x_goto (q := 131) X17 hx (hb hby at_119) (by decide) (by decide) ?_
    refine Run.x_iloadN (q := 132) X17 hx (hb hby at_131) rfl rfl ?_
    replace S_UNAUTHORIZED := ((((((((((((((((S_UNAUTHORIZED.ext E1).wr W2).wr W3).wr W4).wr W5).wr W6).wr W7).wr W8).wr W9).wr W10).wr W11).wr W12).wr W13).wr W14).wr W15).wr W16).wr W17
    replace S_BAD_REQUEST := ((((((((((((((((S_BAD_REQUEST.ext E1).wr W2).wr W3).wr W4).wr W5).wr W6).wr W7).wr W8).wr W9).wr W10).wr W11).wr W12).wr W13).wr W14).wr W15).wr W16).wr W17
    replace S_FAILED := ((((((((((((((((S_FAILED.ext E1).wr W2).wr W3).wr W4).wr W5).wr W6).wr W7).wr W8).wr W9).wr W10).wr W11).wr W12).wr W13).wr W14).wr W15).wr W16).wr W17
    replace S_BUSY := ((((((((((((((((S_BUSY.ext E1).wr W2).wr W3).wr W4).wr W5).wr W6).wr W7).wr W8).wr W9).wr W10).wr W11).wr W12).wr W13).wr W14).wr W15).wr W16).wr W17
    replace S_FORBIDDEN := ((((((((((((((((S_FORBIDDEN.ext E1).wr W2).wr W3).wr W4).wr W5).wr W6).wr W7).wr W8).wr W9).wr W10).wr W11).wr W12).wr W13).wr W14).wr W15).wr W16).wr W17
    replace S_NOT_FOUND := ((((((((((((((((S_NOT_FOUND.ext E1).wr W2).wr W3).wr W4).wr W5).wr W6).wr W7).wr W8).wr W9).wr W10).wr W11).wr W12).wr W13).wr W14).wr W15).wr W16).wr W17
    replace S_TIMED_OUT := ((((((((((((((((S_TIMED_OUT.ext E1).wr W2).wr W3).wr W4).wr W5).wr W6).wr W7).wr W8).wr W9).wr W10).wr W11).wr W12).wr W13).wr W14).wr W15).wr W16).wr W17
    replace S_PAYLOAD_TOO_LARGE := ((((((((((((((((S_PAYLOAD_TOO_LARGE.ext E1).wr W2).wr W3).wr W4).wr W5).wr W6).wr W7).wr W8).wr W9).wr W10).wr W11).wr W12).wr W13).wr W14).wr W15).wr W16).wr W17
    refine Run.callS X17 hx hZ e17 (y := (⟨"com/example/deliverd/deliverd/Failure", "ofStatus", "(I)Lcom/example/deliverd/deliverd/Failure;"⟩ : MethodName)) hown (hw _ (List.mem_of_getElem? (i := 1) rfl)) (hw _ (List.mem_of_getElem? (i := 2) rfl)) (hw _ (List.mem_of_getElem? (i := 3) rfl)) (hw _ (List.mem_of_getElem? (i := 4) rfl)) (by decide) (argsL := [(.int p1)]) (rest := []) (c_of l Z a0 hw p1 h17 n0 Z17 a1 a2 a3 a4 a5 a6 a7 a8 S_UNAUTHORIZED S_BAD_REQUEST S_FAILED S_BUSY S_FORBIDDEN S_NOT_FOUND S_TIMED_OUT S_PAYLOAD_TOO_LARGE) pd_0 rfl (by rw [hml]; rfl) (W := 0) rfl (by decide) (by decide) (by decide) (by decide) (hb hby at_132) rfl ?_
    intro T18 v18 L18 X18 q18
    obtain ⟨rfl, M18, e18⟩ := q18
    have N18 := Fr.app N17 M18
    show Run p e below s _ _ _ (T18.setTop (mkF m 135 #[.val (.int p1), .val (.int p2), .val (.ref b1), .val (.int p1), .unset] [(.ref (own_sel p1 a1 a2 a3 a4 a5 a6 a7 a8))]))
    refine Run.x_astore (q := 137) X18 hx #[.val (.int p1), .val (.int p2), .val (.ref b1), .val (.int p1), .val (.ref (own_sel p1 a1 a2 a3 a4 a5 a6 a7 a8))] (hb hby at_135) rfl rfl rfl ?_
    refine Run.x_aload (q := 139) X18 hx (hb hby at_137) rfl rfl rfl ?_
    refine Run.x_iloadN (q := 140) X18 hx (hb hby at_139) rfl rfl ?_
    refine Run.callS X18 hx hZ e18 (y := (⟨"com/example/deliverd/deliverd/FailureOfStatusPinLaw", "expected", "(I)Lcom/example/deliverd/deliverd/Failure;"⟩ : MethodName)) hown (hw _ (List.mem_of_getElem? (i := 7) rfl)) (hw _ (List.mem_of_getElem? (i := 8) rfl)) (hw _ (List.mem_of_getElem? (i := 9) rfl)) (hw _ (List.mem_of_getElem? (i := 10) rfl)) (by decide) (argsL := [(.int p1)]) (rest := [(.ref (own_sel p1 a1 a2 a3 a4 a5 a6 a7 a8))]) (c_exp l Z a0 hw p1 h17 n0 Z17 a1 a2 a3 a4 a5 a6 a7 a8 S_UNAUTHORIZED S_BAD_REQUEST S_FAILED S_BUSY S_FORBIDDEN S_NOT_FOUND S_TIMED_OUT S_PAYLOAD_TOO_LARGE) pd_0 rfl (by rw [hml]; rfl) (W := 1) rfl (by decide) (by decide) (by decide) (by decide) (hb hby at_140) rfl ?_
    intro T19 v19 L19 X19 q19
    obtain ⟨rfl, M19, e19⟩ := q19
    have N19 := Fr.app N18 M19
    show Run p e below s _ _ _ (T19.setTop (mkF m 143 #[.val (.int p1), .val (.int p2), .val (.ref b1), .val (.int p1), .val (.ref (own_sel p1 a1 a2 a3 a4 a5 a6 a7 a8))] [(.ref (own_sel p1 a1 a2 a3 a4 a5 a6 a7 a8)), (.ref (own_sel p1 a1 a2 a3 a4 a5 a6 a7 a8))]))
    refine Run.st (B := T19.setTop (mkF m 146 #[.val (.int p1), .val (.int p2), .val (.ref b1), .val (.int p1), .val (.ref (own_sel p1 a1 a2 a3 a4 a5 a6 a7 a8))] [])) (fun t kt => Jvm.RoadKit.acmp (g := (mkF m 143 #[.val (.int p1), .val (.int p2), .val (.ref b1), .val (.int p1), .val (.ref (own_sel p1 a1 a2 a3 a4 a5 a6 a7 a8))] [(.ref (own_sel p1 a1 a2 a3 a4 a5 a6 a7 a8)), (.ref (own_sel p1 a1 a2 a3 a4 a5 a6 a7 a8))])) X19 hx rfl rfl rfl (pc0 := 143) (pc' := 146) (same := true) rfl (hb hby at_143) rfl (decide_eq_true rfl) (by decide) (by decide) kt) ?_
    refine Run.x_iconst (q := 147) X19 hx (hb hby at_146) (z := (1 : Int32)) rfl rfl ?_
    refine Run.x_goto (q := 151) X19 hx (hb hby at_147) (by decide) (by decide) ?_
    refine Run.retN X19 hx hlk e19 (t := .boolean) hret (by simp) (z' := (1 : Int32)) (by decide) (hb hby at_151) (by decide) (by decide) ?_
    exact ⟨rfl, N19⟩
  · skip
    refine Run.x_ifYes (q := 122) X17 hx (hb hby at_114) ((if0 _ _).trans (feq hc114).2) (by decide) (by decide) ?_
    refine Run.x_aloadN (q := 123) X17 hx (hb hby at_122) rfl rfl rfl ?_
    refine Run.x_iloadN (q := 124) X17 hx (hb hby at_123) rfl rfl ?_
    refine Run.x_iconst (q := 125) X17 hx (hb hby at_124) (z := (1 : Int32)) rfl rfl ?_
    refine Run.x_iushr (q := 126) X17 hx (hb hby at_125) rfl rfl ?_
    refine Run.x_bipush (q := 128) X17 hx (hb hby at_126) (z := (15 : Int32)) rfl rfl ?_
    refine Run.x_iand (q := 129) X17 hx (hb hby at_128) rfl rfl ?_
    obtain ⟨ix, hix, hlt⟩ := own_idx ((p2.toUInt32 >>> ((1 : Int32) &&& 31).toUInt32).toInt32)
    obtain ⟨xv, hxv⟩ := ints_at [(400 : Int32), (401 : Int32), (403 : Int32), (404 : Int32), (408 : Int32), (413 : Int32), (429 : Int32), (503 : Int32), (399 : Int32), (402 : Int32), (407 : Int32), (409 : Int32), (412 : Int32), (430 : Int32), (502 : Int32), (504 : Int32)] (i := ix) hlt
    refine Run.ldI X17 hx hZ e17 A_b1 (i := ix) (v := (.int xv)) hix hxv (hb hby at_129) ?_
    show Run p e below s _ _ _ (T17.setTop (mkF m 130 #[.val (.int p1), .val (.int p2), .val (.ref b1), .unset, .unset] [(.int xv)]))
    refine Run.x_istoreN (q := 131) X17 hx #[.val (.int p1), .val (.int p2), .val (.ref b1), .val (.int xv), .unset] (hb hby at_130) rfl rfl ?_
    refine Run.x_iloadN (q := 132) X17 hx (hb hby at_131) rfl rfl ?_
    replace S_UNAUTHORIZED := ((((((((((((((((S_UNAUTHORIZED.ext E1).wr W2).wr W3).wr W4).wr W5).wr W6).wr W7).wr W8).wr W9).wr W10).wr W11).wr W12).wr W13).wr W14).wr W15).wr W16).wr W17
    replace S_BAD_REQUEST := ((((((((((((((((S_BAD_REQUEST.ext E1).wr W2).wr W3).wr W4).wr W5).wr W6).wr W7).wr W8).wr W9).wr W10).wr W11).wr W12).wr W13).wr W14).wr W15).wr W16).wr W17
    replace S_FAILED := ((((((((((((((((S_FAILED.ext E1).wr W2).wr W3).wr W4).wr W5).wr W6).wr W7).wr W8).wr W9).wr W10).wr W11).wr W12).wr W13).wr W14).wr W15).wr W16).wr W17
    replace S_BUSY := ((((((((((((((((S_BUSY.ext E1).wr W2).wr W3).wr W4).wr W5).wr W6).wr W7).wr W8).wr W9).wr W10).wr W11).wr W12).wr W13).wr W14).wr W15).wr W16).wr W17
    replace S_FORBIDDEN := ((((((((((((((((S_FORBIDDEN.ext E1).wr W2).wr W3).wr W4).wr W5).wr W6).wr W7).wr W8).wr W9).wr W10).wr W11).wr W12).wr W13).wr W14).wr W15).wr W16).wr W17
    replace S_NOT_FOUND := ((((((((((((((((S_NOT_FOUND.ext E1).wr W2).wr W3).wr W4).wr W5).wr W6).wr W7).wr W8).wr W9).wr W10).wr W11).wr W12).wr W13).wr W14).wr W15).wr W16).wr W17
    replace S_TIMED_OUT := ((((((((((((((((S_TIMED_OUT.ext E1).wr W2).wr W3).wr W4).wr W5).wr W6).wr W7).wr W8).wr W9).wr W10).wr W11).wr W12).wr W13).wr W14).wr W15).wr W16).wr W17
    replace S_PAYLOAD_TOO_LARGE := ((((((((((((((((S_PAYLOAD_TOO_LARGE.ext E1).wr W2).wr W3).wr W4).wr W5).wr W6).wr W7).wr W8).wr W9).wr W10).wr W11).wr W12).wr W13).wr W14).wr W15).wr W16).wr W17
    refine Run.callS X17 hx hZ e17 (y := (⟨"com/example/deliverd/deliverd/Failure", "ofStatus", "(I)Lcom/example/deliverd/deliverd/Failure;"⟩ : MethodName)) hown (hw _ (List.mem_of_getElem? (i := 1) rfl)) (hw _ (List.mem_of_getElem? (i := 2) rfl)) (hw _ (List.mem_of_getElem? (i := 3) rfl)) (hw _ (List.mem_of_getElem? (i := 4) rfl)) (by decide) (argsL := [(.int xv)]) (rest := []) (c_of l Z a0 hw xv h17 n0 Z17 a1 a2 a3 a4 a5 a6 a7 a8 S_UNAUTHORIZED S_BAD_REQUEST S_FAILED S_BUSY S_FORBIDDEN S_NOT_FOUND S_TIMED_OUT S_PAYLOAD_TOO_LARGE) pd_0 rfl (by rw [hml]; rfl) (W := 0) rfl (by decide) (by decide) (by decide) (by decide) (hb hby at_132) rfl ?_
    intro T20 v20 L20 X20 q20
    obtain ⟨rfl, M20, e20⟩ := q20
    have N20 := Fr.app N17 M20
    show Run p e below s _ _ _ (T20.setTop (mkF m 135 #[.val (.int p1), .val (.int p2), .val (.ref b1), .val (.int xv), .unset] [(.ref (own_sel xv a1 a2 a3 a4 a5 a6 a7 a8))]))
    refine Run.x_astore (q := 137) X20 hx #[.val (.int p1), .val (.int p2), .val (.ref b1), .val (.int xv), .val (.ref (own_sel xv a1 a2 a3 a4 a5 a6 a7 a8))] (hb hby at_135) rfl rfl rfl ?_
    refine Run.x_aload (q := 139) X20 hx (hb hby at_137) rfl rfl rfl ?_
    refine Run.x_iloadN (q := 140) X20 hx (hb hby at_139) rfl rfl ?_
    refine Run.callS X20 hx hZ e20 (y := (⟨"com/example/deliverd/deliverd/FailureOfStatusPinLaw", "expected", "(I)Lcom/example/deliverd/deliverd/Failure;"⟩ : MethodName)) hown (hw _ (List.mem_of_getElem? (i := 7) rfl)) (hw _ (List.mem_of_getElem? (i := 8) rfl)) (hw _ (List.mem_of_getElem? (i := 9) rfl)) (hw _ (List.mem_of_getElem? (i := 10) rfl)) (by decide) (argsL := [(.int xv)]) (rest := [(.ref (own_sel xv a1 a2 a3 a4 a5 a6 a7 a8))]) (c_exp l Z a0 hw xv h17 n0 Z17 a1 a2 a3 a4 a5 a6 a7 a8 S_UNAUTHORIZED S_BAD_REQUEST S_FAILED S_BUSY S_FORBIDDEN S_NOT_FOUND S_TIMED_OUT S_PAYLOAD_TOO_LARGE) pd_0 rfl (by rw [hml]; rfl) (W := 1) rfl (by decide) (by decide) (by decide) (by decide) (hb hby at_140) rfl ?_
    intro T21 v21 L21 X21 q21
    obtain ⟨rfl, M21, e21⟩ := q21
    have N21 := Fr.app N20 M21
    show Run p e below s _ _ _ (T21.setTop (mkF m 143 #[.val (.int p1), .val (.int p2), .val (.ref b1), .val (.int xv), .val (.ref (own_sel xv a1 a2 a3 a4 a5 a6 a7 a8))] [(.ref (own_sel xv a1 a2 a3 a4 a5 a6 a7 a8)), (.ref (own_sel xv a1 a2 a3 a4 a5 a6 a7 a8))]))
    refine Run.st (B := T21.setTop (mkF m 146 #[.val (.int p1), .val (.int p2), .val (.ref b1), .val (.int xv), .val (.ref (own_sel xv a1 a2 a3 a4 a5 a6 a7 a8))] [])) (fun t kt => Jvm.RoadKit.acmp (g := (mkF m 143 #[.val (.int p1), .val (.int p2), .val (.ref b1), .val (.int xv), .val (.ref (own_sel xv a1 a2 a3 a4 a5 a6 a7 a8))] [(.ref (own_sel xv a1 a2 a3 a4 a5 a6 a7 a8)), (.ref (own_sel xv a1 a2 a3 a4 a5 a6 a7 a8))])) X21 hx rfl rfl rfl (pc0 := 143) (pc' := 146) (same := true) rfl (hb hby at_143) rfl (decide_eq_true rfl) (by decide) (by decide) kt) ?_
    refine Run.x_iconst (q := 147) X21 hx (hb hby at_146) (z := (1 : Int32)) rfl rfl ?_
    refine Run.x_goto (q := 151) X21 hx (hb hby at_147) (by decide) (by decide) ?_
    refine Run.retN X21 hx hlk e21 (t := .boolean) hret (by simp) (z' := (1 : Int32)) (by decide) (hb hby at_151) (by decide) (by decide) ?_
    exact ⟨rfl, N21⟩
set_option maxRecDepth 65536 in
set_option maxHeartbeats 40000000 in
theorem comes_1 {Post : Tables → Env → Array Value → State → Outcome → State → Prop} (hpost : ∀ tb e args s v u, (limb_1_1.after args s (.returned v) u = true ∧ limb_1_2.after args s (.returned v) u = true ∧ True) → FrameEnd s (.returned v) u (Jvm.fieldLocs frame_1_writes args s ++ Jvm.arrayLocs frame_1_arrays args s ++ Jvm.staticLocs frame_1_statics s) 16 128 → Post tb e args s (.returned v) u) :
    ArmFor flags0 classFile x code maxLocals ret World_1 tables_1 room_1 Calls_1 rest_1 Pre_1 Post := by
  intro l hfl _ _ p e ha hc hk s m args below hf hA hF happ hP
  obtain ⟨hcalls, hrest, hpre⟩ := hP
  obtain ⟨-, -, -, hnamed, -, -, -, hat⟩ := (Spec.applies_iff hf).mp happ
  obtain ⟨hg, hn⟩ := and_e (Cond.before_iff.mp (show (Jvm.Cond.and given_1 narrow_1).before args s = true from hpre))
  obtain ⟨g1, g2⟩ := and_e hg
  obtain ⟨g3, g4⟩ := and_e g2
  obtain ⟨w0, w1, rfl⟩ : ∃ w0 w1 : Value, args = #[w0, w1] := by
    have hs : args.size = 2 := by simpa [Cond.value, given_1] using g1
    obtain ⟨L⟩ := args
    match L, hs with
    | [w0, w1], _ => exact ⟨w0, w1, rfl⟩
  have hw := fun d (hd : d ∈ tables_1) => atoms_spec (ws := Jvm.Cond.code x code maxLocals ret :: tables_1) hat d (List.mem_cons_of_mem _ hd)
  have hfit : Fit s := fun {y c} hc i hi => by
    obtain ⟨ha, rfl⟩ := Array.getElem?_eq_some_iff.mp hc
    have q := List.all_eq_true.mp ((Array.all_eq_true_iff_forall_mem.mp hF) _ (Array.getElem_mem ha)) i (List.mem_range.mpr hi)
    simpa [Array.getElem?_eq_getElem hi] using q
  obtain ⟨i0, ei0⟩ := is_v g3
  obtain rfl : w0 = (.int i0) := Option.some.inj ei0
  obtain ⟨i1, ei1⟩ := is_v g4
  obtain rfl : w1 = (.int i1) := Option.some.inj ei1
  obtain ⟨x0, y0⟩ := and_e hn
  obtain ⟨a1, ea1⟩ := exa_v x0
  have S1 := Sta.start ea1 (Or.inr ⟨(hw _ (List.mem_of_getElem? (i := 3) rfl)), (hw _ (List.mem_of_getElem? (i := 6) rfl))⟩)
  obtain ⟨x1, y1⟩ := and_e y0
  obtain ⟨a2, ea2⟩ := exa_v x1
  have S2 := Sta.start ea2 (Or.inr ⟨(hw _ (List.mem_of_getElem? (i := 3) rfl)), (hw _ (List.mem_of_getElem? (i := 13) rfl))⟩)
  obtain ⟨x2, y2⟩ := and_e y1
  obtain ⟨a3, ea3⟩ := exa_v x2
  have S3 := Sta.start ea3 (Or.inr ⟨(hw _ (List.mem_of_getElem? (i := 3) rfl)), (hw _ (List.mem_of_getElem? (i := 16) rfl))⟩)
  obtain ⟨x3, y3⟩ := and_e y2
  obtain ⟨a4, ea4⟩ := exa_v x3
  have S4 := Sta.start ea4 (Or.inr ⟨(hw _ (List.mem_of_getElem? (i := 3) rfl)), (hw _ (List.mem_of_getElem? (i := 19) rfl))⟩)
  obtain ⟨x4, y4⟩ := and_e y3
  obtain ⟨a5, ea5⟩ := exa_v x4
  have S5 := Sta.start ea5 (Or.inr ⟨(hw _ (List.mem_of_getElem? (i := 3) rfl)), (hw _ (List.mem_of_getElem? (i := 22) rfl))⟩)
  obtain ⟨x5, y5⟩ := and_e y4
  obtain ⟨a6, ea6⟩ := exa_v x5
  have S6 := Sta.start ea6 (Or.inr ⟨(hw _ (List.mem_of_getElem? (i := 3) rfl)), (hw _ (List.mem_of_getElem? (i := 25) rfl))⟩)
  obtain ⟨x6, y6⟩ := and_e y5
  obtain ⟨a7, ea7⟩ := exa_v x6
  have S7 := Sta.start ea7 (Or.inr ⟨(hw _ (List.mem_of_getElem? (i := 3) rfl)), (hw _ (List.mem_of_getElem? (i := 28) rfl))⟩)
  obtain ⟨a8, ea8⟩ := exa_v y6
  have S8 := Sta.start ea8 (Or.inr ⟨(hw _ (List.mem_of_getElem? (i := 3) rfl)), (hw _ (List.mem_of_getElem? (i := 31) rfl))⟩)
  obtain ⟨n, o, h1, h2, h3, _, L, rfl, ⟨rfl, N⟩, hq⟩ := c_law l s _ hw i0 i1 s.heap s.heap.size (Nat.le_refl _) a1 a2 a3 a4 a5 a6 a7 a8 S1 S2 S3 S4 S5 S6 S7 S8 tables_1 p e ha hc hk s m _ below hf ((Spec.applies_iff_loose hf).mp happ).1 ⟨rfl, State.Warmed39.refl s, rfl⟩ trivial
  refine ⟨n, _, h1, h2, h3, hpost _ _ _ _ _ _ ⟨Cond.after_iff.mpr rfl, Cond.after_iff.mpr (eq_i res_at (Term.int_eval (1)) rfl), trivial⟩ ⟨hq.1, hq.2.1, (hq.2.2.sift fun y hy => Or.inr (N y hy)).mono (by decide) (by decide)⟩⟩
theorem main_1_1 : Claimed_1_1 := comes_1 fun _ _ _ _ _ _ h hF => ⟨h.1, hF⟩
theorem main_1_2 : Claimed_1_2 := comes_1 fun _ _ _ _ _ _ h hF => ⟨h.2.1, hF⟩
end Jvm.Pilot.@@N@@
namespace Jvm.Pilot.@@N@@
open Jvm Jvm.ClassFile Sem Op Lib Jvm.Free Jvm.Stand Jvm.Pilot.@@N@@.Jvm.D
/-! MADE BY PROGRAM (witnessworld.py) out of the Statement's table words and the real class files: 12 classes; the members and pool entries that the words name. The judged class is class 1, her method 2. -/
namespace start1
open Jvm.ClassFile
def u (s : String) : CpInfo := .utf8 (stringToUtf16 s)
/-- a pool by its gaps: so many unusable entries, then the entry; so many at the end -/
def gap : Nat → List CpInfo → List CpInfo
  | 0, r => r
  | n + 1, r => .unusable :: gap n r
def poolList (es : List (Nat × CpInfo)) (last : Nat) : List CpInfo := es.foldr (fun e r => gap e.1 (e.2 :: r)) (gap last [])
def pool (es : List (Nat × CpInfo)) (last : Nat) : Array CpInfo := ⟨poolList es last⟩
def fileOf (pool : Array CpInfo) (this : Nat) (attrs : Array Attribute := #[]) (ms : Array MethodInfo := #[]) (fl : Nat := 33) (sup : Nat := 0) (ifs : Array Nat := #[]) (fds : Array FieldInfo := #[]) : ClassFile where
  minorVersion := 0
  majorVersion := 65
  constantPool := pool
  accessFlags := fl
  thisClass := this
  superClass := sup
  interfaces := ifs
  fields := fds
  methods := ms
  attributes := attrs
def plain (name : String) (sup : Option ClassId) : Class where
  name := name
  kind := .ordinary
  loader := none
  accessFlags := 33
  super := sup
  interfaces := #[]
  cf := none
  fields := #[]
  methods := #[]
  instanceTypes := #[]
  staticTypes := #[]
  resolved := #[]
  callSites := []
  init := .initialized
  statics := none
  mirror := none

def pool0 : Array CpInfo := pool [(5, u "<init>"), (0, u "()V"), (1, .class_ 10), (1, u "java/lang/Object")] 113

def k0m0 : Method := { name := "<init>", desc := "()V", sig := { parameters := [], returnType := none }, accessFlags := 1, code := none }
/-- java/lang/Object -/
def k0 : Class := { plain "java/lang/Object" none with
  accessFlags := 33
  interfaces := #[]
  cf := some (fileOf pool0 8 #[] #[{ accessFlags := 1, nameIndex := 5, descriptorIndex := 6, attributes := #[] }] 33 0 #[] #[])
  fields := #[]
  methods := #[k0m0]
  instanceTypes := #[]
  staticTypes := #[]
  resolved := Array.replicate 124 none
  statics := none }

def pool1 : Array CpInfo := pool [(2, .class_ 4), (1, u "java/lang/Object"), (0, u "<init>"), (0, u "()V"), (0, .fieldref 8 9), (0, .class_ 10), (0, .nameAndType 11 12), (0, u "com/example/deliverd/deliverd/Failure"), (0, u "BAD_REQUEST"), (0, u "Lcom/example/deliverd/deliverd/Failure;"), (0, .fieldref 8 14), (0, .nameAndType 15 12), (0, u "UNAUTHORIZED"), (0, .fieldref 8 17), (0, .nameAndType 18 12), (0, u "FORBIDDEN"), (0, .fieldref 8 20), (0, .nameAndType 21 12), (0, u "NOT_FOUND"), (0, .fieldref 8 23), (0, .nameAndType 24 12), (0, u "TIMED_OUT"), (0, .fieldref 8 26), (0, .nameAndType 27 12), (0, u "PAYLOAD_TOO_LARGE"), (0, .fieldref 8 29), (0, .nameAndType 30 12), (0, u "BUSY"), (0, .fieldref 8 32), (0, .nameAndType 33 12), (0, u "FAILED"), (0, .methodref 8 35), (0, .nameAndType 36 37), (0, u "ofStatus"), (0, u "(I)Lcom/example/deliverd/deliverd/Failure;"), (0, .methodref 39 40), (0, .class_ 41), (0, .nameAndType 42 37), (0, u "com/example/deliverd/deliverd/FailureOfStatusPinLaw"), (0, u "expected"), (3, u "law"), (0, u "(II)Z")] 4

def k1m0 : Method := { name := "<init>", desc := "()V", sig := { parameters := [], returnType := none }, accessFlags := 2, code := none }
def k1c1 : Code := { maxStack := 2, maxLocals := 1, code := method_2_code, exceptionTable := #[], attributes := #[] }
def k1m1 : Method := { name := "expected", desc := "(I)Lcom/example/deliverd/deliverd/Failure;", sig := { parameters := [.int], returnType := some (.object "com/example/deliverd/deliverd/Failure") }, accessFlags := 10, code := some k1c1 }
def k1c2 : Code := { maxStack := 4, maxLocals := 5, code := code, exceptionTable := #[], attributes := #[] }
def k1m2 : Method := { name := "law", desc := "(II)Z", sig := { parameters := [.int, .int], returnType := some .boolean }, accessFlags := 9, code := some k1c2 }
/-- com/example/deliverd/deliverd/FailureOfStatusPinLaw -/
def k1 : Class := { plain "com/example/deliverd/deliverd/FailureOfStatusPinLaw" (some 0) with
  accessFlags := 49
  interfaces := #[]
  cf := some (fileOf pool1 39 #[] #[{ accessFlags := 2, nameIndex := 5, descriptorIndex := 6, attributes := #[] }, { accessFlags := 10, nameIndex := 42, descriptorIndex := 37, attributes := #[] }, { accessFlags := 9, nameIndex := 46, descriptorIndex := 47, attributes := #[] }] 49 2 #[] #[])
  fields := #[]
  methods := #[k1m0, k1m1, k1m2]
  instanceTypes := #[]
  staticTypes := #[]
  resolved := Array.replicate 52 none
  statics := none }

def pool2 : Array CpInfo := pool [(1, .class_ 2), (0, u "java/lang/constant/Constable"), (0, .class_ 4), (0, u "java/lang/Object")] 6

/-- java/lang/constant/Constable -/
def k2 : Class := { plain "java/lang/constant/Constable" (some 0) with
  accessFlags := 1537
  interfaces := #[]
  cf := some (fileOf pool2 1 #[] #[] 1537 3 #[] #[])
  fields := #[]
  methods := #[]
  instanceTypes := #[]
  staticTypes := #[]
  resolved := Array.replicate 11 none
  statics := none }

def pool3 : Array CpInfo := pool [(1, .class_ 2), (0, u "java/lang/Comparable"), (0, .class_ 4), (0, u "java/lang/Object")] 7

/-- java/lang/Comparable -/
def k3 : Class := { plain "java/lang/Comparable" (some 0) with
  accessFlags := 1537
  interfaces := #[]
  cf := some (fileOf pool3 1 #[] #[] 1537 3 #[] #[])
  fields := #[]
  methods := #[]
  instanceTypes := #[]
  staticTypes := #[]
  resolved := Array.replicate 12 none
  statics := none }

def pool4 : Array CpInfo := pool [(1, .class_ 2), (0, u "java/io/Serializable"), (0, .class_ 4), (0, u "java/lang/Object")] 2

/-- java/io/Serializable -/
def k4 : Class := { plain "java/io/Serializable" (some 0) with
  accessFlags := 1537
  interfaces := #[]
  cf := some (fileOf pool4 1 #[] #[] 1537 3 #[] #[])
  fields := #[]
  methods := #[]
  instanceTypes := #[]
  staticTypes := #[]
  resolved := Array.replicate 7 none
  statics := none }

def pool5 : Array CpInfo := pool [(2, .class_ 4), (1, u "java/lang/Enum"), (0, u "name"), (0, u "Ljava/lang/String;"), (2, u "ordinal"), (0, u "I"), (1, .class_ 14), (1, u "java/lang/Object"), (4, u "hash"), (86, .class_ 108), (1, u "java/lang/Enum$EnumDesc"), (2, .class_ 112), (0, u "java/lang/constant/Constable"), (0, .class_ 114), (0, u "java/lang/Comparable"), (0, .class_ 116), (0, u "java/io/Serializable")] 87

/-- java/lang/Enum -/
def k5 : Class := { plain "java/lang/Enum" (some 0) with
  accessFlags := 1057
  interfaces := #[2, 3, 4]
  cf := some (fileOf pool5 2 #[.nestMembers #[106]] #[] 1057 12 #[111, 113, 115] #[{ accessFlags := 18, nameIndex := 5, descriptorIndex := 6, attributes := #[] }, { accessFlags := 18, nameIndex := 9, descriptorIndex := 10, attributes := #[] }, { accessFlags := 2, nameIndex := 19, descriptorIndex := 10, attributes := #[] }])
  fields := #[{ name := "name", type := (.object "java/lang/String"), accessFlags := 18, slot := 0, constantValue := 0 }, { name := "ordinal", type := .int, accessFlags := 18, slot := 1, constantValue := 0 }, { name := "hash", type := .int, accessFlags := 2, slot := 2, constantValue := 0 }]
  methods := #[]
  instanceTypes := #[(.object "java/lang/String"), .int, .int]
  staticTypes := #[]
  resolved := Array.replicate 204 none
  statics := none }

def pool6 : Array CpInfo := pool [(1, .class_ 2), (0, u "com/example/deliverd/deliverd/Failure"), (0, .fieldref 1 4), (0, .nameAndType 5 6), (0, u "BAD_REQUEST"), (0, u "Lcom/example/deliverd/deliverd/Failure;"), (0, .fieldref 1 8), (0, .nameAndType 9 6), (0, u "UNAUTHORIZED"), (0, .fieldref 1 11), (0, .nameAndType 12 6), (0, u "FORBIDDEN"), (0, .fieldref 1 14), (0, .nameAndType 15 6), (0, u "NOT_FOUND"), (0, .fieldref 1 17), (0, .nameAndType 18 6), (0, u "TIMED_OUT"), (0, .fieldref 1 20), (0, .nameAndType 21 6), (0, u "PAYLOAD_TOO_LARGE"), (0, .fieldref 1 23), (0, .nameAndType 24 6), (0, u "BUSY"), (2, u "SOCKET_ERROR"), (2, u "RESOLUTION_ERROR"), (0, .fieldref 1 32), (0, .nameAndType 33 6), (0, u "FAILED"), (2, u "$VALUES"), (0, u "[Lcom/example/deliverd/deliverd/Failure;"), (6, .class_ 46), (1, u "java/lang/Enum"), (8, u "text"), (0, u "Ljava/lang/String;"), (61, u "ofStatus"), (0, u "(I)Lcom/example/deliverd/deliverd/Failure;")] 8

def k6c0 : Code := { maxStack := 1, maxLocals := 1, code := prog_7_method_5_code, exceptionTable := #[], attributes := #[] }
def k6m0 : Method := { name := "ofStatus", desc := "(I)Lcom/example/deliverd/deliverd/Failure;", sig := { parameters := [.int], returnType := some (.object "com/example/deliverd/deliverd/Failure") }, accessFlags := 8, code := some k6c0 }
/-- com/example/deliverd/deliverd/Failure -/
def k6 : Class := { plain "com/example/deliverd/deliverd/Failure" (some 5) with
  accessFlags := 16432
  interfaces := #[]
  cf := some (fileOf pool6 1 #[] #[{ accessFlags := 8, nameIndex := 118, descriptorIndex := 119, attributes := #[] }] 16432 44 #[] #[{ accessFlags := 16409, nameIndex := 5, descriptorIndex := 6, attributes := #[] }, { accessFlags := 16409, nameIndex := 9, descriptorIndex := 6, attributes := #[] }, { accessFlags := 16409, nameIndex := 12, descriptorIndex := 6, attributes := #[] }, { accessFlags := 16409, nameIndex := 15, descriptorIndex := 6, attributes := #[] }, { accessFlags := 16409, nameIndex := 18, descriptorIndex := 6, attributes := #[] }, { accessFlags := 16409, nameIndex := 21, descriptorIndex := 6, attributes := #[] }, { accessFlags := 16409, nameIndex := 24, descriptorIndex := 6, attributes := #[] }, { accessFlags := 16409, nameIndex := 27, descriptorIndex := 6, attributes := #[] }, { accessFlags := 16409, nameIndex := 30, descriptorIndex := 6, attributes := #[] }, { accessFlags := 16409, nameIndex := 33, descriptorIndex := 6, attributes := #[] }, { accessFlags := 18, nameIndex := 55, descriptorIndex := 56, attributes := #[] }, { accessFlags := 4122, nameIndex := 36, descriptorIndex := 37, attributes := #[] }])
  fields := #[{ name := "BAD_REQUEST", type := (.object "com/example/deliverd/deliverd/Failure"), accessFlags := 16409, slot := 0, constantValue := 0 }, { name := "UNAUTHORIZED", type := (.object "com/example/deliverd/deliverd/Failure"), accessFlags := 16409, slot := 1, constantValue := 0 }, { name := "FORBIDDEN", type := (.object "com/example/deliverd/deliverd/Failure"), accessFlags := 16409, slot := 2, constantValue := 0 }, { name := "NOT_FOUND", type := (.object "com/example/deliverd/deliverd/Failure"), accessFlags := 16409, slot := 3, constantValue := 0 }, { name := "TIMED_OUT", type := (.object "com/example/deliverd/deliverd/Failure"), accessFlags := 16409, slot := 4, constantValue := 0 }, { name := "PAYLOAD_TOO_LARGE", type := (.object "com/example/deliverd/deliverd/Failure"), accessFlags := 16409, slot := 5, constantValue := 0 }, { name := "BUSY", type := (.object "com/example/deliverd/deliverd/Failure"), accessFlags := 16409, slot := 6, constantValue := 0 }, { name := "SOCKET_ERROR", type := (.object "com/example/deliverd/deliverd/Failure"), accessFlags := 16409, slot := 7, constantValue := 0 }, { name := "RESOLUTION_ERROR", type := (.object "com/example/deliverd/deliverd/Failure"), accessFlags := 16409, slot := 8, constantValue := 0 }, { name := "FAILED", type := (.object "com/example/deliverd/deliverd/Failure"), accessFlags := 16409, slot := 9, constantValue := 0 }, { name := "text", type := (.object "java/lang/String"), accessFlags := 18, slot := 3, constantValue := 0 }, { name := "$VALUES", type := (.array (.object "com/example/deliverd/deliverd/Failure")), accessFlags := 4122, slot := 10, constantValue := 0 }]
  methods := #[k6m0]
  instanceTypes := #[(.object "java/lang/String"), .int, .int, (.object "java/lang/String")]
  staticTypes := #[(.object "com/example/deliverd/deliverd/Failure"), (.object "com/example/deliverd/deliverd/Failure"), (.object "com/example/deliverd/deliverd/Failure"), (.object "com/example/deliverd/deliverd/Failure"), (.object "com/example/deliverd/deliverd/Failure"), (.object "com/example/deliverd/deliverd/Failure"), (.object "com/example/deliverd/deliverd/Failure"), (.object "com/example/deliverd/deliverd/Failure"), (.object "com/example/deliverd/deliverd/Failure"), (.object "com/example/deliverd/deliverd/Failure"), (.array (.object "com/example/deliverd/deliverd/Failure"))]
  resolved := Array.replicate 128 none
  statics := some 0 }

def pool7 : Array CpInfo := pool [(1, u "java/lang/Cloneable"), (0, .class_ 1), (0, u "java/lang/Object"), (0, .class_ 3)] 3

/-- java/lang/Cloneable -/
def k7 : Class := { plain "java/lang/Cloneable" (some 0) with
  accessFlags := 1537
  interfaces := #[]
  cf := some (fileOf pool7 2 #[] #[] 1537 4 #[] #[])
  fields := #[]
  methods := #[]
  instanceTypes := #[]
  staticTypes := #[]
  resolved := Array.replicate 8 none
  statics := none }

/-- the primitive byte -/
def k8 : Class := { plain "byte" none with kind := .primitive 'B', accessFlags := 0x411 }
/-- [B -/
def k9 : Class := { plain "[B" (some 0) with kind := .array 8 .byte, interfaces := #[7, 4], accessFlags := 1041 }

/-- the primitive int -/
def k10 : Class := { plain "int" none with kind := .primitive 'I', accessFlags := 0x411 }
/-- [I -/
def k11 : Class := { plain "[I" (some 0) with kind := .array 10 .int, interfaces := #[7, 4], accessFlags := 1041 }

def heap : Heap := #[{ cls := 6, slots := #[.ref 2, .ref 1, .ref 5, .ref 6, .ref 7, .ref 8, .ref 4, .null, .null, .ref 3, .null], vm := .statics 6 },
  { cls := 6, slots := #[.null, .int 0, .int 0, .null], vm := .none },
  { cls := 6, slots := #[.null, .int 1, .int 0, .null], vm := .none },
  { cls := 6, slots := #[.null, .int 2, .int 0, .null], vm := .none },
  { cls := 6, slots := #[.null, .int 3, .int 0, .null], vm := .none },
  { cls := 6, slots := #[.null, .int 4, .int 0, .null], vm := .none },
  { cls := 6, slots := #[.null, .int 5, .int 0, .null], vm := .none },
  { cls := 6, slots := #[.null, .int 6, .int 0, .null], vm := .none },
  { cls := 6, slots := #[.null, .int 7, .int 0, .null], vm := .none }]
def classes : Array Class := #[k0, k1, k2, k3, k4, k5, k6, k7, k8, k9, k10, k11]
def interned : List (Array UInt16 × Addr) := []
def slotsUsed : Nat := 43
def theMethod : MethodId := ⟨1, 2⟩
def args0 : Array Value := #[.int 65, .int 66]
def aboutOver (below : List Frame) : State where
  vm := { classes := classes, interned := interned.toArray }
  heap := heap
  slotsUsed := slotsUsed
  threads := #[{ frames := .invoking theMethod args0 :: below }]
def below0 : List Frame := [.native { method := ⟨0, 0⟩, args := #[] }]
def about1 : State := aboutOver below0
def p0 : Program := .bare "" "" ""
def e0 : Env := launch0.env 0 0 0
theorem w_frames : about1.frames = Frame.invoking theMethod args0 :: below0 := rfl
set_option maxRecDepth 65536 in
theorem w_args : argsFit about1.vm theMethod args0 = true := by decide +kernel
set_option maxRecDepth 65536 in
theorem w_heap : heapFits about1 = true := by decide +kernel
set_option maxRecDepth 65536 in
theorem w_runnable : about1.curStatus? = some .runnable := by decide +kernel
set_option maxRecDepth 65536 in
theorem w_alone : about1.alone = true := by decide +kernel
set_option maxRecDepth 65536 in
theorem w_named : about1.methodNamed? x = some theMethod := by decide +kernel
set_option maxRecDepth 65536 in
theorem w_hears : about1.hears theMethod below0 = true := by decide +kernel
set_option maxRecDepth 65536 in
theorem w_ripe : about1.ripe theMethod args0 below0 = true := by decide +kernel
theorem w_running : about1.status = .running := rfl
set_option maxRecDepth 65536 in
theorem w_room : about1.hasRoom e0.platform room_1 = true :=
  launch0.hasRoom_least _ room_1 (by decide +kernel) (by decide +kernel) (by decide +kernel) (by decide +kernel) (by decide +kernel) (by decide +kernel)
theorem allAtoms_all (ts : List Jvm.Cond) (a : Array Jvm.Value) (st : Jvm.State) : (allAtoms ts).before a st = ts.all (fun c => c.before a st) := by
  induction ts with
  | nil => rfl
  | cons c t ih =>
    show (Jvm.Cond.and c (allAtoms t)).before a st = _
    rw [Jvm.Cond.before_and, ih, List.all_cons]
def words1 : List Jvm.Cond := Jvm.Cond.code x code maxLocals ret :: tables_1
/-- a 'code' word, met by the world's own term for the bytes: nothing is compared byte by byte -/
theorem code_word {y : MethodName} {bytes : ByteArray} {mx : Nat} {rt : Option FieldType} {a : Array Value} {s : State} {m : MethodId} {meth : Method} {c : Code} (h1 : s.methodNamed? y = some m) (h2 : s.vm.method? m = some meth) (h3 : meth.code = some c) (h4 : c.code = bytes)
    (h5 : (c.maxLocals == mx && c.exceptionTable.isEmpty && decide (c.maxStack ≤ mostOperands) && decide (meth.sig.returnType = rt) && !meth.locks && decide (parseMethodDescriptor y.desc = some meth.sig)) = true) : (Jvm.Cond.code y bytes mx rt).before a s = true := by
  simp only [Bool.and_eq_true, beq_iff_eq, Bool.not_eq_true', decide_eq_true_eq] at h5
  obtain ⟨⟨⟨⟨⟨g1, g2⟩, g3⟩, g4⟩, g5⟩, g6⟩ := h5
  simp [Cond.before, Cond.holds, Cond.value, h1, h2, h3, h4, g1, g2, g3, g4, g5, g6]
def isCode : Jvm.Cond → Bool
  | .code _ _ _ _ => true
  | _ => false
theorem all_split {L : List Jvm.Cond} {P : Jvm.Cond → Bool} (h1 : L.all (fun c => isCode c || P c) = true) (h2 : ∀ c ∈ L.filter isCode, P c = true) : L.all P = true := by
  refine List.all_eq_true.mpr fun c hc => ?_
  have h := List.all_eq_true.mp h1 c hc
  rcases Bool.eq_false_or_eq_true (isCode c) with hi | hi
  · exact h2 c (List.mem_filter.mpr ⟨hc, hi⟩)
  · simpa [hi] using h
set_option maxRecDepth 65536 in
theorem w_c0 : (Jvm.Cond.code x code maxLocals ret).before args0 about1 = true := code_word (m := ⟨1, 2⟩) (meth := k1m2) (c := k1c2) (by decide +kernel) rfl rfl rfl (by decide +kernel)
set_option maxRecDepth 65536 in
theorem w_c1 : (Jvm.Cond.code ({ cls := "com/example/deliverd/deliverd/Failure", name := "ofStatus", desc := "(I)Lcom/example/deliverd/deliverd/Failure;" } : Jvm.MethodName) prog_7_method_5_code (1 : Nat) (Option.some (Jvm.ClassFile.FieldType.object "com/example/deliverd/deliverd/Failure"))).before args0 about1 = true := code_word (m := ⟨6, 0⟩) (meth := k6m0) (c := k6c0) (by decide +kernel) rfl rfl rfl (by decide +kernel)
set_option maxRecDepth 65536 in
theorem w_c2 : (Jvm.Cond.code ({ cls := "com/example/deliverd/deliverd/FailureOfStatusPinLaw", name := "expected", desc := "(I)Lcom/example/deliverd/deliverd/Failure;" } : Jvm.MethodName) method_2_code (1 : Nat) (Option.some (Jvm.ClassFile.FieldType.object "com/example/deliverd/deliverd/Failure"))).before args0 about1 = true := code_word (m := ⟨1, 1⟩) (meth := k1m1) (c := k1c1) (by decide +kernel) rfl rfl rfl (by decide +kernel)
def codes1 : List Jvm.Cond := [Jvm.Cond.code x code maxLocals ret, Jvm.Cond.code ({ cls := "com/example/deliverd/deliverd/Failure", name := "ofStatus", desc := "(I)Lcom/example/deliverd/deliverd/Failure;" } : Jvm.MethodName) prog_7_method_5_code (1 : Nat) (Option.some (Jvm.ClassFile.FieldType.object "com/example/deliverd/deliverd/Failure")), Jvm.Cond.code ({ cls := "com/example/deliverd/deliverd/FailureOfStatusPinLaw", name := "expected", desc := "(I)Lcom/example/deliverd/deliverd/Failure;" } : Jvm.MethodName) method_2_code (1 : Nat) (Option.some (Jvm.ClassFile.FieldType.object "com/example/deliverd/deliverd/Failure"))]
set_option maxRecDepth 65536 in
theorem codes_eq : words1.filter isCode = codes1 := rfl
theorem w_codes : ∀ c ∈ words1.filter isCode, c.before args0 about1 = true := by
  rw [codes_eq]
  intro c hc
  simp only [codes1, List.mem_cons, List.not_mem_nil, or_false] at hc
  rcases hc with rfl | rfl | rfl
  · exact w_c0
  · exact w_c1
  · exact w_c2
set_option maxRecDepth 65536 in
theorem w_t1 : (words1.take 24).all (fun c => isCode c || c.before args0 about1) = true := by decide +kernel
set_option maxRecDepth 65536 in
theorem w_t2 : (words1.drop 24).all (fun c => isCode c || c.before args0 about1) = true := by decide +kernel
theorem w_tables : (allAtoms (Jvm.Cond.code x code maxLocals ret :: tables_1)).before args0 about1 = true := by
  rw [allAtoms_all]
  show words1.all (fun c => c.before args0 about1) = true
  refine all_split ?_ w_codes
  rw [← List.take_append_drop 24 words1, List.all_append, w_t1, w_t2]
  rfl
set_option maxRecDepth 65536 in
theorem w_case : (Jvm.Cond.and given_1 narrow_1).before args0 about1 = true := by decide +kernel
theorem w_applies : (headSpec (Jvm.Cond.code x code maxLocals ret :: tables_1) room_1).applies x e0.platform about1 = true :=
  (Spec.applies_iff w_frames).mpr ⟨w_running, w_runnable, w_alone, w_named, w_hears, w_ripe, w_room, w_tables⟩
theorem atStart : AtStart classFile x code maxLocals ret World_1 tables_1 room_1 Calls_1 rest_1 Pre_1 launch0 p0 e0 about1 theMethod args0 below0 :=
  ⟨lists_1, trivial, launch0.admits_env _ _ _, launch0.least_env, fairChoices_fair.cas, fairChoices_fair.clock, w_frames, w_args, w_heap, w_applies, trivial, trivial, w_case⟩
end start1
theorem witness_1 : WitnessClaimed_1 := ⟨start1.p0, start1.e0, start1.about1, start1.theMethod, start1.args0, start1.below0, start1.atStart⟩
end Jvm.Pilot.@@N@@
