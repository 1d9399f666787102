import JvmDerived
import JvmDerived.Pilot.@@N@@Statement
import JvmDerived.Pilot.@@N@@Code
set_option linter.unusedVariables false
set_option linter.unusedSimpArgs false
namespace Jvm.OwnRun
open Sem ClassFile Op Lib Jvm.Stand Jvm.Free Jvm.LawKit Jvm.RoadKit
/-- the run that stands at A comes to the end of this invocation, and Q holds there -/
def Run (p : Program) (e : Env) (below : List Frame) (s : State) (Q : Option Value → Heap → List Loc → Prop) (k n : Nat) (A : State) : Prop :=
  ∃ s₂ o, Steps p.tables e below A s₂ ∧ s₂.status = .running ∧ Ended s₂ below o ∧ ∃ v L, o = .returned v ∧ Q v s₂.heap L ∧ FrameEnd s o s₂ L k n
/-- the contract of a body at one heap and one row of arguments -/
def Ctr (l : Launch) (Z : State) (y : MethodName) (bytes : ByteArray) (ml : Nat) (ret : Option FieldType) (rm : Room) (as' : Array Value) (h0 : Heap) (Q : Option Value → Heap → List Loc → Prop) : Prop :=
  ∀ ws : List Jvm.Cond, MetFree l y (head1 (Jvm.Cond.code y bytes ml ret :: ws) rm) (fun a U => a = as' ∧ Z.Warmed39 U.vm ∧ U.heap = h0) (fun _ _ _ _ _ => True) (fun _ U o U' => ∃ v L, o = .returned v ∧ Q v U'.heap L ∧ FrameEnd U o U' L rm.cells rm.slots)
section Laws
variable {p : Program} {l : Launch} {e : Env} {R : Room} {s : State} {m : MethodId} {args : Array Value} {below : List Frame} {meth : Method} {c : Code} {T : State} {locs : List Loc} {cells slots : Nat} {Z : State} {a0 : Array Value} {h h' : Heap}
variable {Q Q' : Option Value → Heap → List Loc → Prop} {k n : Nat}
theorem Run.st {A B : State} (f : ∀ t, Steps p.tables e below B t → Steps p.tables e below A t) (r : Run p e below s Q k n B) : Run p e below s Q k n A := by
  obtain ⟨s₂, o, h1, r⟩ := r
  exact ⟨s₂, o, f _ h1, r⟩
theorem Ctr.of {y : MethodName} {bytes : ByteArray} {ml : Nat} {ret : Option FieldType} {rm : Room} {as' : Array Value} {h0 : Heap} {Ls : Array Slot} (hpl : plainFor y = true) (hef : ∀ m, entryFrame m as' ml = mkF m 0 Ls [])
    (body : ∀ (p : Program) (e : Env) (s : State) (m : MethodId) (below : List Frame) (meth : Method) (c : Code) (T : State), p.tables.exec = Jvm.exec → c.code = bytes → c.maxLocals = ml → s.vm.findClass y.cls = some m.cls → meth.name = y.name → meth.sig.returnType = ret → meth.locks = false → Z.Warmed39 s.vm → T.heap = h0 →
      Stand p l e rm s m as' below meth c T [] 0 0 → Run p e below s Q rm.cells rm.slots (T.setTop (mkF m 0 Ls []))) : Ctr l Z y bytes ml ret rm as' h0 Q := by
  intro ws
  refine MetFree.of_bodySF hpl hisR ?_
  intro p e s m args below meth c s₁ Bd hml0 hP hK
  obtain ⟨rfl, hZ, hh⟩ := hP
  have q := body p e s m below meth c s₁ Bd.exec Bd.bytes hml0 (findClass_of_methodNamed Bd.named) (name_of_methodNamed Bd.named Bd.method).1 Bd.returns Bd.notSynchronized hZ (by rw [← hh, Bd.state]; rfl) (Stand.of_body Bd)
  rw [hef]
  exact q
theorem Run.end_ (X : Stand p l e R s m args below meth c T locs cells slots) (hlk : meth.locks = false) (eT : T.heap = h) {v : Option Value} (hv : meth.sig.returnType = none → v = none) (hc : cells ≤ k) (hn : slots ≤ n) (hQ : Q v h locs) {A : State}
    (f : ∀ fs, (∀ (f : JFrame) (acts : List Action), f.method = m → f.locked = none → f.entered = [] → (doReturn e (T.setTop f) acts v).1 = T.setFrames fs) → Steps p.tables e below A (T.setFrames fs)) : Run p e below s Q k n A := by
  obtain ⟨fs, hr, hrun, hended, hW, hsame⟩ := X.leave (v := v) hv
  exact ⟨_, _, f fs hr, hrun, hended, _, _, rfl, by rw [show (T.setFrames fs).heap = h from eT]; exact hQ, ⟨_, rfl⟩, hW, hsame.mono hc hn⟩
theorem Run.retN (X : Stand p l e R s m args below meth c T locs cells slots) (hx : p.tables.exec = Jvm.exec) (hlk : meth.locks = false) (eT : T.heap = h) {t : FieldType} (hret : meth.sig.returnType = some t) (ht : t = .boolean ∨ t = .byte ∨ t = .char ∨ t = .short) {pc : Nat} {Ls : Array Slot} {z : Int32} {rest : List Value}
    {z' : Int32} (hz : nar t z = z') (hd : decode c.code pc = .ok (.ireturn, 1)) (hc : cells ≤ k) (hn : slots ≤ n) (hQ : Q (some (.int z')) h locs) : Run p e below s Q k n (T.setTop (mkF m pc Ls (.int z :: rest))) :=
  Run.end_ X hlk eT (v := some (.int (nar t z))) (fun q => by rw [hret] at q; cases q) hc hn (hz ▸ hQ) fun fs hr => RoadKit.retN X hx hret ht hd hr
theorem Run.retI (X : Stand p l e R s m args below meth c T locs cells slots) (hx : p.tables.exec = Jvm.exec) (hlk : meth.locks = false) (eT : T.heap = h) (hret : meth.sig.returnType = some .int) {pc : Nat} {Ls : Array Slot} {z : Int32} {rest : List Value}
    (hd : decode c.code pc = .ok (.ireturn, 1)) (hc : cells ≤ k) (hn : slots ≤ n) (hQ : Q (some (.int z)) h locs) : Run p e below s Q k n (T.setTop (mkF m pc Ls (.int z :: rest))) :=
  Run.end_ X hlk eT (v := some (.int z)) (fun q => by rw [hret] at q; cases q) hc hn hQ fun fs hr => RoadKit.retOut X hx hret rfl (Or.inl ⟨rfl, Or.inl rfl, z, rfl⟩) hd hr
theorem Run.retJ (X : Stand p l e R s m args below meth c T locs cells slots) (hx : p.tables.exec = Jvm.exec) (hlk : meth.locks = false) (eT : T.heap = h) (hret : meth.sig.returnType = some .long) {pc : Nat} {Ls : Array Slot} {z : Int64} {rest : List Value}
    (hd : decode c.code pc = .ok (.lreturn, 1)) (hc : cells ≤ k) (hn : slots ≤ n) (hQ : Q (some (.long z)) h locs) : Run p e below s Q k n (T.setTop (mkF m pc Ls (.long z :: rest))) :=
  Run.end_ X hlk eT (v := some (.long z)) (fun q => by rw [hret] at q; cases q) hc hn hQ fun fs hr => RoadKit.retOut X hx hret rfl (Or.inr (Or.inl ⟨rfl, rfl, z, rfl⟩)) hd hr
theorem Run.retA (X : Stand p l e R s m args below meth c T locs cells slots) (hx : p.tables.exec = Jvm.exec) (hlk : meth.locks = false) (eT : T.heap = h) {t : FieldType} (hret : meth.sig.returnType = some t) (ht : t.isReference = true) {w : Value} (hw : w.isRef = true) (hnr : narrow t w = w) {pc : Nat} {Ls : Array Slot} {rest : List Value}
    (hd : decode c.code pc = .ok (.areturn, 1)) (hc : cells ≤ k) (hn : slots ≤ n) (hQ : Q (some w) h locs) : Run p e below s Q k n (T.setTop (mkF m pc Ls (w :: rest))) :=
  Run.end_ X hlk eT (v := some w) (fun q => by rw [hret] at q; cases q) hc hn hQ fun fs hr => RoadKit.retOut X hx hret hnr (Or.inr (Or.inr (Or.inr (Or.inr ⟨rfl, ht, hw⟩)))) hd hr
theorem Run.retV (X : Stand p l e R s m args below meth c T locs cells slots) (hx : p.tables.exec = Jvm.exec) (hlk : meth.locks = false) (eT : T.heap = h) (hret : meth.sig.returnType = none) {pc : Nat} {Ls : Array Slot}
    (hd : decode c.code pc = .ok (.return_, 1)) (hc : cells ≤ k) (hn : slots ≤ n) (hQ : Q none h locs) : Run p e below s Q k n (T.setTop (mkF m pc Ls [])) :=
  Run.end_ X hlk eT (v := none) (fun _ => rfl) hc hn hQ fun fs hr => X.returnOut hx hret hd hr
/-- a call's premises that are alike for every kind of call -/
theorem Ctr.back {y : MethodName} {bytes : ByteArray} {ml : Nat} {ret : Option FieldType} {rm : Room} {as' : Array Value} {len W : Nat} (K : Ctr l Z y bytes ml ret rm as' h Q') (hZ : Z.Warmed39 s.vm) (wc : (Jvm.Cond.code y bytes ml ret).before a0 Z = true) (wz : (Jvm.Cond.initialized y.cls).before a0 Z = true) (hf : rm.frames + 1 ≤ R.frames) (hl : W + (ml + 11) + rm.locals ≤ R.locals) :
    Back l R p e below s args y len W (fun A a => a = as' ∧ A.U.heap = h ∧ A.cells + rm.cells ≤ R.cells ∧ A.slots + rm.slots ≤ R.slots) (fun A _ v B => ∃ L, Q' v B.U.heap L ∧ B.locs = A.locs ++ L ∧ B.cells = A.cells + rm.cells ∧ B.slots = A.slots + rm.slots) := backOf (K []) hZ wc wz hf hl
theorem Run.callS (X : Stand p l e R s m args below meth c T locs cells slots) (hx : p.tables.exec = Jvm.exec) (hZ : Z.Warmed39 s.vm) (eT : T.heap = h) {own : String} {index : Nat} {y : MethodName} {bytes : ByteArray} {ml : Nat} {ret : Option FieldType} {rm : Room}
    (hown : s.vm.findClass own = some m.cls) (w1 : (Jvm.Cond.methodLink own index y).before a0 Z = true) (w2 : (Jvm.Cond.static y).before a0 Z = true) (w3 : (Jvm.Cond.initialized y.cls).before a0 Z = true) (w4 : (Jvm.Cond.code y bytes ml ret).before a0 Z = true)
    (hy : y.cls ≠ "java/lang/invoke/MethodHandle" ∧ y.cls ≠ "java/lang/invoke/VarHandle") {argsL rest : List Value} (K : Ctr l Z y bytes ml ret rm argsL.toArray h Q') {ps : List FieldType} {r : Option FieldType} (hpd : parseMethodDescriptor y.desc = some ⟨ps, r⟩) (hlen : argsL.length = ps.length)
    {pc : Nat} {Ls : Array Slot} (hsz : Ls.size = c.maxLocals) {W : Nat} (hW : (rest.map fun v => v.category).sum = W) (hf : rm.frames + 1 ≤ R.frames) (hl : W + (ml + 11) + rm.locals ≤ R.locals) (hc : cells + rm.cells ≤ R.cells) (hs : slots + rm.slots ≤ R.slots)
    (hd : decode c.code pc = .ok (.invokestatic index, 3)) {st : List Value} (hst : st = argsL.reverse ++ rest)
    (kk : ∀ (T' : State) (v : Option Value) (L : List Loc), Stand p l e R s m args below meth c T' (locs ++ L) (cells + rm.cells) (slots + rm.slots) → Q' v T'.heap L → Run p e below s Q k n (T'.setTop (mkF m (pc + 3) Ls (v.toList ++ rest)))) :
    Run p e below s Q k n (T.setTop (mkF m pc Ls st)) := by
  obtain ⟨v, _, ⟨T', L', k', n'⟩, -, X', ⟨L, hQ, l1, y1, z1⟩, st1⟩ := Jvm.LawKit.callS X hx (y := y) hown (mvT hZ w1) (mvT hZ w2) (mvT hZ w3) (mvT hZ w4) hy (K.back hZ w4 w3 hf hl) (g := mkF m pc Ls st) rfl hsz (argsL := argsL) (rest := rest) (lenOf hpd hlen) hst (by show 2 * 0 + _ ≤ _; rw [hW]; omega) hd (fun _ _ => ⟨rfl, eT, hc, hs⟩)
  dsimp only [Pt.U, Pt.locs, Pt.cells, Pt.slots] at X' l1 y1 z1 st1 hQ
  subst l1 y1 z1
  exact Run.st st1 (kk T' v L X' hQ)
theorem Run.callC (X : Stand p l e R s m args below meth c T locs cells slots) (hx : p.tables.exec = Jvm.exec) (hZ : Z.Warmed39 s.vm) (eT : T.heap = h) {own : String} {index : Nat} {y : MethodName} {bytes : ByteArray} {ml : Nat} {rm : Room}
    (hown : s.vm.findClass own = some m.cls) (hy1 : y.name = "<init>") (w1 : (Jvm.Cond.methodLink own index y).before a0 Z = true) (w2 : (Jvm.Cond.instanceMethod y).before a0 Z = true) (w3 : (Jvm.Cond.initialized y.cls).before a0 Z = true) (w4 : (Jvm.Cond.code y bytes ml none).before a0 Z = true)
    (hy : y.cls ≠ "java/lang/invoke/MethodHandle" ∧ y.cls ≠ "java/lang/invoke/VarHandle") {a : Addr} {argsL rest : List Value} (K : Ctr l Z y bytes ml none rm (.ref a :: argsL).toArray h Q') {ps : List FieldType} {r : Option FieldType} (hpd : parseMethodDescriptor y.desc = some ⟨ps, r⟩) (hlen : argsL.length = ps.length)
    {pc : Nat} {Ls : Array Slot} (hsz : Ls.size = c.maxLocals) {W : Nat} (hW : (rest.map fun v => v.category).sum = W) (hf : rm.frames + 1 ≤ R.frames) (hl : W + (ml + 11) + rm.locals ≤ R.locals) (hc : cells + rm.cells ≤ R.cells) (hs : slots + rm.slots ≤ R.slots)
    (hd : decode c.code pc = .ok (.invokespecial index, 3)) {st : List Value} (hst : st = argsL.reverse ++ .ref a :: rest)
    (kk : ∀ (T' : State) (v : Option Value) (L : List Loc), Stand p l e R s m args below meth c T' (locs ++ L) (cells + rm.cells) (slots + rm.slots) → Q' v T'.heap L → Run p e below s Q k n (T'.setTop (mkF m (pc + 3) Ls (v.toList ++ rest)))) :
    Run p e below s Q k n (T.setTop (mkF m pc Ls st)) := by
  obtain ⟨v, _, ⟨T', L', k', n'⟩, -, X', ⟨L, hQ, l1, y1, z1⟩, st1⟩ := X.specialBack hx (y := y) hy1 hown (mvT hZ w1) (mvT hZ w2) (mvT hZ w4) hy (K.back hZ w4 w3 hf hl) (g := mkF m pc Ls st) rfl hsz (Steps.refl _) (a := a) (argsL := argsL) (rest := rest) (lenOf hpd hlen) hst (by show 2 * 0 + _ ≤ _; rw [hW]; omega) hd (fun _ _ => ⟨rfl, eT, hc, hs⟩)
  dsimp only [Pt.U, Pt.locs, Pt.cells, Pt.slots] at X' l1 y1 z1 st1 hQ
  subst l1 y1 z1
  exact Run.st (fun t q => st1.trans q) (kk T' v L X' hQ)
/-- 'invokevirtual', the body that the receiver's class selects -/
theorem Run.callV (X : Stand p l e R s m args below meth c T locs cells slots) (hx : p.tables.exec = Jvm.exec) (hZ : Z.Warmed39 s.vm) (eT : T.heap = h) {own C : String} {index : Nat} {y z : MethodName} {bytes : ByteArray} {ml : Nat} {ret : Option FieldType} {rm : Room}
    (hown : s.vm.findClass own = some m.cls) (w1 : (Jvm.Cond.methodLink own index y).before a0 Z = true) (w2 : (Jvm.Cond.declares y).before a0 Z = true) (hnf : NotFace s y) (w5 : (Jvm.Cond.selects C y z).before a0 Z = true) (w6 : (Jvm.Cond.instanceMethod z).before a0 Z = true) (w3 : (Jvm.Cond.initialized z.cls).before a0 Z = true) (w4 : (Jvm.Cond.code z bytes ml ret).before a0 Z = true)
    (hy : y.cls ≠ "java/lang/invoke/MethodHandle" ∧ y.cls ≠ "java/lang/invoke/VarHandle") {a : Addr} (E : Exa Z h a C) {argsL rest : List Value} (K : Ctr l Z z bytes ml ret rm (.ref a :: argsL).toArray h Q') {ps : List FieldType} {r : Option FieldType} (hpd : parseMethodDescriptor y.desc = some ⟨ps, r⟩) (hlen : argsL.length = ps.length)
    {pc : Nat} {Ls : Array Slot} (hsz : Ls.size = c.maxLocals) {W : Nat} (hW : (rest.map fun v => v.category).sum = W) (hf : rm.frames + 1 ≤ R.frames) (hl : W + (ml + 11) + rm.locals ≤ R.locals) (hc : cells + rm.cells ≤ R.cells) (hs : slots + rm.slots ≤ R.slots)
    (hd : decode c.code pc = .ok (.invokevirtual index, 3)) {st : List Value} (hst : st = argsL.reverse ++ .ref a :: rest)
    (kk : ∀ (T' : State) (v : Option Value) (L : List Loc), Stand p l e R s m args below meth c T' (locs ++ L) (cells + rm.cells) (slots + rm.slots) → Q' v T'.heap L → Run p e below s Q k n (T'.setTop (mkF m (pc + 3) Ls (v.toList ++ rest)))) :
    Run p e below s Q k n (T.setTop (mkF m pc Ls st)) := by
  obtain ⟨cq, kq, qa, qb, qc⟩ := isOf hZ eT E
  obtain ⟨v, _, ⟨T', L', k', n'⟩, -, X', ⟨L, hQ, l1, y1, z1⟩, st1⟩ := X.virtualBack hx (y := y) (z := z) hown (mvT hZ w1) (mvT hZ w2) hnf (mvT hZ w5) (mvT hZ w6) hy (K.back hZ w4 w3 hf hl) qa qc (g := mkF m pc Ls st) rfl hsz (Steps.refl _) (argsL := argsL) (rest := rest) (lenOf hpd hlen) hst (by show 2 * 0 + _ ≤ _; rw [hW]; omega) hd (fun _ _ => ⟨rfl, eT, hc, hs⟩)
  dsimp only [Pt.U, Pt.locs, Pt.cells, Pt.slots] at X' l1 y1 z1 st1 hQ
  subst l1 y1 z1
  exact Run.st (fun t q => st1.trans q) (kk T' v L X' hQ)
theorem Run.init (X : Stand p l e R s m args below meth c T locs cells slots) (hx : p.tables.exec = Jvm.exec) (hZ : Z.Warmed39 s.vm) (eT : T.heap = h) {own : String} {idx : Nat} (hown : s.vm.findClass own = some m.cls) (w1 : (Jvm.Cond.methodLink own idx Lib.objectInit).before a0 Z = true) (w2 : (Jvm.Cond.instanceMethod Lib.objectInit).before a0 Z = true)
    (w3 : (Jvm.Cond.code Lib.objectInit ⟨#[0xb1]⟩ 1 none).before a0 Z = true) {pc : Nat} {Ls : Array Slot} (hsz : Ls.size = c.maxLocals) {a : Addr} {rest : List Value} (hd : decode c.code pc = .ok (.invokespecial idx, 3)) (hf : 1 ≤ R.frames) {W : Nat} (hW : (rest.map fun v => v.category).sum = W) (hl : W + 12 ≤ R.locals)
    (kk : ∀ (T' : State), Stand p l e R s m args below meth c T' locs cells slots → T'.heap = h → Run p e below s Q k n (T'.setTop (mkF m (pc + 3) Ls rest))) :
    Run p e below s Q k n (T.setTop (mkF m pc Ls (.ref a :: rest))) := by
  obtain ⟨T', X', e', st'⟩ := initO X hx hZ hown w1 w2 w3 eT (g := mkF m pc Ls (.ref a :: rest)) rfl hsz rfl hd hf (W := W) (by show 2 * 0 + _ ≤ _; rw [hW]; omega) hl
  exact Run.st st' (kk T' X' e')
theorem Run.irem (X : Stand p l e R s m args below meth c T locs cells slots) (hx : p.tables.exec = Jvm.exec) {pc : Nat} {Ls : Array Slot} {x y : Int32} {rest : List Value} (hd : decode c.code pc = .ok (.irem, 1)) (hy : y ≠ 0) (r : Run p e below s Q k n (T.setTop (mkF m (pc + 1) Ls (.int (x % y) :: rest)))) :
    Run p e below s Q k n (T.setTop (mkF m pc Ls (.int y :: .int x :: rest))) := Run.st (fun t q => iremM (g := mkF m pc Ls (.int y :: .int x :: rest)) X hx rfl hd rfl hy q) r
theorem Run.lrem (X : Stand p l e R s m args below meth c T locs cells slots) (hx : p.tables.exec = Jvm.exec) {pc : Nat} {Ls : Array Slot} {x y : Int64} {rest : List Value} (hd : decode c.code pc = .ok (.lrem, 1)) (hy : y ≠ 0) (r : Run p e below s Q k n (T.setTop (mkF m (pc + 1) Ls (.long (x % y) :: rest)))) :
    Run p e below s Q k n (T.setTop (mkF m pc Ls (.long y :: .long x :: rest))) := by
  rw [← lrem_mod] at r
  exact Run.st (fun t q => XS.lrem (g := mkF m pc Ls (.long y :: .long x :: rest)) X.here hx rfl hd rfl hy q) r
theorem Run.x_iloadN (X : Stand p l e R s m args below meth c T locs cells slots) (hx : p.tables.exec = Jvm.exec) {pc q : Nat} {Ls : Array Slot} {S : List Value} {j : Fin 4} {v : Int32} (hd : decode c.code pc = .ok (.iload_n j, 1)) (hl : Ls[j.val]? = some (.val (.int v))) (hq : pc + 1 = q) (r : Run p e below s Q k n (T.setTop (mkF m q Ls (.int v :: S)))) : Run p e below s Q k n (T.setTop (mkF m pc Ls (S))) := by
  subst hq; exact Run.st (fun t kt => XS.iloadN X.here hx rfl hd hl kt) r
theorem Run.x_iload (X : Stand p l e R s m args below meth c T locs cells slots) (hx : p.tables.exec = Jvm.exec) {pc q : Nat} {Ls : Array Slot} {S : List Value} {j : Nat} {v : Int32} (hd : decode c.code pc = .ok (.iload j, 2)) (hl : Ls[j]? = some (.val (.int v))) (hq : pc + 2 = q) (r : Run p e below s Q k n (T.setTop (mkF m q Ls (.int v :: S)))) : Run p e below s Q k n (T.setTop (mkF m pc Ls (S))) := by
  subst hq; exact Run.st (fun t kt => XS.iload X.here hx rfl hd hl kt) r
theorem Run.x_lloadN (X : Stand p l e R s m args below meth c T locs cells slots) (hx : p.tables.exec = Jvm.exec) {pc q : Nat} {Ls : Array Slot} {S : List Value} {j : Fin 4} {v : Int64} (hd : decode c.code pc = .ok (.lload_n j, 1)) (hl : Ls[j.val]? = some (.val (.long v))) (hq : pc + 1 = q) (r : Run p e below s Q k n (T.setTop (mkF m q Ls (.long v :: S)))) : Run p e below s Q k n (T.setTop (mkF m pc Ls (S))) := by
  subst hq; exact Run.st (fun t kt => XS.lloadN X.here hx rfl hd hl kt) r
theorem Run.x_lload (X : Stand p l e R s m args below meth c T locs cells slots) (hx : p.tables.exec = Jvm.exec) {pc q : Nat} {Ls : Array Slot} {S : List Value} {j : Nat} {v : Int64} (hd : decode c.code pc = .ok (.lload j, 2)) (hl : Ls[j]? = some (.val (.long v))) (hq : pc + 2 = q) (r : Run p e below s Q k n (T.setTop (mkF m q Ls (.long v :: S)))) : Run p e below s Q k n (T.setTop (mkF m pc Ls (S))) := by
  subst hq; exact Run.st (fun t kt => XS.lload X.here hx rfl hd hl kt) r
theorem Run.x_aloadN (X : Stand p l e R s m args below meth c T locs cells slots) (hx : p.tables.exec = Jvm.exec) {pc q : Nat} {Ls : Array Slot} {S : List Value} {j : Fin 4} {v : Value} (hd : decode c.code pc = .ok (.aload_n j, 1)) (hl : Ls[j.val]? = some (.val v)) (hv : v.isRef = true) (hq : pc + 1 = q) (r : Run p e below s Q k n (T.setTop (mkF m q Ls (v :: S)))) : Run p e below s Q k n (T.setTop (mkF m pc Ls (S))) := by
  subst hq; exact Run.st (fun t kt => XS.aloadN X.here hx rfl hd hl hv kt) r
theorem Run.x_aload (X : Stand p l e R s m args below meth c T locs cells slots) (hx : p.tables.exec = Jvm.exec) {pc q : Nat} {Ls : Array Slot} {S : List Value} {j : Nat} {v : Value} (hd : decode c.code pc = .ok (.aload j, 2)) (hl : Ls[j]? = some (.val v)) (hv : v.isRef = true) (hq : pc + 2 = q) (r : Run p e below s Q k n (T.setTop (mkF m q Ls (v :: S)))) : Run p e below s Q k n (T.setTop (mkF m pc Ls (S))) := by
  subst hq; exact Run.st (fun t kt => XS.aload X.here hx rfl hd hl hv kt) r
theorem Run.x_istoreN (X : Stand p l e R s m args below meth c T locs cells slots) (hx : p.tables.exec = Jvm.exec) {pc q : Nat} {Ls : Array Slot} {S : List Value} {j : Fin 4} {v : Int32} (L' : Array Slot) (hd : decode c.code pc = .ok (.istore_n j, 1)) (hl : storeLocals Ls j.val (.int v) = some L') (hq : pc + 1 = q) (r : Run p e below s Q k n (T.setTop (mkF m q L' (S)))) : Run p e below s Q k n (T.setTop (mkF m pc Ls (.int v :: S))) := by
  subst hq; exact Run.st (fun t kt => XS.istoreN X.here hx rfl hd rfl hl kt) r
theorem Run.x_istore (X : Stand p l e R s m args below meth c T locs cells slots) (hx : p.tables.exec = Jvm.exec) {pc q : Nat} {Ls : Array Slot} {S : List Value} {j : Nat} {v : Int32} (L' : Array Slot) (hd : decode c.code pc = .ok (.istore j, 2)) (hl : storeLocals Ls j (.int v) = some L') (hq : pc + 2 = q) (r : Run p e below s Q k n (T.setTop (mkF m q L' (S)))) : Run p e below s Q k n (T.setTop (mkF m pc Ls (.int v :: S))) := by
  subst hq; exact Run.st (fun t kt => XS.istore X.here hx rfl hd rfl hl kt) r
theorem Run.x_lstoreN (X : Stand p l e R s m args below meth c T locs cells slots) (hx : p.tables.exec = Jvm.exec) {pc q : Nat} {Ls : Array Slot} {S : List Value} {j : Fin 4} {v : Int64} (L' : Array Slot) (hd : decode c.code pc = .ok (.lstore_n j, 1)) (hl : storeLocals Ls j.val (.long v) = some L') (hq : pc + 1 = q) (r : Run p e below s Q k n (T.setTop (mkF m q L' (S)))) : Run p e below s Q k n (T.setTop (mkF m pc Ls (.long v :: S))) := by
  subst hq; exact Run.st (fun t kt => XS.lstoreN X.here hx rfl hd rfl hl kt) r
theorem Run.x_lstore (X : Stand p l e R s m args below meth c T locs cells slots) (hx : p.tables.exec = Jvm.exec) {pc q : Nat} {Ls : Array Slot} {S : List Value} {j : Nat} {v : Int64} (L' : Array Slot) (hd : decode c.code pc = .ok (.lstore j, 2)) (hl : storeLocals Ls j (.long v) = some L') (hq : pc + 2 = q) (r : Run p e below s Q k n (T.setTop (mkF m q L' (S)))) : Run p e below s Q k n (T.setTop (mkF m pc Ls (.long v :: S))) := by
  subst hq; exact Run.st (fun t kt => XS.lstore X.here hx rfl hd rfl hl kt) r
theorem Run.x_astoreN (X : Stand p l e R s m args below meth c T locs cells slots) (hx : p.tables.exec = Jvm.exec) {pc q : Nat} {Ls : Array Slot} {S : List Value} {j : Fin 4} {v : Value} (L' : Array Slot) (hd : decode c.code pc = .ok (.astore_n j, 1)) (hv : v.isRef = true) (hl : storeLocals Ls j.val v = some L') (hq : pc + 1 = q) (r : Run p e below s Q k n (T.setTop (mkF m q L' (S)))) : Run p e below s Q k n (T.setTop (mkF m pc Ls (v :: S))) := by
  subst hq; exact Run.st (fun t kt => XS.astoreN X.here hx rfl hd rfl hv hl kt) r
theorem Run.x_astore (X : Stand p l e R s m args below meth c T locs cells slots) (hx : p.tables.exec = Jvm.exec) {pc q : Nat} {Ls : Array Slot} {S : List Value} {j : Nat} {v : Value} (L' : Array Slot) (hd : decode c.code pc = .ok (.astore j, 2)) (hv : v.isRef = true) (hl : storeLocals Ls j v = some L') (hq : pc + 2 = q) (r : Run p e below s Q k n (T.setTop (mkF m q L' (S)))) : Run p e below s Q k n (T.setTop (mkF m pc Ls (v :: S))) := by
  subst hq; exact Run.st (fun t kt => XS.astore X.here hx rfl hd rfl hv hl kt) r
theorem Run.x_iconst (X : Stand p l e R s m args below meth c T locs cells slots) (hx : p.tables.exec = Jvm.exec) {pc q : Nat} {Ls : Array Slot} {S : List Value} {i : Int} {z : Int32} (hd : decode c.code pc = .ok (.iconst i, 1)) (hz : Int32.ofInt i = z) (hq : pc + 1 = q) (r : Run p e below s Q k n (T.setTop (mkF m q Ls (.int z :: S)))) : Run p e below s Q k n (T.setTop (mkF m pc Ls (S))) := by
  subst hq; subst hz; exact Run.st (fun t kt => XS.iconst X.here hx rfl hd kt) r
theorem Run.x_bipush (X : Stand p l e R s m args below meth c T locs cells slots) (hx : p.tables.exec = Jvm.exec) {pc q : Nat} {Ls : Array Slot} {S : List Value} {i : Int} {z : Int32} (hd : decode c.code pc = .ok (.bipush i, 2)) (hz : (Int8.ofInt i).toInt32 = z) (hq : pc + 2 = q) (r : Run p e below s Q k n (T.setTop (mkF m q Ls (.int z :: S)))) : Run p e below s Q k n (T.setTop (mkF m pc Ls (S))) := by
  subst hq; subst hz; exact Run.st (fun t kt => XS.bipush X.here hx rfl hd kt) r
theorem Run.x_sipush (X : Stand p l e R s m args below meth c T locs cells slots) (hx : p.tables.exec = Jvm.exec) {pc q : Nat} {Ls : Array Slot} {S : List Value} {i : Int} {z : Int32} (hd : decode c.code pc = .ok (.sipush i, 3)) (hz : (Int16.ofInt i).toInt32 = z) (hq : pc + 3 = q) (r : Run p e below s Q k n (T.setTop (mkF m q Ls (.int z :: S)))) : Run p e below s Q k n (T.setTop (mkF m pc Ls (S))) := by
  subst hq; subst hz; exact Run.st (fun t kt => XS.sipush X.here hx rfl hd kt) r
theorem Run.x_lconst (X : Stand p l e R s m args below meth c T locs cells slots) (hx : p.tables.exec = Jvm.exec) {pc q : Nat} {Ls : Array Slot} {S : List Value} {i : Fin 2} {z : Int64} (hd : decode c.code pc = .ok (.lconst i, 1)) (hz : Int64.ofNat i = z) (hq : pc + 1 = q) (r : Run p e below s Q k n (T.setTop (mkF m q Ls (.long z :: S)))) : Run p e below s Q k n (T.setTop (mkF m pc Ls (S))) := by
  subst hq; subst hz; exact Run.st (fun t kt => XS.lconst X.here hx rfl hd kt) r
theorem Run.x_null (X : Stand p l e R s m args below meth c T locs cells slots) (hx : p.tables.exec = Jvm.exec) {pc q : Nat} {Ls : Array Slot} {S : List Value}  (hd : decode c.code pc = .ok (.aconst_null, 1)) (hq : pc + 1 = q) (r : Run p e below s Q k n (T.setTop (mkF m q Ls (.null :: S)))) : Run p e below s Q k n (T.setTop (mkF m pc Ls (S))) := by
  subst hq; exact Run.st (fun t kt => XS.aconstNull X.here hx rfl hd kt) r
theorem Run.x_iadd (X : Stand p l e R s m args below meth c T locs cells slots) (hx : p.tables.exec = Jvm.exec) {pc q : Nat} {Ls : Array Slot} {S : List Value} {x y z : Int32} (hd : decode c.code pc = .ok (.iadd, 1)) (hz : x + y = z) (hq : pc + 1 = q) (r : Run p e below s Q k n (T.setTop (mkF m q Ls (.int z :: S)))) : Run p e below s Q k n (T.setTop (mkF m pc Ls (.int y :: .int x :: S))) := by
  subst hq; subst hz; exact Run.st (fun t kt => XS.iadd X.here hx rfl hd rfl kt) r
theorem Run.x_ladd (X : Stand p l e R s m args below meth c T locs cells slots) (hx : p.tables.exec = Jvm.exec) {pc q : Nat} {Ls : Array Slot} {S : List Value} {x y z : Int64} (hd : decode c.code pc = .ok (.ladd, 1)) (hz : x + y = z) (hq : pc + 1 = q) (r : Run p e below s Q k n (T.setTop (mkF m q Ls (.long z :: S)))) : Run p e below s Q k n (T.setTop (mkF m pc Ls (.long y :: .long x :: S))) := by
  subst hq; subst hz; exact Run.st (fun t kt => XS.ladd X.here hx rfl hd rfl kt) r
theorem Run.x_isub (X : Stand p l e R s m args below meth c T locs cells slots) (hx : p.tables.exec = Jvm.exec) {pc q : Nat} {Ls : Array Slot} {S : List Value} {x y z : Int32} (hd : decode c.code pc = .ok (.isub, 1)) (hz : x - y = z) (hq : pc + 1 = q) (r : Run p e below s Q k n (T.setTop (mkF m q Ls (.int z :: S)))) : Run p e below s Q k n (T.setTop (mkF m pc Ls (.int y :: .int x :: S))) := by
  subst hq; subst hz; exact Run.st (fun t kt => XS.isub X.here hx rfl hd rfl kt) r
theorem Run.x_lsub (X : Stand p l e R s m args below meth c T locs cells slots) (hx : p.tables.exec = Jvm.exec) {pc q : Nat} {Ls : Array Slot} {S : List Value} {x y z : Int64} (hd : decode c.code pc = .ok (.lsub, 1)) (hz : x - y = z) (hq : pc + 1 = q) (r : Run p e below s Q k n (T.setTop (mkF m q Ls (.long z :: S)))) : Run p e below s Q k n (T.setTop (mkF m pc Ls (.long y :: .long x :: S))) := by
  subst hq; subst hz; exact Run.st (fun t kt => XS.lsub X.here hx rfl hd rfl kt) r
theorem Run.x_imul (X : Stand p l e R s m args below meth c T locs cells slots) (hx : p.tables.exec = Jvm.exec) {pc q : Nat} {Ls : Array Slot} {S : List Value} {x y z : Int32} (hd : decode c.code pc = .ok (.imul, 1)) (hz : x * y = z) (hq : pc + 1 = q) (r : Run p e below s Q k n (T.setTop (mkF m q Ls (.int z :: S)))) : Run p e below s Q k n (T.setTop (mkF m pc Ls (.int y :: .int x :: S))) := by
  subst hq; subst hz; exact Run.st (fun t kt => XS.imul X.here hx rfl hd rfl kt) r
theorem Run.x_lmul (X : Stand p l e R s m args below meth c T locs cells slots) (hx : p.tables.exec = Jvm.exec) {pc q : Nat} {Ls : Array Slot} {S : List Value} {x y z : Int64} (hd : decode c.code pc = .ok (.lmul, 1)) (hz : x * y = z) (hq : pc + 1 = q) (r : Run p e below s Q k n (T.setTop (mkF m q Ls (.long z :: S)))) : Run p e below s Q k n (T.setTop (mkF m pc Ls (.long y :: .long x :: S))) := by
  subst hq; subst hz; exact Run.st (fun t kt => XS.lmul X.here hx rfl hd rfl kt) r
theorem Run.x_iand (X : Stand p l e R s m args below meth c T locs cells slots) (hx : p.tables.exec = Jvm.exec) {pc q : Nat} {Ls : Array Slot} {S : List Value} {x y z : Int32} (hd : decode c.code pc = .ok (.iand, 1)) (hz : x &&& y = z) (hq : pc + 1 = q) (r : Run p e below s Q k n (T.setTop (mkF m q Ls (.int z :: S)))) : Run p e below s Q k n (T.setTop (mkF m pc Ls (.int y :: .int x :: S))) := by
  subst hq; subst hz; exact Run.st (fun t kt => XS.iand X.here hx rfl hd rfl kt) r
theorem Run.x_land (X : Stand p l e R s m args below meth c T locs cells slots) (hx : p.tables.exec = Jvm.exec) {pc q : Nat} {Ls : Array Slot} {S : List Value} {x y z : Int64} (hd : decode c.code pc = .ok (.land, 1)) (hz : x &&& y = z) (hq : pc + 1 = q) (r : Run p e below s Q k n (T.setTop (mkF m q Ls (.long z :: S)))) : Run p e below s Q k n (T.setTop (mkF m pc Ls (.long y :: .long x :: S))) := by
  subst hq; subst hz; exact Run.st (fun t kt => XS.land X.here hx rfl hd rfl kt) r
theorem Run.x_ior (X : Stand p l e R s m args below meth c T locs cells slots) (hx : p.tables.exec = Jvm.exec) {pc q : Nat} {Ls : Array Slot} {S : List Value} {x y z : Int32} (hd : decode c.code pc = .ok (.ior, 1)) (hz : x ||| y = z) (hq : pc + 1 = q) (r : Run p e below s Q k n (T.setTop (mkF m q Ls (.int z :: S)))) : Run p e below s Q k n (T.setTop (mkF m pc Ls (.int y :: .int x :: S))) := by
  subst hq; subst hz; exact Run.st (fun t kt => XS.ior X.here hx rfl hd rfl kt) r
theorem Run.x_lor (X : Stand p l e R s m args below meth c T locs cells slots) (hx : p.tables.exec = Jvm.exec) {pc q : Nat} {Ls : Array Slot} {S : List Value} {x y z : Int64} (hd : decode c.code pc = .ok (.lor, 1)) (hz : x ||| y = z) (hq : pc + 1 = q) (r : Run p e below s Q k n (T.setTop (mkF m q Ls (.long z :: S)))) : Run p e below s Q k n (T.setTop (mkF m pc Ls (.long y :: .long x :: S))) := by
  subst hq; subst hz; exact Run.st (fun t kt => XS.lor X.here hx rfl hd rfl kt) r
theorem Run.x_ixor (X : Stand p l e R s m args below meth c T locs cells slots) (hx : p.tables.exec = Jvm.exec) {pc q : Nat} {Ls : Array Slot} {S : List Value} {x y z : Int32} (hd : decode c.code pc = .ok (.ixor, 1)) (hz : x ^^^ y = z) (hq : pc + 1 = q) (r : Run p e below s Q k n (T.setTop (mkF m q Ls (.int z :: S)))) : Run p e below s Q k n (T.setTop (mkF m pc Ls (.int y :: .int x :: S))) := by
  subst hq; subst hz; exact Run.st (fun t kt => XS.ixor X.here hx rfl hd rfl kt) r
theorem Run.x_lxor (X : Stand p l e R s m args below meth c T locs cells slots) (hx : p.tables.exec = Jvm.exec) {pc q : Nat} {Ls : Array Slot} {S : List Value} {x y z : Int64} (hd : decode c.code pc = .ok (.lxor, 1)) (hz : x ^^^ y = z) (hq : pc + 1 = q) (r : Run p e below s Q k n (T.setTop (mkF m q Ls (.long z :: S)))) : Run p e below s Q k n (T.setTop (mkF m pc Ls (.long y :: .long x :: S))) := by
  subst hq; subst hz; exact Run.st (fun t kt => XS.lxor X.here hx rfl hd rfl kt) r
theorem Run.x_ishl (X : Stand p l e R s m args below meth c T locs cells slots) (hx : p.tables.exec = Jvm.exec) {pc q : Nat} {Ls : Array Slot} {S : List Value} {x y z : Int32} (hd : decode c.code pc = .ok (.ishl, 1)) (hz : x <<< (y &&& 31) = z) (hq : pc + 1 = q) (r : Run p e below s Q k n (T.setTop (mkF m q Ls (.int z :: S)))) : Run p e below s Q k n (T.setTop (mkF m pc Ls (.int y :: .int x :: S))) := by
  subst hq; subst hz; exact Run.st (fun t kt => XS.ishl X.here hx rfl hd rfl kt) r
theorem Run.x_ishr (X : Stand p l e R s m args below meth c T locs cells slots) (hx : p.tables.exec = Jvm.exec) {pc q : Nat} {Ls : Array Slot} {S : List Value} {x y z : Int32} (hd : decode c.code pc = .ok (.ishr, 1)) (hz : x >>> (y &&& 31) = z) (hq : pc + 1 = q) (r : Run p e below s Q k n (T.setTop (mkF m q Ls (.int z :: S)))) : Run p e below s Q k n (T.setTop (mkF m pc Ls (.int y :: .int x :: S))) := by
  subst hq; subst hz; exact Run.st (fun t kt => XS.ishr X.here hx rfl hd rfl kt) r
theorem Run.x_iushr (X : Stand p l e R s m args below meth c T locs cells slots) (hx : p.tables.exec = Jvm.exec) {pc q : Nat} {Ls : Array Slot} {S : List Value} {x y z : Int32} (hd : decode c.code pc = .ok (.iushr, 1)) (hz : (x.toUInt32 >>> (y &&& 31).toUInt32).toInt32 = z) (hq : pc + 1 = q) (r : Run p e below s Q k n (T.setTop (mkF m q Ls (.int z :: S)))) : Run p e below s Q k n (T.setTop (mkF m pc Ls (.int y :: .int x :: S))) := by
  subst hq; subst hz; exact Run.st (fun t kt => XS.iushr X.here hx rfl hd rfl kt) r
theorem Run.x_lshl (X : Stand p l e R s m args below meth c T locs cells slots) (hx : p.tables.exec = Jvm.exec) {pc q : Nat} {Ls : Array Slot} {S : List Value} {x z : Int64} {y : Int32} (hd : decode c.code pc = .ok (.lshl, 1)) (hz : x <<< (y &&& 0x3f).toInt64 = z) (hq : pc + 1 = q) (r : Run p e below s Q k n (T.setTop (mkF m q Ls (.long z :: S)))) : Run p e below s Q k n (T.setTop (mkF m pc Ls (.int y :: .long x :: S))) := by
  subst hq; subst hz; exact Run.st (fun t kt => XS.lshl X.here hx rfl hd rfl kt) r
theorem Run.x_lshr (X : Stand p l e R s m args below meth c T locs cells slots) (hx : p.tables.exec = Jvm.exec) {pc q : Nat} {Ls : Array Slot} {S : List Value} {x z : Int64} {y : Int32} (hd : decode c.code pc = .ok (.lshr, 1)) (hz : x >>> (y &&& 0x3f).toInt64 = z) (hq : pc + 1 = q) (r : Run p e below s Q k n (T.setTop (mkF m q Ls (.long z :: S)))) : Run p e below s Q k n (T.setTop (mkF m pc Ls (.int y :: .long x :: S))) := by
  subst hq; subst hz; exact Run.st (fun t kt => XS.lshr X.here hx rfl hd rfl kt) r
theorem Run.x_lushr (X : Stand p l e R s m args below meth c T locs cells slots) (hx : p.tables.exec = Jvm.exec) {pc q : Nat} {Ls : Array Slot} {S : List Value} {x z : Int64} {y : Int32} (hd : decode c.code pc = .ok (.lushr, 1)) (hz : (x.toUInt64 >>> (y &&& 0x3f).toInt64.toUInt64).toInt64 = z) (hq : pc + 1 = q) (r : Run p e below s Q k n (T.setTop (mkF m q Ls (.long z :: S)))) : Run p e below s Q k n (T.setTop (mkF m pc Ls (.int y :: .long x :: S))) := by
  subst hq; subst hz; exact Run.st (fun t kt => XS.lushr X.here hx rfl hd rfl kt) r
theorem Run.x_ineg (X : Stand p l e R s m args below meth c T locs cells slots) (hx : p.tables.exec = Jvm.exec) {pc q : Nat} {Ls : Array Slot} {S : List Value} {x : Int32} {z : Int32} (hd : decode c.code pc = .ok (.ineg, 1)) (hz : -x = z) (hq : pc + 1 = q) (r : Run p e below s Q k n (T.setTop (mkF m q Ls (.int z :: S)))) : Run p e below s Q k n (T.setTop (mkF m pc Ls (.int x :: S))) := by
  subst hq; subst hz; exact Run.st (fun t kt => XS.ineg X.here hx rfl hd rfl kt) r
theorem Run.x_lneg (X : Stand p l e R s m args below meth c T locs cells slots) (hx : p.tables.exec = Jvm.exec) {pc q : Nat} {Ls : Array Slot} {S : List Value} {x : Int64} {z : Int64} (hd : decode c.code pc = .ok (.lneg, 1)) (hz : -x = z) (hq : pc + 1 = q) (r : Run p e below s Q k n (T.setTop (mkF m q Ls (.long z :: S)))) : Run p e below s Q k n (T.setTop (mkF m pc Ls (.long x :: S))) := by
  subst hq; subst hz; exact Run.st (fun t kt => XS.lneg X.here hx rfl hd rfl kt) r
theorem Run.x_i2l (X : Stand p l e R s m args below meth c T locs cells slots) (hx : p.tables.exec = Jvm.exec) {pc q : Nat} {Ls : Array Slot} {S : List Value} {x : Int32} {z : Int64} (hd : decode c.code pc = .ok (.i2l, 1)) (hz : x.toInt64 = z) (hq : pc + 1 = q) (r : Run p e below s Q k n (T.setTop (mkF m q Ls (.long z :: S)))) : Run p e below s Q k n (T.setTop (mkF m pc Ls (.int x :: S))) := by
  subst hq; subst hz; exact Run.st (fun t kt => XS.i2l X.here hx rfl hd rfl kt) r
theorem Run.x_l2i (X : Stand p l e R s m args below meth c T locs cells slots) (hx : p.tables.exec = Jvm.exec) {pc q : Nat} {Ls : Array Slot} {S : List Value} {x : Int64} {z : Int32} (hd : decode c.code pc = .ok (.l2i, 1)) (hz : x.toInt32 = z) (hq : pc + 1 = q) (r : Run p e below s Q k n (T.setTop (mkF m q Ls (.int z :: S)))) : Run p e below s Q k n (T.setTop (mkF m pc Ls (.long x :: S))) := by
  subst hq; subst hz; exact Run.st (fun t kt => XS.l2i X.here hx rfl hd rfl kt) r
theorem Run.x_i2b (X : Stand p l e R s m args below meth c T locs cells slots) (hx : p.tables.exec = Jvm.exec) {pc q : Nat} {Ls : Array Slot} {S : List Value} {x : Int32} {z : Int32} (hd : decode c.code pc = .ok (.i2b, 1)) (hz : x.toInt8.toInt32 = z) (hq : pc + 1 = q) (r : Run p e below s Q k n (T.setTop (mkF m q Ls (.int z :: S)))) : Run p e below s Q k n (T.setTop (mkF m pc Ls (.int x :: S))) := by
  subst hq; subst hz; exact Run.st (fun t kt => XS.i2b X.here hx rfl hd rfl kt) r
theorem Run.x_i2s (X : Stand p l e R s m args below meth c T locs cells slots) (hx : p.tables.exec = Jvm.exec) {pc q : Nat} {Ls : Array Slot} {S : List Value} {x : Int32} {z : Int32} (hd : decode c.code pc = .ok (.i2s, 1)) (hz : x.toInt16.toInt32 = z) (hq : pc + 1 = q) (r : Run p e below s Q k n (T.setTop (mkF m q Ls (.int z :: S)))) : Run p e below s Q k n (T.setTop (mkF m pc Ls (.int x :: S))) := by
  subst hq; subst hz; exact Run.st (fun t kt => XS.i2s X.here hx rfl hd rfl kt) r
theorem Run.x_i2c (X : Stand p l e R s m args below meth c T locs cells slots) (hx : p.tables.exec = Jvm.exec) {pc q : Nat} {Ls : Array Slot} {S : List Value} {x : Int32} {z : Int32} (hd : decode c.code pc = .ok (.i2c, 1)) (hz : x.toUInt32.toUInt16.toUInt32.toInt32 = z) (hq : pc + 1 = q) (r : Run p e below s Q k n (T.setTop (mkF m q Ls (.int z :: S)))) : Run p e below s Q k n (T.setTop (mkF m pc Ls (.int x :: S))) := by
  subst hq; subst hz; exact Run.st (fun t kt => XS.i2c X.here hx rfl hd rfl kt) r
theorem Run.x_lcmp (X : Stand p l e R s m args below meth c T locs cells slots) (hx : p.tables.exec = Jvm.exec) {pc q : Nat} {Ls : Array Slot} {S : List Value} {x y : Int64} (hd : decode c.code pc = .ok (.lcmp, 1)) (hq : pc + 1 = q) (r : Run p e below s Q k n (T.setTop (mkF m q Ls (.int (lcmpW x y) :: S)))) : Run p e below s Q k n (T.setTop (mkF m pc Ls (.long y :: .long x :: S))) := by
  subst hq; exact Run.st (fun t kt => XS.lcmp X.here hx rfl hd rfl kt) r
theorem Run.x_idiv (X : Stand p l e R s m args below meth c T locs cells slots) (hx : p.tables.exec = Jvm.exec) {pc q : Nat} {Ls : Array Slot} {S : List Value} {x y z : Int32} (hd : decode c.code pc = .ok (.idiv, 1)) (hy : y ≠ 0) (hz : x / y = z) (hq : pc + 1 = q) (r : Run p e below s Q k n (T.setTop (mkF m q Ls (.int z :: S)))) : Run p e below s Q k n (T.setTop (mkF m pc Ls (.int y :: .int x :: S))) := by
  subst hq; subst hz; exact Run.st (fun t kt => XS.idiv X.here hx rfl hd rfl hy kt) r
theorem Run.x_ldiv (X : Stand p l e R s m args below meth c T locs cells slots) (hx : p.tables.exec = Jvm.exec) {pc q : Nat} {Ls : Array Slot} {S : List Value} {x y z : Int64} (hd : decode c.code pc = .ok (.ldiv, 1)) (hy : y ≠ 0) (hz : x / y = z) (hq : pc + 1 = q) (r : Run p e below s Q k n (T.setTop (mkF m q Ls (.long z :: S)))) : Run p e below s Q k n (T.setTop (mkF m pc Ls (.long y :: .long x :: S))) := by
  subst hq; subst hz; exact Run.st (fun t kt => XS.ldiv X.here hx rfl hd rfl hy kt) r
theorem Run.x_irem (X : Stand p l e R s m args below meth c T locs cells slots) (hx : p.tables.exec = Jvm.exec) {pc q : Nat} {Ls : Array Slot} {S : List Value} {x y z : Int32} (hd : decode c.code pc = .ok (.irem, 1)) (hy : y ≠ 0) (hz : x % y = z) (hq : pc + 1 = q) (r : Run p e below s Q k n (T.setTop (mkF m q Ls (.int z :: S)))) : Run p e below s Q k n (T.setTop (mkF m pc Ls (.int y :: .int x :: S))) := by
  subst hq; subst hz; exact Run.st (fun t kt => iremM (g := mkF m pc Ls (.int y :: .int x :: S)) X hx rfl hd rfl hy kt) r
theorem Run.x_lrem (X : Stand p l e R s m args below meth c T locs cells slots) (hx : p.tables.exec = Jvm.exec) {pc q : Nat} {Ls : Array Slot} {S : List Value} {x y z : Int64} (hd : decode c.code pc = .ok (.lrem, 1)) (hy : y ≠ 0) (hz : x % y = z) (hq : pc + 1 = q) (r : Run p e below s Q k n (T.setTop (mkF m q Ls (.long z :: S)))) : Run p e below s Q k n (T.setTop (mkF m pc Ls (.long y :: .long x :: S))) := by
  subst hq; subst hz; rw [← lrem_mod] at r; exact Run.st (fun t kt => XS.lrem X.here hx rfl hd rfl hy kt) r
theorem Run.x_iinc (X : Stand p l e R s m args below meth c T locs cells slots) (hx : p.tables.exec = Jvm.exec) {pc q : Nat} {Ls : Array Slot} {S : List Value} {j : Nat} {i : Int} {x z : Int32} (L' : Array Slot) (hd : decode c.code pc = .ok (.iinc j i, 3)) (hl : Ls[j]? = some (.val (.int x))) (hz : x + Int32.ofInt i = z) (hl' : storeLocals Ls j (.int z) = some L') (hq : pc + 3 = q) (r : Run p e below s Q k n (T.setTop (mkF m q L' (S)))) : Run p e below s Q k n (T.setTop (mkF m pc Ls (S))) := by
  subst hq; subst hz; exact Run.st (fun t kt => XS.iinc X.here hx rfl hd hl hl' kt) r
theorem Run.x_dup (X : Stand p l e R s m args below meth c T locs cells slots) (hx : p.tables.exec = Jvm.exec) {pc q : Nat} {Ls : Array Slot} {S : List Value} {v : Value} (hd : decode c.code pc = .ok (.dup, 1)) (hc : v.category = 1) (hq : pc + 1 = q) (r : Run p e below s Q k n (T.setTop (mkF m q Ls (v :: v :: S)))) : Run p e below s Q k n (T.setTop (mkF m pc Ls (v :: S))) := by
  subst hq; exact Run.st (fun t kt => XS.dup X.here hx rfl hd rfl hc kt) r
theorem Run.x_dup_x1 (X : Stand p l e R s m args below meth c T locs cells slots) (hx : p.tables.exec = Jvm.exec) {pc q : Nat} {Ls : Array Slot} {S : List Value} {v w : Value} (hd : decode c.code pc = .ok (.dup_x1, 1)) (hc : v.category = 1) (hc' : w.category = 1) (hq : pc + 1 = q) (r : Run p e below s Q k n (T.setTop (mkF m q Ls (v :: w :: v :: S)))) : Run p e below s Q k n (T.setTop (mkF m pc Ls (v :: w :: S))) := by
  subst hq; exact Run.st (fun t kt => XS.dupX1 X.here hx rfl hd rfl hc hc' kt) r
theorem Run.x_dup2 (X : Stand p l e R s m args below meth c T locs cells slots) (hx : p.tables.exec = Jvm.exec) {pc q : Nat} {Ls : Array Slot} {S : List Value} {v w : Value} (hd : decode c.code pc = .ok (.dup2, 1)) (hc : v.category = 1) (hc' : w.category = 1) (hq : pc + 1 = q) (r : Run p e below s Q k n (T.setTop (mkF m q Ls (v :: w :: v :: w :: S)))) : Run p e below s Q k n (T.setTop (mkF m pc Ls (v :: w :: S))) := by
  subst hq; exact Run.st (fun t kt => XT.dup2 X.here hx rfl hd rfl hc hc' kt) r
theorem Run.x_pop (X : Stand p l e R s m args below meth c T locs cells slots) (hx : p.tables.exec = Jvm.exec) {pc q : Nat} {Ls : Array Slot} {S : List Value} {v : Value} (hd : decode c.code pc = .ok (.pop, 1)) (hc : v.category = 1) (hq : pc + 1 = q) (r : Run p e below s Q k n (T.setTop (mkF m q Ls (S)))) : Run p e below s Q k n (T.setTop (mkF m pc Ls (v :: S))) := by
  subst hq; exact Run.st (fun t kt => XS.pop X.here hx rfl hd rfl hc kt) r
theorem Run.x_goto (X : Stand p l e R s m args below meth c T locs cells slots) (hx : p.tables.exec = Jvm.exec) {pc q : Nat} {Ls : Array Slot} {S : List Value}  {o : Int} (hd : decode c.code pc = .ok (.goto o, 3)) (ho : 0 ≤ (pc : Int) + o) (hq : ((pc : Int) + o).toNat = q) (r : Run p e below s Q k n (T.setTop (mkF m q Ls (S)))) : Run p e below s Q k n (T.setTop (mkF m pc Ls (S))) :=
  Run.st (fun t kt => XS.goto X.here hx rfl (pc0 := pc) (pc' := q) rfl hd ho hq kt) r
theorem Run.x_ifYes (X : Stand p l e R s m args below meth c T locs cells slots) (hx : p.tables.exec = Jvm.exec) {pc q : Nat} {Ls : Array Slot} {S : List Value} {cd : ClassFile.Cond} {x : Int32} {o : Int} (hd : decode c.code pc = .ok (.ifCond cd o, 3)) (hc : ifCond.holds cd x = true) (ho : 0 ≤ (pc : Int) + o) (hq : ((pc : Int) + o).toNat = q) (r : Run p e below s Q k n (T.setTop (mkF m q Ls (S)))) : Run p e below s Q k n (T.setTop (mkF m pc Ls (.int x :: S))) :=
  Run.st (fun t kt => XS.ifYes X.here hx rfl (pc0 := pc) (pc' := q) rfl hd rfl hc ho hq kt) r
theorem Run.x_icmpYes (X : Stand p l e R s m args below meth c T locs cells slots) (hx : p.tables.exec = Jvm.exec) {pc q : Nat} {Ls : Array Slot} {S : List Value} {cd : ClassFile.Cond} {x y : Int32} {o : Int} (hd : decode c.code pc = .ok (.if_icmp cd o, 3)) (hc : if_icmp.holds cd x y = true) (ho : 0 ≤ (pc : Int) + o) (hq : ((pc : Int) + o).toNat = q) (r : Run p e below s Q k n (T.setTop (mkF m q Ls (S)))) : Run p e below s Q k n (T.setTop (mkF m pc Ls (.int y :: .int x :: S))) :=
  Run.st (fun t kt => XS.icmpYes X.here hx rfl (pc0 := pc) (pc' := q) rfl hd rfl hc ho hq kt) r
theorem Run.x_ifNo (X : Stand p l e R s m args below meth c T locs cells slots) (hx : p.tables.exec = Jvm.exec) {pc q : Nat} {Ls : Array Slot} {S : List Value} {cd : ClassFile.Cond} {x : Int32} {o : Int} (hd : decode c.code pc = .ok (.ifCond cd o, 3)) (hc : ifCond.holds cd x = false) (hq : pc + 3 = q) (r : Run p e below s Q k n (T.setTop (mkF m q Ls (S)))) : Run p e below s Q k n (T.setTop (mkF m pc Ls (.int x :: S))) := by
  subst hq; exact Run.st (fun t kt => XS.ifNo X.here hx rfl hd rfl hc kt) r
theorem Run.x_icmpNo (X : Stand p l e R s m args below meth c T locs cells slots) (hx : p.tables.exec = Jvm.exec) {pc q : Nat} {Ls : Array Slot} {S : List Value} {cd : ClassFile.Cond} {x y : Int32} {o : Int} (hd : decode c.code pc = .ok (.if_icmp cd o, 3)) (hc : if_icmp.holds cd x y = false) (hq : pc + 3 = q) (r : Run p e below s Q k n (T.setTop (mkF m q Ls (S)))) : Run p e below s Q k n (T.setTop (mkF m pc Ls (.int y :: .int x :: S))) := by
  subst hq; exact Run.st (fun t kt => XS.icmpNo X.here hx rfl hd rfl hc kt) r
/-- an array and all that it holds -/
def Ars (Z : State) (h : Heap) (a : Addr) (ty : FieldType) (vs : List Value) : Prop := ∃ c : Cell, Arr Z h a c ty ∧ c.slots.toList = vs
variable {a b : Addr} {ty : FieldType} {vs : List Value} {v : Value} {sl : Nat} {ws : List Addr}
theorem Ars.lt (A : Ars Z h a ty vs) : a < h.size := by obtain ⟨c, A, -⟩ := A; exact A.lt
theorem Ars.ext (A : Ars Z h a ty vs) (E : Ext h h') : Ars Z h' a ty vs := by obtain ⟨c, A, r⟩ := A; exact ⟨c, A.ext E, r⟩
theorem Ars.other (A : Ars Z h b ty vs) (W : Wr h h' a sl v) (q : b ≠ a) : Ars Z h' b ty vs := by obtain ⟨c, A, r⟩ := A; exact ⟨c, A.other W q, r⟩
theorem Ars.keep (A : Ars Z h a ty vs) (K : Keep h h' ws) (q : a ∉ ws) : Ars Z h' a ty vs := by obtain ⟨c, A, r⟩ := A; exact ⟨c, ⟨K.2.1 a c A.1 q, A.2⟩, r⟩
theorem Ars.same (A : Ars Z h a ty vs) (W : Wr h h' a sl v) : Ars Z h' a ty (vs.set sl v) := by
  obtain ⟨c, A, r⟩ := A
  exact ⟨_, A.same W, by subst r; simp [Cell.setSlot]⟩
theorem Ars.new {k : ClassId} {z : Int32} (A : Arr Z h a (newA k ty z) ty) : Ars Z h a ty (List.replicate z.toNatClampNeg (defaultValue ty)) := ⟨_, A, by simp [newA]⟩
theorem in_of {c : Cell} {j : Int32} {i : Nat} (e : c.slots.toList = vs) (hj : j.toInt = i) (hi : i < vs.length) : ¬ (j < 0 ∨ c.slots.size ≤ j.toNatClampNeg) ∧ j.toNatClampNeg = i := by
  have e2 : j.toNatClampNeg = i := by show j.toInt.toNat = i; rw [hj]; rfl
  have e3 : c.slots.size = vs.length := by rw [← e]; simp
  refine ⟨?_, e2⟩
  rw [e2, e3, Int32.lt_iff_toInt_lt, hj]
  have : (0 : Int32).toInt = 0 := rfl
  omega
theorem at_of {c : Cell} {j : Int32} {i : Nat} (e : c.slots.toList = vs) (hj : j.toInt = i) (hi : vs[i]? = some v) : ¬ (j < 0 ∨ c.slots.size ≤ j.toNatClampNeg) ∧ c.slots[j.toNatClampNeg]? = some v := by
  obtain ⟨q, e2⟩ := in_of e hj (List.getElem?_eq_some_iff.mp hi).1
  refine ⟨q, ?_⟩
  rw [e2, ← hi, ← e]; simp
theorem Run.newP (X : Stand p l e R s m args below meth c T locs cells slots) (hx : p.tables.exec = Jvm.exec) (hZ : Z.Warmed39 s.vm) (eT : T.heap = h) {aty : ArrayType} (w : (Jvm.Cond.arrayClass (newarray.typeOf aty)).before a0 Z = true) {pc : Nat} {Ls : Array Slot} {z : Int32} {rest : List Value} (hd : decode c.code pc = .ok (.newarray aty, 2))
    {len : Nat} (hz : ¬ z < 0) (hlen : z.toNatClampNeg = len) {cap : Nat} (hcap : len ≤ cap) (hb : cap * 8 ≤ 536870912) (hc : cells + 1 ≤ R.cells) (hl : slots + cap ≤ R.slots)
    (kk : ∀ (T' : State) (h' : Heap) (b : Addr), b = h.size → Stand p l e R s m args below meth c T' locs (cells + 1) (slots + cap) → T'.heap = h' → Ext h h' → Ars Z h' b (newarray.typeOf aty) (List.replicate len (defaultValue (newarray.typeOf aty))) → Run p e below s Q k n (T'.setTop (mkF m (pc + 2) Ls (.ref b :: rest)))) :
    Run p e below s Q k n (T.setTop (mkF m pc Ls (.int z :: rest))) := by
  obtain ⟨T', h', k', X', e', E', A', st'⟩ := RoadKit.newP X hx hZ w eT (g := mkF m pc Ls (.int z :: rest)) rfl hd rfl hz (cap := cap) (by rw [hlen]; exact hcap) hb hc hl
  have A2 := Ars.new A'
  rw [hlen] at A2
  exact Run.st st' (kk T' h' _ rfl X' e' E' A2)
theorem Run.newR (X : Stand p l e R s m args below meth c T locs cells slots) (hx : p.tables.exec = Jvm.exec) (hZ : Z.Warmed39 s.vm) (eT : T.heap = h) {own C : String} {index : Nat} (hown : s.vm.findClass own = some m.cls) (w1 : (Jvm.Cond.classLink own index C).before a0 Z = true) (w2 : (Jvm.Cond.arrayOver (.object C)).before a0 Z = true) {pc : Nat} {Ls : Array Slot} {z : Int32} {rest : List Value} (hd : decode c.code pc = .ok (.anewarray index, 3))
    {len : Nat} (hz : ¬ z < 0) (hlen : z.toNatClampNeg = len) {cap : Nat} (hcap : len ≤ cap) (hb : cap * 8 ≤ 536870912) (hc : cells + 1 ≤ R.cells) (hl : slots + cap ≤ R.slots)
    (kk : ∀ (T' : State) (h' : Heap) (b : Addr), b = h.size → Stand p l e R s m args below meth c T' locs (cells + 1) (slots + cap) → T'.heap = h' → Ext h h' → Ars Z h' b (.object C) (List.replicate len .null) → Run p e below s Q k n (T'.setTop (mkF m (pc + 3) Ls (.ref b :: rest)))) :
    Run p e below s Q k n (T.setTop (mkF m pc Ls (.int z :: rest))) := by
  obtain ⟨T', h', k', X', e', E', A', -, st'⟩ := RoadKit.newR X hx hZ hown w1 w2 eT (g := mkF m pc Ls (.int z :: rest)) rfl hd rfl hz (cap := cap) (by rw [hlen]; exact hcap) hb hc hl
  have A2 := Ars.new A'
  rw [hlen] at A2
  exact Run.st st' (kk T' h' _ rfl X' e' E' A2)
theorem Run.newPE (X : Stand p l e R s m args below meth c T locs cells slots) (hx : p.tables.exec = Jvm.exec) (hZ : Z.Warmed39 s.vm) (eT : T.heap = h) {aty : ArrayType} (w : (Jvm.Cond.arrayClass (newarray.typeOf aty)).before a0 Z = true) {pc : Nat} {Ls : Array Slot} {z : Int32} {rest : List Value} (hd : decode c.code pc = .ok (.newarray aty, 2))
    {len : Nat} (hz : ¬ z < 0) (hlen : z.toNatClampNeg = len) {cap : Nat} (hcap : len ≤ cap) (hb : cap * 8 ≤ 536870912) (hc : cells + 1 ≤ R.cells) (hl : slots + cap ≤ R.slots) {ad : String} (had : "[" ++ (newarray.typeOf aty).toString = ad)
    (kk : ∀ (T' : State) (h' : Heap) (b : Addr), b = h.size → Stand p l e R s m args below meth c T' locs (cells + 1) (slots + cap) → T'.heap = h' → Ext h h' → Ars Z h' b (newarray.typeOf aty) (List.replicate len (defaultValue (newarray.typeOf aty))) → Exa Z h' b ad → Run p e below s Q k n (T'.setTop (mkF m (pc + 2) Ls (.ref b :: rest)))) :
    Run p e below s Q k n (T.setTop (mkF m pc Ls (.int z :: rest))) := by
  obtain ⟨T', h', k', X', e', E', A', B', st'⟩ := RoadKit.newPE X hx hZ w eT (g := mkF m pc Ls (.int z :: rest)) rfl hd rfl hz (cap := cap) (by rw [hlen]; exact hcap) hb hc hl had
  have A2 := Ars.new A'
  rw [hlen] at A2
  exact Run.st st' (kk T' h' _ rfl X' e' E' A2 B')
theorem Run.newRA (X : Stand p l e R s m args below meth c T locs cells slots) (hx : p.tables.exec = Jvm.exec) (hZ : Z.Warmed39 s.vm) (eT : T.heap = h) {own C : String} {ty : FieldType} {index : Nat} (hown : s.vm.findClass own = some m.cls) (hC : (FieldType.array ty).toString = C) (w1 : (Jvm.Cond.classLink own index C).before a0 Z = true) (w2 : (Jvm.Cond.arrayOver (.array ty)).before a0 Z = true) {pc : Nat} {Ls : Array Slot} {z : Int32} {rest : List Value} (hd : decode c.code pc = .ok (.anewarray index, 3))
    {len : Nat} (hz : ¬ z < 0) (hlen : z.toNatClampNeg = len) {cap : Nat} (hcap : len ≤ cap) (hb : cap * 8 ≤ 536870912) (hc : cells + 1 ≤ R.cells) (hl : slots + cap ≤ R.slots) {ad : String} (had : "[" ++ C = ad)
    (kk : ∀ (T' : State) (h' : Heap) (b : Addr), b = h.size → Stand p l e R s m args below meth c T' locs (cells + 1) (slots + cap) → T'.heap = h' → Ext h h' → Ars Z h' b (.array ty) (List.replicate len .null) → Exa Z h' b ad → (∃ cl : Cell, h'[b]? = some cl ∧ OvrA Z cl.cls ty C) → Run p e below s Q k n (T'.setTop (mkF m (pc + 3) Ls (.ref b :: rest)))) :
    Run p e below s Q k n (T.setTop (mkF m pc Ls (.int z :: rest))) := by
  obtain ⟨T', h', k', X', e', E', A', B', O', st'⟩ := RoadKit.newRA X hx hZ hown hC w1 w2 eT (g := mkF m pc Ls (.int z :: rest)) rfl hd rfl hz (cap := cap) (by rw [hlen]; exact hcap) hb hc hl had
  have A2 := Ars.new A'
  rw [hlen] at A2
  exact Run.st st' (kk T' h' _ rfl X' e' E' A2 B' ⟨_, A'.1, O'⟩)
theorem Run.ldI (X : Stand p l e R s m args below meth c T locs cells slots) (hx : p.tables.exec = Jvm.exec) (hZ : Z.Warmed39 s.vm) (eT : T.heap = h) (A : Ars Z h a .int vs) {j : Int32} {i : Nat} (hj : j.toInt = i) (hi : vs[i]? = some v) {pc : Nat} {Ls : Array Slot} {rest : List Value} (hd : decode c.code pc = .ok (.iaload, 1))
    (r : Run p e below s Q k n (T.setTop (mkF m (pc + 1) Ls (v :: rest)))) : Run p e below s Q k n (T.setTop (mkF m pc Ls (.int j :: .ref a :: rest))) := by
  obtain ⟨cl, A, q⟩ := A
  obtain ⟨q1, q2⟩ := at_of q hj hi
  exact Run.st (fun t kt => X.iaload hx (j := j) (v := v) (by rw [eT]; exact A.1) (State.isArrayOf_alike hZ.alike A.2.1) A.2.2 q1 q2 (g := mkF m pc Ls (.int j :: .ref a :: rest)) rfl rfl hd _ kt) r
theorem Run.ldC (X : Stand p l e R s m args below meth c T locs cells slots) (hx : p.tables.exec = Jvm.exec) (hZ : Z.Warmed39 s.vm) (eT : T.heap = h) (A : Ars Z h a .char vs) {j : Int32} {i : Nat} (hj : j.toInt = i) (hi : vs[i]? = some v) {pc : Nat} {Ls : Array Slot} {rest : List Value} (hd : decode c.code pc = .ok (.caload, 1))
    (r : Run p e below s Q k n (T.setTop (mkF m (pc + 1) Ls (v :: rest)))) : Run p e below s Q k n (T.setTop (mkF m pc Ls (.int j :: .ref a :: rest))) := by
  obtain ⟨cl, A, q⟩ := A
  obtain ⟨q1, q2⟩ := at_of q hj hi
  exact Run.st (fun t kt => X.caload hx (j := j) (v := v) (by rw [eT]; exact A.1) (State.isArrayOf_alike hZ.alike A.2.1) A.2.2 q1 q2 (g := mkF m pc Ls (.int j :: .ref a :: rest)) rfl rfl hd _ kt) r
theorem Run.ldJ (X : Stand p l e R s m args below meth c T locs cells slots) (hx : p.tables.exec = Jvm.exec) (hZ : Z.Warmed39 s.vm) (eT : T.heap = h) (A : Ars Z h a .long vs) {j : Int32} {i : Nat} (hj : j.toInt = i) (hi : vs[i]? = some v) {pc : Nat} {Ls : Array Slot} {rest : List Value} (hd : decode c.code pc = .ok (.laload, 1))
    (r : Run p e below s Q k n (T.setTop (mkF m (pc + 1) Ls (v :: rest)))) : Run p e below s Q k n (T.setTop (mkF m pc Ls (.int j :: .ref a :: rest))) := by
  obtain ⟨cl, A, q⟩ := A
  obtain ⟨q1, q2⟩ := at_of q hj hi
  exact Run.st (fun t kt => X.laload hx (j := j) (v := v) (by rw [eT]; exact A.1) (State.isArrayOf_alike hZ.alike A.2.1) A.2.2 q1 q2 (g := mkF m pc Ls (.int j :: .ref a :: rest)) rfl rfl hd _ kt) r
theorem Run.ldB (X : Stand p l e R s m args below meth c T locs cells slots) (hx : p.tables.exec = Jvm.exec) (hZ : Z.Warmed39 s.vm) (eT : T.heap = h) (A : Ars Z h a .byte vs) {j : Int32} {i : Nat} (hj : j.toInt = i) (hi : vs[i]? = some v) {pc : Nat} {Ls : Array Slot} {rest : List Value} (hd : decode c.code pc = .ok (.baload, 1))
    (r : Run p e below s Q k n (T.setTop (mkF m (pc + 1) Ls (v :: rest)))) : Run p e below s Q k n (T.setTop (mkF m pc Ls (.int j :: .ref a :: rest))) := by
  obtain ⟨cl, A, q⟩ := A
  obtain ⟨q1, q2⟩ := at_of q hj hi
  exact Run.st (fun t kt => X.baloadBytes hx (j := j) (v := v) (by rw [eT]; exact A.1) (State.isArrayOf_alike hZ.alike A.2.1) A.2.2 q1 q2 (g := mkF m pc Ls (.int j :: .ref a :: rest)) rfl rfl hd _ kt) r
theorem Run.ldZ (X : Stand p l e R s m args below meth c T locs cells slots) (hx : p.tables.exec = Jvm.exec) (hZ : Z.Warmed39 s.vm) (eT : T.heap = h) (A : Ars Z h a .boolean vs) {j : Int32} {i : Nat} (hj : j.toInt = i) (hi : vs[i]? = some v) {pc : Nat} {Ls : Array Slot} {rest : List Value} (hd : decode c.code pc = .ok (.baload, 1))
    (r : Run p e below s Q k n (T.setTop (mkF m (pc + 1) Ls (v :: rest)))) : Run p e below s Q k n (T.setTop (mkF m pc Ls (.int j :: .ref a :: rest))) := by
  obtain ⟨cl, A, q⟩ := A
  obtain ⟨q1, q2⟩ := at_of q hj hi
  exact Run.st (fun t kt => X.baloadBooleans hx (j := j) (v := v) (by rw [eT]; exact A.1) (State.isArrayOf_alike hZ.alike A.2.1) A.2.2 q1 q2 (g := mkF m pc Ls (.int j :: .ref a :: rest)) rfl rfl hd _ kt) r
theorem Run.ldD (X : Stand p l e R s m args below meth c T locs cells slots) (hx : p.tables.exec = Jvm.exec) (hZ : Z.Warmed39 s.vm) (eT : T.heap = h) (A : Ars Z h a .double vs) {j : Int32} {i : Nat} (hj : j.toInt = i) (hi : vs[i]? = some v) {pc : Nat} {Ls : Array Slot} {rest : List Value} (hd : decode c.code pc = .ok (.daload, 1))
    (r : Run p e below s Q k n (T.setTop (mkF m (pc + 1) Ls (v :: rest)))) : Run p e below s Q k n (T.setTop (mkF m pc Ls (.int j :: .ref a :: rest))) := by
  obtain ⟨cl, A, q⟩ := A
  obtain ⟨q1, q2⟩ := at_of q hj hi
  exact Run.st (fun t kt => X.daload hx (j := j) (v := v) (by rw [eT]; exact A.1) (State.isArrayOf_alike hZ.alike A.2.1) A.2.2 q1 q2 (g := mkF m pc Ls (.int j :: .ref a :: rest)) rfl rfl hd _ kt) r
theorem Run.ldR (X : Stand p l e R s m args below meth c T locs cells slots) (hx : p.tables.exec = Jvm.exec) (hZ : Z.Warmed39 s.vm) (eT : T.heap = h) (A : Ars Z h a ty vs) {j : Int32} {i : Nat} (hj : j.toInt = i) (hi : vs[i]? = some v) (hty : ty.isReference = true) {pc : Nat} {Ls : Array Slot} {rest : List Value} (hd : decode c.code pc = .ok (.aaload, 1))
    (r : Run p e below s Q k n (T.setTop (mkF m (pc + 1) Ls (v :: rest)))) : Run p e below s Q k n (T.setTop (mkF m pc Ls (.int j :: .ref a :: rest))) := by
  obtain ⟨cl, A, q⟩ := A
  obtain ⟨q1, q2⟩ := at_of q hj hi
  exact Run.st (fun t kt => X.aaload hx (j := j) (v := v) (by rw [eT]; exact A.1) (State.isArrayOf_alike hZ.alike A.2.1) hty A.2.2 q1 q2 (g := mkF m pc Ls (.int j :: .ref a :: rest)) rfl rfl hd _ kt) r
theorem Run.alen (X : Stand p l e R s m args below meth c T locs cells slots) (hx : p.tables.exec = Jvm.exec) (hZ : Z.Warmed39 s.vm) (eT : T.heap = h) (A : Ars Z h a ty vs) {z : Int32} (hz : vs.length.toInt32 = z) {pc : Nat} {Ls : Array Slot} {rest : List Value} (hd : decode c.code pc = .ok (.arraylength, 1))
    (r : Run p e below s Q k n (T.setTop (mkF m (pc + 1) Ls (.int z :: rest)))) : Run p e below s Q k n (T.setTop (mkF m pc Ls (.ref a :: rest))) := by
  obtain ⟨cl, A, q⟩ := A
  have e1 : cl.slots.size.toInt32 = z := by rw [← hz, ← q]; simp
  rw [← e1] at r
  exact Run.st (fun t kt => X.arraylength hx (by rw [eT]; exact A.1) (State.isArrayOf_alike hZ.alike A.2.1) (g := mkF m pc Ls (.ref a :: rest)) rfl rfl hd _ kt) r
theorem Run.stI (X : Stand p l e R s m args below meth c T locs cells slots) (hx : p.tables.exec = Jvm.exec) (hZ : Z.Warmed39 s.vm) (eT : T.heap = h) (A : Ars Z h a .int vs) {j z : Int32} {i : Nat} (hj : j.toInt = i) (hi : i < vs.length) {pc : Nat} {Ls : Array Slot} {rest : List Value} (hd : decode c.code pc = .ok (.iastore, 1))
    (kk : ∀ (T' : State) (h' : Heap), Stand p l e R s m args below meth c T' (locs ++ [⟨a, i⟩]) cells slots → T'.heap = h' → Wr h h' a i (.int z) → Ars Z h' a .int (vs.set i (.int z)) → Run p e below s Q k n (T'.setTop (mkF m (pc + 1) Ls rest))) : Run p e below s Q k n (T.setTop (mkF m pc Ls (.int z :: .int j :: .ref a :: rest))) := by
  obtain ⟨cl, A1, q⟩ := id A
  obtain ⟨q1, q2⟩ := in_of q hj hi
  obtain ⟨T', h', X', e', W', st'⟩ := RoadKit.stI X hx hZ eT A1 (j := j) (x := z) q1 (g := mkF m pc Ls (.int z :: .int j :: .ref a :: rest)) rfl rfl hd
  rw [q2] at X' W'
  exact Run.st st' (kk T' h' X' e' W' (A.same W'))
theorem Run.stJ (X : Stand p l e R s m args below meth c T locs cells slots) (hx : p.tables.exec = Jvm.exec) (hZ : Z.Warmed39 s.vm) (eT : T.heap = h) (A : Ars Z h a .long vs) {j : Int32} {z : Int64} {i : Nat} (hj : j.toInt = i) (hi : i < vs.length) {pc : Nat} {Ls : Array Slot} {rest : List Value} (hd : decode c.code pc = .ok (.lastore, 1))
    (kk : ∀ (T' : State) (h' : Heap), Stand p l e R s m args below meth c T' (locs ++ [⟨a, i⟩]) cells slots → T'.heap = h' → Wr h h' a i (.long z) → Ars Z h' a .long (vs.set i (.long z)) → Run p e below s Q k n (T'.setTop (mkF m (pc + 1) Ls rest))) : Run p e below s Q k n (T.setTop (mkF m pc Ls (.long z :: .int j :: .ref a :: rest))) := by
  obtain ⟨cl, A1, q⟩ := id A
  obtain ⟨q1, q2⟩ := in_of q hj hi
  obtain ⟨T', h', X', e', W', st'⟩ := RoadKit.stJ X hx hZ eT A1 (j := j) (x := z) q1 (g := mkF m pc Ls (.long z :: .int j :: .ref a :: rest)) rfl rfl hd
  rw [q2] at X' W'
  exact Run.st st' (kk T' h' X' e' W' (A.same W'))
theorem Run.stD (X : Stand p l e R s m args below meth c T locs cells slots) (hx : p.tables.exec = Jvm.exec) (hZ : Z.Warmed39 s.vm) (eT : T.heap = h) (A : Ars Z h a .double vs) {j : Int32} {z : UInt64} {i : Nat} (hj : j.toInt = i) (hi : i < vs.length) {pc : Nat} {Ls : Array Slot} {rest : List Value} (hd : decode c.code pc = .ok (.dastore, 1))
    (kk : ∀ (T' : State) (h' : Heap), Stand p l e R s m args below meth c T' (locs ++ [⟨a, i⟩]) cells slots → T'.heap = h' → Wr h h' a i (.double z) → Ars Z h' a .double (vs.set i (.double z)) → Run p e below s Q k n (T'.setTop (mkF m (pc + 1) Ls rest))) : Run p e below s Q k n (T.setTop (mkF m pc Ls (.double z :: .int j :: .ref a :: rest))) := by
  obtain ⟨cl, A1, q⟩ := id A
  obtain ⟨q1, q2⟩ := in_of q hj hi
  obtain ⟨T', h', X', e', W', st'⟩ := RoadKit.stD X hx hZ eT A1 (j := j) (x := z) q1 (g := mkF m pc Ls (.double z :: .int j :: .ref a :: rest)) rfl rfl hd
  rw [q2] at X' W'
  exact Run.st st' (kk T' h' X' e' W' (A.same W'))
theorem Run.retD (X : Stand p l e R s m args below meth c T locs cells slots) (hx : p.tables.exec = Jvm.exec) (hlk : meth.locks = false) (eT : T.heap = h) (hret : meth.sig.returnType = some .double) {pc : Nat} {Ls : Array Slot} {z : UInt64} {rest : List Value}
    (hd : decode c.code pc = .ok (.dreturn, 1)) (hc : cells ≤ k) (hn : slots ≤ n) (hQ : Q (some (.double z)) h locs) : Run p e below s Q k n (T.setTop (mkF m pc Ls (.double z :: rest))) :=
  Run.end_ X hlk eT (v := some (.double z)) (fun q => by rw [hret] at q; cases q) hc hn hQ fun fs hr => RoadKit.retOut X hx hret rfl (Or.inr (Or.inr (Or.inl ⟨rfl, rfl, z, rfl⟩))) hd hr
theorem Run.stR (X : Stand p l e R s m args below meth c T locs cells slots) (hx : p.tables.exec = Jvm.exec) (hZ : Z.Warmed39 s.vm) (eT : T.heap = h) (A : Ars Z h a ty vs) {j : Int32} {i : Nat} (hj : j.toInt = i) (hi : i < vs.length) (hty : ty.isReference = true) (F : Sto Z h a v) {pc : Nat} {Ls : Array Slot} {rest : List Value} (hd : decode c.code pc = .ok (.aastore, 1))
    (kk : ∀ (T' : State) (h' : Heap), Stand p l e R s m args below meth c T' (locs ++ [⟨a, i⟩]) cells slots → T'.heap = h' → Wr h h' a i v → Ars Z h' a ty (vs.set i v) → Run p e below s Q k n (T'.setTop (mkF m (pc + 1) Ls rest))) : Run p e below s Q k n (T.setTop (mkF m pc Ls (v :: .int j :: .ref a :: rest))) := by
  obtain ⟨cl, A1, q⟩ := id A
  obtain ⟨q1, q2⟩ := in_of q hj hi
  obtain ⟨T', h', X', e', W', st'⟩ := RoadKit.stR X hx hZ eT A1 (j := j) (v := v) q1 hty F (g := mkF m pc Ls (v :: .int j :: .ref a :: rest)) rfl rfl hd
  rw [q2] at X' W'
  exact Run.st st' (kk T' h' X' e' W' (A.same W'))
theorem Run.stC (X : Stand p l e R s m args below meth c T locs cells slots) (hx : p.tables.exec = Jvm.exec) (hZ : Z.Warmed39 s.vm) (eT : T.heap = h) (A : Ars Z h a .char vs) {j z : Int32} {i : Nat} (hj : j.toInt = i) (hi : i < vs.length) {z' : Int32} (hz : nar .char z = z') {pc : Nat} {Ls : Array Slot} {rest : List Value} (hd : decode c.code pc = .ok (.castore, 1))
    (kk : ∀ (T' : State) (h' : Heap), Stand p l e R s m args below meth c T' (locs ++ [⟨a, i⟩]) cells slots → T'.heap = h' → Wr h h' a i (.int z') → Ars Z h' a .char (vs.set i (.int z')) → Run p e below s Q k n (T'.setTop (mkF m (pc + 1) Ls rest))) : Run p e below s Q k n (T.setTop (mkF m pc Ls (.int z :: .int j :: .ref a :: rest))) := by
  obtain ⟨cl, A1, q⟩ := id A
  obtain ⟨q1, q2⟩ := in_of q hj hi
  obtain ⟨T', h', X', e', W', st'⟩ := RoadKit.stC X hx hZ eT A1 (j := j) (x := z) q1 (g := mkF m pc Ls (.int z :: .int j :: .ref a :: rest)) rfl rfl hd
  rw [q2] at X' W'
  rw [hz] at W'
  exact Run.st st' (kk T' h' X' e' W' (A.same W'))
theorem Run.stB (X : Stand p l e R s m args below meth c T locs cells slots) (hx : p.tables.exec = Jvm.exec) (hZ : Z.Warmed39 s.vm) (eT : T.heap = h) (A : Ars Z h a .byte vs) {j z : Int32} {i : Nat} (hj : j.toInt = i) (hi : i < vs.length) {z' : Int32} (hz : nar .byte z = z') {pc : Nat} {Ls : Array Slot} {rest : List Value} (hd : decode c.code pc = .ok (.bastore, 1))
    (kk : ∀ (T' : State) (h' : Heap), Stand p l e R s m args below meth c T' (locs ++ [⟨a, i⟩]) cells slots → T'.heap = h' → Wr h h' a i (.int z') → Ars Z h' a .byte (vs.set i (.int z')) → Run p e below s Q k n (T'.setTop (mkF m (pc + 1) Ls rest))) : Run p e below s Q k n (T.setTop (mkF m pc Ls (.int z :: .int j :: .ref a :: rest))) := by
  obtain ⟨cl, A1, q⟩ := id A
  obtain ⟨q1, q2⟩ := in_of q hj hi
  obtain ⟨T', h', X', e', W', st'⟩ := RoadKit.stB X hx hZ eT A1 (j := j) (x := z) q1 (g := mkF m pc Ls (.int z :: .int j :: .ref a :: rest)) rfl rfl hd
  rw [q2] at X' W'
  rw [hz] at W'
  exact Run.st st' (kk T' h' X' e' W' (A.same W'))
theorem Run.stZ (X : Stand p l e R s m args below meth c T locs cells slots) (hx : p.tables.exec = Jvm.exec) (hZ : Z.Warmed39 s.vm) (eT : T.heap = h) (A : Ars Z h a .boolean vs) {j z : Int32} {i : Nat} (hj : j.toInt = i) (hi : i < vs.length) {z' : Int32} (hz : nar .boolean z = z') {pc : Nat} {Ls : Array Slot} {rest : List Value} (hd : decode c.code pc = .ok (.bastore, 1))
    (kk : ∀ (T' : State) (h' : Heap), Stand p l e R s m args below meth c T' (locs ++ [⟨a, i⟩]) cells slots → T'.heap = h' → Wr h h' a i (.int z') → Ars Z h' a .boolean (vs.set i (.int z')) → Run p e below s Q k n (T'.setTop (mkF m (pc + 1) Ls rest))) : Run p e below s Q k n (T.setTop (mkF m pc Ls (.int z :: .int j :: .ref a :: rest))) := by
  obtain ⟨cl, A1, q⟩ := id A
  obtain ⟨q1, q2⟩ := in_of q hj hi
  obtain ⟨T', h', X', e', W', st'⟩ := RoadKit.stZ X hx hZ eT A1 (j := j) (x := z) q1 (g := mkF m pc Ls (.int z :: .int j :: .ref a :: rest)) rfl rfl hd
  rw [q2] at X' W'
  rw [hz] at W'
  exact Run.st st' (kk T' h' X' e' W' (A.same W'))
end Laws
/-- what lies at a is no class's statics -/
def NSt (h : Heap) (a : Addr) : Prop := ∀ c : Cell, h[a]? = some c → c.vm.isStatics = false
theorem Exa_ns {Z : State} {h : Heap} {a : Addr} {C : String} (E : Exa Z h a C) : NSt h a := by
  obtain ⟨c, _, h1, -, -, h4, -⟩ := E
  intro c' q
  cases h1.symm.trans q
  exact h4
theorem Ars.ns {Z : State} {h : Heap} {a : Addr} {ty : FieldType} {vs : List Value} (A : Ars Z h a ty vs) : NSt h a := by
  obtain ⟨c, A, -⟩ := A
  intro c' q
  cases A.1.symm.trans q
  exact A.plain
theorem Sta_keep {Z : State} {h h' : Heap} {C n d : String} {v : Value} {ws : List Addr} (F : Sta Z h C n d v) (K : Keep h h' ws) (q : ∀ x ∈ ws, NSt h x) : Sta Z h' C n d v := by
  obtain ⟨cf, i, k, f, st, cell, h1, h2, h3, h4, h5, h6, h7⟩ := F
  refine ⟨cf, i, k, f, st, cell, h1, h2, h3, h4, K.2.1 _ _ h5 (fun hm => ?_), h6, h7⟩
  have := q st hm cell h5
  rw [h6] at this
  cases this
theorem nar_b01 {z : Int32} (hz : z = 0 ∨ z = 1) : nar .boolean z = z := by rcases hz with rfl | rfl <;> decide
theorem nar_b (x : Int32) : nar .byte x.toInt8.toInt32 = x.toInt8.toInt32 := by
  show x.toInt8.toInt32.toInt8.toInt32 = x.toInt8.toInt32
  simp
theorem nar_c (x : Int32) : nar .char x.toUInt32.toUInt16.toUInt32.toInt32 = x.toUInt32.toUInt16.toUInt32.toInt32 := by
  show x.toUInt32.toUInt16.toUInt32.toInt32.toUInt32.toUInt16.toUInt32.toInt32 = _
  have q : ∀ y : UInt16, y.toUInt32.toInt32.toUInt32.toUInt16 = y := fun y => by simp
  rw [q]
theorem ints_at (xs : List Int32) {i : Nat} (h : i < xs.length) : ∃ x, (xs.map Value.int)[i]? = some (.int x) := ⟨xs[i], by simp [h]⟩
/-- 1 or 0 -/
def own_b (c : Prop) [Decidable c] : Int32 := if c then 1 else 0
theorem own_b1 {c : Prop} [Decidable c] (h : c) : own_b c = 1 := if_pos h
theorem own_b0 {c : Prop} [Decidable c] (h : ¬ c) : own_b c = 0 := if_neg h
theorem own_b01 (c : Prop) [Decidable c] : own_b c = 0 ∨ own_b c = 1 := by unfold own_b; split <;> simp
theorem sub_w (a b : Int32) : (a.toInt64 - b.toInt64).toInt = a.toInt - b.toInt := by
  have h1 := c_lsub a.toInt64 b.toInt64
  have h2 := rng64 (a.toInt64 - b.toInt64)
  have h3 := rng32 a
  have h4 := rng32 b
  rw [c_i2l, c_i2l] at h1
  omega
theorem lt32 (a b : Int32) : a < b ↔ a.toInt < b.toInt := Int32.lt_iff_toInt_lt
theorem lt64 (a b : Int64) : a < b ↔ a.toInt < b.toInt := Int64.lt_iff_toInt_lt
theorem eq32 (a b : Int32) : a = b ↔ a.toInt = b.toInt := Int32.toInt_inj.symm
theorem eq64 (a b : Int64) : a = b ↔ a.toInt = b.toInt := Int64.toInt_inj.symm
/-- an int comes back, nothing is touched -/
def PureI (h0 : Heap) (n0 : Nat) (z : Int32) (v : Option Value) (h : Heap) (L : List Loc) : Prop := v = some (.int z) ∧ Fr n0 L ∧ h = h0
def PureJ (h0 : Heap) (n0 : Nat) (z : Int64) (v : Option Value) (h : Heap) (L : List Loc) : Prop := v = some (.long z) ∧ Fr n0 L ∧ h = h0
def PureR (h0 : Heap) (n0 : Nat) (z : Value) (v : Option Value) (h : Heap) (L : List Loc) : Prop := v = some z ∧ Fr n0 L ∧ h = h0
theorem PureI.mk {h0 : Heap} {n0 : Nat} {z z' : Int32} {L : List Loc} (e : z' = z) (N : Fr n0 L) : PureI h0 n0 z (some (.int z')) h0 L := ⟨by rw [e], N, rfl⟩
theorem PureJ.mk {h0 : Heap} {n0 : Nat} {z z' : Int64} {L : List Loc} (e : z' = z) (N : Fr n0 L) : PureJ h0 n0 z (some (.long z')) h0 L := ⟨by rw [e], N, rfl⟩
/-- the law's own end -/
def Tru (n0 : Nat) (v : Option Value) (h : Heap) (L : List Loc) : Prop := v = some (.int 1) ∧ Fr n0 L
end Jvm.OwnRun
namespace Jvm.Pilot.@@N@@
open Jvm Jvm.ClassFile Sem Op Lib Jvm.Free Jvm.Stand Jvm.LawKit Jvm.RoadKit Jvm.OwnRun Bundle Jvm.Pilot.@@N@@.Jvm.D
theorem own_ofn {i : Int32} {n : Nat} (h : i.toInt = n) (h' : n ≤ 100000) : (i + 1).toInt = (n + 1 : Nat) := by
  have q := c_iadd i 1
  have r := rng32 (i + 1)
  have : (1 : Int32).toInt = 1 := rfl
  omega
theorem own_rs {vs : List Value} {v : Value} {i k : Nat} (h : i + (k + 1) = vs.length) : (List.replicate i v ++ vs.drop i).set i v = List.replicate (i + 1) v ++ vs.drop (i + 1) := by
  rw [List.set_append, if_neg (by simp), List.length_replicate, Nat.sub_self, List.drop_eq_getElem_cons (by omega : i < vs.length), List.set_cons_zero, List.replicate_succ', List.append_assoc]
  rfl
theorem own_l32 {n : Nat} {z : Int32} (e : n.toInt32 = z) (h : n ≤ 100000) : z.toInt = n := by
  rw [← e]
  exact len_toInt (Nat.lt_of_le_of_lt h (by decide))
theorem d1_0 : decode jdk_65_method_103_code 0 = .ok (.iconst 0, 1) := by decide +kernel
theorem d1_1 : decode jdk_65_method_103_code 1 = .ok (.istore_n 2, 1) := by decide +kernel
theorem d1_2 : decode jdk_65_method_103_code 2 = .ok (.aload_n 0, 1) := by decide +kernel
theorem d1_3 : decode jdk_65_method_103_code 3 = .ok (.arraylength, 1) := by decide +kernel
theorem d1_4 : decode jdk_65_method_103_code 4 = .ok (.istore_n 3, 1) := by decide +kernel
theorem d1_5 : decode jdk_65_method_103_code 5 = .ok (.iload_n 2, 1) := by decide +kernel
theorem d1_6 : decode jdk_65_method_103_code 6 = .ok (.iload_n 3, 1) := by decide +kernel
theorem d1_7 : decode jdk_65_method_103_code 7 = .ok (.if_icmp .ge 13, 3) := by decide +kernel
theorem d1_10 : decode jdk_65_method_103_code 10 = .ok (.aload_n 0, 1) := by decide +kernel
theorem d1_11 : decode jdk_65_method_103_code 11 = .ok (.iload_n 2, 1) := by decide +kernel
theorem d1_12 : decode jdk_65_method_103_code 12 = .ok (.iload_n 1, 1) := by decide +kernel
theorem d1_13 : decode jdk_65_method_103_code 13 = .ok (.iastore, 1) := by decide +kernel
theorem d1_14 : decode jdk_65_method_103_code 14 = .ok (.iinc 2 1, 3) := by decide +kernel
theorem d1_17 : decode jdk_65_method_103_code 17 = .ok (.goto (-12), 3) := by decide +kernel
theorem d1_20 : decode jdk_65_method_103_code 20 = .ok (.return_, 1) := by decide +kernel
theorem pn_0 : plainName "java/util/Arrays" = true := by first | (simp [plainName, overriddenIn]; done) | decide +kernel
theorem ef_c_fill (m : MethodId) (arr : Addr) (z : Int32) : entryFrame m #[(.ref arr), (.int z)] 4 = mkF m 0 #[.val (.ref arr), .val (.int z), .unset, .unset] [] := by first | (simp [entryFrame, mkF, argsToLocals, Value.category]; done) | rfl
set_option maxRecDepth 65536 in
set_option maxHeartbeats 40000000 in
theorem c_fill (l : Launch) (Z : State) (a0 : Array Value) (hw : ∀ d ∈ tables_1, d.before a0 Z = true) (arr : Addr) (z : Int32) (h0 : Heap) (n0 : Nat) (Z0 : n0 ≤ h0.size) (vs : List Value) (A_arr : Ars Z h0 arr .int vs) (g_arr : n0 ≤ arr) (hl : vs.length ≤ 100000) :
    Ctr l Z (⟨"java/util/Arrays", "fill", "([II)V"⟩ : MethodName) jdk_65_method_103_code 4 none ({ frames := 0, cells := 0, slots := 0, locals := 0 } : Room) #[(.ref arr), (.int z)] h0 (fun v h L => v = none ∧ Fr n0 L ∧ Keep h0 h [arr] ∧ Ars Z h arr .int (List.replicate vs.length (.int z))) := by
  refine Ctr.of (plainFor_of_name pn_0) (fun m => ef_c_fill m arr z) ?_
  intro p e s m below meth c T0 hx hby hml hown hnm hret hlk hZ e0 X0
  have N0 := Fr.nil n0
  replace hown : s.vm.findClass "java/util/Arrays" = some m.cls := hown
  replace hml : c.maxLocals = 4 := hml
  have KP := Keep.refl h0 [arr]
  obtain ⟨ln, hln⟩ : ∃ y, vs.length.toInt32 = y := ⟨_, rfl⟩
  have hlz := own_l32 hln hl
  have loop : ∀ (k i : Nat) (T : State) (h : Heap) (lo : List Loc) (iv : Int32), iv.toInt = i → i + k = vs.length → Stand p l e ({ frames := 0, cells := 0, slots := 0, locals := 0 } : Room) s m #[(.ref arr), (.int z)] below meth c T lo 0 0 → T.heap = h → Fr n0 lo → n0 ≤ h.size → Keep h0 h [arr] → Ars Z h arr .int (List.replicate i (Value.int z) ++ vs.drop i) → Run p e below s (fun v h L => v = none ∧ Fr n0 L ∧ Keep h0 h [arr] ∧ Ars Z h arr .int (List.replicate vs.length (.int z))) ({ frames := 0, cells := 0, slots := 0, locals := 0 } : Room).cells ({ frames := 0, cells := 0, slots := 0, locals := 0 } : Room).slots (T.setTop (mkF m 5 #[.val (.ref arr), .val (.int z), .val (.int iv), .val (.int ln)] [])) := by
    intro k
    induction k with
    | zero =>
      intro i T h lo iv hiv hik X eT N ZP KP A_arr
      refine Run.x_iloadN (q := 6) X hx (hb hby d1_5) rfl rfl ?_
      refine Run.x_iloadN (q := 7) X hx (hb hby d1_6) rfl rfl ?_
      refine Run.x_icmpYes (q := 20) X hx (hb hby d1_7) (flt (by rw [lt32]; omega)).2.1 (by decide) (by decide) ?_
      refine Run.retV X hx hlk eT hret (hb hby d1_20) (by decide) (by decide) ?_
      have e9 : i = vs.length := by omega
      subst e9
      exact ⟨rfl, N, KP, by simpa using A_arr⟩
    | succ k ih =>
      intro i T h lo iv hiv hik X eT N ZP KP A_arr
      refine Run.x_iloadN (q := 6) X hx (hb hby d1_5) rfl rfl ?_
      refine Run.x_iloadN (q := 7) X hx (hb hby d1_6) rfl rfl ?_
      refine Run.x_icmpNo (q := 10) X hx (hb hby d1_7) (tlt (by rw [lt32]; omega)).2.1 rfl ?_
      refine Run.x_aloadN (q := 11) X hx (hb hby d1_10) rfl rfl rfl ?_
      refine Run.x_iloadN (q := 12) X hx (hb hby d1_11) rfl rfl ?_
      refine Run.x_iloadN (q := 13) X hx (hb hby d1_12) rfl rfl ?_
      refine Run.stI X hx hZ eT A_arr (i := i) hiv (by simp only [List.length_append, List.length_replicate, List.length_drop]; omega) (hb hby d1_13) ?_
      intro T1 h1 X1 e1 W1 A1
      replace A_arr : Ars Z h1 arr .int ((List.replicate i (Value.int z) ++ vs.drop i).set i (Value.int z)) := A1
      replace KP := KP.wr W1 (Or.inl (by simp))
      have N1 := Fr.snoc X1 N g_arr
      have Z1 : n0 ≤ h1.size := Nat.le_trans ZP (Nat.le_of_eq W1.size.symm)
      show Run p e below s _ _ _ (T1.setTop (mkF m 14 #[.val (.ref arr), .val (.int z), .val (.int iv), .val (.int ln)] []))
      refine Run.x_iinc (q := 17) X1 hx #[.val (.ref arr), .val (.int z), .val (.int (iv + (1 : Int32))), .val (.int ln)] (hb hby d1_14) rfl (z := (iv + (1 : Int32))) rfl rfl rfl ?_
      refine Run.x_goto (q := 5) X1 hx (hb hby d1_17) (by decide) (by decide) ?_
      exact ih (i + 1) _ _ _ _ (own_ofn hiv (by omega)) (by omega) X1 e1 N1 Z1 KP (by rw [own_rs hik] at A_arr; exact A_arr)
  refine Run.x_iconst (q := 1) X0 hx (hb hby d1_0) (z := (0 : Int32)) rfl rfl ?_
  refine Run.x_istoreN (q := 2) X0 hx #[.val (.ref arr), .val (.int z), .val (.int (0 : Int32)), .unset] (hb hby d1_1) rfl rfl ?_
  refine Run.x_aloadN (q := 3) X0 hx (hb hby d1_2) rfl rfl rfl ?_
  refine Run.alen X0 hx hZ e0 A_arr (z := ln) hln (hb hby d1_3) ?_
  show Run p e below s _ _ _ (T0.setTop (mkF m 4 #[.val (.ref arr), .val (.int z), .val (.int (0 : Int32)), .unset] [(.int ln)]))
  refine Run.x_istoreN (q := 5) X0 hx #[.val (.ref arr), .val (.int z), .val (.int (0 : Int32)), .val (.int ln)] (hb hby d1_4) rfl rfl ?_
  exact loop vs.length 0 _ _ _ _ rfl (by omega) X0 e0 N0 Z0 KP (by simpa using A_arr)
theorem d2_0 : decode jdk_65_method_117_code 0 = .ok (.iconst 0, 1) := by decide +kernel
theorem d2_1 : decode jdk_65_method_117_code 1 = .ok (.istore_n 2, 1) := by decide +kernel
theorem d2_2 : decode jdk_65_method_117_code 2 = .ok (.aload_n 0, 1) := by decide +kernel
theorem d2_3 : decode jdk_65_method_117_code 3 = .ok (.arraylength, 1) := by decide +kernel
theorem d2_4 : decode jdk_65_method_117_code 4 = .ok (.istore_n 3, 1) := by decide +kernel
theorem d2_5 : decode jdk_65_method_117_code 5 = .ok (.iload_n 2, 1) := by decide +kernel
theorem d2_6 : decode jdk_65_method_117_code 6 = .ok (.iload_n 3, 1) := by decide +kernel
theorem d2_7 : decode jdk_65_method_117_code 7 = .ok (.if_icmp .ge 13, 3) := by decide +kernel
theorem d2_10 : decode jdk_65_method_117_code 10 = .ok (.aload_n 0, 1) := by decide +kernel
theorem d2_11 : decode jdk_65_method_117_code 11 = .ok (.iload_n 2, 1) := by decide +kernel
theorem d2_12 : decode jdk_65_method_117_code 12 = .ok (.aload_n 1, 1) := by decide +kernel
theorem d2_13 : decode jdk_65_method_117_code 13 = .ok (.aastore, 1) := by decide +kernel
theorem d2_14 : decode jdk_65_method_117_code 14 = .ok (.iinc 2 1, 3) := by decide +kernel
theorem d2_17 : decode jdk_65_method_117_code 17 = .ok (.goto (-12), 3) := by decide +kernel
theorem d2_20 : decode jdk_65_method_117_code 20 = .ok (.return_, 1) := by decide +kernel
theorem ef_c_fillR (m : MethodId) (arr : Addr) (z : Addr) : entryFrame m #[(.ref arr), (.ref z)] 4 = mkF m 0 #[.val (.ref arr), .val (.ref z), .unset, .unset] [] := by first | (simp [entryFrame, mkF, argsToLocals, Value.category]; done) | rfl
set_option maxRecDepth 65536 in
set_option maxHeartbeats 40000000 in
theorem c_fillR (l : Launch) (Z : State) (a0 : Array Value) (hw : ∀ d ∈ tables_1, d.before a0 Z = true) (arr : Addr) (z : Addr) (h0 : Heap) (n0 : Nat) (Z0 : n0 ≤ h0.size) (vs : List Value) (A_arr : Ars Z h0 arr (.array .int) vs) (g_arr : n0 ≤ arr) (hl : vs.length ≤ 100000) (hsto : Sto Z h0 arr (.ref z)) :
    Ctr l Z (⟨"java/util/Arrays", "fill", "([Ljava/lang/Object;Ljava/lang/Object;)V"⟩ : MethodName) jdk_65_method_117_code 4 none ({ frames := 0, cells := 0, slots := 0, locals := 0 } : Room) #[(.ref arr), (.ref z)] h0 (fun v h L => v = none ∧ Fr n0 L ∧ Keep h0 h [arr] ∧ Ars Z h arr (.array .int) (List.replicate vs.length (.ref z))) := by
  refine Ctr.of (plainFor_of_name pn_0) (fun m => ef_c_fillR m arr z) ?_
  intro p e s m below meth c T0 hx hby hml hown hnm hret hlk hZ e0 X0
  have N0 := Fr.nil n0
  replace hown : s.vm.findClass "java/util/Arrays" = some m.cls := hown
  replace hml : c.maxLocals = 4 := hml
  have KP := Keep.refl h0 [arr]
  obtain ⟨ln, hln⟩ : ∃ y, vs.length.toInt32 = y := ⟨_, rfl⟩
  have hlz := own_l32 hln hl
  have loop : ∀ (k i : Nat) (T : State) (h : Heap) (lo : List Loc) (iv : Int32), iv.toInt = i → i + k = vs.length → Stand p l e ({ frames := 0, cells := 0, slots := 0, locals := 0 } : Room) s m #[(.ref arr), (.ref z)] below meth c T lo 0 0 → T.heap = h → Fr n0 lo → n0 ≤ h.size → Keep h0 h [arr] → Sto Z h arr (.ref z) → Ars Z h arr (.array .int) (List.replicate i (Value.ref z) ++ vs.drop i) → Run p e below s (fun v h L => v = none ∧ Fr n0 L ∧ Keep h0 h [arr] ∧ Ars Z h arr (.array .int) (List.replicate vs.length (.ref z))) ({ frames := 0, cells := 0, slots := 0, locals := 0 } : Room).cells ({ frames := 0, cells := 0, slots := 0, locals := 0 } : Room).slots (T.setTop (mkF m 5 #[.val (.ref arr), .val (.ref z), .val (.int iv), .val (.int ln)] [])) := by
    intro k
    induction k with
    | zero =>
      intro i T h lo iv hiv hik X eT N ZP KP hso A_arr
      refine Run.x_iloadN (q := 6) X hx (hb hby d2_5) rfl rfl ?_
      refine Run.x_iloadN (q := 7) X hx (hb hby d2_6) rfl rfl ?_
      refine Run.x_icmpYes (q := 20) X hx (hb hby d2_7) (flt (by rw [lt32]; omega)).2.1 (by decide) (by decide) ?_
      refine Run.retV X hx hlk eT hret (hb hby d2_20) (by decide) (by decide) ?_
      have e9 : i = vs.length := by omega
      subst e9
      exact ⟨rfl, N, KP, by simpa using A_arr⟩
    | succ k ih =>
      intro i T h lo iv hiv hik X eT N ZP KP hso A_arr
      refine Run.x_iloadN (q := 6) X hx (hb hby d2_5) rfl rfl ?_
      refine Run.x_iloadN (q := 7) X hx (hb hby d2_6) rfl rfl ?_
      refine Run.x_icmpNo (q := 10) X hx (hb hby d2_7) (tlt (by rw [lt32]; omega)).2.1 rfl ?_
      refine Run.x_aloadN (q := 11) X hx (hb hby d2_10) rfl rfl rfl ?_
      refine Run.x_iloadN (q := 12) X hx (hb hby d2_11) rfl rfl ?_
      refine Run.x_aloadN (q := 13) X hx (hb hby d2_12) rfl rfl rfl ?_
      refine Run.stR X hx hZ eT A_arr (i := i) hiv (by simp only [List.length_append, List.length_replicate, List.length_drop]; omega) rfl hso (hb hby d2_13) ?_
      intro T1 h1 X1 e1 W1 A1
      replace A_arr := A1
      replace hso := hso.wr W1
      replace KP := KP.wr W1 (Or.inl (by simp))
      have N1 := Fr.snoc X1 N g_arr
      have Z1 : n0 ≤ h1.size := Nat.le_trans ZP (Nat.le_of_eq W1.size.symm)
      show Run p e below s _ _ _ (T1.setTop (mkF m 14 #[.val (.ref arr), .val (.ref z), .val (.int iv), .val (.int ln)] []))
      refine Run.x_iinc (q := 17) X1 hx #[.val (.ref arr), .val (.ref z), .val (.int (iv + (1 : Int32))), .val (.int ln)] (hb hby d2_14) rfl (z := (iv + (1 : Int32))) rfl rfl rfl ?_
      refine Run.x_goto (q := 5) X1 hx (hb hby d2_17) (by decide) (by decide) ?_
      exact ih (i + 1) _ _ _ _ (own_ofn hiv (by omega)) (by omega) X1 e1 N1 Z1 KP hso (by rw [own_rs hik] at A_arr; exact A_arr)
  refine Run.x_iconst (q := 1) X0 hx (hb hby d2_0) (z := (0 : Int32)) rfl rfl ?_
  refine Run.x_istoreN (q := 2) X0 hx #[.val (.ref arr), .val (.ref z), .val (.int (0 : Int32)), .unset] (hb hby d2_1) rfl rfl ?_
  refine Run.x_aloadN (q := 3) X0 hx (hb hby d2_2) rfl rfl rfl ?_
  refine Run.alen X0 hx hZ e0 A_arr (z := ln) hln (hb hby d2_3) ?_
  show Run p e below s _ _ _ (T0.setTop (mkF m 4 #[.val (.ref arr), .val (.ref z), .val (.int (0 : Int32)), .unset] [(.int ln)]))
  refine Run.x_istoreN (q := 5) X0 hx #[.val (.ref arr), .val (.ref z), .val (.int (0 : Int32)), .val (.int ln)] (hb hby d2_4) rfl rfl ?_
  exact loop vs.length 0 _ _ _ _ rfl (by omega) X0 e0 N0 Z0 KP hsto (by simpa using A_arr)
def own_row (f : Nat → Int32) (i : Nat) : List Value := (List.range 256).map fun j => Value.int (f (256 * i + j))
def own_refs (pg : Nat → Addr) : List Value := (List.range 256).map fun i => Value.ref (pg i)
def own_upd {α : Type} (f : Nat → α) (i : Nat) (x : α) : Nat → α := fun j => if j = i then x else f j
theorem own_upd_self {α : Type} {f : Nat → α} {i : Nat} {x : α} : own_upd f i x i = x := if_pos rfl
theorem own_upd_ne {α : Type} {f : Nat → α} {i j : Nat} {x : α} (h : j ≠ i) : own_upd f i x j = f j := if_neg h
theorem own_refs_at {pg : Nat → Addr} {i : Nat} (h : i < 256) : (own_refs pg)[i]? = some (.ref (pg i)) := by simp [own_refs, h]
theorem own_row_at {f : Nat → Int32} {i j : Nat} (h : j < 256) : (own_row f i)[j]? = some (.int (f (256 * i + j))) := by simp [own_row, h]
theorem own_refs_len {pg : Nat → Addr} : (own_refs pg).length = 256 := by simp [own_refs]
theorem own_row_len {f : Nat → Int32} {i : Nat} : (own_row f i).length = 256 := by simp [own_row]
theorem own_refs_set {pg : Nat → Addr} {i : Nat} {x : Addr} : (own_refs pg).set i (.ref x) = own_refs (own_upd pg i x) := by
  apply List.ext_getElem?
  intro j
  by_cases hj : j < 256
  · by_cases e : i = j
    · subst e
      rw [List.getElem?_set_self (by rw [own_refs_len]; exact hj), own_refs_at hj, own_upd_self]
    · rw [List.getElem?_set_ne e, own_refs_at hj, own_refs_at hj, own_upd_ne (Ne.symm e)]
  · rw [List.getElem?_eq_none (by rw [List.length_set, own_refs_len]; omega), List.getElem?_eq_none (by rw [own_refs_len]; omega)]
theorem own_row_set {f : Nat → Int32} {i j : Nat} {x : Int32} (h : j < 256) : (own_row f i).set j (.int x) = own_row (own_upd f (256 * i + j) x) i := by
  apply List.ext_getElem?
  intro k
  by_cases hk : k < 256
  · by_cases e : j = k
    · subst e
      rw [List.getElem?_set_self (by rw [own_row_len]; exact hk), own_row_at hk, own_upd_self]
    · rw [List.getElem?_set_ne e, own_row_at hk, own_row_at hk, own_upd_ne (by omega)]
  · rw [List.getElem?_eq_none (by rw [List.length_set, own_row_len]; omega), List.getElem?_eq_none (by rw [own_row_len]; omega)]
theorem own_row_other {f : Nat → Int32} {i i' j : Nat} {x : Int32} (h : j < 256) (e : i' ≠ i) : own_row (own_upd f (256 * i + j) x) i' = own_row f i' := by
  apply List.ext_getElem?
  intro k
  by_cases hk : k < 256
  · rw [own_row_at hk, own_row_at hk, own_upd_ne (by omega)]
  · rw [List.getElem?_eq_none (by rw [own_row_len]; omega), List.getElem?_eq_none (by rw [own_row_len]; omega)]
theorem Ars_uniq {Z : State} {h : Heap} {a : Addr} {ty ty' : FieldType} {vs ws : List Value} (A : Ars Z h a ty vs) (B : Ars Z h a ty' ws) : vs = ws := by
  obtain ⟨c, A, e⟩ := A
  obtain ⟨c', B, e'⟩ := B
  cases A.1.symm.trans B.1
  exact e.symm.trans e'
def Pgs (Z : State) (h : Heap) (n0 : Nat) (ab pa : Addr) (pg : Nat → Addr) (f : Nat → Int32) : Prop :=
  Ars Z h pa (.array .int) (own_refs pg) ∧ (∃ cl : Cell, h[pa]? = some cl ∧ OvrA Z cl.cls .int "[I") ∧ (∀ i, i < 256 → Ars Z h (pg i) .int (own_row f i)) ∧ (∀ i, i < 256 → pg i ≠ pa) ∧ (∀ i j, i < 256 → j < 256 → pg i = pg j → i = j ∨ pg i = ab) ∧ (∀ i, i < 256 → pg i ≠ ab → n0 ≤ pg i)
theorem Pgs.ext {Z : State} {h h' : Heap} {n0 : Nat} {ab pa : Addr} {pg : Nat → Addr} {f : Nat → Int32} (P : Pgs Z h n0 ab pa pg f) (E : Ext h h') : Pgs Z h' n0 ab pa pg f := by
  obtain ⟨h1, ⟨cl, h2, h3⟩, h4, h5⟩ := P
  exact ⟨h1.ext E, ⟨cl, E.2 _ _ h2, h3⟩, fun i hi => (h4 i hi).ext E, h5⟩
theorem Pgs.new {Z : State} {h h' : Heap} {n0 : Nat} {ab pa np : Addr} {pg : Nat → Addr} {f : Nat → Int32} {H : Nat} (P : Pgs Z h n0 ab pa pg f) (hH : H < 256) (hab : pg H = ab) (N : Ars Z h np .int (own_row f H)) (n1 : np ≠ pa) (n2 : ∀ i, i < 256 → pg i ≠ np) (n3 : n0 ≤ np) (W : Wr h h' pa H (.ref np)) (n4 : np ≠ ab) : Pgs Z h' n0 ab pa (own_upd pg H np) f := by
  obtain ⟨h1, ⟨cl, h2, h3⟩, h4, h5, h6, h7⟩ := P
  refine ⟨by rw [← own_refs_set]; exact h1.same W, ?_, fun i hi => ?_, fun i hi => ?_, fun i j hi hj e => ?_, fun i hi e => ?_⟩
  · obtain ⟨c', q1, q2, -⟩ := wr_at W h2
    exact ⟨c', q1, by rw [q2]; exact h3⟩
  · by_cases e : i = H
    · subst e; rw [own_upd_self]; exact N.other W n1
    · rw [own_upd_ne e]; exact (h4 i hi).other W (h5 i hi)
  · by_cases e : i = H
    · subst e; rw [own_upd_self]; exact n1
    · rw [own_upd_ne e]; exact h5 i hi
  · by_cases ei : i = H
    · subst ei
      by_cases ej : j = i
      · exact Or.inl ej.symm
      · rw [own_upd_self, own_upd_ne ej] at e; exact absurd e.symm (n2 j hj)
    · by_cases ej : j = H
      · subst ej; rw [own_upd_ne ei, own_upd_self] at e; exact absurd e (n2 i hi)
      · rw [own_upd_ne ei, own_upd_ne ej] at e; rw [own_upd_ne ei]; exact h6 i j hi hj e
  · by_cases ei : i = H
    · subst ei; rw [own_upd_self]; exact n3
    · rw [own_upd_ne ei] at e ⊢; exact h7 i hi e
theorem Pgs.set {Z : State} {h h' : Heap} {n0 : Nat} {ab pa : Addr} {pg : Nat → Addr} {f : Nat → Int32} {H L : Nat} {t : Int32} (P : Pgs Z h n0 ab pa pg f) (hH : H < 256) (hL : L < 256) (hab : pg H ≠ ab) (W : Wr h h' (pg H) L (.int t)) : Pgs Z h' n0 ab pa pg (own_upd f (256 * H + L) t) := by
  obtain ⟨h1, ⟨cl, h2, h3⟩, h4, h5, h6, h7⟩ := P
  refine ⟨h1.other W (Ne.symm (h5 H hH)), ?_, fun i hi => ?_, h5, h6, h7⟩
  · obtain ⟨c', q1, q2, -⟩ := wr_at W h2
    exact ⟨c', q1, by rw [q2]; exact h3⟩
  · by_cases e : i = H
    · subst e; rw [← own_row_set hL]; exact (h4 i hi).same W
    · rw [own_row_other hL e]
      exact (h4 i hi).other W fun q => (h6 i H hi hH q).elim e fun z => hab (q ▸ z)
/-- b is an array of int[] -/
def Ovb (Z : State) (h : Heap) (b : Addr) : Prop := ∃ cl : Cell, h[b]? = some cl ∧ OvrA Z cl.cls .int "[I"
theorem Ovb.ext {Z : State} {h h' : Heap} {b : Addr} (O : Ovb Z h b) (E : Ext h h') : Ovb Z h' b := by
  obtain ⟨c, h1, h2⟩ := O
  exact ⟨c, E.2 _ _ h1, h2⟩
theorem Ovb.wr {Z : State} {h h' : Heap} {b a : Addr} {sl : Nat} {v : Value} (O : Ovb Z h b) (W : Wr h h' a sl v) : Ovb Z h' b := by
  obtain ⟨c, h1, h2⟩ := O
  obtain ⟨c', q1, q2, -⟩ := wr_at W h1
  exact ⟨c', q1, by rw [q2]; exact h2⟩
theorem Ovb.keep {Z : State} {h h' : Heap} {b : Addr} {ws : List Addr} (O : Ovb Z h b) (K : Keep h h' ws) : Ovb Z h' b := by
  obtain ⟨c, h1, h2⟩ := O
  obtain ⟨c', q1, q2, -⟩ := K.2.2 _ _ h1
  exact ⟨c', q1, by rw [q2]; exact h2⟩
theorem own_sto {Z : State} {h : Heap} {b y : Addr} {ty : FieldType} {vs : List Value} (A : Ars Z h b ty vs) (O : Ovb Z h b) (E : Exa Z h y "[I") : Sto Z h b (.ref y) := by
  obtain ⟨cl, A, -⟩ := A
  obtain ⟨c', h1, h2⟩ := O
  cases h1.symm.trans A.1
  exact Sto.ofVA A rfl h2 (Ins.self E)
theorem Keep_ext {h h' : Heap} (K : Keep h h' []) : Ext h h' := ⟨K.1, fun a c q => K.2.1 a c q nin0⟩
theorem own_rep (i : Nat) : own_row (fun _ => -1) i = List.replicate 256 (.int (-1)) := by
  apply List.ext_getElem?
  intro k
  by_cases hk : k < 256
  · rw [own_row_at hk, List.getElem?_replicate, if_pos hk]
  · rw [List.getElem?_eq_none (by rw [own_row_len]; omega), List.getElem?_eq_none (by rw [List.length_replicate]; omega)]
theorem own_repR (a : Addr) : own_refs (fun _ => a) = List.replicate 256 (.ref a) := by
  apply List.ext_getElem?
  intro k
  by_cases hk : k < 256
  · rw [own_refs_at hk, List.getElem?_replicate, if_pos hk]
  · rw [List.getElem?_eq_none (by rw [own_refs_len]; omega), List.getElem?_eq_none (by rw [List.length_replicate]; omega)]
theorem Pgs.start {Z : State} {h : Heap} {n0 : Nat} {ab pa : Addr} (A : Ars Z h pa (.array .int) (List.replicate 256 (.ref ab))) (O : Ovb Z h pa) (B : Ars Z h ab .int (List.replicate 256 (.int (-1)))) (ne : ab ≠ pa) : Pgs Z h n0 ab pa (fun _ => ab) (fun _ => -1) :=
  ⟨by rw [own_repR]; exact A, O, fun i _ => by rw [own_rep]; exact B, fun _ _ => ne, fun _ _ _ _ _ => Or.inr rfl, fun _ _ q => absurd rfl q⟩
theorem Pgs.page {Z : State} {h : Heap} {n0 : Nat} {ab pa : Addr} {pg : Nat → Addr} {f : Nat → Int32} {H : Nat} (P : Pgs Z h n0 ab pa pg f) (hH : H < 256) (hab : pg H = ab) (B : Ars Z h ab .int (List.replicate 256 (.int (-1)))) : own_row f H = List.replicate 256 (.int (-1)) := Ars_uniq (P.2.2.1 H hH) (hab ▸ B)
theorem Pgs.lt {Z : State} {h : Heap} {n0 : Nat} {ab pa : Addr} {pg : Nat → Addr} {f : Nat → Int32} (P : Pgs Z h n0 ab pa pg f) {np : Addr} (q : h.size ≤ np) : ∀ i, i < 256 → pg i ≠ np := fun i hi => Nat.ne_of_lt (Nat.lt_of_lt_of_le (P.2.2.1 i hi).lt q)
theorem Pgs.wrO {Z : State} {h h' : Heap} {n0 : Nat} {ab pa a : Addr} {pg : Nat → Addr} {f : Nat → Int32} {sl : Nat} {v : Value} (P : Pgs Z h n0 ab pa pg f) (W : Wr h h' a sl v) (q1 : pa ≠ a) (q2 : ∀ i, i < 256 → pg i ≠ a) : Pgs Z h' n0 ab pa pg f := by
  obtain ⟨h1, ⟨cl, h2, h3⟩, h4, h5⟩ := P
  refine ⟨h1.other W q1, ?_, fun i hi => (h4 i hi).other W (q2 i hi), h5⟩
  obtain ⟨c', q1, q2, -⟩ := wr_at W h2
  exact ⟨c', q1, by rw [q2]; exact h3⟩
theorem own_nt {pg : Nat → Addr} {H : Nat} {np x : Addr} (h : ∀ i, i < 256 → pg i ≠ x) (n : np ≠ x) : ∀ i, i < 256 → own_upd pg H np i ≠ x := fun i hi => by
  by_cases e : i = H
  · subst e; rw [own_upd_self]; exact n
  · rw [own_upd_ne e]; exact h i hi
theorem own_hl {c : Int32} {H L : Nat} (h0 : 0 ≤ c.toInt) (h1 : (H : Int) = c.toInt / 256) (h2 : (L : Int) = c.toInt % 256) : 256 * H + L = c.toInt.toNat := by omega
theorem d3_0 : decode prog_13_method_3_code 0 = .ok (.sipush 256, 3) := by decide +kernel
theorem d3_3 : decode prog_13_method_3_code 3 = .ok (.newarray .int, 2) := by decide +kernel
theorem d3_5 : decode prog_13_method_3_code 5 = .ok (.astore_n 0, 1) := by decide +kernel
theorem d3_6 : decode prog_13_method_3_code 6 = .ok (.aload_n 0, 1) := by decide +kernel
theorem d3_7 : decode prog_13_method_3_code 7 = .ok (.iconst (-1), 1) := by decide +kernel
theorem d3_8 : decode prog_13_method_3_code 8 = .ok (.invokestatic 35, 3) := by decide +kernel
theorem d3_11 : decode prog_13_method_3_code 11 = .ok (.aload_n 0, 1) := by decide +kernel
theorem d3_12 : decode prog_13_method_3_code 12 = .ok (.areturn, 1) := by decide +kernel
theorem pn_1 : plainName "needlewise/boyermoore/Rightmost" = true := by first | (simp [plainName, overriddenIn]; done) | decide +kernel
theorem ef_c_page (m : MethodId)  : entryFrame m #[] 1 = mkF m 0 #[.unset] [] := by first | (simp [entryFrame, mkF, argsToLocals, Value.category]; done) | rfl
theorem pd_0 : parseMethodDescriptor "([II)V" = some ⟨[(.array .int), .int], none⟩ := by decide +kernel
set_option maxRecDepth 65536 in
set_option maxHeartbeats 40000000 in
theorem c_page (l : Launch) (Z : State) (a0 : Array Value) (hw : ∀ d ∈ tables_1, d.before a0 Z = true)  (h0 : Heap) (n0 : Nat) (Z0 : n0 ≤ h0.size)  :
    Ctr l Z (⟨"needlewise/boyermoore/Rightmost", "newPage", "()[I"⟩ : MethodName) prog_13_method_3_code 1 (some (.array .int)) ({ frames := 1, cells := 1, slots := 256, locals := 15 } : Room) #[] h0 (fun v h L => ∃ b : Addr, v = some (.ref b) ∧ Fr n0 L ∧ Keep h0 h [] ∧ h0.size ≤ b ∧ Ars Z h b .int (List.replicate 256 (.int (-1))) ∧ Exa Z h b "[I") := by
  refine Ctr.of (plainFor_of_name pn_1) (fun m => ef_c_page m ) ?_
  intro p e s m below meth c T0 hx hby hml hown hnm hret hlk hZ e0 X0
  have N0 := Fr.nil n0
  replace hown : s.vm.findClass "needlewise/boyermoore/Rightmost" = some m.cls := hown
  replace hml : c.maxLocals = 1 := hml
  have KP := Keep.refl h0 []
  refine Run.x_sipush (q := 3) X0 hx (hb hby d3_0) (z := (256 : Int32)) rfl rfl ?_
  refine Run.newPE X0 hx hZ e0 (hw _ (List.mem_of_getElem? (i := 29) rfl)) (hb hby d3_3) (len := 256) (by decide) (by decide) (cap := 256) (by decide) (by decide) (by decide) (by decide) (ad := "[I") rfl ?_
  intro T1 h1 b1 gg1 X1 e1 E1 A_b1 E_b1
  have g_b1 : n0 ≤ b1 := Nat.le_trans Z0 (Nat.le_of_eq gg1.symm)
  have sz_b1 : h0.size ≤ b1 := Nat.le_trans KP.1 (Nat.le_of_eq gg1.symm)
  have Z1 : n0 ≤ h1.size := Nat.le_trans Z0 E1.1
  replace KP := KP.ext E1
  replace A_b1 : Ars Z h1 b1 .int (List.replicate 256 (.int (0 : Int32))) := A_b1
  show Run p e below s _ _ _ (T1.setTop (mkF m 5 #[.unset] [(.ref b1)]))
  refine Run.x_astoreN (q := 6) X1 hx #[.val (.ref b1)] (hb hby d3_5) rfl rfl rfl ?_
  refine Run.x_aloadN (q := 7) X1 hx (hb hby d3_6) rfl rfl rfl ?_
  refine Run.x_iconst (q := 8) X1 hx (hb hby d3_7) (z := (-1 : Int32)) rfl rfl ?_
  refine Run.callS X1 hx hZ e1 (y := (⟨"java/util/Arrays", "fill", "([II)V"⟩ : MethodName)) hown (hw _ (List.mem_of_getElem? (i := 30) rfl)) (hw _ (List.mem_of_getElem? (i := 31) rfl)) (hw _ (List.mem_of_getElem? (i := 23) rfl)) (hw _ (List.mem_of_getElem? (i := 32) rfl)) (by decide) (argsL := [(.ref b1), (.int (-1 : Int32))]) (rest := []) (c_fill l Z a0 hw b1 (-1 : Int32) h1 n0 Z1 (List.replicate 256 (.int (0 : Int32))) A_b1 g_b1 (by first | decide | simp)) pd_0 rfl (by rw [hml]; rfl) (W := 0) rfl (by decide) (by decide) (by decide) (by decide) (hb hby d3_8) rfl ?_
  intro T2 v2 L2 X2 q2
  obtain ⟨rfl, M2, K2, A2⟩ := q2
  have N2 := Fr.app N0 M2
  show Run p e below s _ _ _ (T2.setTop (mkF m 11 #[.val (.ref b1)] []))
  have Z2 : n0 ≤ T2.heap.size := Nat.le_trans Z1 K2.1
  replace KP := KP.trans K2 (allS (Or.inr sz_b1) all0)
  refine Run.x_aloadN (q := 12) X2 hx (hb hby d3_11) rfl rfl rfl ?_
  replace E_b1 := E_b1.keep K2
  refine Run.retA X2 hx hlk rfl (t := (.array .int)) hret rfl rfl rfl (hb hby d3_12) (by decide) (by decide) ?_
  exact ⟨b1, rfl, N2, KP, sz_b1, by simpa using A2, E_b1⟩
theorem own_hi {c v : Int32} (h0 : 0 ≤ c.toInt) (h1 : c.toInt < 65536) (h : (c.toUInt32 >>> ((8 : Int32) &&& 31).toUInt32).toInt32 = v) : ∃ H : Nat, v.toInt = H ∧ H < 256 ∧ (H : Int) = c.toInt / 256 := by
  have q := c_iushr c 8 8 (by decide) (by decide)
  rw [h] at q
  exact ⟨v.toInt.toNat, by omega, by omega, by omega⟩
theorem own_lo (c : Int32) : ∃ L : Nat, (c &&& 255).toInt = L ∧ L < 256 ∧ (L : Int) = c.toInt % 256 := by
  have q := c_mask c 255 8 (by decide) (by decide)
  exact ⟨(c &&& 255).toInt.toNat, by omega, by omega, by omega⟩
def own_go (f : Nat → Int32) (t : Nat) : List Int32 → Nat → Int32
  | [] => f
  | c :: r => own_go (own_upd f c.toInt.toNat (Int32.ofNat t)) (t + 1) r
def own_bt (b : Int64) : List Int32 → Int64
  | [] => b
  | c :: r => own_bt (if c.toInt < 256 then b else b ||| ((1 : Int64) <<< (c &&& 0x3f).toInt64)) r
theorem own_h1 {c v : Int32} {H : Nat} (a : v.toInt = H) (b : (H : Int) = c.toInt / 256) (q : (0 : Int32) < v) : ¬ c.toInt < 256 := by
  have := Int32.lt_iff_toInt_lt.mp q
  simp at this
  omega
theorem own_h0 {c v : Int32} {H : Nat} (a : v.toInt = H) (b : (H : Int) = c.toInt / 256) (q : ¬ (0 : Int32) < v) : c.toInt < 256 := by
  have := mt Int32.lt_iff_toInt_lt.mpr q
  simp at this
  omega
theorem d4_0 : decode prog_13_method_1_code 0 = .ok (.aload_n 0, 1) := by decide +kernel
theorem d4_1 : decode prog_13_method_1_code 1 = .ok (.invokespecial 1, 3) := by decide +kernel
theorem d4_4 : decode prog_13_method_1_code 4 = .ok (.aload_n 0, 1) := by decide +kernel
theorem d4_5 : decode prog_13_method_1_code 5 = .ok (.sipush 256, 3) := by decide +kernel
theorem d4_8 : decode prog_13_method_1_code 8 = .ok (.anewarray 9, 3) := by decide +kernel
theorem d4_11 : decode prog_13_method_1_code 11 = .ok (.putfield 11, 3) := by decide +kernel
theorem d4_14 : decode prog_13_method_1_code 14 = .ok (.aload_n 0, 1) := by decide +kernel
theorem d4_15 : decode prog_13_method_1_code 15 = .ok (.getfield 11, 3) := by decide +kernel
theorem d4_18 : decode prog_13_method_1_code 18 = .ok (.getstatic 15, 3) := by decide +kernel
theorem d4_21 : decode prog_13_method_1_code 21 = .ok (.invokestatic 18, 3) := by decide +kernel
theorem d4_24 : decode prog_13_method_1_code 24 = .ok (.lconst 0, 1) := by decide +kernel
theorem d4_25 : decode prog_13_method_1_code 25 = .ok (.lstore_n 2, 1) := by decide +kernel
theorem d4_26 : decode prog_13_method_1_code 26 = .ok (.iconst 0, 1) := by decide +kernel
theorem d4_27 : decode prog_13_method_1_code 27 = .ok (.istore 4, 2) := by decide +kernel
theorem d4_29 : decode prog_13_method_1_code 29 = .ok (.iload 4, 2) := by decide +kernel
theorem d4_31 : decode prog_13_method_1_code 31 = .ok (.aload_n 1, 1) := by decide +kernel
theorem d4_32 : decode prog_13_method_1_code 32 = .ok (.arraylength, 1) := by decide +kernel
theorem d4_33 : decode prog_13_method_1_code 33 = .ok (.if_icmp .ge 73, 3) := by decide +kernel
theorem d4_36 : decode prog_13_method_1_code 36 = .ok (.aload_n 1, 1) := by decide +kernel
theorem d4_37 : decode prog_13_method_1_code 37 = .ok (.iload 4, 2) := by decide +kernel
theorem d4_39 : decode prog_13_method_1_code 39 = .ok (.caload, 1) := by decide +kernel
theorem d4_40 : decode prog_13_method_1_code 40 = .ok (.istore 5, 2) := by decide +kernel
theorem d4_42 : decode prog_13_method_1_code 42 = .ok (.iload 5, 2) := by decide +kernel
theorem d4_44 : decode prog_13_method_1_code 44 = .ok (.bipush 8, 2) := by decide +kernel
theorem d4_46 : decode prog_13_method_1_code 46 = .ok (.iushr, 1) := by decide +kernel
theorem d4_47 : decode prog_13_method_1_code 47 = .ok (.istore 6, 2) := by decide +kernel
theorem d4_49 : decode prog_13_method_1_code 49 = .ok (.aload_n 0, 1) := by decide +kernel
theorem d4_50 : decode prog_13_method_1_code 50 = .ok (.getfield 11, 3) := by decide +kernel
theorem d4_53 : decode prog_13_method_1_code 53 = .ok (.iload 6, 2) := by decide +kernel
theorem d4_55 : decode prog_13_method_1_code 55 = .ok (.aaload, 1) := by decide +kernel
theorem d4_56 : decode prog_13_method_1_code 56 = .ok (.getstatic 15, 3) := by decide +kernel
theorem d4_59 : decode prog_13_method_1_code 59 = .ok (.if_acmp .ne 13, 3) := by decide +kernel
theorem d4_62 : decode prog_13_method_1_code 62 = .ok (.aload_n 0, 1) := by decide +kernel
theorem d4_63 : decode prog_13_method_1_code 63 = .ok (.getfield 11, 3) := by decide +kernel
theorem d4_66 : decode prog_13_method_1_code 66 = .ok (.iload 6, 2) := by decide +kernel
theorem d4_68 : decode prog_13_method_1_code 68 = .ok (.invokestatic 24, 3) := by decide +kernel
theorem d4_71 : decode prog_13_method_1_code 71 = .ok (.aastore, 1) := by decide +kernel
theorem d4_72 : decode prog_13_method_1_code 72 = .ok (.aload_n 0, 1) := by decide +kernel
theorem d4_73 : decode prog_13_method_1_code 73 = .ok (.getfield 11, 3) := by decide +kernel
theorem d4_76 : decode prog_13_method_1_code 76 = .ok (.iload 6, 2) := by decide +kernel
theorem d4_78 : decode prog_13_method_1_code 78 = .ok (.aaload, 1) := by decide +kernel
theorem d4_79 : decode prog_13_method_1_code 79 = .ok (.iload 5, 2) := by decide +kernel
theorem d4_81 : decode prog_13_method_1_code 81 = .ok (.sipush 255, 3) := by decide +kernel
theorem d4_84 : decode prog_13_method_1_code 84 = .ok (.iand, 1) := by decide +kernel
theorem d4_85 : decode prog_13_method_1_code 85 = .ok (.iload 4, 2) := by decide +kernel
theorem d4_87 : decode prog_13_method_1_code 87 = .ok (.iastore, 1) := by decide +kernel
theorem d4_88 : decode prog_13_method_1_code 88 = .ok (.iload 6, 2) := by decide +kernel
theorem d4_90 : decode prog_13_method_1_code 90 = .ok (.ifCond .le 10, 3) := by decide +kernel
theorem d4_93 : decode prog_13_method_1_code 93 = .ok (.lload_n 2, 1) := by decide +kernel
theorem d4_94 : decode prog_13_method_1_code 94 = .ok (.lconst 1, 1) := by decide +kernel
theorem d4_95 : decode prog_13_method_1_code 95 = .ok (.iload 5, 2) := by decide +kernel
theorem d4_97 : decode prog_13_method_1_code 97 = .ok (.lshl, 1) := by decide +kernel
theorem d4_98 : decode prog_13_method_1_code 98 = .ok (.lor, 1) := by decide +kernel
theorem d4_99 : decode prog_13_method_1_code 99 = .ok (.lstore_n 2, 1) := by decide +kernel
theorem d4_100 : decode prog_13_method_1_code 100 = .ok (.iinc 4 1, 3) := by decide +kernel
theorem d4_103 : decode prog_13_method_1_code 103 = .ok (.goto (-74), 3) := by decide +kernel
theorem d4_106 : decode prog_13_method_1_code 106 = .ok (.aload_n 0, 1) := by decide +kernel
theorem d4_107 : decode prog_13_method_1_code 107 = .ok (.aload_n 0, 1) := by decide +kernel
theorem d4_108 : decode prog_13_method_1_code 108 = .ok (.getfield 11, 3) := by decide +kernel
theorem d4_111 : decode prog_13_method_1_code 111 = .ok (.iconst 0, 1) := by decide +kernel
theorem d4_112 : decode prog_13_method_1_code 112 = .ok (.aaload, 1) := by decide +kernel
theorem d4_113 : decode prog_13_method_1_code 113 = .ok (.putfield 28, 3) := by decide +kernel
theorem d4_116 : decode prog_13_method_1_code 116 = .ok (.aload_n 0, 1) := by decide +kernel
theorem d4_117 : decode prog_13_method_1_code 117 = .ok (.lload_n 2, 1) := by decide +kernel
theorem d4_118 : decode prog_13_method_1_code 118 = .ok (.putfield 31, 3) := by decide +kernel
theorem d4_121 : decode prog_13_method_1_code 121 = .ok (.return_, 1) := by decide +kernel
theorem ef_c_init0 (m : MethodId) (this : Addr) (pat : Addr) : entryFrame m #[(.ref this), (.ref pat)] 7 = mkF m 0 #[.val (.ref this), .val (.ref pat), .unset, .unset, .unset, .unset, .unset] [] := by first | (simp [entryFrame, mkF, argsToLocals, Value.category]; done) | rfl
theorem pd_1 : parseMethodDescriptor "([Ljava/lang/Object;Ljava/lang/Object;)V" = some ⟨[(.array (.object "java/lang/Object")), (.object "java/lang/Object")], none⟩ := by decide +kernel
set_option maxRecDepth 65536 in
set_option maxHeartbeats 40000000 in
theorem c_init0 (l : Launch) (Z : State) (a0 : Array Value) (hw : ∀ d ∈ tables_1, d.before a0 Z = true) (this : Addr) (pat : Addr) (h0 : Heap) (n0 : Nat) (Z0 : n0 ≤ h0.size) (ab : Addr) (E_this : Exa Z h0 this "needlewise/boyermoore/Rightmost") (F_this_pages : Fld Z h0 this "needlewise/boyermoore/Rightmost" "pages" "[[I" .null) (F_this_low : Fld Z h0 this "needlewise/boyermoore/Rightmost" "low" "[I" .null) (F_this_filter : Fld Z h0 this "needlewise/boyermoore/Rightmost" "filter" "J" (.long (0 : Int64))) (A_pat : Ars Z h0 pat .char []) (S_ABSENT : Sta Z h0 "needlewise/boyermoore/Rightmost" "ABSENT" "[I" (.ref ab)) (A_ab : Ars Z h0 ab .int (List.replicate 256 (.int (-1)))) (E_ab : Exa Z h0 ab "[I") (g_this : n0 ≤ this) (ne_this_pat : this ≠ pat) (ne_this_ab : this ≠ ab) (ne_pat_ab : pat ≠ ab) :
    Ctr l Z (⟨"needlewise/boyermoore/Rightmost", "<init>", "([C)V"⟩ : MethodName) prog_13_method_1_code 7 none ({ frames := 1, cells := 1, slots := 256, locals := 15 } : Room) #[(.ref this), (.ref pat)] h0 (fun v h L => ∃ (pa : Addr) (pg : Nat → Addr), v = none ∧ Fr n0 L ∧ Pgs Z h n0 ab pa pg (own_go (fun _ => -1) 0 []) ∧ Fld Z h this "needlewise/boyermoore/Rightmost" "pages" "[[I" (.ref pa) ∧ Fld Z h this "needlewise/boyermoore/Rightmost" "low" "[I" (.ref (pg 0)) ∧ Fld Z h this "needlewise/boyermoore/Rightmost" "filter" "J" (.long (own_bt 0 [])) ∧ Exa Z h this "needlewise/boyermoore/Rightmost") := by
  refine Ctr.of (plainFor_of_name pn_1) (fun m => ef_c_init0 m this pat) ?_
  intro p e s m below meth c T0 hx hby hml hown hnm hret hlk hZ e0 X0
  have N0 := Fr.nil n0
  replace hown : s.vm.findClass "needlewise/boyermoore/Rightmost" = some m.cls := hown
  replace hml : c.maxLocals = 7 := hml
  refine Run.x_aloadN (q := 1) X0 hx (hb hby d4_0) rfl rfl rfl ?_
  refine Run.init X0 hx hZ e0 hown (hw _ (List.mem_of_getElem? (i := 12) rfl)) (hw _ (List.mem_of_getElem? (i := 13) rfl)) (hw _ (List.mem_of_getElem? (i := 14) rfl)) (by rw [hml]; rfl) (hb hby d4_1) (by decide) (W := 0) rfl (by decide) ?_
  intro T1 X1 e1
  show Run p e below s _ _ _ (T1.setTop (mkF m 4 #[.val (.ref this), .val (.ref pat), .unset, .unset, .unset, .unset, .unset] []))
  refine Run.x_aloadN (q := 5) X1 hx (hb hby d4_4) rfl rfl rfl ?_
  refine Run.x_sipush (q := 8) X1 hx (hb hby d4_5) (z := (256 : Int32)) rfl rfl ?_
  refine Run.newRA X1 hx hZ e1 hown rfl (hw _ (List.mem_of_getElem? (i := 15) rfl)) (hw _ (List.mem_of_getElem? (i := 16) rfl)) (hb hby d4_8) (len := 256) (by decide) (by decide) (cap := 256) (by decide) (by decide) (by decide) (by decide) (ad := "[[I") rfl ?_
  intro T2 h2 b2 gg2 X2 e2 E2 A_b2 E_b2 O_b2
  replace O_b2 : Ovb Z h2 b2 := O_b2
  have g_b2 : n0 ≤ b2 := Nat.le_trans Z0 (Nat.le_of_eq gg2.symm)
  have ne_this_b2 : this ≠ b2 := Nat.ne_of_lt (Nat.lt_of_lt_of_le E_this.lt (Nat.le_of_eq gg2.symm))
  have ne_pat_b2 : pat ≠ b2 := Nat.ne_of_lt (Nat.lt_of_lt_of_le A_pat.lt (Nat.le_of_eq gg2.symm))
  have ne_ab_b2 : ab ≠ b2 := Nat.ne_of_lt (Nat.lt_of_lt_of_le A_ab.lt (Nat.le_of_eq gg2.symm))
  have Z2 : n0 ≤ h2.size := Nat.le_trans Z0 E2.1
  show Run p e below s _ _ _ (T2.setTop (mkF m 11 #[.val (.ref this), .val (.ref pat), .unset, .unset, .unset, .unset, .unset] [(.ref b2), (.ref this)]))
  replace F_this_pages := F_this_pages.ext E2
  replace E_this := E_this.ext E2
  obtain ⟨T3, h3, X3, e3, W3, st3⟩ := putF X2 hx hZ hown (host := "") (Or.inl (hw _ (List.mem_of_getElem? (i := 17) rfl))) Via.refl e2 F_this_pages E_this (Or.inr ⟨(hw _ (List.mem_of_getElem? (i := 18) rfl)), rfl, hnm⟩) (hw _ (List.mem_of_getElem? (i := 7) rfl)) (ty := (.array (.array .int))) (by decide) rfl rfl (g := (mkF m 11 #[.val (.ref this), .val (.ref pat), .unset, .unset, .unset, .unset, .unset] [(.ref b2), (.ref this)])) rfl rfl (hb hby d4_11)
  replace F_this_pages := F_this_pages.same W3
  have Z3 : n0 ≤ h3.size := Nat.le_trans Z2 (Nat.le_of_eq W3.size.symm)
  have N3 := Fr.snoc X3 N0 g_this
  refine Run.st st3 ?_
  show Run p e below s _ _ _ (T3.setTop (mkF m 14 #[.val (.ref this), .val (.ref pat), .unset, .unset, .unset, .unset, .unset] []))
  refine Run.x_aloadN (q := 15) X3 hx (hb hby d4_14) rfl rfl rfl ?_
  obtain ⟨T4, X4, e4, st4⟩ := getF X3 hx hZ hown (host := "") (Or.inl (hw _ (List.mem_of_getElem? (i := 17) rfl))) Via.refl e3 F_this_pages (g := (mkF m 15 #[.val (.ref this), .val (.ref pat), .unset, .unset, .unset, .unset, .unset] [(.ref this)])) rfl rfl (hb hby d4_15)
  refine Run.st st4 ?_
  show Run p e below s _ _ _ (T4.setTop (mkF m 18 #[.val (.ref this), .val (.ref pat), .unset, .unset, .unset, .unset, .unset] [(.ref b2)]))
  replace S_ABSENT := (S_ABSENT.ext E2).wr W3
  obtain ⟨T5, X5, e5, st5⟩ := getS2 X4 hx hZ hown (host := "") (Or.inl (hw _ (List.mem_of_getElem? (i := 19) rfl))) Via.refl e4 S_ABSENT (g := (mkF m 18 #[.val (.ref this), .val (.ref pat), .unset, .unset, .unset, .unset, .unset] [(.ref b2)])) rfl (hb hby d4_18)
  refine Run.st st5 ?_
  show Run p e below s _ _ _ (T5.setTop (mkF m 21 #[.val (.ref this), .val (.ref pat), .unset, .unset, .unset, .unset, .unset] [(.ref ab), (.ref b2)]))
  replace A_b2 := A_b2.other W3 (Ne.symm ne_this_b2)
  replace O_b2 := O_b2.wr W3
  replace E_ab := (E_ab.ext E2).wr W3
  refine Run.callS X5 hx hZ e5 (y := (⟨"java/util/Arrays", "fill", "([Ljava/lang/Object;Ljava/lang/Object;)V"⟩ : MethodName)) hown (hw _ (List.mem_of_getElem? (i := 21) rfl)) (hw _ (List.mem_of_getElem? (i := 22) rfl)) (hw _ (List.mem_of_getElem? (i := 23) rfl)) (hw _ (List.mem_of_getElem? (i := 24) rfl)) (by decide) (argsL := [(.ref b2), (.ref ab)]) (rest := []) (c_fillR l Z a0 hw b2 ab h3 n0 Z3 (List.replicate 256 .null) A_b2 g_b2 (by rw [List.length_replicate]; decide) (own_sto A_b2 O_b2 E_ab)) pd_1 rfl (by rw [hml]; rfl) (W := 0) rfl (by decide) (by decide) (by decide) (by decide) (hb hby d4_21) rfl ?_
  intro T6 v6 L6 X6 q6
  obtain ⟨rfl, M6, K6, A6⟩ := q6
  have N6 := Fr.app N3 M6
  show Run p e below s _ _ _ (T6.setTop (mkF m 24 #[.val (.ref this), .val (.ref pat), .unset, .unset, .unset, .unset, .unset] []))
  replace S_ABSENT := Sta_keep S_ABSENT K6 (allS A_b2.ns all0)
  have Z6 : n0 ≤ T6.heap.size := Nat.le_trans Z3 K6.1
  replace A_ab := ((A_ab.ext E2).other W3 (Ne.symm ne_this_ab)).keep K6 (ninS ne_ab_b2 nin0)
  replace O_b2 := O_b2.keep K6
  have PG := Pgs.start (n0 := n0) (by rw [List.length_replicate] at A6; exact A6) O_b2 A_ab ne_ab_b2
  have hn_this : ∀ i, i < 256 → (fun _ => ab : Nat → Addr) i ≠ this := fun _ _ => (Ne.symm ne_this_ab)
  have hn_pat : ∀ i, i < 256 → (fun _ => ab : Nat → Addr) i ≠ pat := fun _ _ => (Ne.symm ne_pat_ab)
  refine Run.x_lconst (q := 25) X6 hx (hb hby d4_24) (z := (0 : Int64)) rfl rfl ?_
  refine Run.x_lstoreN (q := 26) X6 hx #[.val (.ref this), .val (.ref pat), .val (.long (0 : Int64)), .second, .unset, .unset, .unset] (hb hby d4_25) rfl rfl ?_
  refine Run.x_iconst (q := 27) X6 hx (hb hby d4_26) (z := (0 : Int32)) rfl rfl ?_
  refine Run.x_istore (q := 29) X6 hx #[.val (.ref this), .val (.ref pat), .val (.long (0 : Int64)), .second, .val (.int (0 : Int32)), .unset, .unset] (hb hby d4_27) rfl rfl ?_
  refine Run.x_iload (q := 31) X6 hx (hb hby d4_29) rfl rfl ?_
  refine Run.x_aloadN (q := 32) X6 hx (hb hby d4_31) rfl rfl rfl ?_
  replace A_pat := ((A_pat.ext E2).other W3 (Ne.symm ne_this_pat)).keep K6 (ninS ne_pat_b2 nin0)
  refine Run.alen X6 hx hZ rfl A_pat (z := (0 : Int32)) (by decide) (hb hby d4_32) ?_
  show Run p e below s _ _ _ (T6.setTop (mkF m 33 #[.val (.ref this), .val (.ref pat), .val (.long (0 : Int64)), .second, .val (.int (0 : Int32)), .unset, .unset] [(.int (0 : Int32)), (.int (0 : Int32))]))
  refine Run.x_icmpYes (q := 106) X6 hx (hb hby d4_33) (flt (by decide : ¬ ((0 : Int32) < (0 : Int32)))).2.1 (by decide) (by decide) ?_
  refine Run.x_aloadN (q := 107) X6 hx (hb hby d4_106) rfl rfl rfl ?_
  refine Run.x_aloadN (q := 108) X6 hx (hb hby d4_107) rfl rfl rfl ?_
  replace F_this_pages := F_this_pages.keep K6 (ninS ne_this_b2 nin0)
  obtain ⟨T7, X7, e7, st7⟩ := getF X6 hx hZ hown (host := "") (Or.inl (hw _ (List.mem_of_getElem? (i := 17) rfl))) Via.refl rfl F_this_pages (g := (mkF m 108 #[.val (.ref this), .val (.ref pat), .val (.long (0 : Int64)), .second, .val (.int (0 : Int32)), .unset, .unset] [(.ref this), (.ref this)])) rfl rfl (hb hby d4_108)
  refine Run.st st7 ?_
  show Run p e below s _ _ _ (T7.setTop (mkF m 111 #[.val (.ref this), .val (.ref pat), .val (.long (0 : Int64)), .second, .val (.int (0 : Int32)), .unset, .unset] [(.ref b2), (.ref this)]))
  refine Run.x_iconst (q := 112) X7 hx (hb hby d4_111) (z := (0 : Int32)) rfl rfl ?_
  refine Run.ldR X7 hx hZ e7 PG.1 (i := 0) (v := .ref ((fun _ => ab : Nat → Addr) 0)) (by decide) (own_refs_at (by decide)) rfl (hb hby d4_112) ?_
  show Run p e below s _ _ _ (T7.setTop (mkF m 113 #[.val (.ref this), .val (.ref pat), .val (.long (0 : Int64)), .second, .val (.int (0 : Int32)), .unset, .unset] [(.ref ((fun _ => ab : Nat → Addr) 0)), (.ref this)]))
  replace F_this_low := ((F_this_low.ext E2).other W3 (Or.inr (slot_ne (Or.inr (hw _ (List.mem_of_getElem? (i := 34) rfl))) (Or.inr (hw _ (List.mem_of_getElem? (i := 18) rfl))) (by decide) (t := (.array .int)) (t' := (.array (.array .int))) (by decide) (by decide)))).keep K6 (ninS ne_this_b2 nin0)
  replace E_this := (E_this.wr W3).keep K6
  obtain ⟨T8, h8, X8, e8, W8, st8⟩ := putF X7 hx hZ hown (host := "") (Or.inl (hw _ (List.mem_of_getElem? (i := 33) rfl))) Via.refl e7 F_this_low E_this (Or.inr ⟨(hw _ (List.mem_of_getElem? (i := 34) rfl)), rfl, hnm⟩) (hw _ (List.mem_of_getElem? (i := 7) rfl)) (ty := (.array .int)) (by decide) rfl rfl (g := (mkF m 113 #[.val (.ref this), .val (.ref pat), .val (.long (0 : Int64)), .second, .val (.int (0 : Int32)), .unset, .unset] [(.ref ((fun _ => ab : Nat → Addr) 0)), (.ref this)])) rfl rfl (hb hby d4_113)
  replace F_this_low := F_this_low.same W8
  have Z8 : n0 ≤ h8.size := Nat.le_trans Z6 (Nat.le_of_eq W8.size.symm)
  have N8 := Fr.snoc X8 N6 g_this
  refine Run.st st8 ?_
  show Run p e below s _ _ _ (T8.setTop (mkF m 116 #[.val (.ref this), .val (.ref pat), .val (.long (0 : Int64)), .second, .val (.int (0 : Int32)), .unset, .unset] []))
  replace PG := PG.wrO W8 (Ne.symm ne_this_b2) hn_this
  refine Run.x_aloadN (q := 117) X8 hx (hb hby d4_116) rfl rfl rfl ?_
  refine Run.x_lloadN (q := 118) X8 hx (hb hby d4_117) rfl rfl ?_
  replace F_this_filter := (((F_this_filter.ext E2).other W3 (Or.inr (slot_ne (Or.inr (hw _ (List.mem_of_getElem? (i := 36) rfl))) (Or.inr (hw _ (List.mem_of_getElem? (i := 18) rfl))) (by decide) (t := .long) (t' := (.array (.array .int))) (by decide) (by decide)))).keep K6 (ninS ne_this_b2 nin0)).other W8 (Or.inr (slot_ne (Or.inr (hw _ (List.mem_of_getElem? (i := 36) rfl))) (Or.inr (hw _ (List.mem_of_getElem? (i := 34) rfl))) (by decide) (t := .long) (t' := (.array .int)) (by decide) (by decide)))
  replace E_this := E_this.wr W8
  obtain ⟨T9, h9, X9, e9, W9, st9⟩ := putF X8 hx hZ hown (host := "") (Or.inl (hw _ (List.mem_of_getElem? (i := 35) rfl))) Via.refl e8 F_this_filter E_this (Or.inr ⟨(hw _ (List.mem_of_getElem? (i := 36) rfl)), rfl, hnm⟩) (hw _ (List.mem_of_getElem? (i := 7) rfl)) (ty := .long) (by decide) rfl rfl (g := (mkF m 118 #[.val (.ref this), .val (.ref pat), .val (.long (0 : Int64)), .second, .val (.int (0 : Int32)), .unset, .unset] [(.long (0 : Int64)), (.ref this)])) rfl rfl (hb hby d4_118)
  replace F_this_filter := F_this_filter.same W9
  have Z9 : n0 ≤ h9.size := Nat.le_trans Z8 (Nat.le_of_eq W9.size.symm)
  have N9 := Fr.snoc X9 N8 g_this
  refine Run.st st9 ?_
  show Run p e below s _ _ _ (T9.setTop (mkF m 121 #[.val (.ref this), .val (.ref pat), .val (.long (0 : Int64)), .second, .val (.int (0 : Int32)), .unset, .unset] []))
  replace PG := PG.wrO W9 (Ne.symm ne_this_b2) hn_this
  replace E_this := E_this.wr W9
  replace F_this_pages := (F_this_pages.other W8 (Or.inr (slot_ne (Or.inr (hw _ (List.mem_of_getElem? (i := 18) rfl))) (Or.inr (hw _ (List.mem_of_getElem? (i := 34) rfl))) (by decide) (t := (.array (.array .int))) (t' := (.array .int)) (by decide) (by decide)))).other W9 (Or.inr (slot_ne (Or.inr (hw _ (List.mem_of_getElem? (i := 18) rfl))) (Or.inr (hw _ (List.mem_of_getElem? (i := 36) rfl))) (by decide) (t := (.array (.array .int))) (t' := .long) (by decide) (by decide)))
  replace F_this_low := F_this_low.other W9 (Or.inr (slot_ne (Or.inr (hw _ (List.mem_of_getElem? (i := 34) rfl))) (Or.inr (hw _ (List.mem_of_getElem? (i := 36) rfl))) (by decide) (t := (.array .int)) (t' := .long) (by decide) (by decide)))
  replace A_pat := (A_pat.other W8 (Ne.symm ne_this_pat)).other W9 (Ne.symm ne_this_pat)
  replace S_ABSENT := (S_ABSENT.wr W8).wr W9
  replace A_ab := (A_ab.other W8 (Ne.symm ne_this_ab)).other W9 (Ne.symm ne_this_ab)
  replace E_ab := ((E_ab.keep K6).wr W8).wr W9
  refine Run.retV X9 hx hlk e9 hret (hb hby d4_121) (by decide) (by decide) ?_
  exact ⟨b2, (fun _ => ab : Nat → Addr), rfl, N9, PG, F_this_pages, F_this_low, F_this_filter, E_this⟩
theorem ef_c_init1 (m : MethodId) (this : Addr) (pat : Addr) : entryFrame m #[(.ref this), (.ref pat)] 7 = mkF m 0 #[.val (.ref this), .val (.ref pat), .unset, .unset, .unset, .unset, .unset] [] := by first | (simp [entryFrame, mkF, argsToLocals, Value.category]; done) | rfl
theorem pd_2 : parseMethodDescriptor "()[I" = some ⟨[], some (.array .int)⟩ := by decide +kernel
set_option maxRecDepth 65536 in
set_option maxHeartbeats 40000000 in
theorem c_init1 (l : Launch) (Z : State) (a0 : Array Value) (hw : ∀ d ∈ tables_1, d.before a0 Z = true) (this : Addr) (pat : Addr) (h0 : Heap) (n0 : Nat) (Z0 : n0 ≤ h0.size) (ab : Addr) (c0 : Int32) (E_this : Exa Z h0 this "needlewise/boyermoore/Rightmost") (F_this_pages : Fld Z h0 this "needlewise/boyermoore/Rightmost" "pages" "[[I" .null) (F_this_low : Fld Z h0 this "needlewise/boyermoore/Rightmost" "low" "[I" .null) (F_this_filter : Fld Z h0 this "needlewise/boyermoore/Rightmost" "filter" "J" (.long (0 : Int64))) (A_pat : Ars Z h0 pat .char [(.int c0)]) (S_ABSENT : Sta Z h0 "needlewise/boyermoore/Rightmost" "ABSENT" "[I" (.ref ab)) (A_ab : Ars Z h0 ab .int (List.replicate 256 (.int (-1)))) (E_ab : Exa Z h0 ab "[I") (g_this : n0 ≤ this) (ne_this_pat : this ≠ pat) (ne_this_ab : this ≠ ab) (ne_pat_ab : pat ≠ ab) (hr0 : 0 ≤ c0.toInt ∧ c0.toInt < 65536) :
    Ctr l Z (⟨"needlewise/boyermoore/Rightmost", "<init>", "([C)V"⟩ : MethodName) prog_13_method_1_code 7 none ({ frames := 2, cells := 2, slots := 512, locals := 29 } : Room) #[(.ref this), (.ref pat)] h0 (fun v h L => ∃ (pa : Addr) (pg : Nat → Addr), v = none ∧ Fr n0 L ∧ Pgs Z h n0 ab pa pg (own_go (fun _ => -1) 0 [c0]) ∧ Fld Z h this "needlewise/boyermoore/Rightmost" "pages" "[[I" (.ref pa) ∧ Fld Z h this "needlewise/boyermoore/Rightmost" "low" "[I" (.ref (pg 0)) ∧ Fld Z h this "needlewise/boyermoore/Rightmost" "filter" "J" (.long (own_bt 0 [c0])) ∧ Exa Z h this "needlewise/boyermoore/Rightmost") := by
  refine Ctr.of (plainFor_of_name pn_1) (fun m => ef_c_init1 m this pat) ?_
  intro p e s m below meth c T0 hx hby hml hown hnm hret hlk hZ e0 X0
  have N0 := Fr.nil n0
  replace hown : s.vm.findClass "needlewise/boyermoore/Rightmost" = some m.cls := hown
  replace hml : c.maxLocals = 7 := hml
  refine Run.x_aloadN (q := 1) X0 hx (hb hby d4_0) rfl rfl rfl ?_
  refine Run.init X0 hx hZ e0 hown (hw _ (List.mem_of_getElem? (i := 12) rfl)) (hw _ (List.mem_of_getElem? (i := 13) rfl)) (hw _ (List.mem_of_getElem? (i := 14) rfl)) (by rw [hml]; rfl) (hb hby d4_1) (by decide) (W := 0) rfl (by decide) ?_
  intro T1 X1 e1
  show Run p e below s _ _ _ (T1.setTop (mkF m 4 #[.val (.ref this), .val (.ref pat), .unset, .unset, .unset, .unset, .unset] []))
  refine Run.x_aloadN (q := 5) X1 hx (hb hby d4_4) rfl rfl rfl ?_
  refine Run.x_sipush (q := 8) X1 hx (hb hby d4_5) (z := (256 : Int32)) rfl rfl ?_
  refine Run.newRA X1 hx hZ e1 hown rfl (hw _ (List.mem_of_getElem? (i := 15) rfl)) (hw _ (List.mem_of_getElem? (i := 16) rfl)) (hb hby d4_8) (len := 256) (by decide) (by decide) (cap := 256) (by decide) (by decide) (by decide) (by decide) (ad := "[[I") rfl ?_
  intro T2 h2 b2 gg2 X2 e2 E2 A_b2 E_b2 O_b2
  replace O_b2 : Ovb Z h2 b2 := O_b2
  have g_b2 : n0 ≤ b2 := Nat.le_trans Z0 (Nat.le_of_eq gg2.symm)
  have ne_this_b2 : this ≠ b2 := Nat.ne_of_lt (Nat.lt_of_lt_of_le E_this.lt (Nat.le_of_eq gg2.symm))
  have ne_pat_b2 : pat ≠ b2 := Nat.ne_of_lt (Nat.lt_of_lt_of_le A_pat.lt (Nat.le_of_eq gg2.symm))
  have ne_ab_b2 : ab ≠ b2 := Nat.ne_of_lt (Nat.lt_of_lt_of_le A_ab.lt (Nat.le_of_eq gg2.symm))
  have Z2 : n0 ≤ h2.size := Nat.le_trans Z0 E2.1
  show Run p e below s _ _ _ (T2.setTop (mkF m 11 #[.val (.ref this), .val (.ref pat), .unset, .unset, .unset, .unset, .unset] [(.ref b2), (.ref this)]))
  replace F_this_pages := F_this_pages.ext E2
  replace E_this := E_this.ext E2
  obtain ⟨T3, h3, X3, e3, W3, st3⟩ := putF X2 hx hZ hown (host := "") (Or.inl (hw _ (List.mem_of_getElem? (i := 17) rfl))) Via.refl e2 F_this_pages E_this (Or.inr ⟨(hw _ (List.mem_of_getElem? (i := 18) rfl)), rfl, hnm⟩) (hw _ (List.mem_of_getElem? (i := 7) rfl)) (ty := (.array (.array .int))) (by decide) rfl rfl (g := (mkF m 11 #[.val (.ref this), .val (.ref pat), .unset, .unset, .unset, .unset, .unset] [(.ref b2), (.ref this)])) rfl rfl (hb hby d4_11)
  replace F_this_pages := F_this_pages.same W3
  have Z3 : n0 ≤ h3.size := Nat.le_trans Z2 (Nat.le_of_eq W3.size.symm)
  have N3 := Fr.snoc X3 N0 g_this
  refine Run.st st3 ?_
  show Run p e below s _ _ _ (T3.setTop (mkF m 14 #[.val (.ref this), .val (.ref pat), .unset, .unset, .unset, .unset, .unset] []))
  refine Run.x_aloadN (q := 15) X3 hx (hb hby d4_14) rfl rfl rfl ?_
  obtain ⟨T4, X4, e4, st4⟩ := getF X3 hx hZ hown (host := "") (Or.inl (hw _ (List.mem_of_getElem? (i := 17) rfl))) Via.refl e3 F_this_pages (g := (mkF m 15 #[.val (.ref this), .val (.ref pat), .unset, .unset, .unset, .unset, .unset] [(.ref this)])) rfl rfl (hb hby d4_15)
  refine Run.st st4 ?_
  show Run p e below s _ _ _ (T4.setTop (mkF m 18 #[.val (.ref this), .val (.ref pat), .unset, .unset, .unset, .unset, .unset] [(.ref b2)]))
  replace S_ABSENT := (S_ABSENT.ext E2).wr W3
  obtain ⟨T5, X5, e5, st5⟩ := getS2 X4 hx hZ hown (host := "") (Or.inl (hw _ (List.mem_of_getElem? (i := 19) rfl))) Via.refl e4 S_ABSENT (g := (mkF m 18 #[.val (.ref this), .val (.ref pat), .unset, .unset, .unset, .unset, .unset] [(.ref b2)])) rfl (hb hby d4_18)
  refine Run.st st5 ?_
  show Run p e below s _ _ _ (T5.setTop (mkF m 21 #[.val (.ref this), .val (.ref pat), .unset, .unset, .unset, .unset, .unset] [(.ref ab), (.ref b2)]))
  replace A_b2 := A_b2.other W3 (Ne.symm ne_this_b2)
  replace O_b2 := O_b2.wr W3
  replace E_ab := (E_ab.ext E2).wr W3
  refine Run.callS X5 hx hZ e5 (y := (⟨"java/util/Arrays", "fill", "([Ljava/lang/Object;Ljava/lang/Object;)V"⟩ : MethodName)) hown (hw _ (List.mem_of_getElem? (i := 21) rfl)) (hw _ (List.mem_of_getElem? (i := 22) rfl)) (hw _ (List.mem_of_getElem? (i := 23) rfl)) (hw _ (List.mem_of_getElem? (i := 24) rfl)) (by decide) (argsL := [(.ref b2), (.ref ab)]) (rest := []) (c_fillR l Z a0 hw b2 ab h3 n0 Z3 (List.replicate 256 .null) A_b2 g_b2 (by rw [List.length_replicate]; decide) (own_sto A_b2 O_b2 E_ab)) pd_1 rfl (by rw [hml]; rfl) (W := 0) rfl (by decide) (by decide) (by decide) (by decide) (hb hby d4_21) rfl ?_
  intro T6 v6 L6 X6 q6
  obtain ⟨rfl, M6, K6, A6⟩ := q6
  have N6 := Fr.app N3 M6
  show Run p e below s _ _ _ (T6.setTop (mkF m 24 #[.val (.ref this), .val (.ref pat), .unset, .unset, .unset, .unset, .unset] []))
  replace S_ABSENT := Sta_keep S_ABSENT K6 (allS A_b2.ns all0)
  have Z6 : n0 ≤ T6.heap.size := Nat.le_trans Z3 K6.1
  replace A_ab := ((A_ab.ext E2).other W3 (Ne.symm ne_this_ab)).keep K6 (ninS ne_ab_b2 nin0)
  replace O_b2 := O_b2.keep K6
  have PG := Pgs.start (n0 := n0) (by rw [List.length_replicate] at A6; exact A6) O_b2 A_ab ne_ab_b2
  have hn_this : ∀ i, i < 256 → (fun _ => ab : Nat → Addr) i ≠ this := fun _ _ => (Ne.symm ne_this_ab)
  have hn_pat : ∀ i, i < 256 → (fun _ => ab : Nat → Addr) i ≠ pat := fun _ _ => (Ne.symm ne_pat_ab)
  refine Run.x_lconst (q := 25) X6 hx (hb hby d4_24) (z := (0 : Int64)) rfl rfl ?_
  refine Run.x_lstoreN (q := 26) X6 hx #[.val (.ref this), .val (.ref pat), .val (.long (0 : Int64)), .second, .unset, .unset, .unset] (hb hby d4_25) rfl rfl ?_
  refine Run.x_iconst (q := 27) X6 hx (hb hby d4_26) (z := (0 : Int32)) rfl rfl ?_
  refine Run.x_istore (q := 29) X6 hx #[.val (.ref this), .val (.ref pat), .val (.long (0 : Int64)), .second, .val (.int (0 : Int32)), .unset, .unset] (hb hby d4_27) rfl rfl ?_
  refine Run.x_iload (q := 31) X6 hx (hb hby d4_29) rfl rfl ?_
  refine Run.x_aloadN (q := 32) X6 hx (hb hby d4_31) rfl rfl rfl ?_
  replace A_pat := ((A_pat.ext E2).other W3 (Ne.symm ne_this_pat)).keep K6 (ninS ne_pat_b2 nin0)
  refine Run.alen X6 hx hZ rfl A_pat (z := (1 : Int32)) rfl (hb hby d4_32) ?_
  show Run p e below s _ _ _ (T6.setTop (mkF m 33 #[.val (.ref this), .val (.ref pat), .val (.long (0 : Int64)), .second, .val (.int (0 : Int32)), .unset, .unset] [(.int (1 : Int32)), (.int (0 : Int32))]))
  refine Run.x_icmpNo (q := 36) X6 hx (hb hby d4_33) (tlt (by decide : (0 : Int32) < (1 : Int32))).2.1 rfl ?_
  refine Run.x_aloadN (q := 37) X6 hx (hb hby d4_36) rfl rfl rfl ?_
  refine Run.x_iload (q := 39) X6 hx (hb hby d4_37) rfl rfl ?_
  refine Run.ldC X6 hx hZ rfl A_pat (i := 0) (v := (.int c0)) (by decide) rfl (hb hby d4_39) ?_
  show Run p e below s _ _ _ (T6.setTop (mkF m 40 #[.val (.ref this), .val (.ref pat), .val (.long (0 : Int64)), .second, .val (.int (0 : Int32)), .unset, .unset] [(.int c0)]))
  refine Run.x_istore (q := 42) X6 hx #[.val (.ref this), .val (.ref pat), .val (.long (0 : Int64)), .second, .val (.int (0 : Int32)), .val (.int c0), .unset] (hb hby d4_40) rfl rfl ?_
  refine Run.x_iload (q := 44) X6 hx (hb hby d4_42) rfl rfl ?_
  refine Run.x_bipush (q := 46) X6 hx (hb hby d4_44) (z := (8 : Int32)) rfl rfl ?_
  refine Run.x_iushr (q := 47) X6 hx (hb hby d4_46) rfl rfl ?_
  refine Run.x_istore (q := 49) X6 hx #[.val (.ref this), .val (.ref pat), .val (.long (0 : Int64)), .second, .val (.int (0 : Int32)), .val (.int c0), .val (.int ((c0.toUInt32 >>> ((8 : Int32) &&& 31).toUInt32).toInt32))] (hb hby d4_47) rfl rfl ?_
  generalize hv7 : ((c0.toUInt32 >>> ((8 : Int32) &&& 31).toUInt32).toInt32) = v7
  refine Run.x_aloadN (q := 50) X6 hx (hb hby d4_49) rfl rfl rfl ?_
  replace F_this_pages := F_this_pages.keep K6 (ninS ne_this_b2 nin0)
  obtain ⟨T8, X8, e8, st8⟩ := getF X6 hx hZ hown (host := "") (Or.inl (hw _ (List.mem_of_getElem? (i := 17) rfl))) Via.refl rfl F_this_pages (g := (mkF m 50 #[.val (.ref this), .val (.ref pat), .val (.long (0 : Int64)), .second, .val (.int (0 : Int32)), .val (.int c0), .val (.int v7)] [(.ref this)])) rfl rfl (hb hby d4_50)
  refine Run.st st8 ?_
  show Run p e below s _ _ _ (T8.setTop (mkF m 53 #[.val (.ref this), .val (.ref pat), .val (.long (0 : Int64)), .second, .val (.int (0 : Int32)), .val (.int c0), .val (.int v7)] [(.ref b2)]))
  refine Run.x_iload (q := 55) X8 hx (hb hby d4_53) rfl rfl ?_
  obtain ⟨H0, eH0, lH0, dH0⟩ := own_hi hr0.1 hr0.2 hv7
  refine Run.ldR X8 hx hZ e8 PG.1 (i := H0) (v := .ref ((fun _ => ab : Nat → Addr) H0)) eH0 (own_refs_at lH0) rfl (hb hby d4_55) ?_
  show Run p e below s _ _ _ (T8.setTop (mkF m 56 #[.val (.ref this), .val (.ref pat), .val (.long (0 : Int64)), .second, .val (.int (0 : Int32)), .val (.int c0), .val (.int v7)] [(.ref ((fun _ => ab : Nat → Addr) H0))]))
  obtain ⟨T9, X9, e9, st9⟩ := getS2 X8 hx hZ hown (host := "") (Or.inl (hw _ (List.mem_of_getElem? (i := 19) rfl))) Via.refl e8 S_ABSENT (g := (mkF m 56 #[.val (.ref this), .val (.ref pat), .val (.long (0 : Int64)), .second, .val (.int (0 : Int32)), .val (.int c0), .val (.int v7)] [(.ref ((fun _ => ab : Nat → Addr) H0))])) rfl (hb hby d4_56)
  refine Run.st st9 ?_
  show Run p e below s _ _ _ (T9.setTop (mkF m 59 #[.val (.ref this), .val (.ref pat), .val (.long (0 : Int64)), .second, .val (.int (0 : Int32)), .val (.int c0), .val (.int v7)] [(.ref ab), (.ref ((fun _ => ab : Nat → Addr) H0))]))
  have JP0 : ∀ (T10 : State) (h10 : Heap) (lo10 : List Loc) (pg1 : Nat → Addr), Stand p l e ({ frames := 2, cells := 2, slots := 512, locals := 29 } : Room) s m #[(.ref this), (.ref pat)] below meth c T10 lo10 2 512 → T10.heap = h10 → Fr n0 lo10 → n0 ≤ h10.size → Exa Z h10 this "needlewise/boyermoore/Rightmost" → Fld Z h10 this "needlewise/boyermoore/Rightmost" "pages" "[[I" (.ref b2) → Fld Z h10 this "needlewise/boyermoore/Rightmost" "low" "[I" .null → Fld Z h10 this "needlewise/boyermoore/Rightmost" "filter" "J" (.long (0 : Int64)) → Ars Z h10 pat .char [(.int c0)] → Sta Z h10 "needlewise/boyermoore/Rightmost" "ABSENT" "[I" (.ref ab) → Ars Z h10 ab .int (List.replicate 256 (.int (-1))) → Exa Z h10 ab "[I" → (Pgs Z h10 n0 ab b2 pg1 (fun _ => -1)) → (∀ i, i < 256 → pg1 i ≠ this) → (∀ i, i < 256 → pg1 i ≠ pat) → (pg1 H0 ≠ ab) → Run p e below s (fun v h L => ∃ (pa : Addr) (pg : Nat → Addr), v = none ∧ Fr n0 L ∧ Pgs Z h n0 ab pa pg (own_go (fun _ => -1) 0 [c0]) ∧ Fld Z h this "needlewise/boyermoore/Rightmost" "pages" "[[I" (.ref pa) ∧ Fld Z h this "needlewise/boyermoore/Rightmost" "low" "[I" (.ref (pg 0)) ∧ Fld Z h this "needlewise/boyermoore/Rightmost" "filter" "J" (.long (own_bt 0 [c0])) ∧ Exa Z h this "needlewise/boyermoore/Rightmost") ({ frames := 2, cells := 2, slots := 512, locals := 29 } : Room).cells ({ frames := 2, cells := 2, slots := 512, locals := 29 } : Room).slots (T10.setTop (mkF m 72 #[.val (.ref this), .val (.ref pat), .val (.long (0 : Int64)), .second, .val (.int (0 : Int32)), .val (.int c0), .val (.int v7)] [])) := by
    intro T10 h10 lo10 pg1 X10 e10 N10 Z10 E_this F_this_pages F_this_low F_this_filter A_pat S_ABSENT A_ab E_ab PG hn_this hn_pat hq
    refine Run.x_aloadN (q := 73) X10 hx (hb hby d4_72) rfl rfl rfl ?_
    obtain ⟨T11, X11, e11, st11⟩ := getF X10 hx hZ hown (host := "") (Or.inl (hw _ (List.mem_of_getElem? (i := 17) rfl))) Via.refl e10 F_this_pages (g := (mkF m 73 #[.val (.ref this), .val (.ref pat), .val (.long (0 : Int64)), .second, .val (.int (0 : Int32)), .val (.int c0), .val (.int v7)] [(.ref this)])) rfl rfl (hb hby d4_73)
    refine Run.st st11 ?_
    show Run p e below s _ _ _ (T11.setTop (mkF m 76 #[.val (.ref this), .val (.ref pat), .val (.long (0 : Int64)), .second, .val (.int (0 : Int32)), .val (.int c0), .val (.int v7)] [(.ref b2)]))
    refine Run.x_iload (q := 78) X11 hx (hb hby d4_76) rfl rfl ?_
    refine Run.ldR X11 hx hZ e11 PG.1 (i := H0) (v := .ref (pg1 H0)) eH0 (own_refs_at lH0) rfl (hb hby d4_78) ?_
    show Run p e below s _ _ _ (T11.setTop (mkF m 79 #[.val (.ref this), .val (.ref pat), .val (.long (0 : Int64)), .second, .val (.int (0 : Int32)), .val (.int c0), .val (.int v7)] [(.ref (pg1 H0))]))
    refine Run.x_iload (q := 81) X11 hx (hb hby d4_79) rfl rfl ?_
    refine Run.x_sipush (q := 84) X11 hx (hb hby d4_81) (z := (255 : Int32)) rfl rfl ?_
    refine Run.x_iand (q := 85) X11 hx (hb hby d4_84) rfl rfl ?_
    refine Run.x_iload (q := 87) X11 hx (hb hby d4_85) rfl rfl ?_
    obtain ⟨L0, eL0, lL0, dL0⟩ := own_lo c0
    have ne_this_pH0 : this ≠ pg1 H0 := Ne.symm (hn_this _ lH0)
    have ne_pat_pH0 : pat ≠ pg1 H0 := Ne.symm (hn_pat _ lH0)
    have ne_ab_pH0 : ab ≠ pg1 H0 := Ne.symm hq
    refine Run.stI X11 hx hZ e11 (PG.2.2.1 H0 lH0) (i := L0) eL0 (by rw [own_row_len]; exact lL0) (hb hby d4_87) ?_
    intro T12 h12 X12 e12 W12 A12
    have N12 := Fr.snoc X12 N10 (PG.2.2.2.2.2 H0 lH0 hq)
    have Z12 : n0 ≤ h12.size := Nat.le_trans Z10 (Nat.le_of_eq W12.size.symm)
    replace PG : Pgs Z h12 n0 ab b2 pg1 (own_upd (fun _ => -1) c0.toInt.toNat (Int32.ofNat 0)) := by rw [← own_hl hr0.1 dH0 dL0]; exact PG.set lH0 lL0 hq W12
    show Run p e below s _ _ _ (T12.setTop (mkF m 88 #[.val (.ref this), .val (.ref pat), .val (.long (0 : Int64)), .second, .val (.int (0 : Int32)), .val (.int c0), .val (.int v7)] []))
    refine Run.x_iload (q := 90) X12 hx (hb hby d4_88) rfl rfl ?_
    have JB0 : ∀ bt0 : Int64, bt0 = (if c0.toInt < 256 then (0 : Int64) else ((0 : Int64) ||| ((1 : Int64) <<< (c0 &&& 0x3f).toInt64))) → Run p e below s (fun v h L => ∃ (pa : Addr) (pg : Nat → Addr), v = none ∧ Fr n0 L ∧ Pgs Z h n0 ab pa pg (own_go (fun _ => -1) 0 [c0]) ∧ Fld Z h this "needlewise/boyermoore/Rightmost" "pages" "[[I" (.ref pa) ∧ Fld Z h this "needlewise/boyermoore/Rightmost" "low" "[I" (.ref (pg 0)) ∧ Fld Z h this "needlewise/boyermoore/Rightmost" "filter" "J" (.long (own_bt 0 [c0])) ∧ Exa Z h this "needlewise/boyermoore/Rightmost") ({ frames := 2, cells := 2, slots := 512, locals := 29 } : Room).cells ({ frames := 2, cells := 2, slots := 512, locals := 29 } : Room).slots (T12.setTop (mkF m 100 #[.val (.ref this), .val (.ref pat), .val (.long bt0), .second, .val (.int (0 : Int32)), .val (.int c0), .val (.int v7)] [])) := by
      intro bt0 hbt0
      refine Run.x_iinc (q := 103) X12 hx #[.val (.ref this), .val (.ref pat), .val (.long bt0), .second, .val (.int (1 : Int32)), .val (.int c0), .val (.int v7)] (hb hby d4_100) rfl (z := (1 : Int32)) (by decide) rfl rfl ?_
      refine Run.x_goto (q := 29) X12 hx (hb hby d4_103) (by decide) (by decide) ?_
      refine Run.x_iload (q := 31) X12 hx (hb hby d4_29) rfl rfl ?_
      refine Run.x_aloadN (q := 32) X12 hx (hb hby d4_31) rfl rfl rfl ?_
      replace A_pat := A_pat.other W12 ne_pat_pH0
      refine Run.alen X12 hx hZ e12 A_pat (z := (1 : Int32)) rfl (hb hby d4_32) ?_
      show Run p e below s _ _ _ (T12.setTop (mkF m 33 #[.val (.ref this), .val (.ref pat), .val (.long bt0), .second, .val (.int (1 : Int32)), .val (.int c0), .val (.int v7)] [(.int (1 : Int32)), (.int (1 : Int32))]))
      refine Run.x_icmpYes (q := 106) X12 hx (hb hby d4_33) (flt (by decide : ¬ ((1 : Int32) < (1 : Int32)))).2.1 (by decide) (by decide) ?_
      refine Run.x_aloadN (q := 107) X12 hx (hb hby d4_106) rfl rfl rfl ?_
      refine Run.x_aloadN (q := 108) X12 hx (hb hby d4_107) rfl rfl rfl ?_
      replace F_this_pages := F_this_pages.other W12 (Or.inl ne_this_pH0)
      obtain ⟨T13, X13, e13, st13⟩ := getF X12 hx hZ hown (host := "") (Or.inl (hw _ (List.mem_of_getElem? (i := 17) rfl))) Via.refl e12 F_this_pages (g := (mkF m 108 #[.val (.ref this), .val (.ref pat), .val (.long bt0), .second, .val (.int (1 : Int32)), .val (.int c0), .val (.int v7)] [(.ref this), (.ref this)])) rfl rfl (hb hby d4_108)
      refine Run.st st13 ?_
      show Run p e below s _ _ _ (T13.setTop (mkF m 111 #[.val (.ref this), .val (.ref pat), .val (.long bt0), .second, .val (.int (1 : Int32)), .val (.int c0), .val (.int v7)] [(.ref b2), (.ref this)]))
      refine Run.x_iconst (q := 112) X13 hx (hb hby d4_111) (z := (0 : Int32)) rfl rfl ?_
      refine Run.ldR X13 hx hZ e13 PG.1 (i := 0) (v := .ref (pg1 0)) (by decide) (own_refs_at (by decide)) rfl (hb hby d4_112) ?_
      show Run p e below s _ _ _ (T13.setTop (mkF m 113 #[.val (.ref this), .val (.ref pat), .val (.long bt0), .second, .val (.int (1 : Int32)), .val (.int c0), .val (.int v7)] [(.ref (pg1 0)), (.ref this)]))
      replace F_this_low := F_this_low.other W12 (Or.inl ne_this_pH0)
      replace E_this := E_this.wr W12
      obtain ⟨T14, h14, X14, e14, W14, st14⟩ := putF X13 hx hZ hown (host := "") (Or.inl (hw _ (List.mem_of_getElem? (i := 33) rfl))) Via.refl e13 F_this_low E_this (Or.inr ⟨(hw _ (List.mem_of_getElem? (i := 34) rfl)), rfl, hnm⟩) (hw _ (List.mem_of_getElem? (i := 7) rfl)) (ty := (.array .int)) (by decide) rfl rfl (g := (mkF m 113 #[.val (.ref this), .val (.ref pat), .val (.long bt0), .second, .val (.int (1 : Int32)), .val (.int c0), .val (.int v7)] [(.ref (pg1 0)), (.ref this)])) rfl rfl (hb hby d4_113)
      replace F_this_low := F_this_low.same W14
      have Z14 : n0 ≤ h14.size := Nat.le_trans Z12 (Nat.le_of_eq W14.size.symm)
      have N14 := Fr.snoc X14 N12 g_this
      refine Run.st st14 ?_
      show Run p e below s _ _ _ (T14.setTop (mkF m 116 #[.val (.ref this), .val (.ref pat), .val (.long bt0), .second, .val (.int (1 : Int32)), .val (.int c0), .val (.int v7)] []))
      replace PG := PG.wrO W14 (Ne.symm ne_this_b2) hn_this
      refine Run.x_aloadN (q := 117) X14 hx (hb hby d4_116) rfl rfl rfl ?_
      refine Run.x_lloadN (q := 118) X14 hx (hb hby d4_117) rfl rfl ?_
      replace F_this_filter := (F_this_filter.other W12 (Or.inl ne_this_pH0)).other W14 (Or.inr (slot_ne (Or.inr (hw _ (List.mem_of_getElem? (i := 36) rfl))) (Or.inr (hw _ (List.mem_of_getElem? (i := 34) rfl))) (by decide) (t := .long) (t' := (.array .int)) (by decide) (by decide)))
      replace E_this := E_this.wr W14
      obtain ⟨T15, h15, X15, e15, W15, st15⟩ := putF X14 hx hZ hown (host := "") (Or.inl (hw _ (List.mem_of_getElem? (i := 35) rfl))) Via.refl e14 F_this_filter E_this (Or.inr ⟨(hw _ (List.mem_of_getElem? (i := 36) rfl)), rfl, hnm⟩) (hw _ (List.mem_of_getElem? (i := 7) rfl)) (ty := .long) (by decide) rfl rfl (g := (mkF m 118 #[.val (.ref this), .val (.ref pat), .val (.long bt0), .second, .val (.int (1 : Int32)), .val (.int c0), .val (.int v7)] [(.long bt0), (.ref this)])) rfl rfl (hb hby d4_118)
      replace F_this_filter := F_this_filter.same W15
      have Z15 : n0 ≤ h15.size := Nat.le_trans Z14 (Nat.le_of_eq W15.size.symm)
      have N15 := Fr.snoc X15 N14 g_this
      refine Run.st st15 ?_
      show Run p e below s _ _ _ (T15.setTop (mkF m 121 #[.val (.ref this), .val (.ref pat), .val (.long bt0), .second, .val (.int (1 : Int32)), .val (.int c0), .val (.int v7)] []))
      replace PG := PG.wrO W15 (Ne.symm ne_this_b2) hn_this
      replace E_this := E_this.wr W15
      replace F_this_pages := (F_this_pages.other W14 (Or.inr (slot_ne (Or.inr (hw _ (List.mem_of_getElem? (i := 18) rfl))) (Or.inr (hw _ (List.mem_of_getElem? (i := 34) rfl))) (by decide) (t := (.array (.array .int))) (t' := (.array .int)) (by decide) (by decide)))).other W15 (Or.inr (slot_ne (Or.inr (hw _ (List.mem_of_getElem? (i := 18) rfl))) (Or.inr (hw _ (List.mem_of_getElem? (i := 36) rfl))) (by decide) (t := (.array (.array .int))) (t' := .long) (by decide) (by decide)))
      replace F_this_low := F_this_low.other W15 (Or.inr (slot_ne (Or.inr (hw _ (List.mem_of_getElem? (i := 34) rfl))) (Or.inr (hw _ (List.mem_of_getElem? (i := 36) rfl))) (by decide) (t := (.array .int)) (t' := .long) (by decide) (by decide)))
      replace A_pat := (A_pat.other W14 (Ne.symm ne_this_pat)).other W15 (Ne.symm ne_this_pat)
      replace S_ABSENT := ((S_ABSENT.wr W12).wr W14).wr W15
      replace A_ab := ((A_ab.other W12 ne_ab_pH0).other W14 (Ne.symm ne_this_ab)).other W15 (Ne.symm ne_this_ab)
      replace E_ab := ((E_ab.wr W12).wr W14).wr W15
      refine Run.retV X15 hx hlk e15 hret (hb hby d4_121) (by decide) (by decide) ?_
      subst hbt0
      exact ⟨b2, pg1, rfl, N15, PG, F_this_pages, F_this_low, F_this_filter, E_this⟩
    by_cases hc90 : (0 : Int32) < v7
    · skip
      refine Run.x_ifNo (q := 93) X12 hx (hb hby d4_90) ((if0 _ _).trans (tlt hc90).2.2.2) rfl ?_
      refine Run.x_lloadN (q := 94) X12 hx (hb hby d4_93) rfl rfl ?_
      refine Run.x_lconst (q := 95) X12 hx (hb hby d4_94) (z := (1 : Int64)) rfl rfl ?_
      refine Run.x_iload (q := 97) X12 hx (hb hby d4_95) rfl rfl ?_
      refine Run.x_lshl (q := 98) X12 hx (hb hby d4_97) rfl rfl ?_
      refine Run.x_lor (q := 99) X12 hx (hb hby d4_98) rfl rfl ?_
      refine Run.x_lstoreN (q := 100) X12 hx #[.val (.ref this), .val (.ref pat), .val (.long ((0 : Int64) ||| ((1 : Int64) <<< (c0 &&& 0x3f).toInt64))), .second, .val (.int (0 : Int32)), .val (.int c0), .val (.int v7)] (hb hby d4_99) rfl rfl ?_
      exact JB0 _ (if_neg (own_h1 eH0 dH0 hc90)).symm
    · skip
      refine Run.x_ifYes (q := 100) X12 hx (hb hby d4_90) ((if0 _ _).trans (flt hc90).2.2.2) (by decide) (by decide) ?_
      exact JB0 _ (if_pos (own_h0 eH0 dH0 hc90)).symm
  by_cases hq : (fun _ => ab : Nat → Addr) H0 = ab
  · skip
    refine Run.st (B := T9.setTop (mkF m 62 #[.val (.ref this), .val (.ref pat), .val (.long (0 : Int64)), .second, .val (.int (0 : Int32)), .val (.int c0), .val (.int v7)] [])) (fun t kt => Jvm.RoadKit.acmp (g := (mkF m 59 #[.val (.ref this), .val (.ref pat), .val (.long (0 : Int64)), .second, .val (.int (0 : Int32)), .val (.int c0), .val (.int v7)] [(.ref ab), (.ref ((fun _ => ab : Nat → Addr) H0))])) X9 hx rfl rfl rfl (pc0 := 59) (pc' := 62) (same := true) rfl (hb hby d4_59) rfl (decide_eq_true (congrArg Value.ref hq)) (by decide) (by decide) kt) ?_
    refine Run.x_aloadN (q := 63) X9 hx (hb hby d4_62) rfl rfl rfl ?_
    obtain ⟨T16, X16, e16, st16⟩ := getF X9 hx hZ hown (host := "") (Or.inl (hw _ (List.mem_of_getElem? (i := 17) rfl))) Via.refl e9 F_this_pages (g := (mkF m 63 #[.val (.ref this), .val (.ref pat), .val (.long (0 : Int64)), .second, .val (.int (0 : Int32)), .val (.int c0), .val (.int v7)] [(.ref this)])) rfl rfl (hb hby d4_63)
    refine Run.st st16 ?_
    show Run p e below s _ _ _ (T16.setTop (mkF m 66 #[.val (.ref this), .val (.ref pat), .val (.long (0 : Int64)), .second, .val (.int (0 : Int32)), .val (.int c0), .val (.int v7)] [(.ref b2)]))
    refine Run.x_iload (q := 68) X16 hx (hb hby d4_66) rfl rfl ?_
    refine Run.callS X16 hx hZ e16 (y := (⟨"needlewise/boyermoore/Rightmost", "newPage", "()[I"⟩ : MethodName)) hown (hw _ (List.mem_of_getElem? (i := 26) rfl)) (hw _ (List.mem_of_getElem? (i := 27) rfl)) (hw _ (List.mem_of_getElem? (i := 8) rfl)) (hw _ (List.mem_of_getElem? (i := 28) rfl)) (by decide) (argsL := []) (rest := [(.int v7), (.ref b2)]) (c_page l Z a0 hw T6.heap n0 Z6) pd_2 rfl (by rw [hml]; rfl) (W := 2) rfl (by decide) (by decide) (by decide) (by decide) (hb hby d4_68) rfl ?_
    intro T17 v17 L17 X17 q17
    obtain ⟨np17, rfl, M17, K17, sz17, An17, En17⟩ := q17
    have N17 := Fr.app N6 M17
    show Run p e below s _ _ _ (T17.setTop (mkF m 71 #[.val (.ref this), .val (.ref pat), .val (.long (0 : Int64)), .second, .val (.int (0 : Int32)), .val (.int c0), .val (.int v7)] [(.ref np17), (.int v7), (.ref b2)]))
    have hlt := PG.lt sz17
    have ne_b2_np17 : b2 ≠ np17 := Nat.ne_of_lt (Nat.lt_of_lt_of_le PG.1.lt sz17)
    have g_np17 : n0 ≤ np17 := Nat.le_trans Z6 sz17
    replace PG := PG.ext (Keep_ext K17)
    replace E_this := (E_this.wr W3).keep K6
    have ne_this_np17 : this ≠ np17 := Nat.ne_of_lt (Nat.lt_of_lt_of_le E_this.lt sz17)
    have ne_ab_np17 : ab ≠ np17 := Nat.ne_of_lt (Nat.lt_of_lt_of_le A_ab.lt sz17)
    have ne_pat_np17 : pat ≠ np17 := Nat.ne_of_lt (Nat.lt_of_lt_of_le A_pat.lt sz17)
    replace S_ABSENT := Sta_keep S_ABSENT K17 all0
    have Z17 : n0 ≤ T17.heap.size := Nat.le_trans Z6 K17.1
    refine Run.stR X17 hx hZ rfl PG.1 (i := H0) eH0 (by rw [own_refs_len]; exact lH0) rfl (own_sto PG.1 PG.2.1 En17) (hb hby d4_71) ?_
    intro T18 h18 X18 e18 W18 A18
    replace A_ab := A_ab.keep K17 nin0
    replace PG := Pgs.new PG lH0 hq (by rw [Pgs.page PG lH0 hq A_ab]; exact An17) (Ne.symm ne_b2_np17) hlt g_np17 W18 (Ne.symm ne_ab_np17)
    have N18 := Fr.snoc X18 N17 g_b2
    have Z18 : n0 ≤ h18.size := Nat.le_trans Z17 (Nat.le_of_eq W18.size.symm)
    show Run p e below s _ _ _ (T18.setTop (mkF m 72 #[.val (.ref this), .val (.ref pat), .val (.long (0 : Int64)), .second, .val (.int (0 : Int32)), .val (.int c0), .val (.int v7)] []))
    replace E_this := (E_this.keep K17).wr W18
    replace F_this_pages := (F_this_pages.keep K17 nin0).other W18 (Or.inl ne_this_b2)
    replace F_this_low := ((((F_this_low.ext E2).other W3 (Or.inr (slot_ne (Or.inr (hw _ (List.mem_of_getElem? (i := 34) rfl))) (Or.inr (hw _ (List.mem_of_getElem? (i := 18) rfl))) (by decide) (t := (.array .int)) (t' := (.array (.array .int))) (by decide) (by decide)))).keep K6 (ninS ne_this_b2 nin0)).keep K17 nin0).other W18 (Or.inl ne_this_b2)
    replace F_this_filter := ((((F_this_filter.ext E2).other W3 (Or.inr (slot_ne (Or.inr (hw _ (List.mem_of_getElem? (i := 36) rfl))) (Or.inr (hw _ (List.mem_of_getElem? (i := 18) rfl))) (by decide) (t := .long) (t' := (.array (.array .int))) (by decide) (by decide)))).keep K6 (ninS ne_this_b2 nin0)).keep K17 nin0).other W18 (Or.inl ne_this_b2)
    replace A_pat := (A_pat.keep K17 nin0).other W18 ne_pat_b2
    replace S_ABSENT := S_ABSENT.wr W18
    replace A_ab := A_ab.other W18 ne_ab_b2
    replace E_ab := ((E_ab.keep K6).keep K17).wr W18
    exact JP0 T18 h18 _ _ X18 e18 N18 Z18 E_this F_this_pages F_this_low F_this_filter A_pat S_ABSENT A_ab E_ab PG (own_nt hn_this (Ne.symm ne_this_np17)) (own_nt hn_pat (Ne.symm ne_pat_np17)) (by rw [own_upd_self]; exact (Ne.symm ne_ab_np17))
  · skip
    refine Run.st (B := T9.setTop (mkF m 72 #[.val (.ref this), .val (.ref pat), .val (.long (0 : Int64)), .second, .val (.int (0 : Int32)), .val (.int c0), .val (.int v7)] [])) (fun t kt => Jvm.RoadKit.acmp (g := (mkF m 59 #[.val (.ref this), .val (.ref pat), .val (.long (0 : Int64)), .second, .val (.int (0 : Int32)), .val (.int c0), .val (.int v7)] [(.ref ab), (.ref ((fun _ => ab : Nat → Addr) H0))])) X9 hx rfl rfl rfl (pc0 := 59) (pc' := 72) (same := false) rfl (hb hby d4_59) rfl (decide_eq_false fun q => hq (Value.ref.inj q)) (by decide) (by decide) kt) ?_
    replace E_this := (E_this.wr W3).keep K6
    replace F_this_low := ((F_this_low.ext E2).other W3 (Or.inr (slot_ne (Or.inr (hw _ (List.mem_of_getElem? (i := 34) rfl))) (Or.inr (hw _ (List.mem_of_getElem? (i := 18) rfl))) (by decide) (t := (.array .int)) (t' := (.array (.array .int))) (by decide) (by decide)))).keep K6 (ninS ne_this_b2 nin0)
    replace F_this_filter := ((F_this_filter.ext E2).other W3 (Or.inr (slot_ne (Or.inr (hw _ (List.mem_of_getElem? (i := 36) rfl))) (Or.inr (hw _ (List.mem_of_getElem? (i := 18) rfl))) (by decide) (t := .long) (t' := (.array (.array .int))) (by decide) (by decide)))).keep K6 (ninS ne_this_b2 nin0)
    replace E_ab := E_ab.keep K6
    exact JP0 T9 T6.heap _ _ (X9.more (by decide) (by decide)) e9 N6 Z6 E_this F_this_pages F_this_low F_this_filter A_pat S_ABSENT A_ab E_ab PG hn_this hn_pat hq
theorem ef_c_init2 (m : MethodId) (this : Addr) (pat : Addr) : entryFrame m #[(.ref this), (.ref pat)] 7 = mkF m 0 #[.val (.ref this), .val (.ref pat), .unset, .unset, .unset, .unset, .unset] [] := by first | (simp [entryFrame, mkF, argsToLocals, Value.category]; done) | rfl
set_option maxRecDepth 65536 in
set_option maxHeartbeats 40000000 in
theorem c_init2 (l : Launch) (Z : State) (a0 : Array Value) (hw : ∀ d ∈ tables_1, d.before a0 Z = true) (this : Addr) (pat : Addr) (h0 : Heap) (n0 : Nat) (Z0 : n0 ≤ h0.size) (ab : Addr) (c0 : Int32) (c1 : Int32) (E_this : Exa Z h0 this "needlewise/boyermoore/Rightmost") (F_this_pages : Fld Z h0 this "needlewise/boyermoore/Rightmost" "pages" "[[I" .null) (F_this_low : Fld Z h0 this "needlewise/boyermoore/Rightmost" "low" "[I" .null) (F_this_filter : Fld Z h0 this "needlewise/boyermoore/Rightmost" "filter" "J" (.long (0 : Int64))) (A_pat : Ars Z h0 pat .char [(.int c0), (.int c1)]) (S_ABSENT : Sta Z h0 "needlewise/boyermoore/Rightmost" "ABSENT" "[I" (.ref ab)) (A_ab : Ars Z h0 ab .int (List.replicate 256 (.int (-1)))) (E_ab : Exa Z h0 ab "[I") (g_this : n0 ≤ this) (ne_this_pat : this ≠ pat) (ne_this_ab : this ≠ ab) (ne_pat_ab : pat ≠ ab) (hr0 : 0 ≤ c0.toInt ∧ c0.toInt < 65536) (hr1 : 0 ≤ c1.toInt ∧ c1.toInt < 65536) :
    Ctr l Z (⟨"needlewise/boyermoore/Rightmost", "<init>", "([C)V"⟩ : MethodName) prog_13_method_1_code 7 none ({ frames := 2, cells := 3, slots := 768, locals := 29 } : Room) #[(.ref this), (.ref pat)] h0 (fun v h L => ∃ (pa : Addr) (pg : Nat → Addr), v = none ∧ Fr n0 L ∧ Pgs Z h n0 ab pa pg (own_go (fun _ => -1) 0 [c0, c1]) ∧ Fld Z h this "needlewise/boyermoore/Rightmost" "pages" "[[I" (.ref pa) ∧ Fld Z h this "needlewise/boyermoore/Rightmost" "low" "[I" (.ref (pg 0)) ∧ Fld Z h this "needlewise/boyermoore/Rightmost" "filter" "J" (.long (own_bt 0 [c0, c1])) ∧ Exa Z h this "needlewise/boyermoore/Rightmost") := by
  refine Ctr.of (plainFor_of_name pn_1) (fun m => ef_c_init2 m this pat) ?_
  intro p e s m below meth c T0 hx hby hml hown hnm hret hlk hZ e0 X0
  have N0 := Fr.nil n0
  replace hown : s.vm.findClass "needlewise/boyermoore/Rightmost" = some m.cls := hown
  replace hml : c.maxLocals = 7 := hml
  refine Run.x_aloadN (q := 1) X0 hx (hb hby d4_0) rfl rfl rfl ?_
  refine Run.init X0 hx hZ e0 hown (hw _ (List.mem_of_getElem? (i := 12) rfl)) (hw _ (List.mem_of_getElem? (i := 13) rfl)) (hw _ (List.mem_of_getElem? (i := 14) rfl)) (by rw [hml]; rfl) (hb hby d4_1) (by decide) (W := 0) rfl (by decide) ?_
  intro T1 X1 e1
  show Run p e below s _ _ _ (T1.setTop (mkF m 4 #[.val (.ref this), .val (.ref pat), .unset, .unset, .unset, .unset, .unset] []))
  refine Run.x_aloadN (q := 5) X1 hx (hb hby d4_4) rfl rfl rfl ?_
  refine Run.x_sipush (q := 8) X1 hx (hb hby d4_5) (z := (256 : Int32)) rfl rfl ?_
  refine Run.newRA X1 hx hZ e1 hown rfl (hw _ (List.mem_of_getElem? (i := 15) rfl)) (hw _ (List.mem_of_getElem? (i := 16) rfl)) (hb hby d4_8) (len := 256) (by decide) (by decide) (cap := 256) (by decide) (by decide) (by decide) (by decide) (ad := "[[I") rfl ?_
  intro T2 h2 b2 gg2 X2 e2 E2 A_b2 E_b2 O_b2
  replace O_b2 : Ovb Z h2 b2 := O_b2
  have g_b2 : n0 ≤ b2 := Nat.le_trans Z0 (Nat.le_of_eq gg2.symm)
  have ne_this_b2 : this ≠ b2 := Nat.ne_of_lt (Nat.lt_of_lt_of_le E_this.lt (Nat.le_of_eq gg2.symm))
  have ne_pat_b2 : pat ≠ b2 := Nat.ne_of_lt (Nat.lt_of_lt_of_le A_pat.lt (Nat.le_of_eq gg2.symm))
  have ne_ab_b2 : ab ≠ b2 := Nat.ne_of_lt (Nat.lt_of_lt_of_le A_ab.lt (Nat.le_of_eq gg2.symm))
  have Z2 : n0 ≤ h2.size := Nat.le_trans Z0 E2.1
  show Run p e below s _ _ _ (T2.setTop (mkF m 11 #[.val (.ref this), .val (.ref pat), .unset, .unset, .unset, .unset, .unset] [(.ref b2), (.ref this)]))
  replace F_this_pages := F_this_pages.ext E2
  replace E_this := E_this.ext E2
  obtain ⟨T3, h3, X3, e3, W3, st3⟩ := putF X2 hx hZ hown (host := "") (Or.inl (hw _ (List.mem_of_getElem? (i := 17) rfl))) Via.refl e2 F_this_pages E_this (Or.inr ⟨(hw _ (List.mem_of_getElem? (i := 18) rfl)), rfl, hnm⟩) (hw _ (List.mem_of_getElem? (i := 7) rfl)) (ty := (.array (.array .int))) (by decide) rfl rfl (g := (mkF m 11 #[.val (.ref this), .val (.ref pat), .unset, .unset, .unset, .unset, .unset] [(.ref b2), (.ref this)])) rfl rfl (hb hby d4_11)
  replace F_this_pages := F_this_pages.same W3
  have Z3 : n0 ≤ h3.size := Nat.le_trans Z2 (Nat.le_of_eq W3.size.symm)
  have N3 := Fr.snoc X3 N0 g_this
  refine Run.st st3 ?_
  show Run p e below s _ _ _ (T3.setTop (mkF m 14 #[.val (.ref this), .val (.ref pat), .unset, .unset, .unset, .unset, .unset] []))
  refine Run.x_aloadN (q := 15) X3 hx (hb hby d4_14) rfl rfl rfl ?_
  obtain ⟨T4, X4, e4, st4⟩ := getF X3 hx hZ hown (host := "") (Or.inl (hw _ (List.mem_of_getElem? (i := 17) rfl))) Via.refl e3 F_this_pages (g := (mkF m 15 #[.val (.ref this), .val (.ref pat), .unset, .unset, .unset, .unset, .unset] [(.ref this)])) rfl rfl (hb hby d4_15)
  refine Run.st st4 ?_
  show Run p e below s _ _ _ (T4.setTop (mkF m 18 #[.val (.ref this), .val (.ref pat), .unset, .unset, .unset, .unset, .unset] [(.ref b2)]))
  replace S_ABSENT := (S_ABSENT.ext E2).wr W3
  obtain ⟨T5, X5, e5, st5⟩ := getS2 X4 hx hZ hown (host := "") (Or.inl (hw _ (List.mem_of_getElem? (i := 19) rfl))) Via.refl e4 S_ABSENT (g := (mkF m 18 #[.val (.ref this), .val (.ref pat), .unset, .unset, .unset, .unset, .unset] [(.ref b2)])) rfl (hb hby d4_18)
  refine Run.st st5 ?_
  show Run p e below s _ _ _ (T5.setTop (mkF m 21 #[.val (.ref this), .val (.ref pat), .unset, .unset, .unset, .unset, .unset] [(.ref ab), (.ref b2)]))
  replace A_b2 := A_b2.other W3 (Ne.symm ne_this_b2)
  replace O_b2 := O_b2.wr W3
  replace E_ab := (E_ab.ext E2).wr W3
  refine Run.callS X5 hx hZ e5 (y := (⟨"java/util/Arrays", "fill", "([Ljava/lang/Object;Ljava/lang/Object;)V"⟩ : MethodName)) hown (hw _ (List.mem_of_getElem? (i := 21) rfl)) (hw _ (List.mem_of_getElem? (i := 22) rfl)) (hw _ (List.mem_of_getElem? (i := 23) rfl)) (hw _ (List.mem_of_getElem? (i := 24) rfl)) (by decide) (argsL := [(.ref b2), (.ref ab)]) (rest := []) (c_fillR l Z a0 hw b2 ab h3 n0 Z3 (List.replicate 256 .null) A_b2 g_b2 (by rw [List.length_replicate]; decide) (own_sto A_b2 O_b2 E_ab)) pd_1 rfl (by rw [hml]; rfl) (W := 0) rfl (by decide) (by decide) (by decide) (by decide) (hb hby d4_21) rfl ?_
  intro T6 v6 L6 X6 q6
  obtain ⟨rfl, M6, K6, A6⟩ := q6
  have N6 := Fr.app N3 M6
  show Run p e below s _ _ _ (T6.setTop (mkF m 24 #[.val (.ref this), .val (.ref pat), .unset, .unset, .unset, .unset, .unset] []))
  replace S_ABSENT := Sta_keep S_ABSENT K6 (allS A_b2.ns all0)
  have Z6 : n0 ≤ T6.heap.size := Nat.le_trans Z3 K6.1
  replace A_ab := ((A_ab.ext E2).other W3 (Ne.symm ne_this_ab)).keep K6 (ninS ne_ab_b2 nin0)
  replace O_b2 := O_b2.keep K6
  have PG := Pgs.start (n0 := n0) (by rw [List.length_replicate] at A6; exact A6) O_b2 A_ab ne_ab_b2
  have hn_this : ∀ i, i < 256 → (fun _ => ab : Nat → Addr) i ≠ this := fun _ _ => (Ne.symm ne_this_ab)
  have hn_pat : ∀ i, i < 256 → (fun _ => ab : Nat → Addr) i ≠ pat := fun _ _ => (Ne.symm ne_pat_ab)
  refine Run.x_lconst (q := 25) X6 hx (hb hby d4_24) (z := (0 : Int64)) rfl rfl ?_
  refine Run.x_lstoreN (q := 26) X6 hx #[.val (.ref this), .val (.ref pat), .val (.long (0 : Int64)), .second, .unset, .unset, .unset] (hb hby d4_25) rfl rfl ?_
  refine Run.x_iconst (q := 27) X6 hx (hb hby d4_26) (z := (0 : Int32)) rfl rfl ?_
  refine Run.x_istore (q := 29) X6 hx #[.val (.ref this), .val (.ref pat), .val (.long (0 : Int64)), .second, .val (.int (0 : Int32)), .unset, .unset] (hb hby d4_27) rfl rfl ?_
  refine Run.x_iload (q := 31) X6 hx (hb hby d4_29) rfl rfl ?_
  refine Run.x_aloadN (q := 32) X6 hx (hb hby d4_31) rfl rfl rfl ?_
  replace A_pat := ((A_pat.ext E2).other W3 (Ne.symm ne_this_pat)).keep K6 (ninS ne_pat_b2 nin0)
  refine Run.alen X6 hx hZ rfl A_pat (z := (2 : Int32)) rfl (hb hby d4_32) ?_
  show Run p e below s _ _ _ (T6.setTop (mkF m 33 #[.val (.ref this), .val (.ref pat), .val (.long (0 : Int64)), .second, .val (.int (0 : Int32)), .unset, .unset] [(.int (2 : Int32)), (.int (0 : Int32))]))
  refine Run.x_icmpNo (q := 36) X6 hx (hb hby d4_33) (tlt (by decide : (0 : Int32) < (2 : Int32))).2.1 rfl ?_
  refine Run.x_aloadN (q := 37) X6 hx (hb hby d4_36) rfl rfl rfl ?_
  refine Run.x_iload (q := 39) X6 hx (hb hby d4_37) rfl rfl ?_
  refine Run.ldC X6 hx hZ rfl A_pat (i := 0) (v := (.int c0)) (by decide) rfl (hb hby d4_39) ?_
  show Run p e below s _ _ _ (T6.setTop (mkF m 40 #[.val (.ref this), .val (.ref pat), .val (.long (0 : Int64)), .second, .val (.int (0 : Int32)), .unset, .unset] [(.int c0)]))
  refine Run.x_istore (q := 42) X6 hx #[.val (.ref this), .val (.ref pat), .val (.long (0 : Int64)), .second, .val (.int (0 : Int32)), .val (.int c0), .unset] (hb hby d4_40) rfl rfl ?_
  refine Run.x_iload (q := 44) X6 hx (hb hby d4_42) rfl rfl ?_
  refine Run.x_bipush (q := 46) X6 hx (hb hby d4_44) (z := (8 : Int32)) rfl rfl ?_
  refine Run.x_iushr (q := 47) X6 hx (hb hby d4_46) rfl rfl ?_
  refine Run.x_istore (q := 49) X6 hx #[.val (.ref this), .val (.ref pat), .val (.long (0 : Int64)), .second, .val (.int (0 : Int32)), .val (.int c0), .val (.int ((c0.toUInt32 >>> ((8 : Int32) &&& 31).toUInt32).toInt32))] (hb hby d4_47) rfl rfl ?_
  generalize hv7 : ((c0.toUInt32 >>> ((8 : Int32) &&& 31).toUInt32).toInt32) = v7
  refine Run.x_aloadN (q := 50) X6 hx (hb hby d4_49) rfl rfl rfl ?_
  replace F_this_pages := F_this_pages.keep K6 (ninS ne_this_b2 nin0)
  obtain ⟨T8, X8, e8, st8⟩ := getF X6 hx hZ hown (host := "") (Or.inl (hw _ (List.mem_of_getElem? (i := 17) rfl))) Via.refl rfl F_this_pages (g := (mkF m 50 #[.val (.ref this), .val (.ref pat), .val (.long (0 : Int64)), .second, .val (.int (0 : Int32)), .val (.int c0), .val (.int v7)] [(.ref this)])) rfl rfl (hb hby d4_50)
  refine Run.st st8 ?_
  show Run p e below s _ _ _ (T8.setTop (mkF m 53 #[.val (.ref this), .val (.ref pat), .val (.long (0 : Int64)), .second, .val (.int (0 : Int32)), .val (.int c0), .val (.int v7)] [(.ref b2)]))
  refine Run.x_iload (q := 55) X8 hx (hb hby d4_53) rfl rfl ?_
  obtain ⟨H0, eH0, lH0, dH0⟩ := own_hi hr0.1 hr0.2 hv7
  refine Run.ldR X8 hx hZ e8 PG.1 (i := H0) (v := .ref ((fun _ => ab : Nat → Addr) H0)) eH0 (own_refs_at lH0) rfl (hb hby d4_55) ?_
  show Run p e below s _ _ _ (T8.setTop (mkF m 56 #[.val (.ref this), .val (.ref pat), .val (.long (0 : Int64)), .second, .val (.int (0 : Int32)), .val (.int c0), .val (.int v7)] [(.ref ((fun _ => ab : Nat → Addr) H0))]))
  obtain ⟨T9, X9, e9, st9⟩ := getS2 X8 hx hZ hown (host := "") (Or.inl (hw _ (List.mem_of_getElem? (i := 19) rfl))) Via.refl e8 S_ABSENT (g := (mkF m 56 #[.val (.ref this), .val (.ref pat), .val (.long (0 : Int64)), .second, .val (.int (0 : Int32)), .val (.int c0), .val (.int v7)] [(.ref ((fun _ => ab : Nat → Addr) H0))])) rfl (hb hby d4_56)
  refine Run.st st9 ?_
  show Run p e below s _ _ _ (T9.setTop (mkF m 59 #[.val (.ref this), .val (.ref pat), .val (.long (0 : Int64)), .second, .val (.int (0 : Int32)), .val (.int c0), .val (.int v7)] [(.ref ab), (.ref ((fun _ => ab : Nat → Addr) H0))]))
  have JP0 : ∀ (T10 : State) (h10 : Heap) (lo10 : List Loc) (pg1 : Nat → Addr), Stand p l e ({ frames := 2, cells := 3, slots := 768, locals := 29 } : Room) s m #[(.ref this), (.ref pat)] below meth c T10 lo10 2 512 → T10.heap = h10 → Fr n0 lo10 → n0 ≤ h10.size → Exa Z h10 this "needlewise/boyermoore/Rightmost" → Fld Z h10 this "needlewise/boyermoore/Rightmost" "pages" "[[I" (.ref b2) → Fld Z h10 this "needlewise/boyermoore/Rightmost" "low" "[I" .null → Fld Z h10 this "needlewise/boyermoore/Rightmost" "filter" "J" (.long (0 : Int64)) → Ars Z h10 pat .char [(.int c0), (.int c1)] → Sta Z h10 "needlewise/boyermoore/Rightmost" "ABSENT" "[I" (.ref ab) → Ars Z h10 ab .int (List.replicate 256 (.int (-1))) → Exa Z h10 ab "[I" → (Pgs Z h10 n0 ab b2 pg1 (fun _ => -1)) → (∀ i, i < 256 → pg1 i ≠ this) → (∀ i, i < 256 → pg1 i ≠ pat) → (pg1 H0 ≠ ab) → Run p e below s (fun v h L => ∃ (pa : Addr) (pg : Nat → Addr), v = none ∧ Fr n0 L ∧ Pgs Z h n0 ab pa pg (own_go (fun _ => -1) 0 [c0, c1]) ∧ Fld Z h this "needlewise/boyermoore/Rightmost" "pages" "[[I" (.ref pa) ∧ Fld Z h this "needlewise/boyermoore/Rightmost" "low" "[I" (.ref (pg 0)) ∧ Fld Z h this "needlewise/boyermoore/Rightmost" "filter" "J" (.long (own_bt 0 [c0, c1])) ∧ Exa Z h this "needlewise/boyermoore/Rightmost") ({ frames := 2, cells := 3, slots := 768, locals := 29 } : Room).cells ({ frames := 2, cells := 3, slots := 768, locals := 29 } : Room).slots (T10.setTop (mkF m 72 #[.val (.ref this), .val (.ref pat), .val (.long (0 : Int64)), .second, .val (.int (0 : Int32)), .val (.int c0), .val (.int v7)] [])) := by
    intro T10 h10 lo10 pg1 X10 e10 N10 Z10 E_this F_this_pages F_this_low F_this_filter A_pat S_ABSENT A_ab E_ab PG hn_this hn_pat hq
    refine Run.x_aloadN (q := 73) X10 hx (hb hby d4_72) rfl rfl rfl ?_
    obtain ⟨T11, X11, e11, st11⟩ := getF X10 hx hZ hown (host := "") (Or.inl (hw _ (List.mem_of_getElem? (i := 17) rfl))) Via.refl e10 F_this_pages (g := (mkF m 73 #[.val (.ref this), .val (.ref pat), .val (.long (0 : Int64)), .second, .val (.int (0 : Int32)), .val (.int c0), .val (.int v7)] [(.ref this)])) rfl rfl (hb hby d4_73)
    refine Run.st st11 ?_
    show Run p e below s _ _ _ (T11.setTop (mkF m 76 #[.val (.ref this), .val (.ref pat), .val (.long (0 : Int64)), .second, .val (.int (0 : Int32)), .val (.int c0), .val (.int v7)] [(.ref b2)]))
    refine Run.x_iload (q := 78) X11 hx (hb hby d4_76) rfl rfl ?_
    refine Run.ldR X11 hx hZ e11 PG.1 (i := H0) (v := .ref (pg1 H0)) eH0 (own_refs_at lH0) rfl (hb hby d4_78) ?_
    show Run p e below s _ _ _ (T11.setTop (mkF m 79 #[.val (.ref this), .val (.ref pat), .val (.long (0 : Int64)), .second, .val (.int (0 : Int32)), .val (.int c0), .val (.int v7)] [(.ref (pg1 H0))]))
    refine Run.x_iload (q := 81) X11 hx (hb hby d4_79) rfl rfl ?_
    refine Run.x_sipush (q := 84) X11 hx (hb hby d4_81) (z := (255 : Int32)) rfl rfl ?_
    refine Run.x_iand (q := 85) X11 hx (hb hby d4_84) rfl rfl ?_
    refine Run.x_iload (q := 87) X11 hx (hb hby d4_85) rfl rfl ?_
    obtain ⟨L0, eL0, lL0, dL0⟩ := own_lo c0
    have ne_this_pH0 : this ≠ pg1 H0 := Ne.symm (hn_this _ lH0)
    have ne_pat_pH0 : pat ≠ pg1 H0 := Ne.symm (hn_pat _ lH0)
    have ne_ab_pH0 : ab ≠ pg1 H0 := Ne.symm hq
    refine Run.stI X11 hx hZ e11 (PG.2.2.1 H0 lH0) (i := L0) eL0 (by rw [own_row_len]; exact lL0) (hb hby d4_87) ?_
    intro T12 h12 X12 e12 W12 A12
    have N12 := Fr.snoc X12 N10 (PG.2.2.2.2.2 H0 lH0 hq)
    have Z12 : n0 ≤ h12.size := Nat.le_trans Z10 (Nat.le_of_eq W12.size.symm)
    replace PG : Pgs Z h12 n0 ab b2 pg1 (own_upd (fun _ => -1) c0.toInt.toNat (Int32.ofNat 0)) := by rw [← own_hl hr0.1 dH0 dL0]; exact PG.set lH0 lL0 hq W12
    show Run p e below s _ _ _ (T12.setTop (mkF m 88 #[.val (.ref this), .val (.ref pat), .val (.long (0 : Int64)), .second, .val (.int (0 : Int32)), .val (.int c0), .val (.int v7)] []))
    refine Run.x_iload (q := 90) X12 hx (hb hby d4_88) rfl rfl ?_
    have JB0 : ∀ bt0 : Int64, bt0 = (if c0.toInt < 256 then (0 : Int64) else ((0 : Int64) ||| ((1 : Int64) <<< (c0 &&& 0x3f).toInt64))) → Run p e below s (fun v h L => ∃ (pa : Addr) (pg : Nat → Addr), v = none ∧ Fr n0 L ∧ Pgs Z h n0 ab pa pg (own_go (fun _ => -1) 0 [c0, c1]) ∧ Fld Z h this "needlewise/boyermoore/Rightmost" "pages" "[[I" (.ref pa) ∧ Fld Z h this "needlewise/boyermoore/Rightmost" "low" "[I" (.ref (pg 0)) ∧ Fld Z h this "needlewise/boyermoore/Rightmost" "filter" "J" (.long (own_bt 0 [c0, c1])) ∧ Exa Z h this "needlewise/boyermoore/Rightmost") ({ frames := 2, cells := 3, slots := 768, locals := 29 } : Room).cells ({ frames := 2, cells := 3, slots := 768, locals := 29 } : Room).slots (T12.setTop (mkF m 100 #[.val (.ref this), .val (.ref pat), .val (.long bt0), .second, .val (.int (0 : Int32)), .val (.int c0), .val (.int v7)] [])) := by
      intro bt0 hbt0
      refine Run.x_iinc (q := 103) X12 hx #[.val (.ref this), .val (.ref pat), .val (.long bt0), .second, .val (.int (1 : Int32)), .val (.int c0), .val (.int v7)] (hb hby d4_100) rfl (z := (1 : Int32)) (by decide) rfl rfl ?_
      refine Run.x_goto (q := 29) X12 hx (hb hby d4_103) (by decide) (by decide) ?_
      refine Run.x_iload (q := 31) X12 hx (hb hby d4_29) rfl rfl ?_
      refine Run.x_aloadN (q := 32) X12 hx (hb hby d4_31) rfl rfl rfl ?_
      replace A_pat := A_pat.other W12 ne_pat_pH0
      refine Run.alen X12 hx hZ e12 A_pat (z := (2 : Int32)) rfl (hb hby d4_32) ?_
      show Run p e below s _ _ _ (T12.setTop (mkF m 33 #[.val (.ref this), .val (.ref pat), .val (.long bt0), .second, .val (.int (1 : Int32)), .val (.int c0), .val (.int v7)] [(.int (2 : Int32)), (.int (1 : Int32))]))
      refine Run.x_icmpNo (q := 36) X12 hx (hb hby d4_33) (tlt (by decide : (1 : Int32) < (2 : Int32))).2.1 rfl ?_
      refine Run.x_aloadN (q := 37) X12 hx (hb hby d4_36) rfl rfl rfl ?_
      refine Run.x_iload (q := 39) X12 hx (hb hby d4_37) rfl rfl ?_
      refine Run.ldC X12 hx hZ e12 A_pat (i := 1) (v := (.int c1)) (by decide) rfl (hb hby d4_39) ?_
      show Run p e below s _ _ _ (T12.setTop (mkF m 40 #[.val (.ref this), .val (.ref pat), .val (.long bt0), .second, .val (.int (1 : Int32)), .val (.int c0), .val (.int v7)] [(.int c1)]))
      refine Run.x_istore (q := 42) X12 hx #[.val (.ref this), .val (.ref pat), .val (.long bt0), .second, .val (.int (1 : Int32)), .val (.int c1), .val (.int v7)] (hb hby d4_40) rfl rfl ?_
      refine Run.x_iload (q := 44) X12 hx (hb hby d4_42) rfl rfl ?_
      refine Run.x_bipush (q := 46) X12 hx (hb hby d4_44) (z := (8 : Int32)) rfl rfl ?_
      refine Run.x_iushr (q := 47) X12 hx (hb hby d4_46) rfl rfl ?_
      refine Run.x_istore (q := 49) X12 hx #[.val (.ref this), .val (.ref pat), .val (.long bt0), .second, .val (.int (1 : Int32)), .val (.int c1), .val (.int ((c1.toUInt32 >>> ((8 : Int32) &&& 31).toUInt32).toInt32))] (hb hby d4_47) rfl rfl ?_
      generalize hv13 : ((c1.toUInt32 >>> ((8 : Int32) &&& 31).toUInt32).toInt32) = v13
      refine Run.x_aloadN (q := 50) X12 hx (hb hby d4_49) rfl rfl rfl ?_
      replace F_this_pages := F_this_pages.other W12 (Or.inl ne_this_pH0)
      obtain ⟨T14, X14, e14, st14⟩ := getF X12 hx hZ hown (host := "") (Or.inl (hw _ (List.mem_of_getElem? (i := 17) rfl))) Via.refl e12 F_this_pages (g := (mkF m 50 #[.val (.ref this), .val (.ref pat), .val (.long bt0), .second, .val (.int (1 : Int32)), .val (.int c1), .val (.int v13)] [(.ref this)])) rfl rfl (hb hby d4_50)
      refine Run.st st14 ?_
      show Run p e below s _ _ _ (T14.setTop (mkF m 53 #[.val (.ref this), .val (.ref pat), .val (.long bt0), .second, .val (.int (1 : Int32)), .val (.int c1), .val (.int v13)] [(.ref b2)]))
      refine Run.x_iload (q := 55) X14 hx (hb hby d4_53) rfl rfl ?_
      obtain ⟨H1, eH1, lH1, dH1⟩ := own_hi hr1.1 hr1.2 hv13
      refine Run.ldR X14 hx hZ e14 PG.1 (i := H1) (v := .ref (pg1 H1)) eH1 (own_refs_at lH1) rfl (hb hby d4_55) ?_
      show Run p e below s _ _ _ (T14.setTop (mkF m 56 #[.val (.ref this), .val (.ref pat), .val (.long bt0), .second, .val (.int (1 : Int32)), .val (.int c1), .val (.int v13)] [(.ref (pg1 H1))]))
      replace S_ABSENT := S_ABSENT.wr W12
      obtain ⟨T15, X15, e15, st15⟩ := getS2 X14 hx hZ hown (host := "") (Or.inl (hw _ (List.mem_of_getElem? (i := 19) rfl))) Via.refl e14 S_ABSENT (g := (mkF m 56 #[.val (.ref this), .val (.ref pat), .val (.long bt0), .second, .val (.int (1 : Int32)), .val (.int c1), .val (.int v13)] [(.ref (pg1 H1))])) rfl (hb hby d4_56)
      refine Run.st st15 ?_
      show Run p e below s _ _ _ (T15.setTop (mkF m 59 #[.val (.ref this), .val (.ref pat), .val (.long bt0), .second, .val (.int (1 : Int32)), .val (.int c1), .val (.int v13)] [(.ref ab), (.ref (pg1 H1))]))
      have JP1 : ∀ (T16 : State) (h16 : Heap) (lo16 : List Loc) (pg2 : Nat → Addr), Stand p l e ({ frames := 2, cells := 3, slots := 768, locals := 29 } : Room) s m #[(.ref this), (.ref pat)] below meth c T16 lo16 3 768 → T16.heap = h16 → Fr n0 lo16 → n0 ≤ h16.size → Exa Z h16 this "needlewise/boyermoore/Rightmost" → Fld Z h16 this "needlewise/boyermoore/Rightmost" "pages" "[[I" (.ref b2) → Fld Z h16 this "needlewise/boyermoore/Rightmost" "low" "[I" .null → Fld Z h16 this "needlewise/boyermoore/Rightmost" "filter" "J" (.long (0 : Int64)) → Ars Z h16 pat .char [(.int c0), (.int c1)] → Sta Z h16 "needlewise/boyermoore/Rightmost" "ABSENT" "[I" (.ref ab) → Ars Z h16 ab .int (List.replicate 256 (.int (-1))) → Exa Z h16 ab "[I" → (Pgs Z h16 n0 ab b2 pg2 (own_upd (fun _ => -1) c0.toInt.toNat (Int32.ofNat 0))) → (∀ i, i < 256 → pg2 i ≠ this) → (∀ i, i < 256 → pg2 i ≠ pat) → (pg2 H1 ≠ ab) → Run p e below s (fun v h L => ∃ (pa : Addr) (pg : Nat → Addr), v = none ∧ Fr n0 L ∧ Pgs Z h n0 ab pa pg (own_go (fun _ => -1) 0 [c0, c1]) ∧ Fld Z h this "needlewise/boyermoore/Rightmost" "pages" "[[I" (.ref pa) ∧ Fld Z h this "needlewise/boyermoore/Rightmost" "low" "[I" (.ref (pg 0)) ∧ Fld Z h this "needlewise/boyermoore/Rightmost" "filter" "J" (.long (own_bt 0 [c0, c1])) ∧ Exa Z h this "needlewise/boyermoore/Rightmost") ({ frames := 2, cells := 3, slots := 768, locals := 29 } : Room).cells ({ frames := 2, cells := 3, slots := 768, locals := 29 } : Room).slots (T16.setTop (mkF m 72 #[.val (.ref this), .val (.ref pat), .val (.long bt0), .second, .val (.int (1 : Int32)), .val (.int c1), .val (.int v13)] [])) := by
        intro T16 h16 lo16 pg2 X16 e16 N16 Z16 E_this F_this_pages F_this_low F_this_filter A_pat S_ABSENT A_ab E_ab PG hn_this hn_pat hq
        refine Run.x_aloadN (q := 73) X16 hx (hb hby d4_72) rfl rfl rfl ?_
        obtain ⟨T17, X17, e17, st17⟩ := getF X16 hx hZ hown (host := "") (Or.inl (hw _ (List.mem_of_getElem? (i := 17) rfl))) Via.refl e16 F_this_pages (g := (mkF m 73 #[.val (.ref this), .val (.ref pat), .val (.long bt0), .second, .val (.int (1 : Int32)), .val (.int c1), .val (.int v13)] [(.ref this)])) rfl rfl (hb hby d4_73)
        refine Run.st st17 ?_
        show Run p e below s _ _ _ (T17.setTop (mkF m 76 #[.val (.ref this), .val (.ref pat), .val (.long bt0), .second, .val (.int (1 : Int32)), .val (.int c1), .val (.int v13)] [(.ref b2)]))
        refine Run.x_iload (q := 78) X17 hx (hb hby d4_76) rfl rfl ?_
        refine Run.ldR X17 hx hZ e17 PG.1 (i := H1) (v := .ref (pg2 H1)) eH1 (own_refs_at lH1) rfl (hb hby d4_78) ?_
        show Run p e below s _ _ _ (T17.setTop (mkF m 79 #[.val (.ref this), .val (.ref pat), .val (.long bt0), .second, .val (.int (1 : Int32)), .val (.int c1), .val (.int v13)] [(.ref (pg2 H1))]))
        refine Run.x_iload (q := 81) X17 hx (hb hby d4_79) rfl rfl ?_
        refine Run.x_sipush (q := 84) X17 hx (hb hby d4_81) (z := (255 : Int32)) rfl rfl ?_
        refine Run.x_iand (q := 85) X17 hx (hb hby d4_84) rfl rfl ?_
        refine Run.x_iload (q := 87) X17 hx (hb hby d4_85) rfl rfl ?_
        obtain ⟨L1, eL1, lL1, dL1⟩ := own_lo c1
        have ne_this_pH1 : this ≠ pg2 H1 := Ne.symm (hn_this _ lH1)
        have ne_pat_pH1 : pat ≠ pg2 H1 := Ne.symm (hn_pat _ lH1)
        have ne_ab_pH1 : ab ≠ pg2 H1 := Ne.symm hq
        refine Run.stI X17 hx hZ e17 (PG.2.2.1 H1 lH1) (i := L1) eL1 (by rw [own_row_len]; exact lL1) (hb hby d4_87) ?_
        intro T18 h18 X18 e18 W18 A18
        have N18 := Fr.snoc X18 N16 (PG.2.2.2.2.2 H1 lH1 hq)
        have Z18 : n0 ≤ h18.size := Nat.le_trans Z16 (Nat.le_of_eq W18.size.symm)
        replace PG : Pgs Z h18 n0 ab b2 pg2 (own_upd (own_upd (fun _ => -1) c0.toInt.toNat (Int32.ofNat 0)) c1.toInt.toNat (Int32.ofNat 1)) := by rw [← own_hl hr1.1 dH1 dL1]; exact PG.set lH1 lL1 hq W18
        show Run p e below s _ _ _ (T18.setTop (mkF m 88 #[.val (.ref this), .val (.ref pat), .val (.long bt0), .second, .val (.int (1 : Int32)), .val (.int c1), .val (.int v13)] []))
        refine Run.x_iload (q := 90) X18 hx (hb hby d4_88) rfl rfl ?_
        have JB1 : ∀ bt1 : Int64, bt1 = (if c1.toInt < 256 then bt0 else (bt0 ||| ((1 : Int64) <<< (c1 &&& 0x3f).toInt64))) → Run p e below s (fun v h L => ∃ (pa : Addr) (pg : Nat → Addr), v = none ∧ Fr n0 L ∧ Pgs Z h n0 ab pa pg (own_go (fun _ => -1) 0 [c0, c1]) ∧ Fld Z h this "needlewise/boyermoore/Rightmost" "pages" "[[I" (.ref pa) ∧ Fld Z h this "needlewise/boyermoore/Rightmost" "low" "[I" (.ref (pg 0)) ∧ Fld Z h this "needlewise/boyermoore/Rightmost" "filter" "J" (.long (own_bt 0 [c0, c1])) ∧ Exa Z h this "needlewise/boyermoore/Rightmost") ({ frames := 2, cells := 3, slots := 768, locals := 29 } : Room).cells ({ frames := 2, cells := 3, slots := 768, locals := 29 } : Room).slots (T18.setTop (mkF m 100 #[.val (.ref this), .val (.ref pat), .val (.long bt1), .second, .val (.int (1 : Int32)), .val (.int c1), .val (.int v13)] [])) := by
          intro bt1 hbt1
          refine Run.x_iinc (q := 103) X18 hx #[.val (.ref this), .val (.ref pat), .val (.long bt1), .second, .val (.int (2 : Int32)), .val (.int c1), .val (.int v13)] (hb hby d4_100) rfl (z := (2 : Int32)) (by decide) rfl rfl ?_
          refine Run.x_goto (q := 29) X18 hx (hb hby d4_103) (by decide) (by decide) ?_
          refine Run.x_iload (q := 31) X18 hx (hb hby d4_29) rfl rfl ?_
          refine Run.x_aloadN (q := 32) X18 hx (hb hby d4_31) rfl rfl rfl ?_
          replace A_pat := A_pat.other W18 ne_pat_pH1
          refine Run.alen X18 hx hZ e18 A_pat (z := (2 : Int32)) rfl (hb hby d4_32) ?_
          show Run p e below s _ _ _ (T18.setTop (mkF m 33 #[.val (.ref this), .val (.ref pat), .val (.long bt1), .second, .val (.int (2 : Int32)), .val (.int c1), .val (.int v13)] [(.int (2 : Int32)), (.int (2 : Int32))]))
          refine Run.x_icmpYes (q := 106) X18 hx (hb hby d4_33) (flt (by decide : ¬ ((2 : Int32) < (2 : Int32)))).2.1 (by decide) (by decide) ?_
          refine Run.x_aloadN (q := 107) X18 hx (hb hby d4_106) rfl rfl rfl ?_
          refine Run.x_aloadN (q := 108) X18 hx (hb hby d4_107) rfl rfl rfl ?_
          replace F_this_pages := F_this_pages.other W18 (Or.inl ne_this_pH1)
          obtain ⟨T19, X19, e19, st19⟩ := getF X18 hx hZ hown (host := "") (Or.inl (hw _ (List.mem_of_getElem? (i := 17) rfl))) Via.refl e18 F_this_pages (g := (mkF m 108 #[.val (.ref this), .val (.ref pat), .val (.long bt1), .second, .val (.int (2 : Int32)), .val (.int c1), .val (.int v13)] [(.ref this), (.ref this)])) rfl rfl (hb hby d4_108)
          refine Run.st st19 ?_
          show Run p e below s _ _ _ (T19.setTop (mkF m 111 #[.val (.ref this), .val (.ref pat), .val (.long bt1), .second, .val (.int (2 : Int32)), .val (.int c1), .val (.int v13)] [(.ref b2), (.ref this)]))
          refine Run.x_iconst (q := 112) X19 hx (hb hby d4_111) (z := (0 : Int32)) rfl rfl ?_
          refine Run.ldR X19 hx hZ e19 PG.1 (i := 0) (v := .ref (pg2 0)) (by decide) (own_refs_at (by decide)) rfl (hb hby d4_112) ?_
          show Run p e below s _ _ _ (T19.setTop (mkF m 113 #[.val (.ref this), .val (.ref pat), .val (.long bt1), .second, .val (.int (2 : Int32)), .val (.int c1), .val (.int v13)] [(.ref (pg2 0)), (.ref this)]))
          replace F_this_low := F_this_low.other W18 (Or.inl ne_this_pH1)
          replace E_this := E_this.wr W18
          obtain ⟨T20, h20, X20, e20, W20, st20⟩ := putF X19 hx hZ hown (host := "") (Or.inl (hw _ (List.mem_of_getElem? (i := 33) rfl))) Via.refl e19 F_this_low E_this (Or.inr ⟨(hw _ (List.mem_of_getElem? (i := 34) rfl)), rfl, hnm⟩) (hw _ (List.mem_of_getElem? (i := 7) rfl)) (ty := (.array .int)) (by decide) rfl rfl (g := (mkF m 113 #[.val (.ref this), .val (.ref pat), .val (.long bt1), .second, .val (.int (2 : Int32)), .val (.int c1), .val (.int v13)] [(.ref (pg2 0)), (.ref this)])) rfl rfl (hb hby d4_113)
          replace F_this_low := F_this_low.same W20
          have Z20 : n0 ≤ h20.size := Nat.le_trans Z18 (Nat.le_of_eq W20.size.symm)
          have N20 := Fr.snoc X20 N18 g_this
          refine Run.st st20 ?_
          show Run p e below s _ _ _ (T20.setTop (mkF m 116 #[.val (.ref this), .val (.ref pat), .val (.long bt1), .second, .val (.int (2 : Int32)), .val (.int c1), .val (.int v13)] []))
          replace PG := PG.wrO W20 (Ne.symm ne_this_b2) hn_this
          refine Run.x_aloadN (q := 117) X20 hx (hb hby d4_116) rfl rfl rfl ?_
          refine Run.x_lloadN (q := 118) X20 hx (hb hby d4_117) rfl rfl ?_
          replace F_this_filter := (F_this_filter.other W18 (Or.inl ne_this_pH1)).other W20 (Or.inr (slot_ne (Or.inr (hw _ (List.mem_of_getElem? (i := 36) rfl))) (Or.inr (hw _ (List.mem_of_getElem? (i := 34) rfl))) (by decide) (t := .long) (t' := (.array .int)) (by decide) (by decide)))
          replace E_this := E_this.wr W20
          obtain ⟨T21, h21, X21, e21, W21, st21⟩ := putF X20 hx hZ hown (host := "") (Or.inl (hw _ (List.mem_of_getElem? (i := 35) rfl))) Via.refl e20 F_this_filter E_this (Or.inr ⟨(hw _ (List.mem_of_getElem? (i := 36) rfl)), rfl, hnm⟩) (hw _ (List.mem_of_getElem? (i := 7) rfl)) (ty := .long) (by decide) rfl rfl (g := (mkF m 118 #[.val (.ref this), .val (.ref pat), .val (.long bt1), .second, .val (.int (2 : Int32)), .val (.int c1), .val (.int v13)] [(.long bt1), (.ref this)])) rfl rfl (hb hby d4_118)
          replace F_this_filter := F_this_filter.same W21
          have Z21 : n0 ≤ h21.size := Nat.le_trans Z20 (Nat.le_of_eq W21.size.symm)
          have N21 := Fr.snoc X21 N20 g_this
          refine Run.st st21 ?_
          show Run p e below s _ _ _ (T21.setTop (mkF m 121 #[.val (.ref this), .val (.ref pat), .val (.long bt1), .second, .val (.int (2 : Int32)), .val (.int c1), .val (.int v13)] []))
          replace PG := PG.wrO W21 (Ne.symm ne_this_b2) hn_this
          replace E_this := E_this.wr W21
          replace F_this_pages := (F_this_pages.other W20 (Or.inr (slot_ne (Or.inr (hw _ (List.mem_of_getElem? (i := 18) rfl))) (Or.inr (hw _ (List.mem_of_getElem? (i := 34) rfl))) (by decide) (t := (.array (.array .int))) (t' := (.array .int)) (by decide) (by decide)))).other W21 (Or.inr (slot_ne (Or.inr (hw _ (List.mem_of_getElem? (i := 18) rfl))) (Or.inr (hw _ (List.mem_of_getElem? (i := 36) rfl))) (by decide) (t := (.array (.array .int))) (t' := .long) (by decide) (by decide)))
          replace F_this_low := F_this_low.other W21 (Or.inr (slot_ne (Or.inr (hw _ (List.mem_of_getElem? (i := 34) rfl))) (Or.inr (hw _ (List.mem_of_getElem? (i := 36) rfl))) (by decide) (t := (.array .int)) (t' := .long) (by decide) (by decide)))
          replace A_pat := (A_pat.other W20 (Ne.symm ne_this_pat)).other W21 (Ne.symm ne_this_pat)
          replace S_ABSENT := ((S_ABSENT.wr W18).wr W20).wr W21
          replace A_ab := ((A_ab.other W18 ne_ab_pH1).other W20 (Ne.symm ne_this_ab)).other W21 (Ne.symm ne_this_ab)
          replace E_ab := ((E_ab.wr W18).wr W20).wr W21
          refine Run.retV X21 hx hlk e21 hret (hb hby d4_121) (by decide) (by decide) ?_
          subst hbt1
          subst hbt0
          exact ⟨b2, pg2, rfl, N21, PG, F_this_pages, F_this_low, F_this_filter, E_this⟩
        by_cases hc90 : (0 : Int32) < v13
        · skip
          refine Run.x_ifNo (q := 93) X18 hx (hb hby d4_90) ((if0 _ _).trans (tlt hc90).2.2.2) rfl ?_
          refine Run.x_lloadN (q := 94) X18 hx (hb hby d4_93) rfl rfl ?_
          refine Run.x_lconst (q := 95) X18 hx (hb hby d4_94) (z := (1 : Int64)) rfl rfl ?_
          refine Run.x_iload (q := 97) X18 hx (hb hby d4_95) rfl rfl ?_
          refine Run.x_lshl (q := 98) X18 hx (hb hby d4_97) rfl rfl ?_
          refine Run.x_lor (q := 99) X18 hx (hb hby d4_98) rfl rfl ?_
          refine Run.x_lstoreN (q := 100) X18 hx #[.val (.ref this), .val (.ref pat), .val (.long (bt0 ||| ((1 : Int64) <<< (c1 &&& 0x3f).toInt64))), .second, .val (.int (1 : Int32)), .val (.int c1), .val (.int v13)] (hb hby d4_99) rfl rfl ?_
          exact JB1 _ (if_neg (own_h1 eH1 dH1 hc90)).symm
        · skip
          refine Run.x_ifYes (q := 100) X18 hx (hb hby d4_90) ((if0 _ _).trans (flt hc90).2.2.2) (by decide) (by decide) ?_
          exact JB1 _ (if_pos (own_h0 eH1 dH1 hc90)).symm
      by_cases hq : pg1 H1 = ab
      · skip
        refine Run.st (B := T15.setTop (mkF m 62 #[.val (.ref this), .val (.ref pat), .val (.long bt0), .second, .val (.int (1 : Int32)), .val (.int c1), .val (.int v13)] [])) (fun t kt => Jvm.RoadKit.acmp (g := (mkF m 59 #[.val (.ref this), .val (.ref pat), .val (.long bt0), .second, .val (.int (1 : Int32)), .val (.int c1), .val (.int v13)] [(.ref ab), (.ref (pg1 H1))])) X15 hx rfl rfl rfl (pc0 := 59) (pc' := 62) (same := true) rfl (hb hby d4_59) rfl (decide_eq_true (congrArg Value.ref hq)) (by decide) (by decide) kt) ?_
        refine Run.x_aloadN (q := 63) X15 hx (hb hby d4_62) rfl rfl rfl ?_
        obtain ⟨T22, X22, e22, st22⟩ := getF X15 hx hZ hown (host := "") (Or.inl (hw _ (List.mem_of_getElem? (i := 17) rfl))) Via.refl e15 F_this_pages (g := (mkF m 63 #[.val (.ref this), .val (.ref pat), .val (.long bt0), .second, .val (.int (1 : Int32)), .val (.int c1), .val (.int v13)] [(.ref this)])) rfl rfl (hb hby d4_63)
        refine Run.st st22 ?_
        show Run p e below s _ _ _ (T22.setTop (mkF m 66 #[.val (.ref this), .val (.ref pat), .val (.long bt0), .second, .val (.int (1 : Int32)), .val (.int c1), .val (.int v13)] [(.ref b2)]))
        refine Run.x_iload (q := 68) X22 hx (hb hby d4_66) rfl rfl ?_
        refine Run.callS X22 hx hZ e22 (y := (⟨"needlewise/boyermoore/Rightmost", "newPage", "()[I"⟩ : MethodName)) hown (hw _ (List.mem_of_getElem? (i := 26) rfl)) (hw _ (List.mem_of_getElem? (i := 27) rfl)) (hw _ (List.mem_of_getElem? (i := 8) rfl)) (hw _ (List.mem_of_getElem? (i := 28) rfl)) (by decide) (argsL := []) (rest := [(.int v13), (.ref b2)]) (c_page l Z a0 hw h12 n0 Z12) pd_2 rfl (by rw [hml]; rfl) (W := 2) rfl (by decide) (by decide) (by decide) (by decide) (hb hby d4_68) rfl ?_
        intro T23 v23 L23 X23 q23
        obtain ⟨np23, rfl, M23, K23, sz23, An23, En23⟩ := q23
        have N23 := Fr.app N12 M23
        show Run p e below s _ _ _ (T23.setTop (mkF m 71 #[.val (.ref this), .val (.ref pat), .val (.long bt0), .second, .val (.int (1 : Int32)), .val (.int c1), .val (.int v13)] [(.ref np23), (.int v13), (.ref b2)]))
        have hlt := PG.lt sz23
        have ne_b2_np23 : b2 ≠ np23 := Nat.ne_of_lt (Nat.lt_of_lt_of_le PG.1.lt sz23)
        have g_np23 : n0 ≤ np23 := Nat.le_trans Z12 sz23
        replace PG := PG.ext (Keep_ext K23)
        replace E_this := E_this.wr W12
        have ne_this_np23 : this ≠ np23 := Nat.ne_of_lt (Nat.lt_of_lt_of_le E_this.lt sz23)
        replace A_ab := A_ab.other W12 ne_ab_pH0
        have ne_ab_np23 : ab ≠ np23 := Nat.ne_of_lt (Nat.lt_of_lt_of_le A_ab.lt sz23)
        have ne_pat_np23 : pat ≠ np23 := Nat.ne_of_lt (Nat.lt_of_lt_of_le A_pat.lt sz23)
        replace S_ABSENT := Sta_keep S_ABSENT K23 all0
        have Z23 : n0 ≤ T23.heap.size := Nat.le_trans Z12 K23.1
        refine Run.stR X23 hx hZ rfl PG.1 (i := H1) eH1 (by rw [own_refs_len]; exact lH1) rfl (own_sto PG.1 PG.2.1 En23) (hb hby d4_71) ?_
        intro T24 h24 X24 e24 W24 A24
        replace A_ab := A_ab.keep K23 nin0
        replace PG := Pgs.new PG lH1 hq (by rw [Pgs.page PG lH1 hq A_ab]; exact An23) (Ne.symm ne_b2_np23) hlt g_np23 W24 (Ne.symm ne_ab_np23)
        have N24 := Fr.snoc X24 N23 g_b2
        have Z24 : n0 ≤ h24.size := Nat.le_trans Z23 (Nat.le_of_eq W24.size.symm)
        show Run p e below s _ _ _ (T24.setTop (mkF m 72 #[.val (.ref this), .val (.ref pat), .val (.long bt0), .second, .val (.int (1 : Int32)), .val (.int c1), .val (.int v13)] []))
        replace E_this := (E_this.keep K23).wr W24
        replace F_this_pages := (F_this_pages.keep K23 nin0).other W24 (Or.inl ne_this_b2)
        replace F_this_low := ((F_this_low.other W12 (Or.inl ne_this_pH0)).keep K23 nin0).other W24 (Or.inl ne_this_b2)
        replace F_this_filter := ((F_this_filter.other W12 (Or.inl ne_this_pH0)).keep K23 nin0).other W24 (Or.inl ne_this_b2)
        replace A_pat := (A_pat.keep K23 nin0).other W24 ne_pat_b2
        replace S_ABSENT := S_ABSENT.wr W24
        replace A_ab := A_ab.other W24 ne_ab_b2
        replace E_ab := ((E_ab.wr W12).keep K23).wr W24
        exact JP1 T24 h24 _ _ X24 e24 N24 Z24 E_this F_this_pages F_this_low F_this_filter A_pat S_ABSENT A_ab E_ab PG (own_nt hn_this (Ne.symm ne_this_np23)) (own_nt hn_pat (Ne.symm ne_pat_np23)) (by rw [own_upd_self]; exact (Ne.symm ne_ab_np23))
      · skip
        refine Run.st (B := T15.setTop (mkF m 72 #[.val (.ref this), .val (.ref pat), .val (.long bt0), .second, .val (.int (1 : Int32)), .val (.int c1), .val (.int v13)] [])) (fun t kt => Jvm.RoadKit.acmp (g := (mkF m 59 #[.val (.ref this), .val (.ref pat), .val (.long bt0), .second, .val (.int (1 : Int32)), .val (.int c1), .val (.int v13)] [(.ref ab), (.ref (pg1 H1))])) X15 hx rfl rfl rfl (pc0 := 59) (pc' := 72) (same := false) rfl (hb hby d4_59) rfl (decide_eq_false fun q => hq (Value.ref.inj q)) (by decide) (by decide) kt) ?_
        replace E_this := E_this.wr W12
        replace F_this_low := F_this_low.other W12 (Or.inl ne_this_pH0)
        replace F_this_filter := F_this_filter.other W12 (Or.inl ne_this_pH0)
        replace A_ab := A_ab.other W12 ne_ab_pH0
        replace E_ab := E_ab.wr W12
        exact JP1 T15 h12 _ _ (X15.more (by decide) (by decide)) e15 N12 Z12 E_this F_this_pages F_this_low F_this_filter A_pat S_ABSENT A_ab E_ab PG hn_this hn_pat hq
    by_cases hc90 : (0 : Int32) < v7
    · skip
      refine Run.x_ifNo (q := 93) X12 hx (hb hby d4_90) ((if0 _ _).trans (tlt hc90).2.2.2) rfl ?_
      refine Run.x_lloadN (q := 94) X12 hx (hb hby d4_93) rfl rfl ?_
      refine Run.x_lconst (q := 95) X12 hx (hb hby d4_94) (z := (1 : Int64)) rfl rfl ?_
      refine Run.x_iload (q := 97) X12 hx (hb hby d4_95) rfl rfl ?_
      refine Run.x_lshl (q := 98) X12 hx (hb hby d4_97) rfl rfl ?_
      refine Run.x_lor (q := 99) X12 hx (hb hby d4_98) rfl rfl ?_
      refine Run.x_lstoreN (q := 100) X12 hx #[.val (.ref this), .val (.ref pat), .val (.long ((0 : Int64) ||| ((1 : Int64) <<< (c0 &&& 0x3f).toInt64))), .second, .val (.int (0 : Int32)), .val (.int c0), .val (.int v7)] (hb hby d4_99) rfl rfl ?_
      exact JB0 _ (if_neg (own_h1 eH0 dH0 hc90)).symm
    · skip
      refine Run.x_ifYes (q := 100) X12 hx (hb hby d4_90) ((if0 _ _).trans (flt hc90).2.2.2) (by decide) (by decide) ?_
      exact JB0 _ (if_pos (own_h0 eH0 dH0 hc90)).symm
  by_cases hq : (fun _ => ab : Nat → Addr) H0 = ab
  · skip
    refine Run.st (B := T9.setTop (mkF m 62 #[.val (.ref this), .val (.ref pat), .val (.long (0 : Int64)), .second, .val (.int (0 : Int32)), .val (.int c0), .val (.int v7)] [])) (fun t kt => Jvm.RoadKit.acmp (g := (mkF m 59 #[.val (.ref this), .val (.ref pat), .val (.long (0 : Int64)), .second, .val (.int (0 : Int32)), .val (.int c0), .val (.int v7)] [(.ref ab), (.ref ((fun _ => ab : Nat → Addr) H0))])) X9 hx rfl rfl rfl (pc0 := 59) (pc' := 62) (same := true) rfl (hb hby d4_59) rfl (decide_eq_true (congrArg Value.ref hq)) (by decide) (by decide) kt) ?_
    refine Run.x_aloadN (q := 63) X9 hx (hb hby d4_62) rfl rfl rfl ?_
    obtain ⟨T25, X25, e25, st25⟩ := getF X9 hx hZ hown (host := "") (Or.inl (hw _ (List.mem_of_getElem? (i := 17) rfl))) Via.refl e9 F_this_pages (g := (mkF m 63 #[.val (.ref this), .val (.ref pat), .val (.long (0 : Int64)), .second, .val (.int (0 : Int32)), .val (.int c0), .val (.int v7)] [(.ref this)])) rfl rfl (hb hby d4_63)
    refine Run.st st25 ?_
    show Run p e below s _ _ _ (T25.setTop (mkF m 66 #[.val (.ref this), .val (.ref pat), .val (.long (0 : Int64)), .second, .val (.int (0 : Int32)), .val (.int c0), .val (.int v7)] [(.ref b2)]))
    refine Run.x_iload (q := 68) X25 hx (hb hby d4_66) rfl rfl ?_
    refine Run.callS X25 hx hZ e25 (y := (⟨"needlewise/boyermoore/Rightmost", "newPage", "()[I"⟩ : MethodName)) hown (hw _ (List.mem_of_getElem? (i := 26) rfl)) (hw _ (List.mem_of_getElem? (i := 27) rfl)) (hw _ (List.mem_of_getElem? (i := 8) rfl)) (hw _ (List.mem_of_getElem? (i := 28) rfl)) (by decide) (argsL := []) (rest := [(.int v7), (.ref b2)]) (c_page l Z a0 hw T6.heap n0 Z6) pd_2 rfl (by rw [hml]; rfl) (W := 2) rfl (by decide) (by decide) (by decide) (by decide) (hb hby d4_68) rfl ?_
    intro T26 v26 L26 X26 q26
    obtain ⟨np26, rfl, M26, K26, sz26, An26, En26⟩ := q26
    have N26 := Fr.app N6 M26
    show Run p e below s _ _ _ (T26.setTop (mkF m 71 #[.val (.ref this), .val (.ref pat), .val (.long (0 : Int64)), .second, .val (.int (0 : Int32)), .val (.int c0), .val (.int v7)] [(.ref np26), (.int v7), (.ref b2)]))
    have hlt := PG.lt sz26
    have ne_b2_np26 : b2 ≠ np26 := Nat.ne_of_lt (Nat.lt_of_lt_of_le PG.1.lt sz26)
    have g_np26 : n0 ≤ np26 := Nat.le_trans Z6 sz26
    replace PG := PG.ext (Keep_ext K26)
    replace E_this := (E_this.wr W3).keep K6
    have ne_this_np26 : this ≠ np26 := Nat.ne_of_lt (Nat.lt_of_lt_of_le E_this.lt sz26)
    have ne_ab_np26 : ab ≠ np26 := Nat.ne_of_lt (Nat.lt_of_lt_of_le A_ab.lt sz26)
    have ne_pat_np26 : pat ≠ np26 := Nat.ne_of_lt (Nat.lt_of_lt_of_le A_pat.lt sz26)
    replace S_ABSENT := Sta_keep S_ABSENT K26 all0
    have Z26 : n0 ≤ T26.heap.size := Nat.le_trans Z6 K26.1
    refine Run.stR X26 hx hZ rfl PG.1 (i := H0) eH0 (by rw [own_refs_len]; exact lH0) rfl (own_sto PG.1 PG.2.1 En26) (hb hby d4_71) ?_
    intro T27 h27 X27 e27 W27 A27
    replace A_ab := A_ab.keep K26 nin0
    replace PG := Pgs.new PG lH0 hq (by rw [Pgs.page PG lH0 hq A_ab]; exact An26) (Ne.symm ne_b2_np26) hlt g_np26 W27 (Ne.symm ne_ab_np26)
    have N27 := Fr.snoc X27 N26 g_b2
    have Z27 : n0 ≤ h27.size := Nat.le_trans Z26 (Nat.le_of_eq W27.size.symm)
    show Run p e below s _ _ _ (T27.setTop (mkF m 72 #[.val (.ref this), .val (.ref pat), .val (.long (0 : Int64)), .second, .val (.int (0 : Int32)), .val (.int c0), .val (.int v7)] []))
    replace E_this := (E_this.keep K26).wr W27
    replace F_this_pages := (F_this_pages.keep K26 nin0).other W27 (Or.inl ne_this_b2)
    replace F_this_low := ((((F_this_low.ext E2).other W3 (Or.inr (slot_ne (Or.inr (hw _ (List.mem_of_getElem? (i := 34) rfl))) (Or.inr (hw _ (List.mem_of_getElem? (i := 18) rfl))) (by decide) (t := (.array .int)) (t' := (.array (.array .int))) (by decide) (by decide)))).keep K6 (ninS ne_this_b2 nin0)).keep K26 nin0).other W27 (Or.inl ne_this_b2)
    replace F_this_filter := ((((F_this_filter.ext E2).other W3 (Or.inr (slot_ne (Or.inr (hw _ (List.mem_of_getElem? (i := 36) rfl))) (Or.inr (hw _ (List.mem_of_getElem? (i := 18) rfl))) (by decide) (t := .long) (t' := (.array (.array .int))) (by decide) (by decide)))).keep K6 (ninS ne_this_b2 nin0)).keep K26 nin0).other W27 (Or.inl ne_this_b2)
    replace A_pat := (A_pat.keep K26 nin0).other W27 ne_pat_b2
    replace S_ABSENT := S_ABSENT.wr W27
    replace A_ab := A_ab.other W27 ne_ab_b2
    replace E_ab := ((E_ab.keep K6).keep K26).wr W27
    exact JP0 T27 h27 _ _ X27 e27 N27 Z27 E_this F_this_pages F_this_low F_this_filter A_pat S_ABSENT A_ab E_ab PG (own_nt hn_this (Ne.symm ne_this_np26)) (own_nt hn_pat (Ne.symm ne_pat_np26)) (by rw [own_upd_self]; exact (Ne.symm ne_ab_np26))
  · skip
    refine Run.st (B := T9.setTop (mkF m 72 #[.val (.ref this), .val (.ref pat), .val (.long (0 : Int64)), .second, .val (.int (0 : Int32)), .val (.int c0), .val (.int v7)] [])) (fun t kt => Jvm.RoadKit.acmp (g := (mkF m 59 #[.val (.ref this), .val (.ref pat), .val (.long (0 : Int64)), .second, .val (.int (0 : Int32)), .val (.int c0), .val (.int v7)] [(.ref ab), (.ref ((fun _ => ab : Nat → Addr) H0))])) X9 hx rfl rfl rfl (pc0 := 59) (pc' := 72) (same := false) rfl (hb hby d4_59) rfl (decide_eq_false fun q => hq (Value.ref.inj q)) (by decide) (by decide) kt) ?_
    replace E_this := (E_this.wr W3).keep K6
    replace F_this_low := ((F_this_low.ext E2).other W3 (Or.inr (slot_ne (Or.inr (hw _ (List.mem_of_getElem? (i := 34) rfl))) (Or.inr (hw _ (List.mem_of_getElem? (i := 18) rfl))) (by decide) (t := (.array .int)) (t' := (.array (.array .int))) (by decide) (by decide)))).keep K6 (ninS ne_this_b2 nin0)
    replace F_this_filter := ((F_this_filter.ext E2).other W3 (Or.inr (slot_ne (Or.inr (hw _ (List.mem_of_getElem? (i := 36) rfl))) (Or.inr (hw _ (List.mem_of_getElem? (i := 18) rfl))) (by decide) (t := .long) (t' := (.array (.array .int))) (by decide) (by decide)))).keep K6 (ninS ne_this_b2 nin0)
    replace E_ab := E_ab.keep K6
    exact JP0 T9 T6.heap _ _ (X9.more (by decide) (by decide)) e9 N6 Z6 E_this F_this_pages F_this_low F_this_filter A_pat S_ABSENT A_ab E_ab PG hn_this hn_pat hq
theorem ef_c_init3 (m : MethodId) (this : Addr) (pat : Addr) : entryFrame m #[(.ref this), (.ref pat)] 7 = mkF m 0 #[.val (.ref this), .val (.ref pat), .unset, .unset, .unset, .unset, .unset] [] := by first | (simp [entryFrame, mkF, argsToLocals, Value.category]; done) | rfl
set_option maxRecDepth 65536 in
set_option maxHeartbeats 40000000 in
theorem c_init3 (l : Launch) (Z : State) (a0 : Array Value) (hw : ∀ d ∈ tables_1, d.before a0 Z = true) (this : Addr) (pat : Addr) (h0 : Heap) (n0 : Nat) (Z0 : n0 ≤ h0.size) (ab : Addr) (c0 : Int32) (c1 : Int32) (c2 : Int32) (E_this : Exa Z h0 this "needlewise/boyermoore/Rightmost") (F_this_pages : Fld Z h0 this "needlewise/boyermoore/Rightmost" "pages" "[[I" .null) (F_this_low : Fld Z h0 this "needlewise/boyermoore/Rightmost" "low" "[I" .null) (F_this_filter : Fld Z h0 this "needlewise/boyermoore/Rightmost" "filter" "J" (.long (0 : Int64))) (A_pat : Ars Z h0 pat .char [(.int c0), (.int c1), (.int c2)]) (S_ABSENT : Sta Z h0 "needlewise/boyermoore/Rightmost" "ABSENT" "[I" (.ref ab)) (A_ab : Ars Z h0 ab .int (List.replicate 256 (.int (-1)))) (E_ab : Exa Z h0 ab "[I") (g_this : n0 ≤ this) (ne_this_pat : this ≠ pat) (ne_this_ab : this ≠ ab) (ne_pat_ab : pat ≠ ab) (hr0 : 0 ≤ c0.toInt ∧ c0.toInt < 65536) (hr1 : 0 ≤ c1.toInt ∧ c1.toInt < 65536) (hr2 : 0 ≤ c2.toInt ∧ c2.toInt < 65536) :
    Ctr l Z (⟨"needlewise/boyermoore/Rightmost", "<init>", "([C)V"⟩ : MethodName) prog_13_method_1_code 7 none ({ frames := 2, cells := 4, slots := 1024, locals := 29 } : Room) #[(.ref this), (.ref pat)] h0 (fun v h L => ∃ (pa : Addr) (pg : Nat → Addr), v = none ∧ Fr n0 L ∧ Pgs Z h n0 ab pa pg (own_go (fun _ => -1) 0 [c0, c1, c2]) ∧ Fld Z h this "needlewise/boyermoore/Rightmost" "pages" "[[I" (.ref pa) ∧ Fld Z h this "needlewise/boyermoore/Rightmost" "low" "[I" (.ref (pg 0)) ∧ Fld Z h this "needlewise/boyermoore/Rightmost" "filter" "J" (.long (own_bt 0 [c0, c1, c2])) ∧ Exa Z h this "needlewise/boyermoore/Rightmost") := by
  refine Ctr.of (plainFor_of_name pn_1) (fun m => ef_c_init3 m this pat) ?_
  intro p e s m below meth c T0 hx hby hml hown hnm hret hlk hZ e0 X0
  have N0 := Fr.nil n0
  replace hown : s.vm.findClass "needlewise/boyermoore/Rightmost" = some m.cls := hown
  replace hml : c.maxLocals = 7 := hml
  refine Run.x_aloadN (q := 1) X0 hx (hb hby d4_0) rfl rfl rfl ?_
  refine Run.init X0 hx hZ e0 hown (hw _ (List.mem_of_getElem? (i := 12) rfl)) (hw _ (List.mem_of_getElem? (i := 13) rfl)) (hw _ (List.mem_of_getElem? (i := 14) rfl)) (by rw [hml]; rfl) (hb hby d4_1) (by decide) (W := 0) rfl (by decide) ?_
  intro T1 X1 e1
  show Run p e below s _ _ _ (T1.setTop (mkF m 4 #[.val (.ref this), .val (.ref pat), .unset, .unset, .unset, .unset, .unset] []))
  refine Run.x_aloadN (q := 5) X1 hx (hb hby d4_4) rfl rfl rfl ?_
  refine Run.x_sipush (q := 8) X1 hx (hb hby d4_5) (z := (256 : Int32)) rfl rfl ?_
  refine Run.newRA X1 hx hZ e1 hown rfl (hw _ (List.mem_of_getElem? (i := 15) rfl)) (hw _ (List.mem_of_getElem? (i := 16) rfl)) (hb hby d4_8) (len := 256) (by decide) (by decide) (cap := 256) (by decide) (by decide) (by decide) (by decide) (ad := "[[I") rfl ?_
  intro T2 h2 b2 gg2 X2 e2 E2 A_b2 E_b2 O_b2
  replace O_b2 : Ovb Z h2 b2 := O_b2
  have g_b2 : n0 ≤ b2 := Nat.le_trans Z0 (Nat.le_of_eq gg2.symm)
  have ne_this_b2 : this ≠ b2 := Nat.ne_of_lt (Nat.lt_of_lt_of_le E_this.lt (Nat.le_of_eq gg2.symm))
  have ne_pat_b2 : pat ≠ b2 := Nat.ne_of_lt (Nat.lt_of_lt_of_le A_pat.lt (Nat.le_of_eq gg2.symm))
  have ne_ab_b2 : ab ≠ b2 := Nat.ne_of_lt (Nat.lt_of_lt_of_le A_ab.lt (Nat.le_of_eq gg2.symm))
  have Z2 : n0 ≤ h2.size := Nat.le_trans Z0 E2.1
  show Run p e below s _ _ _ (T2.setTop (mkF m 11 #[.val (.ref this), .val (.ref pat), .unset, .unset, .unset, .unset, .unset] [(.ref b2), (.ref this)]))
  replace F_this_pages := F_this_pages.ext E2
  replace E_this := E_this.ext E2
  obtain ⟨T3, h3, X3, e3, W3, st3⟩ := putF X2 hx hZ hown (host := "") (Or.inl (hw _ (List.mem_of_getElem? (i := 17) rfl))) Via.refl e2 F_this_pages E_this (Or.inr ⟨(hw _ (List.mem_of_getElem? (i := 18) rfl)), rfl, hnm⟩) (hw _ (List.mem_of_getElem? (i := 7) rfl)) (ty := (.array (.array .int))) (by decide) rfl rfl (g := (mkF m 11 #[.val (.ref this), .val (.ref pat), .unset, .unset, .unset, .unset, .unset] [(.ref b2), (.ref this)])) rfl rfl (hb hby d4_11)
  replace F_this_pages := F_this_pages.same W3
  have Z3 : n0 ≤ h3.size := Nat.le_trans Z2 (Nat.le_of_eq W3.size.symm)
  have N3 := Fr.snoc X3 N0 g_this
  refine Run.st st3 ?_
  show Run p e below s _ _ _ (T3.setTop (mkF m 14 #[.val (.ref this), .val (.ref pat), .unset, .unset, .unset, .unset, .unset] []))
  refine Run.x_aloadN (q := 15) X3 hx (hb hby d4_14) rfl rfl rfl ?_
  obtain ⟨T4, X4, e4, st4⟩ := getF X3 hx hZ hown (host := "") (Or.inl (hw _ (List.mem_of_getElem? (i := 17) rfl))) Via.refl e3 F_this_pages (g := (mkF m 15 #[.val (.ref this), .val (.ref pat), .unset, .unset, .unset, .unset, .unset] [(.ref this)])) rfl rfl (hb hby d4_15)
  refine Run.st st4 ?_
  show Run p e below s _ _ _ (T4.setTop (mkF m 18 #[.val (.ref this), .val (.ref pat), .unset, .unset, .unset, .unset, .unset] [(.ref b2)]))
  replace S_ABSENT := (S_ABSENT.ext E2).wr W3
  obtain ⟨T5, X5, e5, st5⟩ := getS2 X4 hx hZ hown (host := "") (Or.inl (hw _ (List.mem_of_getElem? (i := 19) rfl))) Via.refl e4 S_ABSENT (g := (mkF m 18 #[.val (.ref this), .val (.ref pat), .unset, .unset, .unset, .unset, .unset] [(.ref b2)])) rfl (hb hby d4_18)
  refine Run.st st5 ?_
  show Run p e below s _ _ _ (T5.setTop (mkF m 21 #[.val (.ref this), .val (.ref pat), .unset, .unset, .unset, .unset, .unset] [(.ref ab), (.ref b2)]))
  replace A_b2 := A_b2.other W3 (Ne.symm ne_this_b2)
  replace O_b2 := O_b2.wr W3
  replace E_ab := (E_ab.ext E2).wr W3
  refine Run.callS X5 hx hZ e5 (y := (⟨"java/util/Arrays", "fill", "([Ljava/lang/Object;Ljava/lang/Object;)V"⟩ : MethodName)) hown (hw _ (List.mem_of_getElem? (i := 21) rfl)) (hw _ (List.mem_of_getElem? (i := 22) rfl)) (hw _ (List.mem_of_getElem? (i := 23) rfl)) (hw _ (List.mem_of_getElem? (i := 24) rfl)) (by decide) (argsL := [(.ref b2), (.ref ab)]) (rest := []) (c_fillR l Z a0 hw b2 ab h3 n0 Z3 (List.replicate 256 .null) A_b2 g_b2 (by rw [List.length_replicate]; decide) (own_sto A_b2 O_b2 E_ab)) pd_1 rfl (by rw [hml]; rfl) (W := 0) rfl (by decide) (by decide) (by decide) (by decide) (hb hby d4_21) rfl ?_
  intro T6 v6 L6 X6 q6
  obtain ⟨rfl, M6, K6, A6⟩ := q6
  have N6 := Fr.app N3 M6
  show Run p e below s _ _ _ (T6.setTop (mkF m 24 #[.val (.ref this), .val (.ref pat), .unset, .unset, .unset, .unset, .unset] []))
  replace S_ABSENT := Sta_keep S_ABSENT K6 (allS A_b2.ns all0)
  have Z6 : n0 ≤ T6.heap.size := Nat.le_trans Z3 K6.1
  replace A_ab := ((A_ab.ext E2).other W3 (Ne.symm ne_this_ab)).keep K6 (ninS ne_ab_b2 nin0)
  replace O_b2 := O_b2.keep K6
  have PG := Pgs.start (n0 := n0) (by rw [List.length_replicate] at A6; exact A6) O_b2 A_ab ne_ab_b2
  have hn_this : ∀ i, i < 256 → (fun _ => ab : Nat → Addr) i ≠ this := fun _ _ => (Ne.symm ne_this_ab)
  have hn_pat : ∀ i, i < 256 → (fun _ => ab : Nat → Addr) i ≠ pat := fun _ _ => (Ne.symm ne_pat_ab)
  refine Run.x_lconst (q := 25) X6 hx (hb hby d4_24) (z := (0 : Int64)) rfl rfl ?_
  refine Run.x_lstoreN (q := 26) X6 hx #[.val (.ref this), .val (.ref pat), .val (.long (0 : Int64)), .second, .unset, .unset, .unset] (hb hby d4_25) rfl rfl ?_
  refine Run.x_iconst (q := 27) X6 hx (hb hby d4_26) (z := (0 : Int32)) rfl rfl ?_
  refine Run.x_istore (q := 29) X6 hx #[.val (.ref this), .val (.ref pat), .val (.long (0 : Int64)), .second, .val (.int (0 : Int32)), .unset, .unset] (hb hby d4_27) rfl rfl ?_
  refine Run.x_iload (q := 31) X6 hx (hb hby d4_29) rfl rfl ?_
  refine Run.x_aloadN (q := 32) X6 hx (hb hby d4_31) rfl rfl rfl ?_
  replace A_pat := ((A_pat.ext E2).other W3 (Ne.symm ne_this_pat)).keep K6 (ninS ne_pat_b2 nin0)
  refine Run.alen X6 hx hZ rfl A_pat (z := (3 : Int32)) rfl (hb hby d4_32) ?_
  show Run p e below s _ _ _ (T6.setTop (mkF m 33 #[.val (.ref this), .val (.ref pat), .val (.long (0 : Int64)), .second, .val (.int (0 : Int32)), .unset, .unset] [(.int (3 : Int32)), (.int (0 : Int32))]))
  refine Run.x_icmpNo (q := 36) X6 hx (hb hby d4_33) (tlt (by decide : (0 : Int32) < (3 : Int32))).2.1 rfl ?_
  refine Run.x_aloadN (q := 37) X6 hx (hb hby d4_36) rfl rfl rfl ?_
  refine Run.x_iload (q := 39) X6 hx (hb hby d4_37) rfl rfl ?_
  refine Run.ldC X6 hx hZ rfl A_pat (i := 0) (v := (.int c0)) (by decide) rfl (hb hby d4_39) ?_
  show Run p e below s _ _ _ (T6.setTop (mkF m 40 #[.val (.ref this), .val (.ref pat), .val (.long (0 : Int64)), .second, .val (.int (0 : Int32)), .unset, .unset] [(.int c0)]))
  refine Run.x_istore (q := 42) X6 hx #[.val (.ref this), .val (.ref pat), .val (.long (0 : Int64)), .second, .val (.int (0 : Int32)), .val (.int c0), .unset] (hb hby d4_40) rfl rfl ?_
  refine Run.x_iload (q := 44) X6 hx (hb hby d4_42) rfl rfl ?_
  refine Run.x_bipush (q := 46) X6 hx (hb hby d4_44) (z := (8 : Int32)) rfl rfl ?_
  refine Run.x_iushr (q := 47) X6 hx (hb hby d4_46) rfl rfl ?_
  refine Run.x_istore (q := 49) X6 hx #[.val (.ref this), .val (.ref pat), .val (.long (0 : Int64)), .second, .val (.int (0 : Int32)), .val (.int c0), .val (.int ((c0.toUInt32 >>> ((8 : Int32) &&& 31).toUInt32).toInt32))] (hb hby d4_47) rfl rfl ?_
  generalize hv7 : ((c0.toUInt32 >>> ((8 : Int32) &&& 31).toUInt32).toInt32) = v7
  refine Run.x_aloadN (q := 50) X6 hx (hb hby d4_49) rfl rfl rfl ?_
  replace F_this_pages := F_this_pages.keep K6 (ninS ne_this_b2 nin0)
  obtain ⟨T8, X8, e8, st8⟩ := getF X6 hx hZ hown (host := "") (Or.inl (hw _ (List.mem_of_getElem? (i := 17) rfl))) Via.refl rfl F_this_pages (g := (mkF m 50 #[.val (.ref this), .val (.ref pat), .val (.long (0 : Int64)), .second, .val (.int (0 : Int32)), .val (.int c0), .val (.int v7)] [(.ref this)])) rfl rfl (hb hby d4_50)
  refine Run.st st8 ?_
  show Run p e below s _ _ _ (T8.setTop (mkF m 53 #[.val (.ref this), .val (.ref pat), .val (.long (0 : Int64)), .second, .val (.int (0 : Int32)), .val (.int c0), .val (.int v7)] [(.ref b2)]))
  refine Run.x_iload (q := 55) X8 hx (hb hby d4_53) rfl rfl ?_
  obtain ⟨H0, eH0, lH0, dH0⟩ := own_hi hr0.1 hr0.2 hv7
  refine Run.ldR X8 hx hZ e8 PG.1 (i := H0) (v := .ref ((fun _ => ab : Nat → Addr) H0)) eH0 (own_refs_at lH0) rfl (hb hby d4_55) ?_
  show Run p e below s _ _ _ (T8.setTop (mkF m 56 #[.val (.ref this), .val (.ref pat), .val (.long (0 : Int64)), .second, .val (.int (0 : Int32)), .val (.int c0), .val (.int v7)] [(.ref ((fun _ => ab : Nat → Addr) H0))]))
  obtain ⟨T9, X9, e9, st9⟩ := getS2 X8 hx hZ hown (host := "") (Or.inl (hw _ (List.mem_of_getElem? (i := 19) rfl))) Via.refl e8 S_ABSENT (g := (mkF m 56 #[.val (.ref this), .val (.ref pat), .val (.long (0 : Int64)), .second, .val (.int (0 : Int32)), .val (.int c0), .val (.int v7)] [(.ref ((fun _ => ab : Nat → Addr) H0))])) rfl (hb hby d4_56)
  refine Run.st st9 ?_
  show Run p e below s _ _ _ (T9.setTop (mkF m 59 #[.val (.ref this), .val (.ref pat), .val (.long (0 : Int64)), .second, .val (.int (0 : Int32)), .val (.int c0), .val (.int v7)] [(.ref ab), (.ref ((fun _ => ab : Nat → Addr) H0))]))
  have JP0 : ∀ (T10 : State) (h10 : Heap) (lo10 : List Loc) (pg1 : Nat → Addr), Stand p l e ({ frames := 2, cells := 4, slots := 1024, locals := 29 } : Room) s m #[(.ref this), (.ref pat)] below meth c T10 lo10 2 512 → T10.heap = h10 → Fr n0 lo10 → n0 ≤ h10.size → Exa Z h10 this "needlewise/boyermoore/Rightmost" → Fld Z h10 this "needlewise/boyermoore/Rightmost" "pages" "[[I" (.ref b2) → Fld Z h10 this "needlewise/boyermoore/Rightmost" "low" "[I" .null → Fld Z h10 this "needlewise/boyermoore/Rightmost" "filter" "J" (.long (0 : Int64)) → Ars Z h10 pat .char [(.int c0), (.int c1), (.int c2)] → Sta Z h10 "needlewise/boyermoore/Rightmost" "ABSENT" "[I" (.ref ab) → Ars Z h10 ab .int (List.replicate 256 (.int (-1))) → Exa Z h10 ab "[I" → (Pgs Z h10 n0 ab b2 pg1 (fun _ => -1)) → (∀ i, i < 256 → pg1 i ≠ this) → (∀ i, i < 256 → pg1 i ≠ pat) → (pg1 H0 ≠ ab) → Run p e below s (fun v h L => ∃ (pa : Addr) (pg : Nat → Addr), v = none ∧ Fr n0 L ∧ Pgs Z h n0 ab pa pg (own_go (fun _ => -1) 0 [c0, c1, c2]) ∧ Fld Z h this "needlewise/boyermoore/Rightmost" "pages" "[[I" (.ref pa) ∧ Fld Z h this "needlewise/boyermoore/Rightmost" "low" "[I" (.ref (pg 0)) ∧ Fld Z h this "needlewise/boyermoore/Rightmost" "filter" "J" (.long (own_bt 0 [c0, c1, c2])) ∧ Exa Z h this "needlewise/boyermoore/Rightmost") ({ frames := 2, cells := 4, slots := 1024, locals := 29 } : Room).cells ({ frames := 2, cells := 4, slots := 1024, locals := 29 } : Room).slots (T10.setTop (mkF m 72 #[.val (.ref this), .val (.ref pat), .val (.long (0 : Int64)), .second, .val (.int (0 : Int32)), .val (.int c0), .val (.int v7)] [])) := by
    intro T10 h10 lo10 pg1 X10 e10 N10 Z10 E_this F_this_pages F_this_low F_this_filter A_pat S_ABSENT A_ab E_ab PG hn_this hn_pat hq
    refine Run.x_aloadN (q := 73) X10 hx (hb hby d4_72) rfl rfl rfl ?_
    obtain ⟨T11, X11, e11, st11⟩ := getF X10 hx hZ hown (host := "") (Or.inl (hw _ (List.mem_of_getElem? (i := 17) rfl))) Via.refl e10 F_this_pages (g := (mkF m 73 #[.val (.ref this), .val (.ref pat), .val (.long (0 : Int64)), .second, .val (.int (0 : Int32)), .val (.int c0), .val (.int v7)] [(.ref this)])) rfl rfl (hb hby d4_73)
    refine Run.st st11 ?_
    show Run p e below s _ _ _ (T11.setTop (mkF m 76 #[.val (.ref this), .val (.ref pat), .val (.long (0 : Int64)), .second, .val (.int (0 : Int32)), .val (.int c0), .val (.int v7)] [(.ref b2)]))
    refine Run.x_iload (q := 78) X11 hx (hb hby d4_76) rfl rfl ?_
    refine Run.ldR X11 hx hZ e11 PG.1 (i := H0) (v := .ref (pg1 H0)) eH0 (own_refs_at lH0) rfl (hb hby d4_78) ?_
    show Run p e below s _ _ _ (T11.setTop (mkF m 79 #[.val (.ref this), .val (.ref pat), .val (.long (0 : Int64)), .second, .val (.int (0 : Int32)), .val (.int c0), .val (.int v7)] [(.ref (pg1 H0))]))
    refine Run.x_iload (q := 81) X11 hx (hb hby d4_79) rfl rfl ?_
    refine Run.x_sipush (q := 84) X11 hx (hb hby d4_81) (z := (255 : Int32)) rfl rfl ?_
    refine Run.x_iand (q := 85) X11 hx (hb hby d4_84) rfl rfl ?_
    refine Run.x_iload (q := 87) X11 hx (hb hby d4_85) rfl rfl ?_
    obtain ⟨L0, eL0, lL0, dL0⟩ := own_lo c0
    have ne_this_pH0 : this ≠ pg1 H0 := Ne.symm (hn_this _ lH0)
    have ne_pat_pH0 : pat ≠ pg1 H0 := Ne.symm (hn_pat _ lH0)
    have ne_ab_pH0 : ab ≠ pg1 H0 := Ne.symm hq
    refine Run.stI X11 hx hZ e11 (PG.2.2.1 H0 lH0) (i := L0) eL0 (by rw [own_row_len]; exact lL0) (hb hby d4_87) ?_
    intro T12 h12 X12 e12 W12 A12
    have N12 := Fr.snoc X12 N10 (PG.2.2.2.2.2 H0 lH0 hq)
    have Z12 : n0 ≤ h12.size := Nat.le_trans Z10 (Nat.le_of_eq W12.size.symm)
    replace PG : Pgs Z h12 n0 ab b2 pg1 (own_upd (fun _ => -1) c0.toInt.toNat (Int32.ofNat 0)) := by rw [← own_hl hr0.1 dH0 dL0]; exact PG.set lH0 lL0 hq W12
    show Run p e below s _ _ _ (T12.setTop (mkF m 88 #[.val (.ref this), .val (.ref pat), .val (.long (0 : Int64)), .second, .val (.int (0 : Int32)), .val (.int c0), .val (.int v7)] []))
    refine Run.x_iload (q := 90) X12 hx (hb hby d4_88) rfl rfl ?_
    have JB0 : ∀ bt0 : Int64, bt0 = (if c0.toInt < 256 then (0 : Int64) else ((0 : Int64) ||| ((1 : Int64) <<< (c0 &&& 0x3f).toInt64))) → Run p e below s (fun v h L => ∃ (pa : Addr) (pg : Nat → Addr), v = none ∧ Fr n0 L ∧ Pgs Z h n0 ab pa pg (own_go (fun _ => -1) 0 [c0, c1, c2]) ∧ Fld Z h this "needlewise/boyermoore/Rightmost" "pages" "[[I" (.ref pa) ∧ Fld Z h this "needlewise/boyermoore/Rightmost" "low" "[I" (.ref (pg 0)) ∧ Fld Z h this "needlewise/boyermoore/Rightmost" "filter" "J" (.long (own_bt 0 [c0, c1, c2])) ∧ Exa Z h this "needlewise/boyermoore/Rightmost") ({ frames := 2, cells := 4, slots := 1024, locals := 29 } : Room).cells ({ frames := 2, cells := 4, slots := 1024, locals := 29 } : Room).slots (T12.setTop (mkF m 100 #[.val (.ref this), .val (.ref pat), .val (.long bt0), .second, .val (.int (0 : Int32)), .val (.int c0), .val (.int v7)] [])) := by
      intro bt0 hbt0
      refine Run.x_iinc (q := 103) X12 hx #[.val (.ref this), .val (.ref pat), .val (.long bt0), .second, .val (.int (1 : Int32)), .val (.int c0), .val (.int v7)] (hb hby d4_100) rfl (z := (1 : Int32)) (by decide) rfl rfl ?_
      refine Run.x_goto (q := 29) X12 hx (hb hby d4_103) (by decide) (by decide) ?_
      refine Run.x_iload (q := 31) X12 hx (hb hby d4_29) rfl rfl ?_
      refine Run.x_aloadN (q := 32) X12 hx (hb hby d4_31) rfl rfl rfl ?_
      replace A_pat := A_pat.other W12 ne_pat_pH0
      refine Run.alen X12 hx hZ e12 A_pat (z := (3 : Int32)) rfl (hb hby d4_32) ?_
      show Run p e below s _ _ _ (T12.setTop (mkF m 33 #[.val (.ref this), .val (.ref pat), .val (.long bt0), .second, .val (.int (1 : Int32)), .val (.int c0), .val (.int v7)] [(.int (3 : Int32)), (.int (1 : Int32))]))
      refine Run.x_icmpNo (q := 36) X12 hx (hb hby d4_33) (tlt (by decide : (1 : Int32) < (3 : Int32))).2.1 rfl ?_
      refine Run.x_aloadN (q := 37) X12 hx (hb hby d4_36) rfl rfl rfl ?_
      refine Run.x_iload (q := 39) X12 hx (hb hby d4_37) rfl rfl ?_
      refine Run.ldC X12 hx hZ e12 A_pat (i := 1) (v := (.int c1)) (by decide) rfl (hb hby d4_39) ?_
      show Run p e below s _ _ _ (T12.setTop (mkF m 40 #[.val (.ref this), .val (.ref pat), .val (.long bt0), .second, .val (.int (1 : Int32)), .val (.int c0), .val (.int v7)] [(.int c1)]))
      refine Run.x_istore (q := 42) X12 hx #[.val (.ref this), .val (.ref pat), .val (.long bt0), .second, .val (.int (1 : Int32)), .val (.int c1), .val (.int v7)] (hb hby d4_40) rfl rfl ?_
      refine Run.x_iload (q := 44) X12 hx (hb hby d4_42) rfl rfl ?_
      refine Run.x_bipush (q := 46) X12 hx (hb hby d4_44) (z := (8 : Int32)) rfl rfl ?_
      refine Run.x_iushr (q := 47) X12 hx (hb hby d4_46) rfl rfl ?_
      refine Run.x_istore (q := 49) X12 hx #[.val (.ref this), .val (.ref pat), .val (.long bt0), .second, .val (.int (1 : Int32)), .val (.int c1), .val (.int ((c1.toUInt32 >>> ((8 : Int32) &&& 31).toUInt32).toInt32))] (hb hby d4_47) rfl rfl ?_
      generalize hv13 : ((c1.toUInt32 >>> ((8 : Int32) &&& 31).toUInt32).toInt32) = v13
      refine Run.x_aloadN (q := 50) X12 hx (hb hby d4_49) rfl rfl rfl ?_
      replace F_this_pages := F_this_pages.other W12 (Or.inl ne_this_pH0)
      obtain ⟨T14, X14, e14, st14⟩ := getF X12 hx hZ hown (host := "") (Or.inl (hw _ (List.mem_of_getElem? (i := 17) rfl))) Via.refl e12 F_this_pages (g := (mkF m 50 #[.val (.ref this), .val (.ref pat), .val (.long bt0), .second, .val (.int (1 : Int32)), .val (.int c1), .val (.int v13)] [(.ref this)])) rfl rfl (hb hby d4_50)
      refine Run.st st14 ?_
      show Run p e below s _ _ _ (T14.setTop (mkF m 53 #[.val (.ref this), .val (.ref pat), .val (.long bt0), .second, .val (.int (1 : Int32)), .val (.int c1), .val (.int v13)] [(.ref b2)]))
      refine Run.x_iload (q := 55) X14 hx (hb hby d4_53) rfl rfl ?_
      obtain ⟨H1, eH1, lH1, dH1⟩ := own_hi hr1.1 hr1.2 hv13
      refine Run.ldR X14 hx hZ e14 PG.1 (i := H1) (v := .ref (pg1 H1)) eH1 (own_refs_at lH1) rfl (hb hby d4_55) ?_
      show Run p e below s _ _ _ (T14.setTop (mkF m 56 #[.val (.ref this), .val (.ref pat), .val (.long bt0), .second, .val (.int (1 : Int32)), .val (.int c1), .val (.int v13)] [(.ref (pg1 H1))]))
      replace S_ABSENT := S_ABSENT.wr W12
      obtain ⟨T15, X15, e15, st15⟩ := getS2 X14 hx hZ hown (host := "") (Or.inl (hw _ (List.mem_of_getElem? (i := 19) rfl))) Via.refl e14 S_ABSENT (g := (mkF m 56 #[.val (.ref this), .val (.ref pat), .val (.long bt0), .second, .val (.int (1 : Int32)), .val (.int c1), .val (.int v13)] [(.ref (pg1 H1))])) rfl (hb hby d4_56)
      refine Run.st st15 ?_
      show Run p e below s _ _ _ (T15.setTop (mkF m 59 #[.val (.ref this), .val (.ref pat), .val (.long bt0), .second, .val (.int (1 : Int32)), .val (.int c1), .val (.int v13)] [(.ref ab), (.ref (pg1 H1))]))
      have JP1 : ∀ (T16 : State) (h16 : Heap) (lo16 : List Loc) (pg2 : Nat → Addr), Stand p l e ({ frames := 2, cells := 4, slots := 1024, locals := 29 } : Room) s m #[(.ref this), (.ref pat)] below meth c T16 lo16 3 768 → T16.heap = h16 → Fr n0 lo16 → n0 ≤ h16.size → Exa Z h16 this "needlewise/boyermoore/Rightmost" → Fld Z h16 this "needlewise/boyermoore/Rightmost" "pages" "[[I" (.ref b2) → Fld Z h16 this "needlewise/boyermoore/Rightmost" "low" "[I" .null → Fld Z h16 this "needlewise/boyermoore/Rightmost" "filter" "J" (.long (0 : Int64)) → Ars Z h16 pat .char [(.int c0), (.int c1), (.int c2)] → Sta Z h16 "needlewise/boyermoore/Rightmost" "ABSENT" "[I" (.ref ab) → Ars Z h16 ab .int (List.replicate 256 (.int (-1))) → Exa Z h16 ab "[I" → (Pgs Z h16 n0 ab b2 pg2 (own_upd (fun _ => -1) c0.toInt.toNat (Int32.ofNat 0))) → (∀ i, i < 256 → pg2 i ≠ this) → (∀ i, i < 256 → pg2 i ≠ pat) → (pg2 H1 ≠ ab) → Run p e below s (fun v h L => ∃ (pa : Addr) (pg : Nat → Addr), v = none ∧ Fr n0 L ∧ Pgs Z h n0 ab pa pg (own_go (fun _ => -1) 0 [c0, c1, c2]) ∧ Fld Z h this "needlewise/boyermoore/Rightmost" "pages" "[[I" (.ref pa) ∧ Fld Z h this "needlewise/boyermoore/Rightmost" "low" "[I" (.ref (pg 0)) ∧ Fld Z h this "needlewise/boyermoore/Rightmost" "filter" "J" (.long (own_bt 0 [c0, c1, c2])) ∧ Exa Z h this "needlewise/boyermoore/Rightmost") ({ frames := 2, cells := 4, slots := 1024, locals := 29 } : Room).cells ({ frames := 2, cells := 4, slots := 1024, locals := 29 } : Room).slots (T16.setTop (mkF m 72 #[.val (.ref this), .val (.ref pat), .val (.long bt0), .second, .val (.int (1 : Int32)), .val (.int c1), .val (.int v13)] [])) := by
        intro T16 h16 lo16 pg2 X16 e16 N16 Z16 E_this F_this_pages F_this_low F_this_filter A_pat S_ABSENT A_ab E_ab PG hn_this hn_pat hq
        refine Run.x_aloadN (q := 73) X16 hx (hb hby d4_72) rfl rfl rfl ?_
        obtain ⟨T17, X17, e17, st17⟩ := getF X16 hx hZ hown (host := "") (Or.inl (hw _ (List.mem_of_getElem? (i := 17) rfl))) Via.refl e16 F_this_pages (g := (mkF m 73 #[.val (.ref this), .val (.ref pat), .val (.long bt0), .second, .val (.int (1 : Int32)), .val (.int c1), .val (.int v13)] [(.ref this)])) rfl rfl (hb hby d4_73)
        refine Run.st st17 ?_
        show Run p e below s _ _ _ (T17.setTop (mkF m 76 #[.val (.ref this), .val (.ref pat), .val (.long bt0), .second, .val (.int (1 : Int32)), .val (.int c1), .val (.int v13)] [(.ref b2)]))
        refine Run.x_iload (q := 78) X17 hx (hb hby d4_76) rfl rfl ?_
        refine Run.ldR X17 hx hZ e17 PG.1 (i := H1) (v := .ref (pg2 H1)) eH1 (own_refs_at lH1) rfl (hb hby d4_78) ?_
        show Run p e below s _ _ _ (T17.setTop (mkF m 79 #[.val (.ref this), .val (.ref pat), .val (.long bt0), .second, .val (.int (1 : Int32)), .val (.int c1), .val (.int v13)] [(.ref (pg2 H1))]))
        refine Run.x_iload (q := 81) X17 hx (hb hby d4_79) rfl rfl ?_
        refine Run.x_sipush (q := 84) X17 hx (hb hby d4_81) (z := (255 : Int32)) rfl rfl ?_
        refine Run.x_iand (q := 85) X17 hx (hb hby d4_84) rfl rfl ?_
        refine Run.x_iload (q := 87) X17 hx (hb hby d4_85) rfl rfl ?_
        obtain ⟨L1, eL1, lL1, dL1⟩ := own_lo c1
        have ne_this_pH1 : this ≠ pg2 H1 := Ne.symm (hn_this _ lH1)
        have ne_pat_pH1 : pat ≠ pg2 H1 := Ne.symm (hn_pat _ lH1)
        have ne_ab_pH1 : ab ≠ pg2 H1 := Ne.symm hq
        refine Run.stI X17 hx hZ e17 (PG.2.2.1 H1 lH1) (i := L1) eL1 (by rw [own_row_len]; exact lL1) (hb hby d4_87) ?_
        intro T18 h18 X18 e18 W18 A18
        have N18 := Fr.snoc X18 N16 (PG.2.2.2.2.2 H1 lH1 hq)
        have Z18 : n0 ≤ h18.size := Nat.le_trans Z16 (Nat.le_of_eq W18.size.symm)
        replace PG : Pgs Z h18 n0 ab b2 pg2 (own_upd (own_upd (fun _ => -1) c0.toInt.toNat (Int32.ofNat 0)) c1.toInt.toNat (Int32.ofNat 1)) := by rw [← own_hl hr1.1 dH1 dL1]; exact PG.set lH1 lL1 hq W18
        show Run p e below s _ _ _ (T18.setTop (mkF m 88 #[.val (.ref this), .val (.ref pat), .val (.long bt0), .second, .val (.int (1 : Int32)), .val (.int c1), .val (.int v13)] []))
        refine Run.x_iload (q := 90) X18 hx (hb hby d4_88) rfl rfl ?_
        have JB1 : ∀ bt1 : Int64, bt1 = (if c1.toInt < 256 then bt0 else (bt0 ||| ((1 : Int64) <<< (c1 &&& 0x3f).toInt64))) → Run p e below s (fun v h L => ∃ (pa : Addr) (pg : Nat → Addr), v = none ∧ Fr n0 L ∧ Pgs Z h n0 ab pa pg (own_go (fun _ => -1) 0 [c0, c1, c2]) ∧ Fld Z h this "needlewise/boyermoore/Rightmost" "pages" "[[I" (.ref pa) ∧ Fld Z h this "needlewise/boyermoore/Rightmost" "low" "[I" (.ref (pg 0)) ∧ Fld Z h this "needlewise/boyermoore/Rightmost" "filter" "J" (.long (own_bt 0 [c0, c1, c2])) ∧ Exa Z h this "needlewise/boyermoore/Rightmost") ({ frames := 2, cells := 4, slots := 1024, locals := 29 } : Room).cells ({ frames := 2, cells := 4, slots := 1024, locals := 29 } : Room).slots (T18.setTop (mkF m 100 #[.val (.ref this), .val (.ref pat), .val (.long bt1), .second, .val (.int (1 : Int32)), .val (.int c1), .val (.int v13)] [])) := by
          intro bt1 hbt1
          refine Run.x_iinc (q := 103) X18 hx #[.val (.ref this), .val (.ref pat), .val (.long bt1), .second, .val (.int (2 : Int32)), .val (.int c1), .val (.int v13)] (hb hby d4_100) rfl (z := (2 : Int32)) (by decide) rfl rfl ?_
          refine Run.x_goto (q := 29) X18 hx (hb hby d4_103) (by decide) (by decide) ?_
          refine Run.x_iload (q := 31) X18 hx (hb hby d4_29) rfl rfl ?_
          refine Run.x_aloadN (q := 32) X18 hx (hb hby d4_31) rfl rfl rfl ?_
          replace A_pat := A_pat.other W18 ne_pat_pH1
          refine Run.alen X18 hx hZ e18 A_pat (z := (3 : Int32)) rfl (hb hby d4_32) ?_
          show Run p e below s _ _ _ (T18.setTop (mkF m 33 #[.val (.ref this), .val (.ref pat), .val (.long bt1), .second, .val (.int (2 : Int32)), .val (.int c1), .val (.int v13)] [(.int (3 : Int32)), (.int (2 : Int32))]))
          refine Run.x_icmpNo (q := 36) X18 hx (hb hby d4_33) (tlt (by decide : (2 : Int32) < (3 : Int32))).2.1 rfl ?_
          refine Run.x_aloadN (q := 37) X18 hx (hb hby d4_36) rfl rfl rfl ?_
          refine Run.x_iload (q := 39) X18 hx (hb hby d4_37) rfl rfl ?_
          refine Run.ldC X18 hx hZ e18 A_pat (i := 2) (v := (.int c2)) (by decide) rfl (hb hby d4_39) ?_
          show Run p e below s _ _ _ (T18.setTop (mkF m 40 #[.val (.ref this), .val (.ref pat), .val (.long bt1), .second, .val (.int (2 : Int32)), .val (.int c1), .val (.int v13)] [(.int c2)]))
          refine Run.x_istore (q := 42) X18 hx #[.val (.ref this), .val (.ref pat), .val (.long bt1), .second, .val (.int (2 : Int32)), .val (.int c2), .val (.int v13)] (hb hby d4_40) rfl rfl ?_
          refine Run.x_iload (q := 44) X18 hx (hb hby d4_42) rfl rfl ?_
          refine Run.x_bipush (q := 46) X18 hx (hb hby d4_44) (z := (8 : Int32)) rfl rfl ?_
          refine Run.x_iushr (q := 47) X18 hx (hb hby d4_46) rfl rfl ?_
          refine Run.x_istore (q := 49) X18 hx #[.val (.ref this), .val (.ref pat), .val (.long bt1), .second, .val (.int (2 : Int32)), .val (.int c2), .val (.int ((c2.toUInt32 >>> ((8 : Int32) &&& 31).toUInt32).toInt32))] (hb hby d4_47) rfl rfl ?_
          generalize hv19 : ((c2.toUInt32 >>> ((8 : Int32) &&& 31).toUInt32).toInt32) = v19
          refine Run.x_aloadN (q := 50) X18 hx (hb hby d4_49) rfl rfl rfl ?_
          replace F_this_pages := F_this_pages.other W18 (Or.inl ne_this_pH1)
          obtain ⟨T20, X20, e20, st20⟩ := getF X18 hx hZ hown (host := "") (Or.inl (hw _ (List.mem_of_getElem? (i := 17) rfl))) Via.refl e18 F_this_pages (g := (mkF m 50 #[.val (.ref this), .val (.ref pat), .val (.long bt1), .second, .val (.int (2 : Int32)), .val (.int c2), .val (.int v19)] [(.ref this)])) rfl rfl (hb hby d4_50)
          refine Run.st st20 ?_
          show Run p e below s _ _ _ (T20.setTop (mkF m 53 #[.val (.ref this), .val (.ref pat), .val (.long bt1), .second, .val (.int (2 : Int32)), .val (.int c2), .val (.int v19)] [(.ref b2)]))
          refine Run.x_iload (q := 55) X20 hx (hb hby d4_53) rfl rfl ?_
          obtain ⟨H2, eH2, lH2, dH2⟩ := own_hi hr2.1 hr2.2 hv19
          refine Run.ldR X20 hx hZ e20 PG.1 (i := H2) (v := .ref (pg2 H2)) eH2 (own_refs_at lH2) rfl (hb hby d4_55) ?_
          show Run p e below s _ _ _ (T20.setTop (mkF m 56 #[.val (.ref this), .val (.ref pat), .val (.long bt1), .second, .val (.int (2 : Int32)), .val (.int c2), .val (.int v19)] [(.ref (pg2 H2))]))
          replace S_ABSENT := S_ABSENT.wr W18
          obtain ⟨T21, X21, e21, st21⟩ := getS2 X20 hx hZ hown (host := "") (Or.inl (hw _ (List.mem_of_getElem? (i := 19) rfl))) Via.refl e20 S_ABSENT (g := (mkF m 56 #[.val (.ref this), .val (.ref pat), .val (.long bt1), .second, .val (.int (2 : Int32)), .val (.int c2), .val (.int v19)] [(.ref (pg2 H2))])) rfl (hb hby d4_56)
          refine Run.st st21 ?_
          show Run p e below s _ _ _ (T21.setTop (mkF m 59 #[.val (.ref this), .val (.ref pat), .val (.long bt1), .second, .val (.int (2 : Int32)), .val (.int c2), .val (.int v19)] [(.ref ab), (.ref (pg2 H2))]))
          have JP2 : ∀ (T22 : State) (h22 : Heap) (lo22 : List Loc) (pg3 : Nat → Addr), Stand p l e ({ frames := 2, cells := 4, slots := 1024, locals := 29 } : Room) s m #[(.ref this), (.ref pat)] below meth c T22 lo22 4 1024 → T22.heap = h22 → Fr n0 lo22 → n0 ≤ h22.size → Exa Z h22 this "needlewise/boyermoore/Rightmost" → Fld Z h22 this "needlewise/boyermoore/Rightmost" "pages" "[[I" (.ref b2) → Fld Z h22 this "needlewise/boyermoore/Rightmost" "low" "[I" .null → Fld Z h22 this "needlewise/boyermoore/Rightmost" "filter" "J" (.long (0 : Int64)) → Ars Z h22 pat .char [(.int c0), (.int c1), (.int c2)] → Sta Z h22 "needlewise/boyermoore/Rightmost" "ABSENT" "[I" (.ref ab) → Ars Z h22 ab .int (List.replicate 256 (.int (-1))) → Exa Z h22 ab "[I" → (Pgs Z h22 n0 ab b2 pg3 (own_upd (own_upd (fun _ => -1) c0.toInt.toNat (Int32.ofNat 0)) c1.toInt.toNat (Int32.ofNat 1))) → (∀ i, i < 256 → pg3 i ≠ this) → (∀ i, i < 256 → pg3 i ≠ pat) → (pg3 H2 ≠ ab) → Run p e below s (fun v h L => ∃ (pa : Addr) (pg : Nat → Addr), v = none ∧ Fr n0 L ∧ Pgs Z h n0 ab pa pg (own_go (fun _ => -1) 0 [c0, c1, c2]) ∧ Fld Z h this "needlewise/boyermoore/Rightmost" "pages" "[[I" (.ref pa) ∧ Fld Z h this "needlewise/boyermoore/Rightmost" "low" "[I" (.ref (pg 0)) ∧ Fld Z h this "needlewise/boyermoore/Rightmost" "filter" "J" (.long (own_bt 0 [c0, c1, c2])) ∧ Exa Z h this "needlewise/boyermoore/Rightmost") ({ frames := 2, cells := 4, slots := 1024, locals := 29 } : Room).cells ({ frames := 2, cells := 4, slots := 1024, locals := 29 } : Room).slots (T22.setTop (mkF m 72 #[.val (.ref this), .val (.ref pat), .val (.long bt1), .second, .val (.int (2 : Int32)), .val (.int c2), .val (.int v19)] [])) := by
            intro T22 h22 lo22 pg3 X22 e22 N22 Z22 E_this F_this_pages F_this_low F_this_filter A_pat S_ABSENT A_ab E_ab PG hn_this hn_pat hq
            refine Run.x_aloadN (q := 73) X22 hx (hb hby d4_72) rfl rfl rfl ?_
            obtain ⟨T23, X23, e23, st23⟩ := getF X22 hx hZ hown (host := "") (Or.inl (hw _ (List.mem_of_getElem? (i := 17) rfl))) Via.refl e22 F_this_pages (g := (mkF m 73 #[.val (.ref this), .val (.ref pat), .val (.long bt1), .second, .val (.int (2 : Int32)), .val (.int c2), .val (.int v19)] [(.ref this)])) rfl rfl (hb hby d4_73)
            refine Run.st st23 ?_
            show Run p e below s _ _ _ (T23.setTop (mkF m 76 #[.val (.ref this), .val (.ref pat), .val (.long bt1), .second, .val (.int (2 : Int32)), .val (.int c2), .val (.int v19)] [(.ref b2)]))
            refine Run.x_iload (q := 78) X23 hx (hb hby d4_76) rfl rfl ?_
            refine Run.ldR X23 hx hZ e23 PG.1 (i := H2) (v := .ref (pg3 H2)) eH2 (own_refs_at lH2) rfl (hb hby d4_78) ?_
            show Run p e below s _ _ _ (T23.setTop (mkF m 79 #[.val (.ref this), .val (.ref pat), .val (.long bt1), .second, .val (.int (2 : Int32)), .val (.int c2), .val (.int v19)] [(.ref (pg3 H2))]))
            refine Run.x_iload (q := 81) X23 hx (hb hby d4_79) rfl rfl ?_
            refine Run.x_sipush (q := 84) X23 hx (hb hby d4_81) (z := (255 : Int32)) rfl rfl ?_
            refine Run.x_iand (q := 85) X23 hx (hb hby d4_84) rfl rfl ?_
            refine Run.x_iload (q := 87) X23 hx (hb hby d4_85) rfl rfl ?_
            obtain ⟨L2, eL2, lL2, dL2⟩ := own_lo c2
            have ne_this_pH2 : this ≠ pg3 H2 := Ne.symm (hn_this _ lH2)
            have ne_pat_pH2 : pat ≠ pg3 H2 := Ne.symm (hn_pat _ lH2)
            have ne_ab_pH2 : ab ≠ pg3 H2 := Ne.symm hq
            refine Run.stI X23 hx hZ e23 (PG.2.2.1 H2 lH2) (i := L2) eL2 (by rw [own_row_len]; exact lL2) (hb hby d4_87) ?_
            intro T24 h24 X24 e24 W24 A24
            have N24 := Fr.snoc X24 N22 (PG.2.2.2.2.2 H2 lH2 hq)
            have Z24 : n0 ≤ h24.size := Nat.le_trans Z22 (Nat.le_of_eq W24.size.symm)
            replace PG : Pgs Z h24 n0 ab b2 pg3 (own_upd (own_upd (own_upd (fun _ => -1) c0.toInt.toNat (Int32.ofNat 0)) c1.toInt.toNat (Int32.ofNat 1)) c2.toInt.toNat (Int32.ofNat 2)) := by rw [← own_hl hr2.1 dH2 dL2]; exact PG.set lH2 lL2 hq W24
            show Run p e below s _ _ _ (T24.setTop (mkF m 88 #[.val (.ref this), .val (.ref pat), .val (.long bt1), .second, .val (.int (2 : Int32)), .val (.int c2), .val (.int v19)] []))
            refine Run.x_iload (q := 90) X24 hx (hb hby d4_88) rfl rfl ?_
            have JB2 : ∀ bt2 : Int64, bt2 = (if c2.toInt < 256 then bt1 else (bt1 ||| ((1 : Int64) <<< (c2 &&& 0x3f).toInt64))) → Run p e below s (fun v h L => ∃ (pa : Addr) (pg : Nat → Addr), v = none ∧ Fr n0 L ∧ Pgs Z h n0 ab pa pg (own_go (fun _ => -1) 0 [c0, c1, c2]) ∧ Fld Z h this "needlewise/boyermoore/Rightmost" "pages" "[[I" (.ref pa) ∧ Fld Z h this "needlewise/boyermoore/Rightmost" "low" "[I" (.ref (pg 0)) ∧ Fld Z h this "needlewise/boyermoore/Rightmost" "filter" "J" (.long (own_bt 0 [c0, c1, c2])) ∧ Exa Z h this "needlewise/boyermoore/Rightmost") ({ frames := 2, cells := 4, slots := 1024, locals := 29 } : Room).cells ({ frames := 2, cells := 4, slots := 1024, locals := 29 } : Room).slots (T24.setTop (mkF m 100 #[.val (.ref this), .val (.ref pat), .val (.long bt2), .second, .val (.int (2 : Int32)), .val (.int c2), .val (.int v19)] [])) := by
              intro bt2 hbt2
              refine Run.x_iinc (q := 103) X24 hx #[.val (.ref this), .val (.ref pat), .val (.long bt2), .second, .val (.int (3 : Int32)), .val (.int c2), .val (.int v19)] (hb hby d4_100) rfl (z := (3 : Int32)) (by decide) rfl rfl ?_
              refine Run.x_goto (q := 29) X24 hx (hb hby d4_103) (by decide) (by decide) ?_
              refine Run.x_iload (q := 31) X24 hx (hb hby d4_29) rfl rfl ?_
              refine Run.x_aloadN (q := 32) X24 hx (hb hby d4_31) rfl rfl rfl ?_
              replace A_pat := A_pat.other W24 ne_pat_pH2
              refine Run.alen X24 hx hZ e24 A_pat (z := (3 : Int32)) rfl (hb hby d4_32) ?_
              show Run p e below s _ _ _ (T24.setTop (mkF m 33 #[.val (.ref this), .val (.ref pat), .val (.long bt2), .second, .val (.int (3 : Int32)), .val (.int c2), .val (.int v19)] [(.int (3 : Int32)), (.int (3 : Int32))]))
              refine Run.x_icmpYes (q := 106) X24 hx (hb hby d4_33) (flt (by decide : ¬ ((3 : Int32) < (3 : Int32)))).2.1 (by decide) (by decide) ?_
              refine Run.x_aloadN (q := 107) X24 hx (hb hby d4_106) rfl rfl rfl ?_
              refine Run.x_aloadN (q := 108) X24 hx (hb hby d4_107) rfl rfl rfl ?_
              replace F_this_pages := F_this_pages.other W24 (Or.inl ne_this_pH2)
              obtain ⟨T25, X25, e25, st25⟩ := getF X24 hx hZ hown (host := "") (Or.inl (hw _ (List.mem_of_getElem? (i := 17) rfl))) Via.refl e24 F_this_pages (g := (mkF m 108 #[.val (.ref this), .val (.ref pat), .val (.long bt2), .second, .val (.int (3 : Int32)), .val (.int c2), .val (.int v19)] [(.ref this), (.ref this)])) rfl rfl (hb hby d4_108)
              refine Run.st st25 ?_
              show Run p e below s _ _ _ (T25.setTop (mkF m 111 #[.val (.ref this), .val (.ref pat), .val (.long bt2), .second, .val (.int (3 : Int32)), .val (.int c2), .val (.int v19)] [(.ref b2), (.ref this)]))
              refine Run.x_iconst (q := 112) X25 hx (hb hby d4_111) (z := (0 : Int32)) rfl rfl ?_
              refine Run.ldR X25 hx hZ e25 PG.1 (i := 0) (v := .ref (pg3 0)) (by decide) (own_refs_at (by decide)) rfl (hb hby d4_112) ?_
              show Run p e below s _ _ _ (T25.setTop (mkF m 113 #[.val (.ref this), .val (.ref pat), .val (.long bt2), .second, .val (.int (3 : Int32)), .val (.int c2), .val (.int v19)] [(.ref (pg3 0)), (.ref this)]))
              replace F_this_low := F_this_low.other W24 (Or.inl ne_this_pH2)
              replace E_this := E_this.wr W24
              obtain ⟨T26, h26, X26, e26, W26, st26⟩ := putF X25 hx hZ hown (host := "") (Or.inl (hw _ (List.mem_of_getElem? (i := 33) rfl))) Via.refl e25 F_this_low E_this (Or.inr ⟨(hw _ (List.mem_of_getElem? (i := 34) rfl)), rfl, hnm⟩) (hw _ (List.mem_of_getElem? (i := 7) rfl)) (ty := (.array .int)) (by decide) rfl rfl (g := (mkF m 113 #[.val (.ref this), .val (.ref pat), .val (.long bt2), .second, .val (.int (3 : Int32)), .val (.int c2), .val (.int v19)] [(.ref (pg3 0)), (.ref this)])) rfl rfl (hb hby d4_113)
              replace F_this_low := F_this_low.same W26
              have Z26 : n0 ≤ h26.size := Nat.le_trans Z24 (Nat.le_of_eq W26.size.symm)
              have N26 := Fr.snoc X26 N24 g_this
              refine Run.st st26 ?_
              show Run p e below s _ _ _ (T26.setTop (mkF m 116 #[.val (.ref this), .val (.ref pat), .val (.long bt2), .second, .val (.int (3 : Int32)), .val (.int c2), .val (.int v19)] []))
              replace PG := PG.wrO W26 (Ne.symm ne_this_b2) hn_this
              refine Run.x_aloadN (q := 117) X26 hx (hb hby d4_116) rfl rfl rfl ?_
              refine Run.x_lloadN (q := 118) X26 hx (hb hby d4_117) rfl rfl ?_
              replace F_this_filter := (F_this_filter.other W24 (Or.inl ne_this_pH2)).other W26 (Or.inr (slot_ne (Or.inr (hw _ (List.mem_of_getElem? (i := 36) rfl))) (Or.inr (hw _ (List.mem_of_getElem? (i := 34) rfl))) (by decide) (t := .long) (t' := (.array .int)) (by decide) (by decide)))
              replace E_this := E_this.wr W26
              obtain ⟨T27, h27, X27, e27, W27, st27⟩ := putF X26 hx hZ hown (host := "") (Or.inl (hw _ (List.mem_of_getElem? (i := 35) rfl))) Via.refl e26 F_this_filter E_this (Or.inr ⟨(hw _ (List.mem_of_getElem? (i := 36) rfl)), rfl, hnm⟩) (hw _ (List.mem_of_getElem? (i := 7) rfl)) (ty := .long) (by decide) rfl rfl (g := (mkF m 118 #[.val (.ref this), .val (.ref pat), .val (.long bt2), .second, .val (.int (3 : Int32)), .val (.int c2), .val (.int v19)] [(.long bt2), (.ref this)])) rfl rfl (hb hby d4_118)
              replace F_this_filter := F_this_filter.same W27
              have Z27 : n0 ≤ h27.size := Nat.le_trans Z26 (Nat.le_of_eq W27.size.symm)
              have N27 := Fr.snoc X27 N26 g_this
              refine Run.st st27 ?_
              show Run p e below s _ _ _ (T27.setTop (mkF m 121 #[.val (.ref this), .val (.ref pat), .val (.long bt2), .second, .val (.int (3 : Int32)), .val (.int c2), .val (.int v19)] []))
              replace PG := PG.wrO W27 (Ne.symm ne_this_b2) hn_this
              replace E_this := E_this.wr W27
              replace F_this_pages := (F_this_pages.other W26 (Or.inr (slot_ne (Or.inr (hw _ (List.mem_of_getElem? (i := 18) rfl))) (Or.inr (hw _ (List.mem_of_getElem? (i := 34) rfl))) (by decide) (t := (.array (.array .int))) (t' := (.array .int)) (by decide) (by decide)))).other W27 (Or.inr (slot_ne (Or.inr (hw _ (List.mem_of_getElem? (i := 18) rfl))) (Or.inr (hw _ (List.mem_of_getElem? (i := 36) rfl))) (by decide) (t := (.array (.array .int))) (t' := .long) (by decide) (by decide)))
              replace F_this_low := F_this_low.other W27 (Or.inr (slot_ne (Or.inr (hw _ (List.mem_of_getElem? (i := 34) rfl))) (Or.inr (hw _ (List.mem_of_getElem? (i := 36) rfl))) (by decide) (t := (.array .int)) (t' := .long) (by decide) (by decide)))
              replace A_pat := (A_pat.other W26 (Ne.symm ne_this_pat)).other W27 (Ne.symm ne_this_pat)
              replace S_ABSENT := ((S_ABSENT.wr W24).wr W26).wr W27
              replace A_ab := ((A_ab.other W24 ne_ab_pH2).other W26 (Ne.symm ne_this_ab)).other W27 (Ne.symm ne_this_ab)
              replace E_ab := ((E_ab.wr W24).wr W26).wr W27
              refine Run.retV X27 hx hlk e27 hret (hb hby d4_121) (by decide) (by decide) ?_
              subst hbt2
              subst hbt1
              subst hbt0
              exact ⟨b2, pg3, rfl, N27, PG, F_this_pages, F_this_low, F_this_filter, E_this⟩
            by_cases hc90 : (0 : Int32) < v19
            · skip
              refine Run.x_ifNo (q := 93) X24 hx (hb hby d4_90) ((if0 _ _).trans (tlt hc90).2.2.2) rfl ?_
              refine Run.x_lloadN (q := 94) X24 hx (hb hby d4_93) rfl rfl ?_
              refine Run.x_lconst (q := 95) X24 hx (hb hby d4_94) (z := (1 : Int64)) rfl rfl ?_
              refine Run.x_iload (q := 97) X24 hx (hb hby d4_95) rfl rfl ?_
              refine Run.x_lshl (q := 98) X24 hx (hb hby d4_97) rfl rfl ?_
              refine Run.x_lor (q := 99) X24 hx (hb hby d4_98) rfl rfl ?_
              refine Run.x_lstoreN (q := 100) X24 hx #[.val (.ref this), .val (.ref pat), .val (.long (bt1 ||| ((1 : Int64) <<< (c2 &&& 0x3f).toInt64))), .second, .val (.int (2 : Int32)), .val (.int c2), .val (.int v19)] (hb hby d4_99) rfl rfl ?_
              exact JB2 _ (if_neg (own_h1 eH2 dH2 hc90)).symm
            · skip
              refine Run.x_ifYes (q := 100) X24 hx (hb hby d4_90) ((if0 _ _).trans (flt hc90).2.2.2) (by decide) (by decide) ?_
              exact JB2 _ (if_pos (own_h0 eH2 dH2 hc90)).symm
          by_cases hq : pg2 H2 = ab
          · skip
            refine Run.st (B := T21.setTop (mkF m 62 #[.val (.ref this), .val (.ref pat), .val (.long bt1), .second, .val (.int (2 : Int32)), .val (.int c2), .val (.int v19)] [])) (fun t kt => Jvm.RoadKit.acmp (g := (mkF m 59 #[.val (.ref this), .val (.ref pat), .val (.long bt1), .second, .val (.int (2 : Int32)), .val (.int c2), .val (.int v19)] [(.ref ab), (.ref (pg2 H2))])) X21 hx rfl rfl rfl (pc0 := 59) (pc' := 62) (same := true) rfl (hb hby d4_59) rfl (decide_eq_true (congrArg Value.ref hq)) (by decide) (by decide) kt) ?_
            refine Run.x_aloadN (q := 63) X21 hx (hb hby d4_62) rfl rfl rfl ?_
            obtain ⟨T28, X28, e28, st28⟩ := getF X21 hx hZ hown (host := "") (Or.inl (hw _ (List.mem_of_getElem? (i := 17) rfl))) Via.refl e21 F_this_pages (g := (mkF m 63 #[.val (.ref this), .val (.ref pat), .val (.long bt1), .second, .val (.int (2 : Int32)), .val (.int c2), .val (.int v19)] [(.ref this)])) rfl rfl (hb hby d4_63)
            refine Run.st st28 ?_
            show Run p e below s _ _ _ (T28.setTop (mkF m 66 #[.val (.ref this), .val (.ref pat), .val (.long bt1), .second, .val (.int (2 : Int32)), .val (.int c2), .val (.int v19)] [(.ref b2)]))
            refine Run.x_iload (q := 68) X28 hx (hb hby d4_66) rfl rfl ?_
            refine Run.callS X28 hx hZ e28 (y := (⟨"needlewise/boyermoore/Rightmost", "newPage", "()[I"⟩ : MethodName)) hown (hw _ (List.mem_of_getElem? (i := 26) rfl)) (hw _ (List.mem_of_getElem? (i := 27) rfl)) (hw _ (List.mem_of_getElem? (i := 8) rfl)) (hw _ (List.mem_of_getElem? (i := 28) rfl)) (by decide) (argsL := []) (rest := [(.int v19), (.ref b2)]) (c_page l Z a0 hw h18 n0 Z18) pd_2 rfl (by rw [hml]; rfl) (W := 2) rfl (by decide) (by decide) (by decide) (by decide) (hb hby d4_68) rfl ?_
            intro T29 v29 L29 X29 q29
            obtain ⟨np29, rfl, M29, K29, sz29, An29, En29⟩ := q29
            have N29 := Fr.app N18 M29
            show Run p e below s _ _ _ (T29.setTop (mkF m 71 #[.val (.ref this), .val (.ref pat), .val (.long bt1), .second, .val (.int (2 : Int32)), .val (.int c2), .val (.int v19)] [(.ref np29), (.int v19), (.ref b2)]))
            have hlt := PG.lt sz29
            have ne_b2_np29 : b2 ≠ np29 := Nat.ne_of_lt (Nat.lt_of_lt_of_le PG.1.lt sz29)
            have g_np29 : n0 ≤ np29 := Nat.le_trans Z18 sz29
            replace PG := PG.ext (Keep_ext K29)
            replace E_this := E_this.wr W18
            have ne_this_np29 : this ≠ np29 := Nat.ne_of_lt (Nat.lt_of_lt_of_le E_this.lt sz29)
            replace A_ab := A_ab.other W18 ne_ab_pH1
            have ne_ab_np29 : ab ≠ np29 := Nat.ne_of_lt (Nat.lt_of_lt_of_le A_ab.lt sz29)
            have ne_pat_np29 : pat ≠ np29 := Nat.ne_of_lt (Nat.lt_of_lt_of_le A_pat.lt sz29)
            replace S_ABSENT := Sta_keep S_ABSENT K29 all0
            have Z29 : n0 ≤ T29.heap.size := Nat.le_trans Z18 K29.1
            refine Run.stR X29 hx hZ rfl PG.1 (i := H2) eH2 (by rw [own_refs_len]; exact lH2) rfl (own_sto PG.1 PG.2.1 En29) (hb hby d4_71) ?_
            intro T30 h30 X30 e30 W30 A30
            replace A_ab := A_ab.keep K29 nin0
            replace PG := Pgs.new PG lH2 hq (by rw [Pgs.page PG lH2 hq A_ab]; exact An29) (Ne.symm ne_b2_np29) hlt g_np29 W30 (Ne.symm ne_ab_np29)
            have N30 := Fr.snoc X30 N29 g_b2
            have Z30 : n0 ≤ h30.size := Nat.le_trans Z29 (Nat.le_of_eq W30.size.symm)
            show Run p e below s _ _ _ (T30.setTop (mkF m 72 #[.val (.ref this), .val (.ref pat), .val (.long bt1), .second, .val (.int (2 : Int32)), .val (.int c2), .val (.int v19)] []))
            replace E_this := (E_this.keep K29).wr W30
            replace F_this_pages := (F_this_pages.keep K29 nin0).other W30 (Or.inl ne_this_b2)
            replace F_this_low := ((F_this_low.other W18 (Or.inl ne_this_pH1)).keep K29 nin0).other W30 (Or.inl ne_this_b2)
            replace F_this_filter := ((F_this_filter.other W18 (Or.inl ne_this_pH1)).keep K29 nin0).other W30 (Or.inl ne_this_b2)
            replace A_pat := (A_pat.keep K29 nin0).other W30 ne_pat_b2
            replace S_ABSENT := S_ABSENT.wr W30
            replace A_ab := A_ab.other W30 ne_ab_b2
            replace E_ab := ((E_ab.wr W18).keep K29).wr W30
            exact JP2 T30 h30 _ _ X30 e30 N30 Z30 E_this F_this_pages F_this_low F_this_filter A_pat S_ABSENT A_ab E_ab PG (own_nt hn_this (Ne.symm ne_this_np29)) (own_nt hn_pat (Ne.symm ne_pat_np29)) (by rw [own_upd_self]; exact (Ne.symm ne_ab_np29))
          · skip
            refine Run.st (B := T21.setTop (mkF m 72 #[.val (.ref this), .val (.ref pat), .val (.long bt1), .second, .val (.int (2 : Int32)), .val (.int c2), .val (.int v19)] [])) (fun t kt => Jvm.RoadKit.acmp (g := (mkF m 59 #[.val (.ref this), .val (.ref pat), .val (.long bt1), .second, .val (.int (2 : Int32)), .val (.int c2), .val (.int v19)] [(.ref ab), (.ref (pg2 H2))])) X21 hx rfl rfl rfl (pc0 := 59) (pc' := 72) (same := false) rfl (hb hby d4_59) rfl (decide_eq_false fun q => hq (Value.ref.inj q)) (by decide) (by decide) kt) ?_
            replace E_this := E_this.wr W18
            replace F_this_low := F_this_low.other W18 (Or.inl ne_this_pH1)
            replace F_this_filter := F_this_filter.other W18 (Or.inl ne_this_pH1)
            replace A_ab := A_ab.other W18 ne_ab_pH1
            replace E_ab := E_ab.wr W18
            exact JP2 T21 h18 _ _ (X21.more (by decide) (by decide)) e21 N18 Z18 E_this F_this_pages F_this_low F_this_filter A_pat S_ABSENT A_ab E_ab PG hn_this hn_pat hq
        by_cases hc90 : (0 : Int32) < v13
        · skip
          refine Run.x_ifNo (q := 93) X18 hx (hb hby d4_90) ((if0 _ _).trans (tlt hc90).2.2.2) rfl ?_
          refine Run.x_lloadN (q := 94) X18 hx (hb hby d4_93) rfl rfl ?_
          refine Run.x_lconst (q := 95) X18 hx (hb hby d4_94) (z := (1 : Int64)) rfl rfl ?_
          refine Run.x_iload (q := 97) X18 hx (hb hby d4_95) rfl rfl ?_
          refine Run.x_lshl (q := 98) X18 hx (hb hby d4_97) rfl rfl ?_
          refine Run.x_lor (q := 99) X18 hx (hb hby d4_98) rfl rfl ?_
          refine Run.x_lstoreN (q := 100) X18 hx #[.val (.ref this), .val (.ref pat), .val (.long (bt0 ||| ((1 : Int64) <<< (c1 &&& 0x3f).toInt64))), .second, .val (.int (1 : Int32)), .val (.int c1), .val (.int v13)] (hb hby d4_99) rfl rfl ?_
          exact JB1 _ (if_neg (own_h1 eH1 dH1 hc90)).symm
        · skip
          refine Run.x_ifYes (q := 100) X18 hx (hb hby d4_90) ((if0 _ _).trans (flt hc90).2.2.2) (by decide) (by decide) ?_
          exact JB1 _ (if_pos (own_h0 eH1 dH1 hc90)).symm
      by_cases hq : pg1 H1 = ab
      · skip
        refine Run.st (B := T15.setTop (mkF m 62 #[.val (.ref this), .val (.ref pat), .val (.long bt0), .second, .val (.int (1 : Int32)), .val (.int c1), .val (.int v13)] [])) (fun t kt => Jvm.RoadKit.acmp (g := (mkF m 59 #[.val (.ref this), .val (.ref pat), .val (.long bt0), .second, .val (.int (1 : Int32)), .val (.int c1), .val (.int v13)] [(.ref ab), (.ref (pg1 H1))])) X15 hx rfl rfl rfl (pc0 := 59) (pc' := 62) (same := true) rfl (hb hby d4_59) rfl (decide_eq_true (congrArg Value.ref hq)) (by decide) (by decide) kt) ?_
        refine Run.x_aloadN (q := 63) X15 hx (hb hby d4_62) rfl rfl rfl ?_
        obtain ⟨T31, X31, e31, st31⟩ := getF X15 hx hZ hown (host := "") (Or.inl (hw _ (List.mem_of_getElem? (i := 17) rfl))) Via.refl e15 F_this_pages (g := (mkF m 63 #[.val (.ref this), .val (.ref pat), .val (.long bt0), .second, .val (.int (1 : Int32)), .val (.int c1), .val (.int v13)] [(.ref this)])) rfl rfl (hb hby d4_63)
        refine Run.st st31 ?_
        show Run p e below s _ _ _ (T31.setTop (mkF m 66 #[.val (.ref this), .val (.ref pat), .val (.long bt0), .second, .val (.int (1 : Int32)), .val (.int c1), .val (.int v13)] [(.ref b2)]))
        refine Run.x_iload (q := 68) X31 hx (hb hby d4_66) rfl rfl ?_
        refine Run.callS X31 hx hZ e31 (y := (⟨"needlewise/boyermoore/Rightmost", "newPage", "()[I"⟩ : MethodName)) hown (hw _ (List.mem_of_getElem? (i := 26) rfl)) (hw _ (List.mem_of_getElem? (i := 27) rfl)) (hw _ (List.mem_of_getElem? (i := 8) rfl)) (hw _ (List.mem_of_getElem? (i := 28) rfl)) (by decide) (argsL := []) (rest := [(.int v13), (.ref b2)]) (c_page l Z a0 hw h12 n0 Z12) pd_2 rfl (by rw [hml]; rfl) (W := 2) rfl (by decide) (by decide) (by decide) (by decide) (hb hby d4_68) rfl ?_
        intro T32 v32 L32 X32 q32
        obtain ⟨np32, rfl, M32, K32, sz32, An32, En32⟩ := q32
        have N32 := Fr.app N12 M32
        show Run p e below s _ _ _ (T32.setTop (mkF m 71 #[.val (.ref this), .val (.ref pat), .val (.long bt0), .second, .val (.int (1 : Int32)), .val (.int c1), .val (.int v13)] [(.ref np32), (.int v13), (.ref b2)]))
        have hlt := PG.lt sz32
        have ne_b2_np32 : b2 ≠ np32 := Nat.ne_of_lt (Nat.lt_of_lt_of_le PG.1.lt sz32)
        have g_np32 : n0 ≤ np32 := Nat.le_trans Z12 sz32
        replace PG := PG.ext (Keep_ext K32)
        replace E_this := E_this.wr W12
        have ne_this_np32 : this ≠ np32 := Nat.ne_of_lt (Nat.lt_of_lt_of_le E_this.lt sz32)
        replace A_ab := A_ab.other W12 ne_ab_pH0
        have ne_ab_np32 : ab ≠ np32 := Nat.ne_of_lt (Nat.lt_of_lt_of_le A_ab.lt sz32)
        have ne_pat_np32 : pat ≠ np32 := Nat.ne_of_lt (Nat.lt_of_lt_of_le A_pat.lt sz32)
        replace S_ABSENT := Sta_keep S_ABSENT K32 all0
        have Z32 : n0 ≤ T32.heap.size := Nat.le_trans Z12 K32.1
        refine Run.stR X32 hx hZ rfl PG.1 (i := H1) eH1 (by rw [own_refs_len]; exact lH1) rfl (own_sto PG.1 PG.2.1 En32) (hb hby d4_71) ?_
        intro T33 h33 X33 e33 W33 A33
        replace A_ab := A_ab.keep K32 nin0
        replace PG := Pgs.new PG lH1 hq (by rw [Pgs.page PG lH1 hq A_ab]; exact An32) (Ne.symm ne_b2_np32) hlt g_np32 W33 (Ne.symm ne_ab_np32)
        have N33 := Fr.snoc X33 N32 g_b2
        have Z33 : n0 ≤ h33.size := Nat.le_trans Z32 (Nat.le_of_eq W33.size.symm)
        show Run p e below s _ _ _ (T33.setTop (mkF m 72 #[.val (.ref this), .val (.ref pat), .val (.long bt0), .second, .val (.int (1 : Int32)), .val (.int c1), .val (.int v13)] []))
        replace E_this := (E_this.keep K32).wr W33
        replace F_this_pages := (F_this_pages.keep K32 nin0).other W33 (Or.inl ne_this_b2)
        replace F_this_low := ((F_this_low.other W12 (Or.inl ne_this_pH0)).keep K32 nin0).other W33 (Or.inl ne_this_b2)
        replace F_this_filter := ((F_this_filter.other W12 (Or.inl ne_this_pH0)).keep K32 nin0).other W33 (Or.inl ne_this_b2)
        replace A_pat := (A_pat.keep K32 nin0).other W33 ne_pat_b2
        replace S_ABSENT := S_ABSENT.wr W33
        replace A_ab := A_ab.other W33 ne_ab_b2
        replace E_ab := ((E_ab.wr W12).keep K32).wr W33
        exact JP1 T33 h33 _ _ X33 e33 N33 Z33 E_this F_this_pages F_this_low F_this_filter A_pat S_ABSENT A_ab E_ab PG (own_nt hn_this (Ne.symm ne_this_np32)) (own_nt hn_pat (Ne.symm ne_pat_np32)) (by rw [own_upd_self]; exact (Ne.symm ne_ab_np32))
      · skip
        refine Run.st (B := T15.setTop (mkF m 72 #[.val (.ref this), .val (.ref pat), .val (.long bt0), .second, .val (.int (1 : Int32)), .val (.int c1), .val (.int v13)] [])) (fun t kt => Jvm.RoadKit.acmp (g := (mkF m 59 #[.val (.ref this), .val (.ref pat), .val (.long bt0), .second, .val (.int (1 : Int32)), .val (.int c1), .val (.int v13)] [(.ref ab), (.ref (pg1 H1))])) X15 hx rfl rfl rfl (pc0 := 59) (pc' := 72) (same := false) rfl (hb hby d4_59) rfl (decide_eq_false fun q => hq (Value.ref.inj q)) (by decide) (by decide) kt) ?_
        replace E_this := E_this.wr W12
        replace F_this_low := F_this_low.other W12 (Or.inl ne_this_pH0)
        replace F_this_filter := F_this_filter.other W12 (Or.inl ne_this_pH0)
        replace A_ab := A_ab.other W12 ne_ab_pH0
        replace E_ab := E_ab.wr W12
        exact JP1 T15 h12 _ _ (X15.more (by decide) (by decide)) e15 N12 Z12 E_this F_this_pages F_this_low F_this_filter A_pat S_ABSENT A_ab E_ab PG hn_this hn_pat hq
    by_cases hc90 : (0 : Int32) < v7
    · skip
      refine Run.x_ifNo (q := 93) X12 hx (hb hby d4_90) ((if0 _ _).trans (tlt hc90).2.2.2) rfl ?_
      refine Run.x_lloadN (q := 94) X12 hx (hb hby d4_93) rfl rfl ?_
      refine Run.x_lconst (q := 95) X12 hx (hb hby d4_94) (z := (1 : Int64)) rfl rfl ?_
      refine Run.x_iload (q := 97) X12 hx (hb hby d4_95) rfl rfl ?_
      refine Run.x_lshl (q := 98) X12 hx (hb hby d4_97) rfl rfl ?_
      refine Run.x_lor (q := 99) X12 hx (hb hby d4_98) rfl rfl ?_
      refine Run.x_lstoreN (q := 100) X12 hx #[.val (.ref this), .val (.ref pat), .val (.long ((0 : Int64) ||| ((1 : Int64) <<< (c0 &&& 0x3f).toInt64))), .second, .val (.int (0 : Int32)), .val (.int c0), .val (.int v7)] (hb hby d4_99) rfl rfl ?_
      exact JB0 _ (if_neg (own_h1 eH0 dH0 hc90)).symm
    · skip
      refine Run.x_ifYes (q := 100) X12 hx (hb hby d4_90) ((if0 _ _).trans (flt hc90).2.2.2) (by decide) (by decide) ?_
      exact JB0 _ (if_pos (own_h0 eH0 dH0 hc90)).symm
  by_cases hq : (fun _ => ab : Nat → Addr) H0 = ab
  · skip
    refine Run.st (B := T9.setTop (mkF m 62 #[.val (.ref this), .val (.ref pat), .val (.long (0 : Int64)), .second, .val (.int (0 : Int32)), .val (.int c0), .val (.int v7)] [])) (fun t kt => Jvm.RoadKit.acmp (g := (mkF m 59 #[.val (.ref this), .val (.ref pat), .val (.long (0 : Int64)), .second, .val (.int (0 : Int32)), .val (.int c0), .val (.int v7)] [(.ref ab), (.ref ((fun _ => ab : Nat → Addr) H0))])) X9 hx rfl rfl rfl (pc0 := 59) (pc' := 62) (same := true) rfl (hb hby d4_59) rfl (decide_eq_true (congrArg Value.ref hq)) (by decide) (by decide) kt) ?_
    refine Run.x_aloadN (q := 63) X9 hx (hb hby d4_62) rfl rfl rfl ?_
    obtain ⟨T34, X34, e34, st34⟩ := getF X9 hx hZ hown (host := "") (Or.inl (hw _ (List.mem_of_getElem? (i := 17) rfl))) Via.refl e9 F_this_pages (g := (mkF m 63 #[.val (.ref this), .val (.ref pat), .val (.long (0 : Int64)), .second, .val (.int (0 : Int32)), .val (.int c0), .val (.int v7)] [(.ref this)])) rfl rfl (hb hby d4_63)
    refine Run.st st34 ?_
    show Run p e below s _ _ _ (T34.setTop (mkF m 66 #[.val (.ref this), .val (.ref pat), .val (.long (0 : Int64)), .second, .val (.int (0 : Int32)), .val (.int c0), .val (.int v7)] [(.ref b2)]))
    refine Run.x_iload (q := 68) X34 hx (hb hby d4_66) rfl rfl ?_
    refine Run.callS X34 hx hZ e34 (y := (⟨"needlewise/boyermoore/Rightmost", "newPage", "()[I"⟩ : MethodName)) hown (hw _ (List.mem_of_getElem? (i := 26) rfl)) (hw _ (List.mem_of_getElem? (i := 27) rfl)) (hw _ (List.mem_of_getElem? (i := 8) rfl)) (hw _ (List.mem_of_getElem? (i := 28) rfl)) (by decide) (argsL := []) (rest := [(.int v7), (.ref b2)]) (c_page l Z a0 hw T6.heap n0 Z6) pd_2 rfl (by rw [hml]; rfl) (W := 2) rfl (by decide) (by decide) (by decide) (by decide) (hb hby d4_68) rfl ?_
    intro T35 v35 L35 X35 q35
    obtain ⟨np35, rfl, M35, K35, sz35, An35, En35⟩ := q35
    have N35 := Fr.app N6 M35
    show Run p e below s _ _ _ (T35.setTop (mkF m 71 #[.val (.ref this), .val (.ref pat), .val (.long (0 : Int64)), .second, .val (.int (0 : Int32)), .val (.int c0), .val (.int v7)] [(.ref np35), (.int v7), (.ref b2)]))
    have hlt := PG.lt sz35
    have ne_b2_np35 : b2 ≠ np35 := Nat.ne_of_lt (Nat.lt_of_lt_of_le PG.1.lt sz35)
    have g_np35 : n0 ≤ np35 := Nat.le_trans Z6 sz35
    replace PG := PG.ext (Keep_ext K35)
    replace E_this := (E_this.wr W3).keep K6
    have ne_this_np35 : this ≠ np35 := Nat.ne_of_lt (Nat.lt_of_lt_of_le E_this.lt sz35)
    have ne_ab_np35 : ab ≠ np35 := Nat.ne_of_lt (Nat.lt_of_lt_of_le A_ab.lt sz35)
    have ne_pat_np35 : pat ≠ np35 := Nat.ne_of_lt (Nat.lt_of_lt_of_le A_pat.lt sz35)
    replace S_ABSENT := Sta_keep S_ABSENT K35 all0
    have Z35 : n0 ≤ T35.heap.size := Nat.le_trans Z6 K35.1
    refine Run.stR X35 hx hZ rfl PG.1 (i := H0) eH0 (by rw [own_refs_len]; exact lH0) rfl (own_sto PG.1 PG.2.1 En35) (hb hby d4_71) ?_
    intro T36 h36 X36 e36 W36 A36
    replace A_ab := A_ab.keep K35 nin0
    replace PG := Pgs.new PG lH0 hq (by rw [Pgs.page PG lH0 hq A_ab]; exact An35) (Ne.symm ne_b2_np35) hlt g_np35 W36 (Ne.symm ne_ab_np35)
    have N36 := Fr.snoc X36 N35 g_b2
    have Z36 : n0 ≤ h36.size := Nat.le_trans Z35 (Nat.le_of_eq W36.size.symm)
    show Run p e below s _ _ _ (T36.setTop (mkF m 72 #[.val (.ref this), .val (.ref pat), .val (.long (0 : Int64)), .second, .val (.int (0 : Int32)), .val (.int c0), .val (.int v7)] []))
    replace E_this := (E_this.keep K35).wr W36
    replace F_this_pages := (F_this_pages.keep K35 nin0).other W36 (Or.inl ne_this_b2)
    replace F_this_low := ((((F_this_low.ext E2).other W3 (Or.inr (slot_ne (Or.inr (hw _ (List.mem_of_getElem? (i := 34) rfl))) (Or.inr (hw _ (List.mem_of_getElem? (i := 18) rfl))) (by decide) (t := (.array .int)) (t' := (.array (.array .int))) (by decide) (by decide)))).keep K6 (ninS ne_this_b2 nin0)).keep K35 nin0).other W36 (Or.inl ne_this_b2)
    replace F_this_filter := ((((F_this_filter.ext E2).other W3 (Or.inr (slot_ne (Or.inr (hw _ (List.mem_of_getElem? (i := 36) rfl))) (Or.inr (hw _ (List.mem_of_getElem? (i := 18) rfl))) (by decide) (t := .long) (t' := (.array (.array .int))) (by decide) (by decide)))).keep K6 (ninS ne_this_b2 nin0)).keep K35 nin0).other W36 (Or.inl ne_this_b2)
    replace A_pat := (A_pat.keep K35 nin0).other W36 ne_pat_b2
    replace S_ABSENT := S_ABSENT.wr W36
    replace A_ab := A_ab.other W36 ne_ab_b2
    replace E_ab := ((E_ab.keep K6).keep K35).wr W36
    exact JP0 T36 h36 _ _ X36 e36 N36 Z36 E_this F_this_pages F_this_low F_this_filter A_pat S_ABSENT A_ab E_ab PG (own_nt hn_this (Ne.symm ne_this_np35)) (own_nt hn_pat (Ne.symm ne_pat_np35)) (by rw [own_upd_self]; exact (Ne.symm ne_ab_np35))
  · skip
    refine Run.st (B := T9.setTop (mkF m 72 #[.val (.ref this), .val (.ref pat), .val (.long (0 : Int64)), .second, .val (.int (0 : Int32)), .val (.int c0), .val (.int v7)] [])) (fun t kt => Jvm.RoadKit.acmp (g := (mkF m 59 #[.val (.ref this), .val (.ref pat), .val (.long (0 : Int64)), .second, .val (.int (0 : Int32)), .val (.int c0), .val (.int v7)] [(.ref ab), (.ref ((fun _ => ab : Nat → Addr) H0))])) X9 hx rfl rfl rfl (pc0 := 59) (pc' := 72) (same := false) rfl (hb hby d4_59) rfl (decide_eq_false fun q => hq (Value.ref.inj q)) (by decide) (by decide) kt) ?_
    replace E_this := (E_this.wr W3).keep K6
    replace F_this_low := ((F_this_low.ext E2).other W3 (Or.inr (slot_ne (Or.inr (hw _ (List.mem_of_getElem? (i := 34) rfl))) (Or.inr (hw _ (List.mem_of_getElem? (i := 18) rfl))) (by decide) (t := (.array .int)) (t' := (.array (.array .int))) (by decide) (by decide)))).keep K6 (ninS ne_this_b2 nin0)
    replace F_this_filter := ((F_this_filter.ext E2).other W3 (Or.inr (slot_ne (Or.inr (hw _ (List.mem_of_getElem? (i := 36) rfl))) (Or.inr (hw _ (List.mem_of_getElem? (i := 18) rfl))) (by decide) (t := .long) (t' := (.array (.array .int))) (by decide) (by decide)))).keep K6 (ninS ne_this_b2 nin0)
    replace E_ab := E_ab.keep K6
    exact JP0 T9 T6.heap _ _ (X9.more (by decide) (by decide)) e9 N6 Z6 E_this F_this_pages F_this_low F_this_filter A_pat S_ABSENT A_ab E_ab PG hn_this hn_pat hq
theorem ef_c_init4 (m : MethodId) (this : Addr) (pat : Addr) : entryFrame m #[(.ref this), (.ref pat)] 7 = mkF m 0 #[.val (.ref this), .val (.ref pat), .unset, .unset, .unset, .unset, .unset] [] := by first | (simp [entryFrame, mkF, argsToLocals, Value.category]; done) | rfl
set_option maxRecDepth 65536 in
set_option maxHeartbeats 40000000 in
theorem c_init4 (l : Launch) (Z : State) (a0 : Array Value) (hw : ∀ d ∈ tables_1, d.before a0 Z = true) (this : Addr) (pat : Addr) (h0 : Heap) (n0 : Nat) (Z0 : n0 ≤ h0.size) (ab : Addr) (c0 : Int32) (c1 : Int32) (c2 : Int32) (c3 : Int32) (E_this : Exa Z h0 this "needlewise/boyermoore/Rightmost") (F_this_pages : Fld Z h0 this "needlewise/boyermoore/Rightmost" "pages" "[[I" .null) (F_this_low : Fld Z h0 this "needlewise/boyermoore/Rightmost" "low" "[I" .null) (F_this_filter : Fld Z h0 this "needlewise/boyermoore/Rightmost" "filter" "J" (.long (0 : Int64))) (A_pat : Ars Z h0 pat .char [(.int c0), (.int c1), (.int c2), (.int c3)]) (S_ABSENT : Sta Z h0 "needlewise/boyermoore/Rightmost" "ABSENT" "[I" (.ref ab)) (A_ab : Ars Z h0 ab .int (List.replicate 256 (.int (-1)))) (E_ab : Exa Z h0 ab "[I") (g_this : n0 ≤ this) (ne_this_pat : this ≠ pat) (ne_this_ab : this ≠ ab) (ne_pat_ab : pat ≠ ab) (hr0 : 0 ≤ c0.toInt ∧ c0.toInt < 65536) (hr1 : 0 ≤ c1.toInt ∧ c1.toInt < 65536) (hr2 : 0 ≤ c2.toInt ∧ c2.toInt < 65536) (hr3 : 0 ≤ c3.toInt ∧ c3.toInt < 65536) :
    Ctr l Z (⟨"needlewise/boyermoore/Rightmost", "<init>", "([C)V"⟩ : MethodName) prog_13_method_1_code 7 none ({ frames := 2, cells := 5, slots := 1280, locals := 29 } : Room) #[(.ref this), (.ref pat)] h0 (fun v h L => ∃ (pa : Addr) (pg : Nat → Addr), v = none ∧ Fr n0 L ∧ Pgs Z h n0 ab pa pg (own_go (fun _ => -1) 0 [c0, c1, c2, c3]) ∧ Fld Z h this "needlewise/boyermoore/Rightmost" "pages" "[[I" (.ref pa) ∧ Fld Z h this "needlewise/boyermoore/Rightmost" "low" "[I" (.ref (pg 0)) ∧ Fld Z h this "needlewise/boyermoore/Rightmost" "filter" "J" (.long (own_bt 0 [c0, c1, c2, c3])) ∧ Exa Z h this "needlewise/boyermoore/Rightmost") := by
  refine Ctr.of (plainFor_of_name pn_1) (fun m => ef_c_init4 m this pat) ?_
  intro p e s m below meth c T0 hx hby hml hown hnm hret hlk hZ e0 X0
  have N0 := Fr.nil n0
  replace hown : s.vm.findClass "needlewise/boyermoore/Rightmost" = some m.cls := hown
  replace hml : c.maxLocals = 7 := hml
  refine Run.x_aloadN (q := 1) X0 hx (hb hby d4_0) rfl rfl rfl ?_
  refine Run.init X0 hx hZ e0 hown (hw _ (List.mem_of_getElem? (i := 12) rfl)) (hw _ (List.mem_of_getElem? (i := 13) rfl)) (hw _ (List.mem_of_getElem? (i := 14) rfl)) (by rw [hml]; rfl) (hb hby d4_1) (by decide) (W := 0) rfl (by decide) ?_
  intro T1 X1 e1
  show Run p e below s _ _ _ (T1.setTop (mkF m 4 #[.val (.ref this), .val (.ref pat), .unset, .unset, .unset, .unset, .unset] []))
  refine Run.x_aloadN (q := 5) X1 hx (hb hby d4_4) rfl rfl rfl ?_
  refine Run.x_sipush (q := 8) X1 hx (hb hby d4_5) (z := (256 : Int32)) rfl rfl ?_
  refine Run.newRA X1 hx hZ e1 hown rfl (hw _ (List.mem_of_getElem? (i := 15) rfl)) (hw _ (List.mem_of_getElem? (i := 16) rfl)) (hb hby d4_8) (len := 256) (by decide) (by decide) (cap := 256) (by decide) (by decide) (by decide) (by decide) (ad := "[[I") rfl ?_
  intro T2 h2 b2 gg2 X2 e2 E2 A_b2 E_b2 O_b2
  replace O_b2 : Ovb Z h2 b2 := O_b2
  have g_b2 : n0 ≤ b2 := Nat.le_trans Z0 (Nat.le_of_eq gg2.symm)
  have ne_this_b2 : this ≠ b2 := Nat.ne_of_lt (Nat.lt_of_lt_of_le E_this.lt (Nat.le_of_eq gg2.symm))
  have ne_pat_b2 : pat ≠ b2 := Nat.ne_of_lt (Nat.lt_of_lt_of_le A_pat.lt (Nat.le_of_eq gg2.symm))
  have ne_ab_b2 : ab ≠ b2 := Nat.ne_of_lt (Nat.lt_of_lt_of_le A_ab.lt (Nat.le_of_eq gg2.symm))
  have Z2 : n0 ≤ h2.size := Nat.le_trans Z0 E2.1
  show Run p e below s _ _ _ (T2.setTop (mkF m 11 #[.val (.ref this), .val (.ref pat), .unset, .unset, .unset, .unset, .unset] [(.ref b2), (.ref this)]))
  replace F_this_pages := F_this_pages.ext E2
  replace E_this := E_this.ext E2
  obtain ⟨T3, h3, X3, e3, W3, st3⟩ := putF X2 hx hZ hown (host := "") (Or.inl (hw _ (List.mem_of_getElem? (i := 17) rfl))) Via.refl e2 F_this_pages E_this (Or.inr ⟨(hw _ (List.mem_of_getElem? (i := 18) rfl)), rfl, hnm⟩) (hw _ (List.mem_of_getElem? (i := 7) rfl)) (ty := (.array (.array .int))) (by decide) rfl rfl (g := (mkF m 11 #[.val (.ref this), .val (.ref pat), .unset, .unset, .unset, .unset, .unset] [(.ref b2), (.ref this)])) rfl rfl (hb hby d4_11)
  replace F_this_pages := F_this_pages.same W3
  have Z3 : n0 ≤ h3.size := Nat.le_trans Z2 (Nat.le_of_eq W3.size.symm)
  have N3 := Fr.snoc X3 N0 g_this
  refine Run.st st3 ?_
  show Run p e below s _ _ _ (T3.setTop (mkF m 14 #[.val (.ref this), .val (.ref pat), .unset, .unset, .unset, .unset, .unset] []))
  refine Run.x_aloadN (q := 15) X3 hx (hb hby d4_14) rfl rfl rfl ?_
  obtain ⟨T4, X4, e4, st4⟩ := getF X3 hx hZ hown (host := "") (Or.inl (hw _ (List.mem_of_getElem? (i := 17) rfl))) Via.refl e3 F_this_pages (g := (mkF m 15 #[.val (.ref this), .val (.ref pat), .unset, .unset, .unset, .unset, .unset] [(.ref this)])) rfl rfl (hb hby d4_15)
  refine Run.st st4 ?_
  show Run p e below s _ _ _ (T4.setTop (mkF m 18 #[.val (.ref this), .val (.ref pat), .unset, .unset, .unset, .unset, .unset] [(.ref b2)]))
  replace S_ABSENT := (S_ABSENT.ext E2).wr W3
  obtain ⟨T5, X5, e5, st5⟩ := getS2 X4 hx hZ hown (host := "") (Or.inl (hw _ (List.mem_of_getElem? (i := 19) rfl))) Via.refl e4 S_ABSENT (g := (mkF m 18 #[.val (.ref this), .val (.ref pat), .unset, .unset, .unset, .unset, .unset] [(.ref b2)])) rfl (hb hby d4_18)
  refine Run.st st5 ?_
  show Run p e below s _ _ _ (T5.setTop (mkF m 21 #[.val (.ref this), .val (.ref pat), .unset, .unset, .unset, .unset, .unset] [(.ref ab), (.ref b2)]))
  replace A_b2 := A_b2.other W3 (Ne.symm ne_this_b2)
  replace O_b2 := O_b2.wr W3
  replace E_ab := (E_ab.ext E2).wr W3
  refine Run.callS X5 hx hZ e5 (y := (⟨"java/util/Arrays", "fill", "([Ljava/lang/Object;Ljava/lang/Object;)V"⟩ : MethodName)) hown (hw _ (List.mem_of_getElem? (i := 21) rfl)) (hw _ (List.mem_of_getElem? (i := 22) rfl)) (hw _ (List.mem_of_getElem? (i := 23) rfl)) (hw _ (List.mem_of_getElem? (i := 24) rfl)) (by decide) (argsL := [(.ref b2), (.ref ab)]) (rest := []) (c_fillR l Z a0 hw b2 ab h3 n0 Z3 (List.replicate 256 .null) A_b2 g_b2 (by rw [List.length_replicate]; decide) (own_sto A_b2 O_b2 E_ab)) pd_1 rfl (by rw [hml]; rfl) (W := 0) rfl (by decide) (by decide) (by decide) (by decide) (hb hby d4_21) rfl ?_
  intro T6 v6 L6 X6 q6
  obtain ⟨rfl, M6, K6, A6⟩ := q6
  have N6 := Fr.app N3 M6
  show Run p e below s _ _ _ (T6.setTop (mkF m 24 #[.val (.ref this), .val (.ref pat), .unset, .unset, .unset, .unset, .unset] []))
  replace S_ABSENT := Sta_keep S_ABSENT K6 (allS A_b2.ns all0)
  have Z6 : n0 ≤ T6.heap.size := Nat.le_trans Z3 K6.1
  replace A_ab := ((A_ab.ext E2).other W3 (Ne.symm ne_this_ab)).keep K6 (ninS ne_ab_b2 nin0)
  replace O_b2 := O_b2.keep K6
  have PG := Pgs.start (n0 := n0) (by rw [List.length_replicate] at A6; exact A6) O_b2 A_ab ne_ab_b2
  have hn_this : ∀ i, i < 256 → (fun _ => ab : Nat → Addr) i ≠ this := fun _ _ => (Ne.symm ne_this_ab)
  have hn_pat : ∀ i, i < 256 → (fun _ => ab : Nat → Addr) i ≠ pat := fun _ _ => (Ne.symm ne_pat_ab)
  refine Run.x_lconst (q := 25) X6 hx (hb hby d4_24) (z := (0 : Int64)) rfl rfl ?_
  refine Run.x_lstoreN (q := 26) X6 hx #[.val (.ref this), .val (.ref pat), .val (.long (0 : Int64)), .second, .unset, .unset, .unset] (hb hby d4_25) rfl rfl ?_
  refine Run.x_iconst (q := 27) X6 hx (hb hby d4_26) (z := (0 : Int32)) rfl rfl ?_
  refine Run.x_istore (q := 29) X6 hx #[.val (.ref this), .val (.ref pat), .val (.long (0 : Int64)), .second, .val (.int (0 : Int32)), .unset, .unset] (hb hby d4_27) rfl rfl ?_
  refine Run.x_iload (q := 31) X6 hx (hb hby d4_29) rfl rfl ?_
  refine Run.x_aloadN (q := 32) X6 hx (hb hby d4_31) rfl rfl rfl ?_
  replace A_pat := ((A_pat.ext E2).other W3 (Ne.symm ne_this_pat)).keep K6 (ninS ne_pat_b2 nin0)
  refine Run.alen X6 hx hZ rfl A_pat (z := (4 : Int32)) rfl (hb hby d4_32) ?_
  show Run p e below s _ _ _ (T6.setTop (mkF m 33 #[.val (.ref this), .val (.ref pat), .val (.long (0 : Int64)), .second, .val (.int (0 : Int32)), .unset, .unset] [(.int (4 : Int32)), (.int (0 : Int32))]))
  refine Run.x_icmpNo (q := 36) X6 hx (hb hby d4_33) (tlt (by decide : (0 : Int32) < (4 : Int32))).2.1 rfl ?_
  refine Run.x_aloadN (q := 37) X6 hx (hb hby d4_36) rfl rfl rfl ?_
  refine Run.x_iload (q := 39) X6 hx (hb hby d4_37) rfl rfl ?_
  refine Run.ldC X6 hx hZ rfl A_pat (i := 0) (v := (.int c0)) (by decide) rfl (hb hby d4_39) ?_
  show Run p e below s _ _ _ (T6.setTop (mkF m 40 #[.val (.ref this), .val (.ref pat), .val (.long (0 : Int64)), .second, .val (.int (0 : Int32)), .unset, .unset] [(.int c0)]))
  refine Run.x_istore (q := 42) X6 hx #[.val (.ref this), .val (.ref pat), .val (.long (0 : Int64)), .second, .val (.int (0 : Int32)), .val (.int c0), .unset] (hb hby d4_40) rfl rfl ?_
  refine Run.x_iload (q := 44) X6 hx (hb hby d4_42) rfl rfl ?_
  refine Run.x_bipush (q := 46) X6 hx (hb hby d4_44) (z := (8 : Int32)) rfl rfl ?_
  refine Run.x_iushr (q := 47) X6 hx (hb hby d4_46) rfl rfl ?_
  refine Run.x_istore (q := 49) X6 hx #[.val (.ref this), .val (.ref pat), .val (.long (0 : Int64)), .second, .val (.int (0 : Int32)), .val (.int c0), .val (.int ((c0.toUInt32 >>> ((8 : Int32) &&& 31).toUInt32).toInt32))] (hb hby d4_47) rfl rfl ?_
  generalize hv7 : ((c0.toUInt32 >>> ((8 : Int32) &&& 31).toUInt32).toInt32) = v7
  refine Run.x_aloadN (q := 50) X6 hx (hb hby d4_49) rfl rfl rfl ?_
  replace F_this_pages := F_this_pages.keep K6 (ninS ne_this_b2 nin0)
  obtain ⟨T8, X8, e8, st8⟩ := getF X6 hx hZ hown (host := "") (Or.inl (hw _ (List.mem_of_getElem? (i := 17) rfl))) Via.refl rfl F_this_pages (g := (mkF m 50 #[.val (.ref this), .val (.ref pat), .val (.long (0 : Int64)), .second, .val (.int (0 : Int32)), .val (.int c0), .val (.int v7)] [(.ref this)])) rfl rfl (hb hby d4_50)
  refine Run.st st8 ?_
  show Run p e below s _ _ _ (T8.setTop (mkF m 53 #[.val (.ref this), .val (.ref pat), .val (.long (0 : Int64)), .second, .val (.int (0 : Int32)), .val (.int c0), .val (.int v7)] [(.ref b2)]))
  refine Run.x_iload (q := 55) X8 hx (hb hby d4_53) rfl rfl ?_
  obtain ⟨H0, eH0, lH0, dH0⟩ := own_hi hr0.1 hr0.2 hv7
  refine Run.ldR X8 hx hZ e8 PG.1 (i := H0) (v := .ref ((fun _ => ab : Nat → Addr) H0)) eH0 (own_refs_at lH0) rfl (hb hby d4_55) ?_
  show Run p e below s _ _ _ (T8.setTop (mkF m 56 #[.val (.ref this), .val (.ref pat), .val (.long (0 : Int64)), .second, .val (.int (0 : Int32)), .val (.int c0), .val (.int v7)] [(.ref ((fun _ => ab : Nat → Addr) H0))]))
  obtain ⟨T9, X9, e9, st9⟩ := getS2 X8 hx hZ hown (host := "") (Or.inl (hw _ (List.mem_of_getElem? (i := 19) rfl))) Via.refl e8 S_ABSENT (g := (mkF m 56 #[.val (.ref this), .val (.ref pat), .val (.long (0 : Int64)), .second, .val (.int (0 : Int32)), .val (.int c0), .val (.int v7)] [(.ref ((fun _ => ab : Nat → Addr) H0))])) rfl (hb hby d4_56)
  refine Run.st st9 ?_
  show Run p e below s _ _ _ (T9.setTop (mkF m 59 #[.val (.ref this), .val (.ref pat), .val (.long (0 : Int64)), .second, .val (.int (0 : Int32)), .val (.int c0), .val (.int v7)] [(.ref ab), (.ref ((fun _ => ab : Nat → Addr) H0))]))
  have JP0 : ∀ (T10 : State) (h10 : Heap) (lo10 : List Loc) (pg1 : Nat → Addr), Stand p l e ({ frames := 2, cells := 5, slots := 1280, locals := 29 } : Room) s m #[(.ref this), (.ref pat)] below meth c T10 lo10 2 512 → T10.heap = h10 → Fr n0 lo10 → n0 ≤ h10.size → Exa Z h10 this "needlewise/boyermoore/Rightmost" → Fld Z h10 this "needlewise/boyermoore/Rightmost" "pages" "[[I" (.ref b2) → Fld Z h10 this "needlewise/boyermoore/Rightmost" "low" "[I" .null → Fld Z h10 this "needlewise/boyermoore/Rightmost" "filter" "J" (.long (0 : Int64)) → Ars Z h10 pat .char [(.int c0), (.int c1), (.int c2), (.int c3)] → Sta Z h10 "needlewise/boyermoore/Rightmost" "ABSENT" "[I" (.ref ab) → Ars Z h10 ab .int (List.replicate 256 (.int (-1))) → Exa Z h10 ab "[I" → (Pgs Z h10 n0 ab b2 pg1 (fun _ => -1)) → (∀ i, i < 256 → pg1 i ≠ this) → (∀ i, i < 256 → pg1 i ≠ pat) → (pg1 H0 ≠ ab) → Run p e below s (fun v h L => ∃ (pa : Addr) (pg : Nat → Addr), v = none ∧ Fr n0 L ∧ Pgs Z h n0 ab pa pg (own_go (fun _ => -1) 0 [c0, c1, c2, c3]) ∧ Fld Z h this "needlewise/boyermoore/Rightmost" "pages" "[[I" (.ref pa) ∧ Fld Z h this "needlewise/boyermoore/Rightmost" "low" "[I" (.ref (pg 0)) ∧ Fld Z h this "needlewise/boyermoore/Rightmost" "filter" "J" (.long (own_bt 0 [c0, c1, c2, c3])) ∧ Exa Z h this "needlewise/boyermoore/Rightmost") ({ frames := 2, cells := 5, slots := 1280, locals := 29 } : Room).cells ({ frames := 2, cells := 5, slots := 1280, locals := 29 } : Room).slots (T10.setTop (mkF m 72 #[.val (.ref this), .val (.ref pat), .val (.long (0 : Int64)), .second, .val (.int (0 : Int32)), .val (.int c0), .val (.int v7)] [])) := by
    intro T10 h10 lo10 pg1 X10 e10 N10 Z10 E_this F_this_pages F_this_low F_this_filter A_pat S_ABSENT A_ab E_ab PG hn_this hn_pat hq
    refine Run.x_aloadN (q := 73) X10 hx (hb hby d4_72) rfl rfl rfl ?_
    obtain ⟨T11, X11, e11, st11⟩ := getF X10 hx hZ hown (host := "") (Or.inl (hw _ (List.mem_of_getElem? (i := 17) rfl))) Via.refl e10 F_this_pages (g := (mkF m 73 #[.val (.ref this), .val (.ref pat), .val (.long (0 : Int64)), .second, .val (.int (0 : Int32)), .val (.int c0), .val (.int v7)] [(.ref this)])) rfl rfl (hb hby d4_73)
    refine Run.st st11 ?_
    show Run p e below s _ _ _ (T11.setTop (mkF m 76 #[.val (.ref this), .val (.ref pat), .val (.long (0 : Int64)), .second, .val (.int (0 : Int32)), .val (.int c0), .val (.int v7)] [(.ref b2)]))
    refine Run.x_iload (q := 78) X11 hx (hb hby d4_76) rfl rfl ?_
    refine Run.ldR X11 hx hZ e11 PG.1 (i := H0) (v := .ref (pg1 H0)) eH0 (own_refs_at lH0) rfl (hb hby d4_78) ?_
    show Run p e below s _ _ _ (T11.setTop (mkF m 79 #[.val (.ref this), .val (.ref pat), .val (.long (0 : Int64)), .second, .val (.int (0 : Int32)), .val (.int c0), .val (.int v7)] [(.ref (pg1 H0))]))
    refine Run.x_iload (q := 81) X11 hx (hb hby d4_79) rfl rfl ?_
    refine Run.x_sipush (q := 84) X11 hx (hb hby d4_81) (z := (255 : Int32)) rfl rfl ?_
    refine Run.x_iand (q := 85) X11 hx (hb hby d4_84) rfl rfl ?_
    refine Run.x_iload (q := 87) X11 hx (hb hby d4_85) rfl rfl ?_
    obtain ⟨L0, eL0, lL0, dL0⟩ := own_lo c0
    have ne_this_pH0 : this ≠ pg1 H0 := Ne.symm (hn_this _ lH0)
    have ne_pat_pH0 : pat ≠ pg1 H0 := Ne.symm (hn_pat _ lH0)
    have ne_ab_pH0 : ab ≠ pg1 H0 := Ne.symm hq
    refine Run.stI X11 hx hZ e11 (PG.2.2.1 H0 lH0) (i := L0) eL0 (by rw [own_row_len]; exact lL0) (hb hby d4_87) ?_
    intro T12 h12 X12 e12 W12 A12
    have N12 := Fr.snoc X12 N10 (PG.2.2.2.2.2 H0 lH0 hq)
    have Z12 : n0 ≤ h12.size := Nat.le_trans Z10 (Nat.le_of_eq W12.size.symm)
    replace PG : Pgs Z h12 n0 ab b2 pg1 (own_upd (fun _ => -1) c0.toInt.toNat (Int32.ofNat 0)) := by rw [← own_hl hr0.1 dH0 dL0]; exact PG.set lH0 lL0 hq W12
    show Run p e below s _ _ _ (T12.setTop (mkF m 88 #[.val (.ref this), .val (.ref pat), .val (.long (0 : Int64)), .second, .val (.int (0 : Int32)), .val (.int c0), .val (.int v7)] []))
    refine Run.x_iload (q := 90) X12 hx (hb hby d4_88) rfl rfl ?_
    have JB0 : ∀ bt0 : Int64, bt0 = (if c0.toInt < 256 then (0 : Int64) else ((0 : Int64) ||| ((1 : Int64) <<< (c0 &&& 0x3f).toInt64))) → Run p e below s (fun v h L => ∃ (pa : Addr) (pg : Nat → Addr), v = none ∧ Fr n0 L ∧ Pgs Z h n0 ab pa pg (own_go (fun _ => -1) 0 [c0, c1, c2, c3]) ∧ Fld Z h this "needlewise/boyermoore/Rightmost" "pages" "[[I" (.ref pa) ∧ Fld Z h this "needlewise/boyermoore/Rightmost" "low" "[I" (.ref (pg 0)) ∧ Fld Z h this "needlewise/boyermoore/Rightmost" "filter" "J" (.long (own_bt 0 [c0, c1, c2, c3])) ∧ Exa Z h this "needlewise/boyermoore/Rightmost") ({ frames := 2, cells := 5, slots := 1280, locals := 29 } : Room).cells ({ frames := 2, cells := 5, slots := 1280, locals := 29 } : Room).slots (T12.setTop (mkF m 100 #[.val (.ref this), .val (.ref pat), .val (.long bt0), .second, .val (.int (0 : Int32)), .val (.int c0), .val (.int v7)] [])) := by
      intro bt0 hbt0
      refine Run.x_iinc (q := 103) X12 hx #[.val (.ref this), .val (.ref pat), .val (.long bt0), .second, .val (.int (1 : Int32)), .val (.int c0), .val (.int v7)] (hb hby d4_100) rfl (z := (1 : Int32)) (by decide) rfl rfl ?_
      refine Run.x_goto (q := 29) X12 hx (hb hby d4_103) (by decide) (by decide) ?_
      refine Run.x_iload (q := 31) X12 hx (hb hby d4_29) rfl rfl ?_
      refine Run.x_aloadN (q := 32) X12 hx (hb hby d4_31) rfl rfl rfl ?_
      replace A_pat := A_pat.other W12 ne_pat_pH0
      refine Run.alen X12 hx hZ e12 A_pat (z := (4 : Int32)) rfl (hb hby d4_32) ?_
      show Run p e below s _ _ _ (T12.setTop (mkF m 33 #[.val (.ref this), .val (.ref pat), .val (.long bt0), .second, .val (.int (1 : Int32)), .val (.int c0), .val (.int v7)] [(.int (4 : Int32)), (.int (1 : Int32))]))
      refine Run.x_icmpNo (q := 36) X12 hx (hb hby d4_33) (tlt (by decide : (1 : Int32) < (4 : Int32))).2.1 rfl ?_
      refine Run.x_aloadN (q := 37) X12 hx (hb hby d4_36) rfl rfl rfl ?_
      refine Run.x_iload (q := 39) X12 hx (hb hby d4_37) rfl rfl ?_
      refine Run.ldC X12 hx hZ e12 A_pat (i := 1) (v := (.int c1)) (by decide) rfl (hb hby d4_39) ?_
      show Run p e below s _ _ _ (T12.setTop (mkF m 40 #[.val (.ref this), .val (.ref pat), .val (.long bt0), .second, .val (.int (1 : Int32)), .val (.int c0), .val (.int v7)] [(.int c1)]))
      refine Run.x_istore (q := 42) X12 hx #[.val (.ref this), .val (.ref pat), .val (.long bt0), .second, .val (.int (1 : Int32)), .val (.int c1), .val (.int v7)] (hb hby d4_40) rfl rfl ?_
      refine Run.x_iload (q := 44) X12 hx (hb hby d4_42) rfl rfl ?_
      refine Run.x_bipush (q := 46) X12 hx (hb hby d4_44) (z := (8 : Int32)) rfl rfl ?_
      refine Run.x_iushr (q := 47) X12 hx (hb hby d4_46) rfl rfl ?_
      refine Run.x_istore (q := 49) X12 hx #[.val (.ref this), .val (.ref pat), .val (.long bt0), .second, .val (.int (1 : Int32)), .val (.int c1), .val (.int ((c1.toUInt32 >>> ((8 : Int32) &&& 31).toUInt32).toInt32))] (hb hby d4_47) rfl rfl ?_
      generalize hv13 : ((c1.toUInt32 >>> ((8 : Int32) &&& 31).toUInt32).toInt32) = v13
      refine Run.x_aloadN (q := 50) X12 hx (hb hby d4_49) rfl rfl rfl ?_
      replace F_this_pages := F_this_pages.other W12 (Or.inl ne_this_pH0)
      obtain ⟨T14, X14, e14, st14⟩ := getF X12 hx hZ hown (host := "") (Or.inl (hw _ (List.mem_of_getElem? (i := 17) rfl))) Via.refl e12 F_this_pages (g := (mkF m 50 #[.val (.ref this), .val (.ref pat), .val (.long bt0), .second, .val (.int (1 : Int32)), .val (.int c1), .val (.int v13)] [(.ref this)])) rfl rfl (hb hby d4_50)
      refine Run.st st14 ?_
      show Run p e below s _ _ _ (T14.setTop (mkF m 53 #[.val (.ref this), .val (.ref pat), .val (.long bt0), .second, .val (.int (1 : Int32)), .val (.int c1), .val (.int v13)] [(.ref b2)]))
      refine Run.x_iload (q := 55) X14 hx (hb hby d4_53) rfl rfl ?_
      obtain ⟨H1, eH1, lH1, dH1⟩ := own_hi hr1.1 hr1.2 hv13
      refine Run.ldR X14 hx hZ e14 PG.1 (i := H1) (v := .ref (pg1 H1)) eH1 (own_refs_at lH1) rfl (hb hby d4_55) ?_
      show Run p e below s _ _ _ (T14.setTop (mkF m 56 #[.val (.ref this), .val (.ref pat), .val (.long bt0), .second, .val (.int (1 : Int32)), .val (.int c1), .val (.int v13)] [(.ref (pg1 H1))]))
      replace S_ABSENT := S_ABSENT.wr W12
      obtain ⟨T15, X15, e15, st15⟩ := getS2 X14 hx hZ hown (host := "") (Or.inl (hw _ (List.mem_of_getElem? (i := 19) rfl))) Via.refl e14 S_ABSENT (g := (mkF m 56 #[.val (.ref this), .val (.ref pat), .val (.long bt0), .second, .val (.int (1 : Int32)), .val (.int c1), .val (.int v13)] [(.ref (pg1 H1))])) rfl (hb hby d4_56)
      refine Run.st st15 ?_
      show Run p e below s _ _ _ (T15.setTop (mkF m 59 #[.val (.ref this), .val (.ref pat), .val (.long bt0), .second, .val (.int (1 : Int32)), .val (.int c1), .val (.int v13)] [(.ref ab), (.ref (pg1 H1))]))
      have JP1 : ∀ (T16 : State) (h16 : Heap) (lo16 : List Loc) (pg2 : Nat → Addr), Stand p l e ({ frames := 2, cells := 5, slots := 1280, locals := 29 } : Room) s m #[(.ref this), (.ref pat)] below meth c T16 lo16 3 768 → T16.heap = h16 → Fr n0 lo16 → n0 ≤ h16.size → Exa Z h16 this "needlewise/boyermoore/Rightmost" → Fld Z h16 this "needlewise/boyermoore/Rightmost" "pages" "[[I" (.ref b2) → Fld Z h16 this "needlewise/boyermoore/Rightmost" "low" "[I" .null → Fld Z h16 this "needlewise/boyermoore/Rightmost" "filter" "J" (.long (0 : Int64)) → Ars Z h16 pat .char [(.int c0), (.int c1), (.int c2), (.int c3)] → Sta Z h16 "needlewise/boyermoore/Rightmost" "ABSENT" "[I" (.ref ab) → Ars Z h16 ab .int (List.replicate 256 (.int (-1))) → Exa Z h16 ab "[I" → (Pgs Z h16 n0 ab b2 pg2 (own_upd (fun _ => -1) c0.toInt.toNat (Int32.ofNat 0))) → (∀ i, i < 256 → pg2 i ≠ this) → (∀ i, i < 256 → pg2 i ≠ pat) → (pg2 H1 ≠ ab) → Run p e below s (fun v h L => ∃ (pa : Addr) (pg : Nat → Addr), v = none ∧ Fr n0 L ∧ Pgs Z h n0 ab pa pg (own_go (fun _ => -1) 0 [c0, c1, c2, c3]) ∧ Fld Z h this "needlewise/boyermoore/Rightmost" "pages" "[[I" (.ref pa) ∧ Fld Z h this "needlewise/boyermoore/Rightmost" "low" "[I" (.ref (pg 0)) ∧ Fld Z h this "needlewise/boyermoore/Rightmost" "filter" "J" (.long (own_bt 0 [c0, c1, c2, c3])) ∧ Exa Z h this "needlewise/boyermoore/Rightmost") ({ frames := 2, cells := 5, slots := 1280, locals := 29 } : Room).cells ({ frames := 2, cells := 5, slots := 1280, locals := 29 } : Room).slots (T16.setTop (mkF m 72 #[.val (.ref this), .val (.ref pat), .val (.long bt0), .second, .val (.int (1 : Int32)), .val (.int c1), .val (.int v13)] [])) := by
        intro T16 h16 lo16 pg2 X16 e16 N16 Z16 E_this F_this_pages F_this_low F_this_filter A_pat S_ABSENT A_ab E_ab PG hn_this hn_pat hq
        refine Run.x_aloadN (q := 73) X16 hx (hb hby d4_72) rfl rfl rfl ?_
        obtain ⟨T17, X17, e17, st17⟩ := getF X16 hx hZ hown (host := "") (Or.inl (hw _ (List.mem_of_getElem? (i := 17) rfl))) Via.refl e16 F_this_pages (g := (mkF m 73 #[.val (.ref this), .val (.ref pat), .val (.long bt0), .second, .val (.int (1 : Int32)), .val (.int c1), .val (.int v13)] [(.ref this)])) rfl rfl (hb hby d4_73)
        refine Run.st st17 ?_
        show Run p e below s _ _ _ (T17.setTop (mkF m 76 #[.val (.ref this), .val (.ref pat), .val (.long bt0), .second, .val (.int (1 : Int32)), .val (.int c1), .val (.int v13)] [(.ref b2)]))
        refine Run.x_iload (q := 78) X17 hx (hb hby d4_76) rfl rfl ?_
        refine Run.ldR X17 hx hZ e17 PG.1 (i := H1) (v := .ref (pg2 H1)) eH1 (own_refs_at lH1) rfl (hb hby d4_78) ?_
        show Run p e below s _ _ _ (T17.setTop (mkF m 79 #[.val (.ref this), .val (.ref pat), .val (.long bt0), .second, .val (.int (1 : Int32)), .val (.int c1), .val (.int v13)] [(.ref (pg2 H1))]))
        refine Run.x_iload (q := 81) X17 hx (hb hby d4_79) rfl rfl ?_
        refine Run.x_sipush (q := 84) X17 hx (hb hby d4_81) (z := (255 : Int32)) rfl rfl ?_
        refine Run.x_iand (q := 85) X17 hx (hb hby d4_84) rfl rfl ?_
        refine Run.x_iload (q := 87) X17 hx (hb hby d4_85) rfl rfl ?_
        obtain ⟨L1, eL1, lL1, dL1⟩ := own_lo c1
        have ne_this_pH1 : this ≠ pg2 H1 := Ne.symm (hn_this _ lH1)
        have ne_pat_pH1 : pat ≠ pg2 H1 := Ne.symm (hn_pat _ lH1)
        have ne_ab_pH1 : ab ≠ pg2 H1 := Ne.symm hq
        refine Run.stI X17 hx hZ e17 (PG.2.2.1 H1 lH1) (i := L1) eL1 (by rw [own_row_len]; exact lL1) (hb hby d4_87) ?_
        intro T18 h18 X18 e18 W18 A18
        have N18 := Fr.snoc X18 N16 (PG.2.2.2.2.2 H1 lH1 hq)
        have Z18 : n0 ≤ h18.size := Nat.le_trans Z16 (Nat.le_of_eq W18.size.symm)
        replace PG : Pgs Z h18 n0 ab b2 pg2 (own_upd (own_upd (fun _ => -1) c0.toInt.toNat (Int32.ofNat 0)) c1.toInt.toNat (Int32.ofNat 1)) := by rw [← own_hl hr1.1 dH1 dL1]; exact PG.set lH1 lL1 hq W18
        show Run p e below s _ _ _ (T18.setTop (mkF m 88 #[.val (.ref this), .val (.ref pat), .val (.long bt0), .second, .val (.int (1 : Int32)), .val (.int c1), .val (.int v13)] []))
        refine Run.x_iload (q := 90) X18 hx (hb hby d4_88) rfl rfl ?_
        have JB1 : ∀ bt1 : Int64, bt1 = (if c1.toInt < 256 then bt0 else (bt0 ||| ((1 : Int64) <<< (c1 &&& 0x3f).toInt64))) → Run p e below s (fun v h L => ∃ (pa : Addr) (pg : Nat → Addr), v = none ∧ Fr n0 L ∧ Pgs Z h n0 ab pa pg (own_go (fun _ => -1) 0 [c0, c1, c2, c3]) ∧ Fld Z h this "needlewise/boyermoore/Rightmost" "pages" "[[I" (.ref pa) ∧ Fld Z h this "needlewise/boyermoore/Rightmost" "low" "[I" (.ref (pg 0)) ∧ Fld Z h this "needlewise/boyermoore/Rightmost" "filter" "J" (.long (own_bt 0 [c0, c1, c2, c3])) ∧ Exa Z h this "needlewise/boyermoore/Rightmost") ({ frames := 2, cells := 5, slots := 1280, locals := 29 } : Room).cells ({ frames := 2, cells := 5, slots := 1280, locals := 29 } : Room).slots (T18.setTop (mkF m 100 #[.val (.ref this), .val (.ref pat), .val (.long bt1), .second, .val (.int (1 : Int32)), .val (.int c1), .val (.int v13)] [])) := by
          intro bt1 hbt1
          refine Run.x_iinc (q := 103) X18 hx #[.val (.ref this), .val (.ref pat), .val (.long bt1), .second, .val (.int (2 : Int32)), .val (.int c1), .val (.int v13)] (hb hby d4_100) rfl (z := (2 : Int32)) (by decide) rfl rfl ?_
          refine Run.x_goto (q := 29) X18 hx (hb hby d4_103) (by decide) (by decide) ?_
          refine Run.x_iload (q := 31) X18 hx (hb hby d4_29) rfl rfl ?_
          refine Run.x_aloadN (q := 32) X18 hx (hb hby d4_31) rfl rfl rfl ?_
          replace A_pat := A_pat.other W18 ne_pat_pH1
          refine Run.alen X18 hx hZ e18 A_pat (z := (4 : Int32)) rfl (hb hby d4_32) ?_
          show Run p e below s _ _ _ (T18.setTop (mkF m 33 #[.val (.ref this), .val (.ref pat), .val (.long bt1), .second, .val (.int (2 : Int32)), .val (.int c1), .val (.int v13)] [(.int (4 : Int32)), (.int (2 : Int32))]))
          refine Run.x_icmpNo (q := 36) X18 hx (hb hby d4_33) (tlt (by decide : (2 : Int32) < (4 : Int32))).2.1 rfl ?_
          refine Run.x_aloadN (q := 37) X18 hx (hb hby d4_36) rfl rfl rfl ?_
          refine Run.x_iload (q := 39) X18 hx (hb hby d4_37) rfl rfl ?_
          refine Run.ldC X18 hx hZ e18 A_pat (i := 2) (v := (.int c2)) (by decide) rfl (hb hby d4_39) ?_
          show Run p e below s _ _ _ (T18.setTop (mkF m 40 #[.val (.ref this), .val (.ref pat), .val (.long bt1), .second, .val (.int (2 : Int32)), .val (.int c1), .val (.int v13)] [(.int c2)]))
          refine Run.x_istore (q := 42) X18 hx #[.val (.ref this), .val (.ref pat), .val (.long bt1), .second, .val (.int (2 : Int32)), .val (.int c2), .val (.int v13)] (hb hby d4_40) rfl rfl ?_
          refine Run.x_iload (q := 44) X18 hx (hb hby d4_42) rfl rfl ?_
          refine Run.x_bipush (q := 46) X18 hx (hb hby d4_44) (z := (8 : Int32)) rfl rfl ?_
          refine Run.x_iushr (q := 47) X18 hx (hb hby d4_46) rfl rfl ?_
          refine Run.x_istore (q := 49) X18 hx #[.val (.ref this), .val (.ref pat), .val (.long bt1), .second, .val (.int (2 : Int32)), .val (.int c2), .val (.int ((c2.toUInt32 >>> ((8 : Int32) &&& 31).toUInt32).toInt32))] (hb hby d4_47) rfl rfl ?_
          generalize hv19 : ((c2.toUInt32 >>> ((8 : Int32) &&& 31).toUInt32).toInt32) = v19
          refine Run.x_aloadN (q := 50) X18 hx (hb hby d4_49) rfl rfl rfl ?_
          replace F_this_pages := F_this_pages.other W18 (Or.inl ne_this_pH1)
          obtain ⟨T20, X20, e20, st20⟩ := getF X18 hx hZ hown (host := "") (Or.inl (hw _ (List.mem_of_getElem? (i := 17) rfl))) Via.refl e18 F_this_pages (g := (mkF m 50 #[.val (.ref this), .val (.ref pat), .val (.long bt1), .second, .val (.int (2 : Int32)), .val (.int c2), .val (.int v19)] [(.ref this)])) rfl rfl (hb hby d4_50)
          refine Run.st st20 ?_
          show Run p e below s _ _ _ (T20.setTop (mkF m 53 #[.val (.ref this), .val (.ref pat), .val (.long bt1), .second, .val (.int (2 : Int32)), .val (.int c2), .val (.int v19)] [(.ref b2)]))
          refine Run.x_iload (q := 55) X20 hx (hb hby d4_53) rfl rfl ?_
          obtain ⟨H2, eH2, lH2, dH2⟩ := own_hi hr2.1 hr2.2 hv19
          refine Run.ldR X20 hx hZ e20 PG.1 (i := H2) (v := .ref (pg2 H2)) eH2 (own_refs_at lH2) rfl (hb hby d4_55) ?_
          show Run p e below s _ _ _ (T20.setTop (mkF m 56 #[.val (.ref this), .val (.ref pat), .val (.long bt1), .second, .val (.int (2 : Int32)), .val (.int c2), .val (.int v19)] [(.ref (pg2 H2))]))
          replace S_ABSENT := S_ABSENT.wr W18
          obtain ⟨T21, X21, e21, st21⟩ := getS2 X20 hx hZ hown (host := "") (Or.inl (hw _ (List.mem_of_getElem? (i := 19) rfl))) Via.refl e20 S_ABSENT (g := (mkF m 56 #[.val (.ref this), .val (.ref pat), .val (.long bt1), .second, .val (.int (2 : Int32)), .val (.int c2), .val (.int v19)] [(.ref (pg2 H2))])) rfl (hb hby d4_56)
          refine Run.st st21 ?_
          show Run p e below s _ _ _ (T21.setTop (mkF m 59 #[.val (.ref this), .val (.ref pat), .val (.long bt1), .second, .val (.int (2 : Int32)), .val (.int c2), .val (.int v19)] [(.ref ab), (.ref (pg2 H2))]))
          have JP2 : ∀ (T22 : State) (h22 : Heap) (lo22 : List Loc) (pg3 : Nat → Addr), Stand p l e ({ frames := 2, cells := 5, slots := 1280, locals := 29 } : Room) s m #[(.ref this), (.ref pat)] below meth c T22 lo22 4 1024 → T22.heap = h22 → Fr n0 lo22 → n0 ≤ h22.size → Exa Z h22 this "needlewise/boyermoore/Rightmost" → Fld Z h22 this "needlewise/boyermoore/Rightmost" "pages" "[[I" (.ref b2) → Fld Z h22 this "needlewise/boyermoore/Rightmost" "low" "[I" .null → Fld Z h22 this "needlewise/boyermoore/Rightmost" "filter" "J" (.long (0 : Int64)) → Ars Z h22 pat .char [(.int c0), (.int c1), (.int c2), (.int c3)] → Sta Z h22 "needlewise/boyermoore/Rightmost" "ABSENT" "[I" (.ref ab) → Ars Z h22 ab .int (List.replicate 256 (.int (-1))) → Exa Z h22 ab "[I" → (Pgs Z h22 n0 ab b2 pg3 (own_upd (own_upd (fun _ => -1) c0.toInt.toNat (Int32.ofNat 0)) c1.toInt.toNat (Int32.ofNat 1))) → (∀ i, i < 256 → pg3 i ≠ this) → (∀ i, i < 256 → pg3 i ≠ pat) → (pg3 H2 ≠ ab) → Run p e below s (fun v h L => ∃ (pa : Addr) (pg : Nat → Addr), v = none ∧ Fr n0 L ∧ Pgs Z h n0 ab pa pg (own_go (fun _ => -1) 0 [c0, c1, c2, c3]) ∧ Fld Z h this "needlewise/boyermoore/Rightmost" "pages" "[[I" (.ref pa) ∧ Fld Z h this "needlewise/boyermoore/Rightmost" "low" "[I" (.ref (pg 0)) ∧ Fld Z h this "needlewise/boyermoore/Rightmost" "filter" "J" (.long (own_bt 0 [c0, c1, c2, c3])) ∧ Exa Z h this "needlewise/boyermoore/Rightmost") ({ frames := 2, cells := 5, slots := 1280, locals := 29 } : Room).cells ({ frames := 2, cells := 5, slots := 1280, locals := 29 } : Room).slots (T22.setTop (mkF m 72 #[.val (.ref this), .val (.ref pat), .val (.long bt1), .second, .val (.int (2 : Int32)), .val (.int c2), .val (.int v19)] [])) := by
            intro T22 h22 lo22 pg3 X22 e22 N22 Z22 E_this F_this_pages F_this_low F_this_filter A_pat S_ABSENT A_ab E_ab PG hn_this hn_pat hq
            refine Run.x_aloadN (q := 73) X22 hx (hb hby d4_72) rfl rfl rfl ?_
            obtain ⟨T23, X23, e23, st23⟩ := getF X22 hx hZ hown (host := "") (Or.inl (hw _ (List.mem_of_getElem? (i := 17) rfl))) Via.refl e22 F_this_pages (g := (mkF m 73 #[.val (.ref this), .val (.ref pat), .val (.long bt1), .second, .val (.int (2 : Int32)), .val (.int c2), .val (.int v19)] [(.ref this)])) rfl rfl (hb hby d4_73)
            refine Run.st st23 ?_
            show Run p e below s _ _ _ (T23.setTop (mkF m 76 #[.val (.ref this), .val (.ref pat), .val (.long bt1), .second, .val (.int (2 : Int32)), .val (.int c2), .val (.int v19)] [(.ref b2)]))
            refine Run.x_iload (q := 78) X23 hx (hb hby d4_76) rfl rfl ?_
            refine Run.ldR X23 hx hZ e23 PG.1 (i := H2) (v := .ref (pg3 H2)) eH2 (own_refs_at lH2) rfl (hb hby d4_78) ?_
            show Run p e below s _ _ _ (T23.setTop (mkF m 79 #[.val (.ref this), .val (.ref pat), .val (.long bt1), .second, .val (.int (2 : Int32)), .val (.int c2), .val (.int v19)] [(.ref (pg3 H2))]))
            refine Run.x_iload (q := 81) X23 hx (hb hby d4_79) rfl rfl ?_
            refine Run.x_sipush (q := 84) X23 hx (hb hby d4_81) (z := (255 : Int32)) rfl rfl ?_
            refine Run.x_iand (q := 85) X23 hx (hb hby d4_84) rfl rfl ?_
            refine Run.x_iload (q := 87) X23 hx (hb hby d4_85) rfl rfl ?_
            obtain ⟨L2, eL2, lL2, dL2⟩ := own_lo c2
            have ne_this_pH2 : this ≠ pg3 H2 := Ne.symm (hn_this _ lH2)
            have ne_pat_pH2 : pat ≠ pg3 H2 := Ne.symm (hn_pat _ lH2)
            have ne_ab_pH2 : ab ≠ pg3 H2 := Ne.symm hq
            refine Run.stI X23 hx hZ e23 (PG.2.2.1 H2 lH2) (i := L2) eL2 (by rw [own_row_len]; exact lL2) (hb hby d4_87) ?_
            intro T24 h24 X24 e24 W24 A24
            have N24 := Fr.snoc X24 N22 (PG.2.2.2.2.2 H2 lH2 hq)
            have Z24 : n0 ≤ h24.size := Nat.le_trans Z22 (Nat.le_of_eq W24.size.symm)
            replace PG : Pgs Z h24 n0 ab b2 pg3 (own_upd (own_upd (own_upd (fun _ => -1) c0.toInt.toNat (Int32.ofNat 0)) c1.toInt.toNat (Int32.ofNat 1)) c2.toInt.toNat (Int32.ofNat 2)) := by rw [← own_hl hr2.1 dH2 dL2]; exact PG.set lH2 lL2 hq W24
            show Run p e below s _ _ _ (T24.setTop (mkF m 88 #[.val (.ref this), .val (.ref pat), .val (.long bt1), .second, .val (.int (2 : Int32)), .val (.int c2), .val (.int v19)] []))
            refine Run.x_iload (q := 90) X24 hx (hb hby d4_88) rfl rfl ?_
            have JB2 : ∀ bt2 : Int64, bt2 = (if c2.toInt < 256 then bt1 else (bt1 ||| ((1 : Int64) <<< (c2 &&& 0x3f).toInt64))) → Run p e below s (fun v h L => ∃ (pa : Addr) (pg : Nat → Addr), v = none ∧ Fr n0 L ∧ Pgs Z h n0 ab pa pg (own_go (fun _ => -1) 0 [c0, c1, c2, c3]) ∧ Fld Z h this "needlewise/boyermoore/Rightmost" "pages" "[[I" (.ref pa) ∧ Fld Z h this "needlewise/boyermoore/Rightmost" "low" "[I" (.ref (pg 0)) ∧ Fld Z h this "needlewise/boyermoore/Rightmost" "filter" "J" (.long (own_bt 0 [c0, c1, c2, c3])) ∧ Exa Z h this "needlewise/boyermoore/Rightmost") ({ frames := 2, cells := 5, slots := 1280, locals := 29 } : Room).cells ({ frames := 2, cells := 5, slots := 1280, locals := 29 } : Room).slots (T24.setTop (mkF m 100 #[.val (.ref this), .val (.ref pat), .val (.long bt2), .second, .val (.int (2 : Int32)), .val (.int c2), .val (.int v19)] [])) := by
              intro bt2 hbt2
              refine Run.x_iinc (q := 103) X24 hx #[.val (.ref this), .val (.ref pat), .val (.long bt2), .second, .val (.int (3 : Int32)), .val (.int c2), .val (.int v19)] (hb hby d4_100) rfl (z := (3 : Int32)) (by decide) rfl rfl ?_
              refine Run.x_goto (q := 29) X24 hx (hb hby d4_103) (by decide) (by decide) ?_
              refine Run.x_iload (q := 31) X24 hx (hb hby d4_29) rfl rfl ?_
              refine Run.x_aloadN (q := 32) X24 hx (hb hby d4_31) rfl rfl rfl ?_
              replace A_pat := A_pat.other W24 ne_pat_pH2
              refine Run.alen X24 hx hZ e24 A_pat (z := (4 : Int32)) rfl (hb hby d4_32) ?_
              show Run p e below s _ _ _ (T24.setTop (mkF m 33 #[.val (.ref this), .val (.ref pat), .val (.long bt2), .second, .val (.int (3 : Int32)), .val (.int c2), .val (.int v19)] [(.int (4 : Int32)), (.int (3 : Int32))]))
              refine Run.x_icmpNo (q := 36) X24 hx (hb hby d4_33) (tlt (by decide : (3 : Int32) < (4 : Int32))).2.1 rfl ?_
              refine Run.x_aloadN (q := 37) X24 hx (hb hby d4_36) rfl rfl rfl ?_
              refine Run.x_iload (q := 39) X24 hx (hb hby d4_37) rfl rfl ?_
              refine Run.ldC X24 hx hZ e24 A_pat (i := 3) (v := (.int c3)) (by decide) rfl (hb hby d4_39) ?_
              show Run p e below s _ _ _ (T24.setTop (mkF m 40 #[.val (.ref this), .val (.ref pat), .val (.long bt2), .second, .val (.int (3 : Int32)), .val (.int c2), .val (.int v19)] [(.int c3)]))
              refine Run.x_istore (q := 42) X24 hx #[.val (.ref this), .val (.ref pat), .val (.long bt2), .second, .val (.int (3 : Int32)), .val (.int c3), .val (.int v19)] (hb hby d4_40) rfl rfl ?_
              refine Run.x_iload (q := 44) X24 hx (hb hby d4_42) rfl rfl ?_
              refine Run.x_bipush (q := 46) X24 hx (hb hby d4_44) (z := (8 : Int32)) rfl rfl ?_
              refine Run.x_iushr (q := 47) X24 hx (hb hby d4_46) rfl rfl ?_
              refine Run.x_istore (q := 49) X24 hx #[.val (.ref this), .val (.ref pat), .val (.long bt2), .second, .val (.int (3 : Int32)), .val (.int c3), .val (.int ((c3.toUInt32 >>> ((8 : Int32) &&& 31).toUInt32).toInt32))] (hb hby d4_47) rfl rfl ?_
              generalize hv25 : ((c3.toUInt32 >>> ((8 : Int32) &&& 31).toUInt32).toInt32) = v25
              refine Run.x_aloadN (q := 50) X24 hx (hb hby d4_49) rfl rfl rfl ?_
              replace F_this_pages := F_this_pages.other W24 (Or.inl ne_this_pH2)
              obtain ⟨T26, X26, e26, st26⟩ := getF X24 hx hZ hown (host := "") (Or.inl (hw _ (List.mem_of_getElem? (i := 17) rfl))) Via.refl e24 F_this_pages (g := (mkF m 50 #[.val (.ref this), .val (.ref pat), .val (.long bt2), .second, .val (.int (3 : Int32)), .val (.int c3), .val (.int v25)] [(.ref this)])) rfl rfl (hb hby d4_50)
              refine Run.st st26 ?_
              show Run p e below s _ _ _ (T26.setTop (mkF m 53 #[.val (.ref this), .val (.ref pat), .val (.long bt2), .second, .val (.int (3 : Int32)), .val (.int c3), .val (.int v25)] [(.ref b2)]))
              refine Run.x_iload (q := 55) X26 hx (hb hby d4_53) rfl rfl ?_
              obtain ⟨H3, eH3, lH3, dH3⟩ := own_hi hr3.1 hr3.2 hv25
              refine Run.ldR X26 hx hZ e26 PG.1 (i := H3) (v := .ref (pg3 H3)) eH3 (own_refs_at lH3) rfl (hb hby d4_55) ?_
              show Run p e below s _ _ _ (T26.setTop (mkF m 56 #[.val (.ref this), .val (.ref pat), .val (.long bt2), .second, .val (.int (3 : Int32)), .val (.int c3), .val (.int v25)] [(.ref (pg3 H3))]))
              replace S_ABSENT := S_ABSENT.wr W24
              obtain ⟨T27, X27, e27, st27⟩ := getS2 X26 hx hZ hown (host := "") (Or.inl (hw _ (List.mem_of_getElem? (i := 19) rfl))) Via.refl e26 S_ABSENT (g := (mkF m 56 #[.val (.ref this), .val (.ref pat), .val (.long bt2), .second, .val (.int (3 : Int32)), .val (.int c3), .val (.int v25)] [(.ref (pg3 H3))])) rfl (hb hby d4_56)
              refine Run.st st27 ?_
              show Run p e below s _ _ _ (T27.setTop (mkF m 59 #[.val (.ref this), .val (.ref pat), .val (.long bt2), .second, .val (.int (3 : Int32)), .val (.int c3), .val (.int v25)] [(.ref ab), (.ref (pg3 H3))]))
              have JP3 : ∀ (T28 : State) (h28 : Heap) (lo28 : List Loc) (pg4 : Nat → Addr), Stand p l e ({ frames := 2, cells := 5, slots := 1280, locals := 29 } : Room) s m #[(.ref this), (.ref pat)] below meth c T28 lo28 5 1280 → T28.heap = h28 → Fr n0 lo28 → n0 ≤ h28.size → Exa Z h28 this "needlewise/boyermoore/Rightmost" → Fld Z h28 this "needlewise/boyermoore/Rightmost" "pages" "[[I" (.ref b2) → Fld Z h28 this "needlewise/boyermoore/Rightmost" "low" "[I" .null → Fld Z h28 this "needlewise/boyermoore/Rightmost" "filter" "J" (.long (0 : Int64)) → Ars Z h28 pat .char [(.int c0), (.int c1), (.int c2), (.int c3)] → Sta Z h28 "needlewise/boyermoore/Rightmost" "ABSENT" "[I" (.ref ab) → Ars Z h28 ab .int (List.replicate 256 (.int (-1))) → Exa Z h28 ab "[I" → (Pgs Z h28 n0 ab b2 pg4 (own_upd (own_upd (own_upd (fun _ => -1) c0.toInt.toNat (Int32.ofNat 0)) c1.toInt.toNat (Int32.ofNat 1)) c2.toInt.toNat (Int32.ofNat 2))) → (∀ i, i < 256 → pg4 i ≠ this) → (∀ i, i < 256 → pg4 i ≠ pat) → (pg4 H3 ≠ ab) → Run p e below s (fun v h L => ∃ (pa : Addr) (pg : Nat → Addr), v = none ∧ Fr n0 L ∧ Pgs Z h n0 ab pa pg (own_go (fun _ => -1) 0 [c0, c1, c2, c3]) ∧ Fld Z h this "needlewise/boyermoore/Rightmost" "pages" "[[I" (.ref pa) ∧ Fld Z h this "needlewise/boyermoore/Rightmost" "low" "[I" (.ref (pg 0)) ∧ Fld Z h this "needlewise/boyermoore/Rightmost" "filter" "J" (.long (own_bt 0 [c0, c1, c2, c3])) ∧ Exa Z h this "needlewise/boyermoore/Rightmost") ({ frames := 2, cells := 5, slots := 1280, locals := 29 } : Room).cells ({ frames := 2, cells := 5, slots := 1280, locals := 29 } : Room).slots (T28.setTop (mkF m 72 #[.val (.ref this), .val (.ref pat), .val (.long bt2), .second, .val (.int (3 : Int32)), .val (.int c3), .val (.int v25)] [])) := by
                intro T28 h28 lo28 pg4 X28 e28 N28 Z28 E_this F_this_pages F_this_low F_this_filter A_pat S_ABSENT A_ab E_ab PG hn_this hn_pat hq
                refine Run.x_aloadN (q := 73) X28 hx (hb hby d4_72) rfl rfl rfl ?_
                obtain ⟨T29, X29, e29, st29⟩ := getF X28 hx hZ hown (host := "") (Or.inl (hw _ (List.mem_of_getElem? (i := 17) rfl))) Via.refl e28 F_this_pages (g := (mkF m 73 #[.val (.ref this), .val (.ref pat), .val (.long bt2), .second, .val (.int (3 : Int32)), .val (.int c3), .val (.int v25)] [(.ref this)])) rfl rfl (hb hby d4_73)
                refine Run.st st29 ?_
                show Run p e below s _ _ _ (T29.setTop (mkF m 76 #[.val (.ref this), .val (.ref pat), .val (.long bt2), .second, .val (.int (3 : Int32)), .val (.int c3), .val (.int v25)] [(.ref b2)]))
                refine Run.x_iload (q := 78) X29 hx (hb hby d4_76) rfl rfl ?_
                refine Run.ldR X29 hx hZ e29 PG.1 (i := H3) (v := .ref (pg4 H3)) eH3 (own_refs_at lH3) rfl (hb hby d4_78) ?_
                show Run p e below s _ _ _ (T29.setTop (mkF m 79 #[.val (.ref this), .val (.ref pat), .val (.long bt2), .second, .val (.int (3 : Int32)), .val (.int c3), .val (.int v25)] [(.ref (pg4 H3))]))
                refine Run.x_iload (q := 81) X29 hx (hb hby d4_79) rfl rfl ?_
                refine Run.x_sipush (q := 84) X29 hx (hb hby d4_81) (z := (255 : Int32)) rfl rfl ?_
                refine Run.x_iand (q := 85) X29 hx (hb hby d4_84) rfl rfl ?_
                refine Run.x_iload (q := 87) X29 hx (hb hby d4_85) rfl rfl ?_
                obtain ⟨L3, eL3, lL3, dL3⟩ := own_lo c3
                have ne_this_pH3 : this ≠ pg4 H3 := Ne.symm (hn_this _ lH3)
                have ne_pat_pH3 : pat ≠ pg4 H3 := Ne.symm (hn_pat _ lH3)
                have ne_ab_pH3 : ab ≠ pg4 H3 := Ne.symm hq
                refine Run.stI X29 hx hZ e29 (PG.2.2.1 H3 lH3) (i := L3) eL3 (by rw [own_row_len]; exact lL3) (hb hby d4_87) ?_
                intro T30 h30 X30 e30 W30 A30
                have N30 := Fr.snoc X30 N28 (PG.2.2.2.2.2 H3 lH3 hq)
                have Z30 : n0 ≤ h30.size := Nat.le_trans Z28 (Nat.le_of_eq W30.size.symm)
                replace PG : Pgs Z h30 n0 ab b2 pg4 (own_upd (own_upd (own_upd (own_upd (fun _ => -1) c0.toInt.toNat (Int32.ofNat 0)) c1.toInt.toNat (Int32.ofNat 1)) c2.toInt.toNat (Int32.ofNat 2)) c3.toInt.toNat (Int32.ofNat 3)) := by rw [← own_hl hr3.1 dH3 dL3]; exact PG.set lH3 lL3 hq W30
                show Run p e below s _ _ _ (T30.setTop (mkF m 88 #[.val (.ref this), .val (.ref pat), .val (.long bt2), .second, .val (.int (3 : Int32)), .val (.int c3), .val (.int v25)] []))
                refine Run.x_iload (q := 90) X30 hx (hb hby d4_88) rfl rfl ?_
                have JB3 : ∀ bt3 : Int64, bt3 = (if c3.toInt < 256 then bt2 else (bt2 ||| ((1 : Int64) <<< (c3 &&& 0x3f).toInt64))) → Run p e below s (fun v h L => ∃ (pa : Addr) (pg : Nat → Addr), v = none ∧ Fr n0 L ∧ Pgs Z h n0 ab pa pg (own_go (fun _ => -1) 0 [c0, c1, c2, c3]) ∧ Fld Z h this "needlewise/boyermoore/Rightmost" "pages" "[[I" (.ref pa) ∧ Fld Z h this "needlewise/boyermoore/Rightmost" "low" "[I" (.ref (pg 0)) ∧ Fld Z h this "needlewise/boyermoore/Rightmost" "filter" "J" (.long (own_bt 0 [c0, c1, c2, c3])) ∧ Exa Z h this "needlewise/boyermoore/Rightmost") ({ frames := 2, cells := 5, slots := 1280, locals := 29 } : Room).cells ({ frames := 2, cells := 5, slots := 1280, locals := 29 } : Room).slots (T30.setTop (mkF m 100 #[.val (.ref this), .val (.ref pat), .val (.long bt3), .second, .val (.int (3 : Int32)), .val (.int c3), .val (.int v25)] [])) := by
                  intro bt3 hbt3
                  refine Run.x_iinc (q := 103) X30 hx #[.val (.ref this), .val (.ref pat), .val (.long bt3), .second, .val (.int (4 : Int32)), .val (.int c3), .val (.int v25)] (hb hby d4_100) rfl (z := (4 : Int32)) (by decide) rfl rfl ?_
                  refine Run.x_goto (q := 29) X30 hx (hb hby d4_103) (by decide) (by decide) ?_
                  refine Run.x_iload (q := 31) X30 hx (hb hby d4_29) rfl rfl ?_
                  refine Run.x_aloadN (q := 32) X30 hx (hb hby d4_31) rfl rfl rfl ?_
                  replace A_pat := A_pat.other W30 ne_pat_pH3
                  refine Run.alen X30 hx hZ e30 A_pat (z := (4 : Int32)) rfl (hb hby d4_32) ?_
                  show Run p e below s _ _ _ (T30.setTop (mkF m 33 #[.val (.ref this), .val (.ref pat), .val (.long bt3), .second, .val (.int (4 : Int32)), .val (.int c3), .val (.int v25)] [(.int (4 : Int32)), (.int (4 : Int32))]))
                  refine Run.x_icmpYes (q := 106) X30 hx (hb hby d4_33) (flt (by decide : ¬ ((4 : Int32) < (4 : Int32)))).2.1 (by decide) (by decide) ?_
                  refine Run.x_aloadN (q := 107) X30 hx (hb hby d4_106) rfl rfl rfl ?_
                  refine Run.x_aloadN (q := 108) X30 hx (hb hby d4_107) rfl rfl rfl ?_
                  replace F_this_pages := F_this_pages.other W30 (Or.inl ne_this_pH3)
                  obtain ⟨T31, X31, e31, st31⟩ := getF X30 hx hZ hown (host := "") (Or.inl (hw _ (List.mem_of_getElem? (i := 17) rfl))) Via.refl e30 F_this_pages (g := (mkF m 108 #[.val (.ref this), .val (.ref pat), .val (.long bt3), .second, .val (.int (4 : Int32)), .val (.int c3), .val (.int v25)] [(.ref this), (.ref this)])) rfl rfl (hb hby d4_108)
                  refine Run.st st31 ?_
                  show Run p e below s _ _ _ (T31.setTop (mkF m 111 #[.val (.ref this), .val (.ref pat), .val (.long bt3), .second, .val (.int (4 : Int32)), .val (.int c3), .val (.int v25)] [(.ref b2), (.ref this)]))
                  refine Run.x_iconst (q := 112) X31 hx (hb hby d4_111) (z := (0 : Int32)) rfl rfl ?_
                  refine Run.ldR X31 hx hZ e31 PG.1 (i := 0) (v := .ref (pg4 0)) (by decide) (own_refs_at (by decide)) rfl (hb hby d4_112) ?_
                  show Run p e below s _ _ _ (T31.setTop (mkF m 113 #[.val (.ref this), .val (.ref pat), .val (.long bt3), .second, .val (.int (4 : Int32)), .val (.int c3), .val (.int v25)] [(.ref (pg4 0)), (.ref this)]))
                  replace F_this_low := F_this_low.other W30 (Or.inl ne_this_pH3)
                  replace E_this := E_this.wr W30
                  obtain ⟨T32, h32, X32, e32, W32, st32⟩ := putF X31 hx hZ hown (host := "") (Or.inl (hw _ (List.mem_of_getElem? (i := 33) rfl))) Via.refl e31 F_this_low E_this (Or.inr ⟨(hw _ (List.mem_of_getElem? (i := 34) rfl)), rfl, hnm⟩) (hw _ (List.mem_of_getElem? (i := 7) rfl)) (ty := (.array .int)) (by decide) rfl rfl (g := (mkF m 113 #[.val (.ref this), .val (.ref pat), .val (.long bt3), .second, .val (.int (4 : Int32)), .val (.int c3), .val (.int v25)] [(.ref (pg4 0)), (.ref this)])) rfl rfl (hb hby d4_113)
                  replace F_this_low := F_this_low.same W32
                  have Z32 : n0 ≤ h32.size := Nat.le_trans Z30 (Nat.le_of_eq W32.size.symm)
                  have N32 := Fr.snoc X32 N30 g_this
                  refine Run.st st32 ?_
                  show Run p e below s _ _ _ (T32.setTop (mkF m 116 #[.val (.ref this), .val (.ref pat), .val (.long bt3), .second, .val (.int (4 : Int32)), .val (.int c3), .val (.int v25)] []))
                  replace PG := PG.wrO W32 (Ne.symm ne_this_b2) hn_this
                  refine Run.x_aloadN (q := 117) X32 hx (hb hby d4_116) rfl rfl rfl ?_
                  refine Run.x_lloadN (q := 118) X32 hx (hb hby d4_117) rfl rfl ?_
                  replace F_this_filter := (F_this_filter.other W30 (Or.inl ne_this_pH3)).other W32 (Or.inr (slot_ne (Or.inr (hw _ (List.mem_of_getElem? (i := 36) rfl))) (Or.inr (hw _ (List.mem_of_getElem? (i := 34) rfl))) (by decide) (t := .long) (t' := (.array .int)) (by decide) (by decide)))
                  replace E_this := E_this.wr W32
                  obtain ⟨T33, h33, X33, e33, W33, st33⟩ := putF X32 hx hZ hown (host := "") (Or.inl (hw _ (List.mem_of_getElem? (i := 35) rfl))) Via.refl e32 F_this_filter E_this (Or.inr ⟨(hw _ (List.mem_of_getElem? (i := 36) rfl)), rfl, hnm⟩) (hw _ (List.mem_of_getElem? (i := 7) rfl)) (ty := .long) (by decide) rfl rfl (g := (mkF m 118 #[.val (.ref this), .val (.ref pat), .val (.long bt3), .second, .val (.int (4 : Int32)), .val (.int c3), .val (.int v25)] [(.long bt3), (.ref this)])) rfl rfl (hb hby d4_118)
                  replace F_this_filter := F_this_filter.same W33
                  have Z33 : n0 ≤ h33.size := Nat.le_trans Z32 (Nat.le_of_eq W33.size.symm)
                  have N33 := Fr.snoc X33 N32 g_this
                  refine Run.st st33 ?_
                  show Run p e below s _ _ _ (T33.setTop (mkF m 121 #[.val (.ref this), .val (.ref pat), .val (.long bt3), .second, .val (.int (4 : Int32)), .val (.int c3), .val (.int v25)] []))
                  replace PG := PG.wrO W33 (Ne.symm ne_this_b2) hn_this
                  replace E_this := E_this.wr W33
                  replace F_this_pages := (F_this_pages.other W32 (Or.inr (slot_ne (Or.inr (hw _ (List.mem_of_getElem? (i := 18) rfl))) (Or.inr (hw _ (List.mem_of_getElem? (i := 34) rfl))) (by decide) (t := (.array (.array .int))) (t' := (.array .int)) (by decide) (by decide)))).other W33 (Or.inr (slot_ne (Or.inr (hw _ (List.mem_of_getElem? (i := 18) rfl))) (Or.inr (hw _ (List.mem_of_getElem? (i := 36) rfl))) (by decide) (t := (.array (.array .int))) (t' := .long) (by decide) (by decide)))
                  replace F_this_low := F_this_low.other W33 (Or.inr (slot_ne (Or.inr (hw _ (List.mem_of_getElem? (i := 34) rfl))) (Or.inr (hw _ (List.mem_of_getElem? (i := 36) rfl))) (by decide) (t := (.array .int)) (t' := .long) (by decide) (by decide)))
                  replace A_pat := (A_pat.other W32 (Ne.symm ne_this_pat)).other W33 (Ne.symm ne_this_pat)
                  replace S_ABSENT := ((S_ABSENT.wr W30).wr W32).wr W33
                  replace A_ab := ((A_ab.other W30 ne_ab_pH3).other W32 (Ne.symm ne_this_ab)).other W33 (Ne.symm ne_this_ab)
                  replace E_ab := ((E_ab.wr W30).wr W32).wr W33
                  refine Run.retV X33 hx hlk e33 hret (hb hby d4_121) (by decide) (by decide) ?_
                  subst hbt3
                  subst hbt2
                  subst hbt1
                  subst hbt0
                  exact ⟨b2, pg4, rfl, N33, PG, F_this_pages, F_this_low, F_this_filter, E_this⟩
                by_cases hc90 : (0 : Int32) < v25
                · skip
                  refine Run.x_ifNo (q := 93) X30 hx (hb hby d4_90) ((if0 _ _).trans (tlt hc90).2.2.2) rfl ?_
                  refine Run.x_lloadN (q := 94) X30 hx (hb hby d4_93) rfl rfl ?_
                  refine Run.x_lconst (q := 95) X30 hx (hb hby d4_94) (z := (1 : Int64)) rfl rfl ?_
                  refine Run.x_iload (q := 97) X30 hx (hb hby d4_95) rfl rfl ?_
                  refine Run.x_lshl (q := 98) X30 hx (hb hby d4_97) rfl rfl ?_
                  refine Run.x_lor (q := 99) X30 hx (hb hby d4_98) rfl rfl ?_
                  refine Run.x_lstoreN (q := 100) X30 hx #[.val (.ref this), .val (.ref pat), .val (.long (bt2 ||| ((1 : Int64) <<< (c3 &&& 0x3f).toInt64))), .second, .val (.int (3 : Int32)), .val (.int c3), .val (.int v25)] (hb hby d4_99) rfl rfl ?_
                  exact JB3 _ (if_neg (own_h1 eH3 dH3 hc90)).symm
                · skip
                  refine Run.x_ifYes (q := 100) X30 hx (hb hby d4_90) ((if0 _ _).trans (flt hc90).2.2.2) (by decide) (by decide) ?_
                  exact JB3 _ (if_pos (own_h0 eH3 dH3 hc90)).symm
              by_cases hq : pg3 H3 = ab
              · skip
                refine Run.st (B := T27.setTop (mkF m 62 #[.val (.ref this), .val (.ref pat), .val (.long bt2), .second, .val (.int (3 : Int32)), .val (.int c3), .val (.int v25)] [])) (fun t kt => Jvm.RoadKit.acmp (g := (mkF m 59 #[.val (.ref this), .val (.ref pat), .val (.long bt2), .second, .val (.int (3 : Int32)), .val (.int c3), .val (.int v25)] [(.ref ab), (.ref (pg3 H3))])) X27 hx rfl rfl rfl (pc0 := 59) (pc' := 62) (same := true) rfl (hb hby d4_59) rfl (decide_eq_true (congrArg Value.ref hq)) (by decide) (by decide) kt) ?_
                refine Run.x_aloadN (q := 63) X27 hx (hb hby d4_62) rfl rfl rfl ?_
                obtain ⟨T34, X34, e34, st34⟩ := getF X27 hx hZ hown (host := "") (Or.inl (hw _ (List.mem_of_getElem? (i := 17) rfl))) Via.refl e27 F_this_pages (g := (mkF m 63 #[.val (.ref this), .val (.ref pat), .val (.long bt2), .second, .val (.int (3 : Int32)), .val (.int c3), .val (.int v25)] [(.ref this)])) rfl rfl (hb hby d4_63)
                refine Run.st st34 ?_
                show Run p e below s _ _ _ (T34.setTop (mkF m 66 #[.val (.ref this), .val (.ref pat), .val (.long bt2), .second, .val (.int (3 : Int32)), .val (.int c3), .val (.int v25)] [(.ref b2)]))
                refine Run.x_iload (q := 68) X34 hx (hb hby d4_66) rfl rfl ?_
                refine Run.callS X34 hx hZ e34 (y := (⟨"needlewise/boyermoore/Rightmost", "newPage", "()[I"⟩ : MethodName)) hown (hw _ (List.mem_of_getElem? (i := 26) rfl)) (hw _ (List.mem_of_getElem? (i := 27) rfl)) (hw _ (List.mem_of_getElem? (i := 8) rfl)) (hw _ (List.mem_of_getElem? (i := 28) rfl)) (by decide) (argsL := []) (rest := [(.int v25), (.ref b2)]) (c_page l Z a0 hw h24 n0 Z24) pd_2 rfl (by rw [hml]; rfl) (W := 2) rfl (by decide) (by decide) (by decide) (by decide) (hb hby d4_68) rfl ?_
                intro T35 v35 L35 X35 q35
                obtain ⟨np35, rfl, M35, K35, sz35, An35, En35⟩ := q35
                have N35 := Fr.app N24 M35
                show Run p e below s _ _ _ (T35.setTop (mkF m 71 #[.val (.ref this), .val (.ref pat), .val (.long bt2), .second, .val (.int (3 : Int32)), .val (.int c3), .val (.int v25)] [(.ref np35), (.int v25), (.ref b2)]))
                have hlt := PG.lt sz35
                have ne_b2_np35 : b2 ≠ np35 := Nat.ne_of_lt (Nat.lt_of_lt_of_le PG.1.lt sz35)
                have g_np35 : n0 ≤ np35 := Nat.le_trans Z24 sz35
                replace PG := PG.ext (Keep_ext K35)
                replace E_this := E_this.wr W24
                have ne_this_np35 : this ≠ np35 := Nat.ne_of_lt (Nat.lt_of_lt_of_le E_this.lt sz35)
                replace A_ab := A_ab.other W24 ne_ab_pH2
                have ne_ab_np35 : ab ≠ np35 := Nat.ne_of_lt (Nat.lt_of_lt_of_le A_ab.lt sz35)
                have ne_pat_np35 : pat ≠ np35 := Nat.ne_of_lt (Nat.lt_of_lt_of_le A_pat.lt sz35)
                replace S_ABSENT := Sta_keep S_ABSENT K35 all0
                have Z35 : n0 ≤ T35.heap.size := Nat.le_trans Z24 K35.1
                refine Run.stR X35 hx hZ rfl PG.1 (i := H3) eH3 (by rw [own_refs_len]; exact lH3) rfl (own_sto PG.1 PG.2.1 En35) (hb hby d4_71) ?_
                intro T36 h36 X36 e36 W36 A36
                replace A_ab := A_ab.keep K35 nin0
                replace PG := Pgs.new PG lH3 hq (by rw [Pgs.page PG lH3 hq A_ab]; exact An35) (Ne.symm ne_b2_np35) hlt g_np35 W36 (Ne.symm ne_ab_np35)
                have N36 := Fr.snoc X36 N35 g_b2
                have Z36 : n0 ≤ h36.size := Nat.le_trans Z35 (Nat.le_of_eq W36.size.symm)
                show Run p e below s _ _ _ (T36.setTop (mkF m 72 #[.val (.ref this), .val (.ref pat), .val (.long bt2), .second, .val (.int (3 : Int32)), .val (.int c3), .val (.int v25)] []))
                replace E_this := (E_this.keep K35).wr W36
                replace F_this_pages := (F_this_pages.keep K35 nin0).other W36 (Or.inl ne_this_b2)
                replace F_this_low := ((F_this_low.other W24 (Or.inl ne_this_pH2)).keep K35 nin0).other W36 (Or.inl ne_this_b2)
                replace F_this_filter := ((F_this_filter.other W24 (Or.inl ne_this_pH2)).keep K35 nin0).other W36 (Or.inl ne_this_b2)
                replace A_pat := (A_pat.keep K35 nin0).other W36 ne_pat_b2
                replace S_ABSENT := S_ABSENT.wr W36
                replace A_ab := A_ab.other W36 ne_ab_b2
                replace E_ab := ((E_ab.wr W24).keep K35).wr W36
                exact JP3 T36 h36 _ _ X36 e36 N36 Z36 E_this F_this_pages F_this_low F_this_filter A_pat S_ABSENT A_ab E_ab PG (own_nt hn_this (Ne.symm ne_this_np35)) (own_nt hn_pat (Ne.symm ne_pat_np35)) (by rw [own_upd_self]; exact (Ne.symm ne_ab_np35))
              · skip
                refine Run.st (B := T27.setTop (mkF m 72 #[.val (.ref this), .val (.ref pat), .val (.long bt2), .second, .val (.int (3 : Int32)), .val (.int c3), .val (.int v25)] [])) (fun t kt => Jvm.RoadKit.acmp (g := (mkF m 59 #[.val (.ref this), .val (.ref pat), .val (.long bt2), .second, .val (.int (3 : Int32)), .val (.int c3), .val (.int v25)] [(.ref ab), (.ref (pg3 H3))])) X27 hx rfl rfl rfl (pc0 := 59) (pc' := 72) (same := false) rfl (hb hby d4_59) rfl (decide_eq_false fun q => hq (Value.ref.inj q)) (by decide) (by decide) kt) ?_
                replace E_this := E_this.wr W24
                replace F_this_low := F_this_low.other W24 (Or.inl ne_this_pH2)
                replace F_this_filter := F_this_filter.other W24 (Or.inl ne_this_pH2)
                replace A_ab := A_ab.other W24 ne_ab_pH2
                replace E_ab := E_ab.wr W24
                exact JP3 T27 h24 _ _ (X27.more (by decide) (by decide)) e27 N24 Z24 E_this F_this_pages F_this_low F_this_filter A_pat S_ABSENT A_ab E_ab PG hn_this hn_pat hq
            by_cases hc90 : (0 : Int32) < v19
            · skip
              refine Run.x_ifNo (q := 93) X24 hx (hb hby d4_90) ((if0 _ _).trans (tlt hc90).2.2.2) rfl ?_
              refine Run.x_lloadN (q := 94) X24 hx (hb hby d4_93) rfl rfl ?_
              refine Run.x_lconst (q := 95) X24 hx (hb hby d4_94) (z := (1 : Int64)) rfl rfl ?_
              refine Run.x_iload (q := 97) X24 hx (hb hby d4_95) rfl rfl ?_
              refine Run.x_lshl (q := 98) X24 hx (hb hby d4_97) rfl rfl ?_
              refine Run.x_lor (q := 99) X24 hx (hb hby d4_98) rfl rfl ?_
              refine Run.x_lstoreN (q := 100) X24 hx #[.val (.ref this), .val (.ref pat), .val (.long (bt1 ||| ((1 : Int64) <<< (c2 &&& 0x3f).toInt64))), .second, .val (.int (2 : Int32)), .val (.int c2), .val (.int v19)] (hb hby d4_99) rfl rfl ?_
              exact JB2 _ (if_neg (own_h1 eH2 dH2 hc90)).symm
            · skip
              refine Run.x_ifYes (q := 100) X24 hx (hb hby d4_90) ((if0 _ _).trans (flt hc90).2.2.2) (by decide) (by decide) ?_
              exact JB2 _ (if_pos (own_h0 eH2 dH2 hc90)).symm
          by_cases hq : pg2 H2 = ab
          · skip
            refine Run.st (B := T21.setTop (mkF m 62 #[.val (.ref this), .val (.ref pat), .val (.long bt1), .second, .val (.int (2 : Int32)), .val (.int c2), .val (.int v19)] [])) (fun t kt => Jvm.RoadKit.acmp (g := (mkF m 59 #[.val (.ref this), .val (.ref pat), .val (.long bt1), .second, .val (.int (2 : Int32)), .val (.int c2), .val (.int v19)] [(.ref ab), (.ref (pg2 H2))])) X21 hx rfl rfl rfl (pc0 := 59) (pc' := 62) (same := true) rfl (hb hby d4_59) rfl (decide_eq_true (congrArg Value.ref hq)) (by decide) (by decide) kt) ?_
            refine Run.x_aloadN (q := 63) X21 hx (hb hby d4_62) rfl rfl rfl ?_
            obtain ⟨T37, X37, e37, st37⟩ := getF X21 hx hZ hown (host := "") (Or.inl (hw _ (List.mem_of_getElem? (i := 17) rfl))) Via.refl e21 F_this_pages (g := (mkF m 63 #[.val (.ref this), .val (.ref pat), .val (.long bt1), .second, .val (.int (2 : Int32)), .val (.int c2), .val (.int v19)] [(.ref this)])) rfl rfl (hb hby d4_63)
            refine Run.st st37 ?_
            show Run p e below s _ _ _ (T37.setTop (mkF m 66 #[.val (.ref this), .val (.ref pat), .val (.long bt1), .second, .val (.int (2 : Int32)), .val (.int c2), .val (.int v19)] [(.ref b2)]))
            refine Run.x_iload (q := 68) X37 hx (hb hby d4_66) rfl rfl ?_
            refine Run.callS X37 hx hZ e37 (y := (⟨"needlewise/boyermoore/Rightmost", "newPage", "()[I"⟩ : MethodName)) hown (hw _ (List.mem_of_getElem? (i := 26) rfl)) (hw _ (List.mem_of_getElem? (i := 27) rfl)) (hw _ (List.mem_of_getElem? (i := 8) rfl)) (hw _ (List.mem_of_getElem? (i := 28) rfl)) (by decide) (argsL := []) (rest := [(.int v19), (.ref b2)]) (c_page l Z a0 hw h18 n0 Z18) pd_2 rfl (by rw [hml]; rfl) (W := 2) rfl (by decide) (by decide) (by decide) (by decide) (hb hby d4_68) rfl ?_
            intro T38 v38 L38 X38 q38
            obtain ⟨np38, rfl, M38, K38, sz38, An38, En38⟩ := q38
            have N38 := Fr.app N18 M38
            show Run p e below s _ _ _ (T38.setTop (mkF m 71 #[.val (.ref this), .val (.ref pat), .val (.long bt1), .second, .val (.int (2 : Int32)), .val (.int c2), .val (.int v19)] [(.ref np38), (.int v19), (.ref b2)]))
            have hlt := PG.lt sz38
            have ne_b2_np38 : b2 ≠ np38 := Nat.ne_of_lt (Nat.lt_of_lt_of_le PG.1.lt sz38)
            have g_np38 : n0 ≤ np38 := Nat.le_trans Z18 sz38
            replace PG := PG.ext (Keep_ext K38)
            replace E_this := E_this.wr W18
            have ne_this_np38 : this ≠ np38 := Nat.ne_of_lt (Nat.lt_of_lt_of_le E_this.lt sz38)
            replace A_ab := A_ab.other W18 ne_ab_pH1
            have ne_ab_np38 : ab ≠ np38 := Nat.ne_of_lt (Nat.lt_of_lt_of_le A_ab.lt sz38)
            have ne_pat_np38 : pat ≠ np38 := Nat.ne_of_lt (Nat.lt_of_lt_of_le A_pat.lt sz38)
            replace S_ABSENT := Sta_keep S_ABSENT K38 all0
            have Z38 : n0 ≤ T38.heap.size := Nat.le_trans Z18 K38.1
            refine Run.stR X38 hx hZ rfl PG.1 (i := H2) eH2 (by rw [own_refs_len]; exact lH2) rfl (own_sto PG.1 PG.2.1 En38) (hb hby d4_71) ?_
            intro T39 h39 X39 e39 W39 A39
            replace A_ab := A_ab.keep K38 nin0
            replace PG := Pgs.new PG lH2 hq (by rw [Pgs.page PG lH2 hq A_ab]; exact An38) (Ne.symm ne_b2_np38) hlt g_np38 W39 (Ne.symm ne_ab_np38)
            have N39 := Fr.snoc X39 N38 g_b2
            have Z39 : n0 ≤ h39.size := Nat.le_trans Z38 (Nat.le_of_eq W39.size.symm)
            show Run p e below s _ _ _ (T39.setTop (mkF m 72 #[.val (.ref this), .val (.ref pat), .val (.long bt1), .second, .val (.int (2 : Int32)), .val (.int c2), .val (.int v19)] []))
            replace E_this := (E_this.keep K38).wr W39
            replace F_this_pages := (F_this_pages.keep K38 nin0).other W39 (Or.inl ne_this_b2)
            replace F_this_low := ((F_this_low.other W18 (Or.inl ne_this_pH1)).keep K38 nin0).other W39 (Or.inl ne_this_b2)
            replace F_this_filter := ((F_this_filter.other W18 (Or.inl ne_this_pH1)).keep K38 nin0).other W39 (Or.inl ne_this_b2)
            replace A_pat := (A_pat.keep K38 nin0).other W39 ne_pat_b2
            replace S_ABSENT := S_ABSENT.wr W39
            replace A_ab := A_ab.other W39 ne_ab_b2
            replace E_ab := ((E_ab.wr W18).keep K38).wr W39
            exact JP2 T39 h39 _ _ X39 e39 N39 Z39 E_this F_this_pages F_this_low F_this_filter A_pat S_ABSENT A_ab E_ab PG (own_nt hn_this (Ne.symm ne_this_np38)) (own_nt hn_pat (Ne.symm ne_pat_np38)) (by rw [own_upd_self]; exact (Ne.symm ne_ab_np38))
          · skip
            refine Run.st (B := T21.setTop (mkF m 72 #[.val (.ref this), .val (.ref pat), .val (.long bt1), .second, .val (.int (2 : Int32)), .val (.int c2), .val (.int v19)] [])) (fun t kt => Jvm.RoadKit.acmp (g := (mkF m 59 #[.val (.ref this), .val (.ref pat), .val (.long bt1), .second, .val (.int (2 : Int32)), .val (.int c2), .val (.int v19)] [(.ref ab), (.ref (pg2 H2))])) X21 hx rfl rfl rfl (pc0 := 59) (pc' := 72) (same := false) rfl (hb hby d4_59) rfl (decide_eq_false fun q => hq (Value.ref.inj q)) (by decide) (by decide) kt) ?_
            replace E_this := E_this.wr W18
            replace F_this_low := F_this_low.other W18 (Or.inl ne_this_pH1)
            replace F_this_filter := F_this_filter.other W18 (Or.inl ne_this_pH1)
            replace A_ab := A_ab.other W18 ne_ab_pH1
            replace E_ab := E_ab.wr W18
            exact JP2 T21 h18 _ _ (X21.more (by decide) (by decide)) e21 N18 Z18 E_this F_this_pages F_this_low F_this_filter A_pat S_ABSENT A_ab E_ab PG hn_this hn_pat hq
        by_cases hc90 : (0 : Int32) < v13
        · skip
          refine Run.x_ifNo (q := 93) X18 hx (hb hby d4_90) ((if0 _ _).trans (tlt hc90).2.2.2) rfl ?_
          refine Run.x_lloadN (q := 94) X18 hx (hb hby d4_93) rfl rfl ?_
          refine Run.x_lconst (q := 95) X18 hx (hb hby d4_94) (z := (1 : Int64)) rfl rfl ?_
          refine Run.x_iload (q := 97) X18 hx (hb hby d4_95) rfl rfl ?_
          refine Run.x_lshl (q := 98) X18 hx (hb hby d4_97) rfl rfl ?_
          refine Run.x_lor (q := 99) X18 hx (hb hby d4_98) rfl rfl ?_
          refine Run.x_lstoreN (q := 100) X18 hx #[.val (.ref this), .val (.ref pat), .val (.long (bt0 ||| ((1 : Int64) <<< (c1 &&& 0x3f).toInt64))), .second, .val (.int (1 : Int32)), .val (.int c1), .val (.int v13)] (hb hby d4_99) rfl rfl ?_
          exact JB1 _ (if_neg (own_h1 eH1 dH1 hc90)).symm
        · skip
          refine Run.x_ifYes (q := 100) X18 hx (hb hby d4_90) ((if0 _ _).trans (flt hc90).2.2.2) (by decide) (by decide) ?_
          exact JB1 _ (if_pos (own_h0 eH1 dH1 hc90)).symm
      by_cases hq : pg1 H1 = ab
      · skip
        refine Run.st (B := T15.setTop (mkF m 62 #[.val (.ref this), .val (.ref pat), .val (.long bt0), .second, .val (.int (1 : Int32)), .val (.int c1), .val (.int v13)] [])) (fun t kt => Jvm.RoadKit.acmp (g := (mkF m 59 #[.val (.ref this), .val (.ref pat), .val (.long bt0), .second, .val (.int (1 : Int32)), .val (.int c1), .val (.int v13)] [(.ref ab), (.ref (pg1 H1))])) X15 hx rfl rfl rfl (pc0 := 59) (pc' := 62) (same := true) rfl (hb hby d4_59) rfl (decide_eq_true (congrArg Value.ref hq)) (by decide) (by decide) kt) ?_
        refine Run.x_aloadN (q := 63) X15 hx (hb hby d4_62) rfl rfl rfl ?_
        obtain ⟨T40, X40, e40, st40⟩ := getF X15 hx hZ hown (host := "") (Or.inl (hw _ (List.mem_of_getElem? (i := 17) rfl))) Via.refl e15 F_this_pages (g := (mkF m 63 #[.val (.ref this), .val (.ref pat), .val (.long bt0), .second, .val (.int (1 : Int32)), .val (.int c1), .val (.int v13)] [(.ref this)])) rfl rfl (hb hby d4_63)
        refine Run.st st40 ?_
        show Run p e below s _ _ _ (T40.setTop (mkF m 66 #[.val (.ref this), .val (.ref pat), .val (.long bt0), .second, .val (.int (1 : Int32)), .val (.int c1), .val (.int v13)] [(.ref b2)]))
        refine Run.x_iload (q := 68) X40 hx (hb hby d4_66) rfl rfl ?_
        refine Run.callS X40 hx hZ e40 (y := (⟨"needlewise/boyermoore/Rightmost", "newPage", "()[I"⟩ : MethodName)) hown (hw _ (List.mem_of_getElem? (i := 26) rfl)) (hw _ (List.mem_of_getElem? (i := 27) rfl)) (hw _ (List.mem_of_getElem? (i := 8) rfl)) (hw _ (List.mem_of_getElem? (i := 28) rfl)) (by decide) (argsL := []) (rest := [(.int v13), (.ref b2)]) (c_page l Z a0 hw h12 n0 Z12) pd_2 rfl (by rw [hml]; rfl) (W := 2) rfl (by decide) (by decide) (by decide) (by decide) (hb hby d4_68) rfl ?_
        intro T41 v41 L41 X41 q41
        obtain ⟨np41, rfl, M41, K41, sz41, An41, En41⟩ := q41
        have N41 := Fr.app N12 M41
        show Run p e below s _ _ _ (T41.setTop (mkF m 71 #[.val (.ref this), .val (.ref pat), .val (.long bt0), .second, .val (.int (1 : Int32)), .val (.int c1), .val (.int v13)] [(.ref np41), (.int v13), (.ref b2)]))
        have hlt := PG.lt sz41
        have ne_b2_np41 : b2 ≠ np41 := Nat.ne_of_lt (Nat.lt_of_lt_of_le PG.1.lt sz41)
        have g_np41 : n0 ≤ np41 := Nat.le_trans Z12 sz41
        replace PG := PG.ext (Keep_ext K41)
        replace E_this := E_this.wr W12
        have ne_this_np41 : this ≠ np41 := Nat.ne_of_lt (Nat.lt_of_lt_of_le E_this.lt sz41)
        replace A_ab := A_ab.other W12 ne_ab_pH0
        have ne_ab_np41 : ab ≠ np41 := Nat.ne_of_lt (Nat.lt_of_lt_of_le A_ab.lt sz41)
        have ne_pat_np41 : pat ≠ np41 := Nat.ne_of_lt (Nat.lt_of_lt_of_le A_pat.lt sz41)
        replace S_ABSENT := Sta_keep S_ABSENT K41 all0
        have Z41 : n0 ≤ T41.heap.size := Nat.le_trans Z12 K41.1
        refine Run.stR X41 hx hZ rfl PG.1 (i := H1) eH1 (by rw [own_refs_len]; exact lH1) rfl (own_sto PG.1 PG.2.1 En41) (hb hby d4_71) ?_
        intro T42 h42 X42 e42 W42 A42
        replace A_ab := A_ab.keep K41 nin0
        replace PG := Pgs.new PG lH1 hq (by rw [Pgs.page PG lH1 hq A_ab]; exact An41) (Ne.symm ne_b2_np41) hlt g_np41 W42 (Ne.symm ne_ab_np41)
        have N42 := Fr.snoc X42 N41 g_b2
        have Z42 : n0 ≤ h42.size := Nat.le_trans Z41 (Nat.le_of_eq W42.size.symm)
        show Run p e below s _ _ _ (T42.setTop (mkF m 72 #[.val (.ref this), .val (.ref pat), .val (.long bt0), .second, .val (.int (1 : Int32)), .val (.int c1), .val (.int v13)] []))
        replace E_this := (E_this.keep K41).wr W42
        replace F_this_pages := (F_this_pages.keep K41 nin0).other W42 (Or.inl ne_this_b2)
        replace F_this_low := ((F_this_low.other W12 (Or.inl ne_this_pH0)).keep K41 nin0).other W42 (Or.inl ne_this_b2)
        replace F_this_filter := ((F_this_filter.other W12 (Or.inl ne_this_pH0)).keep K41 nin0).other W42 (Or.inl ne_this_b2)
        replace A_pat := (A_pat.keep K41 nin0).other W42 ne_pat_b2
        replace S_ABSENT := S_ABSENT.wr W42
        replace A_ab := A_ab.other W42 ne_ab_b2
        replace E_ab := ((E_ab.wr W12).keep K41).wr W42
        exact JP1 T42 h42 _ _ X42 e42 N42 Z42 E_this F_this_pages F_this_low F_this_filter A_pat S_ABSENT A_ab E_ab PG (own_nt hn_this (Ne.symm ne_this_np41)) (own_nt hn_pat (Ne.symm ne_pat_np41)) (by rw [own_upd_self]; exact (Ne.symm ne_ab_np41))
      · skip
        refine Run.st (B := T15.setTop (mkF m 72 #[.val (.ref this), .val (.ref pat), .val (.long bt0), .second, .val (.int (1 : Int32)), .val (.int c1), .val (.int v13)] [])) (fun t kt => Jvm.RoadKit.acmp (g := (mkF m 59 #[.val (.ref this), .val (.ref pat), .val (.long bt0), .second, .val (.int (1 : Int32)), .val (.int c1), .val (.int v13)] [(.ref ab), (.ref (pg1 H1))])) X15 hx rfl rfl rfl (pc0 := 59) (pc' := 72) (same := false) rfl (hb hby d4_59) rfl (decide_eq_false fun q => hq (Value.ref.inj q)) (by decide) (by decide) kt) ?_
        replace E_this := E_this.wr W12
        replace F_this_low := F_this_low.other W12 (Or.inl ne_this_pH0)
        replace F_this_filter := F_this_filter.other W12 (Or.inl ne_this_pH0)
        replace A_ab := A_ab.other W12 ne_ab_pH0
        replace E_ab := E_ab.wr W12
        exact JP1 T15 h12 _ _ (X15.more (by decide) (by decide)) e15 N12 Z12 E_this F_this_pages F_this_low F_this_filter A_pat S_ABSENT A_ab E_ab PG hn_this hn_pat hq
    by_cases hc90 : (0 : Int32) < v7
    · skip
      refine Run.x_ifNo (q := 93) X12 hx (hb hby d4_90) ((if0 _ _).trans (tlt hc90).2.2.2) rfl ?_
      refine Run.x_lloadN (q := 94) X12 hx (hb hby d4_93) rfl rfl ?_
      refine Run.x_lconst (q := 95) X12 hx (hb hby d4_94) (z := (1 : Int64)) rfl rfl ?_
      refine Run.x_iload (q := 97) X12 hx (hb hby d4_95) rfl rfl ?_
      refine Run.x_lshl (q := 98) X12 hx (hb hby d4_97) rfl rfl ?_
      refine Run.x_lor (q := 99) X12 hx (hb hby d4_98) rfl rfl ?_
      refine Run.x_lstoreN (q := 100) X12 hx #[.val (.ref this), .val (.ref pat), .val (.long ((0 : Int64) ||| ((1 : Int64) <<< (c0 &&& 0x3f).toInt64))), .second, .val (.int (0 : Int32)), .val (.int c0), .val (.int v7)] (hb hby d4_99) rfl rfl ?_
      exact JB0 _ (if_neg (own_h1 eH0 dH0 hc90)).symm
    · skip
      refine Run.x_ifYes (q := 100) X12 hx (hb hby d4_90) ((if0 _ _).trans (flt hc90).2.2.2) (by decide) (by decide) ?_
      exact JB0 _ (if_pos (own_h0 eH0 dH0 hc90)).symm
  by_cases hq : (fun _ => ab : Nat → Addr) H0 = ab
  · skip
    refine Run.st (B := T9.setTop (mkF m 62 #[.val (.ref this), .val (.ref pat), .val (.long (0 : Int64)), .second, .val (.int (0 : Int32)), .val (.int c0), .val (.int v7)] [])) (fun t kt => Jvm.RoadKit.acmp (g := (mkF m 59 #[.val (.ref this), .val (.ref pat), .val (.long (0 : Int64)), .second, .val (.int (0 : Int32)), .val (.int c0), .val (.int v7)] [(.ref ab), (.ref ((fun _ => ab : Nat → Addr) H0))])) X9 hx rfl rfl rfl (pc0 := 59) (pc' := 62) (same := true) rfl (hb hby d4_59) rfl (decide_eq_true (congrArg Value.ref hq)) (by decide) (by decide) kt) ?_
    refine Run.x_aloadN (q := 63) X9 hx (hb hby d4_62) rfl rfl rfl ?_
    obtain ⟨T43, X43, e43, st43⟩ := getF X9 hx hZ hown (host := "") (Or.inl (hw _ (List.mem_of_getElem? (i := 17) rfl))) Via.refl e9 F_this_pages (g := (mkF m 63 #[.val (.ref this), .val (.ref pat), .val (.long (0 : Int64)), .second, .val (.int (0 : Int32)), .val (.int c0), .val (.int v7)] [(.ref this)])) rfl rfl (hb hby d4_63)
    refine Run.st st43 ?_
    show Run p e below s _ _ _ (T43.setTop (mkF m 66 #[.val (.ref this), .val (.ref pat), .val (.long (0 : Int64)), .second, .val (.int (0 : Int32)), .val (.int c0), .val (.int v7)] [(.ref b2)]))
    refine Run.x_iload (q := 68) X43 hx (hb hby d4_66) rfl rfl ?_
    refine Run.callS X43 hx hZ e43 (y := (⟨"needlewise/boyermoore/Rightmost", "newPage", "()[I"⟩ : MethodName)) hown (hw _ (List.mem_of_getElem? (i := 26) rfl)) (hw _ (List.mem_of_getElem? (i := 27) rfl)) (hw _ (List.mem_of_getElem? (i := 8) rfl)) (hw _ (List.mem_of_getElem? (i := 28) rfl)) (by decide) (argsL := []) (rest := [(.int v7), (.ref b2)]) (c_page l Z a0 hw T6.heap n0 Z6) pd_2 rfl (by rw [hml]; rfl) (W := 2) rfl (by decide) (by decide) (by decide) (by decide) (hb hby d4_68) rfl ?_
    intro T44 v44 L44 X44 q44
    obtain ⟨np44, rfl, M44, K44, sz44, An44, En44⟩ := q44
    have N44 := Fr.app N6 M44
    show Run p e below s _ _ _ (T44.setTop (mkF m 71 #[.val (.ref this), .val (.ref pat), .val (.long (0 : Int64)), .second, .val (.int (0 : Int32)), .val (.int c0), .val (.int v7)] [(.ref np44), (.int v7), (.ref b2)]))
    have hlt := PG.lt sz44
    have ne_b2_np44 : b2 ≠ np44 := Nat.ne_of_lt (Nat.lt_of_lt_of_le PG.1.lt sz44)
    have g_np44 : n0 ≤ np44 := Nat.le_trans Z6 sz44
    replace PG := PG.ext (Keep_ext K44)
    replace E_this := (E_this.wr W3).keep K6
    have ne_this_np44 : this ≠ np44 := Nat.ne_of_lt (Nat.lt_of_lt_of_le E_this.lt sz44)
    have ne_ab_np44 : ab ≠ np44 := Nat.ne_of_lt (Nat.lt_of_lt_of_le A_ab.lt sz44)
    have ne_pat_np44 : pat ≠ np44 := Nat.ne_of_lt (Nat.lt_of_lt_of_le A_pat.lt sz44)
    replace S_ABSENT := Sta_keep S_ABSENT K44 all0
    have Z44 : n0 ≤ T44.heap.size := Nat.le_trans Z6 K44.1
    refine Run.stR X44 hx hZ rfl PG.1 (i := H0) eH0 (by rw [own_refs_len]; exact lH0) rfl (own_sto PG.1 PG.2.1 En44) (hb hby d4_71) ?_
    intro T45 h45 X45 e45 W45 A45
    replace A_ab := A_ab.keep K44 nin0
    replace PG := Pgs.new PG lH0 hq (by rw [Pgs.page PG lH0 hq A_ab]; exact An44) (Ne.symm ne_b2_np44) hlt g_np44 W45 (Ne.symm ne_ab_np44)
    have N45 := Fr.snoc X45 N44 g_b2
    have Z45 : n0 ≤ h45.size := Nat.le_trans Z44 (Nat.le_of_eq W45.size.symm)
    show Run p e below s _ _ _ (T45.setTop (mkF m 72 #[.val (.ref this), .val (.ref pat), .val (.long (0 : Int64)), .second, .val (.int (0 : Int32)), .val (.int c0), .val (.int v7)] []))
    replace E_this := (E_this.keep K44).wr W45
    replace F_this_pages := (F_this_pages.keep K44 nin0).other W45 (Or.inl ne_this_b2)
    replace F_this_low := ((((F_this_low.ext E2).other W3 (Or.inr (slot_ne (Or.inr (hw _ (List.mem_of_getElem? (i := 34) rfl))) (Or.inr (hw _ (List.mem_of_getElem? (i := 18) rfl))) (by decide) (t := (.array .int)) (t' := (.array (.array .int))) (by decide) (by decide)))).keep K6 (ninS ne_this_b2 nin0)).keep K44 nin0).other W45 (Or.inl ne_this_b2)
    replace F_this_filter := ((((F_this_filter.ext E2).other W3 (Or.inr (slot_ne (Or.inr (hw _ (List.mem_of_getElem? (i := 36) rfl))) (Or.inr (hw _ (List.mem_of_getElem? (i := 18) rfl))) (by decide) (t := .long) (t' := (.array (.array .int))) (by decide) (by decide)))).keep K6 (ninS ne_this_b2 nin0)).keep K44 nin0).other W45 (Or.inl ne_this_b2)
    replace A_pat := (A_pat.keep K44 nin0).other W45 ne_pat_b2
    replace S_ABSENT := S_ABSENT.wr W45
    replace A_ab := A_ab.other W45 ne_ab_b2
    replace E_ab := ((E_ab.keep K6).keep K44).wr W45
    exact JP0 T45 h45 _ _ X45 e45 N45 Z45 E_this F_this_pages F_this_low F_this_filter A_pat S_ABSENT A_ab E_ab PG (own_nt hn_this (Ne.symm ne_this_np44)) (own_nt hn_pat (Ne.symm ne_pat_np44)) (by rw [own_upd_self]; exact (Ne.symm ne_ab_np44))
  · skip
    refine Run.st (B := T9.setTop (mkF m 72 #[.val (.ref this), .val (.ref pat), .val (.long (0 : Int64)), .second, .val (.int (0 : Int32)), .val (.int c0), .val (.int v7)] [])) (fun t kt => Jvm.RoadKit.acmp (g := (mkF m 59 #[.val (.ref this), .val (.ref pat), .val (.long (0 : Int64)), .second, .val (.int (0 : Int32)), .val (.int c0), .val (.int v7)] [(.ref ab), (.ref ((fun _ => ab : Nat → Addr) H0))])) X9 hx rfl rfl rfl (pc0 := 59) (pc' := 72) (same := false) rfl (hb hby d4_59) rfl (decide_eq_false fun q => hq (Value.ref.inj q)) (by decide) (by decide) kt) ?_
    replace E_this := (E_this.wr W3).keep K6
    replace F_this_low := ((F_this_low.ext E2).other W3 (Or.inr (slot_ne (Or.inr (hw _ (List.mem_of_getElem? (i := 34) rfl))) (Or.inr (hw _ (List.mem_of_getElem? (i := 18) rfl))) (by decide) (t := (.array .int)) (t' := (.array (.array .int))) (by decide) (by decide)))).keep K6 (ninS ne_this_b2 nin0)
    replace F_this_filter := ((F_this_filter.ext E2).other W3 (Or.inr (slot_ne (Or.inr (hw _ (List.mem_of_getElem? (i := 36) rfl))) (Or.inr (hw _ (List.mem_of_getElem? (i := 18) rfl))) (by decide) (t := .long) (t' := (.array (.array .int))) (by decide) (by decide)))).keep K6 (ninS ne_this_b2 nin0)
    replace E_ab := E_ab.keep K6
    exact JP0 T9 T6.heap _ _ (X9.more (by decide) (by decide)) e9 N6 Z6 E_this F_this_pages F_this_low F_this_filter A_pat S_ABSENT A_ab E_ab PG hn_this hn_pat hq
theorem own_bit {b : Int64} {k : Nat} (hk : k < 64) : ((b.toUInt64 >>> (Int64.ofNat k).toUInt64).toInt64 &&& 1) = 0 ↔ b.toBitVec.getLsbD k = false := by
  have e : (Int64.ofNat k).toUInt64.toBitVec = BitVec.ofNat 64 k := rfl
  rw [← Int64.toBitVec_inj, Int64.toBitVec_and, UInt64.toBitVec_toInt64, UInt64.toBitVec_shiftRight, e]
  constructor
  · intro h
    have := congrArg (fun z => z.getLsbD 0) h
    simpa [Nat.mod_eq_of_lt hk, Nat.mod_eq_of_lt (show k < 18446744073709551616 by omega)] using this
  · intro h
    apply BitVec.eq_of_getLsbD_eq
    intro i hi
    by_cases h0 : i = 0
    · subst h0
      simpa [Nat.mod_eq_of_lt hk, Nat.mod_eq_of_lt (show k < 18446744073709551616 by omega)] using h
    · simp [BitVec.getLsbD_one, h0]
theorem own_set {k : Nat} (hk : k < 64) : ((1 : Int64) <<< Int64.ofNat k).toBitVec.getLsbD k = true := by
  have : ∀ j : Fin 64, ((1 : Int64) <<< Int64.ofNat j.val).toBitVec.getLsbD j.val = true := by decide +kernel
  exact this ⟨k, hk⟩
theorem own_sh (u : Int32) : ∃ k : Nat, k < 64 ∧ (u &&& 0x3f).toInt64 = Int64.ofNat k := by
  have h : ∃ k : Nat, k < 64 ∧ (u &&& 0x3f).toInt = k := by
    have q := c_mask u 63 6 (by decide) (by decide)
    exact ⟨(u &&& 63).toInt.toNat, by omega, by omega⟩
  obtain ⟨k, hk, e⟩ := h
  refine ⟨k, hk, ?_⟩
  apply Int64.toInt_inj.mp
  rw [Int32.toInt_toInt64, e, Int64.toInt_ofNat_of_lt (by omega)]
def own_of (f : Nat → Int32) (b : Int64) (u : Int32) : Int32 := if u < 256 then f u.toInt.toNat else if ((b.toUInt64 >>> (u &&& 0x3f).toInt64.toUInt64).toInt64 &&& 1) = 0 then -1 else f u.toInt.toNat
def own_last (u e : Int32) (t : Nat) : List Int32 → Int32
  | [] => e
  | c :: r => own_last u (if c = u then Int32.ofNat t else e) (t + 1) r
theorem own_go_at {u : Int32} (hu : 0 ≤ u.toInt) : ∀ (cs : List Int32) (f : Nat → Int32) (t : Nat), (∀ c ∈ cs, 0 ≤ c.toInt) → own_go f t cs u.toInt.toNat = own_last u (f u.toInt.toNat) t cs
  | [], _, _, _ => rfl
  | c :: r, f, t, h => by
    have hc := h c (by simp)
    rw [own_go, own_go_at hu r _ _ (fun x hx => h x (by simp [hx])), own_last]
    congr 1
    by_cases e : c = u
    · subst e; rw [own_upd_self, if_pos rfl]
    · rw [if_neg e, own_upd_ne]
      intro q
      exact e (Int32.toInt_inj.mp (by omega))
theorem own_bt_keep {k : Nat} : ∀ (cs : List Int32) (b : Int64), b.toBitVec.getLsbD k = true → (own_bt b cs).toBitVec.getLsbD k = true
  | [], _, h => h
  | c :: r, b, h => by
    rw [own_bt]
    apply own_bt_keep r
    split
    · exact h
    · rw [Int64.toBitVec_or, BitVec.getLsbD_or, h, Bool.true_or]
theorem own_no {u : Int32} (hu : ¬ u.toInt < 256) {k : Nat} (hk : k < 64) (hku : (u &&& 0x3f).toInt64 = Int64.ofNat k) : ∀ (cs : List Int32) (b : Int64) (e : Int32) (t : Nat), (own_bt b cs).toBitVec.getLsbD k = false → own_last u e t cs = e
  | [], _, _, _, _ => rfl
  | c :: r, b, e, t, h => by
    rw [own_bt] at h
    rw [own_last]
    by_cases q : c = u
    · subst q
      rw [if_neg hu] at h
      have := own_bt_keep (k := k) r _ (show (b ||| ((1 : Int64) <<< (c &&& 0x3f).toInt64)).toBitVec.getLsbD k = true by rw [Int64.toBitVec_or, BitVec.getLsbD_or, hku, own_set hk, Bool.or_true])
      rw [h] at this
      cases this
    · rw [if_neg q]; exact own_no hu hk hku r _ e _ h
theorem own_fin {u : Int32} (hu : 0 ≤ u.toInt) (cs : List Int32) (h : ∀ c ∈ cs, 0 ≤ c.toInt) : own_of (own_go (fun _ => -1) 0 cs) (own_bt 0 cs) u = own_last u (-1) 0 cs := by
  unfold own_of
  rw [own_go_at hu cs _ _ h]
  split
  · rfl
  · rename_i h1
    split
    · rename_i h2
      obtain ⟨k, hk, hku⟩ := own_sh u
      rw [hku] at h2
      refine (own_no (fun q => h1 (Int32.lt_iff_toInt_lt.mpr q)) hk hku cs 0 _ _ ((own_bit hk).mp h2)).symm
    · rfl
theorem own_rg {x k : Int32} (h : x.toUInt32.toUInt16.toUInt32.toInt32 = k) : 0 ≤ k.toInt ∧ k.toInt < 65536 := by
  subst h
  have q := x.toUInt32.toUInt16.toNat_lt
  have e : x.toUInt32.toUInt16.toUInt32.toInt32.toInt = (x.toUInt32.toUInt16.toNat : Int) := by
    have : ∀ y : UInt16, y.toUInt32.toInt32.toInt = (y.toNat : Int) := fun y => by
      have := y.toNat_lt
      show y.toUInt32.toBitVec.toInt = _
      rw [BitVec.toInt_eq_toNat_of_lt (by show 2 * y.toUInt32.toNat < _; rw [UInt16.toNat_toUInt32]; omega)]
      show ((y.toUInt32.toNat : Nat) : Int) = _
      rw [UInt16.toNat_toUInt32]
    exact this _
  omega
theorem own_nr {c : Int32} (h : 0 ≤ c.toInt ∧ c.toInt < 65536) : nar .char c = c := by
  have : c = (UInt16.ofNat c.toInt.toNat).toUInt32.toInt32 := by
    apply Int32.toInt_inj.mp
    have : ∀ y : UInt16, y.toUInt32.toInt32.toInt = (y.toNat : Int) := fun y => by
      have := y.toNat_lt
      show y.toUInt32.toBitVec.toInt = _
      rw [BitVec.toInt_eq_toNat_of_lt (by show 2 * y.toUInt32.toNat < _; rw [UInt16.toNat_toUInt32]; omega)]
      show ((y.toUInt32.toNat : Nat) : Int) = _
      rw [UInt16.toNat_toUInt32]
    rw [this, UInt16.toNat_ofNat']
    omega
  rw [this]
  show (UInt16.ofNat c.toInt.toNat).toUInt32.toInt32.toUInt32.toUInt16.toUInt32.toInt32 = _
  simp
theorem own_u256 {u : Int32} (h : 0 ≤ u.toInt) (q : u < 256) : u.toInt.toNat < 256 := by
  have := Int32.lt_iff_toInt_lt.mp q
  have e : (256 : Int32).toInt = 256 := by decide
  omega
theorem d5_0 : decode prog_13_method_2_code 0 = .ok (.iload_n 1, 1) := by decide +kernel
theorem d5_1 : decode prog_13_method_2_code 1 = .ok (.sipush 256, 3) := by decide +kernel
theorem d5_4 : decode prog_13_method_2_code 4 = .ok (.if_icmp .ge 10, 3) := by decide +kernel
theorem d5_7 : decode prog_13_method_2_code 7 = .ok (.aload_n 0, 1) := by decide +kernel
theorem d5_8 : decode prog_13_method_2_code 8 = .ok (.getfield 28, 3) := by decide +kernel
theorem d5_11 : decode prog_13_method_2_code 11 = .ok (.iload_n 1, 1) := by decide +kernel
theorem d5_12 : decode prog_13_method_2_code 12 = .ok (.iaload, 1) := by decide +kernel
theorem d5_13 : decode prog_13_method_2_code 13 = .ok (.ireturn, 1) := by decide +kernel
theorem d5_14 : decode prog_13_method_2_code 14 = .ok (.aload_n 0, 1) := by decide +kernel
theorem d5_15 : decode prog_13_method_2_code 15 = .ok (.getfield 31, 3) := by decide +kernel
theorem d5_18 : decode prog_13_method_2_code 18 = .ok (.iload_n 1, 1) := by decide +kernel
theorem d5_19 : decode prog_13_method_2_code 19 = .ok (.lushr, 1) := by decide +kernel
theorem d5_20 : decode prog_13_method_2_code 20 = .ok (.lconst 1, 1) := by decide +kernel
theorem d5_21 : decode prog_13_method_2_code 21 = .ok (.land, 1) := by decide +kernel
theorem d5_22 : decode prog_13_method_2_code 22 = .ok (.lconst 0, 1) := by decide +kernel
theorem d5_23 : decode prog_13_method_2_code 23 = .ok (.lcmp, 1) := by decide +kernel
theorem d5_24 : decode prog_13_method_2_code 24 = .ok (.ifCond .ne 5, 3) := by decide +kernel
theorem d5_27 : decode prog_13_method_2_code 27 = .ok (.iconst (-1), 1) := by decide +kernel
theorem d5_28 : decode prog_13_method_2_code 28 = .ok (.ireturn, 1) := by decide +kernel
theorem d5_29 : decode prog_13_method_2_code 29 = .ok (.aload_n 0, 1) := by decide +kernel
theorem d5_30 : decode prog_13_method_2_code 30 = .ok (.getfield 11, 3) := by decide +kernel
theorem d5_33 : decode prog_13_method_2_code 33 = .ok (.iload_n 1, 1) := by decide +kernel
theorem d5_34 : decode prog_13_method_2_code 34 = .ok (.bipush 8, 2) := by decide +kernel
theorem d5_36 : decode prog_13_method_2_code 36 = .ok (.iushr, 1) := by decide +kernel
theorem d5_37 : decode prog_13_method_2_code 37 = .ok (.aaload, 1) := by decide +kernel
theorem d5_38 : decode prog_13_method_2_code 38 = .ok (.iload_n 1, 1) := by decide +kernel
theorem d5_39 : decode prog_13_method_2_code 39 = .ok (.sipush 255, 3) := by decide +kernel
theorem d5_42 : decode prog_13_method_2_code 42 = .ok (.iand, 1) := by decide +kernel
theorem d5_43 : decode prog_13_method_2_code 43 = .ok (.iaload, 1) := by decide +kernel
theorem d5_44 : decode prog_13_method_2_code 44 = .ok (.ireturn, 1) := by decide +kernel
theorem ef_c_of (m : MethodId) (this : Addr) (u : Int32) : entryFrame m #[(.ref this), (.int u)] 2 = mkF m 0 #[.val (.ref this), .val (.int u)] [] := by first | (simp [entryFrame, mkF, argsToLocals, Value.category]; done) | rfl
set_option maxRecDepth 65536 in
set_option maxHeartbeats 40000000 in
theorem c_of (l : Launch) (Z : State) (a0 : Array Value) (hw : ∀ d ∈ tables_1, d.before a0 Z = true) (this : Addr) (u : Int32) (h0 : Heap) (n0 : Nat) (Z0 : n0 ≤ h0.size) (ab : Addr) (pa : Addr) (pg : Nat → Addr) (f : Nat → Int32) (b : Int64) (E_this : Exa Z h0 this "needlewise/boyermoore/Rightmost") (F_this_pages : Fld Z h0 this "needlewise/boyermoore/Rightmost" "pages" "[[I" (.ref pa)) (F_this_low : Fld Z h0 this "needlewise/boyermoore/Rightmost" "low" "[I" (.ref (pg 0))) (F_this_filter : Fld Z h0 this "needlewise/boyermoore/Rightmost" "filter" "J" (.long b)) (PG : Pgs Z h0 n0 ab pa pg f) (hu : 0 ≤ u.toInt ∧ u.toInt < 65536) :
    Ctr l Z (⟨"needlewise/boyermoore/Rightmost", "of", "(C)I"⟩ : MethodName) prog_13_method_2_code 2 (some .int) ({ frames := 0, cells := 0, slots := 0, locals := 0 } : Room) #[(.ref this), (.int u)] h0 (PureI h0 n0 (own_of f b u)) := by
  refine Ctr.of (plainFor_of_name pn_1) (fun m => ef_c_of m this u) ?_
  intro p e s m below meth c T0 hx hby hml hown hnm hret hlk hZ e0 X0
  have N0 := Fr.nil n0
  replace hown : s.vm.findClass "needlewise/boyermoore/Rightmost" = some m.cls := hown
  replace hml : c.maxLocals = 2 := hml
  refine Run.x_iloadN (q := 1) X0 hx (hb hby d5_0) rfl rfl ?_
  refine Run.x_sipush (q := 4) X0 hx (hb hby d5_1) (z := (256 : Int32)) rfl rfl ?_
  by_cases hc4 : u < (256 : Int32)
  · skip
    refine Run.x_icmpNo (q := 7) X0 hx (hb hby d5_4) (tlt hc4).2.1 rfl ?_
    refine Run.x_aloadN (q := 8) X0 hx (hb hby d5_7) rfl rfl rfl ?_
    obtain ⟨T1, X1, e1, st1⟩ := getF X0 hx hZ hown (host := "") (Or.inl (hw _ (List.mem_of_getElem? (i := 33) rfl))) Via.refl e0 F_this_low (g := (mkF m 8 #[.val (.ref this), .val (.int u)] [(.ref this)])) rfl rfl (hb hby d5_8)
    refine Run.st st1 ?_
    show Run p e below s _ _ _ (T1.setTop (mkF m 11 #[.val (.ref this), .val (.int u)] [(.ref (pg 0))]))
    refine Run.x_iloadN (q := 12) X1 hx (hb hby d5_11) rfl rfl ?_
    refine Run.ldI X1 hx hZ e1 (PG.2.2.1 0 (by decide)) (i := u.toInt.toNat) (v := .int (f (256 * 0 + u.toInt.toNat))) (by omega) (own_row_at (own_u256 hu.1 hc4)) (hb hby d5_12) ?_
    show Run p e below s _ _ _ (T1.setTop (mkF m 13 #[.val (.ref this), .val (.int u)] [(.int (f (256 * 0 + u.toInt.toNat)))]))
    refine Run.retI X1 hx hlk e1 hret (hb hby d5_13) (by decide) (by decide) ?_
    exact PureI.mk (by unfold own_of; rw [if_pos hc4, Nat.mul_zero, Nat.zero_add]) N0
  · skip
    refine Run.x_icmpYes (q := 14) X0 hx (hb hby d5_4) (flt hc4).2.1 (by decide) (by decide) ?_
    refine Run.x_aloadN (q := 15) X0 hx (hb hby d5_14) rfl rfl rfl ?_
    obtain ⟨T2, X2, e2, st2⟩ := getF X0 hx hZ hown (host := "") (Or.inl (hw _ (List.mem_of_getElem? (i := 35) rfl))) Via.refl e0 F_this_filter (g := (mkF m 15 #[.val (.ref this), .val (.int u)] [(.ref this)])) rfl rfl (hb hby d5_15)
    refine Run.st st2 ?_
    show Run p e below s _ _ _ (T2.setTop (mkF m 18 #[.val (.ref this), .val (.int u)] [(.long b)]))
    refine Run.x_iloadN (q := 19) X2 hx (hb hby d5_18) rfl rfl ?_
    refine Run.x_lushr (q := 20) X2 hx (hb hby d5_19) rfl rfl ?_
    refine Run.x_lconst (q := 21) X2 hx (hb hby d5_20) (z := (1 : Int64)) rfl rfl ?_
    refine Run.x_land (q := 22) X2 hx (hb hby d5_21) rfl rfl ?_
    refine Run.x_lconst (q := 23) X2 hx (hb hby d5_22) (z := (0 : Int64)) rfl rfl ?_
    refine Run.x_lcmp (q := 24) X2 hx (hb hby d5_23)  rfl ?_
    by_cases hc24 : (((b.toUInt64 >>> (u &&& 0x3f).toInt64.toUInt64).toInt64) &&& (1 : Int64)) = (0 : Int64)
    · skip
      refine Run.x_ifNo (q := 27) X2 hx (hb hby d5_24) ((if0 _ _).trans (teq ((lw_eq (((b.toUInt64 >>> (u &&& 0x3f).toInt64.toUInt64).toInt64) &&& (1 : Int64)) (0 : Int64)).mpr hc24)).2) rfl ?_
      refine Run.x_iconst (q := 28) X2 hx (hb hby d5_27) (z := (-1 : Int32)) rfl rfl ?_
      refine Run.retI X2 hx hlk e2 hret (hb hby d5_28) (by decide) (by decide) ?_
      exact PureI.mk (by unfold own_of; rw [if_neg hc4, if_pos hc24]) N0
    · skip
      refine Run.x_ifYes (q := 29) X2 hx (hb hby d5_24) ((if0 _ _).trans (feq (mt (lw_eq (((b.toUInt64 >>> (u &&& 0x3f).toInt64.toUInt64).toInt64) &&& (1 : Int64)) (0 : Int64)).mp hc24)).2) (by decide) (by decide) ?_
      refine Run.x_aloadN (q := 30) X2 hx (hb hby d5_29) rfl rfl rfl ?_
      obtain ⟨T3, X3, e3, st3⟩ := getF X2 hx hZ hown (host := "") (Or.inl (hw _ (List.mem_of_getElem? (i := 17) rfl))) Via.refl e2 F_this_pages (g := (mkF m 30 #[.val (.ref this), .val (.int u)] [(.ref this)])) rfl rfl (hb hby d5_30)
      refine Run.st st3 ?_
      show Run p e below s _ _ _ (T3.setTop (mkF m 33 #[.val (.ref this), .val (.int u)] [(.ref pa)]))
      refine Run.x_iloadN (q := 34) X3 hx (hb hby d5_33) rfl rfl ?_
      refine Run.x_bipush (q := 36) X3 hx (hb hby d5_34) (z := (8 : Int32)) rfl rfl ?_
      refine Run.x_iushr (q := 37) X3 hx (hb hby d5_36) rfl rfl ?_
      obtain ⟨H, eH, lH, dH⟩ := own_hi hu.1 hu.2 rfl
      obtain ⟨La, eL, lL, dL⟩ := own_lo u
      refine Run.ldR X3 hx hZ e3 PG.1 (i := H) (v := .ref (pg H)) eH (own_refs_at lH) rfl (hb hby d5_37) ?_
      show Run p e below s _ _ _ (T3.setTop (mkF m 38 #[.val (.ref this), .val (.int u)] [(.ref (pg H))]))
      refine Run.x_iloadN (q := 39) X3 hx (hb hby d5_38) rfl rfl ?_
      refine Run.x_sipush (q := 42) X3 hx (hb hby d5_39) (z := (255 : Int32)) rfl rfl ?_
      refine Run.x_iand (q := 43) X3 hx (hb hby d5_42) rfl rfl ?_
      refine Run.ldI X3 hx hZ e3 (PG.2.2.1 H lH) (i := La) (v := .int (f (256 * H + La))) eL (own_row_at lL) (hb hby d5_43) ?_
      show Run p e below s _ _ _ (T3.setTop (mkF m 44 #[.val (.ref this), .val (.int u)] [(.int (f (256 * H + La)))]))
      refine Run.retI X3 hx hlk e3 hret (hb hby d5_44) (by decide) (by decide) ?_
      exact PureI.mk (by unfold own_of; rw [if_neg hc4, if_neg hc24, own_hl hu.1 dH dL]) N0
theorem d6_0 : decode method_2_code 0 = .ok (.iload_n 0, 1) := by decide +kernel
theorem d6_1 : decode method_2_code 1 = .ok (.ifCond .ne 7, 3) := by decide +kernel
theorem d6_4 : decode method_2_code 4 = .ok (.iconst 0, 1) := by decide +kernel
theorem d6_5 : decode method_2_code 5 = .ok (.newarray .char, 2) := by decide +kernel
theorem d6_7 : decode method_2_code 7 = .ok (.areturn, 1) := by decide +kernel
theorem d6_8 : decode method_2_code 8 = .ok (.iload_n 0, 1) := by decide +kernel
theorem d6_9 : decode method_2_code 9 = .ok (.iconst 1, 1) := by decide +kernel
theorem d6_10 : decode method_2_code 10 = .ok (.if_icmp .ne 11, 3) := by decide +kernel
theorem d6_13 : decode method_2_code 13 = .ok (.iconst 1, 1) := by decide +kernel
theorem d6_14 : decode method_2_code 14 = .ok (.newarray .char, 2) := by decide +kernel
theorem d6_16 : decode method_2_code 16 = .ok (.dup, 1) := by decide +kernel
theorem d6_17 : decode method_2_code 17 = .ok (.iconst 0, 1) := by decide +kernel
theorem d6_18 : decode method_2_code 18 = .ok (.iload_n 1, 1) := by decide +kernel
theorem d6_19 : decode method_2_code 19 = .ok (.castore, 1) := by decide +kernel
theorem d6_20 : decode method_2_code 20 = .ok (.areturn, 1) := by decide +kernel
theorem d6_21 : decode method_2_code 21 = .ok (.iload_n 0, 1) := by decide +kernel
theorem d6_22 : decode method_2_code 22 = .ok (.iconst 2, 1) := by decide +kernel
theorem d6_23 : decode method_2_code 23 = .ok (.if_icmp .ne 15, 3) := by decide +kernel
theorem d6_26 : decode method_2_code 26 = .ok (.iconst 2, 1) := by decide +kernel
theorem d6_27 : decode method_2_code 27 = .ok (.newarray .char, 2) := by decide +kernel
theorem d6_29 : decode method_2_code 29 = .ok (.dup, 1) := by decide +kernel
theorem d6_30 : decode method_2_code 30 = .ok (.iconst 0, 1) := by decide +kernel
theorem d6_31 : decode method_2_code 31 = .ok (.iload_n 1, 1) := by decide +kernel
theorem d6_32 : decode method_2_code 32 = .ok (.castore, 1) := by decide +kernel
theorem d6_33 : decode method_2_code 33 = .ok (.dup, 1) := by decide +kernel
theorem d6_34 : decode method_2_code 34 = .ok (.iconst 1, 1) := by decide +kernel
theorem d6_35 : decode method_2_code 35 = .ok (.iload_n 2, 1) := by decide +kernel
theorem d6_36 : decode method_2_code 36 = .ok (.castore, 1) := by decide +kernel
theorem d6_37 : decode method_2_code 37 = .ok (.areturn, 1) := by decide +kernel
theorem d6_38 : decode method_2_code 38 = .ok (.iload_n 0, 1) := by decide +kernel
theorem d6_39 : decode method_2_code 39 = .ok (.iconst 3, 1) := by decide +kernel
theorem d6_40 : decode method_2_code 40 = .ok (.if_icmp .ne 19, 3) := by decide +kernel
theorem d6_43 : decode method_2_code 43 = .ok (.iconst 3, 1) := by decide +kernel
theorem d6_44 : decode method_2_code 44 = .ok (.newarray .char, 2) := by decide +kernel
theorem d6_46 : decode method_2_code 46 = .ok (.dup, 1) := by decide +kernel
theorem d6_47 : decode method_2_code 47 = .ok (.iconst 0, 1) := by decide +kernel
theorem d6_48 : decode method_2_code 48 = .ok (.iload_n 1, 1) := by decide +kernel
theorem d6_49 : decode method_2_code 49 = .ok (.castore, 1) := by decide +kernel
theorem d6_50 : decode method_2_code 50 = .ok (.dup, 1) := by decide +kernel
theorem d6_51 : decode method_2_code 51 = .ok (.iconst 1, 1) := by decide +kernel
theorem d6_52 : decode method_2_code 52 = .ok (.iload_n 2, 1) := by decide +kernel
theorem d6_53 : decode method_2_code 53 = .ok (.castore, 1) := by decide +kernel
theorem d6_54 : decode method_2_code 54 = .ok (.dup, 1) := by decide +kernel
theorem d6_55 : decode method_2_code 55 = .ok (.iconst 2, 1) := by decide +kernel
theorem d6_56 : decode method_2_code 56 = .ok (.iload_n 3, 1) := by decide +kernel
theorem d6_57 : decode method_2_code 57 = .ok (.castore, 1) := by decide +kernel
theorem d6_58 : decode method_2_code 58 = .ok (.areturn, 1) := by decide +kernel
theorem d6_59 : decode method_2_code 59 = .ok (.iconst 4, 1) := by decide +kernel
theorem d6_60 : decode method_2_code 60 = .ok (.newarray .char, 2) := by decide +kernel
theorem d6_62 : decode method_2_code 62 = .ok (.dup, 1) := by decide +kernel
theorem d6_63 : decode method_2_code 63 = .ok (.iconst 0, 1) := by decide +kernel
theorem d6_64 : decode method_2_code 64 = .ok (.iload_n 1, 1) := by decide +kernel
theorem d6_65 : decode method_2_code 65 = .ok (.castore, 1) := by decide +kernel
theorem d6_66 : decode method_2_code 66 = .ok (.dup, 1) := by decide +kernel
theorem d6_67 : decode method_2_code 67 = .ok (.iconst 1, 1) := by decide +kernel
theorem d6_68 : decode method_2_code 68 = .ok (.iload_n 2, 1) := by decide +kernel
theorem d6_69 : decode method_2_code 69 = .ok (.castore, 1) := by decide +kernel
theorem d6_70 : decode method_2_code 70 = .ok (.dup, 1) := by decide +kernel
theorem d6_71 : decode method_2_code 71 = .ok (.iconst 2, 1) := by decide +kernel
theorem d6_72 : decode method_2_code 72 = .ok (.iload_n 3, 1) := by decide +kernel
theorem d6_73 : decode method_2_code 73 = .ok (.castore, 1) := by decide +kernel
theorem d6_74 : decode method_2_code 74 = .ok (.dup, 1) := by decide +kernel
theorem d6_75 : decode method_2_code 75 = .ok (.iconst 3, 1) := by decide +kernel
theorem d6_76 : decode method_2_code 76 = .ok (.iload 4, 2) := by decide +kernel
theorem d6_78 : decode method_2_code 78 = .ok (.castore, 1) := by decide +kernel
theorem d6_79 : decode method_2_code 79 = .ok (.areturn, 1) := by decide +kernel
theorem pn_2 : plainName "needlewise/boyermoore/RightmostOfPinLawPinLaw" = true := by first | (simp [plainName, overriddenIn]; done) | decide +kernel
theorem ef_c_pat0 (m : MethodId) (c0 : Int32) (c1 : Int32) (c2 : Int32) (c3 : Int32) : entryFrame m #[(.int (0 : Int32)), (.int c0), (.int c1), (.int c2), (.int c3)] 5 = mkF m 0 #[.val (.int (0 : Int32)), .val (.int c0), .val (.int c1), .val (.int c2), .val (.int c3)] [] := by first | (simp [entryFrame, mkF, argsToLocals, Value.category]; done) | rfl
set_option maxRecDepth 65536 in
set_option maxHeartbeats 40000000 in
theorem c_pat0 (l : Launch) (Z : State) (a0 : Array Value) (hw : ∀ d ∈ tables_1, d.before a0 Z = true) (c0 : Int32) (c1 : Int32) (c2 : Int32) (c3 : Int32) (h0 : Heap) (n0 : Nat) (Z0 : n0 ≤ h0.size) (hr0 : 0 ≤ c0.toInt ∧ c0.toInt < 65536) (hr1 : 0 ≤ c1.toInt ∧ c1.toInt < 65536) (hr2 : 0 ≤ c2.toInt ∧ c2.toInt < 65536) (hr3 : 0 ≤ c3.toInt ∧ c3.toInt < 65536) :
    Ctr l Z (⟨"needlewise/boyermoore/RightmostOfPinLawPinLaw", "pattern", "(ICCCC)[C"⟩ : MethodName) method_2_code 5 (some (.array .char)) ({ frames := 0, cells := 1, slots := 0, locals := 0 } : Room) #[(.int (0 : Int32)), (.int c0), (.int c1), (.int c2), (.int c3)] h0 (fun v h L => ∃ b : Addr, v = some (.ref b) ∧ Fr n0 L ∧ Keep h0 h [] ∧ h0.size ≤ b ∧ Ars Z h b .char []) := by
  refine Ctr.of (plainFor_of_name pn_2) (fun m => ef_c_pat0 m c0 c1 c2 c3) ?_
  intro p e s m below meth c T0 hx hby hml hown hnm hret hlk hZ e0 X0
  have N0 := Fr.nil n0
  replace hown : s.vm.findClass "needlewise/boyermoore/RightmostOfPinLawPinLaw" = some m.cls := hown
  replace hml : c.maxLocals = 5 := hml
  have KP := Keep.refl h0 []
  refine Run.x_iloadN (q := 1) X0 hx (hb hby d6_0) rfl rfl ?_
  refine Run.x_ifNo (q := 4) X0 hx (hb hby d6_1) ((if0 _ _).trans (teq (by decide : (0 : Int32) = (0 : Int32))).2) rfl ?_
  refine Run.x_iconst (q := 5) X0 hx (hb hby d6_4) (z := (0 : Int32)) rfl rfl ?_
  refine Run.newP X0 hx hZ e0 (hw _ (List.mem_of_getElem? (i := 5) rfl)) (hb hby d6_5) (len := 0) (by decide) (by decide) (cap := 0) (by decide) (by decide) (by decide) (by decide) ?_
  intro T1 h1 b1 gg1 X1 e1 E1 A_b1
  have g_b1 : n0 ≤ b1 := Nat.le_trans Z0 (Nat.le_of_eq gg1.symm)
  have sz_b1 : h0.size ≤ b1 := Nat.le_trans KP.1 (Nat.le_of_eq gg1.symm)
  have Z1 : n0 ≤ h1.size := Nat.le_trans Z0 E1.1
  replace KP := KP.ext E1
  replace A_b1 : Ars Z h1 b1 .char [] := A_b1
  show Run p e below s _ _ _ (T1.setTop (mkF m 7 #[.val (.int (0 : Int32)), .val (.int c0), .val (.int c1), .val (.int c2), .val (.int c3)] [(.ref b1)]))
  refine Run.retA X1 hx hlk e1 (t := (.array .char)) hret rfl rfl rfl (hb hby d6_7) (by decide) (by decide) ?_
  exact ⟨b1, rfl, N0, KP, sz_b1, A_b1⟩
theorem ef_c_pat1 (m : MethodId) (c0 : Int32) (c1 : Int32) (c2 : Int32) (c3 : Int32) : entryFrame m #[(.int (1 : Int32)), (.int c0), (.int c1), (.int c2), (.int c3)] 5 = mkF m 0 #[.val (.int (1 : Int32)), .val (.int c0), .val (.int c1), .val (.int c2), .val (.int c3)] [] := by first | (simp [entryFrame, mkF, argsToLocals, Value.category]; done) | rfl
set_option maxRecDepth 65536 in
set_option maxHeartbeats 40000000 in
theorem c_pat1 (l : Launch) (Z : State) (a0 : Array Value) (hw : ∀ d ∈ tables_1, d.before a0 Z = true) (c0 : Int32) (c1 : Int32) (c2 : Int32) (c3 : Int32) (h0 : Heap) (n0 : Nat) (Z0 : n0 ≤ h0.size) (hr0 : 0 ≤ c0.toInt ∧ c0.toInt < 65536) (hr1 : 0 ≤ c1.toInt ∧ c1.toInt < 65536) (hr2 : 0 ≤ c2.toInt ∧ c2.toInt < 65536) (hr3 : 0 ≤ c3.toInt ∧ c3.toInt < 65536) :
    Ctr l Z (⟨"needlewise/boyermoore/RightmostOfPinLawPinLaw", "pattern", "(ICCCC)[C"⟩ : MethodName) method_2_code 5 (some (.array .char)) ({ frames := 0, cells := 1, slots := 1, locals := 0 } : Room) #[(.int (1 : Int32)), (.int c0), (.int c1), (.int c2), (.int c3)] h0 (fun v h L => ∃ b : Addr, v = some (.ref b) ∧ Fr n0 L ∧ Keep h0 h [] ∧ h0.size ≤ b ∧ Ars Z h b .char [(.int c0)]) := by
  refine Ctr.of (plainFor_of_name pn_2) (fun m => ef_c_pat1 m c0 c1 c2 c3) ?_
  intro p e s m below meth c T0 hx hby hml hown hnm hret hlk hZ e0 X0
  have N0 := Fr.nil n0
  replace hown : s.vm.findClass "needlewise/boyermoore/RightmostOfPinLawPinLaw" = some m.cls := hown
  replace hml : c.maxLocals = 5 := hml
  have KP := Keep.refl h0 []
  refine Run.x_iloadN (q := 1) X0 hx (hb hby d6_0) rfl rfl ?_
  refine Run.x_ifYes (q := 8) X0 hx (hb hby d6_1) ((if0 _ _).trans (feq (by decide : ¬ ((1 : Int32) = (0 : Int32)))).2) (by decide) (by decide) ?_
  refine Run.x_iloadN (q := 9) X0 hx (hb hby d6_8) rfl rfl ?_
  refine Run.x_iconst (q := 10) X0 hx (hb hby d6_9) (z := (1 : Int32)) rfl rfl ?_
  refine Run.x_icmpNo (q := 13) X0 hx (hb hby d6_10) (teq (by decide : (1 : Int32) = (1 : Int32))).2 rfl ?_
  refine Run.x_iconst (q := 14) X0 hx (hb hby d6_13) (z := (1 : Int32)) rfl rfl ?_
  refine Run.newP X0 hx hZ e0 (hw _ (List.mem_of_getElem? (i := 5) rfl)) (hb hby d6_14) (len := 1) (by decide) (by decide) (cap := 1) (by decide) (by decide) (by decide) (by decide) ?_
  intro T1 h1 b1 gg1 X1 e1 E1 A_b1
  have g_b1 : n0 ≤ b1 := Nat.le_trans Z0 (Nat.le_of_eq gg1.symm)
  have sz_b1 : h0.size ≤ b1 := Nat.le_trans KP.1 (Nat.le_of_eq gg1.symm)
  have Z1 : n0 ≤ h1.size := Nat.le_trans Z0 E1.1
  replace KP := KP.ext E1
  replace A_b1 : Ars Z h1 b1 .char [(.int (0 : Int32))] := A_b1
  show Run p e below s _ _ _ (T1.setTop (mkF m 16 #[.val (.int (1 : Int32)), .val (.int c0), .val (.int c1), .val (.int c2), .val (.int c3)] [(.ref b1)]))
  refine Run.x_dup (q := 17) X1 hx (hb hby d6_16) rfl rfl ?_
  refine Run.x_iconst (q := 18) X1 hx (hb hby d6_17) (z := (0 : Int32)) rfl rfl ?_
  refine Run.x_iloadN (q := 19) X1 hx (hb hby d6_18) rfl rfl ?_
  refine Run.stC X1 hx hZ e1 A_b1 (i := 0) (by decide) (Nat.le_of_ble_eq_true rfl) (z' := c0) (own_nr hr0) (hb hby d6_19) ?_
  intro T2 h2 X2 e2 W2 A2
  replace A_b1 : Ars Z h2 b1 .char [(.int c0)] := A2
  replace KP := KP.wr W2 (Or.inr sz_b1)
  have N2 := Fr.snoc X2 N0 g_b1
  have Z2 : n0 ≤ h2.size := Nat.le_trans Z1 (Nat.le_of_eq W2.size.symm)
  show Run p e below s _ _ _ (T2.setTop (mkF m 20 #[.val (.int (1 : Int32)), .val (.int c0), .val (.int c1), .val (.int c2), .val (.int c3)] [(.ref b1)]))
  refine Run.retA X2 hx hlk e2 (t := (.array .char)) hret rfl rfl rfl (hb hby d6_20) (by decide) (by decide) ?_
  exact ⟨b1, rfl, N2, KP, sz_b1, A_b1⟩
theorem ef_c_pat2 (m : MethodId) (c0 : Int32) (c1 : Int32) (c2 : Int32) (c3 : Int32) : entryFrame m #[(.int (2 : Int32)), (.int c0), (.int c1), (.int c2), (.int c3)] 5 = mkF m 0 #[.val (.int (2 : Int32)), .val (.int c0), .val (.int c1), .val (.int c2), .val (.int c3)] [] := by first | (simp [entryFrame, mkF, argsToLocals, Value.category]; done) | rfl
set_option maxRecDepth 65536 in
set_option maxHeartbeats 40000000 in
theorem c_pat2 (l : Launch) (Z : State) (a0 : Array Value) (hw : ∀ d ∈ tables_1, d.before a0 Z = true) (c0 : Int32) (c1 : Int32) (c2 : Int32) (c3 : Int32) (h0 : Heap) (n0 : Nat) (Z0 : n0 ≤ h0.size) (hr0 : 0 ≤ c0.toInt ∧ c0.toInt < 65536) (hr1 : 0 ≤ c1.toInt ∧ c1.toInt < 65536) (hr2 : 0 ≤ c2.toInt ∧ c2.toInt < 65536) (hr3 : 0 ≤ c3.toInt ∧ c3.toInt < 65536) :
    Ctr l Z (⟨"needlewise/boyermoore/RightmostOfPinLawPinLaw", "pattern", "(ICCCC)[C"⟩ : MethodName) method_2_code 5 (some (.array .char)) ({ frames := 0, cells := 1, slots := 2, locals := 0 } : Room) #[(.int (2 : Int32)), (.int c0), (.int c1), (.int c2), (.int c3)] h0 (fun v h L => ∃ b : Addr, v = some (.ref b) ∧ Fr n0 L ∧ Keep h0 h [] ∧ h0.size ≤ b ∧ Ars Z h b .char [(.int c0), (.int c1)]) := by
  refine Ctr.of (plainFor_of_name pn_2) (fun m => ef_c_pat2 m c0 c1 c2 c3) ?_
  intro p e s m below meth c T0 hx hby hml hown hnm hret hlk hZ e0 X0
  have N0 := Fr.nil n0
  replace hown : s.vm.findClass "needlewise/boyermoore/RightmostOfPinLawPinLaw" = some m.cls := hown
  replace hml : c.maxLocals = 5 := hml
  have KP := Keep.refl h0 []
  refine Run.x_iloadN (q := 1) X0 hx (hb hby d6_0) rfl rfl ?_
  refine Run.x_ifYes (q := 8) X0 hx (hb hby d6_1) ((if0 _ _).trans (feq (by decide : ¬ ((2 : Int32) = (0 : Int32)))).2) (by decide) (by decide) ?_
  refine Run.x_iloadN (q := 9) X0 hx (hb hby d6_8) rfl rfl ?_
  refine Run.x_iconst (q := 10) X0 hx (hb hby d6_9) (z := (1 : Int32)) rfl rfl ?_
  refine Run.x_icmpYes (q := 21) X0 hx (hb hby d6_10) (feq (by decide : ¬ ((2 : Int32) = (1 : Int32)))).2 (by decide) (by decide) ?_
  refine Run.x_iloadN (q := 22) X0 hx (hb hby d6_21) rfl rfl ?_
  refine Run.x_iconst (q := 23) X0 hx (hb hby d6_22) (z := (2 : Int32)) rfl rfl ?_
  refine Run.x_icmpNo (q := 26) X0 hx (hb hby d6_23) (teq (by decide : (2 : Int32) = (2 : Int32))).2 rfl ?_
  refine Run.x_iconst (q := 27) X0 hx (hb hby d6_26) (z := (2 : Int32)) rfl rfl ?_
  refine Run.newP X0 hx hZ e0 (hw _ (List.mem_of_getElem? (i := 5) rfl)) (hb hby d6_27) (len := 2) (by decide) (by decide) (cap := 2) (by decide) (by decide) (by decide) (by decide) ?_
  intro T1 h1 b1 gg1 X1 e1 E1 A_b1
  have g_b1 : n0 ≤ b1 := Nat.le_trans Z0 (Nat.le_of_eq gg1.symm)
  have sz_b1 : h0.size ≤ b1 := Nat.le_trans KP.1 (Nat.le_of_eq gg1.symm)
  have Z1 : n0 ≤ h1.size := Nat.le_trans Z0 E1.1
  replace KP := KP.ext E1
  replace A_b1 : Ars Z h1 b1 .char [(.int (0 : Int32)), (.int (0 : Int32))] := A_b1
  show Run p e below s _ _ _ (T1.setTop (mkF m 29 #[.val (.int (2 : Int32)), .val (.int c0), .val (.int c1), .val (.int c2), .val (.int c3)] [(.ref b1)]))
  refine Run.x_dup (q := 30) X1 hx (hb hby d6_29) rfl rfl ?_
  refine Run.x_iconst (q := 31) X1 hx (hb hby d6_30) (z := (0 : Int32)) rfl rfl ?_
  refine Run.x_iloadN (q := 32) X1 hx (hb hby d6_31) rfl rfl ?_
  refine Run.stC X1 hx hZ e1 A_b1 (i := 0) (by decide) (Nat.le_of_ble_eq_true rfl) (z' := c0) (own_nr hr0) (hb hby d6_32) ?_
  intro T2 h2 X2 e2 W2 A2
  replace A_b1 : Ars Z h2 b1 .char [(.int c0), (.int (0 : Int32))] := A2
  replace KP := KP.wr W2 (Or.inr sz_b1)
  have N2 := Fr.snoc X2 N0 g_b1
  have Z2 : n0 ≤ h2.size := Nat.le_trans Z1 (Nat.le_of_eq W2.size.symm)
  show Run p e below s _ _ _ (T2.setTop (mkF m 33 #[.val (.int (2 : Int32)), .val (.int c0), .val (.int c1), .val (.int c2), .val (.int c3)] [(.ref b1)]))
  refine Run.x_dup (q := 34) X2 hx (hb hby d6_33) rfl rfl ?_
  refine Run.x_iconst (q := 35) X2 hx (hb hby d6_34) (z := (1 : Int32)) rfl rfl ?_
  refine Run.x_iloadN (q := 36) X2 hx (hb hby d6_35) rfl rfl ?_
  refine Run.stC X2 hx hZ e2 A_b1 (i := 1) (by decide) (Nat.le_of_ble_eq_true rfl) (z' := c1) (own_nr hr1) (hb hby d6_36) ?_
  intro T3 h3 X3 e3 W3 A3
  replace A_b1 : Ars Z h3 b1 .char [(.int c0), (.int c1)] := A3
  replace KP := KP.wr W3 (Or.inr sz_b1)
  have N3 := Fr.snoc X3 N2 g_b1
  have Z3 : n0 ≤ h3.size := Nat.le_trans Z2 (Nat.le_of_eq W3.size.symm)
  show Run p e below s _ _ _ (T3.setTop (mkF m 37 #[.val (.int (2 : Int32)), .val (.int c0), .val (.int c1), .val (.int c2), .val (.int c3)] [(.ref b1)]))
  refine Run.retA X3 hx hlk e3 (t := (.array .char)) hret rfl rfl rfl (hb hby d6_37) (by decide) (by decide) ?_
  exact ⟨b1, rfl, N3, KP, sz_b1, A_b1⟩
theorem ef_c_pat3 (m : MethodId) (c0 : Int32) (c1 : Int32) (c2 : Int32) (c3 : Int32) : entryFrame m #[(.int (3 : Int32)), (.int c0), (.int c1), (.int c2), (.int c3)] 5 = mkF m 0 #[.val (.int (3 : Int32)), .val (.int c0), .val (.int c1), .val (.int c2), .val (.int c3)] [] := by first | (simp [entryFrame, mkF, argsToLocals, Value.category]; done) | rfl
set_option maxRecDepth 65536 in
set_option maxHeartbeats 40000000 in
theorem c_pat3 (l : Launch) (Z : State) (a0 : Array Value) (hw : ∀ d ∈ tables_1, d.before a0 Z = true) (c0 : Int32) (c1 : Int32) (c2 : Int32) (c3 : Int32) (h0 : Heap) (n0 : Nat) (Z0 : n0 ≤ h0.size) (hr0 : 0 ≤ c0.toInt ∧ c0.toInt < 65536) (hr1 : 0 ≤ c1.toInt ∧ c1.toInt < 65536) (hr2 : 0 ≤ c2.toInt ∧ c2.toInt < 65536) (hr3 : 0 ≤ c3.toInt ∧ c3.toInt < 65536) :
    Ctr l Z (⟨"needlewise/boyermoore/RightmostOfPinLawPinLaw", "pattern", "(ICCCC)[C"⟩ : MethodName) method_2_code 5 (some (.array .char)) ({ frames := 0, cells := 1, slots := 3, locals := 0 } : Room) #[(.int (3 : Int32)), (.int c0), (.int c1), (.int c2), (.int c3)] h0 (fun v h L => ∃ b : Addr, v = some (.ref b) ∧ Fr n0 L ∧ Keep h0 h [] ∧ h0.size ≤ b ∧ Ars Z h b .char [(.int c0), (.int c1), (.int c2)]) := by
  refine Ctr.of (plainFor_of_name pn_2) (fun m => ef_c_pat3 m c0 c1 c2 c3) ?_
  intro p e s m below meth c T0 hx hby hml hown hnm hret hlk hZ e0 X0
  have N0 := Fr.nil n0
  replace hown : s.vm.findClass "needlewise/boyermoore/RightmostOfPinLawPinLaw" = some m.cls := hown
  replace hml : c.maxLocals = 5 := hml
  have KP := Keep.refl h0 []
  refine Run.x_iloadN (q := 1) X0 hx (hb hby d6_0) rfl rfl ?_
  refine Run.x_ifYes (q := 8) X0 hx (hb hby d6_1) ((if0 _ _).trans (feq (by decide : ¬ ((3 : Int32) = (0 : Int32)))).2) (by decide) (by decide) ?_
  refine Run.x_iloadN (q := 9) X0 hx (hb hby d6_8) rfl rfl ?_
  refine Run.x_iconst (q := 10) X0 hx (hb hby d6_9) (z := (1 : Int32)) rfl rfl ?_
  refine Run.x_icmpYes (q := 21) X0 hx (hb hby d6_10) (feq (by decide : ¬ ((3 : Int32) = (1 : Int32)))).2 (by decide) (by decide) ?_
  refine Run.x_iloadN (q := 22) X0 hx (hb hby d6_21) rfl rfl ?_
  refine Run.x_iconst (q := 23) X0 hx (hb hby d6_22) (z := (2 : Int32)) rfl rfl ?_
  refine Run.x_icmpYes (q := 38) X0 hx (hb hby d6_23) (feq (by decide : ¬ ((3 : Int32) = (2 : Int32)))).2 (by decide) (by decide) ?_
  refine Run.x_iloadN (q := 39) X0 hx (hb hby d6_38) rfl rfl ?_
  refine Run.x_iconst (q := 40) X0 hx (hb hby d6_39) (z := (3 : Int32)) rfl rfl ?_
  refine Run.x_icmpNo (q := 43) X0 hx (hb hby d6_40) (teq (by decide : (3 : Int32) = (3 : Int32))).2 rfl ?_
  refine Run.x_iconst (q := 44) X0 hx (hb hby d6_43) (z := (3 : Int32)) rfl rfl ?_
  refine Run.newP X0 hx hZ e0 (hw _ (List.mem_of_getElem? (i := 5) rfl)) (hb hby d6_44) (len := 3) (by decide) (by decide) (cap := 3) (by decide) (by decide) (by decide) (by decide) ?_
  intro T1 h1 b1 gg1 X1 e1 E1 A_b1
  have g_b1 : n0 ≤ b1 := Nat.le_trans Z0 (Nat.le_of_eq gg1.symm)
  have sz_b1 : h0.size ≤ b1 := Nat.le_trans KP.1 (Nat.le_of_eq gg1.symm)
  have Z1 : n0 ≤ h1.size := Nat.le_trans Z0 E1.1
  replace KP := KP.ext E1
  replace A_b1 : Ars Z h1 b1 .char [(.int (0 : Int32)), (.int (0 : Int32)), (.int (0 : Int32))] := A_b1
  show Run p e below s _ _ _ (T1.setTop (mkF m 46 #[.val (.int (3 : Int32)), .val (.int c0), .val (.int c1), .val (.int c2), .val (.int c3)] [(.ref b1)]))
  refine Run.x_dup (q := 47) X1 hx (hb hby d6_46) rfl rfl ?_
  refine Run.x_iconst (q := 48) X1 hx (hb hby d6_47) (z := (0 : Int32)) rfl rfl ?_
  refine Run.x_iloadN (q := 49) X1 hx (hb hby d6_48) rfl rfl ?_
  refine Run.stC X1 hx hZ e1 A_b1 (i := 0) (by decide) (Nat.le_of_ble_eq_true rfl) (z' := c0) (own_nr hr0) (hb hby d6_49) ?_
  intro T2 h2 X2 e2 W2 A2
  replace A_b1 : Ars Z h2 b1 .char [(.int c0), (.int (0 : Int32)), (.int (0 : Int32))] := A2
  replace KP := KP.wr W2 (Or.inr sz_b1)
  have N2 := Fr.snoc X2 N0 g_b1
  have Z2 : n0 ≤ h2.size := Nat.le_trans Z1 (Nat.le_of_eq W2.size.symm)
  show Run p e below s _ _ _ (T2.setTop (mkF m 50 #[.val (.int (3 : Int32)), .val (.int c0), .val (.int c1), .val (.int c2), .val (.int c3)] [(.ref b1)]))
  refine Run.x_dup (q := 51) X2 hx (hb hby d6_50) rfl rfl ?_
  refine Run.x_iconst (q := 52) X2 hx (hb hby d6_51) (z := (1 : Int32)) rfl rfl ?_
  refine Run.x_iloadN (q := 53) X2 hx (hb hby d6_52) rfl rfl ?_
  refine Run.stC X2 hx hZ e2 A_b1 (i := 1) (by decide) (Nat.le_of_ble_eq_true rfl) (z' := c1) (own_nr hr1) (hb hby d6_53) ?_
  intro T3 h3 X3 e3 W3 A3
  replace A_b1 : Ars Z h3 b1 .char [(.int c0), (.int c1), (.int (0 : Int32))] := A3
  replace KP := KP.wr W3 (Or.inr sz_b1)
  have N3 := Fr.snoc X3 N2 g_b1
  have Z3 : n0 ≤ h3.size := Nat.le_trans Z2 (Nat.le_of_eq W3.size.symm)
  show Run p e below s _ _ _ (T3.setTop (mkF m 54 #[.val (.int (3 : Int32)), .val (.int c0), .val (.int c1), .val (.int c2), .val (.int c3)] [(.ref b1)]))
  refine Run.x_dup (q := 55) X3 hx (hb hby d6_54) rfl rfl ?_
  refine Run.x_iconst (q := 56) X3 hx (hb hby d6_55) (z := (2 : Int32)) rfl rfl ?_
  refine Run.x_iloadN (q := 57) X3 hx (hb hby d6_56) rfl rfl ?_
  refine Run.stC X3 hx hZ e3 A_b1 (i := 2) (by decide) (Nat.le_of_ble_eq_true rfl) (z' := c2) (own_nr hr2) (hb hby d6_57) ?_
  intro T4 h4 X4 e4 W4 A4
  replace A_b1 : Ars Z h4 b1 .char [(.int c0), (.int c1), (.int c2)] := A4
  replace KP := KP.wr W4 (Or.inr sz_b1)
  have N4 := Fr.snoc X4 N3 g_b1
  have Z4 : n0 ≤ h4.size := Nat.le_trans Z3 (Nat.le_of_eq W4.size.symm)
  show Run p e below s _ _ _ (T4.setTop (mkF m 58 #[.val (.int (3 : Int32)), .val (.int c0), .val (.int c1), .val (.int c2), .val (.int c3)] [(.ref b1)]))
  refine Run.retA X4 hx hlk e4 (t := (.array .char)) hret rfl rfl rfl (hb hby d6_58) (by decide) (by decide) ?_
  exact ⟨b1, rfl, N4, KP, sz_b1, A_b1⟩
theorem ef_c_pat4 (m : MethodId) (c0 : Int32) (c1 : Int32) (c2 : Int32) (c3 : Int32) : entryFrame m #[(.int (4 : Int32)), (.int c0), (.int c1), (.int c2), (.int c3)] 5 = mkF m 0 #[.val (.int (4 : Int32)), .val (.int c0), .val (.int c1), .val (.int c2), .val (.int c3)] [] := by first | (simp [entryFrame, mkF, argsToLocals, Value.category]; done) | rfl
set_option maxRecDepth 65536 in
set_option maxHeartbeats 40000000 in
theorem c_pat4 (l : Launch) (Z : State) (a0 : Array Value) (hw : ∀ d ∈ tables_1, d.before a0 Z = true) (c0 : Int32) (c1 : Int32) (c2 : Int32) (c3 : Int32) (h0 : Heap) (n0 : Nat) (Z0 : n0 ≤ h0.size) (hr0 : 0 ≤ c0.toInt ∧ c0.toInt < 65536) (hr1 : 0 ≤ c1.toInt ∧ c1.toInt < 65536) (hr2 : 0 ≤ c2.toInt ∧ c2.toInt < 65536) (hr3 : 0 ≤ c3.toInt ∧ c3.toInt < 65536) :
    Ctr l Z (⟨"needlewise/boyermoore/RightmostOfPinLawPinLaw", "pattern", "(ICCCC)[C"⟩ : MethodName) method_2_code 5 (some (.array .char)) ({ frames := 0, cells := 1, slots := 4, locals := 0 } : Room) #[(.int (4 : Int32)), (.int c0), (.int c1), (.int c2), (.int c3)] h0 (fun v h L => ∃ b : Addr, v = some (.ref b) ∧ Fr n0 L ∧ Keep h0 h [] ∧ h0.size ≤ b ∧ Ars Z h b .char [(.int c0), (.int c1), (.int c2), (.int c3)]) := by
  refine Ctr.of (plainFor_of_name pn_2) (fun m => ef_c_pat4 m c0 c1 c2 c3) ?_
  intro p e s m below meth c T0 hx hby hml hown hnm hret hlk hZ e0 X0
  have N0 := Fr.nil n0
  replace hown : s.vm.findClass "needlewise/boyermoore/RightmostOfPinLawPinLaw" = some m.cls := hown
  replace hml : c.maxLocals = 5 := hml
  have KP := Keep.refl h0 []
  refine Run.x_iloadN (q := 1) X0 hx (hb hby d6_0) rfl rfl ?_
  refine Run.x_ifYes (q := 8) X0 hx (hb hby d6_1) ((if0 _ _).trans (feq (by decide : ¬ ((4 : Int32) = (0 : Int32)))).2) (by decide) (by decide) ?_
  refine Run.x_iloadN (q := 9) X0 hx (hb hby d6_8) rfl rfl ?_
  refine Run.x_iconst (q := 10) X0 hx (hb hby d6_9) (z := (1 : Int32)) rfl rfl ?_
  refine Run.x_icmpYes (q := 21) X0 hx (hb hby d6_10) (feq (by decide : ¬ ((4 : Int32) = (1 : Int32)))).2 (by decide) (by decide) ?_
  refine Run.x_iloadN (q := 22) X0 hx (hb hby d6_21) rfl rfl ?_
  refine Run.x_iconst (q := 23) X0 hx (hb hby d6_22) (z := (2 : Int32)) rfl rfl ?_
  refine Run.x_icmpYes (q := 38) X0 hx (hb hby d6_23) (feq (by decide : ¬ ((4 : Int32) = (2 : Int32)))).2 (by decide) (by decide) ?_
  refine Run.x_iloadN (q := 39) X0 hx (hb hby d6_38) rfl rfl ?_
  refine Run.x_iconst (q := 40) X0 hx (hb hby d6_39) (z := (3 : Int32)) rfl rfl ?_
  refine Run.x_icmpYes (q := 59) X0 hx (hb hby d6_40) (feq (by decide : ¬ ((4 : Int32) = (3 : Int32)))).2 (by decide) (by decide) ?_
  refine Run.x_iconst (q := 60) X0 hx (hb hby d6_59) (z := (4 : Int32)) rfl rfl ?_
  refine Run.newP X0 hx hZ e0 (hw _ (List.mem_of_getElem? (i := 5) rfl)) (hb hby d6_60) (len := 4) (by decide) (by decide) (cap := 4) (by decide) (by decide) (by decide) (by decide) ?_
  intro T1 h1 b1 gg1 X1 e1 E1 A_b1
  have g_b1 : n0 ≤ b1 := Nat.le_trans Z0 (Nat.le_of_eq gg1.symm)
  have sz_b1 : h0.size ≤ b1 := Nat.le_trans KP.1 (Nat.le_of_eq gg1.symm)
  have Z1 : n0 ≤ h1.size := Nat.le_trans Z0 E1.1
  replace KP := KP.ext E1
  replace A_b1 : Ars Z h1 b1 .char [(.int (0 : Int32)), (.int (0 : Int32)), (.int (0 : Int32)), (.int (0 : Int32))] := A_b1
  show Run p e below s _ _ _ (T1.setTop (mkF m 62 #[.val (.int (4 : Int32)), .val (.int c0), .val (.int c1), .val (.int c2), .val (.int c3)] [(.ref b1)]))
  refine Run.x_dup (q := 63) X1 hx (hb hby d6_62) rfl rfl ?_
  refine Run.x_iconst (q := 64) X1 hx (hb hby d6_63) (z := (0 : Int32)) rfl rfl ?_
  refine Run.x_iloadN (q := 65) X1 hx (hb hby d6_64) rfl rfl ?_
  refine Run.stC X1 hx hZ e1 A_b1 (i := 0) (by decide) (Nat.le_of_ble_eq_true rfl) (z' := c0) (own_nr hr0) (hb hby d6_65) ?_
  intro T2 h2 X2 e2 W2 A2
  replace A_b1 : Ars Z h2 b1 .char [(.int c0), (.int (0 : Int32)), (.int (0 : Int32)), (.int (0 : Int32))] := A2
  replace KP := KP.wr W2 (Or.inr sz_b1)
  have N2 := Fr.snoc X2 N0 g_b1
  have Z2 : n0 ≤ h2.size := Nat.le_trans Z1 (Nat.le_of_eq W2.size.symm)
  show Run p e below s _ _ _ (T2.setTop (mkF m 66 #[.val (.int (4 : Int32)), .val (.int c0), .val (.int c1), .val (.int c2), .val (.int c3)] [(.ref b1)]))
  refine Run.x_dup (q := 67) X2 hx (hb hby d6_66) rfl rfl ?_
  refine Run.x_iconst (q := 68) X2 hx (hb hby d6_67) (z := (1 : Int32)) rfl rfl ?_
  refine Run.x_iloadN (q := 69) X2 hx (hb hby d6_68) rfl rfl ?_
  refine Run.stC X2 hx hZ e2 A_b1 (i := 1) (by decide) (Nat.le_of_ble_eq_true rfl) (z' := c1) (own_nr hr1) (hb hby d6_69) ?_
  intro T3 h3 X3 e3 W3 A3
  replace A_b1 : Ars Z h3 b1 .char [(.int c0), (.int c1), (.int (0 : Int32)), (.int (0 : Int32))] := A3
  replace KP := KP.wr W3 (Or.inr sz_b1)
  have N3 := Fr.snoc X3 N2 g_b1
  have Z3 : n0 ≤ h3.size := Nat.le_trans Z2 (Nat.le_of_eq W3.size.symm)
  show Run p e below s _ _ _ (T3.setTop (mkF m 70 #[.val (.int (4 : Int32)), .val (.int c0), .val (.int c1), .val (.int c2), .val (.int c3)] [(.ref b1)]))
  refine Run.x_dup (q := 71) X3 hx (hb hby d6_70) rfl rfl ?_
  refine Run.x_iconst (q := 72) X3 hx (hb hby d6_71) (z := (2 : Int32)) rfl rfl ?_
  refine Run.x_iloadN (q := 73) X3 hx (hb hby d6_72) rfl rfl ?_
  refine Run.stC X3 hx hZ e3 A_b1 (i := 2) (by decide) (Nat.le_of_ble_eq_true rfl) (z' := c2) (own_nr hr2) (hb hby d6_73) ?_
  intro T4 h4 X4 e4 W4 A4
  replace A_b1 : Ars Z h4 b1 .char [(.int c0), (.int c1), (.int c2), (.int (0 : Int32))] := A4
  replace KP := KP.wr W4 (Or.inr sz_b1)
  have N4 := Fr.snoc X4 N3 g_b1
  have Z4 : n0 ≤ h4.size := Nat.le_trans Z3 (Nat.le_of_eq W4.size.symm)
  show Run p e below s _ _ _ (T4.setTop (mkF m 74 #[.val (.int (4 : Int32)), .val (.int c0), .val (.int c1), .val (.int c2), .val (.int c3)] [(.ref b1)]))
  refine Run.x_dup (q := 75) X4 hx (hb hby d6_74) rfl rfl ?_
  refine Run.x_iconst (q := 76) X4 hx (hb hby d6_75) (z := (3 : Int32)) rfl rfl ?_
  refine Run.x_iload (q := 78) X4 hx (hb hby d6_76) rfl rfl ?_
  refine Run.stC X4 hx hZ e4 A_b1 (i := 3) (by decide) (Nat.le_of_ble_eq_true rfl) (z' := c3) (own_nr hr3) (hb hby d6_78) ?_
  intro T5 h5 X5 e5 W5 A5
  replace A_b1 : Ars Z h5 b1 .char [(.int c0), (.int c1), (.int c2), (.int c3)] := A5
  replace KP := KP.wr W5 (Or.inr sz_b1)
  have N5 := Fr.snoc X5 N4 g_b1
  have Z5 : n0 ≤ h5.size := Nat.le_trans Z4 (Nat.le_of_eq W5.size.symm)
  show Run p e below s _ _ _ (T5.setTop (mkF m 79 #[.val (.int (4 : Int32)), .val (.int c0), .val (.int c1), .val (.int c2), .val (.int c3)] [(.ref b1)]))
  refine Run.retA X5 hx hlk e5 (t := (.array .char)) hret rfl rfl rfl (hb hby d6_79) (by decide) (by decide) ?_
  exact ⟨b1, rfl, N5, KP, sz_b1, A_b1⟩
theorem own_m {p v : Int32} (h : (p &&& 7) % 5 = v) : v = 0 ∨ v = 1 ∨ v = 2 ∨ v = 3 ∨ v = 4 := by
  have q := c_mask p 7 3 (by decide) (by decide)
  have r := (c_irem (p &&& 7) 5 5 (by decide)).1 (by rw [q]; omega)
  rw [h] at r
  simp only [eq32]
  have : (0 : Int32).toInt = 0 ∧ (1 : Int32).toInt = 1 ∧ (2 : Int32).toInt = 2 ∧ (3 : Int32).toInt = 3 ∧ (4 : Int32).toInt = 4 := by decide
  omega
theorem ef_c_law (m : MethodId) (p1 : Int32) (p2 : Int32) (p3 : Int32) (p4 : Int32) : entryFrame m #[(.int p1), (.int p2), (.int p3), (.int p4)] maxLocals = mkF m 0 #[.val (.int p1), .val (.int p2), .val (.int p3), .val (.int p4), .unset, .unset, .unset, .unset, .unset, .unset, .unset, .unset, .unset, .unset, .unset, .unset] [] := by first | (simp [entryFrame, mkF, argsToLocals, Value.category, maxLocals]; done) | rfl
theorem pd_3 : parseMethodDescriptor "(ICCCC)[C" = some ⟨[.int, .char, .char, .char, .char], some (.array .char)⟩ := by decide +kernel
theorem pd_4 : parseMethodDescriptor "([C)V" = some ⟨[(.array .char)], none⟩ := by decide +kernel
theorem pd_5 : parseMethodDescriptor "(C)I" = some ⟨[.char], some .int⟩ := by decide +kernel
set_option maxRecDepth 65536 in
set_option maxHeartbeats 40000000 in
theorem c_law (l : Launch) (Z : State) (a0 : Array Value) (hw : ∀ d ∈ tables_1, d.before a0 Z = true) (p1 : Int32) (p2 : Int32) (p3 : Int32) (p4 : Int32) (h0 : Heap) (n0 : Nat) (Z0 : n0 ≤ h0.size) (ab : Addr) (S_ABSENT : Sta Z h0 "needlewise/boyermoore/Rightmost" "ABSENT" "[I" (.ref ab)) (A_ab : Ars Z h0 ab .int (List.replicate 256 (.int (-1)))) (E_ab : Exa Z h0 ab "[I") :
    Ctr l Z x code maxLocals ret room_1 #[(.int p1), (.int p2), (.int p3), (.int p4)] h0 (Tru n0) := by
  refine Ctr.of (plainFor_of_name pn_2) (fun m => ef_c_law m p1 p2 p3 p4) ?_
  intro p e s m below meth c T0 hx hby hml hown hnm hret hlk hZ e0 X0
  have N0 := Fr.nil n0
  replace hown : s.vm.findClass "needlewise/boyermoore/RightmostOfPinLawPinLaw" = some m.cls := hown
  replace hml : c.maxLocals = 16 := hml
  have J16 : ∀ (mk : Int32), Run p e below s (Tru n0) room_1.cells room_1.slots (T0.setTop (mkF m 16 #[.val (.int p1), .val (.int p2), .val (.int p3), .val (.int p4), .unset, .unset, .unset, .unset, .unset, .unset, .unset, .unset, .unset, .unset, .unset, .unset] [(.int mk)])) := by
    intro mk
    refine Run.x_istore (q := 18) X0 hx #[.val (.int p1), .val (.int p2), .val (.int p3), .val (.int p4), .val (.int mk), .unset, .unset, .unset, .unset, .unset, .unset, .unset, .unset, .unset, .unset, .unset] (hb hby at_16) rfl rfl ?_
    refine Run.x_iloadN (q := 19) X0 hx (hb hby at_18) rfl rfl ?_
    refine Run.x_iload (q := 21) X0 hx (hb hby at_19) rfl rfl ?_
    refine Run.x_iand (q := 22) X0 hx (hb hby at_21) rfl rfl ?_
    refine Run.x_i2c (q := 23) X0 hx (hb hby at_22) rfl rfl ?_
    refine Run.x_istore (q := 25) X0 hx #[.val (.int p1), .val (.int p2), .val (.int p3), .val (.int p4), .val (.int mk), .val (.int (p1 &&& mk).toUInt32.toUInt16.toUInt32.toInt32), .unset, .unset, .unset, .unset, .unset, .unset, .unset, .unset, .unset, .unset] (hb hby at_23) rfl rfl ?_
    generalize hk0 : (p1 &&& mk).toUInt32.toUInt16.toUInt32.toInt32 = k0
    refine Run.x_iloadN (q := 26) X0 hx (hb hby at_25) rfl rfl ?_
    refine Run.x_bipush (q := 28) X0 hx (hb hby at_26) (z := (16 : Int32)) rfl rfl ?_
    refine Run.x_iushr (q := 29) X0 hx (hb hby at_28) rfl rfl ?_
    refine Run.x_iload (q := 31) X0 hx (hb hby at_29) rfl rfl ?_
    refine Run.x_iand (q := 32) X0 hx (hb hby at_31) rfl rfl ?_
    refine Run.x_i2c (q := 33) X0 hx (hb hby at_32) rfl rfl ?_
    refine Run.x_istore (q := 35) X0 hx #[.val (.int p1), .val (.int p2), .val (.int p3), .val (.int p4), .val (.int mk), .val (.int k0), .val (.int (((p1.toUInt32 >>> ((16 : Int32) &&& 31).toUInt32).toInt32) &&& mk).toUInt32.toUInt16.toUInt32.toInt32), .unset, .unset, .unset, .unset, .unset, .unset, .unset, .unset, .unset] (hb hby at_33) rfl rfl ?_
    generalize hk1 : (((p1.toUInt32 >>> ((16 : Int32) &&& 31).toUInt32).toInt32) &&& mk).toUInt32.toUInt16.toUInt32.toInt32 = k1
    refine Run.x_iloadN (q := 36) X0 hx (hb hby at_35) rfl rfl ?_
    refine Run.x_iload (q := 38) X0 hx (hb hby at_36) rfl rfl ?_
    refine Run.x_iand (q := 39) X0 hx (hb hby at_38) rfl rfl ?_
    refine Run.x_i2c (q := 40) X0 hx (hb hby at_39) rfl rfl ?_
    refine Run.x_istore (q := 42) X0 hx #[.val (.int p1), .val (.int p2), .val (.int p3), .val (.int p4), .val (.int mk), .val (.int k0), .val (.int k1), .val (.int (p2 &&& mk).toUInt32.toUInt16.toUInt32.toInt32), .unset, .unset, .unset, .unset, .unset, .unset, .unset, .unset] (hb hby at_40) rfl rfl ?_
    generalize hk2 : (p2 &&& mk).toUInt32.toUInt16.toUInt32.toInt32 = k2
    refine Run.x_iloadN (q := 43) X0 hx (hb hby at_42) rfl rfl ?_
    refine Run.x_bipush (q := 45) X0 hx (hb hby at_43) (z := (16 : Int32)) rfl rfl ?_
    refine Run.x_iushr (q := 46) X0 hx (hb hby at_45) rfl rfl ?_
    refine Run.x_iload (q := 48) X0 hx (hb hby at_46) rfl rfl ?_
    refine Run.x_iand (q := 49) X0 hx (hb hby at_48) rfl rfl ?_
    refine Run.x_i2c (q := 50) X0 hx (hb hby at_49) rfl rfl ?_
    refine Run.x_istore (q := 52) X0 hx #[.val (.int p1), .val (.int p2), .val (.int p3), .val (.int p4), .val (.int mk), .val (.int k0), .val (.int k1), .val (.int k2), .val (.int (((p2.toUInt32 >>> ((16 : Int32) &&& 31).toUInt32).toInt32) &&& mk).toUInt32.toUInt16.toUInt32.toInt32), .unset, .unset, .unset, .unset, .unset, .unset, .unset] (hb hby at_50) rfl rfl ?_
    generalize hk3 : (((p2.toUInt32 >>> ((16 : Int32) &&& 31).toUInt32).toInt32) &&& mk).toUInt32.toUInt16.toUInt32.toInt32 = k3
    refine Run.x_iloadN (q := 53) X0 hx (hb hby at_52) rfl rfl ?_
    refine Run.x_bipush (q := 55) X0 hx (hb hby at_53) (z := (7 : Int32)) rfl rfl ?_
    refine Run.x_iand (q := 56) X0 hx (hb hby at_55) rfl rfl ?_
    refine Run.x_iconst (q := 57) X0 hx (hb hby at_56) (z := (5 : Int32)) rfl rfl ?_
    refine Run.x_irem (q := 58) X0 hx (hb hby at_57) (by decide) rfl rfl ?_
    refine Run.x_istore (q := 60) X0 hx #[.val (.int p1), .val (.int p2), .val (.int p3), .val (.int p4), .val (.int mk), .val (.int k0), .val (.int k1), .val (.int k2), .val (.int k3), .val (.int ((p4 &&& (7 : Int32)) % (5 : Int32))), .unset, .unset, .unset, .unset, .unset, .unset] (hb hby at_58) rfl rfl ?_
    generalize hmm : ((p4 &&& (7 : Int32)) % (5 : Int32)) = mm
    have r0 := own_rg hk0
    have r1 := own_rg hk1
    have r2 := own_rg hk2
    have r3 := own_rg hk3
    rcases own_m hmm with rfl | rfl | rfl | rfl | rfl
    · skip
      show Run p e below s _ _ _ (T0.setTop (mkF m 60 #[.val (.int p1), .val (.int p2), .val (.int p3), .val (.int p4), .val (.int mk), .val (.int k0), .val (.int k1), .val (.int k2), .val (.int k3), .val (.int (0 : Int32)), .unset, .unset, .unset, .unset, .unset, .unset] []))
      refine Run.x_iload (q := 62) X0 hx (hb hby at_60) rfl rfl ?_
      refine Run.x_iload (q := 64) X0 hx (hb hby at_62) rfl rfl ?_
      refine Run.x_iload (q := 66) X0 hx (hb hby at_64) rfl rfl ?_
      refine Run.x_iload (q := 68) X0 hx (hb hby at_66) rfl rfl ?_
      refine Run.x_iload (q := 70) X0 hx (hb hby at_68) rfl rfl ?_
      refine Run.callS X0 hx hZ e0 (y := (⟨"needlewise/boyermoore/RightmostOfPinLawPinLaw", "pattern", "(ICCCC)[C"⟩ : MethodName)) hown (hw _ (List.mem_of_getElem? (i := 1) rfl)) (hw _ (List.mem_of_getElem? (i := 2) rfl)) (hw _ (List.mem_of_getElem? (i := 3) rfl)) (hw _ (List.mem_of_getElem? (i := 4) rfl)) (by decide) (argsL := [(.int (0 : Int32)), (.int k0), (.int k1), (.int k2), (.int k3)]) (rest := []) (c_pat0 l Z a0 hw k0 k1 k2 k3 h0 n0 Z0 r0 r1 r2 r3) pd_3 rfl (by rw [hml]; rfl) (W := 0) rfl (by decide) (by decide) (by decide) (by decide) (hb hby at_70) rfl ?_
      intro T1 v1 L1 X1 q1
      obtain ⟨np1, rfl, M1, K1, sz1, An1⟩ := q1
      have N1 := Fr.app N0 M1
      show Run p e below s _ _ _ (T1.setTop (mkF m 73 #[.val (.int p1), .val (.int p2), .val (.int p3), .val (.int p4), .val (.int mk), .val (.int k0), .val (.int k1), .val (.int k2), .val (.int k3), .val (.int (0 : Int32)), .unset, .unset, .unset, .unset, .unset, .unset] [(.ref np1)]))
      have ne_ab_np1 : ab ≠ np1 := Nat.ne_of_lt (Nat.lt_of_lt_of_le A_ab.lt sz1)
      have g_np1 : n0 ≤ np1 := Nat.le_trans Z0 sz1
      replace S_ABSENT := Sta_keep S_ABSENT K1 all0
      have Z1 : n0 ≤ T1.heap.size := Nat.le_trans Z0 K1.1
      refine Run.x_astore (q := 75) X1 hx #[.val (.int p1), .val (.int p2), .val (.int p3), .val (.int p4), .val (.int mk), .val (.int k0), .val (.int k1), .val (.int k2), .val (.int k3), .val (.int (0 : Int32)), .val (.ref np1), .unset, .unset, .unset, .unset, .unset] (hb hby at_73) rfl rfl rfl ?_
      refine Run.x_iloadN (q := 76) X1 hx (hb hby at_75) rfl rfl ?_
      refine Run.x_iconst (q := 77) X1 hx (hb hby at_76) (z := (3 : Int32)) rfl rfl ?_
      refine Run.x_iand (q := 78) X1 hx (hb hby at_77) rfl rfl ?_
      refine Run.x_istore (q := 80) X1 hx #[.val (.int p1), .val (.int p2), .val (.int p3), .val (.int p4), .val (.int mk), .val (.int k0), .val (.int k1), .val (.int k2), .val (.int k3), .val (.int (0 : Int32)), .val (.ref np1), .val (.int (p3 &&& (3 : Int32))), .unset, .unset, .unset, .unset] (hb hby at_78) rfl rfl ?_
      generalize hsel : (p3 &&& (3 : Int32)) = sel
      have J114 : ∀ (dd : Int32), (0 ≤ dd.toInt ∧ dd.toInt < 65536) → Run p e below s (Tru n0) room_1.cells room_1.slots (T1.setTop (mkF m 114 #[.val (.int p1), .val (.int p2), .val (.int p3), .val (.int p4), .val (.int mk), .val (.int k0), .val (.int k1), .val (.int k2), .val (.int k3), .val (.int (0 : Int32)), .val (.ref np1), .val (.int sel), .unset, .unset, .unset, .unset] [(.int dd)])) := by
        intro dd rd
        refine Run.x_istore (q := 116) X1 hx #[.val (.int p1), .val (.int p2), .val (.int p3), .val (.int p4), .val (.int mk), .val (.int k0), .val (.int k1), .val (.int k2), .val (.int k3), .val (.int (0 : Int32)), .val (.ref np1), .val (.int sel), .val (.int dd), .unset, .unset, .unset] (hb hby at_114) rfl rfl ?_
        refine Run.x_iloadN (q := 117) X1 hx (hb hby at_116) rfl rfl ?_
        refine Run.x_iconst (q := 118) X1 hx (hb hby at_117) (z := (3 : Int32)) rfl rfl ?_
        refine Run.x_iushr (q := 119) X1 hx (hb hby at_118) rfl rfl ?_
        refine Run.x_iconst (q := 120) X1 hx (hb hby at_119) (z := (3 : Int32)) rfl rfl ?_
        refine Run.x_iand (q := 121) X1 hx (hb hby at_120) rfl rfl ?_
        refine Run.x_istore (q := 123) X1 hx #[.val (.int p1), .val (.int p2), .val (.int p3), .val (.int p4), .val (.int mk), .val (.int k0), .val (.int k1), .val (.int k2), .val (.int k3), .val (.int (0 : Int32)), .val (.ref np1), .val (.int sel), .val (.int dd), .val (.int (((p4.toUInt32 >>> ((3 : Int32) &&& 31).toUInt32).toInt32) &&& (3 : Int32))), .unset, .unset] (hb hby at_121) rfl rfl ?_
        generalize hmd : (((p4.toUInt32 >>> ((3 : Int32) &&& 31).toUInt32).toInt32) &&& (3 : Int32)) = md
        have J182 : ∀ (u : Int32), (0 ≤ u.toInt ∧ u.toInt < 65536) → Run p e below s (Tru n0) room_1.cells room_1.slots (T1.setTop (mkF m 182 #[.val (.int p1), .val (.int p2), .val (.int p3), .val (.int p4), .val (.int mk), .val (.int k0), .val (.int k1), .val (.int k2), .val (.int k3), .val (.int (0 : Int32)), .val (.ref np1), .val (.int sel), .val (.int dd), .val (.int md), .val (.int u), .unset] [])) := by
          intro u hu
          refine Run.x_iconst (q := 183) X1 hx (hb hby at_182) (z := (-1 : Int32)) rfl rfl ?_
          refine Run.x_istore (q := 185) X1 hx #[.val (.int p1), .val (.int p2), .val (.int p3), .val (.int p4), .val (.int mk), .val (.int k0), .val (.int k1), .val (.int k2), .val (.int k3), .val (.int (0 : Int32)), .val (.ref np1), .val (.int sel), .val (.int dd), .val (.int md), .val (.int u), .val (.int (-1 : Int32))] (hb hby at_183) rfl rfl ?_
          refine Run.x_iload (q := 187) X1 hx (hb hby at_185) rfl rfl ?_
          refine Run.x_ifYes (q := 200) X1 hx (hb hby at_187) ((if0 _ _).trans (flt (by decide : ¬ ((0 : Int32) < (0 : Int32)))).2.2.2) (by decide) (by decide) ?_
          refine Run.x_iload (q := 202) X1 hx (hb hby at_200) rfl rfl ?_
          refine Run.x_iconst (q := 203) X1 hx (hb hby at_202) (z := (1 : Int32)) rfl rfl ?_
          refine Run.x_icmpYes (q := 216) X1 hx (hb hby at_203) (flt (by decide : ¬ ((1 : Int32) < (0 : Int32)))).2.2.2 (by decide) (by decide) ?_
          refine Run.x_iload (q := 218) X1 hx (hb hby at_216) rfl rfl ?_
          refine Run.x_iconst (q := 219) X1 hx (hb hby at_218) (z := (2 : Int32)) rfl rfl ?_
          refine Run.x_icmpYes (q := 232) X1 hx (hb hby at_219) (flt (by decide : ¬ ((2 : Int32) < (0 : Int32)))).2.2.2 (by decide) (by decide) ?_
          refine Run.x_iload (q := 234) X1 hx (hb hby at_232) rfl rfl ?_
          refine Run.x_iconst (q := 235) X1 hx (hb hby at_234) (z := (3 : Int32)) rfl rfl ?_
          refine Run.x_icmpYes (q := 248) X1 hx (hb hby at_235) (flt (by decide : ¬ ((3 : Int32) < (0 : Int32)))).2.2.2 (by decide) (by decide) ?_
          obtain ⟨T2, h2, X2, e2, E2, A2, D2, -, st2⟩ := newO X1 hx hZ hown (hw _ (List.mem_of_getElem? (i := 6) rfl)) (hw _ (List.mem_of_getElem? (i := 7) rfl)) (hw _ (List.mem_of_getElem? (i := 8) rfl)) rfl (g := (mkF m 248 #[.val (.int p1), .val (.int p2), .val (.int p3), .val (.int p4), .val (.int mk), .val (.int k0), .val (.int k1), .val (.int k2), .val (.int k3), .val (.int (0 : Int32)), .val (.ref np1), .val (.int sel), .val (.int dd), .val (.int md), .val (.int u), .val (.int (-1 : Int32))] [])) rfl (hb hby at_248) (by decide) (by decide)
          obtain ⟨b2, gg2⟩ : ∃ z, z = T1.heap.size := ⟨_, rfl⟩
          rw [← gg2] at A2 D2 st2
          have g_b2 : n0 ≤ b2 := Nat.le_trans Z1 (Nat.le_of_eq gg2.symm)
          replace A_ab := A_ab.keep K1 nin0
          have ne_ab_b2 : ab ≠ b2 := Nat.ne_of_lt (Nat.lt_of_lt_of_le A_ab.lt (Nat.le_of_eq gg2.symm))
          have ne_np1_b2 : np1 ≠ b2 := Nat.ne_of_lt (Nat.lt_of_lt_of_le An1.lt (Nat.le_of_eq gg2.symm))
          have Z2 : n0 ≤ h2.size := Nat.le_trans Z1 E2.1
          have E_b2 := A2
          have F_b2_pages : Fld Z h2 b2 "needlewise/boyermoore/Rightmost" "pages" "[[I" .null := D2 (Or.inr (hw _ (List.mem_of_getElem? (i := 18) rfl))) (ty := (.array (.array .int))) (by decide)
          have F_b2_low : Fld Z h2 b2 "needlewise/boyermoore/Rightmost" "low" "[I" .null := D2 (Or.inr (hw _ (List.mem_of_getElem? (i := 34) rfl))) (ty := (.array .int)) (by decide)
          have F_b2_filter : Fld Z h2 b2 "needlewise/boyermoore/Rightmost" "filter" "J" (.long (0 : Int64)) := D2 (Or.inr (hw _ (List.mem_of_getElem? (i := 36) rfl))) (ty := .long) (by decide)
          refine Run.st st2 ?_
          show Run p e below s _ _ _ (T2.setTop (mkF m 251 #[.val (.int p1), .val (.int p2), .val (.int p3), .val (.int p4), .val (.int mk), .val (.int k0), .val (.int k1), .val (.int k2), .val (.int k3), .val (.int (0 : Int32)), .val (.ref np1), .val (.int sel), .val (.int dd), .val (.int md), .val (.int u), .val (.int (-1 : Int32))] [(.ref b2)]))
          refine Run.x_dup (q := 252) X2 hx (hb hby at_251) rfl rfl ?_
          refine Run.x_aload (q := 254) X2 hx (hb hby at_252) rfl rfl rfl ?_
          replace An1 := An1.ext E2
          replace S_ABSENT := S_ABSENT.ext E2
          replace A_ab := A_ab.ext E2
          replace E_ab := (E_ab.keep K1).ext E2
          refine Run.callC X2 hx hZ e2 (y := (⟨"needlewise/boyermoore/Rightmost", "<init>", "([C)V"⟩ : MethodName)) hown rfl (hw _ (List.mem_of_getElem? (i := 9) rfl)) (hw _ (List.mem_of_getElem? (i := 10) rfl)) (hw _ (List.mem_of_getElem? (i := 8) rfl)) (hw _ (List.mem_of_getElem? (i := 11) rfl)) (by decide) (a := b2) (argsL := [(.ref np1)]) (rest := [(.ref b2)]) (c_init0 l Z a0 hw b2 np1 h2 n0 Z2 ab E_b2 F_b2_pages F_b2_low F_b2_filter An1 S_ABSENT A_ab E_ab g_b2 (Ne.symm ne_np1_b2) (Ne.symm ne_ab_b2) (Ne.symm ne_ab_np1)) pd_4 rfl (by rw [hml]; rfl) (W := 1) rfl (by decide) (by decide) (by decide) (by decide) (hb hby at_254) rfl ?_
          intro T3 v3 L3 X3 q3
          obtain ⟨pa3, pg3, rfl, M3, PG3, Fp3, Fl3, Ff3, E3⟩ := q3
          have N3 := Fr.app N1 M3
          show Run p e below s _ _ _ (T3.setTop (mkF m 257 #[.val (.int p1), .val (.int p2), .val (.int p3), .val (.int p4), .val (.int mk), .val (.int k0), .val (.int k1), .val (.int k2), .val (.int k3), .val (.int (0 : Int32)), .val (.ref np1), .val (.int sel), .val (.int dd), .val (.int md), .val (.int u), .val (.int (-1 : Int32))] [(.ref b2)]))
          have Z3 : n0 ≤ T3.heap.size := Nat.le_trans g_b2 (Nat.le_of_lt E3.lt)
          refine Run.x_iload (q := 259) X3 hx (hb hby at_257) rfl rfl ?_
          refine Run.callV X3 hx hZ rfl (y := (⟨"needlewise/boyermoore/Rightmost", "of", "(C)I"⟩ : MethodName)) (z := (⟨"needlewise/boyermoore/Rightmost", "of", "(C)I"⟩ : MethodName)) hown (hw _ (List.mem_of_getElem? (i := 37) rfl)) (hw _ (List.mem_of_getElem? (i := 38) rfl)) (notFace_of_selects (args := #[]) (mvT hZ (hw _ (List.mem_of_getElem? (i := 40) rfl)))) (hw _ (List.mem_of_getElem? (i := 40) rfl)) (hw _ (List.mem_of_getElem? (i := 39) rfl)) (hw _ (List.mem_of_getElem? (i := 8) rfl)) (hw _ (List.mem_of_getElem? (i := 41) rfl)) (by decide) (a := b2) E3 (argsL := [(.int u)]) (rest := []) (c_of l Z a0 hw b2 u T3.heap n0 Z3 ab pa3 pg3 (own_go (fun _ => -1) 0 []) (own_bt 0 []) E3 Fp3 Fl3 Ff3 PG3 hu) pd_5 rfl (by rw [hml]; rfl) (W := 0) rfl (by decide) (by decide) (by decide) (by decide) (hb hby at_259) rfl ?_
          intro T4 v4 L4 X4 q4
          obtain ⟨rfl, M4, e4⟩ := q4
          have N4 := Fr.app N3 M4
          show Run p e below s _ _ _ (T4.setTop (mkF m 262 #[.val (.int p1), .val (.int p2), .val (.int p3), .val (.int p4), .val (.int mk), .val (.int k0), .val (.int k1), .val (.int k2), .val (.int k3), .val (.int (0 : Int32)), .val (.ref np1), .val (.int sel), .val (.int dd), .val (.int md), .val (.int u), .val (.int (-1 : Int32))] [(.int (own_of (own_go (fun _ => -1) 0 []) (own_bt 0 []) u))]))
          refine Run.x_iload (q := 264) X4 hx (hb hby at_262) rfl rfl ?_
          refine Run.x_icmpNo (q := 267) X4 hx (hb hby at_264) (teq ((own_fin hu.1 [] (fun _ h => nomatch h)).trans (by rfl))).2 rfl ?_
          refine Run.x_iconst (q := 268) X4 hx (hb hby at_267) (z := (1 : Int32)) rfl rfl ?_
          refine Run.x_goto (q := 272) X4 hx (hb hby at_268) (by decide) (by decide) ?_
          refine Run.retN X4 hx hlk e4 (t := .boolean) hret (by simp) (z' := (1 : Int32)) (by decide) (hb hby at_272) (by decide) (by decide) ?_
          exact ⟨rfl, N4⟩
        refine Run.x_iload (q := 125) X1 hx (hb hby at_123) rfl rfl ?_
        by_cases hc125 : md = (0 : Int32)
        · skip
          refine Run.x_ifNo (q := 128) X1 hx (hb hby at_125) ((if0 _ _).trans (teq hc125).2) rfl ?_
          refine Run.x_iloadN (q := 129) X1 hx (hb hby at_128) rfl rfl ?_
          refine Run.x_i2c (q := 130) X1 hx (hb hby at_129) rfl rfl ?_
          refine Run.x_istore (q := 132) X1 hx #[.val (.int p1), .val (.int p2), .val (.int p3), .val (.int p4), .val (.int mk), .val (.int k0), .val (.int k1), .val (.int k2), .val (.int k3), .val (.int (0 : Int32)), .val (.ref np1), .val (.int sel), .val (.int dd), .val (.int md), .val (.int p3.toUInt32.toUInt16.toUInt32.toInt32), .unset] (hb hby at_130) rfl rfl ?_
          refine Run.x_goto (q := 182) X1 hx (hb hby at_132) (by decide) (by decide) ?_
          exact J182 _ (own_rg rfl)
        · skip
          refine Run.x_ifYes (q := 135) X1 hx (hb hby at_125) ((if0 _ _).trans (feq hc125).2) (by decide) (by decide) ?_
          refine Run.x_iload (q := 137) X1 hx (hb hby at_135) rfl rfl ?_
          refine Run.x_iconst (q := 138) X1 hx (hb hby at_137) (z := (1 : Int32)) rfl rfl ?_
          by_cases hc138 : md = (1 : Int32)
          · skip
            refine Run.x_icmpNo (q := 141) X1 hx (hb hby at_138) (teq hc138).2 rfl ?_
            refine Run.x_iload (q := 143) X1 hx (hb hby at_141) rfl rfl ?_
            refine Run.x_istore (q := 145) X1 hx #[.val (.int p1), .val (.int p2), .val (.int p3), .val (.int p4), .val (.int mk), .val (.int k0), .val (.int k1), .val (.int k2), .val (.int k3), .val (.int (0 : Int32)), .val (.ref np1), .val (.int sel), .val (.int dd), .val (.int md), .val (.int dd), .unset] (hb hby at_143) rfl rfl ?_
            refine Run.x_goto (q := 182) X1 hx (hb hby at_145) (by decide) (by decide) ?_
            exact J182 _ rd
          · skip
            refine Run.x_icmpYes (q := 148) X1 hx (hb hby at_138) (feq hc138).2 (by decide) (by decide) ?_
            refine Run.x_iload (q := 150) X1 hx (hb hby at_148) rfl rfl ?_
            refine Run.x_iconst (q := 151) X1 hx (hb hby at_150) (z := (2 : Int32)) rfl rfl ?_
            by_cases hc151 : md = (2 : Int32)
            · skip
              refine Run.x_icmpNo (q := 154) X1 hx (hb hby at_151) (teq hc151).2 rfl ?_
              refine Run.x_iload (q := 156) X1 hx (hb hby at_154) rfl rfl ?_
              refine Run.x_iloadN (q := 157) X1 hx (hb hby at_156) rfl rfl ?_
              refine Run.x_iconst (q := 158) X1 hx (hb hby at_157) (z := (2 : Int32)) rfl rfl ?_
              refine Run.x_iushr (q := 159) X1 hx (hb hby at_158) rfl rfl ?_
              refine Run.st (B := T1.setTop (mkF m 161 #[.val (.int p1), .val (.int p2), .val (.int p3), .val (.int p4), .val (.int mk), .val (.int k0), .val (.int k1), .val (.int k2), .val (.int k3), .val (.int (0 : Int32)), .val (.ref np1), .val (.int sel), .val (.int dd), .val (.int md), .unset, .unset] [(.int (65472 : Int32)), (.int ((p3.toUInt32 >>> ((2 : Int32) &&& 31).toUInt32).toInt32)), (.int dd)])) (fun t kt => X1.ldcInt hx hown (mvT hZ (hw _ (List.mem_of_getElem? (i := 42) rfl))) (g := (mkF m 159 #[.val (.int p1), .val (.int p2), .val (.int p3), .val (.int p4), .val (.int mk), .val (.int k0), .val (.int k1), .val (.int k2), .val (.int k3), .val (.int (0 : Int32)), .val (.ref np1), .val (.int sel), .val (.int dd), .val (.int md), .unset, .unset] [(.int ((p3.toUInt32 >>> ((2 : Int32) &&& 31).toUInt32).toInt32)), (.int dd)])) rfl (hb hby at_159) _ kt) ?_
              refine Run.x_iand (q := 162) X1 hx (hb hby at_161) rfl rfl ?_
              refine Run.x_ixor (q := 163) X1 hx (hb hby at_162) rfl rfl ?_
              refine Run.x_i2c (q := 164) X1 hx (hb hby at_163) rfl rfl ?_
              refine Run.x_istore (q := 166) X1 hx #[.val (.int p1), .val (.int p2), .val (.int p3), .val (.int p4), .val (.int mk), .val (.int k0), .val (.int k1), .val (.int k2), .val (.int k3), .val (.int (0 : Int32)), .val (.ref np1), .val (.int sel), .val (.int dd), .val (.int md), .val (.int (dd ^^^ (((p3.toUInt32 >>> ((2 : Int32) &&& 31).toUInt32).toInt32) &&& (65472 : Int32))).toUInt32.toUInt16.toUInt32.toInt32), .unset] (hb hby at_164) rfl rfl ?_
              refine Run.x_goto (q := 182) X1 hx (hb hby at_166) (by decide) (by decide) ?_
              exact J182 _ (own_rg rfl)
            · skip
              refine Run.x_icmpYes (q := 169) X1 hx (hb hby at_151) (feq hc151).2 (by decide) (by decide) ?_
              refine Run.x_iload (q := 171) X1 hx (hb hby at_169) rfl rfl ?_
              refine Run.x_iloadN (q := 172) X1 hx (hb hby at_171) rfl rfl ?_
              refine Run.x_iconst (q := 173) X1 hx (hb hby at_172) (z := (2 : Int32)) rfl rfl ?_
              refine Run.x_iushr (q := 174) X1 hx (hb hby at_173) rfl rfl ?_
              refine Run.x_sipush (q := 177) X1 hx (hb hby at_174) (z := (255 : Int32)) rfl rfl ?_
              refine Run.x_iand (q := 178) X1 hx (hb hby at_177) rfl rfl ?_
              refine Run.x_ixor (q := 179) X1 hx (hb hby at_178) rfl rfl ?_
              refine Run.x_i2c (q := 180) X1 hx (hb hby at_179) rfl rfl ?_
              refine Run.x_istore (q := 182) X1 hx #[.val (.int p1), .val (.int p2), .val (.int p3), .val (.int p4), .val (.int mk), .val (.int k0), .val (.int k1), .val (.int k2), .val (.int k3), .val (.int (0 : Int32)), .val (.ref np1), .val (.int sel), .val (.int dd), .val (.int md), .val (.int (dd ^^^ (((p3.toUInt32 >>> ((2 : Int32) &&& 31).toUInt32).toInt32) &&& (255 : Int32))).toUInt32.toUInt16.toUInt32.toInt32), .unset] (hb hby at_180) rfl rfl ?_
              exact J182 _ (own_rg rfl)
      refine Run.x_iload (q := 82) X1 hx (hb hby at_80) rfl rfl ?_
      by_cases hc82 : sel = (0 : Int32)
      · skip
        refine Run.x_ifNo (q := 85) X1 hx (hb hby at_82) ((if0 _ _).trans (teq hc82).2) rfl ?_
        refine Run.x_iload (q := 87) X1 hx (hb hby at_85) rfl rfl ?_
        refine Run.x_goto (q := 114) X1 hx (hb hby at_87) (by decide) (by decide) ?_
        exact J114 _ r0
      · skip
        refine Run.x_ifYes (q := 90) X1 hx (hb hby at_82) ((if0 _ _).trans (feq hc82).2) (by decide) (by decide) ?_
        refine Run.x_iload (q := 92) X1 hx (hb hby at_90) rfl rfl ?_
        refine Run.x_iconst (q := 93) X1 hx (hb hby at_92) (z := (1 : Int32)) rfl rfl ?_
        by_cases hc93 : sel = (1 : Int32)
        · skip
          refine Run.x_icmpNo (q := 96) X1 hx (hb hby at_93) (teq hc93).2 rfl ?_
          refine Run.x_iload (q := 98) X1 hx (hb hby at_96) rfl rfl ?_
          refine Run.x_goto (q := 114) X1 hx (hb hby at_98) (by decide) (by decide) ?_
          exact J114 _ r1
        · skip
          refine Run.x_icmpYes (q := 101) X1 hx (hb hby at_93) (feq hc93).2 (by decide) (by decide) ?_
          refine Run.x_iload (q := 103) X1 hx (hb hby at_101) rfl rfl ?_
          refine Run.x_iconst (q := 104) X1 hx (hb hby at_103) (z := (2 : Int32)) rfl rfl ?_
          by_cases hc104 : sel = (2 : Int32)
          · skip
            refine Run.x_icmpNo (q := 107) X1 hx (hb hby at_104) (teq hc104).2 rfl ?_
            refine Run.x_iload (q := 109) X1 hx (hb hby at_107) rfl rfl ?_
            refine Run.x_goto (q := 114) X1 hx (hb hby at_109) (by decide) (by decide) ?_
            exact J114 _ r2
          · skip
            refine Run.x_icmpYes (q := 112) X1 hx (hb hby at_104) (feq hc104).2 (by decide) (by decide) ?_
            refine Run.x_iload (q := 114) X1 hx (hb hby at_112) rfl rfl ?_
            exact J114 _ r3
    · skip
      show Run p e below s _ _ _ (T0.setTop (mkF m 60 #[.val (.int p1), .val (.int p2), .val (.int p3), .val (.int p4), .val (.int mk), .val (.int k0), .val (.int k1), .val (.int k2), .val (.int k3), .val (.int (1 : Int32)), .unset, .unset, .unset, .unset, .unset, .unset] []))
      refine Run.x_iload (q := 62) X0 hx (hb hby at_60) rfl rfl ?_
      refine Run.x_iload (q := 64) X0 hx (hb hby at_62) rfl rfl ?_
      refine Run.x_iload (q := 66) X0 hx (hb hby at_64) rfl rfl ?_
      refine Run.x_iload (q := 68) X0 hx (hb hby at_66) rfl rfl ?_
      refine Run.x_iload (q := 70) X0 hx (hb hby at_68) rfl rfl ?_
      refine Run.callS X0 hx hZ e0 (y := (⟨"needlewise/boyermoore/RightmostOfPinLawPinLaw", "pattern", "(ICCCC)[C"⟩ : MethodName)) hown (hw _ (List.mem_of_getElem? (i := 1) rfl)) (hw _ (List.mem_of_getElem? (i := 2) rfl)) (hw _ (List.mem_of_getElem? (i := 3) rfl)) (hw _ (List.mem_of_getElem? (i := 4) rfl)) (by decide) (argsL := [(.int (1 : Int32)), (.int k0), (.int k1), (.int k2), (.int k3)]) (rest := []) (c_pat1 l Z a0 hw k0 k1 k2 k3 h0 n0 Z0 r0 r1 r2 r3) pd_3 rfl (by rw [hml]; rfl) (W := 0) rfl (by decide) (by decide) (by decide) (by decide) (hb hby at_70) rfl ?_
      intro T5 v5 L5 X5 q5
      obtain ⟨np5, rfl, M5, K5, sz5, An5⟩ := q5
      have N5 := Fr.app N0 M5
      show Run p e below s _ _ _ (T5.setTop (mkF m 73 #[.val (.int p1), .val (.int p2), .val (.int p3), .val (.int p4), .val (.int mk), .val (.int k0), .val (.int k1), .val (.int k2), .val (.int k3), .val (.int (1 : Int32)), .unset, .unset, .unset, .unset, .unset, .unset] [(.ref np5)]))
      have ne_ab_np5 : ab ≠ np5 := Nat.ne_of_lt (Nat.lt_of_lt_of_le A_ab.lt sz5)
      have g_np5 : n0 ≤ np5 := Nat.le_trans Z0 sz5
      replace S_ABSENT := Sta_keep S_ABSENT K5 all0
      have Z5 : n0 ≤ T5.heap.size := Nat.le_trans Z0 K5.1
      refine Run.x_astore (q := 75) X5 hx #[.val (.int p1), .val (.int p2), .val (.int p3), .val (.int p4), .val (.int mk), .val (.int k0), .val (.int k1), .val (.int k2), .val (.int k3), .val (.int (1 : Int32)), .val (.ref np5), .unset, .unset, .unset, .unset, .unset] (hb hby at_73) rfl rfl rfl ?_
      refine Run.x_iloadN (q := 76) X5 hx (hb hby at_75) rfl rfl ?_
      refine Run.x_iconst (q := 77) X5 hx (hb hby at_76) (z := (3 : Int32)) rfl rfl ?_
      refine Run.x_iand (q := 78) X5 hx (hb hby at_77) rfl rfl ?_
      refine Run.x_istore (q := 80) X5 hx #[.val (.int p1), .val (.int p2), .val (.int p3), .val (.int p4), .val (.int mk), .val (.int k0), .val (.int k1), .val (.int k2), .val (.int k3), .val (.int (1 : Int32)), .val (.ref np5), .val (.int (p3 &&& (3 : Int32))), .unset, .unset, .unset, .unset] (hb hby at_78) rfl rfl ?_
      generalize hsel : (p3 &&& (3 : Int32)) = sel
      have J114 : ∀ (dd : Int32), (0 ≤ dd.toInt ∧ dd.toInt < 65536) → Run p e below s (Tru n0) room_1.cells room_1.slots (T5.setTop (mkF m 114 #[.val (.int p1), .val (.int p2), .val (.int p3), .val (.int p4), .val (.int mk), .val (.int k0), .val (.int k1), .val (.int k2), .val (.int k3), .val (.int (1 : Int32)), .val (.ref np5), .val (.int sel), .unset, .unset, .unset, .unset] [(.int dd)])) := by
        intro dd rd
        refine Run.x_istore (q := 116) X5 hx #[.val (.int p1), .val (.int p2), .val (.int p3), .val (.int p4), .val (.int mk), .val (.int k0), .val (.int k1), .val (.int k2), .val (.int k3), .val (.int (1 : Int32)), .val (.ref np5), .val (.int sel), .val (.int dd), .unset, .unset, .unset] (hb hby at_114) rfl rfl ?_
        refine Run.x_iloadN (q := 117) X5 hx (hb hby at_116) rfl rfl ?_
        refine Run.x_iconst (q := 118) X5 hx (hb hby at_117) (z := (3 : Int32)) rfl rfl ?_
        refine Run.x_iushr (q := 119) X5 hx (hb hby at_118) rfl rfl ?_
        refine Run.x_iconst (q := 120) X5 hx (hb hby at_119) (z := (3 : Int32)) rfl rfl ?_
        refine Run.x_iand (q := 121) X5 hx (hb hby at_120) rfl rfl ?_
        refine Run.x_istore (q := 123) X5 hx #[.val (.int p1), .val (.int p2), .val (.int p3), .val (.int p4), .val (.int mk), .val (.int k0), .val (.int k1), .val (.int k2), .val (.int k3), .val (.int (1 : Int32)), .val (.ref np5), .val (.int sel), .val (.int dd), .val (.int (((p4.toUInt32 >>> ((3 : Int32) &&& 31).toUInt32).toInt32) &&& (3 : Int32))), .unset, .unset] (hb hby at_121) rfl rfl ?_
        generalize hmd : (((p4.toUInt32 >>> ((3 : Int32) &&& 31).toUInt32).toInt32) &&& (3 : Int32)) = md
        have J182 : ∀ (u : Int32), (0 ≤ u.toInt ∧ u.toInt < 65536) → Run p e below s (Tru n0) room_1.cells room_1.slots (T5.setTop (mkF m 182 #[.val (.int p1), .val (.int p2), .val (.int p3), .val (.int p4), .val (.int mk), .val (.int k0), .val (.int k1), .val (.int k2), .val (.int k3), .val (.int (1 : Int32)), .val (.ref np5), .val (.int sel), .val (.int dd), .val (.int md), .val (.int u), .unset] [])) := by
          intro u hu
          refine Run.x_iconst (q := 183) X5 hx (hb hby at_182) (z := (-1 : Int32)) rfl rfl ?_
          refine Run.x_istore (q := 185) X5 hx #[.val (.int p1), .val (.int p2), .val (.int p3), .val (.int p4), .val (.int mk), .val (.int k0), .val (.int k1), .val (.int k2), .val (.int k3), .val (.int (1 : Int32)), .val (.ref np5), .val (.int sel), .val (.int dd), .val (.int md), .val (.int u), .val (.int (-1 : Int32))] (hb hby at_183) rfl rfl ?_
          refine Run.x_iload (q := 187) X5 hx (hb hby at_185) rfl rfl ?_
          refine Run.x_ifNo (q := 190) X5 hx (hb hby at_187) ((if0 _ _).trans (tlt (by decide : (0 : Int32) < (1 : Int32))).2.2.2) rfl ?_
          refine Run.x_iload (q := 192) X5 hx (hb hby at_190) rfl rfl ?_
          refine Run.x_iload (q := 194) X5 hx (hb hby at_192) rfl rfl ?_
          have JE0 : ∀ (ex1 : Int32), (ex1 = (if k0 = u then (0 : Int32) else (-1 : Int32))) → Run p e below s (Tru n0) room_1.cells room_1.slots (T5.setTop (mkF m 200 #[.val (.int p1), .val (.int p2), .val (.int p3), .val (.int p4), .val (.int mk), .val (.int k0), .val (.int k1), .val (.int k2), .val (.int k3), .val (.int (1 : Int32)), .val (.ref np5), .val (.int sel), .val (.int dd), .val (.int md), .val (.int u), .val (.int ex1)] [])) := by
            intro ex1 hex1
            refine Run.x_iload (q := 202) X5 hx (hb hby at_200) rfl rfl ?_
            refine Run.x_iconst (q := 203) X5 hx (hb hby at_202) (z := (1 : Int32)) rfl rfl ?_
            refine Run.x_icmpYes (q := 216) X5 hx (hb hby at_203) (flt (by decide : ¬ ((1 : Int32) < (1 : Int32)))).2.2.2 (by decide) (by decide) ?_
            refine Run.x_iload (q := 218) X5 hx (hb hby at_216) rfl rfl ?_
            refine Run.x_iconst (q := 219) X5 hx (hb hby at_218) (z := (2 : Int32)) rfl rfl ?_
            refine Run.x_icmpYes (q := 232) X5 hx (hb hby at_219) (flt (by decide : ¬ ((2 : Int32) < (1 : Int32)))).2.2.2 (by decide) (by decide) ?_
            refine Run.x_iload (q := 234) X5 hx (hb hby at_232) rfl rfl ?_
            refine Run.x_iconst (q := 235) X5 hx (hb hby at_234) (z := (3 : Int32)) rfl rfl ?_
            refine Run.x_icmpYes (q := 248) X5 hx (hb hby at_235) (flt (by decide : ¬ ((3 : Int32) < (1 : Int32)))).2.2.2 (by decide) (by decide) ?_
            obtain ⟨T6, h6, X6, e6, E6, A6, D6, -, st6⟩ := newO X5 hx hZ hown (hw _ (List.mem_of_getElem? (i := 6) rfl)) (hw _ (List.mem_of_getElem? (i := 7) rfl)) (hw _ (List.mem_of_getElem? (i := 8) rfl)) rfl (g := (mkF m 248 #[.val (.int p1), .val (.int p2), .val (.int p3), .val (.int p4), .val (.int mk), .val (.int k0), .val (.int k1), .val (.int k2), .val (.int k3), .val (.int (1 : Int32)), .val (.ref np5), .val (.int sel), .val (.int dd), .val (.int md), .val (.int u), .val (.int ex1)] [])) rfl (hb hby at_248) (by decide) (by decide)
            obtain ⟨b6, gg6⟩ : ∃ z, z = T5.heap.size := ⟨_, rfl⟩
            rw [← gg6] at A6 D6 st6
            have g_b6 : n0 ≤ b6 := Nat.le_trans Z5 (Nat.le_of_eq gg6.symm)
            replace A_ab := A_ab.keep K5 nin0
            have ne_ab_b6 : ab ≠ b6 := Nat.ne_of_lt (Nat.lt_of_lt_of_le A_ab.lt (Nat.le_of_eq gg6.symm))
            have ne_np5_b6 : np5 ≠ b6 := Nat.ne_of_lt (Nat.lt_of_lt_of_le An5.lt (Nat.le_of_eq gg6.symm))
            have Z6 : n0 ≤ h6.size := Nat.le_trans Z5 E6.1
            have E_b6 := A6
            have F_b6_pages : Fld Z h6 b6 "needlewise/boyermoore/Rightmost" "pages" "[[I" .null := D6 (Or.inr (hw _ (List.mem_of_getElem? (i := 18) rfl))) (ty := (.array (.array .int))) (by decide)
            have F_b6_low : Fld Z h6 b6 "needlewise/boyermoore/Rightmost" "low" "[I" .null := D6 (Or.inr (hw _ (List.mem_of_getElem? (i := 34) rfl))) (ty := (.array .int)) (by decide)
            have F_b6_filter : Fld Z h6 b6 "needlewise/boyermoore/Rightmost" "filter" "J" (.long (0 : Int64)) := D6 (Or.inr (hw _ (List.mem_of_getElem? (i := 36) rfl))) (ty := .long) (by decide)
            refine Run.st st6 ?_
            show Run p e below s _ _ _ (T6.setTop (mkF m 251 #[.val (.int p1), .val (.int p2), .val (.int p3), .val (.int p4), .val (.int mk), .val (.int k0), .val (.int k1), .val (.int k2), .val (.int k3), .val (.int (1 : Int32)), .val (.ref np5), .val (.int sel), .val (.int dd), .val (.int md), .val (.int u), .val (.int ex1)] [(.ref b6)]))
            refine Run.x_dup (q := 252) X6 hx (hb hby at_251) rfl rfl ?_
            refine Run.x_aload (q := 254) X6 hx (hb hby at_252) rfl rfl rfl ?_
            replace An5 := An5.ext E6
            replace S_ABSENT := S_ABSENT.ext E6
            replace A_ab := A_ab.ext E6
            replace E_ab := (E_ab.keep K5).ext E6
            refine Run.callC X6 hx hZ e6 (y := (⟨"needlewise/boyermoore/Rightmost", "<init>", "([C)V"⟩ : MethodName)) hown rfl (hw _ (List.mem_of_getElem? (i := 9) rfl)) (hw _ (List.mem_of_getElem? (i := 10) rfl)) (hw _ (List.mem_of_getElem? (i := 8) rfl)) (hw _ (List.mem_of_getElem? (i := 11) rfl)) (by decide) (a := b6) (argsL := [(.ref np5)]) (rest := [(.ref b6)]) (c_init1 l Z a0 hw b6 np5 h6 n0 Z6 ab k0 E_b6 F_b6_pages F_b6_low F_b6_filter An5 S_ABSENT A_ab E_ab g_b6 (Ne.symm ne_np5_b6) (Ne.symm ne_ab_b6) (Ne.symm ne_ab_np5) r0) pd_4 rfl (by rw [hml]; rfl) (W := 1) rfl (by decide) (by decide) (by decide) (by decide) (hb hby at_254) rfl ?_
            intro T7 v7 L7 X7 q7
            obtain ⟨pa7, pg7, rfl, M7, PG7, Fp7, Fl7, Ff7, E7⟩ := q7
            have N7 := Fr.app N5 M7
            show Run p e below s _ _ _ (T7.setTop (mkF m 257 #[.val (.int p1), .val (.int p2), .val (.int p3), .val (.int p4), .val (.int mk), .val (.int k0), .val (.int k1), .val (.int k2), .val (.int k3), .val (.int (1 : Int32)), .val (.ref np5), .val (.int sel), .val (.int dd), .val (.int md), .val (.int u), .val (.int ex1)] [(.ref b6)]))
            have Z7 : n0 ≤ T7.heap.size := Nat.le_trans g_b6 (Nat.le_of_lt E7.lt)
            refine Run.x_iload (q := 259) X7 hx (hb hby at_257) rfl rfl ?_
            refine Run.callV X7 hx hZ rfl (y := (⟨"needlewise/boyermoore/Rightmost", "of", "(C)I"⟩ : MethodName)) (z := (⟨"needlewise/boyermoore/Rightmost", "of", "(C)I"⟩ : MethodName)) hown (hw _ (List.mem_of_getElem? (i := 37) rfl)) (hw _ (List.mem_of_getElem? (i := 38) rfl)) (notFace_of_selects (args := #[]) (mvT hZ (hw _ (List.mem_of_getElem? (i := 40) rfl)))) (hw _ (List.mem_of_getElem? (i := 40) rfl)) (hw _ (List.mem_of_getElem? (i := 39) rfl)) (hw _ (List.mem_of_getElem? (i := 8) rfl)) (hw _ (List.mem_of_getElem? (i := 41) rfl)) (by decide) (a := b6) E7 (argsL := [(.int u)]) (rest := []) (c_of l Z a0 hw b6 u T7.heap n0 Z7 ab pa7 pg7 (own_go (fun _ => -1) 0 [k0]) (own_bt 0 [k0]) E7 Fp7 Fl7 Ff7 PG7 hu) pd_5 rfl (by rw [hml]; rfl) (W := 0) rfl (by decide) (by decide) (by decide) (by decide) (hb hby at_259) rfl ?_
            intro T8 v8 L8 X8 q8
            obtain ⟨rfl, M8, e8⟩ := q8
            have N8 := Fr.app N7 M8
            show Run p e below s _ _ _ (T8.setTop (mkF m 262 #[.val (.int p1), .val (.int p2), .val (.int p3), .val (.int p4), .val (.int mk), .val (.int k0), .val (.int k1), .val (.int k2), .val (.int k3), .val (.int (1 : Int32)), .val (.ref np5), .val (.int sel), .val (.int dd), .val (.int md), .val (.int u), .val (.int ex1)] [(.int (own_of (own_go (fun _ => -1) 0 [k0]) (own_bt 0 [k0]) u))]))
            refine Run.x_iload (q := 264) X8 hx (hb hby at_262) rfl rfl ?_
            refine Run.x_icmpNo (q := 267) X8 hx (hb hby at_264) (teq ((own_fin hu.1 [k0] (List.forall_mem_cons.mpr ⟨r0.1, (fun _ h => nomatch h)⟩)).trans (by rw [hex1]; rfl))).2 rfl ?_
            refine Run.x_iconst (q := 268) X8 hx (hb hby at_267) (z := (1 : Int32)) rfl rfl ?_
            refine Run.x_goto (q := 272) X8 hx (hb hby at_268) (by decide) (by decide) ?_
            refine Run.retN X8 hx hlk e8 (t := .boolean) hret (by simp) (z' := (1 : Int32)) (by decide) (hb hby at_272) (by decide) (by decide) ?_
            exact ⟨rfl, N8⟩
          by_cases hc194 : k0 = u
          · skip
            refine Run.x_icmpNo (q := 197) X5 hx (hb hby at_194) (teq hc194).2 rfl ?_
            refine Run.x_iconst (q := 198) X5 hx (hb hby at_197) (z := (0 : Int32)) rfl rfl ?_
            refine Run.x_istore (q := 200) X5 hx #[.val (.int p1), .val (.int p2), .val (.int p3), .val (.int p4), .val (.int mk), .val (.int k0), .val (.int k1), .val (.int k2), .val (.int k3), .val (.int (1 : Int32)), .val (.ref np5), .val (.int sel), .val (.int dd), .val (.int md), .val (.int u), .val (.int (0 : Int32))] (hb hby at_198) rfl rfl ?_
            exact JE0 _ (if_pos hc194).symm
          · skip
            refine Run.x_icmpYes (q := 200) X5 hx (hb hby at_194) (feq hc194).2 (by decide) (by decide) ?_
            exact JE0 _ (if_neg hc194).symm
        refine Run.x_iload (q := 125) X5 hx (hb hby at_123) rfl rfl ?_
        by_cases hc125 : md = (0 : Int32)
        · skip
          refine Run.x_ifNo (q := 128) X5 hx (hb hby at_125) ((if0 _ _).trans (teq hc125).2) rfl ?_
          refine Run.x_iloadN (q := 129) X5 hx (hb hby at_128) rfl rfl ?_
          refine Run.x_i2c (q := 130) X5 hx (hb hby at_129) rfl rfl ?_
          refine Run.x_istore (q := 132) X5 hx #[.val (.int p1), .val (.int p2), .val (.int p3), .val (.int p4), .val (.int mk), .val (.int k0), .val (.int k1), .val (.int k2), .val (.int k3), .val (.int (1 : Int32)), .val (.ref np5), .val (.int sel), .val (.int dd), .val (.int md), .val (.int p3.toUInt32.toUInt16.toUInt32.toInt32), .unset] (hb hby at_130) rfl rfl ?_
          refine Run.x_goto (q := 182) X5 hx (hb hby at_132) (by decide) (by decide) ?_
          exact J182 _ (own_rg rfl)
        · skip
          refine Run.x_ifYes (q := 135) X5 hx (hb hby at_125) ((if0 _ _).trans (feq hc125).2) (by decide) (by decide) ?_
          refine Run.x_iload (q := 137) X5 hx (hb hby at_135) rfl rfl ?_
          refine Run.x_iconst (q := 138) X5 hx (hb hby at_137) (z := (1 : Int32)) rfl rfl ?_
          by_cases hc138 : md = (1 : Int32)
          · skip
            refine Run.x_icmpNo (q := 141) X5 hx (hb hby at_138) (teq hc138).2 rfl ?_
            refine Run.x_iload (q := 143) X5 hx (hb hby at_141) rfl rfl ?_
            refine Run.x_istore (q := 145) X5 hx #[.val (.int p1), .val (.int p2), .val (.int p3), .val (.int p4), .val (.int mk), .val (.int k0), .val (.int k1), .val (.int k2), .val (.int k3), .val (.int (1 : Int32)), .val (.ref np5), .val (.int sel), .val (.int dd), .val (.int md), .val (.int dd), .unset] (hb hby at_143) rfl rfl ?_
            refine Run.x_goto (q := 182) X5 hx (hb hby at_145) (by decide) (by decide) ?_
            exact J182 _ rd
          · skip
            refine Run.x_icmpYes (q := 148) X5 hx (hb hby at_138) (feq hc138).2 (by decide) (by decide) ?_
            refine Run.x_iload (q := 150) X5 hx (hb hby at_148) rfl rfl ?_
            refine Run.x_iconst (q := 151) X5 hx (hb hby at_150) (z := (2 : Int32)) rfl rfl ?_
            by_cases hc151 : md = (2 : Int32)
            · skip
              refine Run.x_icmpNo (q := 154) X5 hx (hb hby at_151) (teq hc151).2 rfl ?_
              refine Run.x_iload (q := 156) X5 hx (hb hby at_154) rfl rfl ?_
              refine Run.x_iloadN (q := 157) X5 hx (hb hby at_156) rfl rfl ?_
              refine Run.x_iconst (q := 158) X5 hx (hb hby at_157) (z := (2 : Int32)) rfl rfl ?_
              refine Run.x_iushr (q := 159) X5 hx (hb hby at_158) rfl rfl ?_
              refine Run.st (B := T5.setTop (mkF m 161 #[.val (.int p1), .val (.int p2), .val (.int p3), .val (.int p4), .val (.int mk), .val (.int k0), .val (.int k1), .val (.int k2), .val (.int k3), .val (.int (1 : Int32)), .val (.ref np5), .val (.int sel), .val (.int dd), .val (.int md), .unset, .unset] [(.int (65472 : Int32)), (.int ((p3.toUInt32 >>> ((2 : Int32) &&& 31).toUInt32).toInt32)), (.int dd)])) (fun t kt => X5.ldcInt hx hown (mvT hZ (hw _ (List.mem_of_getElem? (i := 42) rfl))) (g := (mkF m 159 #[.val (.int p1), .val (.int p2), .val (.int p3), .val (.int p4), .val (.int mk), .val (.int k0), .val (.int k1), .val (.int k2), .val (.int k3), .val (.int (1 : Int32)), .val (.ref np5), .val (.int sel), .val (.int dd), .val (.int md), .unset, .unset] [(.int ((p3.toUInt32 >>> ((2 : Int32) &&& 31).toUInt32).toInt32)), (.int dd)])) rfl (hb hby at_159) _ kt) ?_
              refine Run.x_iand (q := 162) X5 hx (hb hby at_161) rfl rfl ?_
              refine Run.x_ixor (q := 163) X5 hx (hb hby at_162) rfl rfl ?_
              refine Run.x_i2c (q := 164) X5 hx (hb hby at_163) rfl rfl ?_
              refine Run.x_istore (q := 166) X5 hx #[.val (.int p1), .val (.int p2), .val (.int p3), .val (.int p4), .val (.int mk), .val (.int k0), .val (.int k1), .val (.int k2), .val (.int k3), .val (.int (1 : Int32)), .val (.ref np5), .val (.int sel), .val (.int dd), .val (.int md), .val (.int (dd ^^^ (((p3.toUInt32 >>> ((2 : Int32) &&& 31).toUInt32).toInt32) &&& (65472 : Int32))).toUInt32.toUInt16.toUInt32.toInt32), .unset] (hb hby at_164) rfl rfl ?_
              refine Run.x_goto (q := 182) X5 hx (hb hby at_166) (by decide) (by decide) ?_
              exact J182 _ (own_rg rfl)
            · skip
              refine Run.x_icmpYes (q := 169) X5 hx (hb hby at_151) (feq hc151).2 (by decide) (by decide) ?_
              refine Run.x_iload (q := 171) X5 hx (hb hby at_169) rfl rfl ?_
              refine Run.x_iloadN (q := 172) X5 hx (hb hby at_171) rfl rfl ?_
              refine Run.x_iconst (q := 173) X5 hx (hb hby at_172) (z := (2 : Int32)) rfl rfl ?_
              refine Run.x_iushr (q := 174) X5 hx (hb hby at_173) rfl rfl ?_
              refine Run.x_sipush (q := 177) X5 hx (hb hby at_174) (z := (255 : Int32)) rfl rfl ?_
              refine Run.x_iand (q := 178) X5 hx (hb hby at_177) rfl rfl ?_
              refine Run.x_ixor (q := 179) X5 hx (hb hby at_178) rfl rfl ?_
              refine Run.x_i2c (q := 180) X5 hx (hb hby at_179) rfl rfl ?_
              refine Run.x_istore (q := 182) X5 hx #[.val (.int p1), .val (.int p2), .val (.int p3), .val (.int p4), .val (.int mk), .val (.int k0), .val (.int k1), .val (.int k2), .val (.int k3), .val (.int (1 : Int32)), .val (.ref np5), .val (.int sel), .val (.int dd), .val (.int md), .val (.int (dd ^^^ (((p3.toUInt32 >>> ((2 : Int32) &&& 31).toUInt32).toInt32) &&& (255 : Int32))).toUInt32.toUInt16.toUInt32.toInt32), .unset] (hb hby at_180) rfl rfl ?_
              exact J182 _ (own_rg rfl)
      refine Run.x_iload (q := 82) X5 hx (hb hby at_80) rfl rfl ?_
      by_cases hc82 : sel = (0 : Int32)
      · skip
        refine Run.x_ifNo (q := 85) X5 hx (hb hby at_82) ((if0 _ _).trans (teq hc82).2) rfl ?_
        refine Run.x_iload (q := 87) X5 hx (hb hby at_85) rfl rfl ?_
        refine Run.x_goto (q := 114) X5 hx (hb hby at_87) (by decide) (by decide) ?_
        exact J114 _ r0
      · skip
        refine Run.x_ifYes (q := 90) X5 hx (hb hby at_82) ((if0 _ _).trans (feq hc82).2) (by decide) (by decide) ?_
        refine Run.x_iload (q := 92) X5 hx (hb hby at_90) rfl rfl ?_
        refine Run.x_iconst (q := 93) X5 hx (hb hby at_92) (z := (1 : Int32)) rfl rfl ?_
        by_cases hc93 : sel = (1 : Int32)
        · skip
          refine Run.x_icmpNo (q := 96) X5 hx (hb hby at_93) (teq hc93).2 rfl ?_
          refine Run.x_iload (q := 98) X5 hx (hb hby at_96) rfl rfl ?_
          refine Run.x_goto (q := 114) X5 hx (hb hby at_98) (by decide) (by decide) ?_
          exact J114 _ r1
        · skip
          refine Run.x_icmpYes (q := 101) X5 hx (hb hby at_93) (feq hc93).2 (by decide) (by decide) ?_
          refine Run.x_iload (q := 103) X5 hx (hb hby at_101) rfl rfl ?_
          refine Run.x_iconst (q := 104) X5 hx (hb hby at_103) (z := (2 : Int32)) rfl rfl ?_
          by_cases hc104 : sel = (2 : Int32)
          · skip
            refine Run.x_icmpNo (q := 107) X5 hx (hb hby at_104) (teq hc104).2 rfl ?_
            refine Run.x_iload (q := 109) X5 hx (hb hby at_107) rfl rfl ?_
            refine Run.x_goto (q := 114) X5 hx (hb hby at_109) (by decide) (by decide) ?_
            exact J114 _ r2
          · skip
            refine Run.x_icmpYes (q := 112) X5 hx (hb hby at_104) (feq hc104).2 (by decide) (by decide) ?_
            refine Run.x_iload (q := 114) X5 hx (hb hby at_112) rfl rfl ?_
            exact J114 _ r3
    · skip
      show Run p e below s _ _ _ (T0.setTop (mkF m 60 #[.val (.int p1), .val (.int p2), .val (.int p3), .val (.int p4), .val (.int mk), .val (.int k0), .val (.int k1), .val (.int k2), .val (.int k3), .val (.int (2 : Int32)), .unset, .unset, .unset, .unset, .unset, .unset] []))
      refine Run.x_iload (q := 62) X0 hx (hb hby at_60) rfl rfl ?_
      refine Run.x_iload (q := 64) X0 hx (hb hby at_62) rfl rfl ?_
      refine Run.x_iload (q := 66) X0 hx (hb hby at_64) rfl rfl ?_
      refine Run.x_iload (q := 68) X0 hx (hb hby at_66) rfl rfl ?_
      refine Run.x_iload (q := 70) X0 hx (hb hby at_68) rfl rfl ?_
      refine Run.callS X0 hx hZ e0 (y := (⟨"needlewise/boyermoore/RightmostOfPinLawPinLaw", "pattern", "(ICCCC)[C"⟩ : MethodName)) hown (hw _ (List.mem_of_getElem? (i := 1) rfl)) (hw _ (List.mem_of_getElem? (i := 2) rfl)) (hw _ (List.mem_of_getElem? (i := 3) rfl)) (hw _ (List.mem_of_getElem? (i := 4) rfl)) (by decide) (argsL := [(.int (2 : Int32)), (.int k0), (.int k1), (.int k2), (.int k3)]) (rest := []) (c_pat2 l Z a0 hw k0 k1 k2 k3 h0 n0 Z0 r0 r1 r2 r3) pd_3 rfl (by rw [hml]; rfl) (W := 0) rfl (by decide) (by decide) (by decide) (by decide) (hb hby at_70) rfl ?_
      intro T9 v9 L9 X9 q9
      obtain ⟨np9, rfl, M9, K9, sz9, An9⟩ := q9
      have N9 := Fr.app N0 M9
      show Run p e below s _ _ _ (T9.setTop (mkF m 73 #[.val (.int p1), .val (.int p2), .val (.int p3), .val (.int p4), .val (.int mk), .val (.int k0), .val (.int k1), .val (.int k2), .val (.int k3), .val (.int (2 : Int32)), .unset, .unset, .unset, .unset, .unset, .unset] [(.ref np9)]))
      have ne_ab_np9 : ab ≠ np9 := Nat.ne_of_lt (Nat.lt_of_lt_of_le A_ab.lt sz9)
      have g_np9 : n0 ≤ np9 := Nat.le_trans Z0 sz9
      replace S_ABSENT := Sta_keep S_ABSENT K9 all0
      have Z9 : n0 ≤ T9.heap.size := Nat.le_trans Z0 K9.1
      refine Run.x_astore (q := 75) X9 hx #[.val (.int p1), .val (.int p2), .val (.int p3), .val (.int p4), .val (.int mk), .val (.int k0), .val (.int k1), .val (.int k2), .val (.int k3), .val (.int (2 : Int32)), .val (.ref np9), .unset, .unset, .unset, .unset, .unset] (hb hby at_73) rfl rfl rfl ?_
      refine Run.x_iloadN (q := 76) X9 hx (hb hby at_75) rfl rfl ?_
      refine Run.x_iconst (q := 77) X9 hx (hb hby at_76) (z := (3 : Int32)) rfl rfl ?_
      refine Run.x_iand (q := 78) X9 hx (hb hby at_77) rfl rfl ?_
      refine Run.x_istore (q := 80) X9 hx #[.val (.int p1), .val (.int p2), .val (.int p3), .val (.int p4), .val (.int mk), .val (.int k0), .val (.int k1), .val (.int k2), .val (.int k3), .val (.int (2 : Int32)), .val (.ref np9), .val (.int (p3 &&& (3 : Int32))), .unset, .unset, .unset, .unset] (hb hby at_78) rfl rfl ?_
      generalize hsel : (p3 &&& (3 : Int32)) = sel
      have J114 : ∀ (dd : Int32), (0 ≤ dd.toInt ∧ dd.toInt < 65536) → Run p e below s (Tru n0) room_1.cells room_1.slots (T9.setTop (mkF m 114 #[.val (.int p1), .val (.int p2), .val (.int p3), .val (.int p4), .val (.int mk), .val (.int k0), .val (.int k1), .val (.int k2), .val (.int k3), .val (.int (2 : Int32)), .val (.ref np9), .val (.int sel), .unset, .unset, .unset, .unset] [(.int dd)])) := by
        intro dd rd
        refine Run.x_istore (q := 116) X9 hx #[.val (.int p1), .val (.int p2), .val (.int p3), .val (.int p4), .val (.int mk), .val (.int k0), .val (.int k1), .val (.int k2), .val (.int k3), .val (.int (2 : Int32)), .val (.ref np9), .val (.int sel), .val (.int dd), .unset, .unset, .unset] (hb hby at_114) rfl rfl ?_
        refine Run.x_iloadN (q := 117) X9 hx (hb hby at_116) rfl rfl ?_
        refine Run.x_iconst (q := 118) X9 hx (hb hby at_117) (z := (3 : Int32)) rfl rfl ?_
        refine Run.x_iushr (q := 119) X9 hx (hb hby at_118) rfl rfl ?_
        refine Run.x_iconst (q := 120) X9 hx (hb hby at_119) (z := (3 : Int32)) rfl rfl ?_
        refine Run.x_iand (q := 121) X9 hx (hb hby at_120) rfl rfl ?_
        refine Run.x_istore (q := 123) X9 hx #[.val (.int p1), .val (.int p2), .val (.int p3), .val (.int p4), .val (.int mk), .val (.int k0), .val (.int k1), .val (.int k2), .val (.int k3), .val (.int (2 : Int32)), .val (.ref np9), .val (.int sel), .val (.int dd), .val (.int (((p4.toUInt32 >>> ((3 : Int32) &&& 31).toUInt32).toInt32) &&& (3 : Int32))), .unset, .unset] (hb hby at_121) rfl rfl ?_
        generalize hmd : (((p4.toUInt32 >>> ((3 : Int32) &&& 31).toUInt32).toInt32) &&& (3 : Int32)) = md
        have J182 : ∀ (u : Int32), (0 ≤ u.toInt ∧ u.toInt < 65536) → Run p e below s (Tru n0) room_1.cells room_1.slots (T9.setTop (mkF m 182 #[.val (.int p1), .val (.int p2), .val (.int p3), .val (.int p4), .val (.int mk), .val (.int k0), .val (.int k1), .val (.int k2), .val (.int k3), .val (.int (2 : Int32)), .val (.ref np9), .val (.int sel), .val (.int dd), .val (.int md), .val (.int u), .unset] [])) := by
          intro u hu
          refine Run.x_iconst (q := 183) X9 hx (hb hby at_182) (z := (-1 : Int32)) rfl rfl ?_
          refine Run.x_istore (q := 185) X9 hx #[.val (.int p1), .val (.int p2), .val (.int p3), .val (.int p4), .val (.int mk), .val (.int k0), .val (.int k1), .val (.int k2), .val (.int k3), .val (.int (2 : Int32)), .val (.ref np9), .val (.int sel), .val (.int dd), .val (.int md), .val (.int u), .val (.int (-1 : Int32))] (hb hby at_183) rfl rfl ?_
          refine Run.x_iload (q := 187) X9 hx (hb hby at_185) rfl rfl ?_
          refine Run.x_ifNo (q := 190) X9 hx (hb hby at_187) ((if0 _ _).trans (tlt (by decide : (0 : Int32) < (2 : Int32))).2.2.2) rfl ?_
          refine Run.x_iload (q := 192) X9 hx (hb hby at_190) rfl rfl ?_
          refine Run.x_iload (q := 194) X9 hx (hb hby at_192) rfl rfl ?_
          have JE0 : ∀ (ex1 : Int32), (ex1 = (if k0 = u then (0 : Int32) else (-1 : Int32))) → Run p e below s (Tru n0) room_1.cells room_1.slots (T9.setTop (mkF m 200 #[.val (.int p1), .val (.int p2), .val (.int p3), .val (.int p4), .val (.int mk), .val (.int k0), .val (.int k1), .val (.int k2), .val (.int k3), .val (.int (2 : Int32)), .val (.ref np9), .val (.int sel), .val (.int dd), .val (.int md), .val (.int u), .val (.int ex1)] [])) := by
            intro ex1 hex1
            refine Run.x_iload (q := 202) X9 hx (hb hby at_200) rfl rfl ?_
            refine Run.x_iconst (q := 203) X9 hx (hb hby at_202) (z := (1 : Int32)) rfl rfl ?_
            refine Run.x_icmpNo (q := 206) X9 hx (hb hby at_203) (tlt (by decide : (1 : Int32) < (2 : Int32))).2.2.2 rfl ?_
            refine Run.x_iload (q := 208) X9 hx (hb hby at_206) rfl rfl ?_
            refine Run.x_iload (q := 210) X9 hx (hb hby at_208) rfl rfl ?_
            have JE1 : ∀ (ex2 : Int32), (ex2 = (if k1 = u then (1 : Int32) else ex1)) → Run p e below s (Tru n0) room_1.cells room_1.slots (T9.setTop (mkF m 216 #[.val (.int p1), .val (.int p2), .val (.int p3), .val (.int p4), .val (.int mk), .val (.int k0), .val (.int k1), .val (.int k2), .val (.int k3), .val (.int (2 : Int32)), .val (.ref np9), .val (.int sel), .val (.int dd), .val (.int md), .val (.int u), .val (.int ex2)] [])) := by
              intro ex2 hex2
              refine Run.x_iload (q := 218) X9 hx (hb hby at_216) rfl rfl ?_
              refine Run.x_iconst (q := 219) X9 hx (hb hby at_218) (z := (2 : Int32)) rfl rfl ?_
              refine Run.x_icmpYes (q := 232) X9 hx (hb hby at_219) (flt (by decide : ¬ ((2 : Int32) < (2 : Int32)))).2.2.2 (by decide) (by decide) ?_
              refine Run.x_iload (q := 234) X9 hx (hb hby at_232) rfl rfl ?_
              refine Run.x_iconst (q := 235) X9 hx (hb hby at_234) (z := (3 : Int32)) rfl rfl ?_
              refine Run.x_icmpYes (q := 248) X9 hx (hb hby at_235) (flt (by decide : ¬ ((3 : Int32) < (2 : Int32)))).2.2.2 (by decide) (by decide) ?_
              obtain ⟨T10, h10, X10, e10, E10, A10, D10, -, st10⟩ := newO X9 hx hZ hown (hw _ (List.mem_of_getElem? (i := 6) rfl)) (hw _ (List.mem_of_getElem? (i := 7) rfl)) (hw _ (List.mem_of_getElem? (i := 8) rfl)) rfl (g := (mkF m 248 #[.val (.int p1), .val (.int p2), .val (.int p3), .val (.int p4), .val (.int mk), .val (.int k0), .val (.int k1), .val (.int k2), .val (.int k3), .val (.int (2 : Int32)), .val (.ref np9), .val (.int sel), .val (.int dd), .val (.int md), .val (.int u), .val (.int ex2)] [])) rfl (hb hby at_248) (by decide) (by decide)
              obtain ⟨b10, gg10⟩ : ∃ z, z = T9.heap.size := ⟨_, rfl⟩
              rw [← gg10] at A10 D10 st10
              have g_b10 : n0 ≤ b10 := Nat.le_trans Z9 (Nat.le_of_eq gg10.symm)
              replace A_ab := A_ab.keep K9 nin0
              have ne_ab_b10 : ab ≠ b10 := Nat.ne_of_lt (Nat.lt_of_lt_of_le A_ab.lt (Nat.le_of_eq gg10.symm))
              have ne_np9_b10 : np9 ≠ b10 := Nat.ne_of_lt (Nat.lt_of_lt_of_le An9.lt (Nat.le_of_eq gg10.symm))
              have Z10 : n0 ≤ h10.size := Nat.le_trans Z9 E10.1
              have E_b10 := A10
              have F_b10_pages : Fld Z h10 b10 "needlewise/boyermoore/Rightmost" "pages" "[[I" .null := D10 (Or.inr (hw _ (List.mem_of_getElem? (i := 18) rfl))) (ty := (.array (.array .int))) (by decide)
              have F_b10_low : Fld Z h10 b10 "needlewise/boyermoore/Rightmost" "low" "[I" .null := D10 (Or.inr (hw _ (List.mem_of_getElem? (i := 34) rfl))) (ty := (.array .int)) (by decide)
              have F_b10_filter : Fld Z h10 b10 "needlewise/boyermoore/Rightmost" "filter" "J" (.long (0 : Int64)) := D10 (Or.inr (hw _ (List.mem_of_getElem? (i := 36) rfl))) (ty := .long) (by decide)
              refine Run.st st10 ?_
              show Run p e below s _ _ _ (T10.setTop (mkF m 251 #[.val (.int p1), .val (.int p2), .val (.int p3), .val (.int p4), .val (.int mk), .val (.int k0), .val (.int k1), .val (.int k2), .val (.int k3), .val (.int (2 : Int32)), .val (.ref np9), .val (.int sel), .val (.int dd), .val (.int md), .val (.int u), .val (.int ex2)] [(.ref b10)]))
              refine Run.x_dup (q := 252) X10 hx (hb hby at_251) rfl rfl ?_
              refine Run.x_aload (q := 254) X10 hx (hb hby at_252) rfl rfl rfl ?_
              replace An9 := An9.ext E10
              replace S_ABSENT := S_ABSENT.ext E10
              replace A_ab := A_ab.ext E10
              replace E_ab := (E_ab.keep K9).ext E10
              refine Run.callC X10 hx hZ e10 (y := (⟨"needlewise/boyermoore/Rightmost", "<init>", "([C)V"⟩ : MethodName)) hown rfl (hw _ (List.mem_of_getElem? (i := 9) rfl)) (hw _ (List.mem_of_getElem? (i := 10) rfl)) (hw _ (List.mem_of_getElem? (i := 8) rfl)) (hw _ (List.mem_of_getElem? (i := 11) rfl)) (by decide) (a := b10) (argsL := [(.ref np9)]) (rest := [(.ref b10)]) (c_init2 l Z a0 hw b10 np9 h10 n0 Z10 ab k0 k1 E_b10 F_b10_pages F_b10_low F_b10_filter An9 S_ABSENT A_ab E_ab g_b10 (Ne.symm ne_np9_b10) (Ne.symm ne_ab_b10) (Ne.symm ne_ab_np9) r0 r1) pd_4 rfl (by rw [hml]; rfl) (W := 1) rfl (by decide) (by decide) (by decide) (by decide) (hb hby at_254) rfl ?_
              intro T11 v11 L11 X11 q11
              obtain ⟨pa11, pg11, rfl, M11, PG11, Fp11, Fl11, Ff11, E11⟩ := q11
              have N11 := Fr.app N9 M11
              show Run p e below s _ _ _ (T11.setTop (mkF m 257 #[.val (.int p1), .val (.int p2), .val (.int p3), .val (.int p4), .val (.int mk), .val (.int k0), .val (.int k1), .val (.int k2), .val (.int k3), .val (.int (2 : Int32)), .val (.ref np9), .val (.int sel), .val (.int dd), .val (.int md), .val (.int u), .val (.int ex2)] [(.ref b10)]))
              have Z11 : n0 ≤ T11.heap.size := Nat.le_trans g_b10 (Nat.le_of_lt E11.lt)
              refine Run.x_iload (q := 259) X11 hx (hb hby at_257) rfl rfl ?_
              refine Run.callV X11 hx hZ rfl (y := (⟨"needlewise/boyermoore/Rightmost", "of", "(C)I"⟩ : MethodName)) (z := (⟨"needlewise/boyermoore/Rightmost", "of", "(C)I"⟩ : MethodName)) hown (hw _ (List.mem_of_getElem? (i := 37) rfl)) (hw _ (List.mem_of_getElem? (i := 38) rfl)) (notFace_of_selects (args := #[]) (mvT hZ (hw _ (List.mem_of_getElem? (i := 40) rfl)))) (hw _ (List.mem_of_getElem? (i := 40) rfl)) (hw _ (List.mem_of_getElem? (i := 39) rfl)) (hw _ (List.mem_of_getElem? (i := 8) rfl)) (hw _ (List.mem_of_getElem? (i := 41) rfl)) (by decide) (a := b10) E11 (argsL := [(.int u)]) (rest := []) (c_of l Z a0 hw b10 u T11.heap n0 Z11 ab pa11 pg11 (own_go (fun _ => -1) 0 [k0, k1]) (own_bt 0 [k0, k1]) E11 Fp11 Fl11 Ff11 PG11 hu) pd_5 rfl (by rw [hml]; rfl) (W := 0) rfl (by decide) (by decide) (by decide) (by decide) (hb hby at_259) rfl ?_
              intro T12 v12 L12 X12 q12
              obtain ⟨rfl, M12, e12⟩ := q12
              have N12 := Fr.app N11 M12
              show Run p e below s _ _ _ (T12.setTop (mkF m 262 #[.val (.int p1), .val (.int p2), .val (.int p3), .val (.int p4), .val (.int mk), .val (.int k0), .val (.int k1), .val (.int k2), .val (.int k3), .val (.int (2 : Int32)), .val (.ref np9), .val (.int sel), .val (.int dd), .val (.int md), .val (.int u), .val (.int ex2)] [(.int (own_of (own_go (fun _ => -1) 0 [k0, k1]) (own_bt 0 [k0, k1]) u))]))
              refine Run.x_iload (q := 264) X12 hx (hb hby at_262) rfl rfl ?_
              refine Run.x_icmpNo (q := 267) X12 hx (hb hby at_264) (teq ((own_fin hu.1 [k0, k1] (List.forall_mem_cons.mpr ⟨r0.1, (List.forall_mem_cons.mpr ⟨r1.1, (fun _ h => nomatch h)⟩)⟩)).trans (by rw [hex2, hex1]; rfl))).2 rfl ?_
              refine Run.x_iconst (q := 268) X12 hx (hb hby at_267) (z := (1 : Int32)) rfl rfl ?_
              refine Run.x_goto (q := 272) X12 hx (hb hby at_268) (by decide) (by decide) ?_
              refine Run.retN X12 hx hlk e12 (t := .boolean) hret (by simp) (z' := (1 : Int32)) (by decide) (hb hby at_272) (by decide) (by decide) ?_
              exact ⟨rfl, N12⟩
            by_cases hc210 : k1 = u
            · skip
              refine Run.x_icmpNo (q := 213) X9 hx (hb hby at_210) (teq hc210).2 rfl ?_
              refine Run.x_iconst (q := 214) X9 hx (hb hby at_213) (z := (1 : Int32)) rfl rfl ?_
              refine Run.x_istore (q := 216) X9 hx #[.val (.int p1), .val (.int p2), .val (.int p3), .val (.int p4), .val (.int mk), .val (.int k0), .val (.int k1), .val (.int k2), .val (.int k3), .val (.int (2 : Int32)), .val (.ref np9), .val (.int sel), .val (.int dd), .val (.int md), .val (.int u), .val (.int (1 : Int32))] (hb hby at_214) rfl rfl ?_
              exact JE1 _ (if_pos hc210).symm
            · skip
              refine Run.x_icmpYes (q := 216) X9 hx (hb hby at_210) (feq hc210).2 (by decide) (by decide) ?_
              exact JE1 _ (if_neg hc210).symm
          by_cases hc194 : k0 = u
          · skip
            refine Run.x_icmpNo (q := 197) X9 hx (hb hby at_194) (teq hc194).2 rfl ?_
            refine Run.x_iconst (q := 198) X9 hx (hb hby at_197) (z := (0 : Int32)) rfl rfl ?_
            refine Run.x_istore (q := 200) X9 hx #[.val (.int p1), .val (.int p2), .val (.int p3), .val (.int p4), .val (.int mk), .val (.int k0), .val (.int k1), .val (.int k2), .val (.int k3), .val (.int (2 : Int32)), .val (.ref np9), .val (.int sel), .val (.int dd), .val (.int md), .val (.int u), .val (.int (0 : Int32))] (hb hby at_198) rfl rfl ?_
            exact JE0 _ (if_pos hc194).symm
          · skip
            refine Run.x_icmpYes (q := 200) X9 hx (hb hby at_194) (feq hc194).2 (by decide) (by decide) ?_
            exact JE0 _ (if_neg hc194).symm
        refine Run.x_iload (q := 125) X9 hx (hb hby at_123) rfl rfl ?_
        by_cases hc125 : md = (0 : Int32)
        · skip
          refine Run.x_ifNo (q := 128) X9 hx (hb hby at_125) ((if0 _ _).trans (teq hc125).2) rfl ?_
          refine Run.x_iloadN (q := 129) X9 hx (hb hby at_128) rfl rfl ?_
          refine Run.x_i2c (q := 130) X9 hx (hb hby at_129) rfl rfl ?_
          refine Run.x_istore (q := 132) X9 hx #[.val (.int p1), .val (.int p2), .val (.int p3), .val (.int p4), .val (.int mk), .val (.int k0), .val (.int k1), .val (.int k2), .val (.int k3), .val (.int (2 : Int32)), .val (.ref np9), .val (.int sel), .val (.int dd), .val (.int md), .val (.int p3.toUInt32.toUInt16.toUInt32.toInt32), .unset] (hb hby at_130) rfl rfl ?_
          refine Run.x_goto (q := 182) X9 hx (hb hby at_132) (by decide) (by decide) ?_
          exact J182 _ (own_rg rfl)
        · skip
          refine Run.x_ifYes (q := 135) X9 hx (hb hby at_125) ((if0 _ _).trans (feq hc125).2) (by decide) (by decide) ?_
          refine Run.x_iload (q := 137) X9 hx (hb hby at_135) rfl rfl ?_
          refine Run.x_iconst (q := 138) X9 hx (hb hby at_137) (z := (1 : Int32)) rfl rfl ?_
          by_cases hc138 : md = (1 : Int32)
          · skip
            refine Run.x_icmpNo (q := 141) X9 hx (hb hby at_138) (teq hc138).2 rfl ?_
            refine Run.x_iload (q := 143) X9 hx (hb hby at_141) rfl rfl ?_
            refine Run.x_istore (q := 145) X9 hx #[.val (.int p1), .val (.int p2), .val (.int p3), .val (.int p4), .val (.int mk), .val (.int k0), .val (.int k1), .val (.int k2), .val (.int k3), .val (.int (2 : Int32)), .val (.ref np9), .val (.int sel), .val (.int dd), .val (.int md), .val (.int dd), .unset] (hb hby at_143) rfl rfl ?_
            refine Run.x_goto (q := 182) X9 hx (hb hby at_145) (by decide) (by decide) ?_
            exact J182 _ rd
          · skip
            refine Run.x_icmpYes (q := 148) X9 hx (hb hby at_138) (feq hc138).2 (by decide) (by decide) ?_
            refine Run.x_iload (q := 150) X9 hx (hb hby at_148) rfl rfl ?_
            refine Run.x_iconst (q := 151) X9 hx (hb hby at_150) (z := (2 : Int32)) rfl rfl ?_
            by_cases hc151 : md = (2 : Int32)
            · skip
              refine Run.x_icmpNo (q := 154) X9 hx (hb hby at_151) (teq hc151).2 rfl ?_
              refine Run.x_iload (q := 156) X9 hx (hb hby at_154) rfl rfl ?_
              refine Run.x_iloadN (q := 157) X9 hx (hb hby at_156) rfl rfl ?_
              refine Run.x_iconst (q := 158) X9 hx (hb hby at_157) (z := (2 : Int32)) rfl rfl ?_
              refine Run.x_iushr (q := 159) X9 hx (hb hby at_158) rfl rfl ?_
              refine Run.st (B := T9.setTop (mkF m 161 #[.val (.int p1), .val (.int p2), .val (.int p3), .val (.int p4), .val (.int mk), .val (.int k0), .val (.int k1), .val (.int k2), .val (.int k3), .val (.int (2 : Int32)), .val (.ref np9), .val (.int sel), .val (.int dd), .val (.int md), .unset, .unset] [(.int (65472 : Int32)), (.int ((p3.toUInt32 >>> ((2 : Int32) &&& 31).toUInt32).toInt32)), (.int dd)])) (fun t kt => X9.ldcInt hx hown (mvT hZ (hw _ (List.mem_of_getElem? (i := 42) rfl))) (g := (mkF m 159 #[.val (.int p1), .val (.int p2), .val (.int p3), .val (.int p4), .val (.int mk), .val (.int k0), .val (.int k1), .val (.int k2), .val (.int k3), .val (.int (2 : Int32)), .val (.ref np9), .val (.int sel), .val (.int dd), .val (.int md), .unset, .unset] [(.int ((p3.toUInt32 >>> ((2 : Int32) &&& 31).toUInt32).toInt32)), (.int dd)])) rfl (hb hby at_159) _ kt) ?_
              refine Run.x_iand (q := 162) X9 hx (hb hby at_161) rfl rfl ?_
              refine Run.x_ixor (q := 163) X9 hx (hb hby at_162) rfl rfl ?_
              refine Run.x_i2c (q := 164) X9 hx (hb hby at_163) rfl rfl ?_
              refine Run.x_istore (q := 166) X9 hx #[.val (.int p1), .val (.int p2), .val (.int p3), .val (.int p4), .val (.int mk), .val (.int k0), .val (.int k1), .val (.int k2), .val (.int k3), .val (.int (2 : Int32)), .val (.ref np9), .val (.int sel), .val (.int dd), .val (.int md), .val (.int (dd ^^^ (((p3.toUInt32 >>> ((2 : Int32) &&& 31).toUInt32).toInt32) &&& (65472 : Int32))).toUInt32.toUInt16.toUInt32.toInt32), .unset] (hb hby at_164) rfl rfl ?_
              refine Run.x_goto (q := 182) X9 hx (hb hby at_166) (by decide) (by decide) ?_
              exact J182 _ (own_rg rfl)
            · skip
              refine Run.x_icmpYes (q := 169) X9 hx (hb hby at_151) (feq hc151).2 (by decide) (by decide) ?_
              refine Run.x_iload (q := 171) X9 hx (hb hby at_169) rfl rfl ?_
              refine Run.x_iloadN (q := 172) X9 hx (hb hby at_171) rfl rfl ?_
              refine Run.x_iconst (q := 173) X9 hx (hb hby at_172) (z := (2 : Int32)) rfl rfl ?_
              refine Run.x_iushr (q := 174) X9 hx (hb hby at_173) rfl rfl ?_
              refine Run.x_sipush (q := 177) X9 hx (hb hby at_174) (z := (255 : Int32)) rfl rfl ?_
              refine Run.x_iand (q := 178) X9 hx (hb hby at_177) rfl rfl ?_
              refine Run.x_ixor (q := 179) X9 hx (hb hby at_178) rfl rfl ?_
              refine Run.x_i2c (q := 180) X9 hx (hb hby at_179) rfl rfl ?_
              refine Run.x_istore (q := 182) X9 hx #[.val (.int p1), .val (.int p2), .val (.int p3), .val (.int p4), .val (.int mk), .val (.int k0), .val (.int k1), .val (.int k2), .val (.int k3), .val (.int (2 : Int32)), .val (.ref np9), .val (.int sel), .val (.int dd), .val (.int md), .val (.int (dd ^^^ (((p3.toUInt32 >>> ((2 : Int32) &&& 31).toUInt32).toInt32) &&& (255 : Int32))).toUInt32.toUInt16.toUInt32.toInt32), .unset] (hb hby at_180) rfl rfl ?_
              exact J182 _ (own_rg rfl)
      refine Run.x_iload (q := 82) X9 hx (hb hby at_80) rfl rfl ?_
      by_cases hc82 : sel = (0 : Int32)
      · skip
        refine Run.x_ifNo (q := 85) X9 hx (hb hby at_82) ((if0 _ _).trans (teq hc82).2) rfl ?_
        refine Run.x_iload (q := 87) X9 hx (hb hby at_85) rfl rfl ?_
        refine Run.x_goto (q := 114) X9 hx (hb hby at_87) (by decide) (by decide) ?_
        exact J114 _ r0
      · skip
        refine Run.x_ifYes (q := 90) X9 hx (hb hby at_82) ((if0 _ _).trans (feq hc82).2) (by decide) (by decide) ?_
        refine Run.x_iload (q := 92) X9 hx (hb hby at_90) rfl rfl ?_
        refine Run.x_iconst (q := 93) X9 hx (hb hby at_92) (z := (1 : Int32)) rfl rfl ?_
        by_cases hc93 : sel = (1 : Int32)
        · skip
          refine Run.x_icmpNo (q := 96) X9 hx (hb hby at_93) (teq hc93).2 rfl ?_
          refine Run.x_iload (q := 98) X9 hx (hb hby at_96) rfl rfl ?_
          refine Run.x_goto (q := 114) X9 hx (hb hby at_98) (by decide) (by decide) ?_
          exact J114 _ r1
        · skip
          refine Run.x_icmpYes (q := 101) X9 hx (hb hby at_93) (feq hc93).2 (by decide) (by decide) ?_
          refine Run.x_iload (q := 103) X9 hx (hb hby at_101) rfl rfl ?_
          refine Run.x_iconst (q := 104) X9 hx (hb hby at_103) (z := (2 : Int32)) rfl rfl ?_
          by_cases hc104 : sel = (2 : Int32)
          · skip
            refine Run.x_icmpNo (q := 107) X9 hx (hb hby at_104) (teq hc104).2 rfl ?_
            refine Run.x_iload (q := 109) X9 hx (hb hby at_107) rfl rfl ?_
            refine Run.x_goto (q := 114) X9 hx (hb hby at_109) (by decide) (by decide) ?_
            exact J114 _ r2
          · skip
            refine Run.x_icmpYes (q := 112) X9 hx (hb hby at_104) (feq hc104).2 (by decide) (by decide) ?_
            refine Run.x_iload (q := 114) X9 hx (hb hby at_112) rfl rfl ?_
            exact J114 _ r3
    · skip
      show Run p e below s _ _ _ (T0.setTop (mkF m 60 #[.val (.int p1), .val (.int p2), .val (.int p3), .val (.int p4), .val (.int mk), .val (.int k0), .val (.int k1), .val (.int k2), .val (.int k3), .val (.int (3 : Int32)), .unset, .unset, .unset, .unset, .unset, .unset] []))
      refine Run.x_iload (q := 62) X0 hx (hb hby at_60) rfl rfl ?_
      refine Run.x_iload (q := 64) X0 hx (hb hby at_62) rfl rfl ?_
      refine Run.x_iload (q := 66) X0 hx (hb hby at_64) rfl rfl ?_
      refine Run.x_iload (q := 68) X0 hx (hb hby at_66) rfl rfl ?_
      refine Run.x_iload (q := 70) X0 hx (hb hby at_68) rfl rfl ?_
      refine Run.callS X0 hx hZ e0 (y := (⟨"needlewise/boyermoore/RightmostOfPinLawPinLaw", "pattern", "(ICCCC)[C"⟩ : MethodName)) hown (hw _ (List.mem_of_getElem? (i := 1) rfl)) (hw _ (List.mem_of_getElem? (i := 2) rfl)) (hw _ (List.mem_of_getElem? (i := 3) rfl)) (hw _ (List.mem_of_getElem? (i := 4) rfl)) (by decide) (argsL := [(.int (3 : Int32)), (.int k0), (.int k1), (.int k2), (.int k3)]) (rest := []) (c_pat3 l Z a0 hw k0 k1 k2 k3 h0 n0 Z0 r0 r1 r2 r3) pd_3 rfl (by rw [hml]; rfl) (W := 0) rfl (by decide) (by decide) (by decide) (by decide) (hb hby at_70) rfl ?_
      intro T13 v13 L13 X13 q13
      obtain ⟨np13, rfl, M13, K13, sz13, An13⟩ := q13
      have N13 := Fr.app N0 M13
      show Run p e below s _ _ _ (T13.setTop (mkF m 73 #[.val (.int p1), .val (.int p2), .val (.int p3), .val (.int p4), .val (.int mk), .val (.int k0), .val (.int k1), .val (.int k2), .val (.int k3), .val (.int (3 : Int32)), .unset, .unset, .unset, .unset, .unset, .unset] [(.ref np13)]))
      have ne_ab_np13 : ab ≠ np13 := Nat.ne_of_lt (Nat.lt_of_lt_of_le A_ab.lt sz13)
      have g_np13 : n0 ≤ np13 := Nat.le_trans Z0 sz13
      replace S_ABSENT := Sta_keep S_ABSENT K13 all0
      have Z13 : n0 ≤ T13.heap.size := Nat.le_trans Z0 K13.1
      refine Run.x_astore (q := 75) X13 hx #[.val (.int p1), .val (.int p2), .val (.int p3), .val (.int p4), .val (.int mk), .val (.int k0), .val (.int k1), .val (.int k2), .val (.int k3), .val (.int (3 : Int32)), .val (.ref np13), .unset, .unset, .unset, .unset, .unset] (hb hby at_73) rfl rfl rfl ?_
      refine Run.x_iloadN (q := 76) X13 hx (hb hby at_75) rfl rfl ?_
      refine Run.x_iconst (q := 77) X13 hx (hb hby at_76) (z := (3 : Int32)) rfl rfl ?_
      refine Run.x_iand (q := 78) X13 hx (hb hby at_77) rfl rfl ?_
      refine Run.x_istore (q := 80) X13 hx #[.val (.int p1), .val (.int p2), .val (.int p3), .val (.int p4), .val (.int mk), .val (.int k0), .val (.int k1), .val (.int k2), .val (.int k3), .val (.int (3 : Int32)), .val (.ref np13), .val (.int (p3 &&& (3 : Int32))), .unset, .unset, .unset, .unset] (hb hby at_78) rfl rfl ?_
      generalize hsel : (p3 &&& (3 : Int32)) = sel
      have J114 : ∀ (dd : Int32), (0 ≤ dd.toInt ∧ dd.toInt < 65536) → Run p e below s (Tru n0) room_1.cells room_1.slots (T13.setTop (mkF m 114 #[.val (.int p1), .val (.int p2), .val (.int p3), .val (.int p4), .val (.int mk), .val (.int k0), .val (.int k1), .val (.int k2), .val (.int k3), .val (.int (3 : Int32)), .val (.ref np13), .val (.int sel), .unset, .unset, .unset, .unset] [(.int dd)])) := by
        intro dd rd
        refine Run.x_istore (q := 116) X13 hx #[.val (.int p1), .val (.int p2), .val (.int p3), .val (.int p4), .val (.int mk), .val (.int k0), .val (.int k1), .val (.int k2), .val (.int k3), .val (.int (3 : Int32)), .val (.ref np13), .val (.int sel), .val (.int dd), .unset, .unset, .unset] (hb hby at_114) rfl rfl ?_
        refine Run.x_iloadN (q := 117) X13 hx (hb hby at_116) rfl rfl ?_
        refine Run.x_iconst (q := 118) X13 hx (hb hby at_117) (z := (3 : Int32)) rfl rfl ?_
        refine Run.x_iushr (q := 119) X13 hx (hb hby at_118) rfl rfl ?_
        refine Run.x_iconst (q := 120) X13 hx (hb hby at_119) (z := (3 : Int32)) rfl rfl ?_
        refine Run.x_iand (q := 121) X13 hx (hb hby at_120) rfl rfl ?_
        refine Run.x_istore (q := 123) X13 hx #[.val (.int p1), .val (.int p2), .val (.int p3), .val (.int p4), .val (.int mk), .val (.int k0), .val (.int k1), .val (.int k2), .val (.int k3), .val (.int (3 : Int32)), .val (.ref np13), .val (.int sel), .val (.int dd), .val (.int (((p4.toUInt32 >>> ((3 : Int32) &&& 31).toUInt32).toInt32) &&& (3 : Int32))), .unset, .unset] (hb hby at_121) rfl rfl ?_
        generalize hmd : (((p4.toUInt32 >>> ((3 : Int32) &&& 31).toUInt32).toInt32) &&& (3 : Int32)) = md
        have J182 : ∀ (u : Int32), (0 ≤ u.toInt ∧ u.toInt < 65536) → Run p e below s (Tru n0) room_1.cells room_1.slots (T13.setTop (mkF m 182 #[.val (.int p1), .val (.int p2), .val (.int p3), .val (.int p4), .val (.int mk), .val (.int k0), .val (.int k1), .val (.int k2), .val (.int k3), .val (.int (3 : Int32)), .val (.ref np13), .val (.int sel), .val (.int dd), .val (.int md), .val (.int u), .unset] [])) := by
          intro u hu
          refine Run.x_iconst (q := 183) X13 hx (hb hby at_182) (z := (-1 : Int32)) rfl rfl ?_
          refine Run.x_istore (q := 185) X13 hx #[.val (.int p1), .val (.int p2), .val (.int p3), .val (.int p4), .val (.int mk), .val (.int k0), .val (.int k1), .val (.int k2), .val (.int k3), .val (.int (3 : Int32)), .val (.ref np13), .val (.int sel), .val (.int dd), .val (.int md), .val (.int u), .val (.int (-1 : Int32))] (hb hby at_183) rfl rfl ?_
          refine Run.x_iload (q := 187) X13 hx (hb hby at_185) rfl rfl ?_
          refine Run.x_ifNo (q := 190) X13 hx (hb hby at_187) ((if0 _ _).trans (tlt (by decide : (0 : Int32) < (3 : Int32))).2.2.2) rfl ?_
          refine Run.x_iload (q := 192) X13 hx (hb hby at_190) rfl rfl ?_
          refine Run.x_iload (q := 194) X13 hx (hb hby at_192) rfl rfl ?_
          have JE0 : ∀ (ex1 : Int32), (ex1 = (if k0 = u then (0 : Int32) else (-1 : Int32))) → Run p e below s (Tru n0) room_1.cells room_1.slots (T13.setTop (mkF m 200 #[.val (.int p1), .val (.int p2), .val (.int p3), .val (.int p4), .val (.int mk), .val (.int k0), .val (.int k1), .val (.int k2), .val (.int k3), .val (.int (3 : Int32)), .val (.ref np13), .val (.int sel), .val (.int dd), .val (.int md), .val (.int u), .val (.int ex1)] [])) := by
            intro ex1 hex1
            refine Run.x_iload (q := 202) X13 hx (hb hby at_200) rfl rfl ?_
            refine Run.x_iconst (q := 203) X13 hx (hb hby at_202) (z := (1 : Int32)) rfl rfl ?_
            refine Run.x_icmpNo (q := 206) X13 hx (hb hby at_203) (tlt (by decide : (1 : Int32) < (3 : Int32))).2.2.2 rfl ?_
            refine Run.x_iload (q := 208) X13 hx (hb hby at_206) rfl rfl ?_
            refine Run.x_iload (q := 210) X13 hx (hb hby at_208) rfl rfl ?_
            have JE1 : ∀ (ex2 : Int32), (ex2 = (if k1 = u then (1 : Int32) else ex1)) → Run p e below s (Tru n0) room_1.cells room_1.slots (T13.setTop (mkF m 216 #[.val (.int p1), .val (.int p2), .val (.int p3), .val (.int p4), .val (.int mk), .val (.int k0), .val (.int k1), .val (.int k2), .val (.int k3), .val (.int (3 : Int32)), .val (.ref np13), .val (.int sel), .val (.int dd), .val (.int md), .val (.int u), .val (.int ex2)] [])) := by
              intro ex2 hex2
              refine Run.x_iload (q := 218) X13 hx (hb hby at_216) rfl rfl ?_
              refine Run.x_iconst (q := 219) X13 hx (hb hby at_218) (z := (2 : Int32)) rfl rfl ?_
              refine Run.x_icmpNo (q := 222) X13 hx (hb hby at_219) (tlt (by decide : (2 : Int32) < (3 : Int32))).2.2.2 rfl ?_
              refine Run.x_iload (q := 224) X13 hx (hb hby at_222) rfl rfl ?_
              refine Run.x_iload (q := 226) X13 hx (hb hby at_224) rfl rfl ?_
              have JE2 : ∀ (ex3 : Int32), (ex3 = (if k2 = u then (2 : Int32) else ex2)) → Run p e below s (Tru n0) room_1.cells room_1.slots (T13.setTop (mkF m 232 #[.val (.int p1), .val (.int p2), .val (.int p3), .val (.int p4), .val (.int mk), .val (.int k0), .val (.int k1), .val (.int k2), .val (.int k3), .val (.int (3 : Int32)), .val (.ref np13), .val (.int sel), .val (.int dd), .val (.int md), .val (.int u), .val (.int ex3)] [])) := by
                intro ex3 hex3
                refine Run.x_iload (q := 234) X13 hx (hb hby at_232) rfl rfl ?_
                refine Run.x_iconst (q := 235) X13 hx (hb hby at_234) (z := (3 : Int32)) rfl rfl ?_
                refine Run.x_icmpYes (q := 248) X13 hx (hb hby at_235) (flt (by decide : ¬ ((3 : Int32) < (3 : Int32)))).2.2.2 (by decide) (by decide) ?_
                obtain ⟨T14, h14, X14, e14, E14, A14, D14, -, st14⟩ := newO X13 hx hZ hown (hw _ (List.mem_of_getElem? (i := 6) rfl)) (hw _ (List.mem_of_getElem? (i := 7) rfl)) (hw _ (List.mem_of_getElem? (i := 8) rfl)) rfl (g := (mkF m 248 #[.val (.int p1), .val (.int p2), .val (.int p3), .val (.int p4), .val (.int mk), .val (.int k0), .val (.int k1), .val (.int k2), .val (.int k3), .val (.int (3 : Int32)), .val (.ref np13), .val (.int sel), .val (.int dd), .val (.int md), .val (.int u), .val (.int ex3)] [])) rfl (hb hby at_248) (by decide) (by decide)
                obtain ⟨b14, gg14⟩ : ∃ z, z = T13.heap.size := ⟨_, rfl⟩
                rw [← gg14] at A14 D14 st14
                have g_b14 : n0 ≤ b14 := Nat.le_trans Z13 (Nat.le_of_eq gg14.symm)
                replace A_ab := A_ab.keep K13 nin0
                have ne_ab_b14 : ab ≠ b14 := Nat.ne_of_lt (Nat.lt_of_lt_of_le A_ab.lt (Nat.le_of_eq gg14.symm))
                have ne_np13_b14 : np13 ≠ b14 := Nat.ne_of_lt (Nat.lt_of_lt_of_le An13.lt (Nat.le_of_eq gg14.symm))
                have Z14 : n0 ≤ h14.size := Nat.le_trans Z13 E14.1
                have E_b14 := A14
                have F_b14_pages : Fld Z h14 b14 "needlewise/boyermoore/Rightmost" "pages" "[[I" .null := D14 (Or.inr (hw _ (List.mem_of_getElem? (i := 18) rfl))) (ty := (.array (.array .int))) (by decide)
                have F_b14_low : Fld Z h14 b14 "needlewise/boyermoore/Rightmost" "low" "[I" .null := D14 (Or.inr (hw _ (List.mem_of_getElem? (i := 34) rfl))) (ty := (.array .int)) (by decide)
                have F_b14_filter : Fld Z h14 b14 "needlewise/boyermoore/Rightmost" "filter" "J" (.long (0 : Int64)) := D14 (Or.inr (hw _ (List.mem_of_getElem? (i := 36) rfl))) (ty := .long) (by decide)
                refine Run.st st14 ?_
                show Run p e below s _ _ _ (T14.setTop (mkF m 251 #[.val (.int p1), .val (.int p2), .val (.int p3), .val (.int p4), .val (.int mk), .val (.int k0), .val (.int k1), .val (.int k2), .val (.int k3), .val (.int (3 : Int32)), .val (.ref np13), .val (.int sel), .val (.int dd), .val (.int md), .val (.int u), .val (.int ex3)] [(.ref b14)]))
                refine Run.x_dup (q := 252) X14 hx (hb hby at_251) rfl rfl ?_
                refine Run.x_aload (q := 254) X14 hx (hb hby at_252) rfl rfl rfl ?_
                replace An13 := An13.ext E14
                replace S_ABSENT := S_ABSENT.ext E14
                replace A_ab := A_ab.ext E14
                replace E_ab := (E_ab.keep K13).ext E14
                refine Run.callC X14 hx hZ e14 (y := (⟨"needlewise/boyermoore/Rightmost", "<init>", "([C)V"⟩ : MethodName)) hown rfl (hw _ (List.mem_of_getElem? (i := 9) rfl)) (hw _ (List.mem_of_getElem? (i := 10) rfl)) (hw _ (List.mem_of_getElem? (i := 8) rfl)) (hw _ (List.mem_of_getElem? (i := 11) rfl)) (by decide) (a := b14) (argsL := [(.ref np13)]) (rest := [(.ref b14)]) (c_init3 l Z a0 hw b14 np13 h14 n0 Z14 ab k0 k1 k2 E_b14 F_b14_pages F_b14_low F_b14_filter An13 S_ABSENT A_ab E_ab g_b14 (Ne.symm ne_np13_b14) (Ne.symm ne_ab_b14) (Ne.symm ne_ab_np13) r0 r1 r2) pd_4 rfl (by rw [hml]; rfl) (W := 1) rfl (by decide) (by decide) (by decide) (by decide) (hb hby at_254) rfl ?_
                intro T15 v15 L15 X15 q15
                obtain ⟨pa15, pg15, rfl, M15, PG15, Fp15, Fl15, Ff15, E15⟩ := q15
                have N15 := Fr.app N13 M15
                show Run p e below s _ _ _ (T15.setTop (mkF m 257 #[.val (.int p1), .val (.int p2), .val (.int p3), .val (.int p4), .val (.int mk), .val (.int k0), .val (.int k1), .val (.int k2), .val (.int k3), .val (.int (3 : Int32)), .val (.ref np13), .val (.int sel), .val (.int dd), .val (.int md), .val (.int u), .val (.int ex3)] [(.ref b14)]))
                have Z15 : n0 ≤ T15.heap.size := Nat.le_trans g_b14 (Nat.le_of_lt E15.lt)
                refine Run.x_iload (q := 259) X15 hx (hb hby at_257) rfl rfl ?_
                refine Run.callV X15 hx hZ rfl (y := (⟨"needlewise/boyermoore/Rightmost", "of", "(C)I"⟩ : MethodName)) (z := (⟨"needlewise/boyermoore/Rightmost", "of", "(C)I"⟩ : MethodName)) hown (hw _ (List.mem_of_getElem? (i := 37) rfl)) (hw _ (List.mem_of_getElem? (i := 38) rfl)) (notFace_of_selects (args := #[]) (mvT hZ (hw _ (List.mem_of_getElem? (i := 40) rfl)))) (hw _ (List.mem_of_getElem? (i := 40) rfl)) (hw _ (List.mem_of_getElem? (i := 39) rfl)) (hw _ (List.mem_of_getElem? (i := 8) rfl)) (hw _ (List.mem_of_getElem? (i := 41) rfl)) (by decide) (a := b14) E15 (argsL := [(.int u)]) (rest := []) (c_of l Z a0 hw b14 u T15.heap n0 Z15 ab pa15 pg15 (own_go (fun _ => -1) 0 [k0, k1, k2]) (own_bt 0 [k0, k1, k2]) E15 Fp15 Fl15 Ff15 PG15 hu) pd_5 rfl (by rw [hml]; rfl) (W := 0) rfl (by decide) (by decide) (by decide) (by decide) (hb hby at_259) rfl ?_
                intro T16 v16 L16 X16 q16
                obtain ⟨rfl, M16, e16⟩ := q16
                have N16 := Fr.app N15 M16
                show Run p e below s _ _ _ (T16.setTop (mkF m 262 #[.val (.int p1), .val (.int p2), .val (.int p3), .val (.int p4), .val (.int mk), .val (.int k0), .val (.int k1), .val (.int k2), .val (.int k3), .val (.int (3 : Int32)), .val (.ref np13), .val (.int sel), .val (.int dd), .val (.int md), .val (.int u), .val (.int ex3)] [(.int (own_of (own_go (fun _ => -1) 0 [k0, k1, k2]) (own_bt 0 [k0, k1, k2]) u))]))
                refine Run.x_iload (q := 264) X16 hx (hb hby at_262) rfl rfl ?_
                refine Run.x_icmpNo (q := 267) X16 hx (hb hby at_264) (teq ((own_fin hu.1 [k0, k1, k2] (List.forall_mem_cons.mpr ⟨r0.1, (List.forall_mem_cons.mpr ⟨r1.1, (List.forall_mem_cons.mpr ⟨r2.1, (fun _ h => nomatch h)⟩)⟩)⟩)).trans (by rw [hex3, hex2, hex1]; rfl))).2 rfl ?_
                refine Run.x_iconst (q := 268) X16 hx (hb hby at_267) (z := (1 : Int32)) rfl rfl ?_
                refine Run.x_goto (q := 272) X16 hx (hb hby at_268) (by decide) (by decide) ?_
                refine Run.retN X16 hx hlk e16 (t := .boolean) hret (by simp) (z' := (1 : Int32)) (by decide) (hb hby at_272) (by decide) (by decide) ?_
                exact ⟨rfl, N16⟩
              by_cases hc226 : k2 = u
              · skip
                refine Run.x_icmpNo (q := 229) X13 hx (hb hby at_226) (teq hc226).2 rfl ?_
                refine Run.x_iconst (q := 230) X13 hx (hb hby at_229) (z := (2 : Int32)) rfl rfl ?_
                refine Run.x_istore (q := 232) X13 hx #[.val (.int p1), .val (.int p2), .val (.int p3), .val (.int p4), .val (.int mk), .val (.int k0), .val (.int k1), .val (.int k2), .val (.int k3), .val (.int (3 : Int32)), .val (.ref np13), .val (.int sel), .val (.int dd), .val (.int md), .val (.int u), .val (.int (2 : Int32))] (hb hby at_230) rfl rfl ?_
                exact JE2 _ (if_pos hc226).symm
              · skip
                refine Run.x_icmpYes (q := 232) X13 hx (hb hby at_226) (feq hc226).2 (by decide) (by decide) ?_
                exact JE2 _ (if_neg hc226).symm
            by_cases hc210 : k1 = u
            · skip
              refine Run.x_icmpNo (q := 213) X13 hx (hb hby at_210) (teq hc210).2 rfl ?_
              refine Run.x_iconst (q := 214) X13 hx (hb hby at_213) (z := (1 : Int32)) rfl rfl ?_
              refine Run.x_istore (q := 216) X13 hx #[.val (.int p1), .val (.int p2), .val (.int p3), .val (.int p4), .val (.int mk), .val (.int k0), .val (.int k1), .val (.int k2), .val (.int k3), .val (.int (3 : Int32)), .val (.ref np13), .val (.int sel), .val (.int dd), .val (.int md), .val (.int u), .val (.int (1 : Int32))] (hb hby at_214) rfl rfl ?_
              exact JE1 _ (if_pos hc210).symm
            · skip
              refine Run.x_icmpYes (q := 216) X13 hx (hb hby at_210) (feq hc210).2 (by decide) (by decide) ?_
              exact JE1 _ (if_neg hc210).symm
          by_cases hc194 : k0 = u
          · skip
            refine Run.x_icmpNo (q := 197) X13 hx (hb hby at_194) (teq hc194).2 rfl ?_
            refine Run.x_iconst (q := 198) X13 hx (hb hby at_197) (z := (0 : Int32)) rfl rfl ?_
            refine Run.x_istore (q := 200) X13 hx #[.val (.int p1), .val (.int p2), .val (.int p3), .val (.int p4), .val (.int mk), .val (.int k0), .val (.int k1), .val (.int k2), .val (.int k3), .val (.int (3 : Int32)), .val (.ref np13), .val (.int sel), .val (.int dd), .val (.int md), .val (.int u), .val (.int (0 : Int32))] (hb hby at_198) rfl rfl ?_
            exact JE0 _ (if_pos hc194).symm
          · skip
            refine Run.x_icmpYes (q := 200) X13 hx (hb hby at_194) (feq hc194).2 (by decide) (by decide) ?_
            exact JE0 _ (if_neg hc194).symm
        refine Run.x_iload (q := 125) X13 hx (hb hby at_123) rfl rfl ?_
        by_cases hc125 : md = (0 : Int32)
        · skip
          refine Run.x_ifNo (q := 128) X13 hx (hb hby at_125) ((if0 _ _).trans (teq hc125).2) rfl ?_
          refine Run.x_iloadN (q := 129) X13 hx (hb hby at_128) rfl rfl ?_
          refine Run.x_i2c (q := 130) X13 hx (hb hby at_129) rfl rfl ?_
          refine Run.x_istore (q := 132) X13 hx #[.val (.int p1), .val (.int p2), .val (.int p3), .val (.int p4), .val (.int mk), .val (.int k0), .val (.int k1), .val (.int k2), .val (.int k3), .val (.int (3 : Int32)), .val (.ref np13), .val (.int sel), .val (.int dd), .val (.int md), .val (.int p3.toUInt32.toUInt16.toUInt32.toInt32), .unset] (hb hby at_130) rfl rfl ?_
          refine Run.x_goto (q := 182) X13 hx (hb hby at_132) (by decide) (by decide) ?_
          exact J182 _ (own_rg rfl)
        · skip
          refine Run.x_ifYes (q := 135) X13 hx (hb hby at_125) ((if0 _ _).trans (feq hc125).2) (by decide) (by decide) ?_
          refine Run.x_iload (q := 137) X13 hx (hb hby at_135) rfl rfl ?_
          refine Run.x_iconst (q := 138) X13 hx (hb hby at_137) (z := (1 : Int32)) rfl rfl ?_
          by_cases hc138 : md = (1 : Int32)
          · skip
            refine Run.x_icmpNo (q := 141) X13 hx (hb hby at_138) (teq hc138).2 rfl ?_
            refine Run.x_iload (q := 143) X13 hx (hb hby at_141) rfl rfl ?_
            refine Run.x_istore (q := 145) X13 hx #[.val (.int p1), .val (.int p2), .val (.int p3), .val (.int p4), .val (.int mk), .val (.int k0), .val (.int k1), .val (.int k2), .val (.int k3), .val (.int (3 : Int32)), .val (.ref np13), .val (.int sel), .val (.int dd), .val (.int md), .val (.int dd), .unset] (hb hby at_143) rfl rfl ?_
            refine Run.x_goto (q := 182) X13 hx (hb hby at_145) (by decide) (by decide) ?_
            exact J182 _ rd
          · skip
            refine Run.x_icmpYes (q := 148) X13 hx (hb hby at_138) (feq hc138).2 (by decide) (by decide) ?_
            refine Run.x_iload (q := 150) X13 hx (hb hby at_148) rfl rfl ?_
            refine Run.x_iconst (q := 151) X13 hx (hb hby at_150) (z := (2 : Int32)) rfl rfl ?_
            by_cases hc151 : md = (2 : Int32)
            · skip
              refine Run.x_icmpNo (q := 154) X13 hx (hb hby at_151) (teq hc151).2 rfl ?_
              refine Run.x_iload (q := 156) X13 hx (hb hby at_154) rfl rfl ?_
              refine Run.x_iloadN (q := 157) X13 hx (hb hby at_156) rfl rfl ?_
              refine Run.x_iconst (q := 158) X13 hx (hb hby at_157) (z := (2 : Int32)) rfl rfl ?_
              refine Run.x_iushr (q := 159) X13 hx (hb hby at_158) rfl rfl ?_
              refine Run.st (B := T13.setTop (mkF m 161 #[.val (.int p1), .val (.int p2), .val (.int p3), .val (.int p4), .val (.int mk), .val (.int k0), .val (.int k1), .val (.int k2), .val (.int k3), .val (.int (3 : Int32)), .val (.ref np13), .val (.int sel), .val (.int dd), .val (.int md), .unset, .unset] [(.int (65472 : Int32)), (.int ((p3.toUInt32 >>> ((2 : Int32) &&& 31).toUInt32).toInt32)), (.int dd)])) (fun t kt => X13.ldcInt hx hown (mvT hZ (hw _ (List.mem_of_getElem? (i := 42) rfl))) (g := (mkF m 159 #[.val (.int p1), .val (.int p2), .val (.int p3), .val (.int p4), .val (.int mk), .val (.int k0), .val (.int k1), .val (.int k2), .val (.int k3), .val (.int (3 : Int32)), .val (.ref np13), .val (.int sel), .val (.int dd), .val (.int md), .unset, .unset] [(.int ((p3.toUInt32 >>> ((2 : Int32) &&& 31).toUInt32).toInt32)), (.int dd)])) rfl (hb hby at_159) _ kt) ?_
              refine Run.x_iand (q := 162) X13 hx (hb hby at_161) rfl rfl ?_
              refine Run.x_ixor (q := 163) X13 hx (hb hby at_162) rfl rfl ?_
              refine Run.x_i2c (q := 164) X13 hx (hb hby at_163) rfl rfl ?_
              refine Run.x_istore (q := 166) X13 hx #[.val (.int p1), .val (.int p2), .val (.int p3), .val (.int p4), .val (.int mk), .val (.int k0), .val (.int k1), .val (.int k2), .val (.int k3), .val (.int (3 : Int32)), .val (.ref np13), .val (.int sel), .val (.int dd), .val (.int md), .val (.int (dd ^^^ (((p3.toUInt32 >>> ((2 : Int32) &&& 31).toUInt32).toInt32) &&& (65472 : Int32))).toUInt32.toUInt16.toUInt32.toInt32), .unset] (hb hby at_164) rfl rfl ?_
              refine Run.x_goto (q := 182) X13 hx (hb hby at_166) (by decide) (by decide) ?_
              exact J182 _ (own_rg rfl)
            · skip
              refine Run.x_icmpYes (q := 169) X13 hx (hb hby at_151) (feq hc151).2 (by decide) (by decide) ?_
              refine Run.x_iload (q := 171) X13 hx (hb hby at_169) rfl rfl ?_
              refine Run.x_iloadN (q := 172) X13 hx (hb hby at_171) rfl rfl ?_
              refine Run.x_iconst (q := 173) X13 hx (hb hby at_172) (z := (2 : Int32)) rfl rfl ?_
              refine Run.x_iushr (q := 174) X13 hx (hb hby at_173) rfl rfl ?_
              refine Run.x_sipush (q := 177) X13 hx (hb hby at_174) (z := (255 : Int32)) rfl rfl ?_
              refine Run.x_iand (q := 178) X13 hx (hb hby at_177) rfl rfl ?_
              refine Run.x_ixor (q := 179) X13 hx (hb hby at_178) rfl rfl ?_
              refine Run.x_i2c (q := 180) X13 hx (hb hby at_179) rfl rfl ?_
              refine Run.x_istore (q := 182) X13 hx #[.val (.int p1), .val (.int p2), .val (.int p3), .val (.int p4), .val (.int mk), .val (.int k0), .val (.int k1), .val (.int k2), .val (.int k3), .val (.int (3 : Int32)), .val (.ref np13), .val (.int sel), .val (.int dd), .val (.int md), .val (.int (dd ^^^ (((p3.toUInt32 >>> ((2 : Int32) &&& 31).toUInt32).toInt32) &&& (255 : Int32))).toUInt32.toUInt16.toUInt32.toInt32), .unset] (hb hby at_180) rfl rfl ?_
              exact J182 _ (own_rg rfl)
      refine Run.x_iload (q := 82) X13 hx (hb hby at_80) rfl rfl ?_
      by_cases hc82 : sel = (0 : Int32)
      · skip
        refine Run.x_ifNo (q := 85) X13 hx (hb hby at_82) ((if0 _ _).trans (teq hc82).2) rfl ?_
        refine Run.x_iload (q := 87) X13 hx (hb hby at_85) rfl rfl ?_
        refine Run.x_goto (q := 114) X13 hx (hb hby at_87) (by decide) (by decide) ?_
        exact J114 _ r0
      · skip
        refine Run.x_ifYes (q := 90) X13 hx (hb hby at_82) ((if0 _ _).trans (feq hc82).2) (by decide) (by decide) ?_
        refine Run.x_iload (q := 92) X13 hx (hb hby at_90) rfl rfl ?_
        refine Run.x_iconst (q := 93) X13 hx (hb hby at_92) (z := (1 : Int32)) rfl rfl ?_
        by_cases hc93 : sel = (1 : Int32)
        · skip
          refine Run.x_icmpNo (q := 96) X13 hx (hb hby at_93) (teq hc93).2 rfl ?_
          refine Run.x_iload (q := 98) X13 hx (hb hby at_96) rfl rfl ?_
          refine Run.x_goto (q := 114) X13 hx (hb hby at_98) (by decide) (by decide) ?_
          exact J114 _ r1
        · skip
          refine Run.x_icmpYes (q := 101) X13 hx (hb hby at_93) (feq hc93).2 (by decide) (by decide) ?_
          refine Run.x_iload (q := 103) X13 hx (hb hby at_101) rfl rfl ?_
          refine Run.x_iconst (q := 104) X13 hx (hb hby at_103) (z := (2 : Int32)) rfl rfl ?_
          by_cases hc104 : sel = (2 : Int32)
          · skip
            refine Run.x_icmpNo (q := 107) X13 hx (hb hby at_104) (teq hc104).2 rfl ?_
            refine Run.x_iload (q := 109) X13 hx (hb hby at_107) rfl rfl ?_
            refine Run.x_goto (q := 114) X13 hx (hb hby at_109) (by decide) (by decide) ?_
            exact J114 _ r2
          · skip
            refine Run.x_icmpYes (q := 112) X13 hx (hb hby at_104) (feq hc104).2 (by decide) (by decide) ?_
            refine Run.x_iload (q := 114) X13 hx (hb hby at_112) rfl rfl ?_
            exact J114 _ r3
    · skip
      show Run p e below s _ _ _ (T0.setTop (mkF m 60 #[.val (.int p1), .val (.int p2), .val (.int p3), .val (.int p4), .val (.int mk), .val (.int k0), .val (.int k1), .val (.int k2), .val (.int k3), .val (.int (4 : Int32)), .unset, .unset, .unset, .unset, .unset, .unset] []))
      refine Run.x_iload (q := 62) X0 hx (hb hby at_60) rfl rfl ?_
      refine Run.x_iload (q := 64) X0 hx (hb hby at_62) rfl rfl ?_
      refine Run.x_iload (q := 66) X0 hx (hb hby at_64) rfl rfl ?_
      refine Run.x_iload (q := 68) X0 hx (hb hby at_66) rfl rfl ?_
      refine Run.x_iload (q := 70) X0 hx (hb hby at_68) rfl rfl ?_
      refine Run.callS X0 hx hZ e0 (y := (⟨"needlewise/boyermoore/RightmostOfPinLawPinLaw", "pattern", "(ICCCC)[C"⟩ : MethodName)) hown (hw _ (List.mem_of_getElem? (i := 1) rfl)) (hw _ (List.mem_of_getElem? (i := 2) rfl)) (hw _ (List.mem_of_getElem? (i := 3) rfl)) (hw _ (List.mem_of_getElem? (i := 4) rfl)) (by decide) (argsL := [(.int (4 : Int32)), (.int k0), (.int k1), (.int k2), (.int k3)]) (rest := []) (c_pat4 l Z a0 hw k0 k1 k2 k3 h0 n0 Z0 r0 r1 r2 r3) pd_3 rfl (by rw [hml]; rfl) (W := 0) rfl (by decide) (by decide) (by decide) (by decide) (hb hby at_70) rfl ?_
      intro T17 v17 L17 X17 q17
      obtain ⟨np17, rfl, M17, K17, sz17, An17⟩ := q17
      have N17 := Fr.app N0 M17
      show Run p e below s _ _ _ (T17.setTop (mkF m 73 #[.val (.int p1), .val (.int p2), .val (.int p3), .val (.int p4), .val (.int mk), .val (.int k0), .val (.int k1), .val (.int k2), .val (.int k3), .val (.int (4 : Int32)), .unset, .unset, .unset, .unset, .unset, .unset] [(.ref np17)]))
      have ne_ab_np17 : ab ≠ np17 := Nat.ne_of_lt (Nat.lt_of_lt_of_le A_ab.lt sz17)
      have g_np17 : n0 ≤ np17 := Nat.le_trans Z0 sz17
      replace S_ABSENT := Sta_keep S_ABSENT K17 all0
      have Z17 : n0 ≤ T17.heap.size := Nat.le_trans Z0 K17.1
      refine Run.x_astore (q := 75) X17 hx #[.val (.int p1), .val (.int p2), .val (.int p3), .val (.int p4), .val (.int mk), .val (.int k0), .val (.int k1), .val (.int k2), .val (.int k3), .val (.int (4 : Int32)), .val (.ref np17), .unset, .unset, .unset, .unset, .unset] (hb hby at_73) rfl rfl rfl ?_
      refine Run.x_iloadN (q := 76) X17 hx (hb hby at_75) rfl rfl ?_
      refine Run.x_iconst (q := 77) X17 hx (hb hby at_76) (z := (3 : Int32)) rfl rfl ?_
      refine Run.x_iand (q := 78) X17 hx (hb hby at_77) rfl rfl ?_
      refine Run.x_istore (q := 80) X17 hx #[.val (.int p1), .val (.int p2), .val (.int p3), .val (.int p4), .val (.int mk), .val (.int k0), .val (.int k1), .val (.int k2), .val (.int k3), .val (.int (4 : Int32)), .val (.ref np17), .val (.int (p3 &&& (3 : Int32))), .unset, .unset, .unset, .unset] (hb hby at_78) rfl rfl ?_
      generalize hsel : (p3 &&& (3 : Int32)) = sel
      have J114 : ∀ (dd : Int32), (0 ≤ dd.toInt ∧ dd.toInt < 65536) → Run p e below s (Tru n0) room_1.cells room_1.slots (T17.setTop (mkF m 114 #[.val (.int p1), .val (.int p2), .val (.int p3), .val (.int p4), .val (.int mk), .val (.int k0), .val (.int k1), .val (.int k2), .val (.int k3), .val (.int (4 : Int32)), .val (.ref np17), .val (.int sel), .unset, .unset, .unset, .unset] [(.int dd)])) := by
        intro dd rd
        refine Run.x_istore (q := 116) X17 hx #[.val (.int p1), .val (.int p2), .val (.int p3), .val (.int p4), .val (.int mk), .val (.int k0), .val (.int k1), .val (.int k2), .val (.int k3), .val (.int (4 : Int32)), .val (.ref np17), .val (.int sel), .val (.int dd), .unset, .unset, .unset] (hb hby at_114) rfl rfl ?_
        refine Run.x_iloadN (q := 117) X17 hx (hb hby at_116) rfl rfl ?_
        refine Run.x_iconst (q := 118) X17 hx (hb hby at_117) (z := (3 : Int32)) rfl rfl ?_
        refine Run.x_iushr (q := 119) X17 hx (hb hby at_118) rfl rfl ?_
        refine Run.x_iconst (q := 120) X17 hx (hb hby at_119) (z := (3 : Int32)) rfl rfl ?_
        refine Run.x_iand (q := 121) X17 hx (hb hby at_120) rfl rfl ?_
        refine Run.x_istore (q := 123) X17 hx #[.val (.int p1), .val (.int p2), .val (.int p3), .val (.int p4), .val (.int mk), .val (.int k0), .val (.int k1), .val (.int k2), .val (.int k3), .val (.int (4 : Int32)), .val (.ref np17), .val (.int sel), .val (.int dd), .val (.int (((p4.toUInt32 >>> ((3 : Int32) &&& 31).toUInt32).toInt32) &&& (3 : Int32))), .unset, .unset] (hb hby at_121) rfl rfl ?_
        generalize hmd : (((p4.toUInt32 >>> ((3 : Int32) &&& 31).toUInt32).toInt32) &&& (3 : Int32)) = md
        have J182 : ∀ (u : Int32), (0 ≤ u.toInt ∧ u.toInt < 65536) → Run p e below s (Tru n0) room_1.cells room_1.slots (T17.setTop (mkF m 182 #[.val (.int p1), .val (.int p2), .val (.int p3), .val (.int p4), .val (.int mk), .val (.int k0), .val (.int k1), .val (.int k2), .val (.int k3), .val (.int (4 : Int32)), .val (.ref np17), .val (.int sel), .val (.int dd), .val (.int md), .val (.int u), .unset] [])) := by
          intro u hu
          refine Run.x_iconst (q := 183) X17 hx (hb hby at_182) (z := (-1 : Int32)) rfl rfl ?_
          refine Run.x_istore (q := 185) X17 hx #[.val (.int p1), .val (.int p2), .val (.int p3), .val (.int p4), .val (.int mk), .val (.int k0), .val (.int k1), .val (.int k2), .val (.int k3), .val (.int (4 : Int32)), .val (.ref np17), .val (.int sel), .val (.int dd), .val (.int md), .val (.int u), .val (.int (-1 : Int32))] (hb hby at_183) rfl rfl ?_
          refine Run.x_iload (q := 187) X17 hx (hb hby at_185) rfl rfl ?_
          refine Run.x_ifNo (q := 190) X17 hx (hb hby at_187) ((if0 _ _).trans (tlt (by decide : (0 : Int32) < (4 : Int32))).2.2.2) rfl ?_
          refine Run.x_iload (q := 192) X17 hx (hb hby at_190) rfl rfl ?_
          refine Run.x_iload (q := 194) X17 hx (hb hby at_192) rfl rfl ?_
          have JE0 : ∀ (ex1 : Int32), (ex1 = (if k0 = u then (0 : Int32) else (-1 : Int32))) → Run p e below s (Tru n0) room_1.cells room_1.slots (T17.setTop (mkF m 200 #[.val (.int p1), .val (.int p2), .val (.int p3), .val (.int p4), .val (.int mk), .val (.int k0), .val (.int k1), .val (.int k2), .val (.int k3), .val (.int (4 : Int32)), .val (.ref np17), .val (.int sel), .val (.int dd), .val (.int md), .val (.int u), .val (.int ex1)] [])) := by
            intro ex1 hex1
            refine Run.x_iload (q := 202) X17 hx (hb hby at_200) rfl rfl ?_
            refine Run.x_iconst (q := 203) X17 hx (hb hby at_202) (z := (1 : Int32)) rfl rfl ?_
            refine Run.x_icmpNo (q := 206) X17 hx (hb hby at_203) (tlt (by decide : (1 : Int32) < (4 : Int32))).2.2.2 rfl ?_
            refine Run.x_iload (q := 208) X17 hx (hb hby at_206) rfl rfl ?_
            refine Run.x_iload (q := 210) X17 hx (hb hby at_208) rfl rfl ?_
            have JE1 : ∀ (ex2 : Int32), (ex2 = (if k1 = u then (1 : Int32) else ex1)) → Run p e below s (Tru n0) room_1.cells room_1.slots (T17.setTop (mkF m 216 #[.val (.int p1), .val (.int p2), .val (.int p3), .val (.int p4), .val (.int mk), .val (.int k0), .val (.int k1), .val (.int k2), .val (.int k3), .val (.int (4 : Int32)), .val (.ref np17), .val (.int sel), .val (.int dd), .val (.int md), .val (.int u), .val (.int ex2)] [])) := by
              intro ex2 hex2
              refine Run.x_iload (q := 218) X17 hx (hb hby at_216) rfl rfl ?_
              refine Run.x_iconst (q := 219) X17 hx (hb hby at_218) (z := (2 : Int32)) rfl rfl ?_
              refine Run.x_icmpNo (q := 222) X17 hx (hb hby at_219) (tlt (by decide : (2 : Int32) < (4 : Int32))).2.2.2 rfl ?_
              refine Run.x_iload (q := 224) X17 hx (hb hby at_222) rfl rfl ?_
              refine Run.x_iload (q := 226) X17 hx (hb hby at_224) rfl rfl ?_
              have JE2 : ∀ (ex3 : Int32), (ex3 = (if k2 = u then (2 : Int32) else ex2)) → Run p e below s (Tru n0) room_1.cells room_1.slots (T17.setTop (mkF m 232 #[.val (.int p1), .val (.int p2), .val (.int p3), .val (.int p4), .val (.int mk), .val (.int k0), .val (.int k1), .val (.int k2), .val (.int k3), .val (.int (4 : Int32)), .val (.ref np17), .val (.int sel), .val (.int dd), .val (.int md), .val (.int u), .val (.int ex3)] [])) := by
                intro ex3 hex3
                refine Run.x_iload (q := 234) X17 hx (hb hby at_232) rfl rfl ?_
                refine Run.x_iconst (q := 235) X17 hx (hb hby at_234) (z := (3 : Int32)) rfl rfl ?_
                refine Run.x_icmpNo (q := 238) X17 hx (hb hby at_235) (tlt (by decide : (3 : Int32) < (4 : Int32))).2.2.2 rfl ?_
                refine Run.x_iload (q := 240) X17 hx (hb hby at_238) rfl rfl ?_
                refine Run.x_iload (q := 242) X17 hx (hb hby at_240) rfl rfl ?_
                have JE3 : ∀ (ex4 : Int32), (ex4 = (if k3 = u then (3 : Int32) else ex3)) → Run p e below s (Tru n0) room_1.cells room_1.slots (T17.setTop (mkF m 248 #[.val (.int p1), .val (.int p2), .val (.int p3), .val (.int p4), .val (.int mk), .val (.int k0), .val (.int k1), .val (.int k2), .val (.int k3), .val (.int (4 : Int32)), .val (.ref np17), .val (.int sel), .val (.int dd), .val (.int md), .val (.int u), .val (.int ex4)] [])) := by
                  intro ex4 hex4
                  obtain ⟨T18, h18, X18, e18, E18, A18, D18, -, st18⟩ := newO X17 hx hZ hown (hw _ (List.mem_of_getElem? (i := 6) rfl)) (hw _ (List.mem_of_getElem? (i := 7) rfl)) (hw _ (List.mem_of_getElem? (i := 8) rfl)) rfl (g := (mkF m 248 #[.val (.int p1), .val (.int p2), .val (.int p3), .val (.int p4), .val (.int mk), .val (.int k0), .val (.int k1), .val (.int k2), .val (.int k3), .val (.int (4 : Int32)), .val (.ref np17), .val (.int sel), .val (.int dd), .val (.int md), .val (.int u), .val (.int ex4)] [])) rfl (hb hby at_248) (by decide) (by decide)
                  obtain ⟨b18, gg18⟩ : ∃ z, z = T17.heap.size := ⟨_, rfl⟩
                  rw [← gg18] at A18 D18 st18
                  have g_b18 : n0 ≤ b18 := Nat.le_trans Z17 (Nat.le_of_eq gg18.symm)
                  replace A_ab := A_ab.keep K17 nin0
                  have ne_ab_b18 : ab ≠ b18 := Nat.ne_of_lt (Nat.lt_of_lt_of_le A_ab.lt (Nat.le_of_eq gg18.symm))
                  have ne_np17_b18 : np17 ≠ b18 := Nat.ne_of_lt (Nat.lt_of_lt_of_le An17.lt (Nat.le_of_eq gg18.symm))
                  have Z18 : n0 ≤ h18.size := Nat.le_trans Z17 E18.1
                  have E_b18 := A18
                  have F_b18_pages : Fld Z h18 b18 "needlewise/boyermoore/Rightmost" "pages" "[[I" .null := D18 (Or.inr (hw _ (List.mem_of_getElem? (i := 18) rfl))) (ty := (.array (.array .int))) (by decide)
                  have F_b18_low : Fld Z h18 b18 "needlewise/boyermoore/Rightmost" "low" "[I" .null := D18 (Or.inr (hw _ (List.mem_of_getElem? (i := 34) rfl))) (ty := (.array .int)) (by decide)
                  have F_b18_filter : Fld Z h18 b18 "needlewise/boyermoore/Rightmost" "filter" "J" (.long (0 : Int64)) := D18 (Or.inr (hw _ (List.mem_of_getElem? (i := 36) rfl))) (ty := .long) (by decide)
                  refine Run.st st18 ?_
                  show Run p e below s _ _ _ (T18.setTop (mkF m 251 #[.val (.int p1), .val (.int p2), .val (.int p3), .val (.int p4), .val (.int mk), .val (.int k0), .val (.int k1), .val (.int k2), .val (.int k3), .val (.int (4 : Int32)), .val (.ref np17), .val (.int sel), .val (.int dd), .val (.int md), .val (.int u), .val (.int ex4)] [(.ref b18)]))
                  refine Run.x_dup (q := 252) X18 hx (hb hby at_251) rfl rfl ?_
                  refine Run.x_aload (q := 254) X18 hx (hb hby at_252) rfl rfl rfl ?_
                  replace An17 := An17.ext E18
                  replace S_ABSENT := S_ABSENT.ext E18
                  replace A_ab := A_ab.ext E18
                  replace E_ab := (E_ab.keep K17).ext E18
                  refine Run.callC X18 hx hZ e18 (y := (⟨"needlewise/boyermoore/Rightmost", "<init>", "([C)V"⟩ : MethodName)) hown rfl (hw _ (List.mem_of_getElem? (i := 9) rfl)) (hw _ (List.mem_of_getElem? (i := 10) rfl)) (hw _ (List.mem_of_getElem? (i := 8) rfl)) (hw _ (List.mem_of_getElem? (i := 11) rfl)) (by decide) (a := b18) (argsL := [(.ref np17)]) (rest := [(.ref b18)]) (c_init4 l Z a0 hw b18 np17 h18 n0 Z18 ab k0 k1 k2 k3 E_b18 F_b18_pages F_b18_low F_b18_filter An17 S_ABSENT A_ab E_ab g_b18 (Ne.symm ne_np17_b18) (Ne.symm ne_ab_b18) (Ne.symm ne_ab_np17) r0 r1 r2 r3) pd_4 rfl (by rw [hml]; rfl) (W := 1) rfl (by decide) (by decide) (by decide) (by decide) (hb hby at_254) rfl ?_
                  intro T19 v19 L19 X19 q19
                  obtain ⟨pa19, pg19, rfl, M19, PG19, Fp19, Fl19, Ff19, E19⟩ := q19
                  have N19 := Fr.app N17 M19
                  show Run p e below s _ _ _ (T19.setTop (mkF m 257 #[.val (.int p1), .val (.int p2), .val (.int p3), .val (.int p4), .val (.int mk), .val (.int k0), .val (.int k1), .val (.int k2), .val (.int k3), .val (.int (4 : Int32)), .val (.ref np17), .val (.int sel), .val (.int dd), .val (.int md), .val (.int u), .val (.int ex4)] [(.ref b18)]))
                  have Z19 : n0 ≤ T19.heap.size := Nat.le_trans g_b18 (Nat.le_of_lt E19.lt)
                  refine Run.x_iload (q := 259) X19 hx (hb hby at_257) rfl rfl ?_
                  refine Run.callV X19 hx hZ rfl (y := (⟨"needlewise/boyermoore/Rightmost", "of", "(C)I"⟩ : MethodName)) (z := (⟨"needlewise/boyermoore/Rightmost", "of", "(C)I"⟩ : MethodName)) hown (hw _ (List.mem_of_getElem? (i := 37) rfl)) (hw _ (List.mem_of_getElem? (i := 38) rfl)) (notFace_of_selects (args := #[]) (mvT hZ (hw _ (List.mem_of_getElem? (i := 40) rfl)))) (hw _ (List.mem_of_getElem? (i := 40) rfl)) (hw _ (List.mem_of_getElem? (i := 39) rfl)) (hw _ (List.mem_of_getElem? (i := 8) rfl)) (hw _ (List.mem_of_getElem? (i := 41) rfl)) (by decide) (a := b18) E19 (argsL := [(.int u)]) (rest := []) (c_of l Z a0 hw b18 u T19.heap n0 Z19 ab pa19 pg19 (own_go (fun _ => -1) 0 [k0, k1, k2, k3]) (own_bt 0 [k0, k1, k2, k3]) E19 Fp19 Fl19 Ff19 PG19 hu) pd_5 rfl (by rw [hml]; rfl) (W := 0) rfl (by decide) (by decide) (by decide) (by decide) (hb hby at_259) rfl ?_
                  intro T20 v20 L20 X20 q20
                  obtain ⟨rfl, M20, e20⟩ := q20
                  have N20 := Fr.app N19 M20
                  show Run p e below s _ _ _ (T20.setTop (mkF m 262 #[.val (.int p1), .val (.int p2), .val (.int p3), .val (.int p4), .val (.int mk), .val (.int k0), .val (.int k1), .val (.int k2), .val (.int k3), .val (.int (4 : Int32)), .val (.ref np17), .val (.int sel), .val (.int dd), .val (.int md), .val (.int u), .val (.int ex4)] [(.int (own_of (own_go (fun _ => -1) 0 [k0, k1, k2, k3]) (own_bt 0 [k0, k1, k2, k3]) u))]))
                  refine Run.x_iload (q := 264) X20 hx (hb hby at_262) rfl rfl ?_
                  refine Run.x_icmpNo (q := 267) X20 hx (hb hby at_264) (teq ((own_fin hu.1 [k0, k1, k2, k3] (List.forall_mem_cons.mpr ⟨r0.1, (List.forall_mem_cons.mpr ⟨r1.1, (List.forall_mem_cons.mpr ⟨r2.1, (List.forall_mem_cons.mpr ⟨r3.1, (fun _ h => nomatch h)⟩)⟩)⟩)⟩)).trans (by rw [hex4, hex3, hex2, hex1]; rfl))).2 rfl ?_
                  refine Run.x_iconst (q := 268) X20 hx (hb hby at_267) (z := (1 : Int32)) rfl rfl ?_
                  refine Run.x_goto (q := 272) X20 hx (hb hby at_268) (by decide) (by decide) ?_
                  refine Run.retN X20 hx hlk e20 (t := .boolean) hret (by simp) (z' := (1 : Int32)) (by decide) (hb hby at_272) (by decide) (by decide) ?_
                  exact ⟨rfl, N20⟩
                by_cases hc242 : k3 = u
                · skip
                  refine Run.x_icmpNo (q := 245) X17 hx (hb hby at_242) (teq hc242).2 rfl ?_
                  refine Run.x_iconst (q := 246) X17 hx (hb hby at_245) (z := (3 : Int32)) rfl rfl ?_
                  refine Run.x_istore (q := 248) X17 hx #[.val (.int p1), .val (.int p2), .val (.int p3), .val (.int p4), .val (.int mk), .val (.int k0), .val (.int k1), .val (.int k2), .val (.int k3), .val (.int (4 : Int32)), .val (.ref np17), .val (.int sel), .val (.int dd), .val (.int md), .val (.int u), .val (.int (3 : Int32))] (hb hby at_246) rfl rfl ?_
                  exact JE3 _ (if_pos hc242).symm
                · skip
                  refine Run.x_icmpYes (q := 248) X17 hx (hb hby at_242) (feq hc242).2 (by decide) (by decide) ?_
                  exact JE3 _ (if_neg hc242).symm
              by_cases hc226 : k2 = u
              · skip
                refine Run.x_icmpNo (q := 229) X17 hx (hb hby at_226) (teq hc226).2 rfl ?_
                refine Run.x_iconst (q := 230) X17 hx (hb hby at_229) (z := (2 : Int32)) rfl rfl ?_
                refine Run.x_istore (q := 232) X17 hx #[.val (.int p1), .val (.int p2), .val (.int p3), .val (.int p4), .val (.int mk), .val (.int k0), .val (.int k1), .val (.int k2), .val (.int k3), .val (.int (4 : Int32)), .val (.ref np17), .val (.int sel), .val (.int dd), .val (.int md), .val (.int u), .val (.int (2 : Int32))] (hb hby at_230) rfl rfl ?_
                exact JE2 _ (if_pos hc226).symm
              · skip
                refine Run.x_icmpYes (q := 232) X17 hx (hb hby at_226) (feq hc226).2 (by decide) (by decide) ?_
                exact JE2 _ (if_neg hc226).symm
            by_cases hc210 : k1 = u
            · skip
              refine Run.x_icmpNo (q := 213) X17 hx (hb hby at_210) (teq hc210).2 rfl ?_
              refine Run.x_iconst (q := 214) X17 hx (hb hby at_213) (z := (1 : Int32)) rfl rfl ?_
              refine Run.x_istore (q := 216) X17 hx #[.val (.int p1), .val (.int p2), .val (.int p3), .val (.int p4), .val (.int mk), .val (.int k0), .val (.int k1), .val (.int k2), .val (.int k3), .val (.int (4 : Int32)), .val (.ref np17), .val (.int sel), .val (.int dd), .val (.int md), .val (.int u), .val (.int (1 : Int32))] (hb hby at_214) rfl rfl ?_
              exact JE1 _ (if_pos hc210).symm
            · skip
              refine Run.x_icmpYes (q := 216) X17 hx (hb hby at_210) (feq hc210).2 (by decide) (by decide) ?_
              exact JE1 _ (if_neg hc210).symm
          by_cases hc194 : k0 = u
          · skip
            refine Run.x_icmpNo (q := 197) X17 hx (hb hby at_194) (teq hc194).2 rfl ?_
            refine Run.x_iconst (q := 198) X17 hx (hb hby at_197) (z := (0 : Int32)) rfl rfl ?_
            refine Run.x_istore (q := 200) X17 hx #[.val (.int p1), .val (.int p2), .val (.int p3), .val (.int p4), .val (.int mk), .val (.int k0), .val (.int k1), .val (.int k2), .val (.int k3), .val (.int (4 : Int32)), .val (.ref np17), .val (.int sel), .val (.int dd), .val (.int md), .val (.int u), .val (.int (0 : Int32))] (hb hby at_198) rfl rfl ?_
            exact JE0 _ (if_pos hc194).symm
          · skip
            refine Run.x_icmpYes (q := 200) X17 hx (hb hby at_194) (feq hc194).2 (by decide) (by decide) ?_
            exact JE0 _ (if_neg hc194).symm
        refine Run.x_iload (q := 125) X17 hx (hb hby at_123) rfl rfl ?_
        by_cases hc125 : md = (0 : Int32)
        · skip
          refine Run.x_ifNo (q := 128) X17 hx (hb hby at_125) ((if0 _ _).trans (teq hc125).2) rfl ?_
          refine Run.x_iloadN (q := 129) X17 hx (hb hby at_128) rfl rfl ?_
          refine Run.x_i2c (q := 130) X17 hx (hb hby at_129) rfl rfl ?_
          refine Run.x_istore (q := 132) X17 hx #[.val (.int p1), .val (.int p2), .val (.int p3), .val (.int p4), .val (.int mk), .val (.int k0), .val (.int k1), .val (.int k2), .val (.int k3), .val (.int (4 : Int32)), .val (.ref np17), .val (.int sel), .val (.int dd), .val (.int md), .val (.int p3.toUInt32.toUInt16.toUInt32.toInt32), .unset] (hb hby at_130) rfl rfl ?_
          refine Run.x_goto (q := 182) X17 hx (hb hby at_132) (by decide) (by decide) ?_
          exact J182 _ (own_rg rfl)
        · skip
          refine Run.x_ifYes (q := 135) X17 hx (hb hby at_125) ((if0 _ _).trans (feq hc125).2) (by decide) (by decide) ?_
          refine Run.x_iload (q := 137) X17 hx (hb hby at_135) rfl rfl ?_
          refine Run.x_iconst (q := 138) X17 hx (hb hby at_137) (z := (1 : Int32)) rfl rfl ?_
          by_cases hc138 : md = (1 : Int32)
          · skip
            refine Run.x_icmpNo (q := 141) X17 hx (hb hby at_138) (teq hc138).2 rfl ?_
            refine Run.x_iload (q := 143) X17 hx (hb hby at_141) rfl rfl ?_
            refine Run.x_istore (q := 145) X17 hx #[.val (.int p1), .val (.int p2), .val (.int p3), .val (.int p4), .val (.int mk), .val (.int k0), .val (.int k1), .val (.int k2), .val (.int k3), .val (.int (4 : Int32)), .val (.ref np17), .val (.int sel), .val (.int dd), .val (.int md), .val (.int dd), .unset] (hb hby at_143) rfl rfl ?_
            refine Run.x_goto (q := 182) X17 hx (hb hby at_145) (by decide) (by decide) ?_
            exact J182 _ rd
          · skip
            refine Run.x_icmpYes (q := 148) X17 hx (hb hby at_138) (feq hc138).2 (by decide) (by decide) ?_
            refine Run.x_iload (q := 150) X17 hx (hb hby at_148) rfl rfl ?_
            refine Run.x_iconst (q := 151) X17 hx (hb hby at_150) (z := (2 : Int32)) rfl rfl ?_
            by_cases hc151 : md = (2 : Int32)
            · skip
              refine Run.x_icmpNo (q := 154) X17 hx (hb hby at_151) (teq hc151).2 rfl ?_
              refine Run.x_iload (q := 156) X17 hx (hb hby at_154) rfl rfl ?_
              refine Run.x_iloadN (q := 157) X17 hx (hb hby at_156) rfl rfl ?_
              refine Run.x_iconst (q := 158) X17 hx (hb hby at_157) (z := (2 : Int32)) rfl rfl ?_
              refine Run.x_iushr (q := 159) X17 hx (hb hby at_158) rfl rfl ?_
              refine Run.st (B := T17.setTop (mkF m 161 #[.val (.int p1), .val (.int p2), .val (.int p3), .val (.int p4), .val (.int mk), .val (.int k0), .val (.int k1), .val (.int k2), .val (.int k3), .val (.int (4 : Int32)), .val (.ref np17), .val (.int sel), .val (.int dd), .val (.int md), .unset, .unset] [(.int (65472 : Int32)), (.int ((p3.toUInt32 >>> ((2 : Int32) &&& 31).toUInt32).toInt32)), (.int dd)])) (fun t kt => X17.ldcInt hx hown (mvT hZ (hw _ (List.mem_of_getElem? (i := 42) rfl))) (g := (mkF m 159 #[.val (.int p1), .val (.int p2), .val (.int p3), .val (.int p4), .val (.int mk), .val (.int k0), .val (.int k1), .val (.int k2), .val (.int k3), .val (.int (4 : Int32)), .val (.ref np17), .val (.int sel), .val (.int dd), .val (.int md), .unset, .unset] [(.int ((p3.toUInt32 >>> ((2 : Int32) &&& 31).toUInt32).toInt32)), (.int dd)])) rfl (hb hby at_159) _ kt) ?_
              refine Run.x_iand (q := 162) X17 hx (hb hby at_161) rfl rfl ?_
              refine Run.x_ixor (q := 163) X17 hx (hb hby at_162) rfl rfl ?_
              refine Run.x_i2c (q := 164) X17 hx (hb hby at_163) rfl rfl ?_
              refine Run.x_istore (q := 166) X17 hx #[.val (.int p1), .val (.int p2), .val (.int p3), .val (.int p4), .val (.int mk), .val (.int k0), .val (.int k1), .val (.int k2), .val (.int k3), .val (.int (4 : Int32)), .val (.ref np17), .val (.int sel), .val (.int dd), .val (.int md), .val (.int (dd ^^^ (((p3.toUInt32 >>> ((2 : Int32) &&& 31).toUInt32).toInt32) &&& (65472 : Int32))).toUInt32.toUInt16.toUInt32.toInt32), .unset] (hb hby at_164) rfl rfl ?_
              refine Run.x_goto (q := 182) X17 hx (hb hby at_166) (by decide) (by decide) ?_
              exact J182 _ (own_rg rfl)
            · skip
              refine Run.x_icmpYes (q := 169) X17 hx (hb hby at_151) (feq hc151).2 (by decide) (by decide) ?_
              refine Run.x_iload (q := 171) X17 hx (hb hby at_169) rfl rfl ?_
              refine Run.x_iloadN (q := 172) X17 hx (hb hby at_171) rfl rfl ?_
              refine Run.x_iconst (q := 173) X17 hx (hb hby at_172) (z := (2 : Int32)) rfl rfl ?_
              refine Run.x_iushr (q := 174) X17 hx (hb hby at_173) rfl rfl ?_
              refine Run.x_sipush (q := 177) X17 hx (hb hby at_174) (z := (255 : Int32)) rfl rfl ?_
              refine Run.x_iand (q := 178) X17 hx (hb hby at_177) rfl rfl ?_
              refine Run.x_ixor (q := 179) X17 hx (hb hby at_178) rfl rfl ?_
              refine Run.x_i2c (q := 180) X17 hx (hb hby at_179) rfl rfl ?_
              refine Run.x_istore (q := 182) X17 hx #[.val (.int p1), .val (.int p2), .val (.int p3), .val (.int p4), .val (.int mk), .val (.int k0), .val (.int k1), .val (.int k2), .val (.int k3), .val (.int (4 : Int32)), .val (.ref np17), .val (.int sel), .val (.int dd), .val (.int md), .val (.int (dd ^^^ (((p3.toUInt32 >>> ((2 : Int32) &&& 31).toUInt32).toInt32) &&& (255 : Int32))).toUInt32.toUInt16.toUInt32.toInt32), .unset] (hb hby at_180) rfl rfl ?_
              exact J182 _ (own_rg rfl)
      refine Run.x_iload (q := 82) X17 hx (hb hby at_80) rfl rfl ?_
      by_cases hc82 : sel = (0 : Int32)
      · skip
        refine Run.x_ifNo (q := 85) X17 hx (hb hby at_82) ((if0 _ _).trans (teq hc82).2) rfl ?_
        refine Run.x_iload (q := 87) X17 hx (hb hby at_85) rfl rfl ?_
        refine Run.x_goto (q := 114) X17 hx (hb hby at_87) (by decide) (by decide) ?_
        exact J114 _ r0
      · skip
        refine Run.x_ifYes (q := 90) X17 hx (hb hby at_82) ((if0 _ _).trans (feq hc82).2) (by decide) (by decide) ?_
        refine Run.x_iload (q := 92) X17 hx (hb hby at_90) rfl rfl ?_
        refine Run.x_iconst (q := 93) X17 hx (hb hby at_92) (z := (1 : Int32)) rfl rfl ?_
        by_cases hc93 : sel = (1 : Int32)
        · skip
          refine Run.x_icmpNo (q := 96) X17 hx (hb hby at_93) (teq hc93).2 rfl ?_
          refine Run.x_iload (q := 98) X17 hx (hb hby at_96) rfl rfl ?_
          refine Run.x_goto (q := 114) X17 hx (hb hby at_98) (by decide) (by decide) ?_
          exact J114 _ r1
        · skip
          refine Run.x_icmpYes (q := 101) X17 hx (hb hby at_93) (feq hc93).2 (by decide) (by decide) ?_
          refine Run.x_iload (q := 103) X17 hx (hb hby at_101) rfl rfl ?_
          refine Run.x_iconst (q := 104) X17 hx (hb hby at_103) (z := (2 : Int32)) rfl rfl ?_
          by_cases hc104 : sel = (2 : Int32)
          · skip
            refine Run.x_icmpNo (q := 107) X17 hx (hb hby at_104) (teq hc104).2 rfl ?_
            refine Run.x_iload (q := 109) X17 hx (hb hby at_107) rfl rfl ?_
            refine Run.x_goto (q := 114) X17 hx (hb hby at_109) (by decide) (by decide) ?_
            exact J114 _ r2
          · skip
            refine Run.x_icmpYes (q := 112) X17 hx (hb hby at_104) (feq hc104).2 (by decide) (by decide) ?_
            refine Run.x_iload (q := 114) X17 hx (hb hby at_112) rfl rfl ?_
            exact J114 _ r3
  refine Run.x_iloadN (q := 1) X0 hx (hb hby at_0) rfl rfl ?_
  refine Run.x_iconst (q := 2) X0 hx (hb hby at_1) (z := (5 : Int32)) rfl rfl ?_
  refine Run.x_iushr (q := 3) X0 hx (hb hby at_2) rfl rfl ?_
  refine Run.x_iconst (q := 4) X0 hx (hb hby at_3) (z := (1 : Int32)) rfl rfl ?_
  refine Run.x_iand (q := 5) X0 hx (hb hby at_4) rfl rfl ?_
  by_cases hc5 : (((p4.toUInt32 >>> ((5 : Int32) &&& 31).toUInt32).toInt32) &&& (1 : Int32)) = (0 : Int32)
  · skip
    refine Run.x_ifYes (q := 14) X0 hx (hb hby at_5) ((if0 _ _).trans (teq hc5).1) (by decide) (by decide) ?_
    refine Run.st (B := T0.setTop (mkF m 16 #[.val (.int p1), .val (.int p2), .val (.int p3), .val (.int p4), .unset, .unset, .unset, .unset, .unset, .unset, .unset, .unset, .unset, .unset, .unset, .unset] [(.int (65535 : Int32))])) (fun t kt => X0.ldcInt hx hown (mvT hZ (hw _ (List.mem_of_getElem? (i := 0) rfl))) (g := (mkF m 14 #[.val (.int p1), .val (.int p2), .val (.int p3), .val (.int p4), .unset, .unset, .unset, .unset, .unset, .unset, .unset, .unset, .unset, .unset, .unset, .unset] [])) rfl (hb hby at_14) _ kt) ?_
    exact J16 _
  · skip
    refine Run.x_ifNo (q := 8) X0 hx (hb hby at_5) ((if0 _ _).trans (feq hc5).1) rfl ?_
    refine Run.x_sipush (q := 11) X0 hx (hb hby at_8) (z := (511 : Int32)) rfl rfl ?_
    refine Run.x_goto (q := 16) X0 hx (hb hby at_11) (by decide) (by decide) ?_
    exact J16 _
theorem own_abs {Z : State} {args : Array Value} {t : Term} {a : Addr} (ev : t.eval args Z none [] Z = some (.ref a)) (e : ∀ i, t.eval args Z none [i] Z = some (.ref a)) (ha : (Cond.arrayOf t .int).value args Z none Z [] = some true) (hl : (Cond.eq (Term.length t) (Term.int 256)).value args Z none Z [] = some true) (hall : (Cond.all t (Cond.eq (Term.elem t (Term.index 0)) (Term.int (-1)))).value args Z none Z [] = some true) : ∃ c, Arr Z Z.heap a c .int ∧ c.slots.toList = List.replicate 256 (.int (-1)) := by
  obtain ⟨c, A⟩ := Arr.start ev ha
  have hA := Arr.fin (U := Z) (State.Warmed39.refl Z).alike A
  have q := Cond.all_elim ev hA hall
  refine ⟨c, A, ?_⟩
  have hs : c.slots.size = 256 := by
    by_cases h : c.slots.size < 2147483648
    · simp [Cond.value, Term.eval, ev, hA, h] at hl
      have := congrArg Int32.toInt hl
      rw [show c.slots.size.toInt32.toInt = (c.slots.size : Int) from Int32.toInt_ofNat_of_lt h] at this
      have e : (256 : Int32).toInt = 256 := by decide
      omega
    · simp [Cond.value, Term.eval, ev, hA, h] at hl
  apply List.ext_getElem?
  intro i
  by_cases hi : i < 256
  · have q := q i (by omega)
    have h1 : i.toInt32.toInt = (i : Int) := Int32.toInt_ofNat_of_lt (by omega)
    have h2 : ¬ i.toInt32 < 0 := fun z => by
      have := Int32.lt_iff_toInt_lt.mp z
      rw [h1] at this
      have e : (0 : Int32).toInt = 0 := by decide
      omega
    have h3 : i.toInt32.toNatClampNeg = i := by show i.toInt32.toInt.toNat = i; rw [h1]; rfl
    have h4 : c.slots[i]? = some c.slots[i] := Array.getElem?_eq_getElem (by omega)
    have e5 : (Term.elem t (Term.index 0)).eval args Z none [i] Z = some c.slots[i] := by
      have h6 : (i.toInt32 < 0) = False := eq_false h2
      simp only [Term.eval, e]
      simp [h6, hA, h3, h4]
    rw [List.getElem?_replicate, if_pos hi, Array.getElem?_toList, h4]
    simp only [Cond.value, e5, Term.int_eval] at q
    generalize c.slots[i] = x at q
    clear e5 h4
    cases x <;> simp at q
    rw [q]
  · rw [List.getElem?_eq_none (by rw [Array.length_toList]; omega), List.getElem?_eq_none (by rw [List.length_replicate]; omega)]
set_option maxRecDepth 65536 in
set_option maxHeartbeats 40000000 in
theorem comes_1 {Post : Tables → Env → Array Value → State → Outcome → State → Prop} (hpost : ∀ tb e args s v u, (limb_1_1.after args s (.returned v) u = true ∧ limb_1_2.after args s (.returned v) u = true ∧ True) → FrameEnd s (.returned v) u (Jvm.fieldLocs frame_1_writes args s ++ Jvm.arrayLocs frame_1_arrays args s ++ Jvm.staticLocs frame_1_statics s) 24 2688 → Post tb e args s (.returned v) u) :
    ArmFor flags0 classFile x code maxLocals ret World_1 tables_1 room_1 Calls_1 rest_1 Pre_1 Post := by
  intro l hfl _ _ p e ha hc hk s m args below hf hA hF happ hP
  obtain ⟨hcalls, hrest, hpre⟩ := hP
  obtain ⟨-, -, -, hnamed, -, -, -, hat⟩ := (Spec.applies_iff hf).mp happ
  obtain ⟨hg, hn⟩ := and_e (Cond.before_iff.mp (show (Jvm.Cond.and given_1 narrow_1).before args s = true from hpre))
  obtain ⟨g1, g2⟩ := and_e hg
  obtain ⟨g3, g4⟩ := and_e g2
  obtain ⟨g5, g6⟩ := and_e g4
  obtain ⟨g7, g8⟩ := and_e g6
  obtain ⟨w0, w1, w2, w3, rfl⟩ : ∃ w0 w1 w2 w3 : Value, args = #[w0, w1, w2, w3] := by
    have hs : args.size = 4 := by simpa [Cond.value, given_1] using g1
    obtain ⟨L⟩ := args
    match L, hs with
    | [w0, w1, w2, w3], _ => exact ⟨w0, w1, w2, w3, rfl⟩
  have hw := fun d (hd : d ∈ tables_1) => atoms_spec (ws := Jvm.Cond.code x code maxLocals ret :: tables_1) hat d (List.mem_cons_of_mem _ hd)
  have hfit : Fit s := fun {y c} hc i hi => by
    obtain ⟨ha, rfl⟩ := Array.getElem?_eq_some_iff.mp hc
    have q := List.all_eq_true.mp ((Array.all_eq_true_iff_forall_mem.mp hF) _ (Array.getElem_mem ha)) i (List.mem_range.mpr hi)
    simpa [Array.getElem?_eq_getElem hi] using q
  obtain ⟨i0, ei0⟩ := is_v g3
  obtain rfl : w0 = (.int i0) := Option.some.inj ei0
  obtain ⟨i1, ei1⟩ := is_v g5
  obtain rfl : w1 = (.int i1) := Option.some.inj ei1
  obtain ⟨i2, ei2⟩ := is_v g7
  obtain rfl : w2 = (.int i2) := Option.some.inj ei2
  obtain ⟨i3, ei3⟩ := is_v g8
  obtain rfl : w3 = (.int i3) := Option.some.inj ei3
  obtain ⟨n1, n2⟩ := and_e hn
  obtain ⟨n3, n4⟩ := and_e n2
  obtain ⟨n5, n6⟩ := and_e n4
  obtain ⟨ab, eab⟩ := exa_v n3
  have Sab := Sta.start eab (Or.inr ⟨(hw _ (List.mem_of_getElem? (i := 8) rfl)), (hw _ (List.mem_of_getElem? (i := 20) rfl))⟩)
  have Eab := Exa.start eab n3
  have Aab : Ars s s.heap ab .int (List.replicate 256 (.int (-1))) := own_abs eab (fun _ => by rw [← eab]; simp only [Term.eval]) n1 n5 n6
  obtain ⟨n, o, h1, h2, h3, _, L, rfl, ⟨rfl, N⟩, hq⟩ := c_law l s _ hw i0 i1 i2 i3 s.heap s.heap.size (Nat.le_refl _) ab Sab Aab Eab tables_1 p e ha hc hk s m _ below hf ((Spec.applies_iff_loose hf).mp happ).1 ⟨rfl, State.Warmed39.refl s, rfl⟩ trivial
  refine ⟨n, _, h1, h2, h3, hpost _ _ _ _ _ _ ⟨Cond.after_iff.mpr rfl, Cond.after_iff.mpr (eq_i res_at (Term.int_eval (1)) rfl), trivial⟩ ⟨hq.1, hq.2.1, (hq.2.2.sift fun y hy => Or.inr (N y hy)).mono (by decide) (by decide)⟩⟩
theorem main_1_1 : Claimed_1_1 := comes_1 fun _ _ _ _ _ _ h hF => ⟨h.1, hF⟩
theorem main_1_2 : Claimed_1_2 := comes_1 fun _ _ _ _ _ _ h hF => ⟨h.2.1, hF⟩
end Jvm.Pilot.@@N@@
namespace Jvm.Pilot.@@N@@
open Jvm Jvm.ClassFile Sem Op Lib Jvm.Free Jvm.Stand Jvm.Pilot.@@N@@.Jvm.D
/-! MADE BY PROGRAM (witnessworld.py) out of the Statement's table words and the real class files: 12 classes; the members and pool entries that the words name. The judged class is class 1, her method 2. -/
namespace start1
open Jvm.ClassFile
def u (s : String) : CpInfo := .utf8 (stringToUtf16 s)
/-- a pool by its gaps: so many unusable entries, then the entry; so many at the end -/
def gap : Nat → List CpInfo → List CpInfo
  | 0, r => r
  | n + 1, r => .unusable :: gap n r
def poolList (es : List (Nat × CpInfo)) (last : Nat) : List CpInfo := es.foldr (fun e r => gap e.1 (e.2 :: r)) (gap last [])
def pool (es : List (Nat × CpInfo)) (last : Nat) : Array CpInfo := ⟨poolList es last⟩
def fileOf (pool : Array CpInfo) (this : Nat) (attrs : Array Attribute := #[]) (ms : Array MethodInfo := #[]) (fl : Nat := 33) (sup : Nat := 0) (ifs : Array Nat := #[]) (fds : Array FieldInfo := #[]) : ClassFile where
  minorVersion := 0
  majorVersion := 65
  constantPool := pool
  accessFlags := fl
  thisClass := this
  superClass := sup
  interfaces := ifs
  fields := fds
  methods := ms
  attributes := attrs
def plain (name : String) (sup : Option ClassId) : Class where
  name := name
  kind := .ordinary
  loader := none
  accessFlags := 33
  super := sup
  interfaces := #[]
  cf := none
  fields := #[]
  methods := #[]
  instanceTypes := #[]
  staticTypes := #[]
  resolved := #[]
  callSites := []
  init := .initialized
  statics := none
  mirror := none

def pool0 : Array CpInfo := pool [(5, u "<init>"), (0, u "()V"), (1, .class_ 10), (1, u "java/lang/Object")] 113

def k0c0 : Code := { maxStack := 0, maxLocals := 1, code := object_method_1_code, exceptionTable := #[], attributes := #[] }
def k0m0 : Method := { name := "<init>", desc := "()V", sig := { parameters := [], returnType := none }, accessFlags := 1, code := some k0c0 }
/-- java/lang/Object -/
def k0 : Class := { plain "java/lang/Object" none with
  accessFlags := 33
  interfaces := #[]
  cf := some (fileOf pool0 8 #[] #[{ accessFlags := 1, nameIndex := 5, descriptorIndex := 6, attributes := #[] }] 33 0 #[] #[])
  fields := #[]
  methods := #[k0m0]
  instanceTypes := #[]
  staticTypes := #[]
  resolved := Array.replicate 124 none
  statics := none }

def pool1 : Array CpInfo := pool [(2, .class_ 4), (1, u "java/lang/Object"), (0, u "<init>"), (0, u "()V"), (0, .integer 65535), (0, .methodref 9 10), (0, .class_ 11), (0, .nameAndType 12 13), (0, u "needlewise/boyermoore/RightmostOfPinLawPinLaw"), (0, u "pattern"), (0, u "(ICCCC)[C"), (0, .integer 65472), (0, .class_ 16), (0, u "needlewise/boyermoore/Rightmost"), (0, .methodref 15 18), (0, .nameAndType 5 19), (0, u "([C)V"), (0, .methodref 15 21), (0, .nameAndType 22 23), (0, u "of"), (0, u "(C)I"), (3, u "law"), (0, u "(IIII)Z")] 4

def k1m0 : Method := { name := "<init>", desc := "()V", sig := { parameters := [], returnType := none }, accessFlags := 1, code := none }
def k1c1 : Code := { maxStack := 4, maxLocals := 5, code := method_2_code, exceptionTable := #[], attributes := #[] }
def k1m1 : Method := { name := "pattern", desc := "(ICCCC)[C", sig := { parameters := [.int, .char, .char, .char, .char], returnType := some (.array .char) }, accessFlags := 10, code := some k1c1 }
def k1c2 : Code := { maxStack := 5, maxLocals := 16, code := code, exceptionTable := #[], attributes := #[] }
def k1m2 : Method := { name := "law", desc := "(IIII)Z", sig := { parameters := [.int, .int, .int, .int], returnType := some .boolean }, accessFlags := 9, code := some k1c2 }
/-- needlewise/boyermoore/RightmostOfPinLawPinLaw -/
def k1 : Class := { plain "needlewise/boyermoore/RightmostOfPinLawPinLaw" (some 0) with
  accessFlags := 49
  interfaces := #[]
  cf := some (fileOf pool1 9 #[] #[{ accessFlags := 1, nameIndex := 5, descriptorIndex := 6, attributes := #[] }, { accessFlags := 10, nameIndex := 12, descriptorIndex := 13, attributes := #[] }, { accessFlags := 9, nameIndex := 27, descriptorIndex := 28, attributes := #[] }] 49 2 #[] #[])
  fields := #[]
  methods := #[k1m0, k1m1, k1m2]
  instanceTypes := #[]
  staticTypes := #[]
  resolved := Array.replicate 33 none
  statics := none }

def pool2 : Array CpInfo := pool [(1, .methodref 2 3), (0, .class_ 4), (0, .nameAndType 5 6), (0, u "java/lang/Object"), (0, u "<init>"), (0, u "()V"), (0, .class_ 8), (0, u "needlewise/boyermoore/Rightmost"), (0, .class_ 10), (0, u "[I"), (0, .fieldref 7 12), (0, .nameAndType 13 14), (0, u "pages"), (0, u "[[I"), (0, .fieldref 7 16), (0, .nameAndType 17 10), (0, u "ABSENT"), (0, .methodref 19 20), (0, .class_ 21), (0, .nameAndType 22 23), (0, u "java/util/Arrays"), (0, u "fill"), (0, u "([Ljava/lang/Object;Ljava/lang/Object;)V"), (0, .methodref 7 25), (0, .nameAndType 26 27), (0, u "newPage"), (0, u "()[I"), (0, .fieldref 7 29), (0, .nameAndType 30 10), (0, u "low"), (0, .fieldref 7 32), (0, .nameAndType 33 34), (0, u "filter"), (0, u "J"), (0, .methodref 19 36), (0, .nameAndType 22 37), (0, u "([II)V"), (0, u "PAGE"), (0, u "I"), (2, u "([C)V"), (5, u "of"), (0, u "(C)I")] 3

def k2c0 : Code := { maxStack := 5, maxLocals := 7, code := prog_13_method_1_code, exceptionTable := #[], attributes := #[] }
def k2m0 : Method := { name := "<init>", desc := "([C)V", sig := { parameters := [(.array .char)], returnType := none }, accessFlags := 0, code := some k2c0 }
def k2c1 : Code := { maxStack := 4, maxLocals := 2, code := prog_13_method_2_code, exceptionTable := #[], attributes := #[] }
def k2m1 : Method := { name := "of", desc := "(C)I", sig := { parameters := [.char], returnType := some .int }, accessFlags := 0, code := some k2c1 }
def k2c2 : Code := { maxStack := 2, maxLocals := 1, code := prog_13_method_3_code, exceptionTable := #[], attributes := #[] }
def k2m2 : Method := { name := "newPage", desc := "()[I", sig := { parameters := [], returnType := some (.array .int) }, accessFlags := 10, code := some k2c2 }
/-- needlewise/boyermoore/Rightmost -/
def k2 : Class := { plain "needlewise/boyermoore/Rightmost" (some 0) with
  accessFlags := 48
  interfaces := #[]
  cf := some (fileOf pool2 7 #[] #[{ accessFlags := 0, nameIndex := 5, descriptorIndex := 42, attributes := #[] }, { accessFlags := 0, nameIndex := 48, descriptorIndex := 49, attributes := #[] }, { accessFlags := 10, nameIndex := 26, descriptorIndex := 27, attributes := #[] }] 48 2 #[] #[{ accessFlags := 26, nameIndex := 38, descriptorIndex := 39, attributes := #[] }, { accessFlags := 26, nameIndex := 17, descriptorIndex := 10, attributes := #[] }, { accessFlags := 18, nameIndex := 13, descriptorIndex := 14, attributes := #[] }, { accessFlags := 18, nameIndex := 30, descriptorIndex := 10, attributes := #[] }, { accessFlags := 18, nameIndex := 33, descriptorIndex := 34, attributes := #[] }])
  fields := #[{ name := "PAGE", type := .int, accessFlags := 26, slot := 0, constantValue := 0 }, { name := "ABSENT", type := (.array .int), accessFlags := 26, slot := 1, constantValue := 0 }, { name := "pages", type := (.array (.array .int)), accessFlags := 18, slot := 0, constantValue := 0 }, { name := "low", type := (.array .int), accessFlags := 18, slot := 1, constantValue := 0 }, { name := "filter", type := .long, accessFlags := 18, slot := 2, constantValue := 0 }]
  methods := #[k2m0, k2m1, k2m2]
  instanceTypes := #[(.array (.array .int)), (.array .int), .long]
  staticTypes := #[.int, (.array .int)]
  resolved := Array.replicate 53 none
  statics := some 0 }

def pool3 : Array CpInfo := pool [(2, .class_ 4), (1, u "java/lang/Object"), (0, u "<init>"), (0, u "()V"), (7, .class_ 16), (1, u "java/util/Arrays"), (57, .class_ 76), (1, u "java/util/Arrays$NaturalOrder"), (36, .class_ 115), (1, u "java/util/Arrays$LegacyMergeSort"), (1, u "Z"), (257, .class_ 376), (0, u "java/util/Arrays$ArrayList"), (68, u "$assertionsDisabled"), (269, u "MIN_ARRAY_SORT_GRAN"), (0, u "I"), (2, u "INSERTIONSORT_THRESHOLD"), (120, u "fill"), (4, u "([II)V"), (12, u "([Ljava/lang/Object;Ljava/lang/Object;)V"), (116, .class_ 976), (0, u "java/util/Arrays$ArrayItr")] 52

def k3m0 : Method := { name := "<init>", desc := "()V", sig := { parameters := [], returnType := none }, accessFlags := 2, code := none }
def k3c1 : Code := { maxStack := 3, maxLocals := 4, code := jdk_65_method_103_code, exceptionTable := #[], attributes := #[] }
def k3m1 : Method := { name := "fill", desc := "([II)V", sig := { parameters := [(.array .int), .int], returnType := none }, accessFlags := 9, code := some k3c1 }
def k3c2 : Code := { maxStack := 3, maxLocals := 4, code := jdk_65_method_117_code, exceptionTable := #[], attributes := #[] }
def k3m2 : Method := { name := "fill", desc := "([Ljava/lang/Object;Ljava/lang/Object;)V", sig := { parameters := [(.array (.object "java/lang/Object")), (.object "java/lang/Object")], returnType := none }, accessFlags := 9, code := some k3c2 }
/-- java/util/Arrays -/
def k3 : Class := { plain "java/util/Arrays" (some 0) with
  accessFlags := 49
  interfaces := #[]
  cf := some (fileOf pool3 14 #[.nestMembers #[975, 375, 113, 74]] #[{ accessFlags := 2, nameIndex := 5, descriptorIndex := 6, attributes := #[] }, { accessFlags := 9, nameIndex := 840, descriptorIndex := 845, attributes := #[] }, { accessFlags := 9, nameIndex := 840, descriptorIndex := 858, attributes := #[] }] 49 2 #[] #[{ accessFlags := 26, nameIndex := 715, descriptorIndex := 716, attributes := #[] }, { accessFlags := 26, nameIndex := 719, descriptorIndex := 716, attributes := #[] }, { accessFlags := 4120, nameIndex := 445, descriptorIndex := 117, attributes := #[] }])
  fields := #[{ name := "MIN_ARRAY_SORT_GRAN", type := .int, accessFlags := 26, slot := 0, constantValue := 0 }, { name := "INSERTIONSORT_THRESHOLD", type := .int, accessFlags := 26, slot := 1, constantValue := 0 }, { name := "$assertionsDisabled", type := .boolean, accessFlags := 4120, slot := 2, constantValue := 0 }]
  methods := #[k3m0, k3m1, k3m2]
  instanceTypes := #[]
  staticTypes := #[.int, .int, .boolean]
  resolved := Array.replicate 1029 none
  statics := none }

def pool4 : Array CpInfo := pool [(1, u "java/lang/Cloneable"), (0, .class_ 1), (0, u "java/lang/Object"), (0, .class_ 3)] 3

/-- java/lang/Cloneable -/
def k4 : Class := { plain "java/lang/Cloneable" (some 0) with
  accessFlags := 1537
  interfaces := #[]
  cf := some (fileOf pool4 2 #[] #[] 1537 4 #[] #[])
  fields := #[]
  methods := #[]
  instanceTypes := #[]
  staticTypes := #[]
  resolved := Array.replicate 8 none
  statics := none }

def pool5 : Array CpInfo := pool [(1, u "java/io/Serializable"), (0, .class_ 1), (0, u "java/lang/Object"), (0, .class_ 3)] 3

/-- java/io/Serializable -/
def k5 : Class := { plain "java/io/Serializable" (some 0) with
  accessFlags := 1537
  interfaces := #[]
  cf := some (fileOf pool5 2 #[] #[] 1537 4 #[] #[])
  fields := #[]
  methods := #[]
  instanceTypes := #[]
  staticTypes := #[]
  resolved := Array.replicate 8 none
  statics := none }

/-- the primitive byte -/
def k6 : Class := { plain "byte" none with kind := .primitive 'B', accessFlags := 0x411 }
/-- [B -/
def k7 : Class := { plain "[B" (some 0) with kind := .array 6 .byte, interfaces := #[4, 5], accessFlags := 1041 }

/-- the primitive char -/
def k8 : Class := { plain "char" none with kind := .primitive 'C', accessFlags := 0x411 }
/-- [C -/
def k9 : Class := { plain "[C" (some 0) with kind := .array 8 .char, interfaces := #[4, 5], accessFlags := 1041 }

/-- the primitive int -/
def k10 : Class := { plain "int" none with kind := .primitive 'I', accessFlags := 0x411 }
/-- [I -/
def k11 : Class := { plain "[I" (some 0) with kind := .array 10 .int, interfaces := #[4, 5], accessFlags := 1041 }

/-- [[I -/
def k12 : Class := { plain "[[I" (some 0) with kind := .array 11 (.array .int), interfaces := #[4, 5], accessFlags := 1041 }
def heap : Heap := #[{ cls := 2, slots := #[.int 0, .ref 1], vm := .statics 2 },
  { cls := 11, slots := #[.int (-1), .int (-1), .int (-1), .int (-1), .int (-1), .int (-1), .int (-1), .int (-1), .int (-1), .int (-1), .int (-1), .int (-1), .int (-1), .int (-1), .int (-1), .int (-1), .int (-1), .int (-1), .int (-1), .int (-1), .int (-1), .int (-1), .int (-1), .int (-1), .int (-1), .int (-1), .int (-1), .int (-1), .int (-1), .int (-1), .int (-1), .int (-1), .int (-1), .int (-1), .int (-1), .int (-1), .int (-1), .int (-1), .int (-1), .int (-1), .int (-1), .int (-1), .int (-1), .int (-1), .int (-1), .int (-1), .int (-1), .int (-1), .int (-1), .int (-1), .int (-1), .int (-1), .int (-1), .int (-1), .int (-1), .int (-1), .int (-1), .int (-1), .int (-1), .int (-1), .int (-1), .int (-1), .int (-1), .int (-1), .int (-1), .int (-1), .int (-1), .int (-1), .int (-1), .int (-1), .int (-1), .int (-1), .int (-1), .int (-1), .int (-1), .int (-1), .int (-1), .int (-1), .int (-1), .int (-1), .int (-1), .int (-1), .int (-1), .int (-1), .int (-1), .int (-1), .int (-1), .int (-1), .int (-1), .int (-1), .int (-1), .int (-1), .int (-1), .int (-1), .int (-1), .int (-1), .int (-1), .int (-1), .int (-1), .int (-1), .int (-1), .int (-1), .int (-1), .int (-1), .int (-1), .int (-1), .int (-1), .int (-1), .int (-1), .int (-1), .int (-1), .int (-1), .int (-1), .int (-1), .int (-1), .int (-1), .int (-1), .int (-1), .int (-1), .int (-1), .int (-1), .int (-1), .int (-1), .int (-1), .int (-1), .int (-1), .int (-1), .int (-1), .int (-1), .int (-1), .int (-1), .int (-1), .int (-1), .int (-1), .int (-1), .int (-1), .int (-1), .int (-1), .int (-1), .int (-1), .int (-1), .int (-1), .int (-1), .int (-1), .int (-1), .int (-1), .int (-1), .int (-1), .int (-1), .int (-1), .int (-1), .int (-1), .int (-1), .int (-1), .int (-1), .int (-1), .int (-1), .int (-1), .int (-1), .int (-1), .int (-1), .int (-1), .int (-1), .int (-1), .int (-1), .int (-1), .int (-1), .int (-1), .int (-1), .int (-1), .int (-1), .int (-1), .int (-1), .int (-1), .int (-1), .int (-1), .int (-1), .int (-1), .int (-1), .int (-1), .int (-1), .int (-1), .int (-1), .int (-1), .int (-1), .int (-1), .int (-1), .int (-1), .int (-1), .int (-1), .int (-1), .int (-1), .int (-1), .int (-1), .int (-1), .int (-1), .int (-1), .int (-1), .int (-1), .int (-1), .int (-1), .int (-1), .int (-1), .int (-1), .int (-1), .int (-1), .int (-1), .int (-1), .int (-1), .int (-1), .int (-1), .int (-1), .int (-1), .int (-1), .int (-1), .int (-1), .int (-1), .int (-1), .int (-1), .int (-1), .int (-1), .int (-1), .int (-1), .int (-1), .int (-1), .int (-1), .int (-1), .int (-1), .int (-1), .int (-1), .int (-1), .int (-1), .int (-1), .int (-1), .int (-1), .int (-1), .int (-1), .int (-1), .int (-1), .int (-1), .int (-1), .int (-1), .int (-1), .int (-1), .int (-1), .int (-1), .int (-1), .int (-1), .int (-1), .int (-1), .int (-1), .int (-1), .int (-1), .int (-1), .int (-1), .int (-1)], vm := .none }]
def classes : Array Class := #[k0, k1, k2, k3, k4, k5, k6, k7, k8, k9, k10, k11, k12]
def interned : List (Array UInt16 × Addr) := []
def slotsUsed : Nat := 258
def theMethod : MethodId := ⟨1, 2⟩
def args0 : Array Value := #[.int 65, .int 66, .int 67, .int 3]
def aboutOver (below : List Frame) : State where
  vm := { classes := classes, interned := interned.toArray }
  heap := heap
  slotsUsed := slotsUsed
  threads := #[{ frames := .invoking theMethod args0 :: below }]
def below0 : List Frame := [.native { method := ⟨0, 0⟩, args := #[] }]
def about1 : State := aboutOver below0
def p0 : Program := .bare "" "" ""
def e0 : Env := launch0.env 0 0 0
theorem w_frames : about1.frames = Frame.invoking theMethod args0 :: below0 := rfl
set_option maxRecDepth 65536 in
theorem w_args : argsFit about1.vm theMethod args0 = true := by decide +kernel
set_option maxRecDepth 65536 in
theorem w_heap : heapFits about1 = true := by decide +kernel
set_option maxRecDepth 65536 in
theorem w_runnable : about1.curStatus? = some .runnable := by decide +kernel
set_option maxRecDepth 65536 in
theorem w_alone : about1.alone = true := by decide +kernel
set_option maxRecDepth 65536 in
theorem w_named : about1.methodNamed? x = some theMethod := by decide +kernel
set_option maxRecDepth 65536 in
theorem w_hears : about1.hears theMethod below0 = true := by decide +kernel
set_option maxRecDepth 65536 in
theorem w_ripe : about1.ripe theMethod args0 below0 = true := by decide +kernel
theorem w_running : about1.status = .running := rfl
set_option maxRecDepth 65536 in
theorem w_room : about1.hasRoom e0.platform room_1 = true :=
  launch0.hasRoom_least _ room_1 (by decide +kernel) (by decide +kernel) (by decide +kernel) (by decide +kernel) (by decide +kernel) (by decide +kernel)
theorem allAtoms_all (ts : List Jvm.Cond) (a : Array Jvm.Value) (st : Jvm.State) : (allAtoms ts).before a st = ts.all (fun c => c.before a st) := by
  induction ts with
  | nil => rfl
  | cons c t ih =>
    show (Jvm.Cond.and c (allAtoms t)).before a st = _
    rw [Jvm.Cond.before_and, ih, List.all_cons]
def words1 : List Jvm.Cond := Jvm.Cond.code x code maxLocals ret :: tables_1
/-- a 'code' word, met by the world's own term for the bytes: nothing is compared byte by byte -/
theorem code_word {y : MethodName} {bytes : ByteArray} {mx : Nat} {rt : Option FieldType} {a : Array Value} {s : State} {m : MethodId} {meth : Method} {c : Code} (h1 : s.methodNamed? y = some m) (h2 : s.vm.method? m = some meth) (h3 : meth.code = some c) (h4 : c.code = bytes)
    (h5 : (c.maxLocals == mx && c.exceptionTable.isEmpty && decide (c.maxStack ≤ mostOperands) && decide (meth.sig.returnType = rt) && !meth.locks && decide (parseMethodDescriptor y.desc = some meth.sig)) = true) : (Jvm.Cond.code y bytes mx rt).before a s = true := by
  simp only [Bool.and_eq_true, beq_iff_eq, Bool.not_eq_true', decide_eq_true_eq] at h5
  obtain ⟨⟨⟨⟨⟨g1, g2⟩, g3⟩, g4⟩, g5⟩, g6⟩ := h5
  simp [Cond.before, Cond.holds, Cond.value, h1, h2, h3, h4, g1, g2, g3, g4, g5, g6]
def isCode : Jvm.Cond → Bool
  | .code _ _ _ _ => true
  | _ => false
theorem all_split {L : List Jvm.Cond} {P : Jvm.Cond → Bool} (h1 : L.all (fun c => isCode c || P c) = true) (h2 : ∀ c ∈ L.filter isCode, P c = true) : L.all P = true := by
  refine List.all_eq_true.mpr fun c hc => ?_
  have h := List.all_eq_true.mp h1 c hc
  rcases Bool.eq_false_or_eq_true (isCode c) with hi | hi
  · exact h2 c (List.mem_filter.mpr ⟨hc, hi⟩)
  · simpa [hi] using h
set_option maxRecDepth 65536 in
theorem w_c0 : (Jvm.Cond.code x code maxLocals ret).before args0 about1 = true := code_word (m := ⟨1, 2⟩) (meth := k1m2) (c := k1c2) (by decide +kernel) rfl rfl rfl (by decide +kernel)
set_option maxRecDepth 65536 in
theorem w_c1 : (Jvm.Cond.code ({ cls := "needlewise/boyermoore/RightmostOfPinLawPinLaw", name := "pattern", desc := "(ICCCC)[C" } : Jvm.MethodName) method_2_code (5 : Nat) (Option.some (Jvm.ClassFile.FieldType.array Jvm.ClassFile.FieldType.char))).before args0 about1 = true := code_word (m := ⟨1, 1⟩) (meth := k1m1) (c := k1c1) (by decide +kernel) rfl rfl rfl (by decide +kernel)
set_option maxRecDepth 65536 in
theorem w_c2 : (Jvm.Cond.code ({ cls := "needlewise/boyermoore/Rightmost", name := "<init>", desc := "([C)V" } : Jvm.MethodName) prog_13_method_1_code (7 : Nat) (Option.none : Option Jvm.ClassFile.FieldType)).before args0 about1 = true := code_word (m := ⟨2, 0⟩) (meth := k2m0) (c := k2c0) (by decide +kernel) rfl rfl rfl (by decide +kernel)
set_option maxRecDepth 65536 in
theorem w_c3 : (Jvm.Cond.code ({ cls := "java/lang/Object", name := "<init>", desc := "()V" } : Jvm.MethodName) object_method_1_code (1 : Nat) (Option.none : Option Jvm.ClassFile.FieldType)).before args0 about1 = true := code_word (m := ⟨0, 0⟩) (meth := k0m0) (c := k0c0) (by decide +kernel) rfl rfl rfl (by decide +kernel)
set_option maxRecDepth 65536 in
theorem w_c4 : (Jvm.Cond.code ({ cls := "java/util/Arrays", name := "fill", desc := "([Ljava/lang/Object;Ljava/lang/Object;)V" } : Jvm.MethodName) jdk_65_method_117_code (4 : Nat) (Option.none : Option Jvm.ClassFile.FieldType)).before args0 about1 = true := code_word (m := ⟨3, 2⟩) (meth := k3m2) (c := k3c2) (by decide +kernel) rfl rfl rfl (by decide +kernel)
set_option maxRecDepth 65536 in
theorem w_c5 : (Jvm.Cond.code ({ cls := "needlewise/boyermoore/Rightmost", name := "newPage", desc := "()[I" } : Jvm.MethodName) prog_13_method_3_code (1 : Nat) (Option.some (Jvm.ClassFile.FieldType.array Jvm.ClassFile.FieldType.int))).before args0 about1 = true := code_word (m := ⟨2, 2⟩) (meth := k2m2) (c := k2c2) (by decide +kernel) rfl rfl rfl (by decide +kernel)
set_option maxRecDepth 65536 in
theorem w_c6 : (Jvm.Cond.code ({ cls := "java/util/Arrays", name := "fill", desc := "([II)V" } : Jvm.MethodName) jdk_65_method_103_code (4 : Nat) (Option.none : Option Jvm.ClassFile.FieldType)).before args0 about1 = true := code_word (m := ⟨3, 1⟩) (meth := k3m1) (c := k3c1) (by decide +kernel) rfl rfl rfl (by decide +kernel)
set_option maxRecDepth 65536 in
theorem w_c7 : (Jvm.Cond.code ({ cls := "needlewise/boyermoore/Rightmost", name := "of", desc := "(C)I" } : Jvm.MethodName) prog_13_method_2_code (2 : Nat) (Option.some Jvm.ClassFile.FieldType.int)).before args0 about1 = true := code_word (m := ⟨2, 1⟩) (meth := k2m1) (c := k2c1) (by decide +kernel) rfl rfl rfl (by decide +kernel)
def codes1 : List Jvm.Cond := [Jvm.Cond.code x code maxLocals ret, Jvm.Cond.code ({ cls := "needlewise/boyermoore/RightmostOfPinLawPinLaw", name := "pattern", desc := "(ICCCC)[C" } : Jvm.MethodName) method_2_code (5 : Nat) (Option.some (Jvm.ClassFile.FieldType.array Jvm.ClassFile.FieldType.char)), Jvm.Cond.code ({ cls := "needlewise/boyermoore/Rightmost", name := "<init>", desc := "([C)V" } : Jvm.MethodName) prog_13_method_1_code (7 : Nat) (Option.none : Option Jvm.ClassFile.FieldType), Jvm.Cond.code ({ cls := "java/lang/Object", name := "<init>", desc := "()V" } : Jvm.MethodName) object_method_1_code (1 : Nat) (Option.none : Option Jvm.ClassFile.FieldType), Jvm.Cond.code ({ cls := "java/util/Arrays", name := "fill", desc := "([Ljava/lang/Object;Ljava/lang/Object;)V" } : Jvm.MethodName) jdk_65_method_117_code (4 : Nat) (Option.none : Option Jvm.ClassFile.FieldType), Jvm.Cond.code ({ cls := "needlewise/boyermoore/Rightmost", name := "newPage", desc := "()[I" } : Jvm.MethodName) prog_13_method_3_code (1 : Nat) (Option.some (Jvm.ClassFile.FieldType.array Jvm.ClassFile.FieldType.int)), Jvm.Cond.code ({ cls := "java/util/Arrays", name := "fill", desc := "([II)V" } : Jvm.MethodName) jdk_65_method_103_code (4 : Nat) (Option.none : Option Jvm.ClassFile.FieldType), Jvm.Cond.code ({ cls := "needlewise/boyermoore/Rightmost", name := "of", desc := "(C)I" } : Jvm.MethodName) prog_13_method_2_code (2 : Nat) (Option.some Jvm.ClassFile.FieldType.int)]
set_option maxRecDepth 65536 in
theorem codes_eq : words1.filter isCode = codes1 := rfl
theorem w_codes : ∀ c ∈ words1.filter isCode, c.before args0 about1 = true := by
  rw [codes_eq]
  intro c hc
  simp only [codes1, List.mem_cons, List.not_mem_nil, or_false] at hc
  rcases hc with rfl | rfl | rfl | rfl | rfl | rfl | rfl | rfl
  · exact w_c0
  · exact w_c1
  · exact w_c2
  · exact w_c3
  · exact w_c4
  · exact w_c5
  · exact w_c6
  · exact w_c7
set_option maxRecDepth 65536 in
theorem w_t1 : (words1.take 24).all (fun c => isCode c || c.before args0 about1) = true := by decide +kernel
set_option maxRecDepth 65536 in
theorem w_t2 : (words1.drop 24).all (fun c => isCode c || c.before args0 about1) = true := by decide +kernel
theorem w_tables : (allAtoms (Jvm.Cond.code x code maxLocals ret :: tables_1)).before args0 about1 = true := by
  rw [allAtoms_all]
  show words1.all (fun c => c.before args0 about1) = true
  refine all_split ?_ w_codes
  rw [← List.take_append_drop 24 words1, List.all_append, w_t1, w_t2]
  rfl
set_option maxRecDepth 65536 in
theorem w_case : (Jvm.Cond.and given_1 narrow_1).before args0 about1 = true := by decide +kernel
theorem w_applies : (headSpec (Jvm.Cond.code x code maxLocals ret :: tables_1) room_1).applies x e0.platform about1 = true :=
  (Spec.applies_iff w_frames).mpr ⟨w_running, w_runnable, w_alone, w_named, w_hears, w_ripe, w_room, w_tables⟩
theorem atStart : AtStart classFile x code maxLocals ret World_1 tables_1 room_1 Calls_1 rest_1 Pre_1 launch0 p0 e0 about1 theMethod args0 below0 :=
  ⟨lists_1, trivial, launch0.admits_env _ _ _, launch0.least_env, fairChoices_fair.cas, fairChoices_fair.clock, w_frames, w_args, w_heap, w_applies, trivial, trivial, w_case⟩
end start1
theorem witness_1 : WitnessClaimed_1 := ⟨start1.p0, start1.e0, start1.about1, start1.theMethod, start1.args0, start1.below0, start1.atStart⟩
end Jvm.Pilot.@@N@@
