import JvmDerived
import JvmDerived.Pilot.@@N@@Statement
import JvmDerived.Pilot.@@N@@Code
set_option linter.unusedVariables false
set_option linter.unusedSimpArgs false
namespace Jvm.OwnRun
open Sem ClassFile Op Lib Jvm.Stand Jvm.Free Jvm.LawKit Jvm.RoadKit
/-- the run that stands at A comes to the end of this invocation, and Q holds there -/
def Run (p : Program) (e : Env) (below : List Frame) (s : State) (Q : Option Value → Heap → List Loc → Prop) (k n : Nat) (A : State) : Prop :=
  ∃ s₂ o, Steps p.tables e below A s₂ ∧ s₂.status = .running ∧ Ended s₂ below o ∧ ∃ v L, o = .returned v ∧ Q v s₂.heap L ∧ FrameEnd s o s₂ L k n
/-- the contract of a body at one heap and one row of arguments -/
def Ctr (l : Launch) (Z : State) (y : MethodName) (bytes : ByteArray) (ml : Nat) (ret : Option FieldType) (rm : Room) (as' : Array Value) (h0 : Heap) (Q : Option Value → Heap → List Loc → Prop) : Prop :=
  ∀ ws : List Jvm.Cond, MetFree l y (head1 (Jvm.Cond.code y bytes ml ret :: ws) rm) (fun a U => a = as' ∧ Z.Warmed39 U.vm ∧ U.heap = h0) (fun _ _ _ _ _ => True) (fun _ U o U' => ∃ v L, o = .returned v ∧ Q v U'.heap L ∧ FrameEnd U o U' L rm.cells rm.slots)
section Laws
variable {p : Program} {l : Launch} {e : Env} {R : Room} {s : State} {m : MethodId} {args : Array Value} {below : List Frame} {meth : Method} {c : Code} {T : State} {locs : List Loc} {cells slots : Nat} {Z : State} {a0 : Array Value} {h h' : Heap}
variable {Q Q' : Option Value → Heap → List Loc → Prop} {k n : Nat}
theorem Run.st {A B : State} (f : ∀ t, Steps p.tables e below B t → Steps p.tables e below A t) (r : Run p e below s Q k n B) : Run p e below s Q k n A := by
  obtain ⟨s₂, o, h1, r⟩ := r
  exact ⟨s₂, o, f _ h1, r⟩
theorem Ctr.of {y : MethodName} {bytes : ByteArray} {ml : Nat} {ret : Option FieldType} {rm : Room} {as' : Array Value} {h0 : Heap} {Ls : Array Slot} (hpl : plainFor y = true) (hef : ∀ m, entryFrame m as' ml = mkF m 0 Ls [])
    (body : ∀ (p : Program) (e : Env) (s : State) (m : MethodId) (below : List Frame) (meth : Method) (c : Code) (T : State), p.tables.exec = Jvm.exec → c.code = bytes → c.maxLocals = ml → s.vm.findClass y.cls = some m.cls → meth.name = y.name → meth.sig.returnType = ret → meth.locks = false → Z.Warmed39 s.vm → T.heap = h0 →
      Stand p l e rm s m as' below meth c T [] 0 0 → Run p e below s Q rm.cells rm.slots (T.setTop (mkF m 0 Ls []))) : Ctr l Z y bytes ml ret rm as' h0 Q := by
  intro ws
  refine MetFree.of_bodySF hpl hisR ?_
  intro p e s m args below meth c s₁ Bd hml0 hP hK
  obtain ⟨rfl, hZ, hh⟩ := hP
  have q := body p e s m below meth c s₁ Bd.exec Bd.bytes hml0 (findClass_of_methodNamed Bd.named) (name_of_methodNamed Bd.named Bd.method).1 Bd.returns Bd.notSynchronized hZ (by rw [← hh, Bd.state]; rfl) (Stand.of_body Bd)
  rw [hef]
  exact q
theorem Run.end_ (X : Stand p l e R s m args below meth c T locs cells slots) (hlk : meth.locks = false) (eT : T.heap = h) {v : Option Value} (hv : meth.sig.returnType = none → v = none) (hc : cells ≤ k) (hn : slots ≤ n) (hQ : Q v h locs) {A : State}
    (f : ∀ fs, (∀ (f : JFrame) (acts : List Action), f.method = m → f.locked = none → f.entered = [] → (doReturn e (T.setTop f) acts v).1 = T.setFrames fs) → Steps p.tables e below A (T.setFrames fs)) : Run p e below s Q k n A := by
  obtain ⟨fs, hr, hrun, hended, hW, hsame⟩ := X.leave (v := v) hv
  exact ⟨_, _, f fs hr, hrun, hended, _, _, rfl, by rw [show (T.setFrames fs).heap = h from eT]; exact hQ, ⟨_, rfl⟩, hW, hsame.mono hc hn⟩
theorem Run.retN (X : Stand p l e R s m args below meth c T locs cells slots) (hx : p.tables.exec = Jvm.exec) (hlk : meth.locks = false) (eT : T.heap = h) {t : FieldType} (hret : meth.sig.returnType = some t) (ht : t = .boolean ∨ t = .byte ∨ t = .char ∨ t = .short) {pc : Nat} {Ls : Array Slot} {z : Int32} {rest : List Value}
    {z' : Int32} (hz : nar t z = z') (hd : decode c.code pc = .ok (.ireturn, 1)) (hc : cells ≤ k) (hn : slots ≤ n) (hQ : Q (some (.int z')) h locs) : Run p e below s Q k n (T.setTop (mkF m pc Ls (.int z :: rest))) :=
  Run.end_ X hlk eT (v := some (.int (nar t z))) (fun q => by rw [hret] at q; cases q) hc hn (hz ▸ hQ) fun fs hr => RoadKit.retN X hx hret ht hd hr
theorem Run.retI (X : Stand p l e R s m args below meth c T locs cells slots) (hx : p.tables.exec = Jvm.exec) (hlk : meth.locks = false) (eT : T.heap = h) (hret : meth.sig.returnType = some .int) {pc : Nat} {Ls : Array Slot} {z : Int32} {rest : List Value}
    (hd : decode c.code pc = .ok (.ireturn, 1)) (hc : cells ≤ k) (hn : slots ≤ n) (hQ : Q (some (.int z)) h locs) : Run p e below s Q k n (T.setTop (mkF m pc Ls (.int z :: rest))) :=
  Run.end_ X hlk eT (v := some (.int z)) (fun q => by rw [hret] at q; cases q) hc hn hQ fun fs hr => RoadKit.retOut X hx hret rfl (Or.inl ⟨rfl, Or.inl rfl, z, rfl⟩) hd hr
theorem Run.retJ (X : Stand p l e R s m args below meth c T locs cells slots) (hx : p.tables.exec = Jvm.exec) (hlk : meth.locks = false) (eT : T.heap = h) (hret : meth.sig.returnType = some .long) {pc : Nat} {Ls : Array Slot} {z : Int64} {rest : List Value}
    (hd : decode c.code pc = .ok (.lreturn, 1)) (hc : cells ≤ k) (hn : slots ≤ n) (hQ : Q (some (.long z)) h locs) : Run p e below s Q k n (T.setTop (mkF m pc Ls (.long z :: rest))) :=
  Run.end_ X hlk eT (v := some (.long z)) (fun q => by rw [hret] at q; cases q) hc hn hQ fun fs hr => RoadKit.retOut X hx hret rfl (Or.inr (Or.inl ⟨rfl, rfl, z, rfl⟩)) hd hr
theorem Run.retA (X : Stand p l e R s m args below meth c T locs cells slots) (hx : p.tables.exec = Jvm.exec) (hlk : meth.locks = false) (eT : T.heap = h) {t : FieldType} (hret : meth.sig.returnType = some t) (ht : t.isReference = true) {w : Value} (hw : w.isRef = true) (hnr : narrow t w = w) {pc : Nat} {Ls : Array Slot} {rest : List Value}
    (hd : decode c.code pc = .ok (.areturn, 1)) (hc : cells ≤ k) (hn : slots ≤ n) (hQ : Q (some w) h locs) : Run p e below s Q k n (T.setTop (mkF m pc Ls (w :: rest))) :=
  Run.end_ X hlk eT (v := some w) (fun q => by rw [hret] at q; cases q) hc hn hQ fun fs hr => RoadKit.retOut X hx hret hnr (Or.inr (Or.inr (Or.inr (Or.inr ⟨rfl, ht, hw⟩)))) hd hr
theorem Run.retV (X : Stand p l e R s m args below meth c T locs cells slots) (hx : p.tables.exec = Jvm.exec) (hlk : meth.locks = false) (eT : T.heap = h) (hret : meth.sig.returnType = none) {pc : Nat} {Ls : Array Slot}
    (hd : decode c.code pc = .ok (.return_, 1)) (hc : cells ≤ k) (hn : slots ≤ n) (hQ : Q none h locs) : Run p e below s Q k n (T.setTop (mkF m pc Ls [])) :=
  Run.end_ X hlk eT (v := none) (fun _ => rfl) hc hn hQ fun fs hr => X.returnOut hx hret hd hr
/-- a call's premises that are alike for every kind of call -/
theorem Ctr.back {y : MethodName} {bytes : ByteArray} {ml : Nat} {ret : Option FieldType} {rm : Room} {as' : Array Value} {len W : Nat} (K : Ctr l Z y bytes ml ret rm as' h Q') (hZ : Z.Warmed39 s.vm) (wc : (Jvm.Cond.code y bytes ml ret).before a0 Z = true) (wz : (Jvm.Cond.initialized y.cls).before a0 Z = true) (hf : rm.frames + 1 ≤ R.frames) (hl : W + (ml + 11) + rm.locals ≤ R.locals) :
    Back l R p e below s args y len W (fun A a => a = as' ∧ A.U.heap = h ∧ A.cells + rm.cells ≤ R.cells ∧ A.slots + rm.slots ≤ R.slots) (fun A _ v B => ∃ L, Q' v B.U.heap L ∧ B.locs = A.locs ++ L ∧ B.cells = A.cells + rm.cells ∧ B.slots = A.slots + rm.slots) := backOf (K []) hZ wc wz hf hl
theorem Run.callS (X : Stand p l e R s m args below meth c T locs cells slots) (hx : p.tables.exec = Jvm.exec) (hZ : Z.Warmed39 s.vm) (eT : T.heap = h) {own : String} {index : Nat} {y : MethodName} {bytes : ByteArray} {ml : Nat} {ret : Option FieldType} {rm : Room}
    (hown : s.vm.findClass own = some m.cls) (w1 : (Jvm.Cond.methodLink own index y).before a0 Z = true) (w2 : (Jvm.Cond.static y).before a0 Z = true) (w3 : (Jvm.Cond.initialized y.cls).before a0 Z = true) (w4 : (Jvm.Cond.code y bytes ml ret).before a0 Z = true)
    (hy : y.cls ≠ "java/lang/invoke/MethodHandle" ∧ y.cls ≠ "java/lang/invoke/VarHandle") {argsL rest : List Value} (K : Ctr l Z y bytes ml ret rm argsL.toArray h Q') {ps : List FieldType} {r : Option FieldType} (hpd : parseMethodDescriptor y.desc = some ⟨ps, r⟩) (hlen : argsL.length = ps.length)
    {pc : Nat} {Ls : Array Slot} (hsz : Ls.size = c.maxLocals) {W : Nat} (hW : (rest.map fun v => v.category).sum = W) (hf : rm.frames + 1 ≤ R.frames) (hl : W + (ml + 11) + rm.locals ≤ R.locals) (hc : cells + rm.cells ≤ R.cells) (hs : slots + rm.slots ≤ R.slots)
    (hd : decode c.code pc = .ok (.invokestatic index, 3)) {st : List Value} (hst : st = argsL.reverse ++ rest)
    (kk : ∀ (T' : State) (v : Option Value) (L : List Loc), Stand p l e R s m args below meth c T' (locs ++ L) (cells + rm.cells) (slots + rm.slots) → Q' v T'.heap L → Run p e below s Q k n (T'.setTop (mkF m (pc + 3) Ls (v.toList ++ rest)))) :
    Run p e below s Q k n (T.setTop (mkF m pc Ls st)) := by
  obtain ⟨v, _, ⟨T', L', k', n'⟩, -, X', ⟨L, hQ, l1, y1, z1⟩, st1⟩ := Jvm.LawKit.callS X hx (y := y) hown (mvT hZ w1) (mvT hZ w2) (mvT hZ w3) (mvT hZ w4) hy (K.back hZ w4 w3 hf hl) (g := mkF m pc Ls st) rfl hsz (argsL := argsL) (rest := rest) (lenOf hpd hlen) hst (by show 2 * 0 + _ ≤ _; rw [hW]; omega) hd (fun _ _ => ⟨rfl, eT, hc, hs⟩)
  dsimp only [Pt.U, Pt.locs, Pt.cells, Pt.slots] at X' l1 y1 z1 st1 hQ
  subst l1 y1 z1
  exact Run.st st1 (kk T' v L X' hQ)
theorem Run.callC (X : Stand p l e R s m args below meth c T locs cells slots) (hx : p.tables.exec = Jvm.exec) (hZ : Z.Warmed39 s.vm) (eT : T.heap = h) {own : String} {index : Nat} {y : MethodName} {bytes : ByteArray} {ml : Nat} {rm : Room}
    (hown : s.vm.findClass own = some m.cls) (hy1 : y.name = "<init>") (w1 : (Jvm.Cond.methodLink own index y).before a0 Z = true) (w2 : (Jvm.Cond.instanceMethod y).before a0 Z = true) (w3 : (Jvm.Cond.initialized y.cls).before a0 Z = true) (w4 : (Jvm.Cond.code y bytes ml none).before a0 Z = true)
    (hy : y.cls ≠ "java/lang/invoke/MethodHandle" ∧ y.cls ≠ "java/lang/invoke/VarHandle") {a : Addr} {argsL rest : List Value} (K : Ctr l Z y bytes ml none rm (.ref a :: argsL).toArray h Q') {ps : List FieldType} {r : Option FieldType} (hpd : parseMethodDescriptor y.desc = some ⟨ps, r⟩) (hlen : argsL.length = ps.length)
    {pc : Nat} {Ls : Array Slot} (hsz : Ls.size = c.maxLocals) {W : Nat} (hW : (rest.map fun v => v.category).sum = W) (hf : rm.frames + 1 ≤ R.frames) (hl : W + (ml + 11) + rm.locals ≤ R.locals) (hc : cells + rm.cells ≤ R.cells) (hs : slots + rm.slots ≤ R.slots)
    (hd : decode c.code pc = .ok (.invokespecial index, 3)) {st : List Value} (hst : st = argsL.reverse ++ .ref a :: rest)
    (kk : ∀ (T' : State) (v : Option Value) (L : List Loc), Stand p l e R s m args below meth c T' (locs ++ L) (cells + rm.cells) (slots + rm.slots) → Q' v T'.heap L → Run p e below s Q k n (T'.setTop (mkF m (pc + 3) Ls (v.toList ++ rest)))) :
    Run p e below s Q k n (T.setTop (mkF m pc Ls st)) := by
  obtain ⟨v, _, ⟨T', L', k', n'⟩, -, X', ⟨L, hQ, l1, y1, z1⟩, st1⟩ := X.specialBack hx (y := y) hy1 hown (mvT hZ w1) (mvT hZ w2) (mvT hZ w4) hy (K.back hZ w4 w3 hf hl) (g := mkF m pc Ls st) rfl hsz (Steps.refl _) (a := a) (argsL := argsL) (rest := rest) (lenOf hpd hlen) hst (by show 2 * 0 + _ ≤ _; rw [hW]; omega) hd (fun _ _ => ⟨rfl, eT, hc, hs⟩)
  dsimp only [Pt.U, Pt.locs, Pt.cells, Pt.slots] at X' l1 y1 z1 st1 hQ
  subst l1 y1 z1
  exact Run.st (fun t q => st1.trans q) (kk T' v L X' hQ)
/-- 'invokevirtual', the body that the receiver's class selects -/
theorem Run.callV (X : Stand p l e R s m args below meth c T locs cells slots) (hx : p.tables.exec = Jvm.exec) (hZ : Z.Warmed39 s.vm) (eT : T.heap = h) {own C : String} {index : Nat} {y z : MethodName} {bytes : ByteArray} {ml : Nat} {ret : Option FieldType} {rm : Room}
    (hown : s.vm.findClass own = some m.cls) (w1 : (Jvm.Cond.methodLink own index y).before a0 Z = true) (w2 : (Jvm.Cond.declares y).before a0 Z = true) (hnf : NotFace s y) (w5 : (Jvm.Cond.selects C y z).before a0 Z = true) (w6 : (Jvm.Cond.instanceMethod z).before a0 Z = true) (w3 : (Jvm.Cond.initialized z.cls).before a0 Z = true) (w4 : (Jvm.Cond.code z bytes ml ret).before a0 Z = true)
    (hy : y.cls ≠ "java/lang/invoke/MethodHandle" ∧ y.cls ≠ "java/lang/invoke/VarHandle") {a : Addr} (E : Exa Z h a C) {argsL rest : List Value} (K : Ctr l Z z bytes ml ret rm (.ref a :: argsL).toArray h Q') {ps : List FieldType} {r : Option FieldType} (hpd : parseMethodDescriptor y.desc = some ⟨ps, r⟩) (hlen : argsL.length = ps.length)
    {pc : Nat} {Ls : Array Slot} (hsz : Ls.size = c.maxLocals) {W : Nat} (hW : (rest.map fun v => v.category).sum = W) (hf : rm.frames + 1 ≤ R.frames) (hl : W + (ml + 11) + rm.locals ≤ R.locals) (hc : cells + rm.cells ≤ R.cells) (hs : slots + rm.slots ≤ R.slots)
    (hd : decode c.code pc = .ok (.invokevirtual index, 3)) {st : List Value} (hst : st = argsL.reverse ++ .ref a :: rest)
    (kk : ∀ (T' : State) (v : Option Value) (L : List Loc), Stand p l e R s m args below meth c T' (locs ++ L) (cells + rm.cells) (slots + rm.slots) → Q' v T'.heap L → Run p e below s Q k n (T'.setTop (mkF m (pc + 3) Ls (v.toList ++ rest)))) :
    Run p e below s Q k n (T.setTop (mkF m pc Ls st)) := by
  obtain ⟨cq, kq, qa, qb, qc⟩ := isOf hZ eT E
  obtain ⟨v, _, ⟨T', L', k', n'⟩, -, X', ⟨L, hQ, l1, y1, z1⟩, st1⟩ := X.virtualBack hx (y := y) (z := z) hown (mvT hZ w1) (mvT hZ w2) hnf (mvT hZ w5) (mvT hZ w6) hy (K.back hZ w4 w3 hf hl) qa qc (g := mkF m pc Ls st) rfl hsz (Steps.refl _) (argsL := argsL) (rest := rest) (lenOf hpd hlen) hst (by show 2 * 0 + _ ≤ _; rw [hW]; omega) hd (fun _ _ => ⟨rfl, eT, hc, hs⟩)
  dsimp only [Pt.U, Pt.locs, Pt.cells, Pt.slots] at X' l1 y1 z1 st1 hQ
  subst l1 y1 z1
  exact Run.st (fun t q => st1.trans q) (kk T' v L X' hQ)
theorem Run.init (X : Stand p l e R s m args below meth c T locs cells slots) (hx : p.tables.exec = Jvm.exec) (hZ : Z.Warmed39 s.vm) (eT : T.heap = h) {own : String} {idx : Nat} (hown : s.vm.findClass own = some m.cls) (w1 : (Jvm.Cond.methodLink own idx Lib.objectInit).before a0 Z = true) (w2 : (Jvm.Cond.instanceMethod Lib.objectInit).before a0 Z = true)
    (w3 : (Jvm.Cond.code Lib.objectInit ⟨#[0xb1]⟩ 1 none).before a0 Z = true) {pc : Nat} {Ls : Array Slot} (hsz : Ls.size = c.maxLocals) {a : Addr} {rest : List Value} (hd : decode c.code pc = .ok (.invokespecial idx, 3)) (hf : 1 ≤ R.frames) {W : Nat} (hW : (rest.map fun v => v.category).sum = W) (hl : W + 12 ≤ R.locals)
    (kk : ∀ (T' : State), Stand p l e R s m args below meth c T' locs cells slots → T'.heap = h → Run p e below s Q k n (T'.setTop (mkF m (pc + 3) Ls rest))) :
    Run p e below s Q k n (T.setTop (mkF m pc Ls (.ref a :: rest))) := by
  obtain ⟨T', X', e', st'⟩ := initO X hx hZ hown w1 w2 w3 eT (g := mkF m pc Ls (.ref a :: rest)) rfl hsz rfl hd hf (W := W) (by show 2 * 0 + _ ≤ _; rw [hW]; omega) hl
  exact Run.st st' (kk T' X' e')
theorem Run.irem (X : Stand p l e R s m args below meth c T locs cells slots) (hx : p.tables.exec = Jvm.exec) {pc : Nat} {Ls : Array Slot} {x y : Int32} {rest : List Value} (hd : decode c.code pc = .ok (.irem, 1)) (hy : y ≠ 0) (r : Run p e below s Q k n (T.setTop (mkF m (pc + 1) Ls (.int (x % y) :: rest)))) :
    Run p e below s Q k n (T.setTop (mkF m pc Ls (.int y :: .int x :: rest))) := Run.st (fun t q => iremM (g := mkF m pc Ls (.int y :: .int x :: rest)) X hx rfl hd rfl hy q) r
theorem Run.lrem (X : Stand p l e R s m args below meth c T locs cells slots) (hx : p.tables.exec = Jvm.exec) {pc : Nat} {Ls : Array Slot} {x y : Int64} {rest : List Value} (hd : decode c.code pc = .ok (.lrem, 1)) (hy : y ≠ 0) (r : Run p e below s Q k n (T.setTop (mkF m (pc + 1) Ls (.long (x % y) :: rest)))) :
    Run p e below s Q k n (T.setTop (mkF m pc Ls (.long y :: .long x :: rest))) := by
  rw [← lrem_mod] at r
  exact Run.st (fun t q => XS.lrem (g := mkF m pc Ls (.long y :: .long x :: rest)) X.here hx rfl hd rfl hy q) r
theorem Run.x_iloadN (X : Stand p l e R s m args below meth c T locs cells slots) (hx : p.tables.exec = Jvm.exec) {pc q : Nat} {Ls : Array Slot} {S : List Value} {j : Fin 4} {v : Int32} (hd : decode c.code pc = .ok (.iload_n j, 1)) (hl : Ls[j.val]? = some (.val (.int v))) (hq : pc + 1 = q) (r : Run p e below s Q k n (T.setTop (mkF m q Ls (.int v :: S)))) : Run p e below s Q k n (T.setTop (mkF m pc Ls (S))) := by
  subst hq; exact Run.st (fun t kt => XS.iloadN X.here hx rfl hd hl kt) r
theorem Run.x_iload (X : Stand p l e R s m args below meth c T locs cells slots) (hx : p.tables.exec = Jvm.exec) {pc q : Nat} {Ls : Array Slot} {S : List Value} {j : Nat} {v : Int32} (hd : decode c.code pc = .ok (.iload j, 2)) (hl : Ls[j]? = some (.val (.int v))) (hq : pc + 2 = q) (r : Run p e below s Q k n (T.setTop (mkF m q Ls (.int v :: S)))) : Run p e below s Q k n (T.setTop (mkF m pc Ls (S))) := by
  subst hq; exact Run.st (fun t kt => XS.iload X.here hx rfl hd hl kt) r
theorem Run.x_lloadN (X : Stand p l e R s m args below meth c T locs cells slots) (hx : p.tables.exec = Jvm.exec) {pc q : Nat} {Ls : Array Slot} {S : List Value} {j : Fin 4} {v : Int64} (hd : decode c.code pc = .ok (.lload_n j, 1)) (hl : Ls[j.val]? = some (.val (.long v))) (hq : pc + 1 = q) (r : Run p e below s Q k n (T.setTop (mkF m q Ls (.long v :: S)))) : Run p e below s Q k n (T.setTop (mkF m pc Ls (S))) := by
  subst hq; exact Run.st (fun t kt => XS.lloadN X.here hx rfl hd hl kt) r
theorem Run.x_lload (X : Stand p l e R s m args below meth c T locs cells slots) (hx : p.tables.exec = Jvm.exec) {pc q : Nat} {Ls : Array Slot} {S : List Value} {j : Nat} {v : Int64} (hd : decode c.code pc = .ok (.lload j, 2)) (hl : Ls[j]? = some (.val (.long v))) (hq : pc + 2 = q) (r : Run p e below s Q k n (T.setTop (mkF m q Ls (.long v :: S)))) : Run p e below s Q k n (T.setTop (mkF m pc Ls (S))) := by
  subst hq; exact Run.st (fun t kt => XS.lload X.here hx rfl hd hl kt) r
theorem Run.x_aloadN (X : Stand p l e R s m args below meth c T locs cells slots) (hx : p.tables.exec = Jvm.exec) {pc q : Nat} {Ls : Array Slot} {S : List Value} {j : Fin 4} {v : Value} (hd : decode c.code pc = .ok (.aload_n j, 1)) (hl : Ls[j.val]? = some (.val v)) (hv : v.isRef = true) (hq : pc + 1 = q) (r : Run p e below s Q k n (T.setTop (mkF m q Ls (v :: S)))) : Run p e below s Q k n (T.setTop (mkF m pc Ls (S))) := by
  subst hq; exact Run.st (fun t kt => XS.aloadN X.here hx rfl hd hl hv kt) r
theorem Run.x_aload (X : Stand p l e R s m args below meth c T locs cells slots) (hx : p.tables.exec = Jvm.exec) {pc q : Nat} {Ls : Array Slot} {S : List Value} {j : Nat} {v : Value} (hd : decode c.code pc = .ok (.aload j, 2)) (hl : Ls[j]? = some (.val v)) (hv : v.isRef = true) (hq : pc + 2 = q) (r : Run p e below s Q k n (T.setTop (mkF m q Ls (v :: S)))) : Run p e below s Q k n (T.setTop (mkF m pc Ls (S))) := by
  subst hq; exact Run.st (fun t kt => XS.aload X.here hx rfl hd hl hv kt) r
theorem Run.x_istoreN (X : Stand p l e R s m args below meth c T locs cells slots) (hx : p.tables.exec = Jvm.exec) {pc q : Nat} {Ls : Array Slot} {S : List Value} {j : Fin 4} {v : Int32} (L' : Array Slot) (hd : decode c.code pc = .ok (.istore_n j, 1)) (hl : storeLocals Ls j.val (.int v) = some L') (hq : pc + 1 = q) (r : Run p e below s Q k n (T.setTop (mkF m q L' (S)))) : Run p e below s Q k n (T.setTop (mkF m pc Ls (.int v :: S))) := by
  subst hq; exact Run.st (fun t kt => XS.istoreN X.here hx rfl hd rfl hl kt) r
theorem Run.x_istore (X : Stand p l e R s m args below meth c T locs cells slots) (hx : p.tables.exec = Jvm.exec) {pc q : Nat} {Ls : Array Slot} {S : List Value} {j : Nat} {v : Int32} (L' : Array Slot) (hd : decode c.code pc = .ok (.istore j, 2)) (hl : storeLocals Ls j (.int v) = some L') (hq : pc + 2 = q) (r : Run p e below s Q k n (T.setTop (mkF m q L' (S)))) : Run p e below s Q k n (T.setTop (mkF m pc Ls (.int v :: S))) := by
  subst hq; exact Run.st (fun t kt => XS.istore X.here hx rfl hd rfl hl kt) r
theorem Run.x_lstoreN (X : Stand p l e R s m args below meth c T locs cells slots) (hx : p.tables.exec = Jvm.exec) {pc q : Nat} {Ls : Array Slot} {S : List Value} {j : Fin 4} {v : Int64} (L' : Array Slot) (hd : decode c.code pc = .ok (.lstore_n j, 1)) (hl : storeLocals Ls j.val (.long v) = some L') (hq : pc + 1 = q) (r : Run p e below s Q k n (T.setTop (mkF m q L' (S)))) : Run p e below s Q k n (T.setTop (mkF m pc Ls (.long v :: S))) := by
  subst hq; exact Run.st (fun t kt => XS.lstoreN X.here hx rfl hd rfl hl kt) r
theorem Run.x_lstore (X : Stand p l e R s m args below meth c T locs cells slots) (hx : p.tables.exec = Jvm.exec) {pc q : Nat} {Ls : Array Slot} {S : List Value} {j : Nat} {v : Int64} (L' : Array Slot) (hd : decode c.code pc = .ok (.lstore j, 2)) (hl : storeLocals Ls j (.long v) = some L') (hq : pc + 2 = q) (r : Run p e below s Q k n (T.setTop (mkF m q L' (S)))) : Run p e below s Q k n (T.setTop (mkF m pc Ls (.long v :: S))) := by
  subst hq; exact Run.st (fun t kt => XS.lstore X.here hx rfl hd rfl hl kt) r
theorem Run.x_astoreN (X : Stand p l e R s m args below meth c T locs cells slots) (hx : p.tables.exec = Jvm.exec) {pc q : Nat} {Ls : Array Slot} {S : List Value} {j : Fin 4} {v : Value} (L' : Array Slot) (hd : decode c.code pc = .ok (.astore_n j, 1)) (hv : v.isRef = true) (hl : storeLocals Ls j.val v = some L') (hq : pc + 1 = q) (r : Run p e below s Q k n (T.setTop (mkF m q L' (S)))) : Run p e below s Q k n (T.setTop (mkF m pc Ls (v :: S))) := by
  subst hq; exact Run.st (fun t kt => XS.astoreN X.here hx rfl hd rfl hv hl kt) r
theorem Run.x_astore (X : Stand p l e R s m args below meth c T locs cells slots) (hx : p.tables.exec = Jvm.exec) {pc q : Nat} {Ls : Array Slot} {S : List Value} {j : Nat} {v : Value} (L' : Array Slot) (hd : decode c.code pc = .ok (.astore j, 2)) (hv : v.isRef = true) (hl : storeLocals Ls j v = some L') (hq : pc + 2 = q) (r : Run p e below s Q k n (T.setTop (mkF m q L' (S)))) : Run p e below s Q k n (T.setTop (mkF m pc Ls (v :: S))) := by
  subst hq; exact Run.st (fun t kt => XS.astore X.here hx rfl hd rfl hv hl kt) r
theorem Run.x_iconst (X : Stand p l e R s m args below meth c T locs cells slots) (hx : p.tables.exec = Jvm.exec) {pc q : Nat} {Ls : Array Slot} {S : List Value} {i : Int} {z : Int32} (hd : decode c.code pc = .ok (.iconst i, 1)) (hz : Int32.ofInt i = z) (hq : pc + 1 = q) (r : Run p e below s Q k n (T.setTop (mkF m q Ls (.int z :: S)))) : Run p e below s Q k n (T.setTop (mkF m pc Ls (S))) := by
  subst hq; subst hz; exact Run.st (fun t kt => XS.iconst X.here hx rfl hd kt) r
theorem Run.x_bipush (X : Stand p l e R s m args below meth c T locs cells slots) (hx : p.tables.exec = Jvm.exec) {pc q : Nat} {Ls : Array Slot} {S : List Value} {i : Int} {z : Int32} (hd : decode c.code pc = .ok (.bipush i, 2)) (hz : (Int8.ofInt i).toInt32 = z) (hq : pc + 2 = q) (r : Run p e below s Q k n (T.setTop (mkF m q Ls (.int z :: S)))) : Run p e below s Q k n (T.setTop (mkF m pc Ls (S))) := by
  subst hq; subst hz; exact Run.st (fun t kt => XS.bipush X.here hx rfl hd kt) r
theorem Run.x_sipush (X : Stand p l e R s m args below meth c T locs cells slots) (hx : p.tables.exec = Jvm.exec) {pc q : Nat} {Ls : Array Slot} {S : List Value} {i : Int} {z : Int32} (hd : decode c.code pc = .ok (.sipush i, 3)) (hz : (Int16.ofInt i).toInt32 = z) (hq : pc + 3 = q) (r : Run p e below s Q k n (T.setTop (mkF m q Ls (.int z :: S)))) : Run p e below s Q k n (T.setTop (mkF m pc Ls (S))) := by
  subst hq; subst hz; exact Run.st (fun t kt => XS.sipush X.here hx rfl hd kt) r
theorem Run.x_lconst (X : Stand p l e R s m args below meth c T locs cells slots) (hx : p.tables.exec = Jvm.exec) {pc q : Nat} {Ls : Array Slot} {S : List Value} {i : Fin 2} {z : Int64} (hd : decode c.code pc = .ok (.lconst i, 1)) (hz : Int64.ofNat i = z) (hq : pc + 1 = q) (r : Run p e below s Q k n (T.setTop (mkF m q Ls (.long z :: S)))) : Run p e below s Q k n (T.setTop (mkF m pc Ls (S))) := by
  subst hq; subst hz; exact Run.st (fun t kt => XS.lconst X.here hx rfl hd kt) r
theorem Run.x_null (X : Stand p l e R s m args below meth c T locs cells slots) (hx : p.tables.exec = Jvm.exec) {pc q : Nat} {Ls : Array Slot} {S : List Value}  (hd : decode c.code pc = .ok (.aconst_null, 1)) (hq : pc + 1 = q) (r : Run p e below s Q k n (T.setTop (mkF m q Ls (.null :: S)))) : Run p e below s Q k n (T.setTop (mkF m pc Ls (S))) := by
  subst hq; exact Run.st (fun t kt => XS.aconstNull X.here hx rfl hd kt) r
theorem Run.x_iadd (X : Stand p l e R s m args below meth c T locs cells slots) (hx : p.tables.exec = Jvm.exec) {pc q : Nat} {Ls : Array Slot} {S : List Value} {x y z : Int32} (hd : decode c.code pc = .ok (.iadd, 1)) (hz : x + y = z) (hq : pc + 1 = q) (r : Run p e below s Q k n (T.setTop (mkF m q Ls (.int z :: S)))) : Run p e below s Q k n (T.setTop (mkF m pc Ls (.int y :: .int x :: S))) := by
  subst hq; subst hz; exact Run.st (fun t kt => XS.iadd X.here hx rfl hd rfl kt) r
theorem Run.x_ladd (X : Stand p l e R s m args below meth c T locs cells slots) (hx : p.tables.exec = Jvm.exec) {pc q : Nat} {Ls : Array Slot} {S : List Value} {x y z : Int64} (hd : decode c.code pc = .ok (.ladd, 1)) (hz : x + y = z) (hq : pc + 1 = q) (r : Run p e below s Q k n (T.setTop (mkF m q Ls (.long z :: S)))) : Run p e below s Q k n (T.setTop (mkF m pc Ls (.long y :: .long x :: S))) := by
  subst hq; subst hz; exact Run.st (fun t kt => XS.ladd X.here hx rfl hd rfl kt) r
theorem Run.x_isub (X : Stand p l e R s m args below meth c T locs cells slots) (hx : p.tables.exec = Jvm.exec) {pc q : Nat} {Ls : Array Slot} {S : List Value} {x y z : Int32} (hd : decode c.code pc = .ok (.isub, 1)) (hz : x - y = z) (hq : pc + 1 = q) (r : Run p e below s Q k n (T.setTop (mkF m q Ls (.int z :: S)))) : Run p e below s Q k n (T.setTop (mkF m pc Ls (.int y :: .int x :: S))) := by
  subst hq; subst hz; exact Run.st (fun t kt => XS.isub X.here hx rfl hd rfl kt) r
theorem Run.x_lsub (X : Stand p l e R s m args below meth c T locs cells slots) (hx : p.tables.exec = Jvm.exec) {pc q : Nat} {Ls : Array Slot} {S : List Value} {x y z : Int64} (hd : decode c.code pc = .ok (.lsub, 1)) (hz : x - y = z) (hq : pc + 1 = q) (r : Run p e below s Q k n (T.setTop (mkF m q Ls (.long z :: S)))) : Run p e below s Q k n (T.setTop (mkF m pc Ls (.long y :: .long x :: S))) := by
  subst hq; subst hz; exact Run.st (fun t kt => XS.lsub X.here hx rfl hd rfl kt) r
theorem Run.x_imul (X : Stand p l e R s m args below meth c T locs cells slots) (hx : p.tables.exec = Jvm.exec) {pc q : Nat} {Ls : Array Slot} {S : List Value} {x y z : Int32} (hd : decode c.code pc = .ok (.imul, 1)) (hz : x * y = z) (hq : pc + 1 = q) (r : Run p e below s Q k n (T.setTop (mkF m q Ls (.int z :: S)))) : Run p e below s Q k n (T.setTop (mkF m pc Ls (.int y :: .int x :: S))) := by
  subst hq; subst hz; exact Run.st (fun t kt => XS.imul X.here hx rfl hd rfl kt) r
theorem Run.x_lmul (X : Stand p l e R s m args below meth c T locs cells slots) (hx : p.tables.exec = Jvm.exec) {pc q : Nat} {Ls : Array Slot} {S : List Value} {x y z : Int64} (hd : decode c.code pc = .ok (.lmul, 1)) (hz : x * y = z) (hq : pc + 1 = q) (r : Run p e below s Q k n (T.setTop (mkF m q Ls (.long z :: S)))) : Run p e below s Q k n (T.setTop (mkF m pc Ls (.long y :: .long x :: S))) := by
  subst hq; subst hz; exact Run.st (fun t kt => XS.lmul X.here hx rfl hd rfl kt) r
theorem Run.x_iand (X : Stand p l e R s m args below meth c T locs cells slots) (hx : p.tables.exec = Jvm.exec) {pc q : Nat} {Ls : Array Slot} {S : List Value} {x y z : Int32} (hd : decode c.code pc = .ok (.iand, 1)) (hz : x &&& y = z) (hq : pc + 1 = q) (r : Run p e below s Q k n (T.setTop (mkF m q Ls (.int z :: S)))) : Run p e below s Q k n (T.setTop (mkF m pc Ls (.int y :: .int x :: S))) := by
  subst hq; subst hz; exact Run.st (fun t kt => XS.iand X.here hx rfl hd rfl kt) r
theorem Run.x_land (X : Stand p l e R s m args below meth c T locs cells slots) (hx : p.tables.exec = Jvm.exec) {pc q : Nat} {Ls : Array Slot} {S : List Value} {x y z : Int64} (hd : decode c.code pc = .ok (.land, 1)) (hz : x &&& y = z) (hq : pc + 1 = q) (r : Run p e below s Q k n (T.setTop (mkF m q Ls (.long z :: S)))) : Run p e below s Q k n (T.setTop (mkF m pc Ls (.long y :: .long x :: S))) := by
  subst hq; subst hz; exact Run.st (fun t kt => XS.land X.here hx rfl hd rfl kt) r
theorem Run.x_ior (X : Stand p l e R s m args below meth c T locs cells slots) (hx : p.tables.exec = Jvm.exec) {pc q : Nat} {Ls : Array Slot} {S : List Value} {x y z : Int32} (hd : decode c.code pc = .ok (.ior, 1)) (hz : x ||| y = z) (hq : pc + 1 = q) (r : Run p e below s Q k n (T.setTop (mkF m q Ls (.int z :: S)))) : Run p e below s Q k n (T.setTop (mkF m pc Ls (.int y :: .int x :: S))) := by
  subst hq; subst hz; exact Run.st (fun t kt => XS.ior X.here hx rfl hd rfl kt) r
theorem Run.x_lor (X : Stand p l e R s m args below meth c T locs cells slots) (hx : p.tables.exec = Jvm.exec) {pc q : Nat} {Ls : Array Slot} {S : List Value} {x y z : Int64} (hd : decode c.code pc = .ok (.lor, 1)) (hz : x ||| y = z) (hq : pc + 1 = q) (r : Run p e below s Q k n (T.setTop (mkF m q Ls (.long z :: S)))) : Run p e below s Q k n (T.setTop (mkF m pc Ls (.long y :: .long x :: S))) := by
  subst hq; subst hz; exact Run.st (fun t kt => XS.lor X.here hx rfl hd rfl kt) r
theorem Run.x_ixor (X : Stand p l e R s m args below meth c T locs cells slots) (hx : p.tables.exec = Jvm.exec) {pc q : Nat} {Ls : Array Slot} {S : List Value} {x y z : Int32} (hd : decode c.code pc = .ok (.ixor, 1)) (hz : x ^^^ y = z) (hq : pc + 1 = q) (r : Run p e below s Q k n (T.setTop (mkF m q Ls (.int z :: S)))) : Run p e below s Q k n (T.setTop (mkF m pc Ls (.int y :: .int x :: S))) := by
  subst hq; subst hz; exact Run.st (fun t kt => XS.ixor X.here hx rfl hd rfl kt) r
theorem Run.x_lxor (X : Stand p l e R s m args below meth c T locs cells slots) (hx : p.tables.exec = Jvm.exec) {pc q : Nat} {Ls : Array Slot} {S : List Value} {x y z : Int64} (hd : decode c.code pc = .ok (.lxor, 1)) (hz : x ^^^ y = z) (hq : pc + 1 = q) (r : Run p e below s Q k n (T.setTop (mkF m q Ls (.long z :: S)))) : Run p e below s Q k n (T.setTop (mkF m pc Ls (.long y :: .long x :: S))) := by
  subst hq; subst hz; exact Run.st (fun t kt => XS.lxor X.here hx rfl hd rfl kt) r
theorem Run.x_ishl (X : Stand p l e R s m args below meth c T locs cells slots) (hx : p.tables.exec = Jvm.exec) {pc q : Nat} {Ls : Array Slot} {S : List Value} {x y z : Int32} (hd : decode c.code pc = .ok (.ishl, 1)) (hz : x <<< (y &&& 31) = z) (hq : pc + 1 = q) (r : Run p e below s Q k n (T.setTop (mkF m q Ls (.int z :: S)))) : Run p e below s Q k n (T.setTop (mkF m pc Ls (.int y :: .int x :: S))) := by
  subst hq; subst hz; exact Run.st (fun t kt => XS.ishl X.here hx rfl hd rfl kt) r
theorem Run.x_ishr (X : Stand p l e R s m args below meth c T locs cells slots) (hx : p.tables.exec = Jvm.exec) {pc q : Nat} {Ls : Array Slot} {S : List Value} {x y z : Int32} (hd : decode c.code pc = .ok (.ishr, 1)) (hz : x >>> (y &&& 31) = z) (hq : pc + 1 = q) (r : Run p e below s Q k n (T.setTop (mkF m q Ls (.int z :: S)))) : Run p e below s Q k n (T.setTop (mkF m pc Ls (.int y :: .int x :: S))) := by
  subst hq; subst hz; exact Run.st (fun t kt => XS.ishr X.here hx rfl hd rfl kt) r
theorem Run.x_iushr (X : Stand p l e R s m args below meth c T locs cells slots) (hx : p.tables.exec = Jvm.exec) {pc q : Nat} {Ls : Array Slot} {S : List Value} {x y z : Int32} (hd : decode c.code pc = .ok (.iushr, 1)) (hz : (x.toUInt32 >>> (y &&& 31).toUInt32).toInt32 = z) (hq : pc + 1 = q) (r : Run p e below s Q k n (T.setTop (mkF m q Ls (.int z :: S)))) : Run p e below s Q k n (T.setTop (mkF m pc Ls (.int y :: .int x :: S))) := by
  subst hq; subst hz; exact Run.st (fun t kt => XS.iushr X.here hx rfl hd rfl kt) r
theorem Run.x_lshl (X : Stand p l e R s m args below meth c T locs cells slots) (hx : p.tables.exec = Jvm.exec) {pc q : Nat} {Ls : Array Slot} {S : List Value} {x z : Int64} {y : Int32} (hd : decode c.code pc = .ok (.lshl, 1)) (hz : x <<< (y &&& 0x3f).toInt64 = z) (hq : pc + 1 = q) (r : Run p e below s Q k n (T.setTop (mkF m q Ls (.long z :: S)))) : Run p e below s Q k n (T.setTop (mkF m pc Ls (.int y :: .long x :: S))) := by
  subst hq; subst hz; exact Run.st (fun t kt => XS.lshl X.here hx rfl hd rfl kt) r
theorem Run.x_lshr (X : Stand p l e R s m args below meth c T locs cells slots) (hx : p.tables.exec = Jvm.exec) {pc q : Nat} {Ls : Array Slot} {S : List Value} {x z : Int64} {y : Int32} (hd : decode c.code pc = .ok (.lshr, 1)) (hz : x >>> (y &&& 0x3f).toInt64 = z) (hq : pc + 1 = q) (r : Run p e below s Q k n (T.setTop (mkF m q Ls (.long z :: S)))) : Run p e below s Q k n (T.setTop (mkF m pc Ls (.int y :: .long x :: S))) := by
  subst hq; subst hz; exact Run.st (fun t kt => XS.lshr X.here hx rfl hd rfl kt) r
theorem Run.x_lushr (X : Stand p l e R s m args below meth c T locs cells slots) (hx : p.tables.exec = Jvm.exec) {pc q : Nat} {Ls : Array Slot} {S : List Value} {x z : Int64} {y : Int32} (hd : decode c.code pc = .ok (.lushr, 1)) (hz : (x.toUInt64 >>> (y &&& 0x3f).toInt64.toUInt64).toInt64 = z) (hq : pc + 1 = q) (r : Run p e below s Q k n (T.setTop (mkF m q Ls (.long z :: S)))) : Run p e below s Q k n (T.setTop (mkF m pc Ls (.int y :: .long x :: S))) := by
  subst hq; subst hz; exact Run.st (fun t kt => XS.lushr X.here hx rfl hd rfl kt) r
theorem Run.x_ineg (X : Stand p l e R s m args below meth c T locs cells slots) (hx : p.tables.exec = Jvm.exec) {pc q : Nat} {Ls : Array Slot} {S : List Value} {x : Int32} {z : Int32} (hd : decode c.code pc = .ok (.ineg, 1)) (hz : -x = z) (hq : pc + 1 = q) (r : Run p e below s Q k n (T.setTop (mkF m q Ls (.int z :: S)))) : Run p e below s Q k n (T.setTop (mkF m pc Ls (.int x :: S))) := by
  subst hq; subst hz; exact Run.st (fun t kt => XS.ineg X.here hx rfl hd rfl kt) r
theorem Run.x_lneg (X : Stand p l e R s m args below meth c T locs cells slots) (hx : p.tables.exec = Jvm.exec) {pc q : Nat} {Ls : Array Slot} {S : List Value} {x : Int64} {z : Int64} (hd : decode c.code pc = .ok (.lneg, 1)) (hz : -x = z) (hq : pc + 1 = q) (r : Run p e below s Q k n (T.setTop (mkF m q Ls (.long z :: S)))) : Run p e below s Q k n (T.setTop (mkF m pc Ls (.long x :: S))) := by
  subst hq; subst hz; exact Run.st (fun t kt => XS.lneg X.here hx rfl hd rfl kt) r
theorem Run.x_i2l (X : Stand p l e R s m args below meth c T locs cells slots) (hx : p.tables.exec = Jvm.exec) {pc q : Nat} {Ls : Array Slot} {S : List Value} {x : Int32} {z : Int64} (hd : decode c.code pc = .ok (.i2l, 1)) (hz : x.toInt64 = z) (hq : pc + 1 = q) (r : Run p e below s Q k n (T.setTop (mkF m q Ls (.long z :: S)))) : Run p e below s Q k n (T.setTop (mkF m pc Ls (.int x :: S))) := by
  subst hq; subst hz; exact Run.st (fun t kt => XS.i2l X.here hx rfl hd rfl kt) r
theorem Run.x_l2i (X : Stand p l e R s m args below meth c T locs cells slots) (hx : p.tables.exec = Jvm.exec) {pc q : Nat} {Ls : Array Slot} {S : List Value} {x : Int64} {z : Int32} (hd : decode c.code pc = .ok (.l2i, 1)) (hz : x.toInt32 = z) (hq : pc + 1 = q) (r : Run p e below s Q k n (T.setTop (mkF m q Ls (.int z :: S)))) : Run p e below s Q k n (T.setTop (mkF m pc Ls (.long x :: S))) := by
  subst hq; subst hz; exact Run.st (fun t kt => XS.l2i X.here hx rfl hd rfl kt) r
theorem Run.x_i2b (X : Stand p l e R s m args below meth c T locs cells slots) (hx : p.tables.exec = Jvm.exec) {pc q : Nat} {Ls : Array Slot} {S : List Value} {x : Int32} {z : Int32} (hd : decode c.code pc = .ok (.i2b, 1)) (hz : x.toInt8.toInt32 = z) (hq : pc + 1 = q) (r : Run p e below s Q k n (T.setTop (mkF m q Ls (.int z :: S)))) : Run p e below s Q k n (T.setTop (mkF m pc Ls (.int x :: S))) := by
  subst hq; subst hz; exact Run.st (fun t kt => XS.i2b X.here hx rfl hd rfl kt) r
theorem Run.x_i2s (X : Stand p l e R s m args below meth c T locs cells slots) (hx : p.tables.exec = Jvm.exec) {pc q : Nat} {Ls : Array Slot} {S : List Value} {x : Int32} {z : Int32} (hd : decode c.code pc = .ok (.i2s, 1)) (hz : x.toInt16.toInt32 = z) (hq : pc + 1 = q) (r : Run p e below s Q k n (T.setTop (mkF m q Ls (.int z :: S)))) : Run p e below s Q k n (T.setTop (mkF m pc Ls (.int x :: S))) := by
  subst hq; subst hz; exact Run.st (fun t kt => XS.i2s X.here hx rfl hd rfl kt) r
theorem Run.x_i2c (X : Stand p l e R s m args below meth c T locs cells slots) (hx : p.tables.exec = Jvm.exec) {pc q : Nat} {Ls : Array Slot} {S : List Value} {x : Int32} {z : Int32} (hd : decode c.code pc = .ok (.i2c, 1)) (hz : x.toUInt32.toUInt16.toUInt32.toInt32 = z) (hq : pc + 1 = q) (r : Run p e below s Q k n (T.setTop (mkF m q Ls (.int z :: S)))) : Run p e below s Q k n (T.setTop (mkF m pc Ls (.int x :: S))) := by
  subst hq; subst hz; exact Run.st (fun t kt => XS.i2c X.here hx rfl hd rfl kt) r
theorem Run.x_lcmp (X : Stand p l e R s m args below meth c T locs cells slots) (hx : p.tables.exec = Jvm.exec) {pc q : Nat} {Ls : Array Slot} {S : List Value} {x y : Int64} (hd : decode c.code pc = .ok (.lcmp, 1)) (hq : pc + 1 = q) (r : Run p e below s Q k n (T.setTop (mkF m q Ls (.int (lcmpW x y) :: S)))) : Run p e below s Q k n (T.setTop (mkF m pc Ls (.long y :: .long x :: S))) := by
  subst hq; exact Run.st (fun t kt => XS.lcmp X.here hx rfl hd rfl kt) r
theorem Run.x_idiv (X : Stand p l e R s m args below meth c T locs cells slots) (hx : p.tables.exec = Jvm.exec) {pc q : Nat} {Ls : Array Slot} {S : List Value} {x y z : Int32} (hd : decode c.code pc = .ok (.idiv, 1)) (hy : y ≠ 0) (hz : x / y = z) (hq : pc + 1 = q) (r : Run p e below s Q k n (T.setTop (mkF m q Ls (.int z :: S)))) : Run p e below s Q k n (T.setTop (mkF m pc Ls (.int y :: .int x :: S))) := by
  subst hq; subst hz; exact Run.st (fun t kt => XS.idiv X.here hx rfl hd rfl hy kt) r
theorem Run.x_ldiv (X : Stand p l e R s m args below meth c T locs cells slots) (hx : p.tables.exec = Jvm.exec) {pc q : Nat} {Ls : Array Slot} {S : List Value} {x y z : Int64} (hd : decode c.code pc = .ok (.ldiv, 1)) (hy : y ≠ 0) (hz : x / y = z) (hq : pc + 1 = q) (r : Run p e below s Q k n (T.setTop (mkF m q Ls (.long z :: S)))) : Run p e below s Q k n (T.setTop (mkF m pc Ls (.long y :: .long x :: S))) := by
  subst hq; subst hz; exact Run.st (fun t kt => XS.ldiv X.here hx rfl hd rfl hy kt) r
theorem Run.x_irem (X : Stand p l e R s m args below meth c T locs cells slots) (hx : p.tables.exec = Jvm.exec) {pc q : Nat} {Ls : Array Slot} {S : List Value} {x y z : Int32} (hd : decode c.code pc = .ok (.irem, 1)) (hy : y ≠ 0) (hz : x % y = z) (hq : pc + 1 = q) (r : Run p e below s Q k n (T.setTop (mkF m q Ls (.int z :: S)))) : Run p e below s Q k n (T.setTop (mkF m pc Ls (.int y :: .int x :: S))) := by
  subst hq; subst hz; exact Run.st (fun t kt => iremM (g := mkF m pc Ls (.int y :: .int x :: S)) X hx rfl hd rfl hy kt) r
theorem Run.x_lrem (X : Stand p l e R s m args below meth c T locs cells slots) (hx : p.tables.exec = Jvm.exec) {pc q : Nat} {Ls : Array Slot} {S : List Value} {x y z : Int64} (hd : decode c.code pc = .ok (.lrem, 1)) (hy : y ≠ 0) (hz : x % y = z) (hq : pc + 1 = q) (r : Run p e below s Q k n (T.setTop (mkF m q Ls (.long z :: S)))) : Run p e below s Q k n (T.setTop (mkF m pc Ls (.long y :: .long x :: S))) := by
  subst hq; subst hz; rw [← lrem_mod] at r; exact Run.st (fun t kt => XS.lrem X.here hx rfl hd rfl hy kt) r
theorem Run.x_iinc (X : Stand p l e R s m args below meth c T locs cells slots) (hx : p.tables.exec = Jvm.exec) {pc q : Nat} {Ls : Array Slot} {S : List Value} {j : Nat} {i : Int} {x z : Int32} (L' : Array Slot) (hd : decode c.code pc = .ok (.iinc j i, 3)) (hl : Ls[j]? = some (.val (.int x))) (hz : x + Int32.ofInt i = z) (hl' : storeLocals Ls j (.int z) = some L') (hq : pc + 3 = q) (r : Run p e below s Q k n (T.setTop (mkF m q L' (S)))) : Run p e below s Q k n (T.setTop (mkF m pc Ls (S))) := by
  subst hq; subst hz; exact Run.st (fun t kt => XS.iinc X.here hx rfl hd hl hl' kt) r
theorem Run.x_dup (X : Stand p l e R s m args below meth c T locs cells slots) (hx : p.tables.exec = Jvm.exec) {pc q : Nat} {Ls : Array Slot} {S : List Value} {v : Value} (hd : decode c.code pc = .ok (.dup, 1)) (hc : v.category = 1) (hq : pc + 1 = q) (r : Run p e below s Q k n (T.setTop (mkF m q Ls (v :: v :: S)))) : Run p e below s Q k n (T.setTop (mkF m pc Ls (v :: S))) := by
  subst hq; exact Run.st (fun t kt => XS.dup X.here hx rfl hd rfl hc kt) r
theorem Run.x_dup_x1 (X : Stand p l e R s m args below meth c T locs cells slots) (hx : p.tables.exec = Jvm.exec) {pc q : Nat} {Ls : Array Slot} {S : List Value} {v w : Value} (hd : decode c.code pc = .ok (.dup_x1, 1)) (hc : v.category = 1) (hc' : w.category = 1) (hq : pc + 1 = q) (r : Run p e below s Q k n (T.setTop (mkF m q Ls (v :: w :: v :: S)))) : Run p e below s Q k n (T.setTop (mkF m pc Ls (v :: w :: S))) := by
  subst hq; exact Run.st (fun t kt => XS.dupX1 X.here hx rfl hd rfl hc hc' kt) r
theorem Run.x_dup2 (X : Stand p l e R s m args below meth c T locs cells slots) (hx : p.tables.exec = Jvm.exec) {pc q : Nat} {Ls : Array Slot} {S : List Value} {v w : Value} (hd : decode c.code pc = .ok (.dup2, 1)) (hc : v.category = 1) (hc' : w.category = 1) (hq : pc + 1 = q) (r : Run p e below s Q k n (T.setTop (mkF m q Ls (v :: w :: v :: w :: S)))) : Run p e below s Q k n (T.setTop (mkF m pc Ls (v :: w :: S))) := by
  subst hq; exact Run.st (fun t kt => XT.dup2 X.here hx rfl hd rfl hc hc' kt) r
theorem Run.x_pop (X : Stand p l e R s m args below meth c T locs cells slots) (hx : p.tables.exec = Jvm.exec) {pc q : Nat} {Ls : Array Slot} {S : List Value} {v : Value} (hd : decode c.code pc = .ok (.pop, 1)) (hc : v.category = 1) (hq : pc + 1 = q) (r : Run p e below s Q k n (T.setTop (mkF m q Ls (S)))) : Run p e below s Q k n (T.setTop (mkF m pc Ls (v :: S))) := by
  subst hq; exact Run.st (fun t kt => XS.pop X.here hx rfl hd rfl hc kt) r
theorem Run.x_goto (X : Stand p l e R s m args below meth c T locs cells slots) (hx : p.tables.exec = Jvm.exec) {pc q : Nat} {Ls : Array Slot} {S : List Value}  {o : Int} (hd : decode c.code pc = .ok (.goto o, 3)) (ho : 0 ≤ (pc : Int) + o) (hq : ((pc : Int) + o).toNat = q) (r : Run p e below s Q k n (T.setTop (mkF m q Ls (S)))) : Run p e below s Q k n (T.setTop (mkF m pc Ls (S))) :=
  Run.st (fun t kt => XS.goto X.here hx rfl (pc0 := pc) (pc' := q) rfl hd ho hq kt) r
theorem Run.x_ifYes (X : Stand p l e R s m args below meth c T locs cells slots) (hx : p.tables.exec = Jvm.exec) {pc q : Nat} {Ls : Array Slot} {S : List Value} {cd : ClassFile.Cond} {x : Int32} {o : Int} (hd : decode c.code pc = .ok (.ifCond cd o, 3)) (hc : ifCond.holds cd x = true) (ho : 0 ≤ (pc : Int) + o) (hq : ((pc : Int) + o).toNat = q) (r : Run p e below s Q k n (T.setTop (mkF m q Ls (S)))) : Run p e below s Q k n (T.setTop (mkF m pc Ls (.int x :: S))) :=
  Run.st (fun t kt => XS.ifYes X.here hx rfl (pc0 := pc) (pc' := q) rfl hd rfl hc ho hq kt) r
theorem Run.x_icmpYes (X : Stand p l e R s m args below meth c T locs cells slots) (hx : p.tables.exec = Jvm.exec) {pc q : Nat} {Ls : Array Slot} {S : List Value} {cd : ClassFile.Cond} {x y : Int32} {o : Int} (hd : decode c.code pc = .ok (.if_icmp cd o, 3)) (hc : if_icmp.holds cd x y = true) (ho : 0 ≤ (pc : Int) + o) (hq : ((pc : Int) + o).toNat = q) (r : Run p e below s Q k n (T.setTop (mkF m q Ls (S)))) : Run p e below s Q k n (T.setTop (mkF m pc Ls (.int y :: .int x :: S))) :=
  Run.st (fun t kt => XS.icmpYes X.here hx rfl (pc0 := pc) (pc' := q) rfl hd rfl hc ho hq kt) r
theorem Run.x_ifNo (X : Stand p l e R s m args below meth c T locs cells slots) (hx : p.tables.exec = Jvm.exec) {pc q : Nat} {Ls : Array Slot} {S : List Value} {cd : ClassFile.Cond} {x : Int32} {o : Int} (hd : decode c.code pc = .ok (.ifCond cd o, 3)) (hc : ifCond.holds cd x = false) (hq : pc + 3 = q) (r : Run p e below s Q k n (T.setTop (mkF m q Ls (S)))) : Run p e below s Q k n (T.setTop (mkF m pc Ls (.int x :: S))) := by
  subst hq; exact Run.st (fun t kt => XS.ifNo X.here hx rfl hd rfl hc kt) r
theorem Run.x_icmpNo (X : Stand p l e R s m args below meth c T locs cells slots) (hx : p.tables.exec = Jvm.exec) {pc q : Nat} {Ls : Array Slot} {S : List Value} {cd : ClassFile.Cond} {x y : Int32} {o : Int} (hd : decode c.code pc = .ok (.if_icmp cd o, 3)) (hc : if_icmp.holds cd x y = false) (hq : pc + 3 = q) (r : Run p e below s Q k n (T.setTop (mkF m q Ls (S)))) : Run p e below s Q k n (T.setTop (mkF m pc Ls (.int y :: .int x :: S))) := by
  subst hq; exact Run.st (fun t kt => XS.icmpNo X.here hx rfl hd rfl hc kt) r
/-- an array and all that it holds -/
def Ars (Z : State) (h : Heap) (a : Addr) (ty : FieldType) (vs : List Value) : Prop := ∃ c : Cell, Arr Z h a c ty ∧ c.slots.toList = vs
variable {a b : Addr} {ty : FieldType} {vs : List Value} {v : Value} {sl : Nat} {ws : List Addr}
theorem Ars.lt (A : Ars Z h a ty vs) : a < h.size := by obtain ⟨c, A, -⟩ := A; exact A.lt
theorem Ars.ext (A : Ars Z h a ty vs) (E : Ext h h') : Ars Z h' a ty vs := by obtain ⟨c, A, r⟩ := A; exact ⟨c, A.ext E, r⟩
theorem Ars.other (A : Ars Z h b ty vs) (W : Wr h h' a sl v) (q : b ≠ a) : Ars Z h' b ty vs := by obtain ⟨c, A, r⟩ := A; exact ⟨c, A.other W q, r⟩
theorem Ars.keep (A : Ars Z h a ty vs) (K : Keep h h' ws) (q : a ∉ ws) : Ars Z h' a ty vs := by obtain ⟨c, A, r⟩ := A; exact ⟨c, ⟨K.2.1 a c A.1 q, A.2⟩, r⟩
theorem Ars.same (A : Ars Z h a ty vs) (W : Wr h h' a sl v) : Ars Z h' a ty (vs.set sl v) := by
  obtain ⟨c, A, r⟩ := A
  exact ⟨_, A.same W, by subst r; simp [Cell.setSlot]⟩
theorem Ars.new {k : ClassId} {z : Int32} (A : Arr Z h a (newA k ty z) ty) : Ars Z h a ty (List.replicate z.toNatClampNeg (defaultValue ty)) := ⟨_, A, by simp [newA]⟩
theorem in_of {c : Cell} {j : Int32} {i : Nat} (e : c.slots.toList = vs) (hj : j.toInt = i) (hi : i < vs.length) : ¬ (j < 0 ∨ c.slots.size ≤ j.toNatClampNeg) ∧ j.toNatClampNeg = i := by
  have e2 : j.toNatClampNeg = i := by show j.toInt.toNat = i; rw [hj]; rfl
  have e3 : c.slots.size = vs.length := by rw [← e]; simp
  refine ⟨?_, e2⟩
  rw [e2, e3, Int32.lt_iff_toInt_lt, hj]
  have : (0 : Int32).toInt = 0 := rfl
  omega
theorem at_of {c : Cell} {j : Int32} {i : Nat} (e : c.slots.toList = vs) (hj : j.toInt = i) (hi : vs[i]? = some v) : ¬ (j < 0 ∨ c.slots.size ≤ j.toNatClampNeg) ∧ c.slots[j.toNatClampNeg]? = some v := by
  obtain ⟨q, e2⟩ := in_of e hj (List.getElem?_eq_some_iff.mp hi).1
  refine ⟨q, ?_⟩
  rw [e2, ← hi, ← e]; simp
theorem Run.newP (X : Stand p l e R s m args below meth c T locs cells slots) (hx : p.tables.exec = Jvm.exec) (hZ : Z.Warmed39 s.vm) (eT : T.heap = h) {aty : ArrayType} (w : (Jvm.Cond.arrayClass (newarray.typeOf aty)).before a0 Z = true) {pc : Nat} {Ls : Array Slot} {z : Int32} {rest : List Value} (hd : decode c.code pc = .ok (.newarray aty, 2))
    {len : Nat} (hz : ¬ z < 0) (hlen : z.toNatClampNeg = len) {cap : Nat} (hcap : len ≤ cap) (hb : cap * 8 ≤ 536870912) (hc : cells + 1 ≤ R.cells) (hl : slots + cap ≤ R.slots)
    (kk : ∀ (T' : State) (h' : Heap) (b : Addr), b = h.size → Stand p l e R s m args below meth c T' locs (cells + 1) (slots + cap) → T'.heap = h' → Ext h h' → Ars Z h' b (newarray.typeOf aty) (List.replicate len (defaultValue (newarray.typeOf aty))) → Run p e below s Q k n (T'.setTop (mkF m (pc + 2) Ls (.ref b :: rest)))) :
    Run p e below s Q k n (T.setTop (mkF m pc Ls (.int z :: rest))) := by
  obtain ⟨T', h', k', X', e', E', A', st'⟩ := RoadKit.newP X hx hZ w eT (g := mkF m pc Ls (.int z :: rest)) rfl hd rfl hz (cap := cap) (by rw [hlen]; exact hcap) hb hc hl
  have A2 := Ars.new A'
  rw [hlen] at A2
  exact Run.st st' (kk T' h' _ rfl X' e' E' A2)
theorem Run.newR (X : Stand p l e R s m args below meth c T locs cells slots) (hx : p.tables.exec = Jvm.exec) (hZ : Z.Warmed39 s.vm) (eT : T.heap = h) {own C : String} {index : Nat} (hown : s.vm.findClass own = some m.cls) (w1 : (Jvm.Cond.classLink own index C).before a0 Z = true) (w2 : (Jvm.Cond.arrayOver (.object C)).before a0 Z = true) {pc : Nat} {Ls : Array Slot} {z : Int32} {rest : List Value} (hd : decode c.code pc = .ok (.anewarray index, 3))
    {len : Nat} (hz : ¬ z < 0) (hlen : z.toNatClampNeg = len) {cap : Nat} (hcap : len ≤ cap) (hb : cap * 8 ≤ 536870912) (hc : cells + 1 ≤ R.cells) (hl : slots + cap ≤ R.slots)
    (kk : ∀ (T' : State) (h' : Heap) (b : Addr), b = h.size → Stand p l e R s m args below meth c T' locs (cells + 1) (slots + cap) → T'.heap = h' → Ext h h' → Ars Z h' b (.object C) (List.replicate len .null) → Run p e below s Q k n (T'.setTop (mkF m (pc + 3) Ls (.ref b :: rest)))) :
    Run p e below s Q k n (T.setTop (mkF m pc Ls (.int z :: rest))) := by
  obtain ⟨T', h', k', X', e', E', A', -, st'⟩ := RoadKit.newR X hx hZ hown w1 w2 eT (g := mkF m pc Ls (.int z :: rest)) rfl hd rfl hz (cap := cap) (by rw [hlen]; exact hcap) hb hc hl
  have A2 := Ars.new A'
  rw [hlen] at A2
  exact Run.st st' (kk T' h' _ rfl X' e' E' A2)
theorem Run.ldI (X : Stand p l e R s m args below meth c T locs cells slots) (hx : p.tables.exec = Jvm.exec) (hZ : Z.Warmed39 s.vm) (eT : T.heap = h) (A : Ars Z h a .int vs) {j : Int32} {i : Nat} (hj : j.toInt = i) (hi : vs[i]? = some v) {pc : Nat} {Ls : Array Slot} {rest : List Value} (hd : decode c.code pc = .ok (.iaload, 1))
    (r : Run p e below s Q k n (T.setTop (mkF m (pc + 1) Ls (v :: rest)))) : Run p e below s Q k n (T.setTop (mkF m pc Ls (.int j :: .ref a :: rest))) := by
  obtain ⟨cl, A, q⟩ := A
  obtain ⟨q1, q2⟩ := at_of q hj hi
  exact Run.st (fun t kt => X.iaload hx (j := j) (v := v) (by rw [eT]; exact A.1) (State.isArrayOf_alike hZ.alike A.2.1) A.2.2 q1 q2 (g := mkF m pc Ls (.int j :: .ref a :: rest)) rfl rfl hd _ kt) r
theorem Run.ldC (X : Stand p l e R s m args below meth c T locs cells slots) (hx : p.tables.exec = Jvm.exec) (hZ : Z.Warmed39 s.vm) (eT : T.heap = h) (A : Ars Z h a .char vs) {j : Int32} {i : Nat} (hj : j.toInt = i) (hi : vs[i]? = some v) {pc : Nat} {Ls : Array Slot} {rest : List Value} (hd : decode c.code pc = .ok (.caload, 1))
    (r : Run p e below s Q k n (T.setTop (mkF m (pc + 1) Ls (v :: rest)))) : Run p e below s Q k n (T.setTop (mkF m pc Ls (.int j :: .ref a :: rest))) := by
  obtain ⟨cl, A, q⟩ := A
  obtain ⟨q1, q2⟩ := at_of q hj hi
  exact Run.st (fun t kt => X.caload hx (j := j) (v := v) (by rw [eT]; exact A.1) (State.isArrayOf_alike hZ.alike A.2.1) A.2.2 q1 q2 (g := mkF m pc Ls (.int j :: .ref a :: rest)) rfl rfl hd _ kt) r
theorem Run.ldJ (X : Stand p l e R s m args below meth c T locs cells slots) (hx : p.tables.exec = Jvm.exec) (hZ : Z.Warmed39 s.vm) (eT : T.heap = h) (A : Ars Z h a .long vs) {j : Int32} {i : Nat} (hj : j.toInt = i) (hi : vs[i]? = some v) {pc : Nat} {Ls : Array Slot} {rest : List Value} (hd : decode c.code pc = .ok (.laload, 1))
    (r : Run p e below s Q k n (T.setTop (mkF m (pc + 1) Ls (v :: rest)))) : Run p e below s Q k n (T.setTop (mkF m pc Ls (.int j :: .ref a :: rest))) := by
  obtain ⟨cl, A, q⟩ := A
  obtain ⟨q1, q2⟩ := at_of q hj hi
  exact Run.st (fun t kt => X.laload hx (j := j) (v := v) (by rw [eT]; exact A.1) (State.isArrayOf_alike hZ.alike A.2.1) A.2.2 q1 q2 (g := mkF m pc Ls (.int j :: .ref a :: rest)) rfl rfl hd _ kt) r
theorem Run.ldB (X : Stand p l e R s m args below meth c T locs cells slots) (hx : p.tables.exec = Jvm.exec) (hZ : Z.Warmed39 s.vm) (eT : T.heap = h) (A : Ars Z h a .byte vs) {j : Int32} {i : Nat} (hj : j.toInt = i) (hi : vs[i]? = some v) {pc : Nat} {Ls : Array Slot} {rest : List Value} (hd : decode c.code pc = .ok (.baload, 1))
    (r : Run p e below s Q k n (T.setTop (mkF m (pc + 1) Ls (v :: rest)))) : Run p e below s Q k n (T.setTop (mkF m pc Ls (.int j :: .ref a :: rest))) := by
  obtain ⟨cl, A, q⟩ := A
  obtain ⟨q1, q2⟩ := at_of q hj hi
  exact Run.st (fun t kt => X.baloadBytes hx (j := j) (v := v) (by rw [eT]; exact A.1) (State.isArrayOf_alike hZ.alike A.2.1) A.2.2 q1 q2 (g := mkF m pc Ls (.int j :: .ref a :: rest)) rfl rfl hd _ kt) r
theorem Run.ldZ (X : Stand p l e R s m args below meth c T locs cells slots) (hx : p.tables.exec = Jvm.exec) (hZ : Z.Warmed39 s.vm) (eT : T.heap = h) (A : Ars Z h a .boolean vs) {j : Int32} {i : Nat} (hj : j.toInt = i) (hi : vs[i]? = some v) {pc : Nat} {Ls : Array Slot} {rest : List Value} (hd : decode c.code pc = .ok (.baload, 1))
    (r : Run p e below s Q k n (T.setTop (mkF m (pc + 1) Ls (v :: rest)))) : Run p e below s Q k n (T.setTop (mkF m pc Ls (.int j :: .ref a :: rest))) := by
  obtain ⟨cl, A, q⟩ := A
  obtain ⟨q1, q2⟩ := at_of q hj hi
  exact Run.st (fun t kt => X.baloadBooleans hx (j := j) (v := v) (by rw [eT]; exact A.1) (State.isArrayOf_alike hZ.alike A.2.1) A.2.2 q1 q2 (g := mkF m pc Ls (.int j :: .ref a :: rest)) rfl rfl hd _ kt) r
theorem Run.ldR (X : Stand p l e R s m args below meth c T locs cells slots) (hx : p.tables.exec = Jvm.exec) (hZ : Z.Warmed39 s.vm) (eT : T.heap = h) (A : Ars Z h a ty vs) {j : Int32} {i : Nat} (hj : j.toInt = i) (hi : vs[i]? = some v) (hty : ty.isReference = true) {pc : Nat} {Ls : Array Slot} {rest : List Value} (hd : decode c.code pc = .ok (.aaload, 1))
    (r : Run p e below s Q k n (T.setTop (mkF m (pc + 1) Ls (v :: rest)))) : Run p e below s Q k n (T.setTop (mkF m pc Ls (.int j :: .ref a :: rest))) := by
  obtain ⟨cl, A, q⟩ := A
  obtain ⟨q1, q2⟩ := at_of q hj hi
  exact Run.st (fun t kt => X.aaload hx (j := j) (v := v) (by rw [eT]; exact A.1) (State.isArrayOf_alike hZ.alike A.2.1) hty A.2.2 q1 q2 (g := mkF m pc Ls (.int j :: .ref a :: rest)) rfl rfl hd _ kt) r
theorem Run.alen (X : Stand p l e R s m args below meth c T locs cells slots) (hx : p.tables.exec = Jvm.exec) (hZ : Z.Warmed39 s.vm) (eT : T.heap = h) (A : Ars Z h a ty vs) {z : Int32} (hz : vs.length.toInt32 = z) {pc : Nat} {Ls : Array Slot} {rest : List Value} (hd : decode c.code pc = .ok (.arraylength, 1))
    (r : Run p e below s Q k n (T.setTop (mkF m (pc + 1) Ls (.int z :: rest)))) : Run p e below s Q k n (T.setTop (mkF m pc Ls (.ref a :: rest))) := by
  obtain ⟨cl, A, q⟩ := A
  have e1 : cl.slots.size.toInt32 = z := by rw [← hz, ← q]; simp
  rw [← e1] at r
  exact Run.st (fun t kt => X.arraylength hx (by rw [eT]; exact A.1) (State.isArrayOf_alike hZ.alike A.2.1) (g := mkF m pc Ls (.ref a :: rest)) rfl rfl hd _ kt) r
theorem Run.stI (X : Stand p l e R s m args below meth c T locs cells slots) (hx : p.tables.exec = Jvm.exec) (hZ : Z.Warmed39 s.vm) (eT : T.heap = h) (A : Ars Z h a .int vs) {j z : Int32} {i : Nat} (hj : j.toInt = i) (hi : i < vs.length) {pc : Nat} {Ls : Array Slot} {rest : List Value} (hd : decode c.code pc = .ok (.iastore, 1))
    (kk : ∀ (T' : State) (h' : Heap), Stand p l e R s m args below meth c T' (locs ++ [⟨a, i⟩]) cells slots → T'.heap = h' → Wr h h' a i (.int z) → Ars Z h' a .int (vs.set i (.int z)) → Run p e below s Q k n (T'.setTop (mkF m (pc + 1) Ls rest))) : Run p e below s Q k n (T.setTop (mkF m pc Ls (.int z :: .int j :: .ref a :: rest))) := by
  obtain ⟨cl, A1, q⟩ := id A
  obtain ⟨q1, q2⟩ := in_of q hj hi
  obtain ⟨T', h', X', e', W', st'⟩ := RoadKit.stI X hx hZ eT A1 (j := j) (x := z) q1 (g := mkF m pc Ls (.int z :: .int j :: .ref a :: rest)) rfl rfl hd
  rw [q2] at X' W'
  exact Run.st st' (kk T' h' X' e' W' (A.same W'))
theorem Run.stJ (X : Stand p l e R s m args below meth c T locs cells slots) (hx : p.tables.exec = Jvm.exec) (hZ : Z.Warmed39 s.vm) (eT : T.heap = h) (A : Ars Z h a .long vs) {j : Int32} {z : Int64} {i : Nat} (hj : j.toInt = i) (hi : i < vs.length) {pc : Nat} {Ls : Array Slot} {rest : List Value} (hd : decode c.code pc = .ok (.lastore, 1))
    (kk : ∀ (T' : State) (h' : Heap), Stand p l e R s m args below meth c T' (locs ++ [⟨a, i⟩]) cells slots → T'.heap = h' → Wr h h' a i (.long z) → Ars Z h' a .long (vs.set i (.long z)) → Run p e below s Q k n (T'.setTop (mkF m (pc + 1) Ls rest))) : Run p e below s Q k n (T.setTop (mkF m pc Ls (.long z :: .int j :: .ref a :: rest))) := by
  obtain ⟨cl, A1, q⟩ := id A
  obtain ⟨q1, q2⟩ := in_of q hj hi
  obtain ⟨T', h', X', e', W', st'⟩ := RoadKit.stJ X hx hZ eT A1 (j := j) (x := z) q1 (g := mkF m pc Ls (.long z :: .int j :: .ref a :: rest)) rfl rfl hd
  rw [q2] at X' W'
  exact Run.st st' (kk T' h' X' e' W' (A.same W'))
theorem Run.stC (X : Stand p l e R s m args below meth c T locs cells slots) (hx : p.tables.exec = Jvm.exec) (hZ : Z.Warmed39 s.vm) (eT : T.heap = h) (A : Ars Z h a .char vs) {j z : Int32} {i : Nat} (hj : j.toInt = i) (hi : i < vs.length) {z' : Int32} (hz : nar .char z = z') {pc : Nat} {Ls : Array Slot} {rest : List Value} (hd : decode c.code pc = .ok (.castore, 1))
    (kk : ∀ (T' : State) (h' : Heap), Stand p l e R s m args below meth c T' (locs ++ [⟨a, i⟩]) cells slots → T'.heap = h' → Wr h h' a i (.int z') → Ars Z h' a .char (vs.set i (.int z')) → Run p e below s Q k n (T'.setTop (mkF m (pc + 1) Ls rest))) : Run p e below s Q k n (T.setTop (mkF m pc Ls (.int z :: .int j :: .ref a :: rest))) := by
  obtain ⟨cl, A1, q⟩ := id A
  obtain ⟨q1, q2⟩ := in_of q hj hi
  obtain ⟨T', h', X', e', W', st'⟩ := RoadKit.stC X hx hZ eT A1 (j := j) (x := z) q1 (g := mkF m pc Ls (.int z :: .int j :: .ref a :: rest)) rfl rfl hd
  rw [q2] at X' W'
  rw [hz] at W'
  exact Run.st st' (kk T' h' X' e' W' (A.same W'))
theorem Run.stB (X : Stand p l e R s m args below meth c T locs cells slots) (hx : p.tables.exec = Jvm.exec) (hZ : Z.Warmed39 s.vm) (eT : T.heap = h) (A : Ars Z h a .byte vs) {j z : Int32} {i : Nat} (hj : j.toInt = i) (hi : i < vs.length) {z' : Int32} (hz : nar .byte z = z') {pc : Nat} {Ls : Array Slot} {rest : List Value} (hd : decode c.code pc = .ok (.bastore, 1))
    (kk : ∀ (T' : State) (h' : Heap), Stand p l e R s m args below meth c T' (locs ++ [⟨a, i⟩]) cells slots → T'.heap = h' → Wr h h' a i (.int z') → Ars Z h' a .byte (vs.set i (.int z')) → Run p e below s Q k n (T'.setTop (mkF m (pc + 1) Ls rest))) : Run p e below s Q k n (T.setTop (mkF m pc Ls (.int z :: .int j :: .ref a :: rest))) := by
  obtain ⟨cl, A1, q⟩ := id A
  obtain ⟨q1, q2⟩ := in_of q hj hi
  obtain ⟨T', h', X', e', W', st'⟩ := RoadKit.stB X hx hZ eT A1 (j := j) (x := z) q1 (g := mkF m pc Ls (.int z :: .int j :: .ref a :: rest)) rfl rfl hd
  rw [q2] at X' W'
  rw [hz] at W'
  exact Run.st st' (kk T' h' X' e' W' (A.same W'))
theorem Run.stZ (X : Stand p l e R s m args below meth c T locs cells slots) (hx : p.tables.exec = Jvm.exec) (hZ : Z.Warmed39 s.vm) (eT : T.heap = h) (A : Ars Z h a .boolean vs) {j z : Int32} {i : Nat} (hj : j.toInt = i) (hi : i < vs.length) {z' : Int32} (hz : nar .boolean z = z') {pc : Nat} {Ls : Array Slot} {rest : List Value} (hd : decode c.code pc = .ok (.bastore, 1))
    (kk : ∀ (T' : State) (h' : Heap), Stand p l e R s m args below meth c T' (locs ++ [⟨a, i⟩]) cells slots → T'.heap = h' → Wr h h' a i (.int z') → Ars Z h' a .boolean (vs.set i (.int z')) → Run p e below s Q k n (T'.setTop (mkF m (pc + 1) Ls rest))) : Run p e below s Q k n (T.setTop (mkF m pc Ls (.int z :: .int j :: .ref a :: rest))) := by
  obtain ⟨cl, A1, q⟩ := id A
  obtain ⟨q1, q2⟩ := in_of q hj hi
  obtain ⟨T', h', X', e', W', st'⟩ := RoadKit.stZ X hx hZ eT A1 (j := j) (x := z) q1 (g := mkF m pc Ls (.int z :: .int j :: .ref a :: rest)) rfl rfl hd
  rw [q2] at X' W'
  rw [hz] at W'
  exact Run.st st' (kk T' h' X' e' W' (A.same W'))
end Laws
theorem nar_b01 {z : Int32} (hz : z = 0 ∨ z = 1) : nar .boolean z = z := by rcases hz with rfl | rfl <;> decide
theorem nar_b (x : Int32) : nar .byte x.toInt8.toInt32 = x.toInt8.toInt32 := by
  show x.toInt8.toInt32.toInt8.toInt32 = x.toInt8.toInt32
  simp
theorem nar_c (x : Int32) : nar .char x.toUInt32.toUInt16.toUInt32.toInt32 = x.toUInt32.toUInt16.toUInt32.toInt32 := by
  show x.toUInt32.toUInt16.toUInt32.toInt32.toUInt32.toUInt16.toUInt32.toInt32 = _
  have q : ∀ y : UInt16, y.toUInt32.toInt32.toUInt32.toUInt16 = y := fun y => by simp
  rw [q]
theorem ints_at (xs : List Int32) {i : Nat} (h : i < xs.length) : ∃ x, (xs.map Value.int)[i]? = some (.int x) := ⟨xs[i], by simp [h]⟩
/-- 1 or 0 -/
def own_b (c : Prop) [Decidable c] : Int32 := if c then 1 else 0
theorem own_b1 {c : Prop} [Decidable c] (h : c) : own_b c = 1 := if_pos h
theorem own_b0 {c : Prop} [Decidable c] (h : ¬ c) : own_b c = 0 := if_neg h
theorem own_b01 (c : Prop) [Decidable c] : own_b c = 0 ∨ own_b c = 1 := by unfold own_b; split <;> simp
theorem sub_w (a b : Int32) : (a.toInt64 - b.toInt64).toInt = a.toInt - b.toInt := by
  have h1 := c_lsub a.toInt64 b.toInt64
  have h2 := rng64 (a.toInt64 - b.toInt64)
  have h3 := rng32 a
  have h4 := rng32 b
  rw [c_i2l, c_i2l] at h1
  omega
theorem lt32 (a b : Int32) : a < b ↔ a.toInt < b.toInt := Int32.lt_iff_toInt_lt
theorem lt64 (a b : Int64) : a < b ↔ a.toInt < b.toInt := Int64.lt_iff_toInt_lt
theorem eq32 (a b : Int32) : a = b ↔ a.toInt = b.toInt := Int32.toInt_inj.symm
theorem eq64 (a b : Int64) : a = b ↔ a.toInt = b.toInt := Int64.toInt_inj.symm
/-- an int comes back, nothing is touched -/
def PureI (h0 : Heap) (n0 : Nat) (z : Int32) (v : Option Value) (h : Heap) (L : List Loc) : Prop := v = some (.int z) ∧ Fr n0 L ∧ h = h0
def PureJ (h0 : Heap) (n0 : Nat) (z : Int64) (v : Option Value) (h : Heap) (L : List Loc) : Prop := v = some (.long z) ∧ Fr n0 L ∧ h = h0
def PureR (h0 : Heap) (n0 : Nat) (z : Value) (v : Option Value) (h : Heap) (L : List Loc) : Prop := v = some z ∧ Fr n0 L ∧ h = h0
theorem PureI.mk {h0 : Heap} {n0 : Nat} {z z' : Int32} {L : List Loc} (e : z' = z) (N : Fr n0 L) : PureI h0 n0 z (some (.int z')) h0 L := ⟨by rw [e], N, rfl⟩
theorem PureJ.mk {h0 : Heap} {n0 : Nat} {z z' : Int64} {L : List Loc} (e : z' = z) (N : Fr n0 L) : PureJ h0 n0 z (some (.long z')) h0 L := ⟨by rw [e], N, rfl⟩
/-- the law's own end -/
def Tru (n0 : Nat) (v : Option Value) (h : Heap) (L : List Loc) : Prop := v = some (.int 1) ∧ Fr n0 L
end Jvm.OwnRun
namespace Jvm.Pilot.@@N@@
open Jvm Jvm.ClassFile Sem Op Lib Jvm.Free Jvm.Stand Jvm.LawKit Jvm.RoadKit Jvm.OwnRun Bundle Jvm.Pilot.@@N@@.Jvm.D
abbrev own_chr (c : Int32) : Prop := nar .char c = c
theorem d1_0 : decode method_2_code 0 = .ok (.iload_n 0, 1) := by decide +kernel
theorem d1_1 : decode method_2_code 1 = .ok (.bipush 16, 2) := by decide +kernel
theorem d1_3 : decode method_2_code 3 = .ok (.iushr, 1) := by decide +kernel
theorem d1_4 : decode method_2_code 4 = .ok (.iconst 1, 1) := by decide +kernel
theorem d1_5 : decode method_2_code 5 = .ok (.iand, 1) := by decide +kernel
theorem d1_6 : decode method_2_code 6 = .ok (.ifCond .eq 10, 3) := by decide +kernel
theorem d1_9 : decode method_2_code 9 = .ok (.iload_n 0, 1) := by decide +kernel
theorem d1_10 : decode method_2_code 10 = .ok (.sipush 255, 3) := by decide +kernel
theorem d1_13 : decode method_2_code 13 = .ok (.iand, 1) := by decide +kernel
theorem d1_14 : decode method_2_code 14 = .ok (.i2c, 1) := by decide +kernel
theorem d1_15 : decode method_2_code 15 = .ok (.ireturn, 1) := by decide +kernel
theorem d1_16 : decode method_2_code 16 = .ok (.iload_n 0, 1) := by decide +kernel
theorem d1_17 : decode method_2_code 17 = .ok (.i2c, 1) := by decide +kernel
theorem d1_18 : decode method_2_code 18 = .ok (.ireturn, 1) := by decide +kernel
theorem pn_0 : plainName "needlewise/kmp/DenseAutomatonFitsPinLaw" = true := by first | (simp [plainName, overriddenIn]; done) | decide +kernel
theorem ef_c_draw (m : MethodId) (p1 : Int32) : entryFrame m #[(.int p1)] 1 = mkF m 0 #[.val (.int p1)] [] := by first | (simp [entryFrame, mkF, argsToLocals, Value.category]; done) | rfl
set_option maxRecDepth 65536 in
set_option maxHeartbeats 40000000 in
theorem c_draw (l : Launch) (Z : State) (a0 : Array Value) (hw : ∀ d ∈ tables_1, d.before a0 Z = true) (p1 : Int32) (h0 : Heap) (n0 : Nat) (Z0 : n0 ≤ h0.size)  :
    Ctr l Z (⟨"needlewise/kmp/DenseAutomatonFitsPinLaw", "draw", "(I)C"⟩ : MethodName) method_2_code 1 (some .char) ({ frames := 0, cells := 0, slots := 0, locals := 0 } : Room) #[(.int p1)] h0 (fun v h L => ∃ z : Int32, v = some (.int z) ∧ Fr n0 L ∧ h = h0 ∧ own_chr z) := by
  refine Ctr.of (plainFor_of_name pn_0) (fun m => ef_c_draw m p1) ?_
  intro p e s m below meth c T0 hx hby hml hown hnm hret hlk hZ e0 X0
  have N0 := Fr.nil n0
  replace hown : s.vm.findClass "needlewise/kmp/DenseAutomatonFitsPinLaw" = some m.cls := hown
  replace hml : c.maxLocals = 1 := hml
  refine Run.x_iloadN (q := 1) X0 hx (hb hby d1_0) rfl rfl ?_
  refine Run.x_bipush (q := 3) X0 hx (hb hby d1_1) (z := (16 : Int32)) rfl rfl ?_
  refine Run.x_iushr (q := 4) X0 hx (hb hby d1_3) rfl rfl ?_
  refine Run.x_iconst (q := 5) X0 hx (hb hby d1_4) (z := (1 : Int32)) rfl rfl ?_
  refine Run.x_iand (q := 6) X0 hx (hb hby d1_5) rfl rfl ?_
  by_cases hc6 : (((p1.toUInt32 >>> ((16 : Int32) &&& 31).toUInt32).toInt32) &&& (1 : Int32)) = (0 : Int32)
  · skip
    refine Run.x_ifYes (q := 16) X0 hx (hb hby d1_6) ((if0 _ _).trans (teq hc6).1) (by decide) (by decide) ?_
    refine Run.x_iloadN (q := 17) X0 hx (hb hby d1_16) rfl rfl ?_
    refine Run.x_i2c (q := 18) X0 hx (hb hby d1_17) rfl rfl ?_
    refine Run.retN X0 hx hlk e0 (t := .char) hret (by simp) (z' := p1.toUInt32.toUInt16.toUInt32.toInt32) (nar_c _) (hb hby d1_18) (by decide) (by decide) ?_
    exact ⟨_, rfl, N0, rfl, nar_c _⟩
  · skip
    refine Run.x_ifNo (q := 9) X0 hx (hb hby d1_6) ((if0 _ _).trans (feq hc6).1) rfl ?_
    refine Run.x_iloadN (q := 10) X0 hx (hb hby d1_9) rfl rfl ?_
    refine Run.x_sipush (q := 13) X0 hx (hb hby d1_10) (z := (255 : Int32)) rfl rfl ?_
    refine Run.x_iand (q := 14) X0 hx (hb hby d1_13) rfl rfl ?_
    refine Run.x_i2c (q := 15) X0 hx (hb hby d1_14) rfl rfl ?_
    refine Run.retN X0 hx hlk e0 (t := .char) hret (by simp) (z' := (p1 &&& (255 : Int32)).toUInt32.toUInt16.toUInt32.toInt32) (nar_c _) (hb hby d1_15) (by decide) (by decide) ?_
    exact ⟨_, rfl, N0, rfl, nar_c _⟩
theorem d2_0 : decode method_3_code 0 = .ok (.iload_n 0, 1) := by decide +kernel
theorem d2_1 : decode method_3_code 1 = .ok (.sipush 255, 3) := by decide +kernel
theorem d2_4 : decode method_3_code 4 = .ok (.if_icmp .gt 7, 3) := by decide +kernel
theorem d2_7 : decode method_3_code 7 = .ok (.iconst 1, 1) := by decide +kernel
theorem d2_8 : decode method_3_code 8 = .ok (.goto 4, 3) := by decide +kernel
theorem d2_11 : decode method_3_code 11 = .ok (.iconst 0, 1) := by decide +kernel
theorem d2_12 : decode method_3_code 12 = .ok (.ireturn, 1) := by decide +kernel
theorem ef_c_small (m : MethodId) (p1 : Int32) : entryFrame m #[(.int p1)] 1 = mkF m 0 #[.val (.int p1)] [] := by first | (simp [entryFrame, mkF, argsToLocals, Value.category]; done) | rfl
set_option maxRecDepth 65536 in
set_option maxHeartbeats 40000000 in
theorem c_small (l : Launch) (Z : State) (a0 : Array Value) (hw : ∀ d ∈ tables_1, d.before a0 Z = true) (p1 : Int32) (h0 : Heap) (n0 : Nat) (Z0 : n0 ≤ h0.size)  :
    Ctr l Z (⟨"needlewise/kmp/DenseAutomatonFitsPinLaw", "small", "(C)Z"⟩ : MethodName) method_3_code 1 (some .boolean) ({ frames := 0, cells := 0, slots := 0, locals := 0 } : Room) #[(.int p1)] h0 (PureI h0 n0 (own_b (¬ 255 < p1))) := by
  refine Ctr.of (plainFor_of_name pn_0) (fun m => ef_c_small m p1) ?_
  intro p e s m below meth c T0 hx hby hml hown hnm hret hlk hZ e0 X0
  have N0 := Fr.nil n0
  replace hown : s.vm.findClass "needlewise/kmp/DenseAutomatonFitsPinLaw" = some m.cls := hown
  replace hml : c.maxLocals = 1 := hml
  refine Run.x_iloadN (q := 1) X0 hx (hb hby d2_0) rfl rfl ?_
  refine Run.x_sipush (q := 4) X0 hx (hb hby d2_1) (z := (255 : Int32)) rfl rfl ?_
  by_cases hc4 : (255 : Int32) < p1
  · skip
    refine Run.x_icmpYes (q := 11) X0 hx (hb hby d2_4) (tlt hc4).2.2.1 (by decide) (by decide) ?_
    refine Run.x_iconst (q := 12) X0 hx (hb hby d2_11) (z := (0 : Int32)) rfl rfl ?_
    refine Run.retN X0 hx hlk e0 (t := .boolean) hret (by simp) (z' := (0 : Int32)) (by decide) (hb hby d2_12) (by decide) (by decide) ?_
    exact PureI.mk (by simp [own_b, hc4]) N0
  · skip
    refine Run.x_icmpNo (q := 7) X0 hx (hb hby d2_4) (flt hc4).2.2.1 rfl ?_
    refine Run.x_iconst (q := 8) X0 hx (hb hby d2_7) (z := (1 : Int32)) rfl rfl ?_
    refine Run.x_goto (q := 12) X0 hx (hb hby d2_8) (by decide) (by decide) ?_
    refine Run.retN X0 hx hlk e0 (t := .boolean) hret (by simp) (z' := (1 : Int32)) (by decide) (hb hby d2_12) (by decide) (by decide) ?_
    exact PureI.mk (by simp [own_b, hc4]) N0
theorem own_256 {c : Int32} : c < 256 ↔ ¬ 255 < c := by
  rw [lt32, lt32]
  have : (256 : Int32).toInt = 256 ∧ (255 : Int32).toInt = 255 := by decide
  omega
theorem d3_0 : decode prog_21_method_2_code 0 = .ok (.aload_n 0, 1) := by decide +kernel
theorem d3_1 : decode prog_21_method_2_code 1 = .ok (.astore_n 1, 1) := by decide +kernel
theorem d3_2 : decode prog_21_method_2_code 2 = .ok (.aload_n 1, 1) := by decide +kernel
theorem d3_3 : decode prog_21_method_2_code 3 = .ok (.arraylength, 1) := by decide +kernel
theorem d3_4 : decode prog_21_method_2_code 4 = .ok (.istore_n 2, 1) := by decide +kernel
theorem d3_5 : decode prog_21_method_2_code 5 = .ok (.iconst 0, 1) := by decide +kernel
theorem d3_6 : decode prog_21_method_2_code 6 = .ok (.istore_n 3, 1) := by decide +kernel
theorem d3_7 : decode prog_21_method_2_code 7 = .ok (.iload_n 3, 1) := by decide +kernel
theorem d3_8 : decode prog_21_method_2_code 8 = .ok (.iload_n 2, 1) := by decide +kernel
theorem d3_9 : decode prog_21_method_2_code 9 = .ok (.if_icmp .ge 24, 3) := by decide +kernel
theorem d3_12 : decode prog_21_method_2_code 12 = .ok (.aload_n 1, 1) := by decide +kernel
theorem d3_13 : decode prog_21_method_2_code 13 = .ok (.iload_n 3, 1) := by decide +kernel
theorem d3_14 : decode prog_21_method_2_code 14 = .ok (.caload, 1) := by decide +kernel
theorem d3_15 : decode prog_21_method_2_code 15 = .ok (.istore 4, 2) := by decide +kernel
theorem d3_17 : decode prog_21_method_2_code 17 = .ok (.iload 4, 2) := by decide +kernel
theorem d3_19 : decode prog_21_method_2_code 19 = .ok (.sipush 256, 3) := by decide +kernel
theorem d3_22 : decode prog_21_method_2_code 22 = .ok (.if_icmp .lt 5, 3) := by decide +kernel
theorem d3_25 : decode prog_21_method_2_code 25 = .ok (.iconst 0, 1) := by decide +kernel
theorem d3_26 : decode prog_21_method_2_code 26 = .ok (.ireturn, 1) := by decide +kernel
theorem d3_27 : decode prog_21_method_2_code 27 = .ok (.iinc 3 1, 3) := by decide +kernel
theorem d3_30 : decode prog_21_method_2_code 30 = .ok (.goto (-23), 3) := by decide +kernel
theorem d3_33 : decode prog_21_method_2_code 33 = .ok (.iconst 1, 1) := by decide +kernel
theorem d3_34 : decode prog_21_method_2_code 34 = .ok (.ireturn, 1) := by decide +kernel
theorem pn_1 : plainName "needlewise/kmp/DenseAutomaton" = true := by first | (simp [plainName, overriddenIn]; done) | decide +kernel
theorem ef_c_fits0 (m : MethodId) (arr : Addr) : entryFrame m #[(.ref arr)] 5 = mkF m 0 #[.val (.ref arr), .unset, .unset, .unset, .unset] [] := by first | (simp [entryFrame, mkF, argsToLocals, Value.category]; done) | rfl
set_option maxRecDepth 65536 in
set_option maxHeartbeats 40000000 in
theorem c_fits0 (l : Launch) (Z : State) (a0 : Array Value) (hw : ∀ d ∈ tables_1, d.before a0 Z = true) (arr : Addr) (h0 : Heap) (n0 : Nat) (Z0 : n0 ≤ h0.size) (A_arr : Ars Z h0 arr .char []) :
    Ctr l Z (⟨"needlewise/kmp/DenseAutomaton", "fits", "([C)Z"⟩ : MethodName) prog_21_method_2_code 5 (some .boolean) ({ frames := 0, cells := 0, slots := 0, locals := 0 } : Room) #[(.ref arr)] h0 (PureI h0 n0 (own_b (True))) := by
  refine Ctr.of (plainFor_of_name pn_1) (fun m => ef_c_fits0 m arr) ?_
  intro p e s m below meth c T0 hx hby hml hown hnm hret hlk hZ e0 X0
  have N0 := Fr.nil n0
  replace hown : s.vm.findClass "needlewise/kmp/DenseAutomaton" = some m.cls := hown
  replace hml : c.maxLocals = 5 := hml
  refine Run.x_aloadN (q := 1) X0 hx (hb hby d3_0) rfl rfl rfl ?_
  refine Run.x_astoreN (q := 2) X0 hx #[.val (.ref arr), .val (.ref arr), .unset, .unset, .unset] (hb hby d3_1) rfl rfl rfl ?_
  refine Run.x_aloadN (q := 3) X0 hx (hb hby d3_2) rfl rfl rfl ?_
  refine Run.alen X0 hx hZ e0 A_arr (z := (0 : Int32)) (by decide) (hb hby d3_3) ?_
  show Run p e below s _ _ _ (T0.setTop (mkF m 4 #[.val (.ref arr), .val (.ref arr), .unset, .unset, .unset] [(.int (0 : Int32))]))
  refine Run.x_istoreN (q := 5) X0 hx #[.val (.ref arr), .val (.ref arr), .val (.int (0 : Int32)), .unset, .unset] (hb hby d3_4) rfl rfl ?_
  refine Run.x_iconst (q := 6) X0 hx (hb hby d3_5) (z := (0 : Int32)) rfl rfl ?_
  refine Run.x_istoreN (q := 7) X0 hx #[.val (.ref arr), .val (.ref arr), .val (.int (0 : Int32)), .val (.int (0 : Int32)), .unset] (hb hby d3_6) rfl rfl ?_
  refine Run.x_iloadN (q := 8) X0 hx (hb hby d3_7) rfl rfl ?_
  refine Run.x_iloadN (q := 9) X0 hx (hb hby d3_8) rfl rfl ?_
  refine Run.x_icmpYes (q := 33) X0 hx (hb hby d3_9) (flt (by decide : ¬ ((0 : Int32) < (0 : Int32)))).2.1 (by decide) (by decide) ?_
  refine Run.x_iconst (q := 34) X0 hx (hb hby d3_33) (z := (1 : Int32)) rfl rfl ?_
  refine Run.retN X0 hx hlk e0 (t := .boolean) hret (by simp) (z' := (1 : Int32)) (by decide) (hb hby d3_34) (by decide) (by decide) ?_
  exact PureI.mk (by simp [own_b, ]) N0
theorem ef_c_fits1 (m : MethodId) (arr : Addr) : entryFrame m #[(.ref arr)] 5 = mkF m 0 #[.val (.ref arr), .unset, .unset, .unset, .unset] [] := by first | (simp [entryFrame, mkF, argsToLocals, Value.category]; done) | rfl
set_option maxRecDepth 65536 in
set_option maxHeartbeats 40000000 in
theorem c_fits1 (l : Launch) (Z : State) (a0 : Array Value) (hw : ∀ d ∈ tables_1, d.before a0 Z = true) (arr : Addr) (h0 : Heap) (n0 : Nat) (Z0 : n0 ≤ h0.size) (c0 : Int32) (A_arr : Ars Z h0 arr .char [(.int c0)]) :
    Ctr l Z (⟨"needlewise/kmp/DenseAutomaton", "fits", "([C)Z"⟩ : MethodName) prog_21_method_2_code 5 (some .boolean) ({ frames := 0, cells := 0, slots := 0, locals := 0 } : Room) #[(.ref arr)] h0 (PureI h0 n0 (own_b (¬ 255 < c0))) := by
  refine Ctr.of (plainFor_of_name pn_1) (fun m => ef_c_fits1 m arr) ?_
  intro p e s m below meth c T0 hx hby hml hown hnm hret hlk hZ e0 X0
  have N0 := Fr.nil n0
  replace hown : s.vm.findClass "needlewise/kmp/DenseAutomaton" = some m.cls := hown
  replace hml : c.maxLocals = 5 := hml
  refine Run.x_aloadN (q := 1) X0 hx (hb hby d3_0) rfl rfl rfl ?_
  refine Run.x_astoreN (q := 2) X0 hx #[.val (.ref arr), .val (.ref arr), .unset, .unset, .unset] (hb hby d3_1) rfl rfl rfl ?_
  refine Run.x_aloadN (q := 3) X0 hx (hb hby d3_2) rfl rfl rfl ?_
  refine Run.alen X0 hx hZ e0 A_arr (z := (1 : Int32)) rfl (hb hby d3_3) ?_
  show Run p e below s _ _ _ (T0.setTop (mkF m 4 #[.val (.ref arr), .val (.ref arr), .unset, .unset, .unset] [(.int (1 : Int32))]))
  refine Run.x_istoreN (q := 5) X0 hx #[.val (.ref arr), .val (.ref arr), .val (.int (1 : Int32)), .unset, .unset] (hb hby d3_4) rfl rfl ?_
  refine Run.x_iconst (q := 6) X0 hx (hb hby d3_5) (z := (0 : Int32)) rfl rfl ?_
  refine Run.x_istoreN (q := 7) X0 hx #[.val (.ref arr), .val (.ref arr), .val (.int (1 : Int32)), .val (.int (0 : Int32)), .unset] (hb hby d3_6) rfl rfl ?_
  refine Run.x_iloadN (q := 8) X0 hx (hb hby d3_7) rfl rfl ?_
  refine Run.x_iloadN (q := 9) X0 hx (hb hby d3_8) rfl rfl ?_
  refine Run.x_icmpNo (q := 12) X0 hx (hb hby d3_9) (tlt (by decide : (0 : Int32) < (1 : Int32))).2.1 rfl ?_
  refine Run.x_aloadN (q := 13) X0 hx (hb hby d3_12) rfl rfl rfl ?_
  refine Run.x_iloadN (q := 14) X0 hx (hb hby d3_13) rfl rfl ?_
  refine Run.ldC X0 hx hZ e0 A_arr (i := 0) (v := (.int c0)) (by decide) rfl (hb hby d3_14) ?_
  show Run p e below s _ _ _ (T0.setTop (mkF m 15 #[.val (.ref arr), .val (.ref arr), .val (.int (1 : Int32)), .val (.int (0 : Int32)), .unset] [(.int c0)]))
  refine Run.x_istore (q := 17) X0 hx #[.val (.ref arr), .val (.ref arr), .val (.int (1 : Int32)), .val (.int (0 : Int32)), .val (.int c0)] (hb hby d3_15) rfl rfl ?_
  refine Run.x_iload (q := 19) X0 hx (hb hby d3_17) rfl rfl ?_
  refine Run.x_sipush (q := 22) X0 hx (hb hby d3_19) (z := (256 : Int32)) rfl rfl ?_
  by_cases hc22 : c0 < (256 : Int32)
  · skip
    refine Run.x_icmpYes (q := 27) X0 hx (hb hby d3_22) (tlt hc22).1 (by decide) (by decide) ?_
    refine Run.x_iinc (q := 30) X0 hx #[.val (.ref arr), .val (.ref arr), .val (.int (1 : Int32)), .val (.int (1 : Int32)), .val (.int c0)] (hb hby d3_27) rfl (z := (1 : Int32)) (by decide) rfl rfl ?_
    refine Run.x_goto (q := 7) X0 hx (hb hby d3_30) (by decide) (by decide) ?_
    refine Run.x_iloadN (q := 8) X0 hx (hb hby d3_7) rfl rfl ?_
    refine Run.x_iloadN (q := 9) X0 hx (hb hby d3_8) rfl rfl ?_
    refine Run.x_icmpYes (q := 33) X0 hx (hb hby d3_9) (flt (by decide : ¬ ((1 : Int32) < (1 : Int32)))).2.1 (by decide) (by decide) ?_
    refine Run.x_iconst (q := 34) X0 hx (hb hby d3_33) (z := (1 : Int32)) rfl rfl ?_
    refine Run.retN X0 hx hlk e0 (t := .boolean) hret (by simp) (z' := (1 : Int32)) (by decide) (hb hby d3_34) (by decide) (by decide) ?_
    exact PureI.mk (by simp [own_b, own_256.mp hc22]) N0
  · skip
    refine Run.x_icmpNo (q := 25) X0 hx (hb hby d3_22) (flt hc22).1 rfl ?_
    refine Run.x_iconst (q := 26) X0 hx (hb hby d3_25) (z := (0 : Int32)) rfl rfl ?_
    refine Run.retN X0 hx hlk e0 (t := .boolean) hret (by simp) (z' := (0 : Int32)) (by decide) (hb hby d3_26) (by decide) (by decide) ?_
    exact PureI.mk (by simp [own_b, mt own_256.mpr hc22]) N0
theorem ef_c_fits2 (m : MethodId) (arr : Addr) : entryFrame m #[(.ref arr)] 5 = mkF m 0 #[.val (.ref arr), .unset, .unset, .unset, .unset] [] := by first | (simp [entryFrame, mkF, argsToLocals, Value.category]; done) | rfl
set_option maxRecDepth 65536 in
set_option maxHeartbeats 40000000 in
theorem c_fits2 (l : Launch) (Z : State) (a0 : Array Value) (hw : ∀ d ∈ tables_1, d.before a0 Z = true) (arr : Addr) (h0 : Heap) (n0 : Nat) (Z0 : n0 ≤ h0.size) (c0 : Int32) (c1 : Int32) (A_arr : Ars Z h0 arr .char [(.int c0), (.int c1)]) :
    Ctr l Z (⟨"needlewise/kmp/DenseAutomaton", "fits", "([C)Z"⟩ : MethodName) prog_21_method_2_code 5 (some .boolean) ({ frames := 0, cells := 0, slots := 0, locals := 0 } : Room) #[(.ref arr)] h0 (PureI h0 n0 (own_b (¬ 255 < c0 ∧ ¬ 255 < c1))) := by
  refine Ctr.of (plainFor_of_name pn_1) (fun m => ef_c_fits2 m arr) ?_
  intro p e s m below meth c T0 hx hby hml hown hnm hret hlk hZ e0 X0
  have N0 := Fr.nil n0
  replace hown : s.vm.findClass "needlewise/kmp/DenseAutomaton" = some m.cls := hown
  replace hml : c.maxLocals = 5 := hml
  refine Run.x_aloadN (q := 1) X0 hx (hb hby d3_0) rfl rfl rfl ?_
  refine Run.x_astoreN (q := 2) X0 hx #[.val (.ref arr), .val (.ref arr), .unset, .unset, .unset] (hb hby d3_1) rfl rfl rfl ?_
  refine Run.x_aloadN (q := 3) X0 hx (hb hby d3_2) rfl rfl rfl ?_
  refine Run.alen X0 hx hZ e0 A_arr (z := (2 : Int32)) rfl (hb hby d3_3) ?_
  show Run p e below s _ _ _ (T0.setTop (mkF m 4 #[.val (.ref arr), .val (.ref arr), .unset, .unset, .unset] [(.int (2 : Int32))]))
  refine Run.x_istoreN (q := 5) X0 hx #[.val (.ref arr), .val (.ref arr), .val (.int (2 : Int32)), .unset, .unset] (hb hby d3_4) rfl rfl ?_
  refine Run.x_iconst (q := 6) X0 hx (hb hby d3_5) (z := (0 : Int32)) rfl rfl ?_
  refine Run.x_istoreN (q := 7) X0 hx #[.val (.ref arr), .val (.ref arr), .val (.int (2 : Int32)), .val (.int (0 : Int32)), .unset] (hb hby d3_6) rfl rfl ?_
  refine Run.x_iloadN (q := 8) X0 hx (hb hby d3_7) rfl rfl ?_
  refine Run.x_iloadN (q := 9) X0 hx (hb hby d3_8) rfl rfl ?_
  refine Run.x_icmpNo (q := 12) X0 hx (hb hby d3_9) (tlt (by decide : (0 : Int32) < (2 : Int32))).2.1 rfl ?_
  refine Run.x_aloadN (q := 13) X0 hx (hb hby d3_12) rfl rfl rfl ?_
  refine Run.x_iloadN (q := 14) X0 hx (hb hby d3_13) rfl rfl ?_
  refine Run.ldC X0 hx hZ e0 A_arr (i := 0) (v := (.int c0)) (by decide) rfl (hb hby d3_14) ?_
  show Run p e below s _ _ _ (T0.setTop (mkF m 15 #[.val (.ref arr), .val (.ref arr), .val (.int (2 : Int32)), .val (.int (0 : Int32)), .unset] [(.int c0)]))
  refine Run.x_istore (q := 17) X0 hx #[.val (.ref arr), .val (.ref arr), .val (.int (2 : Int32)), .val (.int (0 : Int32)), .val (.int c0)] (hb hby d3_15) rfl rfl ?_
  refine Run.x_iload (q := 19) X0 hx (hb hby d3_17) rfl rfl ?_
  refine Run.x_sipush (q := 22) X0 hx (hb hby d3_19) (z := (256 : Int32)) rfl rfl ?_
  by_cases hc22 : c0 < (256 : Int32)
  · skip
    refine Run.x_icmpYes (q := 27) X0 hx (hb hby d3_22) (tlt hc22).1 (by decide) (by decide) ?_
    refine Run.x_iinc (q := 30) X0 hx #[.val (.ref arr), .val (.ref arr), .val (.int (2 : Int32)), .val (.int (1 : Int32)), .val (.int c0)] (hb hby d3_27) rfl (z := (1 : Int32)) (by decide) rfl rfl ?_
    refine Run.x_goto (q := 7) X0 hx (hb hby d3_30) (by decide) (by decide) ?_
    refine Run.x_iloadN (q := 8) X0 hx (hb hby d3_7) rfl rfl ?_
    refine Run.x_iloadN (q := 9) X0 hx (hb hby d3_8) rfl rfl ?_
    refine Run.x_icmpNo (q := 12) X0 hx (hb hby d3_9) (tlt (by decide : (1 : Int32) < (2 : Int32))).2.1 rfl ?_
    refine Run.x_aloadN (q := 13) X0 hx (hb hby d3_12) rfl rfl rfl ?_
    refine Run.x_iloadN (q := 14) X0 hx (hb hby d3_13) rfl rfl ?_
    refine Run.ldC X0 hx hZ e0 A_arr (i := 1) (v := (.int c1)) (by decide) rfl (hb hby d3_14) ?_
    show Run p e below s _ _ _ (T0.setTop (mkF m 15 #[.val (.ref arr), .val (.ref arr), .val (.int (2 : Int32)), .val (.int (1 : Int32)), .val (.int c0)] [(.int c1)]))
    refine Run.x_istore (q := 17) X0 hx #[.val (.ref arr), .val (.ref arr), .val (.int (2 : Int32)), .val (.int (1 : Int32)), .val (.int c1)] (hb hby d3_15) rfl rfl ?_
    refine Run.x_iload (q := 19) X0 hx (hb hby d3_17) rfl rfl ?_
    refine Run.x_sipush (q := 22) X0 hx (hb hby d3_19) (z := (256 : Int32)) rfl rfl ?_
    by_cases hc22' : c1 < (256 : Int32)
    · skip
      refine Run.x_icmpYes (q := 27) X0 hx (hb hby d3_22) (tlt hc22').1 (by decide) (by decide) ?_
      refine Run.x_iinc (q := 30) X0 hx #[.val (.ref arr), .val (.ref arr), .val (.int (2 : Int32)), .val (.int (2 : Int32)), .val (.int c1)] (hb hby d3_27) rfl (z := (2 : Int32)) (by decide) rfl rfl ?_
      refine Run.x_goto (q := 7) X0 hx (hb hby d3_30) (by decide) (by decide) ?_
      refine Run.x_iloadN (q := 8) X0 hx (hb hby d3_7) rfl rfl ?_
      refine Run.x_iloadN (q := 9) X0 hx (hb hby d3_8) rfl rfl ?_
      refine Run.x_icmpYes (q := 33) X0 hx (hb hby d3_9) (flt (by decide : ¬ ((2 : Int32) < (2 : Int32)))).2.1 (by decide) (by decide) ?_
      refine Run.x_iconst (q := 34) X0 hx (hb hby d3_33) (z := (1 : Int32)) rfl rfl ?_
      refine Run.retN X0 hx hlk e0 (t := .boolean) hret (by simp) (z' := (1 : Int32)) (by decide) (hb hby d3_34) (by decide) (by decide) ?_
      exact PureI.mk (by simp [own_b, own_256.mp hc22, own_256.mp hc22']) N0
    · skip
      refine Run.x_icmpNo (q := 25) X0 hx (hb hby d3_22) (flt hc22').1 rfl ?_
      refine Run.x_iconst (q := 26) X0 hx (hb hby d3_25) (z := (0 : Int32)) rfl rfl ?_
      refine Run.retN X0 hx hlk e0 (t := .boolean) hret (by simp) (z' := (0 : Int32)) (by decide) (hb hby d3_26) (by decide) (by decide) ?_
      exact PureI.mk (by simp [own_b, own_256.mp hc22, mt own_256.mpr hc22']) N0
  · skip
    refine Run.x_icmpNo (q := 25) X0 hx (hb hby d3_22) (flt hc22).1 rfl ?_
    refine Run.x_iconst (q := 26) X0 hx (hb hby d3_25) (z := (0 : Int32)) rfl rfl ?_
    refine Run.retN X0 hx hlk e0 (t := .boolean) hret (by simp) (z' := (0 : Int32)) (by decide) (hb hby d3_26) (by decide) (by decide) ?_
    exact PureI.mk (by simp [own_b, mt own_256.mpr hc22]) N0
theorem ef_c_fits3 (m : MethodId) (arr : Addr) : entryFrame m #[(.ref arr)] 5 = mkF m 0 #[.val (.ref arr), .unset, .unset, .unset, .unset] [] := by first | (simp [entryFrame, mkF, argsToLocals, Value.category]; done) | rfl
set_option maxRecDepth 65536 in
set_option maxHeartbeats 40000000 in
theorem c_fits3 (l : Launch) (Z : State) (a0 : Array Value) (hw : ∀ d ∈ tables_1, d.before a0 Z = true) (arr : Addr) (h0 : Heap) (n0 : Nat) (Z0 : n0 ≤ h0.size) (c0 : Int32) (c1 : Int32) (c2 : Int32) (A_arr : Ars Z h0 arr .char [(.int c0), (.int c1), (.int c2)]) :
    Ctr l Z (⟨"needlewise/kmp/DenseAutomaton", "fits", "([C)Z"⟩ : MethodName) prog_21_method_2_code 5 (some .boolean) ({ frames := 0, cells := 0, slots := 0, locals := 0 } : Room) #[(.ref arr)] h0 (PureI h0 n0 (own_b (¬ 255 < c0 ∧ ¬ 255 < c1 ∧ ¬ 255 < c2))) := by
  refine Ctr.of (plainFor_of_name pn_1) (fun m => ef_c_fits3 m arr) ?_
  intro p e s m below meth c T0 hx hby hml hown hnm hret hlk hZ e0 X0
  have N0 := Fr.nil n0
  replace hown : s.vm.findClass "needlewise/kmp/DenseAutomaton" = some m.cls := hown
  replace hml : c.maxLocals = 5 := hml
  refine Run.x_aloadN (q := 1) X0 hx (hb hby d3_0) rfl rfl rfl ?_
  refine Run.x_astoreN (q := 2) X0 hx #[.val (.ref arr), .val (.ref arr), .unset, .unset, .unset] (hb hby d3_1) rfl rfl rfl ?_
  refine Run.x_aloadN (q := 3) X0 hx (hb hby d3_2) rfl rfl rfl ?_
  refine Run.alen X0 hx hZ e0 A_arr (z := (3 : Int32)) rfl (hb hby d3_3) ?_
  show Run p e below s _ _ _ (T0.setTop (mkF m 4 #[.val (.ref arr), .val (.ref arr), .unset, .unset, .unset] [(.int (3 : Int32))]))
  refine Run.x_istoreN (q := 5) X0 hx #[.val (.ref arr), .val (.ref arr), .val (.int (3 : Int32)), .unset, .unset] (hb hby d3_4) rfl rfl ?_
  refine Run.x_iconst (q := 6) X0 hx (hb hby d3_5) (z := (0 : Int32)) rfl rfl ?_
  refine Run.x_istoreN (q := 7) X0 hx #[.val (.ref arr), .val (.ref arr), .val (.int (3 : Int32)), .val (.int (0 : Int32)), .unset] (hb hby d3_6) rfl rfl ?_
  refine Run.x_iloadN (q := 8) X0 hx (hb hby d3_7) rfl rfl ?_
  refine Run.x_iloadN (q := 9) X0 hx (hb hby d3_8) rfl rfl ?_
  refine Run.x_icmpNo (q := 12) X0 hx (hb hby d3_9) (tlt (by decide : (0 : Int32) < (3 : Int32))).2.1 rfl ?_
  refine Run.x_aloadN (q := 13) X0 hx (hb hby d3_12) rfl rfl rfl ?_
  refine Run.x_iloadN (q := 14) X0 hx (hb hby d3_13) rfl rfl ?_
  refine Run.ldC X0 hx hZ e0 A_arr (i := 0) (v := (.int c0)) (by decide) rfl (hb hby d3_14) ?_
  show Run p e below s _ _ _ (T0.setTop (mkF m 15 #[.val (.ref arr), .val (.ref arr), .val (.int (3 : Int32)), .val (.int (0 : Int32)), .unset] [(.int c0)]))
  refine Run.x_istore (q := 17) X0 hx #[.val (.ref arr), .val (.ref arr), .val (.int (3 : Int32)), .val (.int (0 : Int32)), .val (.int c0)] (hb hby d3_15) rfl rfl ?_
  refine Run.x_iload (q := 19) X0 hx (hb hby d3_17) rfl rfl ?_
  refine Run.x_sipush (q := 22) X0 hx (hb hby d3_19) (z := (256 : Int32)) rfl rfl ?_
  by_cases hc22 : c0 < (256 : Int32)
  · skip
    refine Run.x_icmpYes (q := 27) X0 hx (hb hby d3_22) (tlt hc22).1 (by decide) (by decide) ?_
    refine Run.x_iinc (q := 30) X0 hx #[.val (.ref arr), .val (.ref arr), .val (.int (3 : Int32)), .val (.int (1 : Int32)), .val (.int c0)] (hb hby d3_27) rfl (z := (1 : Int32)) (by decide) rfl rfl ?_
    refine Run.x_goto (q := 7) X0 hx (hb hby d3_30) (by decide) (by decide) ?_
    refine Run.x_iloadN (q := 8) X0 hx (hb hby d3_7) rfl rfl ?_
    refine Run.x_iloadN (q := 9) X0 hx (hb hby d3_8) rfl rfl ?_
    refine Run.x_icmpNo (q := 12) X0 hx (hb hby d3_9) (tlt (by decide : (1 : Int32) < (3 : Int32))).2.1 rfl ?_
    refine Run.x_aloadN (q := 13) X0 hx (hb hby d3_12) rfl rfl rfl ?_
    refine Run.x_iloadN (q := 14) X0 hx (hb hby d3_13) rfl rfl ?_
    refine Run.ldC X0 hx hZ e0 A_arr (i := 1) (v := (.int c1)) (by decide) rfl (hb hby d3_14) ?_
    show Run p e below s _ _ _ (T0.setTop (mkF m 15 #[.val (.ref arr), .val (.ref arr), .val (.int (3 : Int32)), .val (.int (1 : Int32)), .val (.int c0)] [(.int c1)]))
    refine Run.x_istore (q := 17) X0 hx #[.val (.ref arr), .val (.ref arr), .val (.int (3 : Int32)), .val (.int (1 : Int32)), .val (.int c1)] (hb hby d3_15) rfl rfl ?_
    refine Run.x_iload (q := 19) X0 hx (hb hby d3_17) rfl rfl ?_
    refine Run.x_sipush (q := 22) X0 hx (hb hby d3_19) (z := (256 : Int32)) rfl rfl ?_
    by_cases hc22' : c1 < (256 : Int32)
    · skip
      refine Run.x_icmpYes (q := 27) X0 hx (hb hby d3_22) (tlt hc22').1 (by decide) (by decide) ?_
      refine Run.x_iinc (q := 30) X0 hx #[.val (.ref arr), .val (.ref arr), .val (.int (3 : Int32)), .val (.int (2 : Int32)), .val (.int c1)] (hb hby d3_27) rfl (z := (2 : Int32)) (by decide) rfl rfl ?_
      refine Run.x_goto (q := 7) X0 hx (hb hby d3_30) (by decide) (by decide) ?_
      refine Run.x_iloadN (q := 8) X0 hx (hb hby d3_7) rfl rfl ?_
      refine Run.x_iloadN (q := 9) X0 hx (hb hby d3_8) rfl rfl ?_
      refine Run.x_icmpNo (q := 12) X0 hx (hb hby d3_9) (tlt (by decide : (2 : Int32) < (3 : Int32))).2.1 rfl ?_
      refine Run.x_aloadN (q := 13) X0 hx (hb hby d3_12) rfl rfl rfl ?_
      refine Run.x_iloadN (q := 14) X0 hx (hb hby d3_13) rfl rfl ?_
      refine Run.ldC X0 hx hZ e0 A_arr (i := 2) (v := (.int c2)) (by decide) rfl (hb hby d3_14) ?_
      show Run p e below s _ _ _ (T0.setTop (mkF m 15 #[.val (.ref arr), .val (.ref arr), .val (.int (3 : Int32)), .val (.int (2 : Int32)), .val (.int c1)] [(.int c2)]))
      refine Run.x_istore (q := 17) X0 hx #[.val (.ref arr), .val (.ref arr), .val (.int (3 : Int32)), .val (.int (2 : Int32)), .val (.int c2)] (hb hby d3_15) rfl rfl ?_
      refine Run.x_iload (q := 19) X0 hx (hb hby d3_17) rfl rfl ?_
      refine Run.x_sipush (q := 22) X0 hx (hb hby d3_19) (z := (256 : Int32)) rfl rfl ?_
      by_cases hc22'' : c2 < (256 : Int32)
      · skip
        refine Run.x_icmpYes (q := 27) X0 hx (hb hby d3_22) (tlt hc22'').1 (by decide) (by decide) ?_
        refine Run.x_iinc (q := 30) X0 hx #[.val (.ref arr), .val (.ref arr), .val (.int (3 : Int32)), .val (.int (3 : Int32)), .val (.int c2)] (hb hby d3_27) rfl (z := (3 : Int32)) (by decide) rfl rfl ?_
        refine Run.x_goto (q := 7) X0 hx (hb hby d3_30) (by decide) (by decide) ?_
        refine Run.x_iloadN (q := 8) X0 hx (hb hby d3_7) rfl rfl ?_
        refine Run.x_iloadN (q := 9) X0 hx (hb hby d3_8) rfl rfl ?_
        refine Run.x_icmpYes (q := 33) X0 hx (hb hby d3_9) (flt (by decide : ¬ ((3 : Int32) < (3 : Int32)))).2.1 (by decide) (by decide) ?_
        refine Run.x_iconst (q := 34) X0 hx (hb hby d3_33) (z := (1 : Int32)) rfl rfl ?_
        refine Run.retN X0 hx hlk e0 (t := .boolean) hret (by simp) (z' := (1 : Int32)) (by decide) (hb hby d3_34) (by decide) (by decide) ?_
        exact PureI.mk (by simp [own_b, own_256.mp hc22, own_256.mp hc22', own_256.mp hc22'']) N0
      · skip
        refine Run.x_icmpNo (q := 25) X0 hx (hb hby d3_22) (flt hc22'').1 rfl ?_
        refine Run.x_iconst (q := 26) X0 hx (hb hby d3_25) (z := (0 : Int32)) rfl rfl ?_
        refine Run.retN X0 hx hlk e0 (t := .boolean) hret (by simp) (z' := (0 : Int32)) (by decide) (hb hby d3_26) (by decide) (by decide) ?_
        exact PureI.mk (by simp [own_b, own_256.mp hc22, own_256.mp hc22', mt own_256.mpr hc22'']) N0
    · skip
      refine Run.x_icmpNo (q := 25) X0 hx (hb hby d3_22) (flt hc22').1 rfl ?_
      refine Run.x_iconst (q := 26) X0 hx (hb hby d3_25) (z := (0 : Int32)) rfl rfl ?_
      refine Run.retN X0 hx hlk e0 (t := .boolean) hret (by simp) (z' := (0 : Int32)) (by decide) (hb hby d3_26) (by decide) (by decide) ?_
      exact PureI.mk (by simp [own_b, own_256.mp hc22, mt own_256.mpr hc22']) N0
  · skip
    refine Run.x_icmpNo (q := 25) X0 hx (hb hby d3_22) (flt hc22).1 rfl ?_
    refine Run.x_iconst (q := 26) X0 hx (hb hby d3_25) (z := (0 : Int32)) rfl rfl ?_
    refine Run.retN X0 hx hlk e0 (t := .boolean) hret (by simp) (z' := (0 : Int32)) (by decide) (hb hby d3_26) (by decide) (by decide) ?_
    exact PureI.mk (by simp [own_b, mt own_256.mpr hc22]) N0
theorem ef_c_fits4 (m : MethodId) (arr : Addr) : entryFrame m #[(.ref arr)] 5 = mkF m 0 #[.val (.ref arr), .unset, .unset, .unset, .unset] [] := by first | (simp [entryFrame, mkF, argsToLocals, Value.category]; done) | rfl
set_option maxRecDepth 65536 in
set_option maxHeartbeats 40000000 in
theorem c_fits4 (l : Launch) (Z : State) (a0 : Array Value) (hw : ∀ d ∈ tables_1, d.before a0 Z = true) (arr : Addr) (h0 : Heap) (n0 : Nat) (Z0 : n0 ≤ h0.size) (c0 : Int32) (c1 : Int32) (c2 : Int32) (c3 : Int32) (A_arr : Ars Z h0 arr .char [(.int c0), (.int c1), (.int c2), (.int c3)]) :
    Ctr l Z (⟨"needlewise/kmp/DenseAutomaton", "fits", "([C)Z"⟩ : MethodName) prog_21_method_2_code 5 (some .boolean) ({ frames := 0, cells := 0, slots := 0, locals := 0 } : Room) #[(.ref arr)] h0 (PureI h0 n0 (own_b (¬ 255 < c0 ∧ ¬ 255 < c1 ∧ ¬ 255 < c2 ∧ ¬ 255 < c3))) := by
  refine Ctr.of (plainFor_of_name pn_1) (fun m => ef_c_fits4 m arr) ?_
  intro p e s m below meth c T0 hx hby hml hown hnm hret hlk hZ e0 X0
  have N0 := Fr.nil n0
  replace hown : s.vm.findClass "needlewise/kmp/DenseAutomaton" = some m.cls := hown
  replace hml : c.maxLocals = 5 := hml
  refine Run.x_aloadN (q := 1) X0 hx (hb hby d3_0) rfl rfl rfl ?_
  refine Run.x_astoreN (q := 2) X0 hx #[.val (.ref arr), .val (.ref arr), .unset, .unset, .unset] (hb hby d3_1) rfl rfl rfl ?_
  refine Run.x_aloadN (q := 3) X0 hx (hb hby d3_2) rfl rfl rfl ?_
  refine Run.alen X0 hx hZ e0 A_arr (z := (4 : Int32)) rfl (hb hby d3_3) ?_
  show Run p e below s _ _ _ (T0.setTop (mkF m 4 #[.val (.ref arr), .val (.ref arr), .unset, .unset, .unset] [(.int (4 : Int32))]))
  refine Run.x_istoreN (q := 5) X0 hx #[.val (.ref arr), .val (.ref arr), .val (.int (4 : Int32)), .unset, .unset] (hb hby d3_4) rfl rfl ?_
  refine Run.x_iconst (q := 6) X0 hx (hb hby d3_5) (z := (0 : Int32)) rfl rfl ?_
  refine Run.x_istoreN (q := 7) X0 hx #[.val (.ref arr), .val (.ref arr), .val (.int (4 : Int32)), .val (.int (0 : Int32)), .unset] (hb hby d3_6) rfl rfl ?_
  refine Run.x_iloadN (q := 8) X0 hx (hb hby d3_7) rfl rfl ?_
  refine Run.x_iloadN (q := 9) X0 hx (hb hby d3_8) rfl rfl ?_
  refine Run.x_icmpNo (q := 12) X0 hx (hb hby d3_9) (tlt (by decide : (0 : Int32) < (4 : Int32))).2.1 rfl ?_
  refine Run.x_aloadN (q := 13) X0 hx (hb hby d3_12) rfl rfl rfl ?_
  refine Run.x_iloadN (q := 14) X0 hx (hb hby d3_13) rfl rfl ?_
  refine Run.ldC X0 hx hZ e0 A_arr (i := 0) (v := (.int c0)) (by decide) rfl (hb hby d3_14) ?_
  show Run p e below s _ _ _ (T0.setTop (mkF m 15 #[.val (.ref arr), .val (.ref arr), .val (.int (4 : Int32)), .val (.int (0 : Int32)), .unset] [(.int c0)]))
  refine Run.x_istore (q := 17) X0 hx #[.val (.ref arr), .val (.ref arr), .val (.int (4 : Int32)), .val (.int (0 : Int32)), .val (.int c0)] (hb hby d3_15) rfl rfl ?_
  refine Run.x_iload (q := 19) X0 hx (hb hby d3_17) rfl rfl ?_
  refine Run.x_sipush (q := 22) X0 hx (hb hby d3_19) (z := (256 : Int32)) rfl rfl ?_
  by_cases hc22 : c0 < (256 : Int32)
  · skip
    refine Run.x_icmpYes (q := 27) X0 hx (hb hby d3_22) (tlt hc22).1 (by decide) (by decide) ?_
    refine Run.x_iinc (q := 30) X0 hx #[.val (.ref arr), .val (.ref arr), .val (.int (4 : Int32)), .val (.int (1 : Int32)), .val (.int c0)] (hb hby d3_27) rfl (z := (1 : Int32)) (by decide) rfl rfl ?_
    refine Run.x_goto (q := 7) X0 hx (hb hby d3_30) (by decide) (by decide) ?_
    refine Run.x_iloadN (q := 8) X0 hx (hb hby d3_7) rfl rfl ?_
    refine Run.x_iloadN (q := 9) X0 hx (hb hby d3_8) rfl rfl ?_
    refine Run.x_icmpNo (q := 12) X0 hx (hb hby d3_9) (tlt (by decide : (1 : Int32) < (4 : Int32))).2.1 rfl ?_
    refine Run.x_aloadN (q := 13) X0 hx (hb hby d3_12) rfl rfl rfl ?_
    refine Run.x_iloadN (q := 14) X0 hx (hb hby d3_13) rfl rfl ?_
    refine Run.ldC X0 hx hZ e0 A_arr (i := 1) (v := (.int c1)) (by decide) rfl (hb hby d3_14) ?_
    show Run p e below s _ _ _ (T0.setTop (mkF m 15 #[.val (.ref arr), .val (.ref arr), .val (.int (4 : Int32)), .val (.int (1 : Int32)), .val (.int c0)] [(.int c1)]))
    refine Run.x_istore (q := 17) X0 hx #[.val (.ref arr), .val (.ref arr), .val (.int (4 : Int32)), .val (.int (1 : Int32)), .val (.int c1)] (hb hby d3_15) rfl rfl ?_
    refine Run.x_iload (q := 19) X0 hx (hb hby d3_17) rfl rfl ?_
    refine Run.x_sipush (q := 22) X0 hx (hb hby d3_19) (z := (256 : Int32)) rfl rfl ?_
    by_cases hc22' : c1 < (256 : Int32)
    · skip
      refine Run.x_icmpYes (q := 27) X0 hx (hb hby d3_22) (tlt hc22').1 (by decide) (by decide) ?_
      refine Run.x_iinc (q := 30) X0 hx #[.val (.ref arr), .val (.ref arr), .val (.int (4 : Int32)), .val (.int (2 : Int32)), .val (.int c1)] (hb hby d3_27) rfl (z := (2 : Int32)) (by decide) rfl rfl ?_
      refine Run.x_goto (q := 7) X0 hx (hb hby d3_30) (by decide) (by decide) ?_
      refine Run.x_iloadN (q := 8) X0 hx (hb hby d3_7) rfl rfl ?_
      refine Run.x_iloadN (q := 9) X0 hx (hb hby d3_8) rfl rfl ?_
      refine Run.x_icmpNo (q := 12) X0 hx (hb hby d3_9) (tlt (by decide : (2 : Int32) < (4 : Int32))).2.1 rfl ?_
      refine Run.x_aloadN (q := 13) X0 hx (hb hby d3_12) rfl rfl rfl ?_
      refine Run.x_iloadN (q := 14) X0 hx (hb hby d3_13) rfl rfl ?_
      refine Run.ldC X0 hx hZ e0 A_arr (i := 2) (v := (.int c2)) (by decide) rfl (hb hby d3_14) ?_
      show Run p e below s _ _ _ (T0.setTop (mkF m 15 #[.val (.ref arr), .val (.ref arr), .val (.int (4 : Int32)), .val (.int (2 : Int32)), .val (.int c1)] [(.int c2)]))
      refine Run.x_istore (q := 17) X0 hx #[.val (.ref arr), .val (.ref arr), .val (.int (4 : Int32)), .val (.int (2 : Int32)), .val (.int c2)] (hb hby d3_15) rfl rfl ?_
      refine Run.x_iload (q := 19) X0 hx (hb hby d3_17) rfl rfl ?_
      refine Run.x_sipush (q := 22) X0 hx (hb hby d3_19) (z := (256 : Int32)) rfl rfl ?_
      by_cases hc22'' : c2 < (256 : Int32)
      · skip
        refine Run.x_icmpYes (q := 27) X0 hx (hb hby d3_22) (tlt hc22'').1 (by decide) (by decide) ?_
        refine Run.x_iinc (q := 30) X0 hx #[.val (.ref arr), .val (.ref arr), .val (.int (4 : Int32)), .val (.int (3 : Int32)), .val (.int c2)] (hb hby d3_27) rfl (z := (3 : Int32)) (by decide) rfl rfl ?_
        refine Run.x_goto (q := 7) X0 hx (hb hby d3_30) (by decide) (by decide) ?_
        refine Run.x_iloadN (q := 8) X0 hx (hb hby d3_7) rfl rfl ?_
        refine Run.x_iloadN (q := 9) X0 hx (hb hby d3_8) rfl rfl ?_
        refine Run.x_icmpNo (q := 12) X0 hx (hb hby d3_9) (tlt (by decide : (3 : Int32) < (4 : Int32))).2.1 rfl ?_
        refine Run.x_aloadN (q := 13) X0 hx (hb hby d3_12) rfl rfl rfl ?_
        refine Run.x_iloadN (q := 14) X0 hx (hb hby d3_13) rfl rfl ?_
        refine Run.ldC X0 hx hZ e0 A_arr (i := 3) (v := (.int c3)) (by decide) rfl (hb hby d3_14) ?_
        show Run p e below s _ _ _ (T0.setTop (mkF m 15 #[.val (.ref arr), .val (.ref arr), .val (.int (4 : Int32)), .val (.int (3 : Int32)), .val (.int c2)] [(.int c3)]))
        refine Run.x_istore (q := 17) X0 hx #[.val (.ref arr), .val (.ref arr), .val (.int (4 : Int32)), .val (.int (3 : Int32)), .val (.int c3)] (hb hby d3_15) rfl rfl ?_
        refine Run.x_iload (q := 19) X0 hx (hb hby d3_17) rfl rfl ?_
        refine Run.x_sipush (q := 22) X0 hx (hb hby d3_19) (z := (256 : Int32)) rfl rfl ?_
        by_cases hc22''' : c3 < (256 : Int32)
        · skip
          refine Run.x_icmpYes (q := 27) X0 hx (hb hby d3_22) (tlt hc22''').1 (by decide) (by decide) ?_
          refine Run.x_iinc (q := 30) X0 hx #[.val (.ref arr), .val (.ref arr), .val (.int (4 : Int32)), .val (.int (4 : Int32)), .val (.int c3)] (hb hby d3_27) rfl (z := (4 : Int32)) (by decide) rfl rfl ?_
          refine Run.x_goto (q := 7) X0 hx (hb hby d3_30) (by decide) (by decide) ?_
          refine Run.x_iloadN (q := 8) X0 hx (hb hby d3_7) rfl rfl ?_
          refine Run.x_iloadN (q := 9) X0 hx (hb hby d3_8) rfl rfl ?_
          refine Run.x_icmpYes (q := 33) X0 hx (hb hby d3_9) (flt (by decide : ¬ ((4 : Int32) < (4 : Int32)))).2.1 (by decide) (by decide) ?_
          refine Run.x_iconst (q := 34) X0 hx (hb hby d3_33) (z := (1 : Int32)) rfl rfl ?_
          refine Run.retN X0 hx hlk e0 (t := .boolean) hret (by simp) (z' := (1 : Int32)) (by decide) (hb hby d3_34) (by decide) (by decide) ?_
          exact PureI.mk (by simp [own_b, own_256.mp hc22, own_256.mp hc22', own_256.mp hc22'', own_256.mp hc22''']) N0
        · skip
          refine Run.x_icmpNo (q := 25) X0 hx (hb hby d3_22) (flt hc22''').1 rfl ?_
          refine Run.x_iconst (q := 26) X0 hx (hb hby d3_25) (z := (0 : Int32)) rfl rfl ?_
          refine Run.retN X0 hx hlk e0 (t := .boolean) hret (by simp) (z' := (0 : Int32)) (by decide) (hb hby d3_26) (by decide) (by decide) ?_
          exact PureI.mk (by simp [own_b, own_256.mp hc22, own_256.mp hc22', own_256.mp hc22'', mt own_256.mpr hc22''']) N0
      · skip
        refine Run.x_icmpNo (q := 25) X0 hx (hb hby d3_22) (flt hc22'').1 rfl ?_
        refine Run.x_iconst (q := 26) X0 hx (hb hby d3_25) (z := (0 : Int32)) rfl rfl ?_
        refine Run.retN X0 hx hlk e0 (t := .boolean) hret (by simp) (z' := (0 : Int32)) (by decide) (hb hby d3_26) (by decide) (by decide) ?_
        exact PureI.mk (by simp [own_b, own_256.mp hc22, own_256.mp hc22', mt own_256.mpr hc22'']) N0
    · skip
      refine Run.x_icmpNo (q := 25) X0 hx (hb hby d3_22) (flt hc22').1 rfl ?_
      refine Run.x_iconst (q := 26) X0 hx (hb hby d3_25) (z := (0 : Int32)) rfl rfl ?_
      refine Run.retN X0 hx hlk e0 (t := .boolean) hret (by simp) (z' := (0 : Int32)) (by decide) (hb hby d3_26) (by decide) (by decide) ?_
      exact PureI.mk (by simp [own_b, own_256.mp hc22, mt own_256.mpr hc22']) N0
  · skip
    refine Run.x_icmpNo (q := 25) X0 hx (hb hby d3_22) (flt hc22).1 rfl ?_
    refine Run.x_iconst (q := 26) X0 hx (hb hby d3_25) (z := (0 : Int32)) rfl rfl ?_
    refine Run.retN X0 hx hlk e0 (t := .boolean) hret (by simp) (z' := (0 : Int32)) (by decide) (hb hby d3_26) (by decide) (by decide) ?_
    exact PureI.mk (by simp [own_b, mt own_256.mpr hc22]) N0
theorem own_len {p v : Int32} (h : (p &&& 2147483647) % 5 = v) : v = 0 ∨ v = 1 ∨ v = 2 ∨ v = 3 ∨ v = 4 := by
  have q := c_mask p 2147483647 31 (by decide) (by decide)
  have r := (c_irem (p &&& 2147483647) 5 5 (by decide)).1 (by rw [q]; omega)
  rw [h] at r
  simp only [eq32]
  have : (0 : Int32).toInt = 0 ∧ (1 : Int32).toInt = 1 ∧ (2 : Int32).toInt = 2 ∧ (3 : Int32).toInt = 3 ∧ (4 : Int32).toInt = 4 := by decide
  omega
theorem own_b_no {c : Prop} [Decidable c] (h : own_b c = 0) : ¬ c := fun q => by rw [own_b1 q] at h; cases h
theorem own_b_yes {c : Prop} [Decidable c] (h : ¬ own_b c = 0) : c := Decidable.byContradiction fun q => h (own_b0 q)
theorem ef_c_law (m : MethodId) (p1 : Int32) (p2 : Int32) (p3 : Int32) (p4 : Int32) (p5 : Int32) : entryFrame m #[(.int p1), (.int p2), (.int p3), (.int p4), (.int p5)] maxLocals = mkF m 0 #[.val (.int p1), .val (.int p2), .val (.int p3), .val (.int p4), .val (.int p5), .unset, .unset, .unset, .unset, .unset, .unset, .unset] [] := by first | (simp [entryFrame, mkF, argsToLocals, Value.category, maxLocals]; done) | rfl
theorem pd_0 : parseMethodDescriptor "(I)C" = some ⟨[.int], some .char⟩ := by decide +kernel
theorem pd_1 : parseMethodDescriptor "([C)Z" = some ⟨[(.array .char)], some .boolean⟩ := by decide +kernel
theorem pd_2 : parseMethodDescriptor "(C)Z" = some ⟨[.char], some .boolean⟩ := by decide +kernel
set_option maxRecDepth 65536 in
set_option maxHeartbeats 40000000 in
theorem c_law (l : Launch) (Z : State) (a0 : Array Value) (hw : ∀ d ∈ tables_1, d.before a0 Z = true) (p1 : Int32) (p2 : Int32) (p3 : Int32) (p4 : Int32) (p5 : Int32) (h0 : Heap) (n0 : Nat) (Z0 : n0 ≤ h0.size)  :
    Ctr l Z x code maxLocals ret room_1 #[(.int p1), (.int p2), (.int p3), (.int p4), (.int p5)] h0 (Tru n0) := by
  refine Ctr.of (plainFor_of_name pn_0) (fun m => ef_c_law m p1 p2 p3 p4 p5) ?_
  intro p e s m below meth c T0 hx hby hml hown hnm hret hlk hZ e0 X0
  have N0 := Fr.nil n0
  replace hown : s.vm.findClass "needlewise/kmp/DenseAutomatonFitsPinLaw" = some m.cls := hown
  replace hml : c.maxLocals = 12 := hml
  refine Run.x_iloadN (q := 1) X0 hx (hb hby at_0) rfl rfl ?_
  refine Run.st (B := T0.setTop (mkF m 3 #[.val (.int p1), .val (.int p2), .val (.int p3), .val (.int p4), .val (.int p5), .unset, .unset, .unset, .unset, .unset, .unset, .unset] [(.int (2147483647 : Int32)), (.int p1)])) (fun t kt => X0.ldcInt hx hown (mvT hZ (hw _ (List.mem_of_getElem? (i := 0) rfl))) (g := (mkF m 1 #[.val (.int p1), .val (.int p2), .val (.int p3), .val (.int p4), .val (.int p5), .unset, .unset, .unset, .unset, .unset, .unset, .unset] [(.int p1)])) rfl (hb hby at_1) _ kt) ?_
  refine Run.x_iand (q := 4) X0 hx (hb hby at_3) rfl rfl ?_
  refine Run.x_iconst (q := 5) X0 hx (hb hby at_4) (z := (5 : Int32)) rfl rfl ?_
  refine Run.x_irem (q := 6) X0 hx (hb hby at_5) (by decide) rfl rfl ?_
  refine Run.x_istore (q := 8) X0 hx #[.val (.int p1), .val (.int p2), .val (.int p3), .val (.int p4), .val (.int p5), .val (.int ((p1 &&& (2147483647 : Int32)) % (5 : Int32))), .unset, .unset, .unset, .unset, .unset, .unset] (hb hby at_6) rfl rfl ?_
  generalize hv1 : ((p1 &&& (2147483647 : Int32)) % (5 : Int32)) = v1
  refine Run.x_iloadN (q := 9) X0 hx (hb hby at_8) rfl rfl ?_
  refine Run.callS X0 hx hZ e0 (y := (⟨"needlewise/kmp/DenseAutomatonFitsPinLaw", "draw", "(I)C"⟩ : MethodName)) hown (hw _ (List.mem_of_getElem? (i := 1) rfl)) (hw _ (List.mem_of_getElem? (i := 2) rfl)) (hw _ (List.mem_of_getElem? (i := 3) rfl)) (hw _ (List.mem_of_getElem? (i := 4) rfl)) (by decide) (argsL := [(.int p2)]) (rest := []) (c_draw l Z a0 hw p2 h0 n0 Z0) pd_0 rfl (by rw [hml]; rfl) (W := 0) rfl (by decide) (by decide) (by decide) (by decide) (hb hby at_9) rfl ?_
  intro T2 v2 L2 X2 q2
  obtain ⟨z2, rfl, M2, e2, hz2⟩ := q2
  have N2 := Fr.app N0 M2
  show Run p e below s _ _ _ (T2.setTop (mkF m 12 #[.val (.int p1), .val (.int p2), .val (.int p3), .val (.int p4), .val (.int p5), .val (.int v1), .unset, .unset, .unset, .unset, .unset, .unset] [(.int z2)]))
  refine Run.x_istore (q := 14) X2 hx #[.val (.int p1), .val (.int p2), .val (.int p3), .val (.int p4), .val (.int p5), .val (.int v1), .val (.int z2), .unset, .unset, .unset, .unset, .unset] (hb hby at_12) rfl rfl ?_
  refine Run.x_iloadN (q := 15) X2 hx (hb hby at_14) rfl rfl ?_
  refine Run.callS X2 hx hZ e2 (y := (⟨"needlewise/kmp/DenseAutomatonFitsPinLaw", "draw", "(I)C"⟩ : MethodName)) hown (hw _ (List.mem_of_getElem? (i := 1) rfl)) (hw _ (List.mem_of_getElem? (i := 2) rfl)) (hw _ (List.mem_of_getElem? (i := 3) rfl)) (hw _ (List.mem_of_getElem? (i := 4) rfl)) (by decide) (argsL := [(.int p3)]) (rest := []) (c_draw l Z a0 hw p3 h0 n0 Z0) pd_0 rfl (by rw [hml]; rfl) (W := 0) rfl (by decide) (by decide) (by decide) (by decide) (hb hby at_15) rfl ?_
  intro T3 v3 L3 X3 q3
  obtain ⟨z3, rfl, M3, e3, hz3⟩ := q3
  have N3 := Fr.app N2 M3
  show Run p e below s _ _ _ (T3.setTop (mkF m 18 #[.val (.int p1), .val (.int p2), .val (.int p3), .val (.int p4), .val (.int p5), .val (.int v1), .val (.int z2), .unset, .unset, .unset, .unset, .unset] [(.int z3)]))
  refine Run.x_istore (q := 20) X3 hx #[.val (.int p1), .val (.int p2), .val (.int p3), .val (.int p4), .val (.int p5), .val (.int v1), .val (.int z2), .val (.int z3), .unset, .unset, .unset, .unset] (hb hby at_18) rfl rfl ?_
  refine Run.x_iloadN (q := 21) X3 hx (hb hby at_20) rfl rfl ?_
  refine Run.callS X3 hx hZ e3 (y := (⟨"needlewise/kmp/DenseAutomatonFitsPinLaw", "draw", "(I)C"⟩ : MethodName)) hown (hw _ (List.mem_of_getElem? (i := 1) rfl)) (hw _ (List.mem_of_getElem? (i := 2) rfl)) (hw _ (List.mem_of_getElem? (i := 3) rfl)) (hw _ (List.mem_of_getElem? (i := 4) rfl)) (by decide) (argsL := [(.int p4)]) (rest := []) (c_draw l Z a0 hw p4 h0 n0 Z0) pd_0 rfl (by rw [hml]; rfl) (W := 0) rfl (by decide) (by decide) (by decide) (by decide) (hb hby at_21) rfl ?_
  intro T4 v4 L4 X4 q4
  obtain ⟨z4, rfl, M4, e4, hz4⟩ := q4
  have N4 := Fr.app N3 M4
  show Run p e below s _ _ _ (T4.setTop (mkF m 24 #[.val (.int p1), .val (.int p2), .val (.int p3), .val (.int p4), .val (.int p5), .val (.int v1), .val (.int z2), .val (.int z3), .unset, .unset, .unset, .unset] [(.int z4)]))
  refine Run.x_istore (q := 26) X4 hx #[.val (.int p1), .val (.int p2), .val (.int p3), .val (.int p4), .val (.int p5), .val (.int v1), .val (.int z2), .val (.int z3), .val (.int z4), .unset, .unset, .unset] (hb hby at_24) rfl rfl ?_
  refine Run.x_iload (q := 28) X4 hx (hb hby at_26) rfl rfl ?_
  refine Run.callS X4 hx hZ e4 (y := (⟨"needlewise/kmp/DenseAutomatonFitsPinLaw", "draw", "(I)C"⟩ : MethodName)) hown (hw _ (List.mem_of_getElem? (i := 1) rfl)) (hw _ (List.mem_of_getElem? (i := 2) rfl)) (hw _ (List.mem_of_getElem? (i := 3) rfl)) (hw _ (List.mem_of_getElem? (i := 4) rfl)) (by decide) (argsL := [(.int p5)]) (rest := []) (c_draw l Z a0 hw p5 h0 n0 Z0) pd_0 rfl (by rw [hml]; rfl) (W := 0) rfl (by decide) (by decide) (by decide) (by decide) (hb hby at_28) rfl ?_
  intro T5 v5 L5 X5 q5
  obtain ⟨z5, rfl, M5, e5, hz5⟩ := q5
  have N5 := Fr.app N4 M5
  show Run p e below s _ _ _ (T5.setTop (mkF m 31 #[.val (.int p1), .val (.int p2), .val (.int p3), .val (.int p4), .val (.int p5), .val (.int v1), .val (.int z2), .val (.int z3), .val (.int z4), .unset, .unset, .unset] [(.int z5)]))
  refine Run.x_istore (q := 33) X5 hx #[.val (.int p1), .val (.int p2), .val (.int p3), .val (.int p4), .val (.int p5), .val (.int v1), .val (.int z2), .val (.int z3), .val (.int z4), .val (.int z5), .unset, .unset] (hb hby at_31) rfl rfl ?_
  rcases own_len hv1 with rfl | rfl | rfl | rfl | rfl
  · skip
    show Run p e below s _ _ _ (T5.setTop (mkF m 33 #[.val (.int p1), .val (.int p2), .val (.int p3), .val (.int p4), .val (.int p5), .val (.int (0 : Int32)), .val (.int z2), .val (.int z3), .val (.int z4), .val (.int z5), .unset, .unset] []))
    refine Run.x_iload (q := 35) X5 hx (hb hby at_33) rfl rfl ?_
    refine Run.newP X5 hx hZ e5 (hw _ (List.mem_of_getElem? (i := 5) rfl)) (hb hby at_35) (len := 0) (by decide) (by decide) (cap := 0) (by decide) (by decide) (by decide) (by decide) ?_
    intro T6 h6 b6 gg6 X6 e6 E6 A_b6
    have g_b6 : n0 ≤ b6 := Nat.le_trans Z0 (Nat.le_of_eq gg6.symm)
    have Z6 : n0 ≤ h6.size := Nat.le_trans Z0 E6.1
    replace A_b6 : Ars Z h6 b6 .char [] := A_b6
    show Run p e below s _ _ _ (T6.setTop (mkF m 37 #[.val (.int p1), .val (.int p2), .val (.int p3), .val (.int p4), .val (.int p5), .val (.int (0 : Int32)), .val (.int z2), .val (.int z3), .val (.int z4), .val (.int z5), .unset, .unset] [(.ref b6)]))
    refine Run.x_astore (q := 39) X6 hx #[.val (.int p1), .val (.int p2), .val (.int p3), .val (.int p4), .val (.int p5), .val (.int (0 : Int32)), .val (.int z2), .val (.int z3), .val (.int z4), .val (.int z5), .val (.ref b6), .unset] (hb hby at_37) rfl rfl rfl ?_
    refine Run.x_iload (q := 41) X6 hx (hb hby at_39) rfl rfl ?_
    refine Run.x_ifYes (q := 50) X6 hx (hb hby at_41) ((if0 _ _).trans (flt (by decide : ¬ ((0 : Int32) < (0 : Int32)))).2.2.2) (by decide) (by decide) ?_
    refine Run.x_iload (q := 52) X6 hx (hb hby at_50) rfl rfl ?_
    refine Run.x_iconst (q := 53) X6 hx (hb hby at_52) (z := (1 : Int32)) rfl rfl ?_
    refine Run.x_icmpYes (q := 62) X6 hx (hb hby at_53) (flt (by decide : ¬ ((1 : Int32) < (0 : Int32)))).2.2.2 (by decide) (by decide) ?_
    refine Run.x_iload (q := 64) X6 hx (hb hby at_62) rfl rfl ?_
    refine Run.x_iconst (q := 65) X6 hx (hb hby at_64) (z := (2 : Int32)) rfl rfl ?_
    refine Run.x_icmpYes (q := 74) X6 hx (hb hby at_65) (flt (by decide : ¬ ((2 : Int32) < (0 : Int32)))).2.2.2 (by decide) (by decide) ?_
    refine Run.x_iload (q := 76) X6 hx (hb hby at_74) rfl rfl ?_
    refine Run.x_iconst (q := 77) X6 hx (hb hby at_76) (z := (3 : Int32)) rfl rfl ?_
    refine Run.x_icmpYes (q := 86) X6 hx (hb hby at_77) (flt (by decide : ¬ ((3 : Int32) < (0 : Int32)))).2.2.2 (by decide) (by decide) ?_
    refine Run.x_iload (q := 88) X6 hx (hb hby at_86) rfl rfl ?_
    refine Run.x_iconst (q := 89) X6 hx (hb hby at_88) (z := (1 : Int32)) rfl rfl ?_
    refine Run.x_icmpYes (q := 100) X6 hx (hb hby at_89) (tlt (by decide : (0 : Int32) < (1 : Int32))).1 (by decide) (by decide) ?_
    refine Run.x_iload (q := 102) X6 hx (hb hby at_100) rfl rfl ?_
    refine Run.x_iconst (q := 103) X6 hx (hb hby at_102) (z := (2 : Int32)) rfl rfl ?_
    refine Run.x_icmpYes (q := 114) X6 hx (hb hby at_103) (tlt (by decide : (0 : Int32) < (2 : Int32))).1 (by decide) (by decide) ?_
    refine Run.x_iload (q := 116) X6 hx (hb hby at_114) rfl rfl ?_
    refine Run.x_iconst (q := 117) X6 hx (hb hby at_116) (z := (3 : Int32)) rfl rfl ?_
    refine Run.x_icmpYes (q := 128) X6 hx (hb hby at_117) (tlt (by decide : (0 : Int32) < (3 : Int32))).1 (by decide) (by decide) ?_
    refine Run.x_iload (q := 130) X6 hx (hb hby at_128) rfl rfl ?_
    refine Run.x_iconst (q := 131) X6 hx (hb hby at_130) (z := (4 : Int32)) rfl rfl ?_
    refine Run.x_icmpYes (q := 142) X6 hx (hb hby at_131) (tlt (by decide : (0 : Int32) < (4 : Int32))).1 (by decide) (by decide) ?_
    refine Run.x_iconst (q := 143) X6 hx (hb hby at_142) (z := (1 : Int32)) rfl rfl ?_
    refine Run.x_goto (q := 147) X6 hx (hb hby at_143) (by decide) (by decide) ?_
    refine Run.x_istore (q := 149) X6 hx #[.val (.int p1), .val (.int p2), .val (.int p3), .val (.int p4), .val (.int p5), .val (.int (0 : Int32)), .val (.int z2), .val (.int z3), .val (.int z4), .val (.int z5), .val (.ref b6), .val (.int (1 : Int32))] (hb hby at_147) rfl rfl ?_
    refine Run.x_aload (q := 151) X6 hx (hb hby at_149) rfl rfl rfl ?_
    refine Run.callS X6 hx hZ e6 (y := (⟨"needlewise/kmp/DenseAutomaton", "fits", "([C)Z"⟩ : MethodName)) hown (hw _ (List.mem_of_getElem? (i := 6) rfl)) (hw _ (List.mem_of_getElem? (i := 7) rfl)) (hw _ (List.mem_of_getElem? (i := 8) rfl)) (hw _ (List.mem_of_getElem? (i := 9) rfl)) (by decide) (argsL := [(.ref b6)]) (rest := []) (c_fits0 l Z a0 hw b6 h6 n0 Z6 A_b6) pd_1 rfl (by rw [hml]; rfl) (W := 0) rfl (by decide) (by decide) (by decide) (by decide) (hb hby at_151) rfl ?_
    intro T7 v7 L7 X7 q7
    obtain ⟨rfl, M7, e7⟩ := q7
    have N7 := Fr.app N5 M7
    show Run p e below s _ _ _ (T7.setTop (mkF m 154 #[.val (.int p1), .val (.int p2), .val (.int p3), .val (.int p4), .val (.int p5), .val (.int (0 : Int32)), .val (.int z2), .val (.int z3), .val (.int z4), .val (.int z5), .val (.ref b6), .val (.int (1 : Int32))] [(.int (own_b (True)))]))
    refine Run.x_iload (q := 156) X7 hx (hb hby at_154) rfl rfl ?_
    refine Run.x_icmpNo (q := 159) X7 hx (hb hby at_156) (teq (own_b1 (by simp []))).2 rfl ?_
    refine Run.x_iconst (q := 160) X7 hx (hb hby at_159) (z := (1 : Int32)) rfl rfl ?_
    refine Run.x_goto (q := 164) X7 hx (hb hby at_160) (by decide) (by decide) ?_
    refine Run.retN X7 hx hlk e7 (t := .boolean) hret (by simp) (z' := (1 : Int32)) (by decide) (hb hby at_164) (by decide) (by decide) ?_
    exact ⟨rfl, N7⟩
  · skip
    show Run p e below s _ _ _ (T5.setTop (mkF m 33 #[.val (.int p1), .val (.int p2), .val (.int p3), .val (.int p4), .val (.int p5), .val (.int (1 : Int32)), .val (.int z2), .val (.int z3), .val (.int z4), .val (.int z5), .unset, .unset] []))
    refine Run.x_iload (q := 35) X5 hx (hb hby at_33) rfl rfl ?_
    refine Run.newP X5 hx hZ e5 (hw _ (List.mem_of_getElem? (i := 5) rfl)) (hb hby at_35) (len := 1) (by decide) (by decide) (cap := 1) (by decide) (by decide) (by decide) (by decide) ?_
    intro T8 h8 b8 gg8 X8 e8 E8 A_b8
    have g_b8 : n0 ≤ b8 := Nat.le_trans Z0 (Nat.le_of_eq gg8.symm)
    have Z8 : n0 ≤ h8.size := Nat.le_trans Z0 E8.1
    replace A_b8 : Ars Z h8 b8 .char [(.int (0 : Int32))] := A_b8
    show Run p e below s _ _ _ (T8.setTop (mkF m 37 #[.val (.int p1), .val (.int p2), .val (.int p3), .val (.int p4), .val (.int p5), .val (.int (1 : Int32)), .val (.int z2), .val (.int z3), .val (.int z4), .val (.int z5), .unset, .unset] [(.ref b8)]))
    refine Run.x_astore (q := 39) X8 hx #[.val (.int p1), .val (.int p2), .val (.int p3), .val (.int p4), .val (.int p5), .val (.int (1 : Int32)), .val (.int z2), .val (.int z3), .val (.int z4), .val (.int z5), .val (.ref b8), .unset] (hb hby at_37) rfl rfl rfl ?_
    refine Run.x_iload (q := 41) X8 hx (hb hby at_39) rfl rfl ?_
    refine Run.x_ifNo (q := 44) X8 hx (hb hby at_41) ((if0 _ _).trans (tlt (by decide : (0 : Int32) < (1 : Int32))).2.2.2) rfl ?_
    refine Run.x_aload (q := 46) X8 hx (hb hby at_44) rfl rfl rfl ?_
    refine Run.x_iconst (q := 47) X8 hx (hb hby at_46) (z := (0 : Int32)) rfl rfl ?_
    refine Run.x_iload (q := 49) X8 hx (hb hby at_47) rfl rfl ?_
    refine Run.stC X8 hx hZ e8 A_b8 (i := 0) (by decide) (Nat.le_of_ble_eq_true rfl) hz2 (hb hby at_49) ?_
    intro T9 h9 X9 e9 W9 A9
    replace A_b8 : Ars Z h9 b8 .char [(.int z2)] := A9
    have N9 := Fr.snoc X9 N5 g_b8
    have Z9 : n0 ≤ h9.size := Nat.le_trans Z8 (Nat.le_of_eq W9.size.symm)
    show Run p e below s _ _ _ (T9.setTop (mkF m 50 #[.val (.int p1), .val (.int p2), .val (.int p3), .val (.int p4), .val (.int p5), .val (.int (1 : Int32)), .val (.int z2), .val (.int z3), .val (.int z4), .val (.int z5), .val (.ref b8), .unset] []))
    refine Run.x_iload (q := 52) X9 hx (hb hby at_50) rfl rfl ?_
    refine Run.x_iconst (q := 53) X9 hx (hb hby at_52) (z := (1 : Int32)) rfl rfl ?_
    refine Run.x_icmpYes (q := 62) X9 hx (hb hby at_53) (flt (by decide : ¬ ((1 : Int32) < (1 : Int32)))).2.2.2 (by decide) (by decide) ?_
    refine Run.x_iload (q := 64) X9 hx (hb hby at_62) rfl rfl ?_
    refine Run.x_iconst (q := 65) X9 hx (hb hby at_64) (z := (2 : Int32)) rfl rfl ?_
    refine Run.x_icmpYes (q := 74) X9 hx (hb hby at_65) (flt (by decide : ¬ ((2 : Int32) < (1 : Int32)))).2.2.2 (by decide) (by decide) ?_
    refine Run.x_iload (q := 76) X9 hx (hb hby at_74) rfl rfl ?_
    refine Run.x_iconst (q := 77) X9 hx (hb hby at_76) (z := (3 : Int32)) rfl rfl ?_
    refine Run.x_icmpYes (q := 86) X9 hx (hb hby at_77) (flt (by decide : ¬ ((3 : Int32) < (1 : Int32)))).2.2.2 (by decide) (by decide) ?_
    refine Run.x_iload (q := 88) X9 hx (hb hby at_86) rfl rfl ?_
    refine Run.x_iconst (q := 89) X9 hx (hb hby at_88) (z := (1 : Int32)) rfl rfl ?_
    refine Run.x_icmpNo (q := 92) X9 hx (hb hby at_89) (flt (by decide : ¬ ((1 : Int32) < (1 : Int32)))).1 rfl ?_
    refine Run.x_iload (q := 94) X9 hx (hb hby at_92) rfl rfl ?_
    refine Run.callS X9 hx hZ e9 (y := (⟨"needlewise/kmp/DenseAutomatonFitsPinLaw", "small", "(C)Z"⟩ : MethodName)) hown (hw _ (List.mem_of_getElem? (i := 10) rfl)) (hw _ (List.mem_of_getElem? (i := 11) rfl)) (hw _ (List.mem_of_getElem? (i := 3) rfl)) (hw _ (List.mem_of_getElem? (i := 12) rfl)) (by decide) (argsL := [(.int z2)]) (rest := []) (c_small l Z a0 hw z2 h9 n0 Z9 ) pd_2 rfl (by rw [hml]; rfl) (W := 0) rfl (by decide) (by decide) (by decide) (by decide) (hb hby at_94) rfl ?_
    intro T10 v10 L10 X10 q10
    obtain ⟨rfl, M10, e10⟩ := q10
    have N10 := Fr.app N9 M10
    show Run p e below s _ _ _ (T10.setTop (mkF m 97 #[.val (.int p1), .val (.int p2), .val (.int p3), .val (.int p4), .val (.int p5), .val (.int (1 : Int32)), .val (.int z2), .val (.int z3), .val (.int z4), .val (.int z5), .val (.ref b8), .unset] [(.int (own_b (¬ 255 < z2)))]))
    by_cases hc97 : (own_b (¬ 255 < z2)) = (0 : Int32)
    · skip
      refine Run.x_ifYes (q := 146) X10 hx (hb hby at_97) ((if0 _ _).trans (teq hc97).1) (by decide) (by decide) ?_
      refine Run.x_iconst (q := 147) X10 hx (hb hby at_146) (z := (0 : Int32)) rfl rfl ?_
      refine Run.x_istore (q := 149) X10 hx #[.val (.int p1), .val (.int p2), .val (.int p3), .val (.int p4), .val (.int p5), .val (.int (1 : Int32)), .val (.int z2), .val (.int z3), .val (.int z4), .val (.int z5), .val (.ref b8), .val (.int (0 : Int32))] (hb hby at_147) rfl rfl ?_
      refine Run.x_aload (q := 151) X10 hx (hb hby at_149) rfl rfl rfl ?_
      refine Run.callS X10 hx hZ e10 (y := (⟨"needlewise/kmp/DenseAutomaton", "fits", "([C)Z"⟩ : MethodName)) hown (hw _ (List.mem_of_getElem? (i := 6) rfl)) (hw _ (List.mem_of_getElem? (i := 7) rfl)) (hw _ (List.mem_of_getElem? (i := 8) rfl)) (hw _ (List.mem_of_getElem? (i := 9) rfl)) (by decide) (argsL := [(.ref b8)]) (rest := []) (c_fits1 l Z a0 hw b8 h9 n0 Z9 z2 A_b8) pd_1 rfl (by rw [hml]; rfl) (W := 0) rfl (by decide) (by decide) (by decide) (by decide) (hb hby at_151) rfl ?_
      intro T11 v11 L11 X11 q11
      obtain ⟨rfl, M11, e11⟩ := q11
      have N11 := Fr.app N10 M11
      show Run p e below s _ _ _ (T11.setTop (mkF m 154 #[.val (.int p1), .val (.int p2), .val (.int p3), .val (.int p4), .val (.int p5), .val (.int (1 : Int32)), .val (.int z2), .val (.int z3), .val (.int z4), .val (.int z5), .val (.ref b8), .val (.int (0 : Int32))] [(.int (own_b (¬ 255 < z2)))]))
      refine Run.x_iload (q := 156) X11 hx (hb hby at_154) rfl rfl ?_
      refine Run.x_icmpNo (q := 159) X11 hx (hb hby at_156) (teq (own_b0 (by simp [own_b_no hc97]))).2 rfl ?_
      refine Run.x_iconst (q := 160) X11 hx (hb hby at_159) (z := (1 : Int32)) rfl rfl ?_
      refine Run.x_goto (q := 164) X11 hx (hb hby at_160) (by decide) (by decide) ?_
      refine Run.retN X11 hx hlk e11 (t := .boolean) hret (by simp) (z' := (1 : Int32)) (by decide) (hb hby at_164) (by decide) (by decide) ?_
      exact ⟨rfl, N11⟩
    · skip
      refine Run.x_ifNo (q := 100) X10 hx (hb hby at_97) ((if0 _ _).trans (feq hc97).1) rfl ?_
      refine Run.x_iload (q := 102) X10 hx (hb hby at_100) rfl rfl ?_
      refine Run.x_iconst (q := 103) X10 hx (hb hby at_102) (z := (2 : Int32)) rfl rfl ?_
      refine Run.x_icmpYes (q := 114) X10 hx (hb hby at_103) (tlt (by decide : (1 : Int32) < (2 : Int32))).1 (by decide) (by decide) ?_
      refine Run.x_iload (q := 116) X10 hx (hb hby at_114) rfl rfl ?_
      refine Run.x_iconst (q := 117) X10 hx (hb hby at_116) (z := (3 : Int32)) rfl rfl ?_
      refine Run.x_icmpYes (q := 128) X10 hx (hb hby at_117) (tlt (by decide : (1 : Int32) < (3 : Int32))).1 (by decide) (by decide) ?_
      refine Run.x_iload (q := 130) X10 hx (hb hby at_128) rfl rfl ?_
      refine Run.x_iconst (q := 131) X10 hx (hb hby at_130) (z := (4 : Int32)) rfl rfl ?_
      refine Run.x_icmpYes (q := 142) X10 hx (hb hby at_131) (tlt (by decide : (1 : Int32) < (4 : Int32))).1 (by decide) (by decide) ?_
      refine Run.x_iconst (q := 143) X10 hx (hb hby at_142) (z := (1 : Int32)) rfl rfl ?_
      refine Run.x_goto (q := 147) X10 hx (hb hby at_143) (by decide) (by decide) ?_
      refine Run.x_istore (q := 149) X10 hx #[.val (.int p1), .val (.int p2), .val (.int p3), .val (.int p4), .val (.int p5), .val (.int (1 : Int32)), .val (.int z2), .val (.int z3), .val (.int z4), .val (.int z5), .val (.ref b8), .val (.int (1 : Int32))] (hb hby at_147) rfl rfl ?_
      refine Run.x_aload (q := 151) X10 hx (hb hby at_149) rfl rfl rfl ?_
      refine Run.callS X10 hx hZ e10 (y := (⟨"needlewise/kmp/DenseAutomaton", "fits", "([C)Z"⟩ : MethodName)) hown (hw _ (List.mem_of_getElem? (i := 6) rfl)) (hw _ (List.mem_of_getElem? (i := 7) rfl)) (hw _ (List.mem_of_getElem? (i := 8) rfl)) (hw _ (List.mem_of_getElem? (i := 9) rfl)) (by decide) (argsL := [(.ref b8)]) (rest := []) (c_fits1 l Z a0 hw b8 h9 n0 Z9 z2 A_b8) pd_1 rfl (by rw [hml]; rfl) (W := 0) rfl (by decide) (by decide) (by decide) (by decide) (hb hby at_151) rfl ?_
      intro T12 v12 L12 X12 q12
      obtain ⟨rfl, M12, e12⟩ := q12
      have N12 := Fr.app N10 M12
      show Run p e below s _ _ _ (T12.setTop (mkF m 154 #[.val (.int p1), .val (.int p2), .val (.int p3), .val (.int p4), .val (.int p5), .val (.int (1 : Int32)), .val (.int z2), .val (.int z3), .val (.int z4), .val (.int z5), .val (.ref b8), .val (.int (1 : Int32))] [(.int (own_b (¬ 255 < z2)))]))
      refine Run.x_iload (q := 156) X12 hx (hb hby at_154) rfl rfl ?_
      refine Run.x_icmpNo (q := 159) X12 hx (hb hby at_156) (teq (own_b1 (by simp [own_b_yes hc97]))).2 rfl ?_
      refine Run.x_iconst (q := 160) X12 hx (hb hby at_159) (z := (1 : Int32)) rfl rfl ?_
      refine Run.x_goto (q := 164) X12 hx (hb hby at_160) (by decide) (by decide) ?_
      refine Run.retN X12 hx hlk e12 (t := .boolean) hret (by simp) (z' := (1 : Int32)) (by decide) (hb hby at_164) (by decide) (by decide) ?_
      exact ⟨rfl, N12⟩
  · skip
    show Run p e below s _ _ _ (T5.setTop (mkF m 33 #[.val (.int p1), .val (.int p2), .val (.int p3), .val (.int p4), .val (.int p5), .val (.int (2 : Int32)), .val (.int z2), .val (.int z3), .val (.int z4), .val (.int z5), .unset, .unset] []))
    refine Run.x_iload (q := 35) X5 hx (hb hby at_33) rfl rfl ?_
    refine Run.newP X5 hx hZ e5 (hw _ (List.mem_of_getElem? (i := 5) rfl)) (hb hby at_35) (len := 2) (by decide) (by decide) (cap := 2) (by decide) (by decide) (by decide) (by decide) ?_
    intro T13 h13 b13 gg13 X13 e13 E13 A_b13
    have g_b13 : n0 ≤ b13 := Nat.le_trans Z0 (Nat.le_of_eq gg13.symm)
    have Z13 : n0 ≤ h13.size := Nat.le_trans Z0 E13.1
    replace A_b13 : Ars Z h13 b13 .char [(.int (0 : Int32)), (.int (0 : Int32))] := A_b13
    show Run p e below s _ _ _ (T13.setTop (mkF m 37 #[.val (.int p1), .val (.int p2), .val (.int p3), .val (.int p4), .val (.int p5), .val (.int (2 : Int32)), .val (.int z2), .val (.int z3), .val (.int z4), .val (.int z5), .unset, .unset] [(.ref b13)]))
    refine Run.x_astore (q := 39) X13 hx #[.val (.int p1), .val (.int p2), .val (.int p3), .val (.int p4), .val (.int p5), .val (.int (2 : Int32)), .val (.int z2), .val (.int z3), .val (.int z4), .val (.int z5), .val (.ref b13), .unset] (hb hby at_37) rfl rfl rfl ?_
    refine Run.x_iload (q := 41) X13 hx (hb hby at_39) rfl rfl ?_
    refine Run.x_ifNo (q := 44) X13 hx (hb hby at_41) ((if0 _ _).trans (tlt (by decide : (0 : Int32) < (2 : Int32))).2.2.2) rfl ?_
    refine Run.x_aload (q := 46) X13 hx (hb hby at_44) rfl rfl rfl ?_
    refine Run.x_iconst (q := 47) X13 hx (hb hby at_46) (z := (0 : Int32)) rfl rfl ?_
    refine Run.x_iload (q := 49) X13 hx (hb hby at_47) rfl rfl ?_
    refine Run.stC X13 hx hZ e13 A_b13 (i := 0) (by decide) (Nat.le_of_ble_eq_true rfl) hz2 (hb hby at_49) ?_
    intro T14 h14 X14 e14 W14 A14
    replace A_b13 : Ars Z h14 b13 .char [(.int z2), (.int (0 : Int32))] := A14
    have N14 := Fr.snoc X14 N5 g_b13
    have Z14 : n0 ≤ h14.size := Nat.le_trans Z13 (Nat.le_of_eq W14.size.symm)
    show Run p e below s _ _ _ (T14.setTop (mkF m 50 #[.val (.int p1), .val (.int p2), .val (.int p3), .val (.int p4), .val (.int p5), .val (.int (2 : Int32)), .val (.int z2), .val (.int z3), .val (.int z4), .val (.int z5), .val (.ref b13), .unset] []))
    refine Run.x_iload (q := 52) X14 hx (hb hby at_50) rfl rfl ?_
    refine Run.x_iconst (q := 53) X14 hx (hb hby at_52) (z := (1 : Int32)) rfl rfl ?_
    refine Run.x_icmpNo (q := 56) X14 hx (hb hby at_53) (tlt (by decide : (1 : Int32) < (2 : Int32))).2.2.2 rfl ?_
    refine Run.x_aload (q := 58) X14 hx (hb hby at_56) rfl rfl rfl ?_
    refine Run.x_iconst (q := 59) X14 hx (hb hby at_58) (z := (1 : Int32)) rfl rfl ?_
    refine Run.x_iload (q := 61) X14 hx (hb hby at_59) rfl rfl ?_
    refine Run.stC X14 hx hZ e14 A_b13 (i := 1) (by decide) (Nat.le_of_ble_eq_true rfl) hz3 (hb hby at_61) ?_
    intro T15 h15 X15 e15 W15 A15
    replace A_b13 : Ars Z h15 b13 .char [(.int z2), (.int z3)] := A15
    have N15 := Fr.snoc X15 N14 g_b13
    have Z15 : n0 ≤ h15.size := Nat.le_trans Z14 (Nat.le_of_eq W15.size.symm)
    show Run p e below s _ _ _ (T15.setTop (mkF m 62 #[.val (.int p1), .val (.int p2), .val (.int p3), .val (.int p4), .val (.int p5), .val (.int (2 : Int32)), .val (.int z2), .val (.int z3), .val (.int z4), .val (.int z5), .val (.ref b13), .unset] []))
    refine Run.x_iload (q := 64) X15 hx (hb hby at_62) rfl rfl ?_
    refine Run.x_iconst (q := 65) X15 hx (hb hby at_64) (z := (2 : Int32)) rfl rfl ?_
    refine Run.x_icmpYes (q := 74) X15 hx (hb hby at_65) (flt (by decide : ¬ ((2 : Int32) < (2 : Int32)))).2.2.2 (by decide) (by decide) ?_
    refine Run.x_iload (q := 76) X15 hx (hb hby at_74) rfl rfl ?_
    refine Run.x_iconst (q := 77) X15 hx (hb hby at_76) (z := (3 : Int32)) rfl rfl ?_
    refine Run.x_icmpYes (q := 86) X15 hx (hb hby at_77) (flt (by decide : ¬ ((3 : Int32) < (2 : Int32)))).2.2.2 (by decide) (by decide) ?_
    refine Run.x_iload (q := 88) X15 hx (hb hby at_86) rfl rfl ?_
    refine Run.x_iconst (q := 89) X15 hx (hb hby at_88) (z := (1 : Int32)) rfl rfl ?_
    refine Run.x_icmpNo (q := 92) X15 hx (hb hby at_89) (flt (by decide : ¬ ((2 : Int32) < (1 : Int32)))).1 rfl ?_
    refine Run.x_iload (q := 94) X15 hx (hb hby at_92) rfl rfl ?_
    refine Run.callS X15 hx hZ e15 (y := (⟨"needlewise/kmp/DenseAutomatonFitsPinLaw", "small", "(C)Z"⟩ : MethodName)) hown (hw _ (List.mem_of_getElem? (i := 10) rfl)) (hw _ (List.mem_of_getElem? (i := 11) rfl)) (hw _ (List.mem_of_getElem? (i := 3) rfl)) (hw _ (List.mem_of_getElem? (i := 12) rfl)) (by decide) (argsL := [(.int z2)]) (rest := []) (c_small l Z a0 hw z2 h15 n0 Z15 ) pd_2 rfl (by rw [hml]; rfl) (W := 0) rfl (by decide) (by decide) (by decide) (by decide) (hb hby at_94) rfl ?_
    intro T16 v16 L16 X16 q16
    obtain ⟨rfl, M16, e16⟩ := q16
    have N16 := Fr.app N15 M16
    show Run p e below s _ _ _ (T16.setTop (mkF m 97 #[.val (.int p1), .val (.int p2), .val (.int p3), .val (.int p4), .val (.int p5), .val (.int (2 : Int32)), .val (.int z2), .val (.int z3), .val (.int z4), .val (.int z5), .val (.ref b13), .unset] [(.int (own_b (¬ 255 < z2)))]))
    by_cases hc97 : (own_b (¬ 255 < z2)) = (0 : Int32)
    · skip
      refine Run.x_ifYes (q := 146) X16 hx (hb hby at_97) ((if0 _ _).trans (teq hc97).1) (by decide) (by decide) ?_
      refine Run.x_iconst (q := 147) X16 hx (hb hby at_146) (z := (0 : Int32)) rfl rfl ?_
      refine Run.x_istore (q := 149) X16 hx #[.val (.int p1), .val (.int p2), .val (.int p3), .val (.int p4), .val (.int p5), .val (.int (2 : Int32)), .val (.int z2), .val (.int z3), .val (.int z4), .val (.int z5), .val (.ref b13), .val (.int (0 : Int32))] (hb hby at_147) rfl rfl ?_
      refine Run.x_aload (q := 151) X16 hx (hb hby at_149) rfl rfl rfl ?_
      refine Run.callS X16 hx hZ e16 (y := (⟨"needlewise/kmp/DenseAutomaton", "fits", "([C)Z"⟩ : MethodName)) hown (hw _ (List.mem_of_getElem? (i := 6) rfl)) (hw _ (List.mem_of_getElem? (i := 7) rfl)) (hw _ (List.mem_of_getElem? (i := 8) rfl)) (hw _ (List.mem_of_getElem? (i := 9) rfl)) (by decide) (argsL := [(.ref b13)]) (rest := []) (c_fits2 l Z a0 hw b13 h15 n0 Z15 z2 z3 A_b13) pd_1 rfl (by rw [hml]; rfl) (W := 0) rfl (by decide) (by decide) (by decide) (by decide) (hb hby at_151) rfl ?_
      intro T17 v17 L17 X17 q17
      obtain ⟨rfl, M17, e17⟩ := q17
      have N17 := Fr.app N16 M17
      show Run p e below s _ _ _ (T17.setTop (mkF m 154 #[.val (.int p1), .val (.int p2), .val (.int p3), .val (.int p4), .val (.int p5), .val (.int (2 : Int32)), .val (.int z2), .val (.int z3), .val (.int z4), .val (.int z5), .val (.ref b13), .val (.int (0 : Int32))] [(.int (own_b (¬ 255 < z2 ∧ ¬ 255 < z3)))]))
      refine Run.x_iload (q := 156) X17 hx (hb hby at_154) rfl rfl ?_
      refine Run.x_icmpNo (q := 159) X17 hx (hb hby at_156) (teq (own_b0 (by simp [own_b_no hc97]))).2 rfl ?_
      refine Run.x_iconst (q := 160) X17 hx (hb hby at_159) (z := (1 : Int32)) rfl rfl ?_
      refine Run.x_goto (q := 164) X17 hx (hb hby at_160) (by decide) (by decide) ?_
      refine Run.retN X17 hx hlk e17 (t := .boolean) hret (by simp) (z' := (1 : Int32)) (by decide) (hb hby at_164) (by decide) (by decide) ?_
      exact ⟨rfl, N17⟩
    · skip
      refine Run.x_ifNo (q := 100) X16 hx (hb hby at_97) ((if0 _ _).trans (feq hc97).1) rfl ?_
      refine Run.x_iload (q := 102) X16 hx (hb hby at_100) rfl rfl ?_
      refine Run.x_iconst (q := 103) X16 hx (hb hby at_102) (z := (2 : Int32)) rfl rfl ?_
      refine Run.x_icmpNo (q := 106) X16 hx (hb hby at_103) (flt (by decide : ¬ ((2 : Int32) < (2 : Int32)))).1 rfl ?_
      refine Run.x_iload (q := 108) X16 hx (hb hby at_106) rfl rfl ?_
      refine Run.callS X16 hx hZ e16 (y := (⟨"needlewise/kmp/DenseAutomatonFitsPinLaw", "small", "(C)Z"⟩ : MethodName)) hown (hw _ (List.mem_of_getElem? (i := 10) rfl)) (hw _ (List.mem_of_getElem? (i := 11) rfl)) (hw _ (List.mem_of_getElem? (i := 3) rfl)) (hw _ (List.mem_of_getElem? (i := 12) rfl)) (by decide) (argsL := [(.int z3)]) (rest := []) (c_small l Z a0 hw z3 h15 n0 Z15 ) pd_2 rfl (by rw [hml]; rfl) (W := 0) rfl (by decide) (by decide) (by decide) (by decide) (hb hby at_108) rfl ?_
      intro T18 v18 L18 X18 q18
      obtain ⟨rfl, M18, e18⟩ := q18
      have N18 := Fr.app N16 M18
      show Run p e below s _ _ _ (T18.setTop (mkF m 111 #[.val (.int p1), .val (.int p2), .val (.int p3), .val (.int p4), .val (.int p5), .val (.int (2 : Int32)), .val (.int z2), .val (.int z3), .val (.int z4), .val (.int z5), .val (.ref b13), .unset] [(.int (own_b (¬ 255 < z3)))]))
      by_cases hc111 : (own_b (¬ 255 < z3)) = (0 : Int32)
      · skip
        refine Run.x_ifYes (q := 146) X18 hx (hb hby at_111) ((if0 _ _).trans (teq hc111).1) (by decide) (by decide) ?_
        refine Run.x_iconst (q := 147) X18 hx (hb hby at_146) (z := (0 : Int32)) rfl rfl ?_
        refine Run.x_istore (q := 149) X18 hx #[.val (.int p1), .val (.int p2), .val (.int p3), .val (.int p4), .val (.int p5), .val (.int (2 : Int32)), .val (.int z2), .val (.int z3), .val (.int z4), .val (.int z5), .val (.ref b13), .val (.int (0 : Int32))] (hb hby at_147) rfl rfl ?_
        refine Run.x_aload (q := 151) X18 hx (hb hby at_149) rfl rfl rfl ?_
        refine Run.callS X18 hx hZ e18 (y := (⟨"needlewise/kmp/DenseAutomaton", "fits", "([C)Z"⟩ : MethodName)) hown (hw _ (List.mem_of_getElem? (i := 6) rfl)) (hw _ (List.mem_of_getElem? (i := 7) rfl)) (hw _ (List.mem_of_getElem? (i := 8) rfl)) (hw _ (List.mem_of_getElem? (i := 9) rfl)) (by decide) (argsL := [(.ref b13)]) (rest := []) (c_fits2 l Z a0 hw b13 h15 n0 Z15 z2 z3 A_b13) pd_1 rfl (by rw [hml]; rfl) (W := 0) rfl (by decide) (by decide) (by decide) (by decide) (hb hby at_151) rfl ?_
        intro T19 v19 L19 X19 q19
        obtain ⟨rfl, M19, e19⟩ := q19
        have N19 := Fr.app N18 M19
        show Run p e below s _ _ _ (T19.setTop (mkF m 154 #[.val (.int p1), .val (.int p2), .val (.int p3), .val (.int p4), .val (.int p5), .val (.int (2 : Int32)), .val (.int z2), .val (.int z3), .val (.int z4), .val (.int z5), .val (.ref b13), .val (.int (0 : Int32))] [(.int (own_b (¬ 255 < z2 ∧ ¬ 255 < z3)))]))
        refine Run.x_iload (q := 156) X19 hx (hb hby at_154) rfl rfl ?_
        refine Run.x_icmpNo (q := 159) X19 hx (hb hby at_156) (teq (own_b0 (by simp [own_b_yes hc97, own_b_no hc111]))).2 rfl ?_
        refine Run.x_iconst (q := 160) X19 hx (hb hby at_159) (z := (1 : Int32)) rfl rfl ?_
        refine Run.x_goto (q := 164) X19 hx (hb hby at_160) (by decide) (by decide) ?_
        refine Run.retN X19 hx hlk e19 (t := .boolean) hret (by simp) (z' := (1 : Int32)) (by decide) (hb hby at_164) (by decide) (by decide) ?_
        exact ⟨rfl, N19⟩
      · skip
        refine Run.x_ifNo (q := 114) X18 hx (hb hby at_111) ((if0 _ _).trans (feq hc111).1) rfl ?_
        refine Run.x_iload (q := 116) X18 hx (hb hby at_114) rfl rfl ?_
        refine Run.x_iconst (q := 117) X18 hx (hb hby at_116) (z := (3 : Int32)) rfl rfl ?_
        refine Run.x_icmpYes (q := 128) X18 hx (hb hby at_117) (tlt (by decide : (2 : Int32) < (3 : Int32))).1 (by decide) (by decide) ?_
        refine Run.x_iload (q := 130) X18 hx (hb hby at_128) rfl rfl ?_
        refine Run.x_iconst (q := 131) X18 hx (hb hby at_130) (z := (4 : Int32)) rfl rfl ?_
        refine Run.x_icmpYes (q := 142) X18 hx (hb hby at_131) (tlt (by decide : (2 : Int32) < (4 : Int32))).1 (by decide) (by decide) ?_
        refine Run.x_iconst (q := 143) X18 hx (hb hby at_142) (z := (1 : Int32)) rfl rfl ?_
        refine Run.x_goto (q := 147) X18 hx (hb hby at_143) (by decide) (by decide) ?_
        refine Run.x_istore (q := 149) X18 hx #[.val (.int p1), .val (.int p2), .val (.int p3), .val (.int p4), .val (.int p5), .val (.int (2 : Int32)), .val (.int z2), .val (.int z3), .val (.int z4), .val (.int z5), .val (.ref b13), .val (.int (1 : Int32))] (hb hby at_147) rfl rfl ?_
        refine Run.x_aload (q := 151) X18 hx (hb hby at_149) rfl rfl rfl ?_
        refine Run.callS X18 hx hZ e18 (y := (⟨"needlewise/kmp/DenseAutomaton", "fits", "([C)Z"⟩ : MethodName)) hown (hw _ (List.mem_of_getElem? (i := 6) rfl)) (hw _ (List.mem_of_getElem? (i := 7) rfl)) (hw _ (List.mem_of_getElem? (i := 8) rfl)) (hw _ (List.mem_of_getElem? (i := 9) rfl)) (by decide) (argsL := [(.ref b13)]) (rest := []) (c_fits2 l Z a0 hw b13 h15 n0 Z15 z2 z3 A_b13) pd_1 rfl (by rw [hml]; rfl) (W := 0) rfl (by decide) (by decide) (by decide) (by decide) (hb hby at_151) rfl ?_
        intro T20 v20 L20 X20 q20
        obtain ⟨rfl, M20, e20⟩ := q20
        have N20 := Fr.app N18 M20
        show Run p e below s _ _ _ (T20.setTop (mkF m 154 #[.val (.int p1), .val (.int p2), .val (.int p3), .val (.int p4), .val (.int p5), .val (.int (2 : Int32)), .val (.int z2), .val (.int z3), .val (.int z4), .val (.int z5), .val (.ref b13), .val (.int (1 : Int32))] [(.int (own_b (¬ 255 < z2 ∧ ¬ 255 < z3)))]))
        refine Run.x_iload (q := 156) X20 hx (hb hby at_154) rfl rfl ?_
        refine Run.x_icmpNo (q := 159) X20 hx (hb hby at_156) (teq (own_b1 (by simp [own_b_yes hc97, own_b_yes hc111]))).2 rfl ?_
        refine Run.x_iconst (q := 160) X20 hx (hb hby at_159) (z := (1 : Int32)) rfl rfl ?_
        refine Run.x_goto (q := 164) X20 hx (hb hby at_160) (by decide) (by decide) ?_
        refine Run.retN X20 hx hlk e20 (t := .boolean) hret (by simp) (z' := (1 : Int32)) (by decide) (hb hby at_164) (by decide) (by decide) ?_
        exact ⟨rfl, N20⟩
  · skip
    show Run p e below s _ _ _ (T5.setTop (mkF m 33 #[.val (.int p1), .val (.int p2), .val (.int p3), .val (.int p4), .val (.int p5), .val (.int (3 : Int32)), .val (.int z2), .val (.int z3), .val (.int z4), .val (.int z5), .unset, .unset] []))
    refine Run.x_iload (q := 35) X5 hx (hb hby at_33) rfl rfl ?_
    refine Run.newP X5 hx hZ e5 (hw _ (List.mem_of_getElem? (i := 5) rfl)) (hb hby at_35) (len := 3) (by decide) (by decide) (cap := 3) (by decide) (by decide) (by decide) (by decide) ?_
    intro T21 h21 b21 gg21 X21 e21 E21 A_b21
    have g_b21 : n0 ≤ b21 := Nat.le_trans Z0 (Nat.le_of_eq gg21.symm)
    have Z21 : n0 ≤ h21.size := Nat.le_trans Z0 E21.1
    replace A_b21 : Ars Z h21 b21 .char [(.int (0 : Int32)), (.int (0 : Int32)), (.int (0 : Int32))] := A_b21
    show Run p e below s _ _ _ (T21.setTop (mkF m 37 #[.val (.int p1), .val (.int p2), .val (.int p3), .val (.int p4), .val (.int p5), .val (.int (3 : Int32)), .val (.int z2), .val (.int z3), .val (.int z4), .val (.int z5), .unset, .unset] [(.ref b21)]))
    refine Run.x_astore (q := 39) X21 hx #[.val (.int p1), .val (.int p2), .val (.int p3), .val (.int p4), .val (.int p5), .val (.int (3 : Int32)), .val (.int z2), .val (.int z3), .val (.int z4), .val (.int z5), .val (.ref b21), .unset] (hb hby at_37) rfl rfl rfl ?_
    refine Run.x_iload (q := 41) X21 hx (hb hby at_39) rfl rfl ?_
    refine Run.x_ifNo (q := 44) X21 hx (hb hby at_41) ((if0 _ _).trans (tlt (by decide : (0 : Int32) < (3 : Int32))).2.2.2) rfl ?_
    refine Run.x_aload (q := 46) X21 hx (hb hby at_44) rfl rfl rfl ?_
    refine Run.x_iconst (q := 47) X21 hx (hb hby at_46) (z := (0 : Int32)) rfl rfl ?_
    refine Run.x_iload (q := 49) X21 hx (hb hby at_47) rfl rfl ?_
    refine Run.stC X21 hx hZ e21 A_b21 (i := 0) (by decide) (Nat.le_of_ble_eq_true rfl) hz2 (hb hby at_49) ?_
    intro T22 h22 X22 e22 W22 A22
    replace A_b21 : Ars Z h22 b21 .char [(.int z2), (.int (0 : Int32)), (.int (0 : Int32))] := A22
    have N22 := Fr.snoc X22 N5 g_b21
    have Z22 : n0 ≤ h22.size := Nat.le_trans Z21 (Nat.le_of_eq W22.size.symm)
    show Run p e below s _ _ _ (T22.setTop (mkF m 50 #[.val (.int p1), .val (.int p2), .val (.int p3), .val (.int p4), .val (.int p5), .val (.int (3 : Int32)), .val (.int z2), .val (.int z3), .val (.int z4), .val (.int z5), .val (.ref b21), .unset] []))
    refine Run.x_iload (q := 52) X22 hx (hb hby at_50) rfl rfl ?_
    refine Run.x_iconst (q := 53) X22 hx (hb hby at_52) (z := (1 : Int32)) rfl rfl ?_
    refine Run.x_icmpNo (q := 56) X22 hx (hb hby at_53) (tlt (by decide : (1 : Int32) < (3 : Int32))).2.2.2 rfl ?_
    refine Run.x_aload (q := 58) X22 hx (hb hby at_56) rfl rfl rfl ?_
    refine Run.x_iconst (q := 59) X22 hx (hb hby at_58) (z := (1 : Int32)) rfl rfl ?_
    refine Run.x_iload (q := 61) X22 hx (hb hby at_59) rfl rfl ?_
    refine Run.stC X22 hx hZ e22 A_b21 (i := 1) (by decide) (Nat.le_of_ble_eq_true rfl) hz3 (hb hby at_61) ?_
    intro T23 h23 X23 e23 W23 A23
    replace A_b21 : Ars Z h23 b21 .char [(.int z2), (.int z3), (.int (0 : Int32))] := A23
    have N23 := Fr.snoc X23 N22 g_b21
    have Z23 : n0 ≤ h23.size := Nat.le_trans Z22 (Nat.le_of_eq W23.size.symm)
    show Run p e below s _ _ _ (T23.setTop (mkF m 62 #[.val (.int p1), .val (.int p2), .val (.int p3), .val (.int p4), .val (.int p5), .val (.int (3 : Int32)), .val (.int z2), .val (.int z3), .val (.int z4), .val (.int z5), .val (.ref b21), .unset] []))
    refine Run.x_iload (q := 64) X23 hx (hb hby at_62) rfl rfl ?_
    refine Run.x_iconst (q := 65) X23 hx (hb hby at_64) (z := (2 : Int32)) rfl rfl ?_
    refine Run.x_icmpNo (q := 68) X23 hx (hb hby at_65) (tlt (by decide : (2 : Int32) < (3 : Int32))).2.2.2 rfl ?_
    refine Run.x_aload (q := 70) X23 hx (hb hby at_68) rfl rfl rfl ?_
    refine Run.x_iconst (q := 71) X23 hx (hb hby at_70) (z := (2 : Int32)) rfl rfl ?_
    refine Run.x_iload (q := 73) X23 hx (hb hby at_71) rfl rfl ?_
    refine Run.stC X23 hx hZ e23 A_b21 (i := 2) (by decide) (Nat.le_of_ble_eq_true rfl) hz4 (hb hby at_73) ?_
    intro T24 h24 X24 e24 W24 A24
    replace A_b21 : Ars Z h24 b21 .char [(.int z2), (.int z3), (.int z4)] := A24
    have N24 := Fr.snoc X24 N23 g_b21
    have Z24 : n0 ≤ h24.size := Nat.le_trans Z23 (Nat.le_of_eq W24.size.symm)
    show Run p e below s _ _ _ (T24.setTop (mkF m 74 #[.val (.int p1), .val (.int p2), .val (.int p3), .val (.int p4), .val (.int p5), .val (.int (3 : Int32)), .val (.int z2), .val (.int z3), .val (.int z4), .val (.int z5), .val (.ref b21), .unset] []))
    refine Run.x_iload (q := 76) X24 hx (hb hby at_74) rfl rfl ?_
    refine Run.x_iconst (q := 77) X24 hx (hb hby at_76) (z := (3 : Int32)) rfl rfl ?_
    refine Run.x_icmpYes (q := 86) X24 hx (hb hby at_77) (flt (by decide : ¬ ((3 : Int32) < (3 : Int32)))).2.2.2 (by decide) (by decide) ?_
    refine Run.x_iload (q := 88) X24 hx (hb hby at_86) rfl rfl ?_
    refine Run.x_iconst (q := 89) X24 hx (hb hby at_88) (z := (1 : Int32)) rfl rfl ?_
    refine Run.x_icmpNo (q := 92) X24 hx (hb hby at_89) (flt (by decide : ¬ ((3 : Int32) < (1 : Int32)))).1 rfl ?_
    refine Run.x_iload (q := 94) X24 hx (hb hby at_92) rfl rfl ?_
    refine Run.callS X24 hx hZ e24 (y := (⟨"needlewise/kmp/DenseAutomatonFitsPinLaw", "small", "(C)Z"⟩ : MethodName)) hown (hw _ (List.mem_of_getElem? (i := 10) rfl)) (hw _ (List.mem_of_getElem? (i := 11) rfl)) (hw _ (List.mem_of_getElem? (i := 3) rfl)) (hw _ (List.mem_of_getElem? (i := 12) rfl)) (by decide) (argsL := [(.int z2)]) (rest := []) (c_small l Z a0 hw z2 h24 n0 Z24 ) pd_2 rfl (by rw [hml]; rfl) (W := 0) rfl (by decide) (by decide) (by decide) (by decide) (hb hby at_94) rfl ?_
    intro T25 v25 L25 X25 q25
    obtain ⟨rfl, M25, e25⟩ := q25
    have N25 := Fr.app N24 M25
    show Run p e below s _ _ _ (T25.setTop (mkF m 97 #[.val (.int p1), .val (.int p2), .val (.int p3), .val (.int p4), .val (.int p5), .val (.int (3 : Int32)), .val (.int z2), .val (.int z3), .val (.int z4), .val (.int z5), .val (.ref b21), .unset] [(.int (own_b (¬ 255 < z2)))]))
    by_cases hc97 : (own_b (¬ 255 < z2)) = (0 : Int32)
    · skip
      refine Run.x_ifYes (q := 146) X25 hx (hb hby at_97) ((if0 _ _).trans (teq hc97).1) (by decide) (by decide) ?_
      refine Run.x_iconst (q := 147) X25 hx (hb hby at_146) (z := (0 : Int32)) rfl rfl ?_
      refine Run.x_istore (q := 149) X25 hx #[.val (.int p1), .val (.int p2), .val (.int p3), .val (.int p4), .val (.int p5), .val (.int (3 : Int32)), .val (.int z2), .val (.int z3), .val (.int z4), .val (.int z5), .val (.ref b21), .val (.int (0 : Int32))] (hb hby at_147) rfl rfl ?_
      refine Run.x_aload (q := 151) X25 hx (hb hby at_149) rfl rfl rfl ?_
      refine Run.callS X25 hx hZ e25 (y := (⟨"needlewise/kmp/DenseAutomaton", "fits", "([C)Z"⟩ : MethodName)) hown (hw _ (List.mem_of_getElem? (i := 6) rfl)) (hw _ (List.mem_of_getElem? (i := 7) rfl)) (hw _ (List.mem_of_getElem? (i := 8) rfl)) (hw _ (List.mem_of_getElem? (i := 9) rfl)) (by decide) (argsL := [(.ref b21)]) (rest := []) (c_fits3 l Z a0 hw b21 h24 n0 Z24 z2 z3 z4 A_b21) pd_1 rfl (by rw [hml]; rfl) (W := 0) rfl (by decide) (by decide) (by decide) (by decide) (hb hby at_151) rfl ?_
      intro T26 v26 L26 X26 q26
      obtain ⟨rfl, M26, e26⟩ := q26
      have N26 := Fr.app N25 M26
      show Run p e below s _ _ _ (T26.setTop (mkF m 154 #[.val (.int p1), .val (.int p2), .val (.int p3), .val (.int p4), .val (.int p5), .val (.int (3 : Int32)), .val (.int z2), .val (.int z3), .val (.int z4), .val (.int z5), .val (.ref b21), .val (.int (0 : Int32))] [(.int (own_b (¬ 255 < z2 ∧ ¬ 255 < z3 ∧ ¬ 255 < z4)))]))
      refine Run.x_iload (q := 156) X26 hx (hb hby at_154) rfl rfl ?_
      refine Run.x_icmpNo (q := 159) X26 hx (hb hby at_156) (teq (own_b0 (by simp [own_b_no hc97]))).2 rfl ?_
      refine Run.x_iconst (q := 160) X26 hx (hb hby at_159) (z := (1 : Int32)) rfl rfl ?_
      refine Run.x_goto (q := 164) X26 hx (hb hby at_160) (by decide) (by decide) ?_
      refine Run.retN X26 hx hlk e26 (t := .boolean) hret (by simp) (z' := (1 : Int32)) (by decide) (hb hby at_164) (by decide) (by decide) ?_
      exact ⟨rfl, N26⟩
    · skip
      refine Run.x_ifNo (q := 100) X25 hx (hb hby at_97) ((if0 _ _).trans (feq hc97).1) rfl ?_
      refine Run.x_iload (q := 102) X25 hx (hb hby at_100) rfl rfl ?_
      refine Run.x_iconst (q := 103) X25 hx (hb hby at_102) (z := (2 : Int32)) rfl rfl ?_
      refine Run.x_icmpNo (q := 106) X25 hx (hb hby at_103) (flt (by decide : ¬ ((3 : Int32) < (2 : Int32)))).1 rfl ?_
      refine Run.x_iload (q := 108) X25 hx (hb hby at_106) rfl rfl ?_
      refine Run.callS X25 hx hZ e25 (y := (⟨"needlewise/kmp/DenseAutomatonFitsPinLaw", "small", "(C)Z"⟩ : MethodName)) hown (hw _ (List.mem_of_getElem? (i := 10) rfl)) (hw _ (List.mem_of_getElem? (i := 11) rfl)) (hw _ (List.mem_of_getElem? (i := 3) rfl)) (hw _ (List.mem_of_getElem? (i := 12) rfl)) (by decide) (argsL := [(.int z3)]) (rest := []) (c_small l Z a0 hw z3 h24 n0 Z24 ) pd_2 rfl (by rw [hml]; rfl) (W := 0) rfl (by decide) (by decide) (by decide) (by decide) (hb hby at_108) rfl ?_
      intro T27 v27 L27 X27 q27
      obtain ⟨rfl, M27, e27⟩ := q27
      have N27 := Fr.app N25 M27
      show Run p e below s _ _ _ (T27.setTop (mkF m 111 #[.val (.int p1), .val (.int p2), .val (.int p3), .val (.int p4), .val (.int p5), .val (.int (3 : Int32)), .val (.int z2), .val (.int z3), .val (.int z4), .val (.int z5), .val (.ref b21), .unset] [(.int (own_b (¬ 255 < z3)))]))
      by_cases hc111 : (own_b (¬ 255 < z3)) = (0 : Int32)
      · skip
        refine Run.x_ifYes (q := 146) X27 hx (hb hby at_111) ((if0 _ _).trans (teq hc111).1) (by decide) (by decide) ?_
        refine Run.x_iconst (q := 147) X27 hx (hb hby at_146) (z := (0 : Int32)) rfl rfl ?_
        refine Run.x_istore (q := 149) X27 hx #[.val (.int p1), .val (.int p2), .val (.int p3), .val (.int p4), .val (.int p5), .val (.int (3 : Int32)), .val (.int z2), .val (.int z3), .val (.int z4), .val (.int z5), .val (.ref b21), .val (.int (0 : Int32))] (hb hby at_147) rfl rfl ?_
        refine Run.x_aload (q := 151) X27 hx (hb hby at_149) rfl rfl rfl ?_
        refine Run.callS X27 hx hZ e27 (y := (⟨"needlewise/kmp/DenseAutomaton", "fits", "([C)Z"⟩ : MethodName)) hown (hw _ (List.mem_of_getElem? (i := 6) rfl)) (hw _ (List.mem_of_getElem? (i := 7) rfl)) (hw _ (List.mem_of_getElem? (i := 8) rfl)) (hw _ (List.mem_of_getElem? (i := 9) rfl)) (by decide) (argsL := [(.ref b21)]) (rest := []) (c_fits3 l Z a0 hw b21 h24 n0 Z24 z2 z3 z4 A_b21) pd_1 rfl (by rw [hml]; rfl) (W := 0) rfl (by decide) (by decide) (by decide) (by decide) (hb hby at_151) rfl ?_
        intro T28 v28 L28 X28 q28
        obtain ⟨rfl, M28, e28⟩ := q28
        have N28 := Fr.app N27 M28
        show Run p e below s _ _ _ (T28.setTop (mkF m 154 #[.val (.int p1), .val (.int p2), .val (.int p3), .val (.int p4), .val (.int p5), .val (.int (3 : Int32)), .val (.int z2), .val (.int z3), .val (.int z4), .val (.int z5), .val (.ref b21), .val (.int (0 : Int32))] [(.int (own_b (¬ 255 < z2 ∧ ¬ 255 < z3 ∧ ¬ 255 < z4)))]))
        refine Run.x_iload (q := 156) X28 hx (hb hby at_154) rfl rfl ?_
        refine Run.x_icmpNo (q := 159) X28 hx (hb hby at_156) (teq (own_b0 (by simp [own_b_yes hc97, own_b_no hc111]))).2 rfl ?_
        refine Run.x_iconst (q := 160) X28 hx (hb hby at_159) (z := (1 : Int32)) rfl rfl ?_
        refine Run.x_goto (q := 164) X28 hx (hb hby at_160) (by decide) (by decide) ?_
        refine Run.retN X28 hx hlk e28 (t := .boolean) hret (by simp) (z' := (1 : Int32)) (by decide) (hb hby at_164) (by decide) (by decide) ?_
        exact ⟨rfl, N28⟩
      · skip
        refine Run.x_ifNo (q := 114) X27 hx (hb hby at_111) ((if0 _ _).trans (feq hc111).1) rfl ?_
        refine Run.x_iload (q := 116) X27 hx (hb hby at_114) rfl rfl ?_
        refine Run.x_iconst (q := 117) X27 hx (hb hby at_116) (z := (3 : Int32)) rfl rfl ?_
        refine Run.x_icmpNo (q := 120) X27 hx (hb hby at_117) (flt (by decide : ¬ ((3 : Int32) < (3 : Int32)))).1 rfl ?_
        refine Run.x_iload (q := 122) X27 hx (hb hby at_120) rfl rfl ?_
        refine Run.callS X27 hx hZ e27 (y := (⟨"needlewise/kmp/DenseAutomatonFitsPinLaw", "small", "(C)Z"⟩ : MethodName)) hown (hw _ (List.mem_of_getElem? (i := 10) rfl)) (hw _ (List.mem_of_getElem? (i := 11) rfl)) (hw _ (List.mem_of_getElem? (i := 3) rfl)) (hw _ (List.mem_of_getElem? (i := 12) rfl)) (by decide) (argsL := [(.int z4)]) (rest := []) (c_small l Z a0 hw z4 h24 n0 Z24 ) pd_2 rfl (by rw [hml]; rfl) (W := 0) rfl (by decide) (by decide) (by decide) (by decide) (hb hby at_122) rfl ?_
        intro T29 v29 L29 X29 q29
        obtain ⟨rfl, M29, e29⟩ := q29
        have N29 := Fr.app N27 M29
        show Run p e below s _ _ _ (T29.setTop (mkF m 125 #[.val (.int p1), .val (.int p2), .val (.int p3), .val (.int p4), .val (.int p5), .val (.int (3 : Int32)), .val (.int z2), .val (.int z3), .val (.int z4), .val (.int z5), .val (.ref b21), .unset] [(.int (own_b (¬ 255 < z4)))]))
        by_cases hc125 : (own_b (¬ 255 < z4)) = (0 : Int32)
        · skip
          refine Run.x_ifYes (q := 146) X29 hx (hb hby at_125) ((if0 _ _).trans (teq hc125).1) (by decide) (by decide) ?_
          refine Run.x_iconst (q := 147) X29 hx (hb hby at_146) (z := (0 : Int32)) rfl rfl ?_
          refine Run.x_istore (q := 149) X29 hx #[.val (.int p1), .val (.int p2), .val (.int p3), .val (.int p4), .val (.int p5), .val (.int (3 : Int32)), .val (.int z2), .val (.int z3), .val (.int z4), .val (.int z5), .val (.ref b21), .val (.int (0 : Int32))] (hb hby at_147) rfl rfl ?_
          refine Run.x_aload (q := 151) X29 hx (hb hby at_149) rfl rfl rfl ?_
          refine Run.callS X29 hx hZ e29 (y := (⟨"needlewise/kmp/DenseAutomaton", "fits", "([C)Z"⟩ : MethodName)) hown (hw _ (List.mem_of_getElem? (i := 6) rfl)) (hw _ (List.mem_of_getElem? (i := 7) rfl)) (hw _ (List.mem_of_getElem? (i := 8) rfl)) (hw _ (List.mem_of_getElem? (i := 9) rfl)) (by decide) (argsL := [(.ref b21)]) (rest := []) (c_fits3 l Z a0 hw b21 h24 n0 Z24 z2 z3 z4 A_b21) pd_1 rfl (by rw [hml]; rfl) (W := 0) rfl (by decide) (by decide) (by decide) (by decide) (hb hby at_151) rfl ?_
          intro T30 v30 L30 X30 q30
          obtain ⟨rfl, M30, e30⟩ := q30
          have N30 := Fr.app N29 M30
          show Run p e below s _ _ _ (T30.setTop (mkF m 154 #[.val (.int p1), .val (.int p2), .val (.int p3), .val (.int p4), .val (.int p5), .val (.int (3 : Int32)), .val (.int z2), .val (.int z3), .val (.int z4), .val (.int z5), .val (.ref b21), .val (.int (0 : Int32))] [(.int (own_b (¬ 255 < z2 ∧ ¬ 255 < z3 ∧ ¬ 255 < z4)))]))
          refine Run.x_iload (q := 156) X30 hx (hb hby at_154) rfl rfl ?_
          refine Run.x_icmpNo (q := 159) X30 hx (hb hby at_156) (teq (own_b0 (by simp [own_b_yes hc97, own_b_yes hc111, own_b_no hc125]))).2 rfl ?_
          refine Run.x_iconst (q := 160) X30 hx (hb hby at_159) (z := (1 : Int32)) rfl rfl ?_
          refine Run.x_goto (q := 164) X30 hx (hb hby at_160) (by decide) (by decide) ?_
          refine Run.retN X30 hx hlk e30 (t := .boolean) hret (by simp) (z' := (1 : Int32)) (by decide) (hb hby at_164) (by decide) (by decide) ?_
          exact ⟨rfl, N30⟩
        · skip
          refine Run.x_ifNo (q := 128) X29 hx (hb hby at_125) ((if0 _ _).trans (feq hc125).1) rfl ?_
          refine Run.x_iload (q := 130) X29 hx (hb hby at_128) rfl rfl ?_
          refine Run.x_iconst (q := 131) X29 hx (hb hby at_130) (z := (4 : Int32)) rfl rfl ?_
          refine Run.x_icmpYes (q := 142) X29 hx (hb hby at_131) (tlt (by decide : (3 : Int32) < (4 : Int32))).1 (by decide) (by decide) ?_
          refine Run.x_iconst (q := 143) X29 hx (hb hby at_142) (z := (1 : Int32)) rfl rfl ?_
          refine Run.x_goto (q := 147) X29 hx (hb hby at_143) (by decide) (by decide) ?_
          refine Run.x_istore (q := 149) X29 hx #[.val (.int p1), .val (.int p2), .val (.int p3), .val (.int p4), .val (.int p5), .val (.int (3 : Int32)), .val (.int z2), .val (.int z3), .val (.int z4), .val (.int z5), .val (.ref b21), .val (.int (1 : Int32))] (hb hby at_147) rfl rfl ?_
          refine Run.x_aload (q := 151) X29 hx (hb hby at_149) rfl rfl rfl ?_
          refine Run.callS X29 hx hZ e29 (y := (⟨"needlewise/kmp/DenseAutomaton", "fits", "([C)Z"⟩ : MethodName)) hown (hw _ (List.mem_of_getElem? (i := 6) rfl)) (hw _ (List.mem_of_getElem? (i := 7) rfl)) (hw _ (List.mem_of_getElem? (i := 8) rfl)) (hw _ (List.mem_of_getElem? (i := 9) rfl)) (by decide) (argsL := [(.ref b21)]) (rest := []) (c_fits3 l Z a0 hw b21 h24 n0 Z24 z2 z3 z4 A_b21) pd_1 rfl (by rw [hml]; rfl) (W := 0) rfl (by decide) (by decide) (by decide) (by decide) (hb hby at_151) rfl ?_
          intro T31 v31 L31 X31 q31
          obtain ⟨rfl, M31, e31⟩ := q31
          have N31 := Fr.app N29 M31
          show Run p e below s _ _ _ (T31.setTop (mkF m 154 #[.val (.int p1), .val (.int p2), .val (.int p3), .val (.int p4), .val (.int p5), .val (.int (3 : Int32)), .val (.int z2), .val (.int z3), .val (.int z4), .val (.int z5), .val (.ref b21), .val (.int (1 : Int32))] [(.int (own_b (¬ 255 < z2 ∧ ¬ 255 < z3 ∧ ¬ 255 < z4)))]))
          refine Run.x_iload (q := 156) X31 hx (hb hby at_154) rfl rfl ?_
          refine Run.x_icmpNo (q := 159) X31 hx (hb hby at_156) (teq (own_b1 (by simp [own_b_yes hc97, own_b_yes hc111, own_b_yes hc125]))).2 rfl ?_
          refine Run.x_iconst (q := 160) X31 hx (hb hby at_159) (z := (1 : Int32)) rfl rfl ?_
          refine Run.x_goto (q := 164) X31 hx (hb hby at_160) (by decide) (by decide) ?_
          refine Run.retN X31 hx hlk e31 (t := .boolean) hret (by simp) (z' := (1 : Int32)) (by decide) (hb hby at_164) (by decide) (by decide) ?_
          exact ⟨rfl, N31⟩
  · skip
    show Run p e below s _ _ _ (T5.setTop (mkF m 33 #[.val (.int p1), .val (.int p2), .val (.int p3), .val (.int p4), .val (.int p5), .val (.int (4 : Int32)), .val (.int z2), .val (.int z3), .val (.int z4), .val (.int z5), .unset, .unset] []))
    refine Run.x_iload (q := 35) X5 hx (hb hby at_33) rfl rfl ?_
    refine Run.newP X5 hx hZ e5 (hw _ (List.mem_of_getElem? (i := 5) rfl)) (hb hby at_35) (len := 4) (by decide) (by decide) (cap := 4) (by decide) (by decide) (by decide) (by decide) ?_
    intro T32 h32 b32 gg32 X32 e32 E32 A_b32
    have g_b32 : n0 ≤ b32 := Nat.le_trans Z0 (Nat.le_of_eq gg32.symm)
    have Z32 : n0 ≤ h32.size := Nat.le_trans Z0 E32.1
    replace A_b32 : Ars Z h32 b32 .char [(.int (0 : Int32)), (.int (0 : Int32)), (.int (0 : Int32)), (.int (0 : Int32))] := A_b32
    show Run p e below s _ _ _ (T32.setTop (mkF m 37 #[.val (.int p1), .val (.int p2), .val (.int p3), .val (.int p4), .val (.int p5), .val (.int (4 : Int32)), .val (.int z2), .val (.int z3), .val (.int z4), .val (.int z5), .unset, .unset] [(.ref b32)]))
    refine Run.x_astore (q := 39) X32 hx #[.val (.int p1), .val (.int p2), .val (.int p3), .val (.int p4), .val (.int p5), .val (.int (4 : Int32)), .val (.int z2), .val (.int z3), .val (.int z4), .val (.int z5), .val (.ref b32), .unset] (hb hby at_37) rfl rfl rfl ?_
    refine Run.x_iload (q := 41) X32 hx (hb hby at_39) rfl rfl ?_
    refine Run.x_ifNo (q := 44) X32 hx (hb hby at_41) ((if0 _ _).trans (tlt (by decide : (0 : Int32) < (4 : Int32))).2.2.2) rfl ?_
    refine Run.x_aload (q := 46) X32 hx (hb hby at_44) rfl rfl rfl ?_
    refine Run.x_iconst (q := 47) X32 hx (hb hby at_46) (z := (0 : Int32)) rfl rfl ?_
    refine Run.x_iload (q := 49) X32 hx (hb hby at_47) rfl rfl ?_
    refine Run.stC X32 hx hZ e32 A_b32 (i := 0) (by decide) (Nat.le_of_ble_eq_true rfl) hz2 (hb hby at_49) ?_
    intro T33 h33 X33 e33 W33 A33
    replace A_b32 : Ars Z h33 b32 .char [(.int z2), (.int (0 : Int32)), (.int (0 : Int32)), (.int (0 : Int32))] := A33
    have N33 := Fr.snoc X33 N5 g_b32
    have Z33 : n0 ≤ h33.size := Nat.le_trans Z32 (Nat.le_of_eq W33.size.symm)
    show Run p e below s _ _ _ (T33.setTop (mkF m 50 #[.val (.int p1), .val (.int p2), .val (.int p3), .val (.int p4), .val (.int p5), .val (.int (4 : Int32)), .val (.int z2), .val (.int z3), .val (.int z4), .val (.int z5), .val (.ref b32), .unset] []))
    refine Run.x_iload (q := 52) X33 hx (hb hby at_50) rfl rfl ?_
    refine Run.x_iconst (q := 53) X33 hx (hb hby at_52) (z := (1 : Int32)) rfl rfl ?_
    refine Run.x_icmpNo (q := 56) X33 hx (hb hby at_53) (tlt (by decide : (1 : Int32) < (4 : Int32))).2.2.2 rfl ?_
    refine Run.x_aload (q := 58) X33 hx (hb hby at_56) rfl rfl rfl ?_
    refine Run.x_iconst (q := 59) X33 hx (hb hby at_58) (z := (1 : Int32)) rfl rfl ?_
    refine Run.x_iload (q := 61) X33 hx (hb hby at_59) rfl rfl ?_
    refine Run.stC X33 hx hZ e33 A_b32 (i := 1) (by decide) (Nat.le_of_ble_eq_true rfl) hz3 (hb hby at_61) ?_
    intro T34 h34 X34 e34 W34 A34
    replace A_b32 : Ars Z h34 b32 .char [(.int z2), (.int z3), (.int (0 : Int32)), (.int (0 : Int32))] := A34
    have N34 := Fr.snoc X34 N33 g_b32
    have Z34 : n0 ≤ h34.size := Nat.le_trans Z33 (Nat.le_of_eq W34.size.symm)
    show Run p e below s _ _ _ (T34.setTop (mkF m 62 #[.val (.int p1), .val (.int p2), .val (.int p3), .val (.int p4), .val (.int p5), .val (.int (4 : Int32)), .val (.int z2), .val (.int z3), .val (.int z4), .val (.int z5), .val (.ref b32), .unset] []))
    refine Run.x_iload (q := 64) X34 hx (hb hby at_62) rfl rfl ?_
    refine Run.x_iconst (q := 65) X34 hx (hb hby at_64) (z := (2 : Int32)) rfl rfl ?_
    refine Run.x_icmpNo (q := 68) X34 hx (hb hby at_65) (tlt (by decide : (2 : Int32) < (4 : Int32))).2.2.2 rfl ?_
    refine Run.x_aload (q := 70) X34 hx (hb hby at_68) rfl rfl rfl ?_
    refine Run.x_iconst (q := 71) X34 hx (hb hby at_70) (z := (2 : Int32)) rfl rfl ?_
    refine Run.x_iload (q := 73) X34 hx (hb hby at_71) rfl rfl ?_
    refine Run.stC X34 hx hZ e34 A_b32 (i := 2) (by decide) (Nat.le_of_ble_eq_true rfl) hz4 (hb hby at_73) ?_
    intro T35 h35 X35 e35 W35 A35
    replace A_b32 : Ars Z h35 b32 .char [(.int z2), (.int z3), (.int z4), (.int (0 : Int32))] := A35
    have N35 := Fr.snoc X35 N34 g_b32
    have Z35 : n0 ≤ h35.size := Nat.le_trans Z34 (Nat.le_of_eq W35.size.symm)
    show Run p e below s _ _ _ (T35.setTop (mkF m 74 #[.val (.int p1), .val (.int p2), .val (.int p3), .val (.int p4), .val (.int p5), .val (.int (4 : Int32)), .val (.int z2), .val (.int z3), .val (.int z4), .val (.int z5), .val (.ref b32), .unset] []))
    refine Run.x_iload (q := 76) X35 hx (hb hby at_74) rfl rfl ?_
    refine Run.x_iconst (q := 77) X35 hx (hb hby at_76) (z := (3 : Int32)) rfl rfl ?_
    refine Run.x_icmpNo (q := 80) X35 hx (hb hby at_77) (tlt (by decide : (3 : Int32) < (4 : Int32))).2.2.2 rfl ?_
    refine Run.x_aload (q := 82) X35 hx (hb hby at_80) rfl rfl rfl ?_
    refine Run.x_iconst (q := 83) X35 hx (hb hby at_82) (z := (3 : Int32)) rfl rfl ?_
    refine Run.x_iload (q := 85) X35 hx (hb hby at_83) rfl rfl ?_
    refine Run.stC X35 hx hZ e35 A_b32 (i := 3) (by decide) (Nat.le_of_ble_eq_true rfl) hz5 (hb hby at_85) ?_
    intro T36 h36 X36 e36 W36 A36
    replace A_b32 : Ars Z h36 b32 .char [(.int z2), (.int z3), (.int z4), (.int z5)] := A36
    have N36 := Fr.snoc X36 N35 g_b32
    have Z36 : n0 ≤ h36.size := Nat.le_trans Z35 (Nat.le_of_eq W36.size.symm)
    show Run p e below s _ _ _ (T36.setTop (mkF m 86 #[.val (.int p1), .val (.int p2), .val (.int p3), .val (.int p4), .val (.int p5), .val (.int (4 : Int32)), .val (.int z2), .val (.int z3), .val (.int z4), .val (.int z5), .val (.ref b32), .unset] []))
    refine Run.x_iload (q := 88) X36 hx (hb hby at_86) rfl rfl ?_
    refine Run.x_iconst (q := 89) X36 hx (hb hby at_88) (z := (1 : Int32)) rfl rfl ?_
    refine Run.x_icmpNo (q := 92) X36 hx (hb hby at_89) (flt (by decide : ¬ ((4 : Int32) < (1 : Int32)))).1 rfl ?_
    refine Run.x_iload (q := 94) X36 hx (hb hby at_92) rfl rfl ?_
    refine Run.callS X36 hx hZ e36 (y := (⟨"needlewise/kmp/DenseAutomatonFitsPinLaw", "small", "(C)Z"⟩ : MethodName)) hown (hw _ (List.mem_of_getElem? (i := 10) rfl)) (hw _ (List.mem_of_getElem? (i := 11) rfl)) (hw _ (List.mem_of_getElem? (i := 3) rfl)) (hw _ (List.mem_of_getElem? (i := 12) rfl)) (by decide) (argsL := [(.int z2)]) (rest := []) (c_small l Z a0 hw z2 h36 n0 Z36 ) pd_2 rfl (by rw [hml]; rfl) (W := 0) rfl (by decide) (by decide) (by decide) (by decide) (hb hby at_94) rfl ?_
    intro T37 v37 L37 X37 q37
    obtain ⟨rfl, M37, e37⟩ := q37
    have N37 := Fr.app N36 M37
    show Run p e below s _ _ _ (T37.setTop (mkF m 97 #[.val (.int p1), .val (.int p2), .val (.int p3), .val (.int p4), .val (.int p5), .val (.int (4 : Int32)), .val (.int z2), .val (.int z3), .val (.int z4), .val (.int z5), .val (.ref b32), .unset] [(.int (own_b (¬ 255 < z2)))]))
    by_cases hc97 : (own_b (¬ 255 < z2)) = (0 : Int32)
    · skip
      refine Run.x_ifYes (q := 146) X37 hx (hb hby at_97) ((if0 _ _).trans (teq hc97).1) (by decide) (by decide) ?_
      refine Run.x_iconst (q := 147) X37 hx (hb hby at_146) (z := (0 : Int32)) rfl rfl ?_
      refine Run.x_istore (q := 149) X37 hx #[.val (.int p1), .val (.int p2), .val (.int p3), .val (.int p4), .val (.int p5), .val (.int (4 : Int32)), .val (.int z2), .val (.int z3), .val (.int z4), .val (.int z5), .val (.ref b32), .val (.int (0 : Int32))] (hb hby at_147) rfl rfl ?_
      refine Run.x_aload (q := 151) X37 hx (hb hby at_149) rfl rfl rfl ?_
      refine Run.callS X37 hx hZ e37 (y := (⟨"needlewise/kmp/DenseAutomaton", "fits", "([C)Z"⟩ : MethodName)) hown (hw _ (List.mem_of_getElem? (i := 6) rfl)) (hw _ (List.mem_of_getElem? (i := 7) rfl)) (hw _ (List.mem_of_getElem? (i := 8) rfl)) (hw _ (List.mem_of_getElem? (i := 9) rfl)) (by decide) (argsL := [(.ref b32)]) (rest := []) (c_fits4 l Z a0 hw b32 h36 n0 Z36 z2 z3 z4 z5 A_b32) pd_1 rfl (by rw [hml]; rfl) (W := 0) rfl (by decide) (by decide) (by decide) (by decide) (hb hby at_151) rfl ?_
      intro T38 v38 L38 X38 q38
      obtain ⟨rfl, M38, e38⟩ := q38
      have N38 := Fr.app N37 M38
      show Run p e below s _ _ _ (T38.setTop (mkF m 154 #[.val (.int p1), .val (.int p2), .val (.int p3), .val (.int p4), .val (.int p5), .val (.int (4 : Int32)), .val (.int z2), .val (.int z3), .val (.int z4), .val (.int z5), .val (.ref b32), .val (.int (0 : Int32))] [(.int (own_b (¬ 255 < z2 ∧ ¬ 255 < z3 ∧ ¬ 255 < z4 ∧ ¬ 255 < z5)))]))
      refine Run.x_iload (q := 156) X38 hx (hb hby at_154) rfl rfl ?_
      refine Run.x_icmpNo (q := 159) X38 hx (hb hby at_156) (teq (own_b0 (by simp [own_b_no hc97]))).2 rfl ?_
      refine Run.x_iconst (q := 160) X38 hx (hb hby at_159) (z := (1 : Int32)) rfl rfl ?_
      refine Run.x_goto (q := 164) X38 hx (hb hby at_160) (by decide) (by decide) ?_
      refine Run.retN X38 hx hlk e38 (t := .boolean) hret (by simp) (z' := (1 : Int32)) (by decide) (hb hby at_164) (by decide) (by decide) ?_
      exact ⟨rfl, N38⟩
    · skip
      refine Run.x_ifNo (q := 100) X37 hx (hb hby at_97) ((if0 _ _).trans (feq hc97).1) rfl ?_
      refine Run.x_iload (q := 102) X37 hx (hb hby at_100) rfl rfl ?_
      refine Run.x_iconst (q := 103) X37 hx (hb hby at_102) (z := (2 : Int32)) rfl rfl ?_
      refine Run.x_icmpNo (q := 106) X37 hx (hb hby at_103) (flt (by decide : ¬ ((4 : Int32) < (2 : Int32)))).1 rfl ?_
      refine Run.x_iload (q := 108) X37 hx (hb hby at_106) rfl rfl ?_
      refine Run.callS X37 hx hZ e37 (y := (⟨"needlewise/kmp/DenseAutomatonFitsPinLaw", "small", "(C)Z"⟩ : MethodName)) hown (hw _ (List.mem_of_getElem? (i := 10) rfl)) (hw _ (List.mem_of_getElem? (i := 11) rfl)) (hw _ (List.mem_of_getElem? (i := 3) rfl)) (hw _ (List.mem_of_getElem? (i := 12) rfl)) (by decide) (argsL := [(.int z3)]) (rest := []) (c_small l Z a0 hw z3 h36 n0 Z36 ) pd_2 rfl (by rw [hml]; rfl) (W := 0) rfl (by decide) (by decide) (by decide) (by decide) (hb hby at_108) rfl ?_
      intro T39 v39 L39 X39 q39
      obtain ⟨rfl, M39, e39⟩ := q39
      have N39 := Fr.app N37 M39
      show Run p e below s _ _ _ (T39.setTop (mkF m 111 #[.val (.int p1), .val (.int p2), .val (.int p3), .val (.int p4), .val (.int p5), .val (.int (4 : Int32)), .val (.int z2), .val (.int z3), .val (.int z4), .val (.int z5), .val (.ref b32), .unset] [(.int (own_b (¬ 255 < z3)))]))
      by_cases hc111 : (own_b (¬ 255 < z3)) = (0 : Int32)
      · skip
        refine Run.x_ifYes (q := 146) X39 hx (hb hby at_111) ((if0 _ _).trans (teq hc111).1) (by decide) (by decide) ?_
        refine Run.x_iconst (q := 147) X39 hx (hb hby at_146) (z := (0 : Int32)) rfl rfl ?_
        refine Run.x_istore (q := 149) X39 hx #[.val (.int p1), .val (.int p2), .val (.int p3), .val (.int p4), .val (.int p5), .val (.int (4 : Int32)), .val (.int z2), .val (.int z3), .val (.int z4), .val (.int z5), .val (.ref b32), .val (.int (0 : Int32))] (hb hby at_147) rfl rfl ?_
        refine Run.x_aload (q := 151) X39 hx (hb hby at_149) rfl rfl rfl ?_
        refine Run.callS X39 hx hZ e39 (y := (⟨"needlewise/kmp/DenseAutomaton", "fits", "([C)Z"⟩ : MethodName)) hown (hw _ (List.mem_of_getElem? (i := 6) rfl)) (hw _ (List.mem_of_getElem? (i := 7) rfl)) (hw _ (List.mem_of_getElem? (i := 8) rfl)) (hw _ (List.mem_of_getElem? (i := 9) rfl)) (by decide) (argsL := [(.ref b32)]) (rest := []) (c_fits4 l Z a0 hw b32 h36 n0 Z36 z2 z3 z4 z5 A_b32) pd_1 rfl (by rw [hml]; rfl) (W := 0) rfl (by decide) (by decide) (by decide) (by decide) (hb hby at_151) rfl ?_
        intro T40 v40 L40 X40 q40
        obtain ⟨rfl, M40, e40⟩ := q40
        have N40 := Fr.app N39 M40
        show Run p e below s _ _ _ (T40.setTop (mkF m 154 #[.val (.int p1), .val (.int p2), .val (.int p3), .val (.int p4), .val (.int p5), .val (.int (4 : Int32)), .val (.int z2), .val (.int z3), .val (.int z4), .val (.int z5), .val (.ref b32), .val (.int (0 : Int32))] [(.int (own_b (¬ 255 < z2 ∧ ¬ 255 < z3 ∧ ¬ 255 < z4 ∧ ¬ 255 < z5)))]))
        refine Run.x_iload (q := 156) X40 hx (hb hby at_154) rfl rfl ?_
        refine Run.x_icmpNo (q := 159) X40 hx (hb hby at_156) (teq (own_b0 (by simp [own_b_yes hc97, own_b_no hc111]))).2 rfl ?_
        refine Run.x_iconst (q := 160) X40 hx (hb hby at_159) (z := (1 : Int32)) rfl rfl ?_
        refine Run.x_goto (q := 164) X40 hx (hb hby at_160) (by decide) (by decide) ?_
        refine Run.retN X40 hx hlk e40 (t := .boolean) hret (by simp) (z' := (1 : Int32)) (by decide) (hb hby at_164) (by decide) (by decide) ?_
        exact ⟨rfl, N40⟩
      · skip
        refine Run.x_ifNo (q := 114) X39 hx (hb hby at_111) ((if0 _ _).trans (feq hc111).1) rfl ?_
        refine Run.x_iload (q := 116) X39 hx (hb hby at_114) rfl rfl ?_
        refine Run.x_iconst (q := 117) X39 hx (hb hby at_116) (z := (3 : Int32)) rfl rfl ?_
        refine Run.x_icmpNo (q := 120) X39 hx (hb hby at_117) (flt (by decide : ¬ ((4 : Int32) < (3 : Int32)))).1 rfl ?_
        refine Run.x_iload (q := 122) X39 hx (hb hby at_120) rfl rfl ?_
        refine Run.callS X39 hx hZ e39 (y := (⟨"needlewise/kmp/DenseAutomatonFitsPinLaw", "small", "(C)Z"⟩ : MethodName)) hown (hw _ (List.mem_of_getElem? (i := 10) rfl)) (hw _ (List.mem_of_getElem? (i := 11) rfl)) (hw _ (List.mem_of_getElem? (i := 3) rfl)) (hw _ (List.mem_of_getElem? (i := 12) rfl)) (by decide) (argsL := [(.int z4)]) (rest := []) (c_small l Z a0 hw z4 h36 n0 Z36 ) pd_2 rfl (by rw [hml]; rfl) (W := 0) rfl (by decide) (by decide) (by decide) (by decide) (hb hby at_122) rfl ?_
        intro T41 v41 L41 X41 q41
        obtain ⟨rfl, M41, e41⟩ := q41
        have N41 := Fr.app N39 M41
        show Run p e below s _ _ _ (T41.setTop (mkF m 125 #[.val (.int p1), .val (.int p2), .val (.int p3), .val (.int p4), .val (.int p5), .val (.int (4 : Int32)), .val (.int z2), .val (.int z3), .val (.int z4), .val (.int z5), .val (.ref b32), .unset] [(.int (own_b (¬ 255 < z4)))]))
        by_cases hc125 : (own_b (¬ 255 < z4)) = (0 : Int32)
        · skip
          refine Run.x_ifYes (q := 146) X41 hx (hb hby at_125) ((if0 _ _).trans (teq hc125).1) (by decide) (by decide) ?_
          refine Run.x_iconst (q := 147) X41 hx (hb hby at_146) (z := (0 : Int32)) rfl rfl ?_
          refine Run.x_istore (q := 149) X41 hx #[.val (.int p1), .val (.int p2), .val (.int p3), .val (.int p4), .val (.int p5), .val (.int (4 : Int32)), .val (.int z2), .val (.int z3), .val (.int z4), .val (.int z5), .val (.ref b32), .val (.int (0 : Int32))] (hb hby at_147) rfl rfl ?_
          refine Run.x_aload (q := 151) X41 hx (hb hby at_149) rfl rfl rfl ?_
          refine Run.callS X41 hx hZ e41 (y := (⟨"needlewise/kmp/DenseAutomaton", "fits", "([C)Z"⟩ : MethodName)) hown (hw _ (List.mem_of_getElem? (i := 6) rfl)) (hw _ (List.mem_of_getElem? (i := 7) rfl)) (hw _ (List.mem_of_getElem? (i := 8) rfl)) (hw _ (List.mem_of_getElem? (i := 9) rfl)) (by decide) (argsL := [(.ref b32)]) (rest := []) (c_fits4 l Z a0 hw b32 h36 n0 Z36 z2 z3 z4 z5 A_b32) pd_1 rfl (by rw [hml]; rfl) (W := 0) rfl (by decide) (by decide) (by decide) (by decide) (hb hby at_151) rfl ?_
          intro T42 v42 L42 X42 q42
          obtain ⟨rfl, M42, e42⟩ := q42
          have N42 := Fr.app N41 M42
          show Run p e below s _ _ _ (T42.setTop (mkF m 154 #[.val (.int p1), .val (.int p2), .val (.int p3), .val (.int p4), .val (.int p5), .val (.int (4 : Int32)), .val (.int z2), .val (.int z3), .val (.int z4), .val (.int z5), .val (.ref b32), .val (.int (0 : Int32))] [(.int (own_b (¬ 255 < z2 ∧ ¬ 255 < z3 ∧ ¬ 255 < z4 ∧ ¬ 255 < z5)))]))
          refine Run.x_iload (q := 156) X42 hx (hb hby at_154) rfl rfl ?_
          refine Run.x_icmpNo (q := 159) X42 hx (hb hby at_156) (teq (own_b0 (by simp [own_b_yes hc97, own_b_yes hc111, own_b_no hc125]))).2 rfl ?_
          refine Run.x_iconst (q := 160) X42 hx (hb hby at_159) (z := (1 : Int32)) rfl rfl ?_
          refine Run.x_goto (q := 164) X42 hx (hb hby at_160) (by decide) (by decide) ?_
          refine Run.retN X42 hx hlk e42 (t := .boolean) hret (by simp) (z' := (1 : Int32)) (by decide) (hb hby at_164) (by decide) (by decide) ?_
          exact ⟨rfl, N42⟩
        · skip
          refine Run.x_ifNo (q := 128) X41 hx (hb hby at_125) ((if0 _ _).trans (feq hc125).1) rfl ?_
          refine Run.x_iload (q := 130) X41 hx (hb hby at_128) rfl rfl ?_
          refine Run.x_iconst (q := 131) X41 hx (hb hby at_130) (z := (4 : Int32)) rfl rfl ?_
          refine Run.x_icmpNo (q := 134) X41 hx (hb hby at_131) (flt (by decide : ¬ ((4 : Int32) < (4 : Int32)))).1 rfl ?_
          refine Run.x_iload (q := 136) X41 hx (hb hby at_134) rfl rfl ?_
          refine Run.callS X41 hx hZ e41 (y := (⟨"needlewise/kmp/DenseAutomatonFitsPinLaw", "small", "(C)Z"⟩ : MethodName)) hown (hw _ (List.mem_of_getElem? (i := 10) rfl)) (hw _ (List.mem_of_getElem? (i := 11) rfl)) (hw _ (List.mem_of_getElem? (i := 3) rfl)) (hw _ (List.mem_of_getElem? (i := 12) rfl)) (by decide) (argsL := [(.int z5)]) (rest := []) (c_small l Z a0 hw z5 h36 n0 Z36 ) pd_2 rfl (by rw [hml]; rfl) (W := 0) rfl (by decide) (by decide) (by decide) (by decide) (hb hby at_136) rfl ?_
          intro T43 v43 L43 X43 q43
          obtain ⟨rfl, M43, e43⟩ := q43
          have N43 := Fr.app N41 M43
          show Run p e below s _ _ _ (T43.setTop (mkF m 139 #[.val (.int p1), .val (.int p2), .val (.int p3), .val (.int p4), .val (.int p5), .val (.int (4 : Int32)), .val (.int z2), .val (.int z3), .val (.int z4), .val (.int z5), .val (.ref b32), .unset] [(.int (own_b (¬ 255 < z5)))]))
          by_cases hc139 : (own_b (¬ 255 < z5)) = (0 : Int32)
          · skip
            refine Run.x_ifYes (q := 146) X43 hx (hb hby at_139) ((if0 _ _).trans (teq hc139).1) (by decide) (by decide) ?_
            refine Run.x_iconst (q := 147) X43 hx (hb hby at_146) (z := (0 : Int32)) rfl rfl ?_
            refine Run.x_istore (q := 149) X43 hx #[.val (.int p1), .val (.int p2), .val (.int p3), .val (.int p4), .val (.int p5), .val (.int (4 : Int32)), .val (.int z2), .val (.int z3), .val (.int z4), .val (.int z5), .val (.ref b32), .val (.int (0 : Int32))] (hb hby at_147) rfl rfl ?_
            refine Run.x_aload (q := 151) X43 hx (hb hby at_149) rfl rfl rfl ?_
            refine Run.callS X43 hx hZ e43 (y := (⟨"needlewise/kmp/DenseAutomaton", "fits", "([C)Z"⟩ : MethodName)) hown (hw _ (List.mem_of_getElem? (i := 6) rfl)) (hw _ (List.mem_of_getElem? (i := 7) rfl)) (hw _ (List.mem_of_getElem? (i := 8) rfl)) (hw _ (List.mem_of_getElem? (i := 9) rfl)) (by decide) (argsL := [(.ref b32)]) (rest := []) (c_fits4 l Z a0 hw b32 h36 n0 Z36 z2 z3 z4 z5 A_b32) pd_1 rfl (by rw [hml]; rfl) (W := 0) rfl (by decide) (by decide) (by decide) (by decide) (hb hby at_151) rfl ?_
            intro T44 v44 L44 X44 q44
            obtain ⟨rfl, M44, e44⟩ := q44
            have N44 := Fr.app N43 M44
            show Run p e below s _ _ _ (T44.setTop (mkF m 154 #[.val (.int p1), .val (.int p2), .val (.int p3), .val (.int p4), .val (.int p5), .val (.int (4 : Int32)), .val (.int z2), .val (.int z3), .val (.int z4), .val (.int z5), .val (.ref b32), .val (.int (0 : Int32))] [(.int (own_b (¬ 255 < z2 ∧ ¬ 255 < z3 ∧ ¬ 255 < z4 ∧ ¬ 255 < z5)))]))
            refine Run.x_iload (q := 156) X44 hx (hb hby at_154) rfl rfl ?_
            refine Run.x_icmpNo (q := 159) X44 hx (hb hby at_156) (teq (own_b0 (by simp [own_b_yes hc97, own_b_yes hc111, own_b_yes hc125, own_b_no hc139]))).2 rfl ?_
            refine Run.x_iconst (q := 160) X44 hx (hb hby at_159) (z := (1 : Int32)) rfl rfl ?_
            refine Run.x_goto (q := 164) X44 hx (hb hby at_160) (by decide) (by decide) ?_
            refine Run.retN X44 hx hlk e44 (t := .boolean) hret (by simp) (z' := (1 : Int32)) (by decide) (hb hby at_164) (by decide) (by decide) ?_
            exact ⟨rfl, N44⟩
          · skip
            refine Run.x_ifNo (q := 142) X43 hx (hb hby at_139) ((if0 _ _).trans (feq hc139).1) rfl ?_
            refine Run.x_iconst (q := 143) X43 hx (hb hby at_142) (z := (1 : Int32)) rfl rfl ?_
            refine Run.x_goto (q := 147) X43 hx (hb hby at_143) (by decide) (by decide) ?_
            refine Run.x_istore (q := 149) X43 hx #[.val (.int p1), .val (.int p2), .val (.int p3), .val (.int p4), .val (.int p5), .val (.int (4 : Int32)), .val (.int z2), .val (.int z3), .val (.int z4), .val (.int z5), .val (.ref b32), .val (.int (1 : Int32))] (hb hby at_147) rfl rfl ?_
            refine Run.x_aload (q := 151) X43 hx (hb hby at_149) rfl rfl rfl ?_
            refine Run.callS X43 hx hZ e43 (y := (⟨"needlewise/kmp/DenseAutomaton", "fits", "([C)Z"⟩ : MethodName)) hown (hw _ (List.mem_of_getElem? (i := 6) rfl)) (hw _ (List.mem_of_getElem? (i := 7) rfl)) (hw _ (List.mem_of_getElem? (i := 8) rfl)) (hw _ (List.mem_of_getElem? (i := 9) rfl)) (by decide) (argsL := [(.ref b32)]) (rest := []) (c_fits4 l Z a0 hw b32 h36 n0 Z36 z2 z3 z4 z5 A_b32) pd_1 rfl (by rw [hml]; rfl) (W := 0) rfl (by decide) (by decide) (by decide) (by decide) (hb hby at_151) rfl ?_
            intro T45 v45 L45 X45 q45
            obtain ⟨rfl, M45, e45⟩ := q45
            have N45 := Fr.app N43 M45
            show Run p e below s _ _ _ (T45.setTop (mkF m 154 #[.val (.int p1), .val (.int p2), .val (.int p3), .val (.int p4), .val (.int p5), .val (.int (4 : Int32)), .val (.int z2), .val (.int z3), .val (.int z4), .val (.int z5), .val (.ref b32), .val (.int (1 : Int32))] [(.int (own_b (¬ 255 < z2 ∧ ¬ 255 < z3 ∧ ¬ 255 < z4 ∧ ¬ 255 < z5)))]))
            refine Run.x_iload (q := 156) X45 hx (hb hby at_154) rfl rfl ?_
            refine Run.x_icmpNo (q := 159) X45 hx (hb hby at_156) (teq (own_b1 (by simp [own_b_yes hc97, own_b_yes hc111, own_b_yes hc125, own_b_yes hc139]))).2 rfl ?_
            refine Run.x_iconst (q := 160) X45 hx (hb hby at_159) (z := (1 : Int32)) rfl rfl ?_
            refine Run.x_goto (q := 164) X45 hx (hb hby at_160) (by decide) (by decide) ?_
            refine Run.retN X45 hx hlk e45 (t := .boolean) hret (by simp) (z' := (1 : Int32)) (by decide) (hb hby at_164) (by decide) (by decide) ?_
            exact ⟨rfl, N45⟩
set_option maxRecDepth 65536 in
set_option maxHeartbeats 40000000 in
theorem comes_1 {Post : Tables → Env → Array Value → State → Outcome → State → Prop} (hpost : ∀ tb e args s v u, (limb_1_1.after args s (.returned v) u = true ∧ limb_1_2.after args s (.returned v) u = true ∧ True) → FrameEnd s (.returned v) u (Jvm.fieldLocs frame_1_writes args s ++ Jvm.arrayLocs frame_1_arrays args s ++ Jvm.staticLocs frame_1_statics s) 16 128 → Post tb e args s (.returned v) u) :
    ArmFor flags0 classFile x code maxLocals ret World_1 tables_1 room_1 Calls_1 rest_1 Pre_1 Post := by
  intro l hfl _ _ p e ha hc hk s m args below hf hA hF happ hP
  obtain ⟨hcalls, hrest, hpre⟩ := hP
  obtain ⟨-, -, -, hnamed, -, -, -, hat⟩ := (Spec.applies_iff hf).mp happ
  obtain ⟨hg, hn⟩ := and_e (Cond.before_iff.mp (show (Jvm.Cond.and given_1 narrow_1).before args s = true from hpre))
  obtain ⟨g1, g2⟩ := and_e hg
  obtain ⟨g3, g4⟩ := and_e g2
  obtain ⟨g5, g6⟩ := and_e g4
  obtain ⟨g7, g8⟩ := and_e g6
  obtain ⟨g9, g10⟩ := and_e g8
  obtain ⟨w0, w1, w2, w3, w4, rfl⟩ : ∃ w0 w1 w2 w3 w4 : Value, args = #[w0, w1, w2, w3, w4] := by
    have hs : args.size = 5 := by simpa [Cond.value, given_1] using g1
    obtain ⟨L⟩ := args
    match L, hs with
    | [w0, w1, w2, w3, w4], _ => exact ⟨w0, w1, w2, w3, w4, rfl⟩
  have hw := fun d (hd : d ∈ tables_1) => atoms_spec (ws := Jvm.Cond.code x code maxLocals ret :: tables_1) hat d (List.mem_cons_of_mem _ hd)
  have hfit : Fit s := fun {y c} hc i hi => by
    obtain ⟨ha, rfl⟩ := Array.getElem?_eq_some_iff.mp hc
    have q := List.all_eq_true.mp ((Array.all_eq_true_iff_forall_mem.mp hF) _ (Array.getElem_mem ha)) i (List.mem_range.mpr hi)
    simpa [Array.getElem?_eq_getElem hi] using q
  obtain ⟨i0, ei0⟩ := is_v g3
  obtain rfl : w0 = (.int i0) := Option.some.inj ei0
  obtain ⟨i1, ei1⟩ := is_v g5
  obtain rfl : w1 = (.int i1) := Option.some.inj ei1
  obtain ⟨i2, ei2⟩ := is_v g7
  obtain rfl : w2 = (.int i2) := Option.some.inj ei2
  obtain ⟨i3, ei3⟩ := is_v g9
  obtain rfl : w3 = (.int i3) := Option.some.inj ei3
  obtain ⟨i4, ei4⟩ := is_v g10
  obtain rfl : w4 = (.int i4) := Option.some.inj ei4
  obtain ⟨n, o, h1, h2, h3, _, L, rfl, ⟨rfl, N⟩, hq⟩ := c_law l s _ hw i0 i1 i2 i3 i4 s.heap s.heap.size (Nat.le_refl _)  tables_1 p e ha hc hk s m _ below hf ((Spec.applies_iff_loose hf).mp happ).1 ⟨rfl, State.Warmed39.refl s, rfl⟩ trivial
  refine ⟨n, _, h1, h2, h3, hpost _ _ _ _ _ _ ⟨Cond.after_iff.mpr rfl, Cond.after_iff.mpr (eq_i res_at (Term.int_eval (1)) rfl), trivial⟩ ⟨hq.1, hq.2.1, (hq.2.2.sift fun y hy => Or.inr (N y hy)).mono (by decide) (by decide)⟩⟩
theorem main_1_1 : Claimed_1_1 := comes_1 fun _ _ _ _ _ _ h hF => ⟨h.1, hF⟩
theorem main_1_2 : Claimed_1_2 := comes_1 fun _ _ _ _ _ _ h hF => ⟨h.2.1, hF⟩
end Jvm.Pilot.@@N@@
namespace Jvm.Pilot.@@N@@
open Jvm Jvm.ClassFile Sem Op Lib Jvm.Free Jvm.Stand Jvm.Pilot.@@N@@.Jvm.D
/-! MADE BY PROGRAM (witnessworld.py) out of the Statement's table words and the real class files: 12 classes; the members and pool entries that the words name. The judged class is class 1, her method 3. -/
namespace start1
open Jvm.ClassFile
def u (s : String) : CpInfo := .utf8 (stringToUtf16 s)
/-- a pool by its gaps: so many unusable entries, then the entry; so many at the end -/
def gap : Nat → List CpInfo → List CpInfo
  | 0, r => r
  | n + 1, r => .unusable :: gap n r
def poolList (es : List (Nat × CpInfo)) (last : Nat) : List CpInfo := es.foldr (fun e r => gap e.1 (e.2 :: r)) (gap last [])
def pool (es : List (Nat × CpInfo)) (last : Nat) : Array CpInfo := ⟨poolList es last⟩
def fileOf (pool : Array CpInfo) (this : Nat) (attrs : Array Attribute := #[]) (ms : Array MethodInfo := #[]) (fl : Nat := 33) (sup : Nat := 0) (ifs : Array Nat := #[]) (fds : Array FieldInfo := #[]) : ClassFile where
  minorVersion := 0
  majorVersion := 65
  constantPool := pool
  accessFlags := fl
  thisClass := this
  superClass := sup
  interfaces := ifs
  fields := fds
  methods := ms
  attributes := attrs
def plain (name : String) (sup : Option ClassId) : Class where
  name := name
  kind := .ordinary
  loader := none
  accessFlags := 33
  super := sup
  interfaces := #[]
  cf := none
  fields := #[]
  methods := #[]
  instanceTypes := #[]
  staticTypes := #[]
  resolved := #[]
  callSites := []
  init := .initialized
  statics := none
  mirror := none

def pool0 : Array CpInfo := pool [(5, u "<init>"), (0, u "()V"), (1, .class_ 10), (1, u "java/lang/Object")] 113

def k0m0 : Method := { name := "<init>", desc := "()V", sig := { parameters := [], returnType := none }, accessFlags := 1, code := none }
/-- java/lang/Object -/
def k0 : Class := { plain "java/lang/Object" none with
  accessFlags := 33
  interfaces := #[]
  cf := some (fileOf pool0 8 #[] #[{ accessFlags := 1, nameIndex := 5, descriptorIndex := 6, attributes := #[] }] 33 0 #[] #[])
  fields := #[]
  methods := #[k0m0]
  instanceTypes := #[]
  staticTypes := #[]
  resolved := Array.replicate 124 none
  statics := none }

def pool1 : Array CpInfo := pool [(2, .class_ 4), (1, u "java/lang/Object"), (0, u "<init>"), (0, u "()V"), (0, .integer 2147483647), (0, .methodref 9 10), (0, .class_ 11), (0, .nameAndType 12 13), (0, u "needlewise/kmp/DenseAutomatonFitsPinLaw"), (0, u "draw"), (0, u "(I)C"), (0, .methodref 9 15), (0, .nameAndType 16 17), (0, u "small"), (0, u "(C)Z"), (0, .methodref 19 20), (0, .class_ 21), (0, .nameAndType 22 23), (0, u "needlewise/kmp/DenseAutomaton"), (0, u "fits"), (0, u "([C)Z"), (3, u "law"), (0, u "(IIIII)Z")] 4

def k1m0 : Method := { name := "<init>", desc := "()V", sig := { parameters := [], returnType := none }, accessFlags := 1, code := none }
def k1c1 : Code := { maxStack := 2, maxLocals := 1, code := method_2_code, exceptionTable := #[], attributes := #[] }
def k1m1 : Method := { name := "draw", desc := "(I)C", sig := { parameters := [.int], returnType := some .char }, accessFlags := 10, code := some k1c1 }
def k1c2 : Code := { maxStack := 2, maxLocals := 1, code := method_3_code, exceptionTable := #[], attributes := #[] }
def k1m2 : Method := { name := "small", desc := "(C)Z", sig := { parameters := [.char], returnType := some .boolean }, accessFlags := 10, code := some k1c2 }
def k1c3 : Code := { maxStack := 3, maxLocals := 12, code := code, exceptionTable := #[], attributes := #[] }
def k1m3 : Method := { name := "law", desc := "(IIIII)Z", sig := { parameters := [.int, .int, .int, .int, .int], returnType := some .boolean }, accessFlags := 9, code := some k1c3 }
/-- needlewise/kmp/DenseAutomatonFitsPinLaw -/
def k1 : Class := { plain "needlewise/kmp/DenseAutomatonFitsPinLaw" (some 0) with
  accessFlags := 49
  interfaces := #[]
  cf := some (fileOf pool1 9 #[] #[{ accessFlags := 1, nameIndex := 5, descriptorIndex := 6, attributes := #[] }, { accessFlags := 10, nameIndex := 12, descriptorIndex := 13, attributes := #[] }, { accessFlags := 10, nameIndex := 16, descriptorIndex := 17, attributes := #[] }, { accessFlags := 9, nameIndex := 27, descriptorIndex := 28, attributes := #[] }] 49 2 #[] #[])
  fields := #[]
  methods := #[k1m0, k1m1, k1m2, k1m3]
  instanceTypes := #[]
  staticTypes := #[]
  resolved := Array.replicate 33 none
  statics := none }

def pool2 : Array CpInfo := pool [(1, .class_ 2), (0, u "needlewise/kmp/Automaton"), (0, .class_ 4), (0, u "java/lang/Object")] 6

/-- needlewise/kmp/Automaton -/
def k2 : Class := { plain "needlewise/kmp/Automaton" (some 0) with
  accessFlags := 1536
  interfaces := #[]
  cf := some (fileOf pool2 1 #[] #[] 1536 3 #[] #[])
  fields := #[]
  methods := #[]
  instanceTypes := #[]
  staticTypes := #[]
  resolved := Array.replicate 11 none
  statics := none }

def pool3 : Array CpInfo := pool [(2, .class_ 4), (1, u "java/lang/Object"), (2, .class_ 8), (0, u "needlewise/kmp/DenseAutomaton"), (2, u "column"), (0, u "[I"), (15, u "next"), (2, u "accept"), (0, u "I"), (13, .class_ 47), (0, u "needlewise/kmp/Automaton"), (0, u "UNITS"), (7, u "fits"), (0, u "([C)Z")] 37

def k3c0 : Code := { maxStack := 2, maxLocals := 5, code := prog_21_method_2_code, exceptionTable := #[], attributes := #[] }
def k3m0 : Method := { name := "fits", desc := "([C)Z", sig := { parameters := [(.array .char)], returnType := some .boolean }, accessFlags := 8, code := some k3c0 }
/-- needlewise/kmp/DenseAutomaton -/
def k3 : Class := { plain "needlewise/kmp/DenseAutomaton" (some 0) with
  accessFlags := 48
  interfaces := #[2]
  cf := some (fileOf pool3 7 #[] #[{ accessFlags := 8, nameIndex := 56, descriptorIndex := 57, attributes := #[] }] 48 2 #[46] #[{ accessFlags := 26, nameIndex := 48, descriptorIndex := 32, attributes := #[] }, { accessFlags := 18, nameIndex := 11, descriptorIndex := 12, attributes := #[] }, { accessFlags := 18, nameIndex := 28, descriptorIndex := 12, attributes := #[] }, { accessFlags := 18, nameIndex := 31, descriptorIndex := 32, attributes := #[] }])
  fields := #[{ name := "UNITS", type := .int, accessFlags := 26, slot := 0, constantValue := 0 }, { name := "column", type := (.array .int), accessFlags := 18, slot := 0, constantValue := 0 }, { name := "next", type := (.array .int), accessFlags := 18, slot := 1, constantValue := 0 }, { name := "accept", type := .int, accessFlags := 18, slot := 2, constantValue := 0 }]
  methods := #[k3m0]
  instanceTypes := #[(.array .int), (.array .int), .int]
  staticTypes := #[.int]
  resolved := Array.replicate 95 none
  statics := none }

def pool4 : Array CpInfo := pool [(1, u "java/lang/Cloneable"), (0, .class_ 1), (0, u "java/lang/Object"), (0, .class_ 3)] 3

/-- java/lang/Cloneable -/
def k4 : Class := { plain "java/lang/Cloneable" (some 0) with
  accessFlags := 1537
  interfaces := #[]
  cf := some (fileOf pool4 2 #[] #[] 1537 4 #[] #[])
  fields := #[]
  methods := #[]
  instanceTypes := #[]
  staticTypes := #[]
  resolved := Array.replicate 8 none
  statics := none }

def pool5 : Array CpInfo := pool [(1, u "java/io/Serializable"), (0, .class_ 1), (0, u "java/lang/Object"), (0, .class_ 3)] 3

/-- java/io/Serializable -/
def k5 : Class := { plain "java/io/Serializable" (some 0) with
  accessFlags := 1537
  interfaces := #[]
  cf := some (fileOf pool5 2 #[] #[] 1537 4 #[] #[])
  fields := #[]
  methods := #[]
  instanceTypes := #[]
  staticTypes := #[]
  resolved := Array.replicate 8 none
  statics := none }

/-- the primitive byte -/
def k6 : Class := { plain "byte" none with kind := .primitive 'B', accessFlags := 0x411 }
/-- [B -/
def k7 : Class := { plain "[B" (some 0) with kind := .array 6 .byte, interfaces := #[4, 5], accessFlags := 1041 }

/-- the primitive char -/
def k8 : Class := { plain "char" none with kind := .primitive 'C', accessFlags := 0x411 }
/-- [C -/
def k9 : Class := { plain "[C" (some 0) with kind := .array 8 .char, interfaces := #[4, 5], accessFlags := 1041 }

/-- the primitive int -/
def k10 : Class := { plain "int" none with kind := .primitive 'I', accessFlags := 0x411 }
/-- [I -/
def k11 : Class := { plain "[I" (some 0) with kind := .array 10 .int, interfaces := #[4, 5], accessFlags := 1041 }

def heap : Heap := #[]
def classes : Array Class := #[k0, k1, k2, k3, k4, k5, k6, k7, k8, k9, k10, k11]
def interned : List (Array UInt16 × Addr) := []
def slotsUsed : Nat := 0
def theMethod : MethodId := ⟨1, 3⟩
def args0 : Array Value := #[.int 2, .int 66, .int 67, .int 68, .int 69]
def aboutOver (below : List Frame) : State where
  vm := { classes := classes, interned := interned.toArray }
  heap := heap
  slotsUsed := slotsUsed
  threads := #[{ frames := .invoking theMethod args0 :: below }]
def below0 : List Frame := [.native { method := ⟨0, 0⟩, args := #[] }]
def about1 : State := aboutOver below0
def p0 : Program := .bare "" "" ""
def e0 : Env := launch0.env 0 0 0
theorem w_frames : about1.frames = Frame.invoking theMethod args0 :: below0 := rfl
set_option maxRecDepth 65536 in
theorem w_args : argsFit about1.vm theMethod args0 = true := by decide +kernel
set_option maxRecDepth 65536 in
theorem w_heap : heapFits about1 = true := by decide +kernel
set_option maxRecDepth 65536 in
theorem w_runnable : about1.curStatus? = some .runnable := by decide +kernel
set_option maxRecDepth 65536 in
theorem w_alone : about1.alone = true := by decide +kernel
set_option maxRecDepth 65536 in
theorem w_named : about1.methodNamed? x = some theMethod := by decide +kernel
set_option maxRecDepth 65536 in
theorem w_hears : about1.hears theMethod below0 = true := by decide +kernel
set_option maxRecDepth 65536 in
theorem w_ripe : about1.ripe theMethod args0 below0 = true := by decide +kernel
theorem w_running : about1.status = .running := rfl
set_option maxRecDepth 65536 in
theorem w_room : about1.hasRoom e0.platform room_1 = true :=
  launch0.hasRoom_least _ room_1 (by decide +kernel) (by decide +kernel) (by decide +kernel) (by decide +kernel) (by decide +kernel) (by decide +kernel)
theorem allAtoms_all (ts : List Jvm.Cond) (a : Array Jvm.Value) (st : Jvm.State) : (allAtoms ts).before a st = ts.all (fun c => c.before a st) := by
  induction ts with
  | nil => rfl
  | cons c t ih =>
    show (Jvm.Cond.and c (allAtoms t)).before a st = _
    rw [Jvm.Cond.before_and, ih, List.all_cons]
def words1 : List Jvm.Cond := Jvm.Cond.code x code maxLocals ret :: tables_1
/-- a 'code' word, met by the world's own term for the bytes: nothing is compared byte by byte -/
theorem code_word {y : MethodName} {bytes : ByteArray} {mx : Nat} {rt : Option FieldType} {a : Array Value} {s : State} {m : MethodId} {meth : Method} {c : Code} (h1 : s.methodNamed? y = some m) (h2 : s.vm.method? m = some meth) (h3 : meth.code = some c) (h4 : c.code = bytes)
    (h5 : (c.maxLocals == mx && c.exceptionTable.isEmpty && decide (c.maxStack ≤ mostOperands) && decide (meth.sig.returnType = rt) && !meth.locks && decide (parseMethodDescriptor y.desc = some meth.sig)) = true) : (Jvm.Cond.code y bytes mx rt).before a s = true := by
  simp only [Bool.and_eq_true, beq_iff_eq, Bool.not_eq_true', decide_eq_true_eq] at h5
  obtain ⟨⟨⟨⟨⟨g1, g2⟩, g3⟩, g4⟩, g5⟩, g6⟩ := h5
  simp [Cond.before, Cond.holds, Cond.value, h1, h2, h3, h4, g1, g2, g3, g4, g5, g6]
def isCode : Jvm.Cond → Bool
  | .code _ _ _ _ => true
  | _ => false
theorem all_split {L : List Jvm.Cond} {P : Jvm.Cond → Bool} (h1 : L.all (fun c => isCode c || P c) = true) (h2 : ∀ c ∈ L.filter isCode, P c = true) : L.all P = true := by
  refine List.all_eq_true.mpr fun c hc => ?_
  have h := List.all_eq_true.mp h1 c hc
  rcases Bool.eq_false_or_eq_true (isCode c) with hi | hi
  · exact h2 c (List.mem_filter.mpr ⟨hc, hi⟩)
  · simpa [hi] using h
set_option maxRecDepth 65536 in
theorem w_c0 : (Jvm.Cond.code x code maxLocals ret).before args0 about1 = true := code_word (m := ⟨1, 3⟩) (meth := k1m3) (c := k1c3) (by decide +kernel) rfl rfl rfl (by decide +kernel)
set_option maxRecDepth 65536 in
theorem w_c1 : (Jvm.Cond.code ({ cls := "needlewise/kmp/DenseAutomatonFitsPinLaw", name := "draw", desc := "(I)C" } : Jvm.MethodName) method_2_code (1 : Nat) (Option.some Jvm.ClassFile.FieldType.char)).before args0 about1 = true := code_word (m := ⟨1, 1⟩) (meth := k1m1) (c := k1c1) (by decide +kernel) rfl rfl rfl (by decide +kernel)
set_option maxRecDepth 65536 in
theorem w_c2 : (Jvm.Cond.code ({ cls := "needlewise/kmp/DenseAutomaton", name := "fits", desc := "([C)Z" } : Jvm.MethodName) prog_21_method_2_code (5 : Nat) (Option.some Jvm.ClassFile.FieldType.boolean)).before args0 about1 = true := code_word (m := ⟨3, 0⟩) (meth := k3m0) (c := k3c0) (by decide +kernel) rfl rfl rfl (by decide +kernel)
set_option maxRecDepth 65536 in
theorem w_c3 : (Jvm.Cond.code ({ cls := "needlewise/kmp/DenseAutomatonFitsPinLaw", name := "small", desc := "(C)Z" } : Jvm.MethodName) method_3_code (1 : Nat) (Option.some Jvm.ClassFile.FieldType.boolean)).before args0 about1 = true := code_word (m := ⟨1, 2⟩) (meth := k1m2) (c := k1c2) (by decide +kernel) rfl rfl rfl (by decide +kernel)
def codes1 : List Jvm.Cond := [Jvm.Cond.code x code maxLocals ret, Jvm.Cond.code ({ cls := "needlewise/kmp/DenseAutomatonFitsPinLaw", name := "draw", desc := "(I)C" } : Jvm.MethodName) method_2_code (1 : Nat) (Option.some Jvm.ClassFile.FieldType.char), Jvm.Cond.code ({ cls := "needlewise/kmp/DenseAutomaton", name := "fits", desc := "([C)Z" } : Jvm.MethodName) prog_21_method_2_code (5 : Nat) (Option.some Jvm.ClassFile.FieldType.boolean), Jvm.Cond.code ({ cls := "needlewise/kmp/DenseAutomatonFitsPinLaw", name := "small", desc := "(C)Z" } : Jvm.MethodName) method_3_code (1 : Nat) (Option.some Jvm.ClassFile.FieldType.boolean)]
set_option maxRecDepth 65536 in
theorem codes_eq : words1.filter isCode = codes1 := rfl
theorem w_codes : ∀ c ∈ words1.filter isCode, c.before args0 about1 = true := by
  rw [codes_eq]
  intro c hc
  simp only [codes1, List.mem_cons, List.not_mem_nil, or_false] at hc
  rcases hc with rfl | rfl | rfl | rfl
  · exact w_c0
  · exact w_c1
  · exact w_c2
  · exact w_c3
set_option maxRecDepth 65536 in
theorem w_t1 : words1.all (fun c => isCode c || c.before args0 about1) = true := by decide +kernel
theorem w_tables : (allAtoms (Jvm.Cond.code x code maxLocals ret :: tables_1)).before args0 about1 = true := by
  rw [allAtoms_all]
  show words1.all (fun c => c.before args0 about1) = true
  refine all_split ?_ w_codes
  rw [w_t1]
set_option maxRecDepth 65536 in
theorem w_case : (Jvm.Cond.and given_1 narrow_1).before args0 about1 = true := by decide +kernel
theorem w_applies : (headSpec (Jvm.Cond.code x code maxLocals ret :: tables_1) room_1).applies x e0.platform about1 = true :=
  (Spec.applies_iff w_frames).mpr ⟨w_running, w_runnable, w_alone, w_named, w_hears, w_ripe, w_room, w_tables⟩
theorem atStart : AtStart classFile x code maxLocals ret World_1 tables_1 room_1 Calls_1 rest_1 Pre_1 launch0 p0 e0 about1 theMethod args0 below0 :=
  ⟨lists_1, trivial, launch0.admits_env _ _ _, launch0.least_env, fairChoices_fair.cas, fairChoices_fair.clock, w_frames, w_args, w_heap, w_applies, trivial, trivial, w_case⟩
end start1
theorem witness_1 : WitnessClaimed_1 := ⟨start1.p0, start1.e0, start1.about1, start1.theMethod, start1.args0, start1.below0, start1.atStart⟩
end Jvm.Pilot.@@N@@
