import JvmDerived
import JvmDerived.Pilot.@@N@@Statement
import JvmDerived.Pilot.@@N@@Code
set_option linter.unusedVariables false
set_option linter.unusedSimpArgs false
namespace Jvm.OwnRun
open Sem ClassFile Op Lib Jvm.Stand Jvm.Free Jvm.LawKit Jvm.RoadKit
/-- the run that stands at A comes to the end of this invocation, and Q holds there -/
def Run (p : Program) (e : Env) (below : List Frame) (s : State) (Q : Option Value → Heap → List Loc → Prop) (k n : Nat) (A : State) : Prop :=
  ∃ s₂ o, Steps p.tables e below A s₂ ∧ s₂.status = .running ∧ Ended s₂ below o ∧ ∃ v L, o = .returned v ∧ Q v s₂.heap L ∧ FrameEnd s o s₂ L k n
/-- the contract of a body at one heap and one row of arguments -/
def Ctr (l : Launch) (Z : State) (y : MethodName) (bytes : ByteArray) (ml : Nat) (ret : Option FieldType) (rm : Room) (as' : Array Value) (h0 : Heap) (Q : Option Value → Heap → List Loc → Prop) : Prop :=
  ∀ ws : List Jvm.Cond, MetFree l y (head1 (Jvm.Cond.code y bytes ml ret :: ws) rm) (fun a U => a = as' ∧ Z.Warmed39 U.vm ∧ U.heap = h0) (fun _ _ _ _ _ => True) (fun _ U o U' => ∃ v L, o = .returned v ∧ Q v U'.heap L ∧ FrameEnd U o U' L rm.cells rm.slots)
section Laws
variable {p : Program} {l : Launch} {e : Env} {R : Room} {s : State} {m : MethodId} {args : Array Value} {below : List Frame} {meth : Method} {c : Code} {T : State} {locs : List Loc} {cells slots : Nat} {Z : State} {a0 : Array Value} {h h' : Heap}
variable {Q Q' : Option Value → Heap → List Loc → Prop} {k n : Nat}
theorem Run.st {A B : State} (f : ∀ t, Steps p.tables e below B t → Steps p.tables e below A t) (r : Run p e below s Q k n B) : Run p e below s Q k n A := by
  obtain ⟨s₂, o, h1, r⟩ := r
  exact ⟨s₂, o, f _ h1, r⟩
theorem Ctr.of {y : MethodName} {bytes : ByteArray} {ml : Nat} {ret : Option FieldType} {rm : Room} {as' : Array Value} {h0 : Heap} {Ls : Array Slot} (hpl : plainFor y = true) (hef : ∀ m, entryFrame m as' ml = mkF m 0 Ls [])
    (body : ∀ (p : Program) (e : Env) (s : State) (m : MethodId) (below : List Frame) (meth : Method) (c : Code) (T : State), p.tables.exec = Jvm.exec → c.code = bytes → c.maxLocals = ml → s.vm.findClass y.cls = some m.cls → meth.name = y.name → meth.sig.returnType = ret → meth.locks = false → Z.Warmed39 s.vm → T.heap = h0 →
      Stand p l e rm s m as' below meth c T [] 0 0 → Run p e below s Q rm.cells rm.slots (T.setTop (mkF m 0 Ls []))) : Ctr l Z y bytes ml ret rm as' h0 Q := by
  intro ws
  refine MetFree.of_bodySF hpl hisR ?_
  intro p e s m args below meth c s₁ Bd hml0 hP hK
  obtain ⟨rfl, hZ, hh⟩ := hP
  have q := body p e s m below meth c s₁ Bd.exec Bd.bytes hml0 (findClass_of_methodNamed Bd.named) (name_of_methodNamed Bd.named Bd.method).1 Bd.returns Bd.notSynchronized hZ (by rw [← hh, Bd.state]; rfl) (Stand.of_body Bd)
  rw [hef]
  exact q
theorem Run.end_ (X : Stand p l e R s m args below meth c T locs cells slots) (hlk : meth.locks = false) (eT : T.heap = h) {v : Option Value} (hv : meth.sig.returnType = none → v = none) (hc : cells ≤ k) (hn : slots ≤ n) (hQ : Q v h locs) {A : State}
    (f : ∀ fs, (∀ (f : JFrame) (acts : List Action), f.method = m → f.locked = none → f.entered = [] → (doReturn e (T.setTop f) acts v).1 = T.setFrames fs) → Steps p.tables e below A (T.setFrames fs)) : Run p e below s Q k n A := by
  obtain ⟨fs, hr, hrun, hended, hW, hsame⟩ := X.leave (v := v) hv
  exact ⟨_, _, f fs hr, hrun, hended, _, _, rfl, by rw [show (T.setFrames fs).heap = h from eT]; exact hQ, ⟨_, rfl⟩, hW, hsame.mono hc hn⟩
theorem Run.retN (X : Stand p l e R s m args below meth c T locs cells slots) (hx : p.tables.exec = Jvm.exec) (hlk : meth.locks = false) (eT : T.heap = h) {t : FieldType} (hret : meth.sig.returnType = some t) (ht : t = .boolean ∨ t = .byte ∨ t = .char ∨ t = .short) {pc : Nat} {Ls : Array Slot} {z : Int32} {rest : List Value}
    {z' : Int32} (hz : nar t z = z') (hd : decode c.code pc = .ok (.ireturn, 1)) (hc : cells ≤ k) (hn : slots ≤ n) (hQ : Q (some (.int z')) h locs) : Run p e below s Q k n (T.setTop (mkF m pc Ls (.int z :: rest))) :=
  Run.end_ X hlk eT (v := some (.int (nar t z))) (fun q => by rw [hret] at q; cases q) hc hn (hz ▸ hQ) fun fs hr => RoadKit.retN X hx hret ht hd hr
theorem Run.retI (X : Stand p l e R s m args below meth c T locs cells slots) (hx : p.tables.exec = Jvm.exec) (hlk : meth.locks = false) (eT : T.heap = h) (hret : meth.sig.returnType = some .int) {pc : Nat} {Ls : Array Slot} {z : Int32} {rest : List Value}
    (hd : decode c.code pc = .ok (.ireturn, 1)) (hc : cells ≤ k) (hn : slots ≤ n) (hQ : Q (some (.int z)) h locs) : Run p e below s Q k n (T.setTop (mkF m pc Ls (.int z :: rest))) :=
  Run.end_ X hlk eT (v := some (.int z)) (fun q => by rw [hret] at q; cases q) hc hn hQ fun fs hr => RoadKit.retOut X hx hret rfl (Or.inl ⟨rfl, Or.inl rfl, z, rfl⟩) hd hr
theorem Run.retJ (X : Stand p l e R s m args below meth c T locs cells slots) (hx : p.tables.exec = Jvm.exec) (hlk : meth.locks = false) (eT : T.heap = h) (hret : meth.sig.returnType = some .long) {pc : Nat} {Ls : Array Slot} {z : Int64} {rest : List Value}
    (hd : decode c.code pc = .ok (.lreturn, 1)) (hc : cells ≤ k) (hn : slots ≤ n) (hQ : Q (some (.long z)) h locs) : Run p e below s Q k n (T.setTop (mkF m pc Ls (.long z :: rest))) :=
  Run.end_ X hlk eT (v := some (.long z)) (fun q => by rw [hret] at q; cases q) hc hn hQ fun fs hr => RoadKit.retOut X hx hret rfl (Or.inr (Or.inl ⟨rfl, rfl, z, rfl⟩)) hd hr
theorem Run.retA (X : Stand p l e R s m args below meth c T locs cells slots) (hx : p.tables.exec = Jvm.exec) (hlk : meth.locks = false) (eT : T.heap = h) {t : FieldType} (hret : meth.sig.returnType = some t) (ht : t.isReference = true) {w : Value} (hw : w.isRef = true) (hnr : narrow t w = w) {pc : Nat} {Ls : Array Slot} {rest : List Value}
    (hd : decode c.code pc = .ok (.areturn, 1)) (hc : cells ≤ k) (hn : slots ≤ n) (hQ : Q (some w) h locs) : Run p e below s Q k n (T.setTop (mkF m pc Ls (w :: rest))) :=
  Run.end_ X hlk eT (v := some w) (fun q => by rw [hret] at q; cases q) hc hn hQ fun fs hr => RoadKit.retOut X hx hret hnr (Or.inr (Or.inr (Or.inr (Or.inr ⟨rfl, ht, hw⟩)))) hd hr
theorem Run.retV (X : Stand p l e R s m args below meth c T locs cells slots) (hx : p.tables.exec = Jvm.exec) (hlk : meth.locks = false) (eT : T.heap = h) (hret : meth.sig.returnType = none) {pc : Nat} {Ls : Array Slot}
    (hd : decode c.code pc = .ok (.return_, 1)) (hc : cells ≤ k) (hn : slots ≤ n) (hQ : Q none h locs) : Run p e below s Q k n (T.setTop (mkF m pc Ls [])) :=
  Run.end_ X hlk eT (v := none) (fun _ => rfl) hc hn hQ fun fs hr => X.returnOut hx hret hd hr
/-- a call's premises that are alike for every kind of call -/
theorem Ctr.back {y : MethodName} {bytes : ByteArray} {ml : Nat} {ret : Option FieldType} {rm : Room} {as' : Array Value} {len W : Nat} (K : Ctr l Z y bytes ml ret rm as' h Q') (hZ : Z.Warmed39 s.vm) (wc : (Jvm.Cond.code y bytes ml ret).before a0 Z = true) (wz : (Jvm.Cond.initialized y.cls).before a0 Z = true) (hf : rm.frames + 1 ≤ R.frames) (hl : W + (ml + 11) + rm.locals ≤ R.locals) :
    Back l R p e below s args y len W (fun A a => a = as' ∧ A.U.heap = h ∧ A.cells + rm.cells ≤ R.cells ∧ A.slots + rm.slots ≤ R.slots) (fun A _ v B => ∃ L, Q' v B.U.heap L ∧ B.locs = A.locs ++ L ∧ B.cells = A.cells + rm.cells ∧ B.slots = A.slots + rm.slots) := backOf (K []) hZ wc wz hf hl
theorem Run.callS (X : Stand p l e R s m args below meth c T locs cells slots) (hx : p.tables.exec = Jvm.exec) (hZ : Z.Warmed39 s.vm) (eT : T.heap = h) {own : String} {index : Nat} {y : MethodName} {bytes : ByteArray} {ml : Nat} {ret : Option FieldType} {rm : Room}
    (hown : s.vm.findClass own = some m.cls) (w1 : (Jvm.Cond.methodLink own index y).before a0 Z = true) (w2 : (Jvm.Cond.static y).before a0 Z = true) (w3 : (Jvm.Cond.initialized y.cls).before a0 Z = true) (w4 : (Jvm.Cond.code y bytes ml ret).before a0 Z = true)
    (hy : y.cls ≠ "java/lang/invoke/MethodHandle" ∧ y.cls ≠ "java/lang/invoke/VarHandle") {argsL rest : List Value} (K : Ctr l Z y bytes ml ret rm argsL.toArray h Q') {ps : List FieldType} {r : Option FieldType} (hpd : parseMethodDescriptor y.desc = some ⟨ps, r⟩) (hlen : argsL.length = ps.length)
    {pc : Nat} {Ls : Array Slot} (hsz : Ls.size = c.maxLocals) {W : Nat} (hW : (rest.map fun v => v.category).sum = W) (hf : rm.frames + 1 ≤ R.frames) (hl : W + (ml + 11) + rm.locals ≤ R.locals) (hc : cells + rm.cells ≤ R.cells) (hs : slots + rm.slots ≤ R.slots)
    (hd : decode c.code pc = .ok (.invokestatic index, 3)) {st : List Value} (hst : st = argsL.reverse ++ rest)
    (kk : ∀ (T' : State) (v : Option Value) (L : List Loc), Stand p l e R s m args below meth c T' (locs ++ L) (cells + rm.cells) (slots + rm.slots) → Q' v T'.heap L → Run p e below s Q k n (T'.setTop (mkF m (pc + 3) Ls (v.toList ++ rest)))) :
    Run p e below s Q k n (T.setTop (mkF m pc Ls st)) := by
  obtain ⟨v, _, ⟨T', L', k', n'⟩, -, X', ⟨L, hQ, l1, y1, z1⟩, st1⟩ := Jvm.LawKit.callS X hx (y := y) hown (mvT hZ w1) (mvT hZ w2) (mvT hZ w3) (mvT hZ w4) hy (K.back hZ w4 w3 hf hl) (g := mkF m pc Ls st) rfl hsz (argsL := argsL) (rest := rest) (lenOf hpd hlen) hst (by show 2 * 0 + _ ≤ _; rw [hW]; omega) hd (fun _ _ => ⟨rfl, eT, hc, hs⟩)
  dsimp only [Pt.U, Pt.locs, Pt.cells, Pt.slots] at X' l1 y1 z1 st1 hQ
  subst l1 y1 z1
  exact Run.st st1 (kk T' v L X' hQ)
theorem Run.callC (X : Stand p l e R s m args below meth c T locs cells slots) (hx : p.tables.exec = Jvm.exec) (hZ : Z.Warmed39 s.vm) (eT : T.heap = h) {own : String} {index : Nat} {y : MethodName} {bytes : ByteArray} {ml : Nat} {rm : Room}
    (hown : s.vm.findClass own = some m.cls) (hy1 : y.name = "<init>") (w1 : (Jvm.Cond.methodLink own index y).before a0 Z = true) (w2 : (Jvm.Cond.instanceMethod y).before a0 Z = true) (w3 : (Jvm.Cond.initialized y.cls).before a0 Z = true) (w4 : (Jvm.Cond.code y bytes ml none).before a0 Z = true)
    (hy : y.cls ≠ "java/lang/invoke/MethodHandle" ∧ y.cls ≠ "java/lang/invoke/VarHandle") {a : Addr} {argsL rest : List Value} (K : Ctr l Z y bytes ml none rm (.ref a :: argsL).toArray h Q') {ps : List FieldType} {r : Option FieldType} (hpd : parseMethodDescriptor y.desc = some ⟨ps, r⟩) (hlen : argsL.length = ps.length)
    {pc : Nat} {Ls : Array Slot} (hsz : Ls.size = c.maxLocals) {W : Nat} (hW : (rest.map fun v => v.category).sum = W) (hf : rm.frames + 1 ≤ R.frames) (hl : W + (ml + 11) + rm.locals ≤ R.locals) (hc : cells + rm.cells ≤ R.cells) (hs : slots + rm.slots ≤ R.slots)
    (hd : decode c.code pc = .ok (.invokespecial index, 3)) {st : List Value} (hst : st = argsL.reverse ++ .ref a :: rest)
    (kk : ∀ (T' : State) (v : Option Value) (L : List Loc), Stand p l e R s m args below meth c T' (locs ++ L) (cells + rm.cells) (slots + rm.slots) → Q' v T'.heap L → Run p e below s Q k n (T'.setTop (mkF m (pc + 3) Ls (v.toList ++ rest)))) :
    Run p e below s Q k n (T.setTop (mkF m pc Ls st)) := by
  obtain ⟨v, _, ⟨T', L', k', n'⟩, -, X', ⟨L, hQ, l1, y1, z1⟩, st1⟩ := X.specialBack hx (y := y) hy1 hown (mvT hZ w1) (mvT hZ w2) (mvT hZ w4) hy (K.back hZ w4 w3 hf hl) (g := mkF m pc Ls st) rfl hsz (Steps.refl _) (a := a) (argsL := argsL) (rest := rest) (lenOf hpd hlen) hst (by show 2 * 0 + _ ≤ _; rw [hW]; omega) hd (fun _ _ => ⟨rfl, eT, hc, hs⟩)
  dsimp only [Pt.U, Pt.locs, Pt.cells, Pt.slots] at X' l1 y1 z1 st1 hQ
  subst l1 y1 z1
  exact Run.st (fun t q => st1.trans q) (kk T' v L X' hQ)
/-- 'invokevirtual', the body that the receiver's class selects -/
theorem Run.callV (X : Stand p l e R s m args below meth c T locs cells slots) (hx : p.tables.exec = Jvm.exec) (hZ : Z.Warmed39 s.vm) (eT : T.heap = h) {own C : String} {index : Nat} {y z : MethodName} {bytes : ByteArray} {ml : Nat} {ret : Option FieldType} {rm : Room}
    (hown : s.vm.findClass own = some m.cls) (w1 : (Jvm.Cond.methodLink own index y).before a0 Z = true) (w2 : (Jvm.Cond.declares y).before a0 Z = true) (hnf : NotFace s y) (w5 : (Jvm.Cond.selects C y z).before a0 Z = true) (w6 : (Jvm.Cond.instanceMethod z).before a0 Z = true) (w3 : (Jvm.Cond.initialized z.cls).before a0 Z = true) (w4 : (Jvm.Cond.code z bytes ml ret).before a0 Z = true)
    (hy : y.cls ≠ "java/lang/invoke/MethodHandle" ∧ y.cls ≠ "java/lang/invoke/VarHandle") {a : Addr} (E : Exa Z h a C) {argsL rest : List Value} (K : Ctr l Z z bytes ml ret rm (.ref a :: argsL).toArray h Q') {ps : List FieldType} {r : Option FieldType} (hpd : parseMethodDescriptor y.desc = some ⟨ps, r⟩) (hlen : argsL.length = ps.length)
    {pc : Nat} {Ls : Array Slot} (hsz : Ls.size = c.maxLocals) {W : Nat} (hW : (rest.map fun v => v.category).sum = W) (hf : rm.frames + 1 ≤ R.frames) (hl : W + (ml + 11) + rm.locals ≤ R.locals) (hc : cells + rm.cells ≤ R.cells) (hs : slots + rm.slots ≤ R.slots)
    (hd : decode c.code pc = .ok (.invokevirtual index, 3)) {st : List Value} (hst : st = argsL.reverse ++ .ref a :: rest)
    (kk : ∀ (T' : State) (v : Option Value) (L : List Loc), Stand p l e R s m args below meth c T' (locs ++ L) (cells + rm.cells) (slots + rm.slots) → Q' v T'.heap L → Run p e below s Q k n (T'.setTop (mkF m (pc + 3) Ls (v.toList ++ rest)))) :
    Run p e below s Q k n (T.setTop (mkF m pc Ls st)) := by
  obtain ⟨cq, kq, qa, qb, qc⟩ := isOf hZ eT E
  obtain ⟨v, _, ⟨T', L', k', n'⟩, -, X', ⟨L, hQ, l1, y1, z1⟩, st1⟩ := X.virtualBack hx (y := y) (z := z) hown (mvT hZ w1) (mvT hZ w2) hnf (mvT hZ w5) (mvT hZ w6) hy (K.back hZ w4 w3 hf hl) qa qc (g := mkF m pc Ls st) rfl hsz (Steps.refl _) (argsL := argsL) (rest := rest) (lenOf hpd hlen) hst (by show 2 * 0 + _ ≤ _; rw [hW]; omega) hd (fun _ _ => ⟨rfl, eT, hc, hs⟩)
  dsimp only [Pt.U, Pt.locs, Pt.cells, Pt.slots] at X' l1 y1 z1 st1 hQ
  subst l1 y1 z1
  exact Run.st (fun t q => st1.trans q) (kk T' v L X' hQ)
theorem Run.init (X : Stand p l e R s m args below meth c T locs cells slots) (hx : p.tables.exec = Jvm.exec) (hZ : Z.Warmed39 s.vm) (eT : T.heap = h) {own : String} {idx : Nat} (hown : s.vm.findClass own = some m.cls) (w1 : (Jvm.Cond.methodLink own idx Lib.objectInit).before a0 Z = true) (w2 : (Jvm.Cond.instanceMethod Lib.objectInit).before a0 Z = true)
    (w3 : (Jvm.Cond.code Lib.objectInit ⟨#[0xb1]⟩ 1 none).before a0 Z = true) {pc : Nat} {Ls : Array Slot} (hsz : Ls.size = c.maxLocals) {a : Addr} {rest : List Value} (hd : decode c.code pc = .ok (.invokespecial idx, 3)) (hf : 1 ≤ R.frames) {W : Nat} (hW : (rest.map fun v => v.category).sum = W) (hl : W + 12 ≤ R.locals)
    (kk : ∀ (T' : State), Stand p l e R s m args below meth c T' locs cells slots → T'.heap = h → Run p e below s Q k n (T'.setTop (mkF m (pc + 3) Ls rest))) :
    Run p e below s Q k n (T.setTop (mkF m pc Ls (.ref a :: rest))) := by
  obtain ⟨T', X', e', st'⟩ := initO X hx hZ hown w1 w2 w3 eT (g := mkF m pc Ls (.ref a :: rest)) rfl hsz rfl hd hf (W := W) (by show 2 * 0 + _ ≤ _; rw [hW]; omega) hl
  exact Run.st st' (kk T' X' e')
theorem Run.irem (X : Stand p l e R s m args below meth c T locs cells slots) (hx : p.tables.exec = Jvm.exec) {pc : Nat} {Ls : Array Slot} {x y : Int32} {rest : List Value} (hd : decode c.code pc = .ok (.irem, 1)) (hy : y ≠ 0) (r : Run p e below s Q k n (T.setTop (mkF m (pc + 1) Ls (.int (x % y) :: rest)))) :
    Run p e below s Q k n (T.setTop (mkF m pc Ls (.int y :: .int x :: rest))) := Run.st (fun t q => iremM (g := mkF m pc Ls (.int y :: .int x :: rest)) X hx rfl hd rfl hy q) r
theorem Run.lrem (X : Stand p l e R s m args below meth c T locs cells slots) (hx : p.tables.exec = Jvm.exec) {pc : Nat} {Ls : Array Slot} {x y : Int64} {rest : List Value} (hd : decode c.code pc = .ok (.lrem, 1)) (hy : y ≠ 0) (r : Run p e below s Q k n (T.setTop (mkF m (pc + 1) Ls (.long (x % y) :: rest)))) :
    Run p e below s Q k n (T.setTop (mkF m pc Ls (.long y :: .long x :: rest))) := by
  rw [← lrem_mod] at r
  exact Run.st (fun t q => XS.lrem (g := mkF m pc Ls (.long y :: .long x :: rest)) X.here hx rfl hd rfl hy q) r
theorem Run.x_iloadN (X : Stand p l e R s m args below meth c T locs cells slots) (hx : p.tables.exec = Jvm.exec) {pc q : Nat} {Ls : Array Slot} {S : List Value} {j : Fin 4} {v : Int32} (hd : decode c.code pc = .ok (.iload_n j, 1)) (hl : Ls[j.val]? = some (.val (.int v))) (hq : pc + 1 = q) (r : Run p e below s Q k n (T.setTop (mkF m q Ls (.int v :: S)))) : Run p e below s Q k n (T.setTop (mkF m pc Ls (S))) := by
  subst hq; exact Run.st (fun t kt => XS.iloadN X.here hx rfl hd hl kt) r
theorem Run.x_iload (X : Stand p l e R s m args below meth c T locs cells slots) (hx : p.tables.exec = Jvm.exec) {pc q : Nat} {Ls : Array Slot} {S : List Value} {j : Nat} {v : Int32} (hd : decode c.code pc = .ok (.iload j, 2)) (hl : Ls[j]? = some (.val (.int v))) (hq : pc + 2 = q) (r : Run p e below s Q k n (T.setTop (mkF m q Ls (.int v :: S)))) : Run p e below s Q k n (T.setTop (mkF m pc Ls (S))) := by
  subst hq; exact Run.st (fun t kt => XS.iload X.here hx rfl hd hl kt) r
theorem Run.x_lloadN (X : Stand p l e R s m args below meth c T locs cells slots) (hx : p.tables.exec = Jvm.exec) {pc q : Nat} {Ls : Array Slot} {S : List Value} {j : Fin 4} {v : Int64} (hd : decode c.code pc = .ok (.lload_n j, 1)) (hl : Ls[j.val]? = some (.val (.long v))) (hq : pc + 1 = q) (r : Run p e below s Q k n (T.setTop (mkF m q Ls (.long v :: S)))) : Run p e below s Q k n (T.setTop (mkF m pc Ls (S))) := by
  subst hq; exact Run.st (fun t kt => XS.lloadN X.here hx rfl hd hl kt) r
theorem Run.x_lload (X : Stand p l e R s m args below meth c T locs cells slots) (hx : p.tables.exec = Jvm.exec) {pc q : Nat} {Ls : Array Slot} {S : List Value} {j : Nat} {v : Int64} (hd : decode c.code pc = .ok (.lload j, 2)) (hl : Ls[j]? = some (.val (.long v))) (hq : pc + 2 = q) (r : Run p e below s Q k n (T.setTop (mkF m q Ls (.long v :: S)))) : Run p e below s Q k n (T.setTop (mkF m pc Ls (S))) := by
  subst hq; exact Run.st (fun t kt => XS.lload X.here hx rfl hd hl kt) r
theorem Run.x_aloadN (X : Stand p l e R s m args below meth c T locs cells slots) (hx : p.tables.exec = Jvm.exec) {pc q : Nat} {Ls : Array Slot} {S : List Value} {j : Fin 4} {v : Value} (hd : decode c.code pc = .ok (.aload_n j, 1)) (hl : Ls[j.val]? = some (.val v)) (hv : v.isRef = true) (hq : pc + 1 = q) (r : Run p e below s Q k n (T.setTop (mkF m q Ls (v :: S)))) : Run p e below s Q k n (T.setTop (mkF m pc Ls (S))) := by
  subst hq; exact Run.st (fun t kt => XS.aloadN X.here hx rfl hd hl hv kt) r
theorem Run.x_aload (X : Stand p l e R s m args below meth c T locs cells slots) (hx : p.tables.exec = Jvm.exec) {pc q : Nat} {Ls : Array Slot} {S : List Value} {j : Nat} {v : Value} (hd : decode c.code pc = .ok (.aload j, 2)) (hl : Ls[j]? = some (.val v)) (hv : v.isRef = true) (hq : pc + 2 = q) (r : Run p e below s Q k n (T.setTop (mkF m q Ls (v :: S)))) : Run p e below s Q k n (T.setTop (mkF m pc Ls (S))) := by
  subst hq; exact Run.st (fun t kt => XS.aload X.here hx rfl hd hl hv kt) r
theorem Run.x_istoreN (X : Stand p l e R s m args below meth c T locs cells slots) (hx : p.tables.exec = Jvm.exec) {pc q : Nat} {Ls : Array Slot} {S : List Value} {j : Fin 4} {v : Int32} (L' : Array Slot) (hd : decode c.code pc = .ok (.istore_n j, 1)) (hl : storeLocals Ls j.val (.int v) = some L') (hq : pc + 1 = q) (r : Run p e below s Q k n (T.setTop (mkF m q L' (S)))) : Run p e below s Q k n (T.setTop (mkF m pc Ls (.int v :: S))) := by
  subst hq; exact Run.st (fun t kt => XS.istoreN X.here hx rfl hd rfl hl kt) r
theorem Run.x_istore (X : Stand p l e R s m args below meth c T locs cells slots) (hx : p.tables.exec = Jvm.exec) {pc q : Nat} {Ls : Array Slot} {S : List Value} {j : Nat} {v : Int32} (L' : Array Slot) (hd : decode c.code pc = .ok (.istore j, 2)) (hl : storeLocals Ls j (.int v) = some L') (hq : pc + 2 = q) (r : Run p e below s Q k n (T.setTop (mkF m q L' (S)))) : Run p e below s Q k n (T.setTop (mkF m pc Ls (.int v :: S))) := by
  subst hq; exact Run.st (fun t kt => XS.istore X.here hx rfl hd rfl hl kt) r
theorem Run.x_lstoreN (X : Stand p l e R s m args below meth c T locs cells slots) (hx : p.tables.exec = Jvm.exec) {pc q : Nat} {Ls : Array Slot} {S : List Value} {j : Fin 4} {v : Int64} (L' : Array Slot) (hd : decode c.code pc = .ok (.lstore_n j, 1)) (hl : storeLocals Ls j.val (.long v) = some L') (hq : pc + 1 = q) (r : Run p e below s Q k n (T.setTop (mkF m q L' (S)))) : Run p e below s Q k n (T.setTop (mkF m pc Ls (.long v :: S))) := by
  subst hq; exact Run.st (fun t kt => XS.lstoreN X.here hx rfl hd rfl hl kt) r
theorem Run.x_lstore (X : Stand p l e R s m args below meth c T locs cells slots) (hx : p.tables.exec = Jvm.exec) {pc q : Nat} {Ls : Array Slot} {S : List Value} {j : Nat} {v : Int64} (L' : Array Slot) (hd : decode c.code pc = .ok (.lstore j, 2)) (hl : storeLocals Ls j (.long v) = some L') (hq : pc + 2 = q) (r : Run p e below s Q k n (T.setTop (mkF m q L' (S)))) : Run p e below s Q k n (T.setTop (mkF m pc Ls (.long v :: S))) := by
  subst hq; exact Run.st (fun t kt => XS.lstore X.here hx rfl hd rfl hl kt) r
theorem Run.x_astoreN (X : Stand p l e R s m args below meth c T locs cells slots) (hx : p.tables.exec = Jvm.exec) {pc q : Nat} {Ls : Array Slot} {S : List Value} {j : Fin 4} {v : Value} (L' : Array Slot) (hd : decode c.code pc = .ok (.astore_n j, 1)) (hv : v.isRef = true) (hl : storeLocals Ls j.val v = some L') (hq : pc + 1 = q) (r : Run p e below s Q k n (T.setTop (mkF m q L' (S)))) : Run p e below s Q k n (T.setTop (mkF m pc Ls (v :: S))) := by
  subst hq; exact Run.st (fun t kt => XS.astoreN X.here hx rfl hd rfl hv hl kt) r
theorem Run.x_astore (X : Stand p l e R s m args below meth c T locs cells slots) (hx : p.tables.exec = Jvm.exec) {pc q : Nat} {Ls : Array Slot} {S : List Value} {j : Nat} {v : Value} (L' : Array Slot) (hd : decode c.code pc = .ok (.astore j, 2)) (hv : v.isRef = true) (hl : storeLocals Ls j v = some L') (hq : pc + 2 = q) (r : Run p e below s Q k n (T.setTop (mkF m q L' (S)))) : Run p e below s Q k n (T.setTop (mkF m pc Ls (v :: S))) := by
  subst hq; exact Run.st (fun t kt => XS.astore X.here hx rfl hd rfl hv hl kt) r
theorem Run.x_iconst (X : Stand p l e R s m args below meth c T locs cells slots) (hx : p.tables.exec = Jvm.exec) {pc q : Nat} {Ls : Array Slot} {S : List Value} {i : Int} {z : Int32} (hd : decode c.code pc = .ok (.iconst i, 1)) (hz : Int32.ofInt i = z) (hq : pc + 1 = q) (r : Run p e below s Q k n (T.setTop (mkF m q Ls (.int z :: S)))) : Run p e below s Q k n (T.setTop (mkF m pc Ls (S))) := by
  subst hq; subst hz; exact Run.st (fun t kt => XS.iconst X.here hx rfl hd kt) r
theorem Run.x_bipush (X : Stand p l e R s m args below meth c T locs cells slots) (hx : p.tables.exec = Jvm.exec) {pc q : Nat} {Ls : Array Slot} {S : List Value} {i : Int} {z : Int32} (hd : decode c.code pc = .ok (.bipush i, 2)) (hz : (Int8.ofInt i).toInt32 = z) (hq : pc + 2 = q) (r : Run p e below s Q k n (T.setTop (mkF m q Ls (.int z :: S)))) : Run p e below s Q k n (T.setTop (mkF m pc Ls (S))) := by
  subst hq; subst hz; exact Run.st (fun t kt => XS.bipush X.here hx rfl hd kt) r
theorem Run.x_sipush (X : Stand p l e R s m args below meth c T locs cells slots) (hx : p.tables.exec = Jvm.exec) {pc q : Nat} {Ls : Array Slot} {S : List Value} {i : Int} {z : Int32} (hd : decode c.code pc = .ok (.sipush i, 3)) (hz : (Int16.ofInt i).toInt32 = z) (hq : pc + 3 = q) (r : Run p e below s Q k n (T.setTop (mkF m q Ls (.int z :: S)))) : Run p e below s Q k n (T.setTop (mkF m pc Ls (S))) := by
  subst hq; subst hz; exact Run.st (fun t kt => XS.sipush X.here hx rfl hd kt) r
theorem Run.x_lconst (X : Stand p l e R s m args below meth c T locs cells slots) (hx : p.tables.exec = Jvm.exec) {pc q : Nat} {Ls : Array Slot} {S : List Value} {i : Fin 2} {z : Int64} (hd : decode c.code pc = .ok (.lconst i, 1)) (hz : Int64.ofNat i = z) (hq : pc + 1 = q) (r : Run p e below s Q k n (T.setTop (mkF m q Ls (.long z :: S)))) : Run p e below s Q k n (T.setTop (mkF m pc Ls (S))) := by
  subst hq; subst hz; exact Run.st (fun t kt => XS.lconst X.here hx rfl hd kt) r
theorem Run.x_null (X : Stand p l e R s m args below meth c T locs cells slots) (hx : p.tables.exec = Jvm.exec) {pc q : Nat} {Ls : Array Slot} {S : List Value}  (hd : decode c.code pc = .ok (.aconst_null, 1)) (hq : pc + 1 = q) (r : Run p e below s Q k n (T.setTop (mkF m q Ls (.null :: S)))) : Run p e below s Q k n (T.setTop (mkF m pc Ls (S))) := by
  subst hq; exact Run.st (fun t kt => XS.aconstNull X.here hx rfl hd kt) r
theorem Run.x_iadd (X : Stand p l e R s m args below meth c T locs cells slots) (hx : p.tables.exec = Jvm.exec) {pc q : Nat} {Ls : Array Slot} {S : List Value} {x y z : Int32} (hd : decode c.code pc = .ok (.iadd, 1)) (hz : x + y = z) (hq : pc + 1 = q) (r : Run p e below s Q k n (T.setTop (mkF m q Ls (.int z :: S)))) : Run p e below s Q k n (T.setTop (mkF m pc Ls (.int y :: .int x :: S))) := by
  subst hq; subst hz; exact Run.st (fun t kt => XS.iadd X.here hx rfl hd rfl kt) r
theorem Run.x_ladd (X : Stand p l e R s m args below meth c T locs cells slots) (hx : p.tables.exec = Jvm.exec) {pc q : Nat} {Ls : Array Slot} {S : List Value} {x y z : Int64} (hd : decode c.code pc = .ok (.ladd, 1)) (hz : x + y = z) (hq : pc + 1 = q) (r : Run p e below s Q k n (T.setTop (mkF m q Ls (.long z :: S)))) : Run p e below s Q k n (T.setTop (mkF m pc Ls (.long y :: .long x :: S))) := by
  subst hq; subst hz; exact Run.st (fun t kt => XS.ladd X.here hx rfl hd rfl kt) r
theorem Run.x_isub (X : Stand p l e R s m args below meth c T locs cells slots) (hx : p.tables.exec = Jvm.exec) {pc q : Nat} {Ls : Array Slot} {S : List Value} {x y z : Int32} (hd : decode c.code pc = .ok (.isub, 1)) (hz : x - y = z) (hq : pc + 1 = q) (r : Run p e below s Q k n (T.setTop (mkF m q Ls (.int z :: S)))) : Run p e below s Q k n (T.setTop (mkF m pc Ls (.int y :: .int x :: S))) := by
  subst hq; subst hz; exact Run.st (fun t kt => XS.isub X.here hx rfl hd rfl kt) r
theorem Run.x_lsub (X : Stand p l e R s m args below meth c T locs cells slots) (hx : p.tables.exec = Jvm.exec) {pc q : Nat} {Ls : Array Slot} {S : List Value} {x y z : Int64} (hd : decode c.code pc = .ok (.lsub, 1)) (hz : x - y = z) (hq : pc + 1 = q) (r : Run p e below s Q k n (T.setTop (mkF m q Ls (.long z :: S)))) : Run p e below s Q k n (T.setTop (mkF m pc Ls (.long y :: .long x :: S))) := by
  subst hq; subst hz; exact Run.st (fun t kt => XS.lsub X.here hx rfl hd rfl kt) r
theorem Run.x_imul (X : Stand p l e R s m args below meth c T locs cells slots) (hx : p.tables.exec = Jvm.exec) {pc q : Nat} {Ls : Array Slot} {S : List Value} {x y z : Int32} (hd : decode c.code pc = .ok (.imul, 1)) (hz : x * y = z) (hq : pc + 1 = q) (r : Run p e below s Q k n (T.setTop (mkF m q Ls (.int z :: S)))) : Run p e below s Q k n (T.setTop (mkF m pc Ls (.int y :: .int x :: S))) := by
  subst hq; subst hz; exact Run.st (fun t kt => XS.imul X.here hx rfl hd rfl kt) r
theorem Run.x_lmul (X : Stand p l e R s m args below meth c T locs cells slots) (hx : p.tables.exec = Jvm.exec) {pc q : Nat} {Ls : Array Slot} {S : List Value} {x y z : Int64} (hd : decode c.code pc = .ok (.lmul, 1)) (hz : x * y = z) (hq : pc + 1 = q) (r : Run p e below s Q k n (T.setTop (mkF m q Ls (.long z :: S)))) : Run p e below s Q k n (T.setTop (mkF m pc Ls (.long y :: .long x :: S))) := by
  subst hq; subst hz; exact Run.st (fun t kt => XS.lmul X.here hx rfl hd rfl kt) r
theorem Run.x_iand (X : Stand p l e R s m args below meth c T locs cells slots) (hx : p.tables.exec = Jvm.exec) {pc q : Nat} {Ls : Array Slot} {S : List Value} {x y z : Int32} (hd : decode c.code pc = .ok (.iand, 1)) (hz : x &&& y = z) (hq : pc + 1 = q) (r : Run p e below s Q k n (T.setTop (mkF m q Ls (.int z :: S)))) : Run p e below s Q k n (T.setTop (mkF m pc Ls (.int y :: .int x :: S))) := by
  subst hq; subst hz; exact Run.st (fun t kt => XS.iand X.here hx rfl hd rfl kt) r
theorem Run.x_land (X : Stand p l e R s m args below meth c T locs cells slots) (hx : p.tables.exec = Jvm.exec) {pc q : Nat} {Ls : Array Slot} {S : List Value} {x y z : Int64} (hd : decode c.code pc = .ok (.land, 1)) (hz : x &&& y = z) (hq : pc + 1 = q) (r : Run p e below s Q k n (T.setTop (mkF m q Ls (.long z :: S)))) : Run p e below s Q k n (T.setTop (mkF m pc Ls (.long y :: .long x :: S))) := by
  subst hq; subst hz; exact Run.st (fun t kt => XS.land X.here hx rfl hd rfl kt) r
theorem Run.x_ior (X : Stand p l e R s m args below meth c T locs cells slots) (hx : p.tables.exec = Jvm.exec) {pc q : Nat} {Ls : Array Slot} {S : List Value} {x y z : Int32} (hd : decode c.code pc = .ok (.ior, 1)) (hz : x ||| y = z) (hq : pc + 1 = q) (r : Run p e below s Q k n (T.setTop (mkF m q Ls (.int z :: S)))) : Run p e below s Q k n (T.setTop (mkF m pc Ls (.int y :: .int x :: S))) := by
  subst hq; subst hz; exact Run.st (fun t kt => XS.ior X.here hx rfl hd rfl kt) r
theorem Run.x_lor (X : Stand p l e R s m args below meth c T locs cells slots) (hx : p.tables.exec = Jvm.exec) {pc q : Nat} {Ls : Array Slot} {S : List Value} {x y z : Int64} (hd : decode c.code pc = .ok (.lor, 1)) (hz : x ||| y = z) (hq : pc + 1 = q) (r : Run p e below s Q k n (T.setTop (mkF m q Ls (.long z :: S)))) : Run p e below s Q k n (T.setTop (mkF m pc Ls (.long y :: .long x :: S))) := by
  subst hq; subst hz; exact Run.st (fun t kt => XS.lor X.here hx rfl hd rfl kt) r
theorem Run.x_ixor (X : Stand p l e R s m args below meth c T locs cells slots) (hx : p.tables.exec = Jvm.exec) {pc q : Nat} {Ls : Array Slot} {S : List Value} {x y z : Int32} (hd : decode c.code pc = .ok (.ixor, 1)) (hz : x ^^^ y = z) (hq : pc + 1 = q) (r : Run p e below s Q k n (T.setTop (mkF m q Ls (.int z :: S)))) : Run p e below s Q k n (T.setTop (mkF m pc Ls (.int y :: .int x :: S))) := by
  subst hq; subst hz; exact Run.st (fun t kt => XS.ixor X.here hx rfl hd rfl kt) r
theorem Run.x_lxor (X : Stand p l e R s m args below meth c T locs cells slots) (hx : p.tables.exec = Jvm.exec) {pc q : Nat} {Ls : Array Slot} {S : List Value} {x y z : Int64} (hd : decode c.code pc = .ok (.lxor, 1)) (hz : x ^^^ y = z) (hq : pc + 1 = q) (r : Run p e below s Q k n (T.setTop (mkF m q Ls (.long z :: S)))) : Run p e below s Q k n (T.setTop (mkF m pc Ls (.long y :: .long x :: S))) := by
  subst hq; subst hz; exact Run.st (fun t kt => XS.lxor X.here hx rfl hd rfl kt) r
theorem Run.x_ishl (X : Stand p l e R s m args below meth c T locs cells slots) (hx : p.tables.exec = Jvm.exec) {pc q : Nat} {Ls : Array Slot} {S : List Value} {x y z : Int32} (hd : decode c.code pc = .ok (.ishl, 1)) (hz : x <<< (y &&& 31) = z) (hq : pc + 1 = q) (r : Run p e below s Q k n (T.setTop (mkF m q Ls (.int z :: S)))) : Run p e below s Q k n (T.setTop (mkF m pc Ls (.int y :: .int x :: S))) := by
  subst hq; subst hz; exact Run.st (fun t kt => XS.ishl X.here hx rfl hd rfl kt) r
theorem Run.x_ishr (X : Stand p l e R s m args below meth c T locs cells slots) (hx : p.tables.exec = Jvm.exec) {pc q : Nat} {Ls : Array Slot} {S : List Value} {x y z : Int32} (hd : decode c.code pc = .ok (.ishr, 1)) (hz : x >>> (y &&& 31) = z) (hq : pc + 1 = q) (r : Run p e below s Q k n (T.setTop (mkF m q Ls (.int z :: S)))) : Run p e below s Q k n (T.setTop (mkF m pc Ls (.int y :: .int x :: S))) := by
  subst hq; subst hz; exact Run.st (fun t kt => XS.ishr X.here hx rfl hd rfl kt) r
theorem Run.x_iushr (X : Stand p l e R s m args below meth c T locs cells slots) (hx : p.tables.exec = Jvm.exec) {pc q : Nat} {Ls : Array Slot} {S : List Value} {x y z : Int32} (hd : decode c.code pc = .ok (.iushr, 1)) (hz : (x.toUInt32 >>> (y &&& 31).toUInt32).toInt32 = z) (hq : pc + 1 = q) (r : Run p e below s Q k n (T.setTop (mkF m q Ls (.int z :: S)))) : Run p e below s Q k n (T.setTop (mkF m pc Ls (.int y :: .int x :: S))) := by
  subst hq; subst hz; exact Run.st (fun t kt => XS.iushr X.here hx rfl hd rfl kt) r
theorem Run.x_lshl (X : Stand p l e R s m args below meth c T locs cells slots) (hx : p.tables.exec = Jvm.exec) {pc q : Nat} {Ls : Array Slot} {S : List Value} {x z : Int64} {y : Int32} (hd : decode c.code pc = .ok (.lshl, 1)) (hz : x <<< (y &&& 0x3f).toInt64 = z) (hq : pc + 1 = q) (r : Run p e below s Q k n (T.setTop (mkF m q Ls (.long z :: S)))) : Run p e below s Q k n (T.setTop (mkF m pc Ls (.int y :: .long x :: S))) := by
  subst hq; subst hz; exact Run.st (fun t kt => XS.lshl X.here hx rfl hd rfl kt) r
theorem Run.x_lshr (X : Stand p l e R s m args below meth c T locs cells slots) (hx : p.tables.exec = Jvm.exec) {pc q : Nat} {Ls : Array Slot} {S : List Value} {x z : Int64} {y : Int32} (hd : decode c.code pc = .ok (.lshr, 1)) (hz : x >>> (y &&& 0x3f).toInt64 = z) (hq : pc + 1 = q) (r : Run p e below s Q k n (T.setTop (mkF m q Ls (.long z :: S)))) : Run p e below s Q k n (T.setTop (mkF m pc Ls (.int y :: .long x :: S))) := by
  subst hq; subst hz; exact Run.st (fun t kt => XS.lshr X.here hx rfl hd rfl kt) r
theorem Run.x_lushr (X : Stand p l e R s m args below meth c T locs cells slots) (hx : p.tables.exec = Jvm.exec) {pc q : Nat} {Ls : Array Slot} {S : List Value} {x z : Int64} {y : Int32} (hd : decode c.code pc = .ok (.lushr, 1)) (hz : (x.toUInt64 >>> (y &&& 0x3f).toInt64.toUInt64).toInt64 = z) (hq : pc + 1 = q) (r : Run p e below s Q k n (T.setTop (mkF m q Ls (.long z :: S)))) : Run p e below s Q k n (T.setTop (mkF m pc Ls (.int y :: .long x :: S))) := by
  subst hq; subst hz; exact Run.st (fun t kt => XS.lushr X.here hx rfl hd rfl kt) r
theorem Run.x_ineg (X : Stand p l e R s m args below meth c T locs cells slots) (hx : p.tables.exec = Jvm.exec) {pc q : Nat} {Ls : Array Slot} {S : List Value} {x : Int32} {z : Int32} (hd : decode c.code pc = .ok (.ineg, 1)) (hz : -x = z) (hq : pc + 1 = q) (r : Run p e below s Q k n (T.setTop (mkF m q Ls (.int z :: S)))) : Run p e below s Q k n (T.setTop (mkF m pc Ls (.int x :: S))) := by
  subst hq; subst hz; exact Run.st (fun t kt => XS.ineg X.here hx rfl hd rfl kt) r
theorem Run.x_lneg (X : Stand p l e R s m args below meth c T locs cells slots) (hx : p.tables.exec = Jvm.exec) {pc q : Nat} {Ls : Array Slot} {S : List Value} {x : Int64} {z : Int64} (hd : decode c.code pc = .ok (.lneg, 1)) (hz : -x = z) (hq : pc + 1 = q) (r : Run p e below s Q k n (T.setTop (mkF m q Ls (.long z :: S)))) : Run p e below s Q k n (T.setTop (mkF m pc Ls (.long x :: S))) := by
  subst hq; subst hz; exact Run.st (fun t kt => XS.lneg X.here hx rfl hd rfl kt) r
theorem Run.x_i2l (X : Stand p l e R s m args below meth c T locs cells slots) (hx : p.tables.exec = Jvm.exec) {pc q : Nat} {Ls : Array Slot} {S : List Value} {x : Int32} {z : Int64} (hd : decode c.code pc = .ok (.i2l, 1)) (hz : x.toInt64 = z) (hq : pc + 1 = q) (r : Run p e below s Q k n (T.setTop (mkF m q Ls (.long z :: S)))) : Run p e below s Q k n (T.setTop (mkF m pc Ls (.int x :: S))) := by
  subst hq; subst hz; exact Run.st (fun t kt => XS.i2l X.here hx rfl hd rfl kt) r
theorem Run.x_l2i (X : Stand p l e R s m args below meth c T locs cells slots) (hx : p.tables.exec = Jvm.exec) {pc q : Nat} {Ls : Array Slot} {S : List Value} {x : Int64} {z : Int32} (hd : decode c.code pc = .ok (.l2i, 1)) (hz : x.toInt32 = z) (hq : pc + 1 = q) (r : Run p e below s Q k n (T.setTop (mkF m q Ls (.int z :: S)))) : Run p e below s Q k n (T.setTop (mkF m pc Ls (.long x :: S))) := by
  subst hq; subst hz; exact Run.st (fun t kt => XS.l2i X.here hx rfl hd rfl kt) r
theorem Run.x_i2b (X : Stand p l e R s m args below meth c T locs cells slots) (hx : p.tables.exec = Jvm.exec) {pc q : Nat} {Ls : Array Slot} {S : List Value} {x : Int32} {z : Int32} (hd : decode c.code pc = .ok (.i2b, 1)) (hz : x.toInt8.toInt32 = z) (hq : pc + 1 = q) (r : Run p e below s Q k n (T.setTop (mkF m q Ls (.int z :: S)))) : Run p e below s Q k n (T.setTop (mkF m pc Ls (.int x :: S))) := by
  subst hq; subst hz; exact Run.st (fun t kt => XS.i2b X.here hx rfl hd rfl kt) r
theorem Run.x_i2s (X : Stand p l e R s m args below meth c T locs cells slots) (hx : p.tables.exec = Jvm.exec) {pc q : Nat} {Ls : Array Slot} {S : List Value} {x : Int32} {z : Int32} (hd : decode c.code pc = .ok (.i2s, 1)) (hz : x.toInt16.toInt32 = z) (hq : pc + 1 = q) (r : Run p e below s Q k n (T.setTop (mkF m q Ls (.int z :: S)))) : Run p e below s Q k n (T.setTop (mkF m pc Ls (.int x :: S))) := by
  subst hq; subst hz; exact Run.st (fun t kt => XS.i2s X.here hx rfl hd rfl kt) r
theorem Run.x_i2c (X : Stand p l e R s m args below meth c T locs cells slots) (hx : p.tables.exec = Jvm.exec) {pc q : Nat} {Ls : Array Slot} {S : List Value} {x : Int32} {z : Int32} (hd : decode c.code pc = .ok (.i2c, 1)) (hz : x.toUInt32.toUInt16.toUInt32.toInt32 = z) (hq : pc + 1 = q) (r : Run p e below s Q k n (T.setTop (mkF m q Ls (.int z :: S)))) : Run p e below s Q k n (T.setTop (mkF m pc Ls (.int x :: S))) := by
  subst hq; subst hz; exact Run.st (fun t kt => XS.i2c X.here hx rfl hd rfl kt) r
theorem Run.x_lcmp (X : Stand p l e R s m args below meth c T locs cells slots) (hx : p.tables.exec = Jvm.exec) {pc q : Nat} {Ls : Array Slot} {S : List Value} {x y : Int64} (hd : decode c.code pc = .ok (.lcmp, 1)) (hq : pc + 1 = q) (r : Run p e below s Q k n (T.setTop (mkF m q Ls (.int (lcmpW x y) :: S)))) : Run p e below s Q k n (T.setTop (mkF m pc Ls (.long y :: .long x :: S))) := by
  subst hq; exact Run.st (fun t kt => XS.lcmp X.here hx rfl hd rfl kt) r
theorem Run.x_idiv (X : Stand p l e R s m args below meth c T locs cells slots) (hx : p.tables.exec = Jvm.exec) {pc q : Nat} {Ls : Array Slot} {S : List Value} {x y z : Int32} (hd : decode c.code pc = .ok (.idiv, 1)) (hy : y ≠ 0) (hz : x / y = z) (hq : pc + 1 = q) (r : Run p e below s Q k n (T.setTop (mkF m q Ls (.int z :: S)))) : Run p e below s Q k n (T.setTop (mkF m pc Ls (.int y :: .int x :: S))) := by
  subst hq; subst hz; exact Run.st (fun t kt => XS.idiv X.here hx rfl hd rfl hy kt) r
theorem Run.x_ldiv (X : Stand p l e R s m args below meth c T locs cells slots) (hx : p.tables.exec = Jvm.exec) {pc q : Nat} {Ls : Array Slot} {S : List Value} {x y z : Int64} (hd : decode c.code pc = .ok (.ldiv, 1)) (hy : y ≠ 0) (hz : x / y = z) (hq : pc + 1 = q) (r : Run p e below s Q k n (T.setTop (mkF m q Ls (.long z :: S)))) : Run p e below s Q k n (T.setTop (mkF m pc Ls (.long y :: .long x :: S))) := by
  subst hq; subst hz; exact Run.st (fun t kt => XS.ldiv X.here hx rfl hd rfl hy kt) r
theorem Run.x_irem (X : Stand p l e R s m args below meth c T locs cells slots) (hx : p.tables.exec = Jvm.exec) {pc q : Nat} {Ls : Array Slot} {S : List Value} {x y z : Int32} (hd : decode c.code pc = .ok (.irem, 1)) (hy : y ≠ 0) (hz : x % y = z) (hq : pc + 1 = q) (r : Run p e below s Q k n (T.setTop (mkF m q Ls (.int z :: S)))) : Run p e below s Q k n (T.setTop (mkF m pc Ls (.int y :: .int x :: S))) := by
  subst hq; subst hz; exact Run.st (fun t kt => iremM (g := mkF m pc Ls (.int y :: .int x :: S)) X hx rfl hd rfl hy kt) r
theorem Run.x_lrem (X : Stand p l e R s m args below meth c T locs cells slots) (hx : p.tables.exec = Jvm.exec) {pc q : Nat} {Ls : Array Slot} {S : List Value} {x y z : Int64} (hd : decode c.code pc = .ok (.lrem, 1)) (hy : y ≠ 0) (hz : x % y = z) (hq : pc + 1 = q) (r : Run p e below s Q k n (T.setTop (mkF m q Ls (.long z :: S)))) : Run p e below s Q k n (T.setTop (mkF m pc Ls (.long y :: .long x :: S))) := by
  subst hq; subst hz; rw [← lrem_mod] at r; exact Run.st (fun t kt => XS.lrem X.here hx rfl hd rfl hy kt) r
theorem Run.x_iinc (X : Stand p l e R s m args below meth c T locs cells slots) (hx : p.tables.exec = Jvm.exec) {pc q : Nat} {Ls : Array Slot} {S : List Value} {j : Nat} {i : Int} {x z : Int32} (L' : Array Slot) (hd : decode c.code pc = .ok (.iinc j i, 3)) (hl : Ls[j]? = some (.val (.int x))) (hz : x + Int32.ofInt i = z) (hl' : storeLocals Ls j (.int z) = some L') (hq : pc + 3 = q) (r : Run p e below s Q k n (T.setTop (mkF m q L' (S)))) : Run p e below s Q k n (T.setTop (mkF m pc Ls (S))) := by
  subst hq; subst hz; exact Run.st (fun t kt => XS.iinc X.here hx rfl hd hl hl' kt) r
theorem Run.x_dup (X : Stand p l e R s m args below meth c T locs cells slots) (hx : p.tables.exec = Jvm.exec) {pc q : Nat} {Ls : Array Slot} {S : List Value} {v : Value} (hd : decode c.code pc = .ok (.dup, 1)) (hc : v.category = 1) (hq : pc + 1 = q) (r : Run p e below s Q k n (T.setTop (mkF m q Ls (v :: v :: S)))) : Run p e below s Q k n (T.setTop (mkF m pc Ls (v :: S))) := by
  subst hq; exact Run.st (fun t kt => XS.dup X.here hx rfl hd rfl hc kt) r
theorem Run.x_dup_x1 (X : Stand p l e R s m args below meth c T locs cells slots) (hx : p.tables.exec = Jvm.exec) {pc q : Nat} {Ls : Array Slot} {S : List Value} {v w : Value} (hd : decode c.code pc = .ok (.dup_x1, 1)) (hc : v.category = 1) (hc' : w.category = 1) (hq : pc + 1 = q) (r : Run p e below s Q k n (T.setTop (mkF m q Ls (v :: w :: v :: S)))) : Run p e below s Q k n (T.setTop (mkF m pc Ls (v :: w :: S))) := by
  subst hq; exact Run.st (fun t kt => XS.dupX1 X.here hx rfl hd rfl hc hc' kt) r
theorem Run.x_dup2 (X : Stand p l e R s m args below meth c T locs cells slots) (hx : p.tables.exec = Jvm.exec) {pc q : Nat} {Ls : Array Slot} {S : List Value} {v w : Value} (hd : decode c.code pc = .ok (.dup2, 1)) (hc : v.category = 1) (hc' : w.category = 1) (hq : pc + 1 = q) (r : Run p e below s Q k n (T.setTop (mkF m q Ls (v :: w :: v :: w :: S)))) : Run p e below s Q k n (T.setTop (mkF m pc Ls (v :: w :: S))) := by
  subst hq; exact Run.st (fun t kt => XT.dup2 X.here hx rfl hd rfl hc hc' kt) r
theorem Run.x_pop (X : Stand p l e R s m args below meth c T locs cells slots) (hx : p.tables.exec = Jvm.exec) {pc q : Nat} {Ls : Array Slot} {S : List Value} {v : Value} (hd : decode c.code pc = .ok (.pop, 1)) (hc : v.category = 1) (hq : pc + 1 = q) (r : Run p e below s Q k n (T.setTop (mkF m q Ls (S)))) : Run p e below s Q k n (T.setTop (mkF m pc Ls (v :: S))) := by
  subst hq; exact Run.st (fun t kt => XS.pop X.here hx rfl hd rfl hc kt) r
theorem Run.x_goto (X : Stand p l e R s m args below meth c T locs cells slots) (hx : p.tables.exec = Jvm.exec) {pc q : Nat} {Ls : Array Slot} {S : List Value}  {o : Int} (hd : decode c.code pc = .ok (.goto o, 3)) (ho : 0 ≤ (pc : Int) + o) (hq : ((pc : Int) + o).toNat = q) (r : Run p e below s Q k n (T.setTop (mkF m q Ls (S)))) : Run p e below s Q k n (T.setTop (mkF m pc Ls (S))) :=
  Run.st (fun t kt => XS.goto X.here hx rfl (pc0 := pc) (pc' := q) rfl hd ho hq kt) r
theorem Run.x_ifYes (X : Stand p l e R s m args below meth c T locs cells slots) (hx : p.tables.exec = Jvm.exec) {pc q : Nat} {Ls : Array Slot} {S : List Value} {cd : ClassFile.Cond} {x : Int32} {o : Int} (hd : decode c.code pc = .ok (.ifCond cd o, 3)) (hc : ifCond.holds cd x = true) (ho : 0 ≤ (pc : Int) + o) (hq : ((pc : Int) + o).toNat = q) (r : Run p e below s Q k n (T.setTop (mkF m q Ls (S)))) : Run p e below s Q k n (T.setTop (mkF m pc Ls (.int x :: S))) :=
  Run.st (fun t kt => XS.ifYes X.here hx rfl (pc0 := pc) (pc' := q) rfl hd rfl hc ho hq kt) r
theorem Run.x_icmpYes (X : Stand p l e R s m args below meth c T locs cells slots) (hx : p.tables.exec = Jvm.exec) {pc q : Nat} {Ls : Array Slot} {S : List Value} {cd : ClassFile.Cond} {x y : Int32} {o : Int} (hd : decode c.code pc = .ok (.if_icmp cd o, 3)) (hc : if_icmp.holds cd x y = true) (ho : 0 ≤ (pc : Int) + o) (hq : ((pc : Int) + o).toNat = q) (r : Run p e below s Q k n (T.setTop (mkF m q Ls (S)))) : Run p e below s Q k n (T.setTop (mkF m pc Ls (.int y :: .int x :: S))) :=
  Run.st (fun t kt => XS.icmpYes X.here hx rfl (pc0 := pc) (pc' := q) rfl hd rfl hc ho hq kt) r
theorem Run.x_ifNo (X : Stand p l e R s m args below meth c T locs cells slots) (hx : p.tables.exec = Jvm.exec) {pc q : Nat} {Ls : Array Slot} {S : List Value} {cd : ClassFile.Cond} {x : Int32} {o : Int} (hd : decode c.code pc = .ok (.ifCond cd o, 3)) (hc : ifCond.holds cd x = false) (hq : pc + 3 = q) (r : Run p e below s Q k n (T.setTop (mkF m q Ls (S)))) : Run p e below s Q k n (T.setTop (mkF m pc Ls (.int x :: S))) := by
  subst hq; exact Run.st (fun t kt => XS.ifNo X.here hx rfl hd rfl hc kt) r
theorem Run.x_icmpNo (X : Stand p l e R s m args below meth c T locs cells slots) (hx : p.tables.exec = Jvm.exec) {pc q : Nat} {Ls : Array Slot} {S : List Value} {cd : ClassFile.Cond} {x y : Int32} {o : Int} (hd : decode c.code pc = .ok (.if_icmp cd o, 3)) (hc : if_icmp.holds cd x y = false) (hq : pc + 3 = q) (r : Run p e below s Q k n (T.setTop (mkF m q Ls (S)))) : Run p e below s Q k n (T.setTop (mkF m pc Ls (.int y :: .int x :: S))) := by
  subst hq; exact Run.st (fun t kt => XS.icmpNo X.here hx rfl hd rfl hc kt) r
/-- an array and all that it holds -/
def Ars (Z : State) (h : Heap) (a : Addr) (ty : FieldType) (vs : List Value) : Prop := ∃ c : Cell, Arr Z h a c ty ∧ c.slots.toList = vs
variable {a b : Addr} {ty : FieldType} {vs : List Value} {v : Value} {sl : Nat} {ws : List Addr}
theorem Ars.lt (A : Ars Z h a ty vs) : a < h.size := by obtain ⟨c, A, -⟩ := A; exact A.lt
theorem Ars.ext (A : Ars Z h a ty vs) (E : Ext h h') : Ars Z h' a ty vs := by obtain ⟨c, A, r⟩ := A; exact ⟨c, A.ext E, r⟩
theorem Ars.other (A : Ars Z h b ty vs) (W : Wr h h' a sl v) (q : b ≠ a) : Ars Z h' b ty vs := by obtain ⟨c, A, r⟩ := A; exact ⟨c, A.other W q, r⟩
theorem Ars.keep (A : Ars Z h a ty vs) (K : Keep h h' ws) (q : a ∉ ws) : Ars Z h' a ty vs := by obtain ⟨c, A, r⟩ := A; exact ⟨c, ⟨K.2.1 a c A.1 q, A.2⟩, r⟩
theorem Ars.same (A : Ars Z h a ty vs) (W : Wr h h' a sl v) : Ars Z h' a ty (vs.set sl v) := by
  obtain ⟨c, A, r⟩ := A
  exact ⟨_, A.same W, by subst r; simp [Cell.setSlot]⟩
theorem Ars.new {k : ClassId} {z : Int32} (A : Arr Z h a (newA k ty z) ty) : Ars Z h a ty (List.replicate z.toNatClampNeg (defaultValue ty)) := ⟨_, A, by simp [newA]⟩
theorem in_of {c : Cell} {j : Int32} {i : Nat} (e : c.slots.toList = vs) (hj : j.toInt = i) (hi : i < vs.length) : ¬ (j < 0 ∨ c.slots.size ≤ j.toNatClampNeg) ∧ j.toNatClampNeg = i := by
  have e2 : j.toNatClampNeg = i := by show j.toInt.toNat = i; rw [hj]; rfl
  have e3 : c.slots.size = vs.length := by rw [← e]; simp
  refine ⟨?_, e2⟩
  rw [e2, e3, Int32.lt_iff_toInt_lt, hj]
  have : (0 : Int32).toInt = 0 := rfl
  omega
theorem at_of {c : Cell} {j : Int32} {i : Nat} (e : c.slots.toList = vs) (hj : j.toInt = i) (hi : vs[i]? = some v) : ¬ (j < 0 ∨ c.slots.size ≤ j.toNatClampNeg) ∧ c.slots[j.toNatClampNeg]? = some v := by
  obtain ⟨q, e2⟩ := in_of e hj (List.getElem?_eq_some_iff.mp hi).1
  refine ⟨q, ?_⟩
  rw [e2, ← hi, ← e]; simp
theorem Run.newP (X : Stand p l e R s m args below meth c T locs cells slots) (hx : p.tables.exec = Jvm.exec) (hZ : Z.Warmed39 s.vm) (eT : T.heap = h) {aty : ArrayType} (w : (Jvm.Cond.arrayClass (newarray.typeOf aty)).before a0 Z = true) {pc : Nat} {Ls : Array Slot} {z : Int32} {rest : List Value} (hd : decode c.code pc = .ok (.newarray aty, 2))
    {len : Nat} (hz : ¬ z < 0) (hlen : z.toNatClampNeg = len) {cap : Nat} (hcap : len ≤ cap) (hb : cap * 8 ≤ 536870912) (hc : cells + 1 ≤ R.cells) (hl : slots + cap ≤ R.slots)
    (kk : ∀ (T' : State) (h' : Heap) (b : Addr), b = h.size → Stand p l e R s m args below meth c T' locs (cells + 1) (slots + cap) → T'.heap = h' → Ext h h' → Ars Z h' b (newarray.typeOf aty) (List.replicate len (defaultValue (newarray.typeOf aty))) → Run p e below s Q k n (T'.setTop (mkF m (pc + 2) Ls (.ref b :: rest)))) :
    Run p e below s Q k n (T.setTop (mkF m pc Ls (.int z :: rest))) := by
  obtain ⟨T', h', k', X', e', E', A', st'⟩ := RoadKit.newP X hx hZ w eT (g := mkF m pc Ls (.int z :: rest)) rfl hd rfl hz (cap := cap) (by rw [hlen]; exact hcap) hb hc hl
  have A2 := Ars.new A'
  rw [hlen] at A2
  exact Run.st st' (kk T' h' _ rfl X' e' E' A2)
theorem Run.newR (X : Stand p l e R s m args below meth c T locs cells slots) (hx : p.tables.exec = Jvm.exec) (hZ : Z.Warmed39 s.vm) (eT : T.heap = h) {own C : String} {index : Nat} (hown : s.vm.findClass own = some m.cls) (w1 : (Jvm.Cond.classLink own index C).before a0 Z = true) (w2 : (Jvm.Cond.arrayOver (.object C)).before a0 Z = true) {pc : Nat} {Ls : Array Slot} {z : Int32} {rest : List Value} (hd : decode c.code pc = .ok (.anewarray index, 3))
    {len : Nat} (hz : ¬ z < 0) (hlen : z.toNatClampNeg = len) {cap : Nat} (hcap : len ≤ cap) (hb : cap * 8 ≤ 536870912) (hc : cells + 1 ≤ R.cells) (hl : slots + cap ≤ R.slots)
    (kk : ∀ (T' : State) (h' : Heap) (b : Addr), b = h.size → Stand p l e R s m args below meth c T' locs (cells + 1) (slots + cap) → T'.heap = h' → Ext h h' → Ars Z h' b (.object C) (List.replicate len .null) → Run p e below s Q k n (T'.setTop (mkF m (pc + 3) Ls (.ref b :: rest)))) :
    Run p e below s Q k n (T.setTop (mkF m pc Ls (.int z :: rest))) := by
  obtain ⟨T', h', k', X', e', E', A', -, st'⟩ := RoadKit.newR X hx hZ hown w1 w2 eT (g := mkF m pc Ls (.int z :: rest)) rfl hd rfl hz (cap := cap) (by rw [hlen]; exact hcap) hb hc hl
  have A2 := Ars.new A'
  rw [hlen] at A2
  exact Run.st st' (kk T' h' _ rfl X' e' E' A2)
theorem Run.ldI (X : Stand p l e R s m args below meth c T locs cells slots) (hx : p.tables.exec = Jvm.exec) (hZ : Z.Warmed39 s.vm) (eT : T.heap = h) (A : Ars Z h a .int vs) {j : Int32} {i : Nat} (hj : j.toInt = i) (hi : vs[i]? = some v) {pc : Nat} {Ls : Array Slot} {rest : List Value} (hd : decode c.code pc = .ok (.iaload, 1))
    (r : Run p e below s Q k n (T.setTop (mkF m (pc + 1) Ls (v :: rest)))) : Run p e below s Q k n (T.setTop (mkF m pc Ls (.int j :: .ref a :: rest))) := by
  obtain ⟨cl, A, q⟩ := A
  obtain ⟨q1, q2⟩ := at_of q hj hi
  exact Run.st (fun t kt => X.iaload hx (j := j) (v := v) (by rw [eT]; exact A.1) (State.isArrayOf_alike hZ.alike A.2.1) A.2.2 q1 q2 (g := mkF m pc Ls (.int j :: .ref a :: rest)) rfl rfl hd _ kt) r
theorem Run.ldC (X : Stand p l e R s m args below meth c T locs cells slots) (hx : p.tables.exec = Jvm.exec) (hZ : Z.Warmed39 s.vm) (eT : T.heap = h) (A : Ars Z h a .char vs) {j : Int32} {i : Nat} (hj : j.toInt = i) (hi : vs[i]? = some v) {pc : Nat} {Ls : Array Slot} {rest : List Value} (hd : decode c.code pc = .ok (.caload, 1))
    (r : Run p e below s Q k n (T.setTop (mkF m (pc + 1) Ls (v :: rest)))) : Run p e below s Q k n (T.setTop (mkF m pc Ls (.int j :: .ref a :: rest))) := by
  obtain ⟨cl, A, q⟩ := A
  obtain ⟨q1, q2⟩ := at_of q hj hi
  exact Run.st (fun t kt => X.caload hx (j := j) (v := v) (by rw [eT]; exact A.1) (State.isArrayOf_alike hZ.alike A.2.1) A.2.2 q1 q2 (g := mkF m pc Ls (.int j :: .ref a :: rest)) rfl rfl hd _ kt) r
theorem Run.ldJ (X : Stand p l e R s m args below meth c T locs cells slots) (hx : p.tables.exec = Jvm.exec) (hZ : Z.Warmed39 s.vm) (eT : T.heap = h) (A : Ars Z h a .long vs) {j : Int32} {i : Nat} (hj : j.toInt = i) (hi : vs[i]? = some v) {pc : Nat} {Ls : Array Slot} {rest : List Value} (hd : decode c.code pc = .ok (.laload, 1))
    (r : Run p e below s Q k n (T.setTop (mkF m (pc + 1) Ls (v :: rest)))) : Run p e below s Q k n (T.setTop (mkF m pc Ls (.int j :: .ref a :: rest))) := by
  obtain ⟨cl, A, q⟩ := A
  obtain ⟨q1, q2⟩ := at_of q hj hi
  exact Run.st (fun t kt => X.laload hx (j := j) (v := v) (by rw [eT]; exact A.1) (State.isArrayOf_alike hZ.alike A.2.1) A.2.2 q1 q2 (g := mkF m pc Ls (.int j :: .ref a :: rest)) rfl rfl hd _ kt) r
theorem Run.ldB (X : Stand p l e R s m args below meth c T locs cells slots) (hx : p.tables.exec = Jvm.exec) (hZ : Z.Warmed39 s.vm) (eT : T.heap = h) (A : Ars Z h a .byte vs) {j : Int32} {i : Nat} (hj : j.toInt = i) (hi : vs[i]? = some v) {pc : Nat} {Ls : Array Slot} {rest : List Value} (hd : decode c.code pc = .ok (.baload, 1))
    (r : Run p e below s Q k n (T.setTop (mkF m (pc + 1) Ls (v :: rest)))) : Run p e below s Q k n (T.setTop (mkF m pc Ls (.int j :: .ref a :: rest))) := by
  obtain ⟨cl, A, q⟩ := A
  obtain ⟨q1, q2⟩ := at_of q hj hi
  exact Run.st (fun t kt => X.baloadBytes hx (j := j) (v := v) (by rw [eT]; exact A.1) (State.isArrayOf_alike hZ.alike A.2.1) A.2.2 q1 q2 (g := mkF m pc Ls (.int j :: .ref a :: rest)) rfl rfl hd _ kt) r
theorem Run.ldZ (X : Stand p l e R s m args below meth c T locs cells slots) (hx : p.tables.exec = Jvm.exec) (hZ : Z.Warmed39 s.vm) (eT : T.heap = h) (A : Ars Z h a .boolean vs) {j : Int32} {i : Nat} (hj : j.toInt = i) (hi : vs[i]? = some v) {pc : Nat} {Ls : Array Slot} {rest : List Value} (hd : decode c.code pc = .ok (.baload, 1))
    (r : Run p e below s Q k n (T.setTop (mkF m (pc + 1) Ls (v :: rest)))) : Run p e below s Q k n (T.setTop (mkF m pc Ls (.int j :: .ref a :: rest))) := by
  obtain ⟨cl, A, q⟩ := A
  obtain ⟨q1, q2⟩ := at_of q hj hi
  exact Run.st (fun t kt => X.baloadBooleans hx (j := j) (v := v) (by rw [eT]; exact A.1) (State.isArrayOf_alike hZ.alike A.2.1) A.2.2 q1 q2 (g := mkF m pc Ls (.int j :: .ref a :: rest)) rfl rfl hd _ kt) r
theorem Run.ldR (X : Stand p l e R s m args below meth c T locs cells slots) (hx : p.tables.exec = Jvm.exec) (hZ : Z.Warmed39 s.vm) (eT : T.heap = h) (A : Ars Z h a ty vs) {j : Int32} {i : Nat} (hj : j.toInt = i) (hi : vs[i]? = some v) (hty : ty.isReference = true) {pc : Nat} {Ls : Array Slot} {rest : List Value} (hd : decode c.code pc = .ok (.aaload, 1))
    (r : Run p e below s Q k n (T.setTop (mkF m (pc + 1) Ls (v :: rest)))) : Run p e below s Q k n (T.setTop (mkF m pc Ls (.int j :: .ref a :: rest))) := by
  obtain ⟨cl, A, q⟩ := A
  obtain ⟨q1, q2⟩ := at_of q hj hi
  exact Run.st (fun t kt => X.aaload hx (j := j) (v := v) (by rw [eT]; exact A.1) (State.isArrayOf_alike hZ.alike A.2.1) hty A.2.2 q1 q2 (g := mkF m pc Ls (.int j :: .ref a :: rest)) rfl rfl hd _ kt) r
theorem Run.alen (X : Stand p l e R s m args below meth c T locs cells slots) (hx : p.tables.exec = Jvm.exec) (hZ : Z.Warmed39 s.vm) (eT : T.heap = h) (A : Ars Z h a ty vs) {z : Int32} (hz : vs.length.toInt32 = z) {pc : Nat} {Ls : Array Slot} {rest : List Value} (hd : decode c.code pc = .ok (.arraylength, 1))
    (r : Run p e below s Q k n (T.setTop (mkF m (pc + 1) Ls (.int z :: rest)))) : Run p e below s Q k n (T.setTop (mkF m pc Ls (.ref a :: rest))) := by
  obtain ⟨cl, A, q⟩ := A
  have e1 : cl.slots.size.toInt32 = z := by rw [← hz, ← q]; simp
  rw [← e1] at r
  exact Run.st (fun t kt => X.arraylength hx (by rw [eT]; exact A.1) (State.isArrayOf_alike hZ.alike A.2.1) (g := mkF m pc Ls (.ref a :: rest)) rfl rfl hd _ kt) r
theorem Run.stI (X : Stand p l e R s m args below meth c T locs cells slots) (hx : p.tables.exec = Jvm.exec) (hZ : Z.Warmed39 s.vm) (eT : T.heap = h) (A : Ars Z h a .int vs) {j z : Int32} {i : Nat} (hj : j.toInt = i) (hi : i < vs.length) {pc : Nat} {Ls : Array Slot} {rest : List Value} (hd : decode c.code pc = .ok (.iastore, 1))
    (kk : ∀ (T' : State) (h' : Heap), Stand p l e R s m args below meth c T' (locs ++ [⟨a, i⟩]) cells slots → T'.heap = h' → Wr h h' a i (.int z) → Ars Z h' a .int (vs.set i (.int z)) → Run p e below s Q k n (T'.setTop (mkF m (pc + 1) Ls rest))) : Run p e below s Q k n (T.setTop (mkF m pc Ls (.int z :: .int j :: .ref a :: rest))) := by
  obtain ⟨cl, A1, q⟩ := id A
  obtain ⟨q1, q2⟩ := in_of q hj hi
  obtain ⟨T', h', X', e', W', st'⟩ := RoadKit.stI X hx hZ eT A1 (j := j) (x := z) q1 (g := mkF m pc Ls (.int z :: .int j :: .ref a :: rest)) rfl rfl hd
  rw [q2] at X' W'
  exact Run.st st' (kk T' h' X' e' W' (A.same W'))
theorem Run.stJ (X : Stand p l e R s m args below meth c T locs cells slots) (hx : p.tables.exec = Jvm.exec) (hZ : Z.Warmed39 s.vm) (eT : T.heap = h) (A : Ars Z h a .long vs) {j : Int32} {z : Int64} {i : Nat} (hj : j.toInt = i) (hi : i < vs.length) {pc : Nat} {Ls : Array Slot} {rest : List Value} (hd : decode c.code pc = .ok (.lastore, 1))
    (kk : ∀ (T' : State) (h' : Heap), Stand p l e R s m args below meth c T' (locs ++ [⟨a, i⟩]) cells slots → T'.heap = h' → Wr h h' a i (.long z) → Ars Z h' a .long (vs.set i (.long z)) → Run p e below s Q k n (T'.setTop (mkF m (pc + 1) Ls rest))) : Run p e below s Q k n (T.setTop (mkF m pc Ls (.long z :: .int j :: .ref a :: rest))) := by
  obtain ⟨cl, A1, q⟩ := id A
  obtain ⟨q1, q2⟩ := in_of q hj hi
  obtain ⟨T', h', X', e', W', st'⟩ := RoadKit.stJ X hx hZ eT A1 (j := j) (x := z) q1 (g := mkF m pc Ls (.long z :: .int j :: .ref a :: rest)) rfl rfl hd
  rw [q2] at X' W'
  exact Run.st st' (kk T' h' X' e' W' (A.same W'))
theorem Run.stC (X : Stand p l e R s m args below meth c T locs cells slots) (hx : p.tables.exec = Jvm.exec) (hZ : Z.Warmed39 s.vm) (eT : T.heap = h) (A : Ars Z h a .char vs) {j z : Int32} {i : Nat} (hj : j.toInt = i) (hi : i < vs.length) {z' : Int32} (hz : nar .char z = z') {pc : Nat} {Ls : Array Slot} {rest : List Value} (hd : decode c.code pc = .ok (.castore, 1))
    (kk : ∀ (T' : State) (h' : Heap), Stand p l e R s m args below meth c T' (locs ++ [⟨a, i⟩]) cells slots → T'.heap = h' → Wr h h' a i (.int z') → Ars Z h' a .char (vs.set i (.int z')) → Run p e below s Q k n (T'.setTop (mkF m (pc + 1) Ls rest))) : Run p e below s Q k n (T.setTop (mkF m pc Ls (.int z :: .int j :: .ref a :: rest))) := by
  obtain ⟨cl, A1, q⟩ := id A
  obtain ⟨q1, q2⟩ := in_of q hj hi
  obtain ⟨T', h', X', e', W', st'⟩ := RoadKit.stC X hx hZ eT A1 (j := j) (x := z) q1 (g := mkF m pc Ls (.int z :: .int j :: .ref a :: rest)) rfl rfl hd
  rw [q2] at X' W'
  rw [hz] at W'
  exact Run.st st' (kk T' h' X' e' W' (A.same W'))
theorem Run.stB (X : Stand p l e R s m args below meth c T locs cells slots) (hx : p.tables.exec = Jvm.exec) (hZ : Z.Warmed39 s.vm) (eT : T.heap = h) (A : Ars Z h a .byte vs) {j z : Int32} {i : Nat} (hj : j.toInt = i) (hi : i < vs.length) {z' : Int32} (hz : nar .byte z = z') {pc : Nat} {Ls : Array Slot} {rest : List Value} (hd : decode c.code pc = .ok (.bastore, 1))
    (kk : ∀ (T' : State) (h' : Heap), Stand p l e R s m args below meth c T' (locs ++ [⟨a, i⟩]) cells slots → T'.heap = h' → Wr h h' a i (.int z') → Ars Z h' a .byte (vs.set i (.int z')) → Run p e below s Q k n (T'.setTop (mkF m (pc + 1) Ls rest))) : Run p e below s Q k n (T.setTop (mkF m pc Ls (.int z :: .int j :: .ref a :: rest))) := by
  obtain ⟨cl, A1, q⟩ := id A
  obtain ⟨q1, q2⟩ := in_of q hj hi
  obtain ⟨T', h', X', e', W', st'⟩ := RoadKit.stB X hx hZ eT A1 (j := j) (x := z) q1 (g := mkF m pc Ls (.int z :: .int j :: .ref a :: rest)) rfl rfl hd
  rw [q2] at X' W'
  rw [hz] at W'
  exact Run.st st' (kk T' h' X' e' W' (A.same W'))
theorem Run.stZ (X : Stand p l e R s m args below meth c T locs cells slots) (hx : p.tables.exec = Jvm.exec) (hZ : Z.Warmed39 s.vm) (eT : T.heap = h) (A : Ars Z h a .boolean vs) {j z : Int32} {i : Nat} (hj : j.toInt = i) (hi : i < vs.length) {z' : Int32} (hz : nar .boolean z = z') {pc : Nat} {Ls : Array Slot} {rest : List Value} (hd : decode c.code pc = .ok (.bastore, 1))
    (kk : ∀ (T' : State) (h' : Heap), Stand p l e R s m args below meth c T' (locs ++ [⟨a, i⟩]) cells slots → T'.heap = h' → Wr h h' a i (.int z') → Ars Z h' a .boolean (vs.set i (.int z')) → Run p e below s Q k n (T'.setTop (mkF m (pc + 1) Ls rest))) : Run p e below s Q k n (T.setTop (mkF m pc Ls (.int z :: .int j :: .ref a :: rest))) := by
  obtain ⟨cl, A1, q⟩ := id A
  obtain ⟨q1, q2⟩ := in_of q hj hi
  obtain ⟨T', h', X', e', W', st'⟩ := RoadKit.stZ X hx hZ eT A1 (j := j) (x := z) q1 (g := mkF m pc Ls (.int z :: .int j :: .ref a :: rest)) rfl rfl hd
  rw [q2] at X' W'
  rw [hz] at W'
  exact Run.st st' (kk T' h' X' e' W' (A.same W'))
end Laws
theorem nar_b01 {z : Int32} (hz : z = 0 ∨ z = 1) : nar .boolean z = z := by rcases hz with rfl | rfl <;> decide
theorem nar_b (x : Int32) : nar .byte x.toInt8.toInt32 = x.toInt8.toInt32 := by
  show x.toInt8.toInt32.toInt8.toInt32 = x.toInt8.toInt32
  simp
theorem nar_c (x : Int32) : nar .char x.toUInt32.toUInt16.toUInt32.toInt32 = x.toUInt32.toUInt16.toUInt32.toInt32 := by
  show x.toUInt32.toUInt16.toUInt32.toInt32.toUInt32.toUInt16.toUInt32.toInt32 = _
  have q : ∀ y : UInt16, y.toUInt32.toInt32.toUInt32.toUInt16 = y := fun y => by simp
  rw [q]
theorem ints_at (xs : List Int32) {i : Nat} (h : i < xs.length) : ∃ x, (xs.map Value.int)[i]? = some (.int x) := ⟨xs[i], by simp [h]⟩
/-- 1 or 0 -/
def own_b (c : Prop) [Decidable c] : Int32 := if c then 1 else 0
theorem own_b1 {c : Prop} [Decidable c] (h : c) : own_b c = 1 := if_pos h
theorem own_b0 {c : Prop} [Decidable c] (h : ¬ c) : own_b c = 0 := if_neg h
theorem own_b01 (c : Prop) [Decidable c] : own_b c = 0 ∨ own_b c = 1 := by unfold own_b; split <;> simp
theorem sub_w (a b : Int32) : (a.toInt64 - b.toInt64).toInt = a.toInt - b.toInt := by
  have h1 := c_lsub a.toInt64 b.toInt64
  have h2 := rng64 (a.toInt64 - b.toInt64)
  have h3 := rng32 a
  have h4 := rng32 b
  rw [c_i2l, c_i2l] at h1
  omega
theorem lt32 (a b : Int32) : a < b ↔ a.toInt < b.toInt := Int32.lt_iff_toInt_lt
theorem lt64 (a b : Int64) : a < b ↔ a.toInt < b.toInt := Int64.lt_iff_toInt_lt
theorem eq32 (a b : Int32) : a = b ↔ a.toInt = b.toInt := Int32.toInt_inj.symm
theorem eq64 (a b : Int64) : a = b ↔ a.toInt = b.toInt := Int64.toInt_inj.symm
/-- an int comes back, nothing is touched -/
def PureI (h0 : Heap) (n0 : Nat) (z : Int32) (v : Option Value) (h : Heap) (L : List Loc) : Prop := v = some (.int z) ∧ Fr n0 L ∧ h = h0
def PureJ (h0 : Heap) (n0 : Nat) (z : Int64) (v : Option Value) (h : Heap) (L : List Loc) : Prop := v = some (.long z) ∧ Fr n0 L ∧ h = h0
def PureR (h0 : Heap) (n0 : Nat) (z : Value) (v : Option Value) (h : Heap) (L : List Loc) : Prop := v = some z ∧ Fr n0 L ∧ h = h0
theorem PureI.mk {h0 : Heap} {n0 : Nat} {z z' : Int32} {L : List Loc} (e : z' = z) (N : Fr n0 L) : PureI h0 n0 z (some (.int z')) h0 L := ⟨by rw [e], N, rfl⟩
theorem PureJ.mk {h0 : Heap} {n0 : Nat} {z z' : Int64} {L : List Loc} (e : z' = z) (N : Fr n0 L) : PureJ h0 n0 z (some (.long z')) h0 L := ⟨by rw [e], N, rfl⟩
/-- the law's own end -/
def Tru (n0 : Nat) (v : Option Value) (h : Heap) (L : List Loc) : Prop := v = some (.int 1) ∧ Fr n0 L
end Jvm.OwnRun
namespace Jvm.Pilot.@@N@@
open Jvm Jvm.ClassFile Sem Op Lib Jvm.Free Jvm.Stand Jvm.LawKit Jvm.RoadKit Jvm.OwnRun Bundle Jvm.Pilot.@@N@@.Jvm.D
theorem d1_0 : decode prog_13_method_1_code 0 = .ok (.aload_n 0, 1) := by decide +kernel
theorem d1_1 : decode prog_13_method_1_code 1 = .ok (.invokespecial 1, 3) := by decide +kernel
theorem d1_4 : decode prog_13_method_1_code 4 = .ok (.aload_n 0, 1) := by decide +kernel
theorem d1_5 : decode prog_13_method_1_code 5 = .ok (.aload_n 1, 1) := by decide +kernel
theorem d1_6 : decode prog_13_method_1_code 6 = .ok (.putfield 7, 3) := by decide +kernel
theorem d1_9 : decode prog_13_method_1_code 9 = .ok (.aload_n 0, 1) := by decide +kernel
theorem d1_10 : decode prog_13_method_1_code 10 = .ok (.aload_n 2, 1) := by decide +kernel
theorem d1_11 : decode prog_13_method_1_code 11 = .ok (.putfield 13, 3) := by decide +kernel
theorem d1_14 : decode prog_13_method_1_code 14 = .ok (.aload_n 0, 1) := by decide +kernel
theorem d1_15 : decode prog_13_method_1_code 15 = .ok (.iload_n 3, 1) := by decide +kernel
theorem d1_16 : decode prog_13_method_1_code 16 = .ok (.putfield 17, 3) := by decide +kernel
theorem d1_19 : decode prog_13_method_1_code 19 = .ok (.return_, 1) := by decide +kernel
theorem pn_0 : plainName "com/example/sayso/sayso/CharacterSet" = true := by first | (simp [plainName, overriddenIn]; done) | decide +kernel
theorem ef_c_init (m : MethodId) (this : Addr) (r1 : Addr) (r2 : Addr) : entryFrame m #[(.ref this), (.ref r1), (.ref r2), (.int (0 : Int32))] 4 = mkF m 0 #[.val (.ref this), .val (.ref r1), .val (.ref r2), .val (.int (0 : Int32))] [] := by first | (simp [entryFrame, mkF, argsToLocals, Value.category]; done) | rfl
set_option maxRecDepth 65536 in
set_option maxHeartbeats 40000000 in
theorem c_init (l : Launch) (Z : State) (a0 : Array Value) (hw : ∀ d ∈ tables_1, d.before a0 Z = true) (this : Addr) (r1 : Addr) (r2 : Addr) (h0 : Heap) (n0 : Nat) (Z0 : n0 ≤ h0.size) (E_this : Exa Z h0 this "com/example/sayso/sayso/CharacterSet") (F_this_ranges : Fld Z h0 this "com/example/sayso/sayso/CharacterSet" "ranges" "[I" .null) (F_this_classes : Fld Z h0 this "com/example/sayso/sayso/CharacterSet" "classes" "[Lcom/example/sayso/sayso/CharacterClass;" .null) (F_this_negated : Fld Z h0 this "com/example/sayso/sayso/CharacterSet" "negated" "Z" (.int (0 : Int32))) (g_this : n0 ≤ this) :
    Ctr l Z (⟨"com/example/sayso/sayso/CharacterSet", "<init>", "([I[Lcom/example/sayso/sayso/CharacterClass;Z)V"⟩ : MethodName) prog_13_method_1_code 4 none ({ frames := 1, cells := 0, slots := 0, locals := 12 } : Room) #[(.ref this), (.ref r1), (.ref r2), (.int (0 : Int32))] h0 (fun v h L => v = none ∧ Fr n0 L ∧ Keep h0 h [this] ∧ Exa Z h this "com/example/sayso/sayso/CharacterSet" ∧ Fld Z h this "com/example/sayso/sayso/CharacterSet" "ranges" "[I" (.ref r1) ∧ Fld Z h this "com/example/sayso/sayso/CharacterSet" "classes" "[Lcom/example/sayso/sayso/CharacterClass;" (.ref r2) ∧ Fld Z h this "com/example/sayso/sayso/CharacterSet" "negated" "Z" (.int (0 : Int32))) := by
  refine Ctr.of (plainFor_of_name pn_0) (fun m => ef_c_init m this r1 r2) ?_
  intro p e s m below meth c T0 hx hby hml hown hnm hret hlk hZ e0 X0
  have N0 := Fr.nil n0
  replace hown : s.vm.findClass "com/example/sayso/sayso/CharacterSet" = some m.cls := hown
  replace hml : c.maxLocals = 4 := hml
  have KP := Keep.refl h0 [this]
  refine Run.x_aloadN (q := 1) X0 hx (hb hby d1_0) rfl rfl rfl ?_
  refine Run.init X0 hx hZ e0 hown (hw _ (List.mem_of_getElem? (i := 12) rfl)) (hw _ (List.mem_of_getElem? (i := 13) rfl)) (hw _ (List.mem_of_getElem? (i := 14) rfl)) (by rw [hml]; rfl) (hb hby d1_1) (by decide) (W := 0) rfl (by decide) ?_
  intro T1 X1 e1
  show Run p e below s _ _ _ (T1.setTop (mkF m 4 #[.val (.ref this), .val (.ref r1), .val (.ref r2), .val (.int (0 : Int32))] []))
  refine Run.x_aloadN (q := 5) X1 hx (hb hby d1_4) rfl rfl rfl ?_
  refine Run.x_aloadN (q := 6) X1 hx (hb hby d1_5) rfl rfl rfl ?_
  obtain ⟨T2, h2, X2, e2, W2, st2⟩ := putF X1 hx hZ hown (host := "") (Or.inl (hw _ (List.mem_of_getElem? (i := 15) rfl))) Via.refl e1 F_this_ranges E_this (Or.inr ⟨(hw _ (List.mem_of_getElem? (i := 16) rfl)), rfl, hnm⟩) (hw _ (List.mem_of_getElem? (i := 5) rfl)) (ty := (.array .int)) (by decide) rfl rfl (g := (mkF m 6 #[.val (.ref this), .val (.ref r1), .val (.ref r2), .val (.int (0 : Int32))] [(.ref r1), (.ref this)])) rfl rfl (hb hby d1_6)
  replace F_this_ranges := F_this_ranges.same W2
  have Z2 : n0 ≤ h2.size := Nat.le_trans Z0 (Nat.le_of_eq W2.size.symm)
  replace KP := KP.wr W2 (Or.inl (by simp))
  have N2 := Fr.snoc X2 N0 g_this
  refine Run.st st2 ?_
  show Run p e below s _ _ _ (T2.setTop (mkF m 9 #[.val (.ref this), .val (.ref r1), .val (.ref r2), .val (.int (0 : Int32))] []))
  refine Run.x_aloadN (q := 10) X2 hx (hb hby d1_9) rfl rfl rfl ?_
  refine Run.x_aloadN (q := 11) X2 hx (hb hby d1_10) rfl rfl rfl ?_
  replace F_this_classes := F_this_classes.other W2 (Or.inr (slot_ne (Or.inr (hw _ (List.mem_of_getElem? (i := 18) rfl))) (Or.inr (hw _ (List.mem_of_getElem? (i := 16) rfl))) (by decide) (t := (.array (.object "com/example/sayso/sayso/CharacterClass"))) (t' := (.array .int)) (by decide) (by decide)))
  replace E_this := E_this.wr W2
  obtain ⟨T3, h3, X3, e3, W3, st3⟩ := putF X2 hx hZ hown (host := "") (Or.inl (hw _ (List.mem_of_getElem? (i := 17) rfl))) Via.refl e2 F_this_classes E_this (Or.inr ⟨(hw _ (List.mem_of_getElem? (i := 18) rfl)), rfl, hnm⟩) (hw _ (List.mem_of_getElem? (i := 5) rfl)) (ty := (.array (.object "com/example/sayso/sayso/CharacterClass"))) (by decide) rfl rfl (g := (mkF m 11 #[.val (.ref this), .val (.ref r1), .val (.ref r2), .val (.int (0 : Int32))] [(.ref r2), (.ref this)])) rfl rfl (hb hby d1_11)
  replace F_this_classes := F_this_classes.same W3
  have Z3 : n0 ≤ h3.size := Nat.le_trans Z2 (Nat.le_of_eq W3.size.symm)
  replace KP := KP.wr W3 (Or.inl (by simp))
  have N3 := Fr.snoc X3 N2 g_this
  refine Run.st st3 ?_
  show Run p e below s _ _ _ (T3.setTop (mkF m 14 #[.val (.ref this), .val (.ref r1), .val (.ref r2), .val (.int (0 : Int32))] []))
  refine Run.x_aloadN (q := 15) X3 hx (hb hby d1_14) rfl rfl rfl ?_
  refine Run.x_iloadN (q := 16) X3 hx (hb hby d1_15) rfl rfl ?_
  replace F_this_negated := (F_this_negated.other W2 (Or.inr (slot_ne (Or.inr (hw _ (List.mem_of_getElem? (i := 20) rfl))) (Or.inr (hw _ (List.mem_of_getElem? (i := 16) rfl))) (by decide) (t := .boolean) (t' := (.array .int)) (by decide) (by decide)))).other W3 (Or.inr (slot_ne (Or.inr (hw _ (List.mem_of_getElem? (i := 20) rfl))) (Or.inr (hw _ (List.mem_of_getElem? (i := 18) rfl))) (by decide) (t := .boolean) (t' := (.array (.object "com/example/sayso/sayso/CharacterClass"))) (by decide) (by decide)))
  replace E_this := E_this.wr W3
  obtain ⟨T4, h4, X4, e4, W4, st4⟩ := putFN X3 hx hZ hown (hw _ (List.mem_of_getElem? (i := 19) rfl)) Via.refl e3 F_this_negated E_this (Or.inr ⟨(hw _ (List.mem_of_getElem? (i := 20) rfl)), rfl, hnm⟩) (hw _ (List.mem_of_getElem? (i := 5) rfl)) (ty := .boolean) (v' := (.int (0 : Int32))) (by decide) rfl (by decide) (g := (mkF m 16 #[.val (.ref this), .val (.ref r1), .val (.ref r2), .val (.int (0 : Int32))] [(.int (0 : Int32)), (.ref this)])) rfl rfl (hb hby d1_16)
  replace F_this_negated := F_this_negated.same W4
  have Z4 : n0 ≤ h4.size := Nat.le_trans Z3 (Nat.le_of_eq W4.size.symm)
  replace KP := KP.wr W4 (Or.inl (by simp))
  have N4 := Fr.snoc X4 N3 g_this
  refine Run.st st4 ?_
  show Run p e below s _ _ _ (T4.setTop (mkF m 19 #[.val (.ref this), .val (.ref r1), .val (.ref r2), .val (.int (0 : Int32))] []))
  replace E_this := E_this.wr W4
  replace F_this_ranges := (F_this_ranges.other W3 (Or.inr (slot_ne (Or.inr (hw _ (List.mem_of_getElem? (i := 16) rfl))) (Or.inr (hw _ (List.mem_of_getElem? (i := 18) rfl))) (by decide) (t := (.array .int)) (t' := (.array (.object "com/example/sayso/sayso/CharacterClass"))) (by decide) (by decide)))).other W4 (Or.inr (slot_ne (Or.inr (hw _ (List.mem_of_getElem? (i := 16) rfl))) (Or.inr (hw _ (List.mem_of_getElem? (i := 20) rfl))) (by decide) (t := (.array .int)) (t' := .boolean) (by decide) (by decide)))
  replace F_this_classes := F_this_classes.other W4 (Or.inr (slot_ne (Or.inr (hw _ (List.mem_of_getElem? (i := 18) rfl))) (Or.inr (hw _ (List.mem_of_getElem? (i := 20) rfl))) (by decide) (t := (.array (.object "com/example/sayso/sayso/CharacterClass"))) (t' := .boolean) (by decide) (by decide)))
  refine Run.retV X4 hx hlk e4 hret (hb hby d1_19) (by decide) (by decide) ?_
  exact ⟨rfl, N4, KP, E_this, F_this_ranges, F_this_classes, F_this_negated⟩
theorem d2_0 : decode prog_13_method_2_code 0 = .ok (.new 8, 3) := by decide +kernel
theorem d2_3 : decode prog_13_method_2_code 3 = .ok (.dup, 1) := by decide +kernel
theorem d2_4 : decode prog_13_method_2_code 4 = .ok (.iconst 2, 1) := by decide +kernel
theorem d2_5 : decode prog_13_method_2_code 5 = .ok (.newarray .int, 2) := by decide +kernel
theorem d2_7 : decode prog_13_method_2_code 7 = .ok (.dup, 1) := by decide +kernel
theorem d2_8 : decode prog_13_method_2_code 8 = .ok (.iconst 0, 1) := by decide +kernel
theorem d2_9 : decode prog_13_method_2_code 9 = .ok (.iload_n 0, 1) := by decide +kernel
theorem d2_10 : decode prog_13_method_2_code 10 = .ok (.iastore, 1) := by decide +kernel
theorem d2_11 : decode prog_13_method_2_code 11 = .ok (.dup, 1) := by decide +kernel
theorem d2_12 : decode prog_13_method_2_code 12 = .ok (.iconst 1, 1) := by decide +kernel
theorem d2_13 : decode prog_13_method_2_code 13 = .ok (.iload_n 0, 1) := by decide +kernel
theorem d2_14 : decode prog_13_method_2_code 14 = .ok (.iastore, 1) := by decide +kernel
theorem d2_15 : decode prog_13_method_2_code 15 = .ok (.iconst 0, 1) := by decide +kernel
theorem d2_16 : decode prog_13_method_2_code 16 = .ok (.anewarray 21, 3) := by decide +kernel
theorem d2_19 : decode prog_13_method_2_code 19 = .ok (.iconst 0, 1) := by decide +kernel
theorem d2_20 : decode prog_13_method_2_code 20 = .ok (.invokespecial 23, 3) := by decide +kernel
theorem d2_23 : decode prog_13_method_2_code 23 = .ok (.areturn, 1) := by decide +kernel
theorem ef_c_of (m : MethodId) (p1 : Int32) : entryFrame m #[(.int p1)] 1 = mkF m 0 #[.val (.int p1)] [] := by first | (simp [entryFrame, mkF, argsToLocals, Value.category]; done) | rfl
theorem pd_0 : parseMethodDescriptor "([I[Lcom/example/sayso/sayso/CharacterClass;Z)V" = some ⟨[(.array .int), (.array (.object "com/example/sayso/sayso/CharacterClass")), .boolean], none⟩ := by decide +kernel
set_option maxRecDepth 65536 in
set_option maxHeartbeats 40000000 in
theorem c_of (l : Launch) (Z : State) (a0 : Array Value) (hw : ∀ d ∈ tables_1, d.before a0 Z = true) (p1 : Int32) (h0 : Heap) (n0 : Nat) (Z0 : n0 ≤ h0.size)  :
    Ctr l Z (⟨"com/example/sayso/sayso/CharacterSet", "of", "(I)Lcom/example/sayso/sayso/CharacterSet;"⟩ : MethodName) prog_13_method_2_code 1 (some (.object "com/example/sayso/sayso/CharacterSet")) ({ frames := 2, cells := 3, slots := 5, locals := 28 } : Room) #[(.int p1)] h0 (fun v h L => ∃ b r1 r2 : Addr, v = some (.ref b) ∧ Fr n0 L ∧ Keep h0 h [] ∧ Exa Z h b "com/example/sayso/sayso/CharacterSet" ∧ Fld Z h b "com/example/sayso/sayso/CharacterSet" "ranges" "[I" (.ref r1) ∧ Fld Z h b "com/example/sayso/sayso/CharacterSet" "classes" "[Lcom/example/sayso/sayso/CharacterClass;" (.ref r2) ∧ Fld Z h b "com/example/sayso/sayso/CharacterSet" "negated" "Z" (.int (0 : Int32)) ∧ Ars Z h r1 .int [(.int p1), (.int p1)] ∧ Ars Z h r2 (.object "com/example/sayso/sayso/CharacterClass") []) := by
  refine Ctr.of (plainFor_of_name pn_0) (fun m => ef_c_of m p1) ?_
  intro p e s m below meth c T0 hx hby hml hown hnm hret hlk hZ e0 X0
  have N0 := Fr.nil n0
  replace hown : s.vm.findClass "com/example/sayso/sayso/CharacterSet" = some m.cls := hown
  replace hml : c.maxLocals = 1 := hml
  have KP := Keep.refl h0 []
  obtain ⟨T1, h1, X1, e1, E1, A1, D1, -, st1⟩ := newO X0 hx hZ hown (hw _ (List.mem_of_getElem? (i := 4) rfl)) (hw _ (List.mem_of_getElem? (i := 5) rfl)) (hw _ (List.mem_of_getElem? (i := 2) rfl)) e0 (g := (mkF m 0 #[.val (.int p1)] [])) rfl (hb hby d2_0) (by decide) (by decide)
  obtain ⟨b1, gg1⟩ : ∃ z, z = h0.size := ⟨_, rfl⟩
  rw [← gg1] at A1 D1 st1
  have g_b1 : n0 ≤ b1 := Nat.le_trans Z0 (Nat.le_of_eq gg1.symm)
  have sz_b1 : h0.size ≤ b1 := Nat.le_trans KP.1 (Nat.le_of_eq gg1.symm)
  have Z1 : n0 ≤ h1.size := Nat.le_trans Z0 E1.1
  replace KP := KP.ext E1
  have E_b1 := A1
  have F_b1_ranges : Fld Z h1 b1 "com/example/sayso/sayso/CharacterSet" "ranges" "[I" .null := D1 (Or.inr (hw _ (List.mem_of_getElem? (i := 16) rfl))) (ty := (.array .int)) (by decide)
  have F_b1_classes : Fld Z h1 b1 "com/example/sayso/sayso/CharacterSet" "classes" "[Lcom/example/sayso/sayso/CharacterClass;" .null := D1 (Or.inr (hw _ (List.mem_of_getElem? (i := 18) rfl))) (ty := (.array (.object "com/example/sayso/sayso/CharacterClass"))) (by decide)
  have F_b1_negated : Fld Z h1 b1 "com/example/sayso/sayso/CharacterSet" "negated" "Z" (.int (0 : Int32)) := D1 (Or.inr (hw _ (List.mem_of_getElem? (i := 20) rfl))) (ty := .boolean) (by decide)
  refine Run.st st1 ?_
  show Run p e below s _ _ _ (T1.setTop (mkF m 3 #[.val (.int p1)] [(.ref b1)]))
  refine Run.x_dup (q := 4) X1 hx (hb hby d2_3) rfl rfl ?_
  refine Run.x_iconst (q := 5) X1 hx (hb hby d2_4) (z := (2 : Int32)) rfl rfl ?_
  refine Run.newP X1 hx hZ e1 (hw _ (List.mem_of_getElem? (i := 6) rfl)) (hb hby d2_5) (len := 2) (by decide) (by decide) (cap := 2) (by decide) (by decide) (by decide) (by decide) ?_
  intro T2 h2 b2 gg2 X2 e2 E2 A_b2
  have g_b2 : n0 ≤ b2 := Nat.le_trans Z1 (Nat.le_of_eq gg2.symm)
  have ne_b1_b2 : b1 ≠ b2 := Nat.ne_of_lt (Nat.lt_of_lt_of_le E_b1.lt (Nat.le_of_eq gg2.symm))
  have sz_b2 : h0.size ≤ b2 := Nat.le_trans KP.1 (Nat.le_of_eq gg2.symm)
  have Z2 : n0 ≤ h2.size := Nat.le_trans Z1 E2.1
  replace KP := KP.ext E2
  replace A_b2 : Ars Z h2 b2 .int [(.int (0 : Int32)), (.int (0 : Int32))] := A_b2
  show Run p e below s _ _ _ (T2.setTop (mkF m 7 #[.val (.int p1)] [(.ref b2), (.ref b1), (.ref b1)]))
  refine Run.x_dup (q := 8) X2 hx (hb hby d2_7) rfl rfl ?_
  refine Run.x_iconst (q := 9) X2 hx (hb hby d2_8) (z := (0 : Int32)) rfl rfl ?_
  refine Run.x_iloadN (q := 10) X2 hx (hb hby d2_9) rfl rfl ?_
  refine Run.stI X2 hx hZ e2 A_b2 (i := 0) (by decide) (Nat.le_of_ble_eq_true rfl) (hb hby d2_10) ?_
  intro T3 h3 X3 e3 W3 A3
  replace A_b2 : Ars Z h3 b2 .int [(.int p1), (.int (0 : Int32))] := A3
  replace KP := KP.wr W3 (Or.inr sz_b2)
  have N3 := Fr.snoc X3 N0 g_b2
  have Z3 : n0 ≤ h3.size := Nat.le_trans Z2 (Nat.le_of_eq W3.size.symm)
  show Run p e below s _ _ _ (T3.setTop (mkF m 11 #[.val (.int p1)] [(.ref b2), (.ref b1), (.ref b1)]))
  refine Run.x_dup (q := 12) X3 hx (hb hby d2_11) rfl rfl ?_
  refine Run.x_iconst (q := 13) X3 hx (hb hby d2_12) (z := (1 : Int32)) rfl rfl ?_
  refine Run.x_iloadN (q := 14) X3 hx (hb hby d2_13) rfl rfl ?_
  refine Run.stI X3 hx hZ e3 A_b2 (i := 1) (by decide) (Nat.le_of_ble_eq_true rfl) (hb hby d2_14) ?_
  intro T4 h4 X4 e4 W4 A4
  replace A_b2 : Ars Z h4 b2 .int [(.int p1), (.int p1)] := A4
  replace KP := KP.wr W4 (Or.inr sz_b2)
  have N4 := Fr.snoc X4 N3 g_b2
  have Z4 : n0 ≤ h4.size := Nat.le_trans Z3 (Nat.le_of_eq W4.size.symm)
  show Run p e below s _ _ _ (T4.setTop (mkF m 15 #[.val (.int p1)] [(.ref b2), (.ref b1), (.ref b1)]))
  refine Run.x_iconst (q := 16) X4 hx (hb hby d2_15) (z := (0 : Int32)) rfl rfl ?_
  refine Run.newR X4 hx hZ e4 hown (hw _ (List.mem_of_getElem? (i := 7) rfl)) (hw _ (List.mem_of_getElem? (i := 8) rfl)) (hb hby d2_16) (len := 0) (by decide) (by decide) (cap := 0) (by decide) (by decide) (by decide) (by decide) ?_
  intro T5 h5 b5 gg5 X5 e5 E5 A_b5
  have g_b5 : n0 ≤ b5 := Nat.le_trans Z4 (Nat.le_of_eq gg5.symm)
  replace E_b1 := ((E_b1.ext E2).wr W3).wr W4
  have ne_b1_b5 : b1 ≠ b5 := Nat.ne_of_lt (Nat.lt_of_lt_of_le E_b1.lt (Nat.le_of_eq gg5.symm))
  have ne_b2_b5 : b2 ≠ b5 := Nat.ne_of_lt (Nat.lt_of_lt_of_le A_b2.lt (Nat.le_of_eq gg5.symm))
  have sz_b5 : h0.size ≤ b5 := Nat.le_trans KP.1 (Nat.le_of_eq gg5.symm)
  have Z5 : n0 ≤ h5.size := Nat.le_trans Z4 E5.1
  replace KP := KP.ext E5
  replace A_b5 : Ars Z h5 b5 (.object "com/example/sayso/sayso/CharacterClass") [] := A_b5
  show Run p e below s _ _ _ (T5.setTop (mkF m 19 #[.val (.int p1)] [(.ref b5), (.ref b2), (.ref b1), (.ref b1)]))
  refine Run.x_iconst (q := 20) X5 hx (hb hby d2_19) (z := (0 : Int32)) rfl rfl ?_
  replace E_b1 := E_b1.ext E5
  replace F_b1_ranges := (((F_b1_ranges.ext E2).other W3 (Or.inl ne_b1_b2)).other W4 (Or.inl ne_b1_b2)).ext E5
  replace F_b1_classes := (((F_b1_classes.ext E2).other W3 (Or.inl ne_b1_b2)).other W4 (Or.inl ne_b1_b2)).ext E5
  replace F_b1_negated := (((F_b1_negated.ext E2).other W3 (Or.inl ne_b1_b2)).other W4 (Or.inl ne_b1_b2)).ext E5
  refine Run.callC X5 hx hZ e5 (y := (⟨"com/example/sayso/sayso/CharacterSet", "<init>", "([I[Lcom/example/sayso/sayso/CharacterClass;Z)V"⟩ : MethodName)) hown rfl (hw _ (List.mem_of_getElem? (i := 9) rfl)) (hw _ (List.mem_of_getElem? (i := 10) rfl)) (hw _ (List.mem_of_getElem? (i := 2) rfl)) (hw _ (List.mem_of_getElem? (i := 11) rfl)) (by decide) (a := b1) (argsL := [(.ref b2), (.ref b5), (.int (0 : Int32))]) (rest := [(.ref b1)]) (c_init l Z a0 hw b1 b2 b5 h5 n0 Z5 E_b1 F_b1_ranges F_b1_classes F_b1_negated g_b1) pd_0 rfl (by rw [hml]; rfl) (W := 1) rfl (by decide) (by decide) (by decide) (by decide) (hb hby d2_20) rfl ?_
  intro T6 v6 L6 X6 q6
  obtain ⟨rfl, M6, K6, E6, Fr6, Fc6, Fn6⟩ := q6
  have N6 := Fr.app N4 M6
  show Run p e below s _ _ _ (T6.setTop (mkF m 23 #[.val (.int p1)] [(.ref b1)]))
  have Z6 : n0 ≤ T6.heap.size := Nat.le_trans Z5 K6.1
  replace KP := KP.trans K6 (allS (Or.inr sz_b1) all0)
  replace E_b1 := E_b1.keep K6
  replace A_b2 := (A_b2.ext E5).keep K6 (ninS (Ne.symm ne_b1_b2) nin0)
  replace A_b5 := A_b5.keep K6 (ninS (Ne.symm ne_b1_b5) nin0)
  refine Run.retA X6 hx hlk rfl (t := (.object "com/example/sayso/sayso/CharacterSet")) hret rfl rfl rfl (hb hby d2_23) (by decide) (by decide) ?_
  exact ⟨b1, b2, b5, rfl, N6, KP, E_b1, Fr6, Fc6, Fn6, A_b2, A_b5⟩
theorem own_lt_ne {a b : Int32} (h : a < b) : ¬ a = b := fun q => by subst q; exact Int32.lt_irrefl h
theorem own_eq {a b : Int32} (h : ¬ a < b) (h' : ¬ b < a) : b = a := by
  rw [lt32] at h h'
  rw [eq32]
  omega
theorem own_b1n {c : Prop} [Decidable c] {v : Int32} (h : own_b c = v) (hc : c) : ¬ v = 0 := fun q => by
  rw [own_b1 hc, q] at h
  cases h
theorem own_m1 {a b : Int32} : ¬ a - 1 = a := fun q => by
  have h1 := c_isub a 1
  rw [q] at h1
  have : (1 : Int32).toInt = 1 := rfl
  omega
theorem own_p1 {a b : Int32} : ¬ a + 1 = a := fun q => by
  have h1 := c_iadd a 1
  rw [q] at h1
  have : (1 : Int32).toInt = 1 := rfl
  omega
theorem d3_0 : decode prog_13_method_4_code 0 = .ok (.iconst 0, 1) := by decide +kernel
theorem d3_1 : decode prog_13_method_4_code 1 = .ok (.istore_n 2, 1) := by decide +kernel
theorem d3_2 : decode prog_13_method_4_code 2 = .ok (.iconst 0, 1) := by decide +kernel
theorem d3_3 : decode prog_13_method_4_code 3 = .ok (.istore_n 3, 1) := by decide +kernel
theorem d3_4 : decode prog_13_method_4_code 4 = .ok (.iload_n 3, 1) := by decide +kernel
theorem d3_5 : decode prog_13_method_4_code 5 = .ok (.aload_n 0, 1) := by decide +kernel
theorem d3_6 : decode prog_13_method_4_code 6 = .ok (.getfield 7, 3) := by decide +kernel
theorem d3_9 : decode prog_13_method_4_code 9 = .ok (.arraylength, 1) := by decide +kernel
theorem d3_10 : decode prog_13_method_4_code 10 = .ok (.if_icmp .ge 41, 3) := by decide +kernel
theorem d3_13 : decode prog_13_method_4_code 13 = .ok (.iload_n 2, 1) := by decide +kernel
theorem d3_14 : decode prog_13_method_4_code 14 = .ok (.ifCond .ne 37, 3) := by decide +kernel
theorem d3_17 : decode prog_13_method_4_code 17 = .ok (.iload_n 1, 1) := by decide +kernel
theorem d3_18 : decode prog_13_method_4_code 18 = .ok (.aload_n 0, 1) := by decide +kernel
theorem d3_19 : decode prog_13_method_4_code 19 = .ok (.getfield 7, 3) := by decide +kernel
theorem d3_22 : decode prog_13_method_4_code 22 = .ok (.iload_n 3, 1) := by decide +kernel
theorem d3_23 : decode prog_13_method_4_code 23 = .ok (.iaload, 1) := by decide +kernel
theorem d3_24 : decode prog_13_method_4_code 24 = .ok (.if_icmp .lt 19, 3) := by decide +kernel
theorem d3_27 : decode prog_13_method_4_code 27 = .ok (.iload_n 1, 1) := by decide +kernel
theorem d3_28 : decode prog_13_method_4_code 28 = .ok (.aload_n 0, 1) := by decide +kernel
theorem d3_29 : decode prog_13_method_4_code 29 = .ok (.getfield 7, 3) := by decide +kernel
theorem d3_32 : decode prog_13_method_4_code 32 = .ok (.iload_n 3, 1) := by decide +kernel
theorem d3_33 : decode prog_13_method_4_code 33 = .ok (.iconst 1, 1) := by decide +kernel
theorem d3_34 : decode prog_13_method_4_code 34 = .ok (.iadd, 1) := by decide +kernel
theorem d3_35 : decode prog_13_method_4_code 35 = .ok (.iaload, 1) := by decide +kernel
theorem d3_36 : decode prog_13_method_4_code 36 = .ok (.if_icmp .gt 7, 3) := by decide +kernel
theorem d3_39 : decode prog_13_method_4_code 39 = .ok (.iconst 1, 1) := by decide +kernel
theorem d3_40 : decode prog_13_method_4_code 40 = .ok (.goto 4, 3) := by decide +kernel
theorem d3_43 : decode prog_13_method_4_code 43 = .ok (.iconst 0, 1) := by decide +kernel
theorem d3_44 : decode prog_13_method_4_code 44 = .ok (.istore_n 2, 1) := by decide +kernel
theorem d3_45 : decode prog_13_method_4_code 45 = .ok (.iinc 3 2, 3) := by decide +kernel
theorem d3_48 : decode prog_13_method_4_code 48 = .ok (.goto (-44), 3) := by decide +kernel
theorem d3_51 : decode prog_13_method_4_code 51 = .ok (.iconst 0, 1) := by decide +kernel
theorem d3_52 : decode prog_13_method_4_code 52 = .ok (.istore_n 3, 1) := by decide +kernel
theorem d3_53 : decode prog_13_method_4_code 53 = .ok (.iload_n 3, 1) := by decide +kernel
theorem d3_54 : decode prog_13_method_4_code 54 = .ok (.aload_n 0, 1) := by decide +kernel
theorem d3_55 : decode prog_13_method_4_code 55 = .ok (.getfield 13, 3) := by decide +kernel
theorem d3_58 : decode prog_13_method_4_code 58 = .ok (.arraylength, 1) := by decide +kernel
theorem d3_59 : decode prog_13_method_4_code 59 = .ok (.if_icmp .ge 24, 3) := by decide +kernel
theorem d3_62 : decode prog_13_method_4_code 62 = .ok (.iload_n 2, 1) := by decide +kernel
theorem d3_63 : decode prog_13_method_4_code 63 = .ok (.ifCond .ne 20, 3) := by decide +kernel
theorem d3_66 : decode prog_13_method_4_code 66 = .ok (.aload_n 0, 1) := by decide +kernel
theorem d3_67 : decode prog_13_method_4_code 67 = .ok (.getfield 13, 3) := by decide +kernel
theorem d3_70 : decode prog_13_method_4_code 70 = .ok (.iload_n 3, 1) := by decide +kernel
theorem d3_71 : decode prog_13_method_4_code 71 = .ok (.aaload, 1) := by decide +kernel
theorem d3_72 : decode prog_13_method_4_code 72 = .ok (.iload_n 1, 1) := by decide +kernel
theorem d3_73 : decode prog_13_method_4_code 73 = .ok (.invokevirtual 26, 3) := by decide +kernel
theorem d3_76 : decode prog_13_method_4_code 76 = .ok (.istore_n 2, 1) := by decide +kernel
theorem d3_77 : decode prog_13_method_4_code 77 = .ok (.iinc 3 1, 3) := by decide +kernel
theorem d3_80 : decode prog_13_method_4_code 80 = .ok (.goto (-27), 3) := by decide +kernel
theorem d3_83 : decode prog_13_method_4_code 83 = .ok (.iload_n 2, 1) := by decide +kernel
theorem d3_84 : decode prog_13_method_4_code 84 = .ok (.aload_n 0, 1) := by decide +kernel
theorem d3_85 : decode prog_13_method_4_code 85 = .ok (.getfield 17, 3) := by decide +kernel
theorem d3_88 : decode prog_13_method_4_code 88 = .ok (.if_icmp .eq 7, 3) := by decide +kernel
theorem d3_91 : decode prog_13_method_4_code 91 = .ok (.iconst 1, 1) := by decide +kernel
theorem d3_92 : decode prog_13_method_4_code 92 = .ok (.goto 4, 3) := by decide +kernel
theorem d3_95 : decode prog_13_method_4_code 95 = .ok (.iconst 0, 1) := by decide +kernel
theorem d3_96 : decode prog_13_method_4_code 96 = .ok (.ireturn, 1) := by decide +kernel
theorem ef_c_con (m : MethodId) (this : Addr) (p1 : Int32) : entryFrame m #[(.ref this), (.int p1)] 4 = mkF m 0 #[.val (.ref this), .val (.int p1), .unset, .unset] [] := by first | (simp [entryFrame, mkF, argsToLocals, Value.category]; done) | rfl
set_option maxRecDepth 65536 in
set_option maxHeartbeats 40000000 in
theorem c_con (l : Launch) (Z : State) (a0 : Array Value) (hw : ∀ d ∈ tables_1, d.before a0 Z = true) (this : Addr) (p1 : Int32) (h0 : Heap) (n0 : Nat) (Z0 : n0 ≤ h0.size) (r1 : Addr) (r2 : Addr) (k : Int32) (E_this : Exa Z h0 this "com/example/sayso/sayso/CharacterSet") (F_this_ranges : Fld Z h0 this "com/example/sayso/sayso/CharacterSet" "ranges" "[I" (.ref r1)) (F_this_classes : Fld Z h0 this "com/example/sayso/sayso/CharacterSet" "classes" "[Lcom/example/sayso/sayso/CharacterClass;" (.ref r2)) (F_this_negated : Fld Z h0 this "com/example/sayso/sayso/CharacterSet" "negated" "Z" (.int (0 : Int32))) (A_r1 : Ars Z h0 r1 .int [(.int k), (.int k)]) (A_r2 : Ars Z h0 r2 (.object "com/example/sayso/sayso/CharacterClass") []) :
    Ctr l Z (⟨"com/example/sayso/sayso/CharacterSet", "contains", "(I)Z"⟩ : MethodName) prog_13_method_4_code 4 (some .boolean) ({ frames := 0, cells := 0, slots := 0, locals := 0 } : Room) #[(.ref this), (.int p1)] h0 (PureI h0 n0 (own_b (p1 = k))) := by
  refine Ctr.of (plainFor_of_name pn_0) (fun m => ef_c_con m this p1) ?_
  intro p e s m below meth c T0 hx hby hml hown hnm hret hlk hZ e0 X0
  have N0 := Fr.nil n0
  replace hown : s.vm.findClass "com/example/sayso/sayso/CharacterSet" = some m.cls := hown
  replace hml : c.maxLocals = 4 := hml
  refine Run.x_iconst (q := 1) X0 hx (hb hby d3_0) (z := (0 : Int32)) rfl rfl ?_
  refine Run.x_istoreN (q := 2) X0 hx #[.val (.ref this), .val (.int p1), .val (.int (0 : Int32)), .unset] (hb hby d3_1) rfl rfl ?_
  refine Run.x_iconst (q := 3) X0 hx (hb hby d3_2) (z := (0 : Int32)) rfl rfl ?_
  refine Run.x_istoreN (q := 4) X0 hx #[.val (.ref this), .val (.int p1), .val (.int (0 : Int32)), .val (.int (0 : Int32))] (hb hby d3_3) rfl rfl ?_
  refine Run.x_iloadN (q := 5) X0 hx (hb hby d3_4) rfl rfl ?_
  refine Run.x_aloadN (q := 6) X0 hx (hb hby d3_5) rfl rfl rfl ?_
  obtain ⟨T1, X1, e1, st1⟩ := getF X0 hx hZ hown (host := "") (Or.inl (hw _ (List.mem_of_getElem? (i := 15) rfl))) Via.refl e0 F_this_ranges (g := (mkF m 6 #[.val (.ref this), .val (.int p1), .val (.int (0 : Int32)), .val (.int (0 : Int32))] [(.ref this), (.int (0 : Int32))])) rfl rfl (hb hby d3_6)
  refine Run.st st1 ?_
  show Run p e below s _ _ _ (T1.setTop (mkF m 9 #[.val (.ref this), .val (.int p1), .val (.int (0 : Int32)), .val (.int (0 : Int32))] [(.ref r1), (.int (0 : Int32))]))
  refine Run.alen X1 hx hZ e1 A_r1 (z := (2 : Int32)) rfl (hb hby d3_9) ?_
  show Run p e below s _ _ _ (T1.setTop (mkF m 10 #[.val (.ref this), .val (.int p1), .val (.int (0 : Int32)), .val (.int (0 : Int32))] [(.int (2 : Int32)), (.int (0 : Int32))]))
  refine Run.x_icmpNo (q := 13) X1 hx (hb hby d3_10) (tlt (by decide : (0 : Int32) < (2 : Int32))).2.1 rfl ?_
  refine Run.x_iloadN (q := 14) X1 hx (hb hby d3_13) rfl rfl ?_
  refine Run.x_ifNo (q := 17) X1 hx (hb hby d3_14) ((if0 _ _).trans (teq (by decide : (0 : Int32) = (0 : Int32))).2) rfl ?_
  refine Run.x_iloadN (q := 18) X1 hx (hb hby d3_17) rfl rfl ?_
  refine Run.x_aloadN (q := 19) X1 hx (hb hby d3_18) rfl rfl rfl ?_
  obtain ⟨T2, X2, e2, st2⟩ := getF X1 hx hZ hown (host := "") (Or.inl (hw _ (List.mem_of_getElem? (i := 15) rfl))) Via.refl e1 F_this_ranges (g := (mkF m 19 #[.val (.ref this), .val (.int p1), .val (.int (0 : Int32)), .val (.int (0 : Int32))] [(.ref this), (.int p1)])) rfl rfl (hb hby d3_19)
  refine Run.st st2 ?_
  show Run p e below s _ _ _ (T2.setTop (mkF m 22 #[.val (.ref this), .val (.int p1), .val (.int (0 : Int32)), .val (.int (0 : Int32))] [(.ref r1), (.int p1)]))
  refine Run.x_iloadN (q := 23) X2 hx (hb hby d3_22) rfl rfl ?_
  refine Run.ldI X2 hx hZ e2 A_r1 (i := 0) (v := (.int k)) (by decide) rfl (hb hby d3_23) ?_
  show Run p e below s _ _ _ (T2.setTop (mkF m 24 #[.val (.ref this), .val (.int p1), .val (.int (0 : Int32)), .val (.int (0 : Int32))] [(.int k), (.int p1)]))
  by_cases hc24 : p1 < k
  · skip
    refine Run.x_icmpYes (q := 43) X2 hx (hb hby d3_24) (tlt hc24).1 (by decide) (by decide) ?_
    refine Run.x_iconst (q := 44) X2 hx (hb hby d3_43) (z := (0 : Int32)) rfl rfl ?_
    refine Run.x_istoreN (q := 45) X2 hx #[.val (.ref this), .val (.int p1), .val (.int (0 : Int32)), .val (.int (0 : Int32))] (hb hby d3_44) rfl rfl ?_
    refine Run.x_iinc (q := 48) X2 hx #[.val (.ref this), .val (.int p1), .val (.int (0 : Int32)), .val (.int (2 : Int32))] (hb hby d3_45) rfl (z := (2 : Int32)) (by decide) rfl rfl ?_
    refine Run.x_goto (q := 4) X2 hx (hb hby d3_48) (by decide) (by decide) ?_
    refine Run.x_iloadN (q := 5) X2 hx (hb hby d3_4) rfl rfl ?_
    refine Run.x_aloadN (q := 6) X2 hx (hb hby d3_5) rfl rfl rfl ?_
    obtain ⟨T3, X3, e3, st3⟩ := getF X2 hx hZ hown (host := "") (Or.inl (hw _ (List.mem_of_getElem? (i := 15) rfl))) Via.refl e2 F_this_ranges (g := (mkF m 6 #[.val (.ref this), .val (.int p1), .val (.int (0 : Int32)), .val (.int (2 : Int32))] [(.ref this), (.int (2 : Int32))])) rfl rfl (hb hby d3_6)
    refine Run.st st3 ?_
    show Run p e below s _ _ _ (T3.setTop (mkF m 9 #[.val (.ref this), .val (.int p1), .val (.int (0 : Int32)), .val (.int (2 : Int32))] [(.ref r1), (.int (2 : Int32))]))
    refine Run.alen X3 hx hZ e3 A_r1 (z := (2 : Int32)) rfl (hb hby d3_9) ?_
    show Run p e below s _ _ _ (T3.setTop (mkF m 10 #[.val (.ref this), .val (.int p1), .val (.int (0 : Int32)), .val (.int (2 : Int32))] [(.int (2 : Int32)), (.int (2 : Int32))]))
    refine Run.x_icmpYes (q := 51) X3 hx (hb hby d3_10) (flt (by decide : ¬ ((2 : Int32) < (2 : Int32)))).2.1 (by decide) (by decide) ?_
    refine Run.x_iconst (q := 52) X3 hx (hb hby d3_51) (z := (0 : Int32)) rfl rfl ?_
    refine Run.x_istoreN (q := 53) X3 hx #[.val (.ref this), .val (.int p1), .val (.int (0 : Int32)), .val (.int (0 : Int32))] (hb hby d3_52) rfl rfl ?_
    refine Run.x_iloadN (q := 54) X3 hx (hb hby d3_53) rfl rfl ?_
    refine Run.x_aloadN (q := 55) X3 hx (hb hby d3_54) rfl rfl rfl ?_
    obtain ⟨T4, X4, e4, st4⟩ := getF X3 hx hZ hown (host := "") (Or.inl (hw _ (List.mem_of_getElem? (i := 17) rfl))) Via.refl e3 F_this_classes (g := (mkF m 55 #[.val (.ref this), .val (.int p1), .val (.int (0 : Int32)), .val (.int (0 : Int32))] [(.ref this), (.int (0 : Int32))])) rfl rfl (hb hby d3_55)
    refine Run.st st4 ?_
    show Run p e below s _ _ _ (T4.setTop (mkF m 58 #[.val (.ref this), .val (.int p1), .val (.int (0 : Int32)), .val (.int (0 : Int32))] [(.ref r2), (.int (0 : Int32))]))
    refine Run.alen X4 hx hZ e4 A_r2 (z := (0 : Int32)) (by decide) (hb hby d3_58) ?_
    show Run p e below s _ _ _ (T4.setTop (mkF m 59 #[.val (.ref this), .val (.int p1), .val (.int (0 : Int32)), .val (.int (0 : Int32))] [(.int (0 : Int32)), (.int (0 : Int32))]))
    refine Run.x_icmpYes (q := 83) X4 hx (hb hby d3_59) (flt (by decide : ¬ ((0 : Int32) < (0 : Int32)))).2.1 (by decide) (by decide) ?_
    refine Run.x_iloadN (q := 84) X4 hx (hb hby d3_83) rfl rfl ?_
    refine Run.x_aloadN (q := 85) X4 hx (hb hby d3_84) rfl rfl rfl ?_
    obtain ⟨T5, X5, e5, st5⟩ := getF X4 hx hZ hown (host := "") (Or.inl (hw _ (List.mem_of_getElem? (i := 19) rfl))) Via.refl e4 F_this_negated (g := (mkF m 85 #[.val (.ref this), .val (.int p1), .val (.int (0 : Int32)), .val (.int (0 : Int32))] [(.ref this), (.int (0 : Int32))])) rfl rfl (hb hby d3_85)
    refine Run.st st5 ?_
    show Run p e below s _ _ _ (T5.setTop (mkF m 88 #[.val (.ref this), .val (.int p1), .val (.int (0 : Int32)), .val (.int (0 : Int32))] [(.int (0 : Int32)), (.int (0 : Int32))]))
    refine Run.x_icmpYes (q := 95) X5 hx (hb hby d3_88) (teq (by decide : (0 : Int32) = (0 : Int32))).1 (by decide) (by decide) ?_
    refine Run.x_iconst (q := 96) X5 hx (hb hby d3_95) (z := (0 : Int32)) rfl rfl ?_
    refine Run.retN X5 hx hlk e5 (t := .boolean) hret (by simp) (z' := (0 : Int32)) (by decide) (hb hby d3_96) (by decide) (by decide) ?_
    exact PureI.mk (by exact (own_b0 (own_lt_ne hc24)).symm) N0
  · skip
    refine Run.x_icmpNo (q := 27) X2 hx (hb hby d3_24) (flt hc24).1 rfl ?_
    refine Run.x_iloadN (q := 28) X2 hx (hb hby d3_27) rfl rfl ?_
    refine Run.x_aloadN (q := 29) X2 hx (hb hby d3_28) rfl rfl rfl ?_
    obtain ⟨T6, X6, e6, st6⟩ := getF X2 hx hZ hown (host := "") (Or.inl (hw _ (List.mem_of_getElem? (i := 15) rfl))) Via.refl e2 F_this_ranges (g := (mkF m 29 #[.val (.ref this), .val (.int p1), .val (.int (0 : Int32)), .val (.int (0 : Int32))] [(.ref this), (.int p1)])) rfl rfl (hb hby d3_29)
    refine Run.st st6 ?_
    show Run p e below s _ _ _ (T6.setTop (mkF m 32 #[.val (.ref this), .val (.int p1), .val (.int (0 : Int32)), .val (.int (0 : Int32))] [(.ref r1), (.int p1)]))
    refine Run.x_iloadN (q := 33) X6 hx (hb hby d3_32) rfl rfl ?_
    refine Run.x_iconst (q := 34) X6 hx (hb hby d3_33) (z := (1 : Int32)) rfl rfl ?_
    refine Run.x_iadd (q := 35) X6 hx (hb hby d3_34) (z := (1 : Int32)) (by decide) rfl ?_
    refine Run.ldI X6 hx hZ e6 A_r1 (i := 1) (v := (.int k)) (by decide) rfl (hb hby d3_35) ?_
    show Run p e below s _ _ _ (T6.setTop (mkF m 36 #[.val (.ref this), .val (.int p1), .val (.int (0 : Int32)), .val (.int (0 : Int32))] [(.int k), (.int p1)]))
    by_cases hc36 : k < p1
    · skip
      refine Run.x_icmpYes (q := 43) X6 hx (hb hby d3_36) (tlt hc36).2.2.1 (by decide) (by decide) ?_
      refine Run.x_iconst (q := 44) X6 hx (hb hby d3_43) (z := (0 : Int32)) rfl rfl ?_
      refine Run.x_istoreN (q := 45) X6 hx #[.val (.ref this), .val (.int p1), .val (.int (0 : Int32)), .val (.int (0 : Int32))] (hb hby d3_44) rfl rfl ?_
      refine Run.x_iinc (q := 48) X6 hx #[.val (.ref this), .val (.int p1), .val (.int (0 : Int32)), .val (.int (2 : Int32))] (hb hby d3_45) rfl (z := (2 : Int32)) (by decide) rfl rfl ?_
      refine Run.x_goto (q := 4) X6 hx (hb hby d3_48) (by decide) (by decide) ?_
      refine Run.x_iloadN (q := 5) X6 hx (hb hby d3_4) rfl rfl ?_
      refine Run.x_aloadN (q := 6) X6 hx (hb hby d3_5) rfl rfl rfl ?_
      obtain ⟨T7, X7, e7, st7⟩ := getF X6 hx hZ hown (host := "") (Or.inl (hw _ (List.mem_of_getElem? (i := 15) rfl))) Via.refl e6 F_this_ranges (g := (mkF m 6 #[.val (.ref this), .val (.int p1), .val (.int (0 : Int32)), .val (.int (2 : Int32))] [(.ref this), (.int (2 : Int32))])) rfl rfl (hb hby d3_6)
      refine Run.st st7 ?_
      show Run p e below s _ _ _ (T7.setTop (mkF m 9 #[.val (.ref this), .val (.int p1), .val (.int (0 : Int32)), .val (.int (2 : Int32))] [(.ref r1), (.int (2 : Int32))]))
      refine Run.alen X7 hx hZ e7 A_r1 (z := (2 : Int32)) rfl (hb hby d3_9) ?_
      show Run p e below s _ _ _ (T7.setTop (mkF m 10 #[.val (.ref this), .val (.int p1), .val (.int (0 : Int32)), .val (.int (2 : Int32))] [(.int (2 : Int32)), (.int (2 : Int32))]))
      refine Run.x_icmpYes (q := 51) X7 hx (hb hby d3_10) (flt (by decide : ¬ ((2 : Int32) < (2 : Int32)))).2.1 (by decide) (by decide) ?_
      refine Run.x_iconst (q := 52) X7 hx (hb hby d3_51) (z := (0 : Int32)) rfl rfl ?_
      refine Run.x_istoreN (q := 53) X7 hx #[.val (.ref this), .val (.int p1), .val (.int (0 : Int32)), .val (.int (0 : Int32))] (hb hby d3_52) rfl rfl ?_
      refine Run.x_iloadN (q := 54) X7 hx (hb hby d3_53) rfl rfl ?_
      refine Run.x_aloadN (q := 55) X7 hx (hb hby d3_54) rfl rfl rfl ?_
      obtain ⟨T8, X8, e8, st8⟩ := getF X7 hx hZ hown (host := "") (Or.inl (hw _ (List.mem_of_getElem? (i := 17) rfl))) Via.refl e7 F_this_classes (g := (mkF m 55 #[.val (.ref this), .val (.int p1), .val (.int (0 : Int32)), .val (.int (0 : Int32))] [(.ref this), (.int (0 : Int32))])) rfl rfl (hb hby d3_55)
      refine Run.st st8 ?_
      show Run p e below s _ _ _ (T8.setTop (mkF m 58 #[.val (.ref this), .val (.int p1), .val (.int (0 : Int32)), .val (.int (0 : Int32))] [(.ref r2), (.int (0 : Int32))]))
      refine Run.alen X8 hx hZ e8 A_r2 (z := (0 : Int32)) (by decide) (hb hby d3_58) ?_
      show Run p e below s _ _ _ (T8.setTop (mkF m 59 #[.val (.ref this), .val (.int p1), .val (.int (0 : Int32)), .val (.int (0 : Int32))] [(.int (0 : Int32)), (.int (0 : Int32))]))
      refine Run.x_icmpYes (q := 83) X8 hx (hb hby d3_59) (flt (by decide : ¬ ((0 : Int32) < (0 : Int32)))).2.1 (by decide) (by decide) ?_
      refine Run.x_iloadN (q := 84) X8 hx (hb hby d3_83) rfl rfl ?_
      refine Run.x_aloadN (q := 85) X8 hx (hb hby d3_84) rfl rfl rfl ?_
      obtain ⟨T9, X9, e9, st9⟩ := getF X8 hx hZ hown (host := "") (Or.inl (hw _ (List.mem_of_getElem? (i := 19) rfl))) Via.refl e8 F_this_negated (g := (mkF m 85 #[.val (.ref this), .val (.int p1), .val (.int (0 : Int32)), .val (.int (0 : Int32))] [(.ref this), (.int (0 : Int32))])) rfl rfl (hb hby d3_85)
      refine Run.st st9 ?_
      show Run p e below s _ _ _ (T9.setTop (mkF m 88 #[.val (.ref this), .val (.int p1), .val (.int (0 : Int32)), .val (.int (0 : Int32))] [(.int (0 : Int32)), (.int (0 : Int32))]))
      refine Run.x_icmpYes (q := 95) X9 hx (hb hby d3_88) (teq (by decide : (0 : Int32) = (0 : Int32))).1 (by decide) (by decide) ?_
      refine Run.x_iconst (q := 96) X9 hx (hb hby d3_95) (z := (0 : Int32)) rfl rfl ?_
      refine Run.retN X9 hx hlk e9 (t := .boolean) hret (by simp) (z' := (0 : Int32)) (by decide) (hb hby d3_96) (by decide) (by decide) ?_
      exact PureI.mk (by exact (own_b0 (fun q => own_lt_ne hc36 q.symm)).symm) N0
    · skip
      refine Run.x_icmpNo (q := 39) X6 hx (hb hby d3_36) (flt hc36).2.2.1 rfl ?_
      refine Run.x_iconst (q := 40) X6 hx (hb hby d3_39) (z := (1 : Int32)) rfl rfl ?_
      refine Run.x_goto (q := 44) X6 hx (hb hby d3_40) (by decide) (by decide) ?_
      refine Run.x_istoreN (q := 45) X6 hx #[.val (.ref this), .val (.int p1), .val (.int (1 : Int32)), .val (.int (0 : Int32))] (hb hby d3_44) rfl rfl ?_
      refine Run.x_iinc (q := 48) X6 hx #[.val (.ref this), .val (.int p1), .val (.int (1 : Int32)), .val (.int (2 : Int32))] (hb hby d3_45) rfl (z := (2 : Int32)) (by decide) rfl rfl ?_
      refine Run.x_goto (q := 4) X6 hx (hb hby d3_48) (by decide) (by decide) ?_
      refine Run.x_iloadN (q := 5) X6 hx (hb hby d3_4) rfl rfl ?_
      refine Run.x_aloadN (q := 6) X6 hx (hb hby d3_5) rfl rfl rfl ?_
      obtain ⟨T10, X10, e10, st10⟩ := getF X6 hx hZ hown (host := "") (Or.inl (hw _ (List.mem_of_getElem? (i := 15) rfl))) Via.refl e6 F_this_ranges (g := (mkF m 6 #[.val (.ref this), .val (.int p1), .val (.int (1 : Int32)), .val (.int (2 : Int32))] [(.ref this), (.int (2 : Int32))])) rfl rfl (hb hby d3_6)
      refine Run.st st10 ?_
      show Run p e below s _ _ _ (T10.setTop (mkF m 9 #[.val (.ref this), .val (.int p1), .val (.int (1 : Int32)), .val (.int (2 : Int32))] [(.ref r1), (.int (2 : Int32))]))
      refine Run.alen X10 hx hZ e10 A_r1 (z := (2 : Int32)) rfl (hb hby d3_9) ?_
      show Run p e below s _ _ _ (T10.setTop (mkF m 10 #[.val (.ref this), .val (.int p1), .val (.int (1 : Int32)), .val (.int (2 : Int32))] [(.int (2 : Int32)), (.int (2 : Int32))]))
      refine Run.x_icmpYes (q := 51) X10 hx (hb hby d3_10) (flt (by decide : ¬ ((2 : Int32) < (2 : Int32)))).2.1 (by decide) (by decide) ?_
      refine Run.x_iconst (q := 52) X10 hx (hb hby d3_51) (z := (0 : Int32)) rfl rfl ?_
      refine Run.x_istoreN (q := 53) X10 hx #[.val (.ref this), .val (.int p1), .val (.int (1 : Int32)), .val (.int (0 : Int32))] (hb hby d3_52) rfl rfl ?_
      refine Run.x_iloadN (q := 54) X10 hx (hb hby d3_53) rfl rfl ?_
      refine Run.x_aloadN (q := 55) X10 hx (hb hby d3_54) rfl rfl rfl ?_
      obtain ⟨T11, X11, e11, st11⟩ := getF X10 hx hZ hown (host := "") (Or.inl (hw _ (List.mem_of_getElem? (i := 17) rfl))) Via.refl e10 F_this_classes (g := (mkF m 55 #[.val (.ref this), .val (.int p1), .val (.int (1 : Int32)), .val (.int (0 : Int32))] [(.ref this), (.int (0 : Int32))])) rfl rfl (hb hby d3_55)
      refine Run.st st11 ?_
      show Run p e below s _ _ _ (T11.setTop (mkF m 58 #[.val (.ref this), .val (.int p1), .val (.int (1 : Int32)), .val (.int (0 : Int32))] [(.ref r2), (.int (0 : Int32))]))
      refine Run.alen X11 hx hZ e11 A_r2 (z := (0 : Int32)) (by decide) (hb hby d3_58) ?_
      show Run p e below s _ _ _ (T11.setTop (mkF m 59 #[.val (.ref this), .val (.int p1), .val (.int (1 : Int32)), .val (.int (0 : Int32))] [(.int (0 : Int32)), (.int (0 : Int32))]))
      refine Run.x_icmpYes (q := 83) X11 hx (hb hby d3_59) (flt (by decide : ¬ ((0 : Int32) < (0 : Int32)))).2.1 (by decide) (by decide) ?_
      refine Run.x_iloadN (q := 84) X11 hx (hb hby d3_83) rfl rfl ?_
      refine Run.x_aloadN (q := 85) X11 hx (hb hby d3_84) rfl rfl rfl ?_
      obtain ⟨T12, X12, e12, st12⟩ := getF X11 hx hZ hown (host := "") (Or.inl (hw _ (List.mem_of_getElem? (i := 19) rfl))) Via.refl e11 F_this_negated (g := (mkF m 85 #[.val (.ref this), .val (.int p1), .val (.int (1 : Int32)), .val (.int (0 : Int32))] [(.ref this), (.int (1 : Int32))])) rfl rfl (hb hby d3_85)
      refine Run.st st12 ?_
      show Run p e below s _ _ _ (T12.setTop (mkF m 88 #[.val (.ref this), .val (.int p1), .val (.int (1 : Int32)), .val (.int (0 : Int32))] [(.int (0 : Int32)), (.int (1 : Int32))]))
      refine Run.x_icmpNo (q := 91) X12 hx (hb hby d3_88) (feq (by decide : ¬ ((1 : Int32) = (0 : Int32)))).1 rfl ?_
      refine Run.x_iconst (q := 92) X12 hx (hb hby d3_91) (z := (1 : Int32)) rfl rfl ?_
      refine Run.x_goto (q := 96) X12 hx (hb hby d3_92) (by decide) (by decide) ?_
      refine Run.retN X12 hx hlk e12 (t := .boolean) hret (by simp) (z' := (1 : Int32)) (by decide) (hb hby d3_96) (by decide) (by decide) ?_
      exact PureI.mk (by exact (own_b1 (own_eq hc36 hc24)).symm) N0
theorem pn_1 : plainName "com/example/sayso/sayso/CharacterSetOfPinLaw" = true := by first | (simp [plainName, overriddenIn]; done) | decide +kernel
theorem ef_c_law (m : MethodId) (p1 : Int32) (p2 : Int32) : entryFrame m #[(.int p1), (.int p2)] maxLocals = mkF m 0 #[.val (.int p1), .val (.int p2), .unset, .unset, .unset, .unset, .unset] [] := by first | (simp [entryFrame, mkF, argsToLocals, Value.category, maxLocals]; done) | rfl
theorem pd_1 : parseMethodDescriptor "(I)Lcom/example/sayso/sayso/CharacterSet;" = some ⟨[.int], some (.object "com/example/sayso/sayso/CharacterSet")⟩ := by decide +kernel
theorem pd_2 : parseMethodDescriptor "(I)Z" = some ⟨[.int], some .boolean⟩ := by decide +kernel
set_option maxRecDepth 65536 in
set_option maxHeartbeats 40000000 in
theorem c_law (l : Launch) (Z : State) (a0 : Array Value) (hw : ∀ d ∈ tables_1, d.before a0 Z = true) (p1 : Int32) (p2 : Int32) (h0 : Heap) (n0 : Nat) (Z0 : n0 ≤ h0.size)  :
    Ctr l Z x code maxLocals ret room_1 #[(.int p1), (.int p2)] h0 (Tru n0) := by
  refine Ctr.of (plainFor_of_name pn_1) (fun m => ef_c_law m p1 p2) ?_
  intro p e s m below meth c T0 hx hby hml hown hnm hret hlk hZ e0 X0
  have N0 := Fr.nil n0
  replace hown : s.vm.findClass "com/example/sayso/sayso/CharacterSetOfPinLaw" = some m.cls := hown
  replace hml : c.maxLocals = 7 := hml
  refine Run.x_iloadN (q := 1) X0 hx (hb hby at_0) rfl rfl ?_
  refine Run.callS X0 hx hZ e0 (y := (⟨"com/example/sayso/sayso/CharacterSet", "of", "(I)Lcom/example/sayso/sayso/CharacterSet;"⟩ : MethodName)) hown (hw _ (List.mem_of_getElem? (i := 0) rfl)) (hw _ (List.mem_of_getElem? (i := 1) rfl)) (hw _ (List.mem_of_getElem? (i := 2) rfl)) (hw _ (List.mem_of_getElem? (i := 3) rfl)) (by decide) (argsL := [(.int p1)]) (rest := []) (c_of l Z a0 hw p1 h0 n0 Z0 ) pd_1 rfl (by rw [hml]; rfl) (W := 0) rfl (by decide) (by decide) (by decide) (by decide) (hb hby at_1) rfl ?_
  intro T1 v1 L1 X1 q1
  obtain ⟨cs1, ra1, rb1, rfl, M1, K1, E1, Fr1, Fc1, Fn1, Aa1, Ab1⟩ := q1
  have N1 := Fr.app N0 M1
  show Run p e below s _ _ _ (T1.setTop (mkF m 4 #[.val (.int p1), .val (.int p2), .unset, .unset, .unset, .unset, .unset] [(.ref cs1)]))
  have Z1 : n0 ≤ T1.heap.size := Nat.le_trans Z0 K1.1
  refine Run.x_astoreN (q := 5) X1 hx #[.val (.int p1), .val (.int p2), .val (.ref cs1), .unset, .unset, .unset, .unset] (hb hby at_4) rfl rfl rfl ?_
  refine Run.x_aloadN (q := 6) X1 hx (hb hby at_5) rfl rfl rfl ?_
  refine Run.x_iloadN (q := 7) X1 hx (hb hby at_6) rfl rfl ?_
  refine Run.callV X1 hx hZ rfl (y := (⟨"com/example/sayso/sayso/CharacterSet", "contains", "(I)Z"⟩ : MethodName)) (z := (⟨"com/example/sayso/sayso/CharacterSet", "contains", "(I)Z"⟩ : MethodName)) hown (hw _ (List.mem_of_getElem? (i := 21) rfl)) (hw _ (List.mem_of_getElem? (i := 22) rfl)) (notFace_of_selects (args := #[]) (mvT hZ (hw _ (List.mem_of_getElem? (i := 24) rfl)))) (hw _ (List.mem_of_getElem? (i := 24) rfl)) (hw _ (List.mem_of_getElem? (i := 23) rfl)) (hw _ (List.mem_of_getElem? (i := 2) rfl)) (hw _ (List.mem_of_getElem? (i := 25) rfl)) (by decide) (a := cs1) E1 (argsL := [(.int p1)]) (rest := []) (c_con l Z a0 hw cs1 p1 T1.heap n0 Z1 ra1 rb1 p1 E1 Fr1 Fc1 Fn1 Aa1 Ab1) pd_2 rfl (by rw [hml]; rfl) (W := 0) rfl (by decide) (by decide) (by decide) (by decide) (hb hby at_7) rfl ?_
  intro T2 v2 L2 X2 q2
  obtain ⟨rfl, M2, e2⟩ := q2
  have N2 := Fr.app N1 M2
  show Run p e below s _ _ _ (T2.setTop (mkF m 10 #[.val (.int p1), .val (.int p2), .val (.ref cs1), .unset, .unset, .unset, .unset] [(.int (own_b (p1 = p1)))]))
  refine Run.x_istoreN (q := 11) X2 hx #[.val (.int p1), .val (.int p2), .val (.ref cs1), .val (.int (own_b (p1 = p1))), .unset, .unset, .unset] (hb hby at_10) rfl rfl ?_
  generalize hv3 : (own_b (p1 = p1)) = v3
  refine Run.x_aloadN (q := 12) X2 hx (hb hby at_11) rfl rfl rfl ?_
  refine Run.x_iloadN (q := 13) X2 hx (hb hby at_12) rfl rfl ?_
  refine Run.callV X2 hx hZ e2 (y := (⟨"com/example/sayso/sayso/CharacterSet", "contains", "(I)Z"⟩ : MethodName)) (z := (⟨"com/example/sayso/sayso/CharacterSet", "contains", "(I)Z"⟩ : MethodName)) hown (hw _ (List.mem_of_getElem? (i := 21) rfl)) (hw _ (List.mem_of_getElem? (i := 22) rfl)) (notFace_of_selects (args := #[]) (mvT hZ (hw _ (List.mem_of_getElem? (i := 24) rfl)))) (hw _ (List.mem_of_getElem? (i := 24) rfl)) (hw _ (List.mem_of_getElem? (i := 23) rfl)) (hw _ (List.mem_of_getElem? (i := 2) rfl)) (hw _ (List.mem_of_getElem? (i := 25) rfl)) (by decide) (a := cs1) E1 (argsL := [(.int p2)]) (rest := []) (c_con l Z a0 hw cs1 p2 T1.heap n0 Z1 ra1 rb1 p1 E1 Fr1 Fc1 Fn1 Aa1 Ab1) pd_2 rfl (by rw [hml]; rfl) (W := 0) rfl (by decide) (by decide) (by decide) (by decide) (hb hby at_13) rfl ?_
  intro T4 v4 L4 X4 q4
  obtain ⟨rfl, M4, e4⟩ := q4
  have N4 := Fr.app N2 M4
  show Run p e below s _ _ _ (T4.setTop (mkF m 16 #[.val (.int p1), .val (.int p2), .val (.ref cs1), .val (.int v3), .unset, .unset, .unset] [(.int (own_b (p2 = p1)))]))
  refine Run.x_iloadN (q := 17) X4 hx (hb hby at_16) rfl rfl ?_
  refine Run.x_iloadN (q := 18) X4 hx (hb hby at_17) rfl rfl ?_
  by_cases hc18 : p2 = p1
  · skip
    refine Run.x_icmpNo (q := 21) X4 hx (hb hby at_18) (teq hc18).2 rfl ?_
    refine Run.x_iconst (q := 22) X4 hx (hb hby at_21) (z := (1 : Int32)) rfl rfl ?_
    refine Run.x_goto (q := 26) X4 hx (hb hby at_22) (by decide) (by decide) ?_
    refine Run.x_icmpNo (q := 29) X4 hx (hb hby at_26) (teq (own_b1 hc18)).2 rfl ?_
    refine Run.x_iconst (q := 30) X4 hx (hb hby at_29) (z := (1 : Int32)) rfl rfl ?_
    refine Run.x_goto (q := 34) X4 hx (hb hby at_30) (by decide) (by decide) ?_
    refine Run.x_istore (q := 36) X4 hx #[.val (.int p1), .val (.int p2), .val (.ref cs1), .val (.int v3), .val (.int (1 : Int32)), .unset, .unset] (hb hby at_34) rfl rfl ?_
    refine Run.x_aloadN (q := 37) X4 hx (hb hby at_36) rfl rfl rfl ?_
    refine Run.x_iloadN (q := 38) X4 hx (hb hby at_37) rfl rfl ?_
    refine Run.x_iconst (q := 39) X4 hx (hb hby at_38) (z := (1 : Int32)) rfl rfl ?_
    refine Run.x_isub (q := 40) X4 hx (hb hby at_39) rfl rfl ?_
    refine Run.callV X4 hx hZ e4 (y := (⟨"com/example/sayso/sayso/CharacterSet", "contains", "(I)Z"⟩ : MethodName)) (z := (⟨"com/example/sayso/sayso/CharacterSet", "contains", "(I)Z"⟩ : MethodName)) hown (hw _ (List.mem_of_getElem? (i := 21) rfl)) (hw _ (List.mem_of_getElem? (i := 22) rfl)) (notFace_of_selects (args := #[]) (mvT hZ (hw _ (List.mem_of_getElem? (i := 24) rfl)))) (hw _ (List.mem_of_getElem? (i := 24) rfl)) (hw _ (List.mem_of_getElem? (i := 23) rfl)) (hw _ (List.mem_of_getElem? (i := 2) rfl)) (hw _ (List.mem_of_getElem? (i := 25) rfl)) (by decide) (a := cs1) E1 (argsL := [(.int (p1 - (1 : Int32)))]) (rest := []) (c_con l Z a0 hw cs1 (p1 - (1 : Int32)) T1.heap n0 Z1 ra1 rb1 p1 E1 Fr1 Fc1 Fn1 Aa1 Ab1) pd_2 rfl (by rw [hml]; rfl) (W := 0) rfl (by decide) (by decide) (by decide) (by decide) (hb hby at_40) rfl ?_
    intro T5 v5 L5 X5 q5
    obtain ⟨rfl, M5, e5⟩ := q5
    have N5 := Fr.app N4 M5
    show Run p e below s _ _ _ (T5.setTop (mkF m 43 #[.val (.int p1), .val (.int p2), .val (.ref cs1), .val (.int v3), .val (.int (1 : Int32)), .unset, .unset] [(.int (own_b ((p1 - (1 : Int32)) = p1)))]))
    refine Run.x_ifNo (q := 46) X5 hx (hb hby at_43) ((if0 _ _).trans (teq (own_b0 (own_m1 (b := p1)))).2) rfl ?_
    refine Run.x_iconst (q := 47) X5 hx (hb hby at_46) (z := (1 : Int32)) rfl rfl ?_
    refine Run.x_goto (q := 51) X5 hx (hb hby at_47) (by decide) (by decide) ?_
    refine Run.x_istore (q := 53) X5 hx #[.val (.int p1), .val (.int p2), .val (.ref cs1), .val (.int v3), .val (.int (1 : Int32)), .val (.int (1 : Int32)), .unset] (hb hby at_51) rfl rfl ?_
    refine Run.x_aloadN (q := 54) X5 hx (hb hby at_53) rfl rfl rfl ?_
    refine Run.x_iloadN (q := 55) X5 hx (hb hby at_54) rfl rfl ?_
    refine Run.x_iconst (q := 56) X5 hx (hb hby at_55) (z := (1 : Int32)) rfl rfl ?_
    refine Run.x_iadd (q := 57) X5 hx (hb hby at_56) rfl rfl ?_
    refine Run.callV X5 hx hZ e5 (y := (⟨"com/example/sayso/sayso/CharacterSet", "contains", "(I)Z"⟩ : MethodName)) (z := (⟨"com/example/sayso/sayso/CharacterSet", "contains", "(I)Z"⟩ : MethodName)) hown (hw _ (List.mem_of_getElem? (i := 21) rfl)) (hw _ (List.mem_of_getElem? (i := 22) rfl)) (notFace_of_selects (args := #[]) (mvT hZ (hw _ (List.mem_of_getElem? (i := 24) rfl)))) (hw _ (List.mem_of_getElem? (i := 24) rfl)) (hw _ (List.mem_of_getElem? (i := 23) rfl)) (hw _ (List.mem_of_getElem? (i := 2) rfl)) (hw _ (List.mem_of_getElem? (i := 25) rfl)) (by decide) (a := cs1) E1 (argsL := [(.int (p1 + (1 : Int32)))]) (rest := []) (c_con l Z a0 hw cs1 (p1 + (1 : Int32)) T1.heap n0 Z1 ra1 rb1 p1 E1 Fr1 Fc1 Fn1 Aa1 Ab1) pd_2 rfl (by rw [hml]; rfl) (W := 0) rfl (by decide) (by decide) (by decide) (by decide) (hb hby at_57) rfl ?_
    intro T6 v6 L6 X6 q6
    obtain ⟨rfl, M6, e6⟩ := q6
    have N6 := Fr.app N5 M6
    show Run p e below s _ _ _ (T6.setTop (mkF m 60 #[.val (.int p1), .val (.int p2), .val (.ref cs1), .val (.int v3), .val (.int (1 : Int32)), .val (.int (1 : Int32)), .unset] [(.int (own_b ((p1 + (1 : Int32)) = p1)))]))
    refine Run.x_ifNo (q := 63) X6 hx (hb hby at_60) ((if0 _ _).trans (teq (own_b0 (own_p1 (b := p1)))).2) rfl ?_
    refine Run.x_iconst (q := 64) X6 hx (hb hby at_63) (z := (1 : Int32)) rfl rfl ?_
    refine Run.x_goto (q := 68) X6 hx (hb hby at_64) (by decide) (by decide) ?_
    refine Run.x_istore (q := 70) X6 hx #[.val (.int p1), .val (.int p2), .val (.ref cs1), .val (.int v3), .val (.int (1 : Int32)), .val (.int (1 : Int32)), .val (.int (1 : Int32))] (hb hby at_68) rfl rfl ?_
    refine Run.x_iloadN (q := 71) X6 hx (hb hby at_70) rfl rfl ?_
    refine Run.x_ifNo (q := 74) X6 hx (hb hby at_71) ((if0 _ _).trans (feq (own_b1n hv3 rfl)).1) rfl ?_
    refine Run.x_iload (q := 76) X6 hx (hb hby at_74) rfl rfl ?_
    refine Run.x_ifNo (q := 79) X6 hx (hb hby at_76) ((if0 _ _).trans (feq (by decide : ¬ ((1 : Int32) = (0 : Int32)))).1) rfl ?_
    refine Run.x_iload (q := 81) X6 hx (hb hby at_79) rfl rfl ?_
    refine Run.x_ifNo (q := 84) X6 hx (hb hby at_81) ((if0 _ _).trans (feq (by decide : ¬ ((1 : Int32) = (0 : Int32)))).1) rfl ?_
    refine Run.x_iload (q := 86) X6 hx (hb hby at_84) rfl rfl ?_
    refine Run.x_ifNo (q := 89) X6 hx (hb hby at_86) ((if0 _ _).trans (feq (by decide : ¬ ((1 : Int32) = (0 : Int32)))).1) rfl ?_
    refine Run.x_iconst (q := 90) X6 hx (hb hby at_89) (z := (1 : Int32)) rfl rfl ?_
    refine Run.x_goto (q := 94) X6 hx (hb hby at_90) (by decide) (by decide) ?_
    refine Run.retN X6 hx hlk e6 (t := .boolean) hret (by simp) (z' := (1 : Int32)) (by decide) (hb hby at_94) (by decide) (by decide) ?_
    exact ⟨rfl, N6⟩
  · skip
    refine Run.x_icmpYes (q := 25) X4 hx (hb hby at_18) (feq hc18).2 (by decide) (by decide) ?_
    refine Run.x_iconst (q := 26) X4 hx (hb hby at_25) (z := (0 : Int32)) rfl rfl ?_
    refine Run.x_icmpNo (q := 29) X4 hx (hb hby at_26) (teq (own_b0 hc18)).2 rfl ?_
    refine Run.x_iconst (q := 30) X4 hx (hb hby at_29) (z := (1 : Int32)) rfl rfl ?_
    refine Run.x_goto (q := 34) X4 hx (hb hby at_30) (by decide) (by decide) ?_
    refine Run.x_istore (q := 36) X4 hx #[.val (.int p1), .val (.int p2), .val (.ref cs1), .val (.int v3), .val (.int (1 : Int32)), .unset, .unset] (hb hby at_34) rfl rfl ?_
    refine Run.x_aloadN (q := 37) X4 hx (hb hby at_36) rfl rfl rfl ?_
    refine Run.x_iloadN (q := 38) X4 hx (hb hby at_37) rfl rfl ?_
    refine Run.x_iconst (q := 39) X4 hx (hb hby at_38) (z := (1 : Int32)) rfl rfl ?_
    refine Run.x_isub (q := 40) X4 hx (hb hby at_39) rfl rfl ?_
    refine Run.callV X4 hx hZ e4 (y := (⟨"com/example/sayso/sayso/CharacterSet", "contains", "(I)Z"⟩ : MethodName)) (z := (⟨"com/example/sayso/sayso/CharacterSet", "contains", "(I)Z"⟩ : MethodName)) hown (hw _ (List.mem_of_getElem? (i := 21) rfl)) (hw _ (List.mem_of_getElem? (i := 22) rfl)) (notFace_of_selects (args := #[]) (mvT hZ (hw _ (List.mem_of_getElem? (i := 24) rfl)))) (hw _ (List.mem_of_getElem? (i := 24) rfl)) (hw _ (List.mem_of_getElem? (i := 23) rfl)) (hw _ (List.mem_of_getElem? (i := 2) rfl)) (hw _ (List.mem_of_getElem? (i := 25) rfl)) (by decide) (a := cs1) E1 (argsL := [(.int (p1 - (1 : Int32)))]) (rest := []) (c_con l Z a0 hw cs1 (p1 - (1 : Int32)) T1.heap n0 Z1 ra1 rb1 p1 E1 Fr1 Fc1 Fn1 Aa1 Ab1) pd_2 rfl (by rw [hml]; rfl) (W := 0) rfl (by decide) (by decide) (by decide) (by decide) (hb hby at_40) rfl ?_
    intro T7 v7 L7 X7 q7
    obtain ⟨rfl, M7, e7⟩ := q7
    have N7 := Fr.app N4 M7
    show Run p e below s _ _ _ (T7.setTop (mkF m 43 #[.val (.int p1), .val (.int p2), .val (.ref cs1), .val (.int v3), .val (.int (1 : Int32)), .unset, .unset] [(.int (own_b ((p1 - (1 : Int32)) = p1)))]))
    refine Run.x_ifNo (q := 46) X7 hx (hb hby at_43) ((if0 _ _).trans (teq (own_b0 (own_m1 (b := p1)))).2) rfl ?_
    refine Run.x_iconst (q := 47) X7 hx (hb hby at_46) (z := (1 : Int32)) rfl rfl ?_
    refine Run.x_goto (q := 51) X7 hx (hb hby at_47) (by decide) (by decide) ?_
    refine Run.x_istore (q := 53) X7 hx #[.val (.int p1), .val (.int p2), .val (.ref cs1), .val (.int v3), .val (.int (1 : Int32)), .val (.int (1 : Int32)), .unset] (hb hby at_51) rfl rfl ?_
    refine Run.x_aloadN (q := 54) X7 hx (hb hby at_53) rfl rfl rfl ?_
    refine Run.x_iloadN (q := 55) X7 hx (hb hby at_54) rfl rfl ?_
    refine Run.x_iconst (q := 56) X7 hx (hb hby at_55) (z := (1 : Int32)) rfl rfl ?_
    refine Run.x_iadd (q := 57) X7 hx (hb hby at_56) rfl rfl ?_
    refine Run.callV X7 hx hZ e7 (y := (⟨"com/example/sayso/sayso/CharacterSet", "contains", "(I)Z"⟩ : MethodName)) (z := (⟨"com/example/sayso/sayso/CharacterSet", "contains", "(I)Z"⟩ : MethodName)) hown (hw _ (List.mem_of_getElem? (i := 21) rfl)) (hw _ (List.mem_of_getElem? (i := 22) rfl)) (notFace_of_selects (args := #[]) (mvT hZ (hw _ (List.mem_of_getElem? (i := 24) rfl)))) (hw _ (List.mem_of_getElem? (i := 24) rfl)) (hw _ (List.mem_of_getElem? (i := 23) rfl)) (hw _ (List.mem_of_getElem? (i := 2) rfl)) (hw _ (List.mem_of_getElem? (i := 25) rfl)) (by decide) (a := cs1) E1 (argsL := [(.int (p1 + (1 : Int32)))]) (rest := []) (c_con l Z a0 hw cs1 (p1 + (1 : Int32)) T1.heap n0 Z1 ra1 rb1 p1 E1 Fr1 Fc1 Fn1 Aa1 Ab1) pd_2 rfl (by rw [hml]; rfl) (W := 0) rfl (by decide) (by decide) (by decide) (by decide) (hb hby at_57) rfl ?_
    intro T8 v8 L8 X8 q8
    obtain ⟨rfl, M8, e8⟩ := q8
    have N8 := Fr.app N7 M8
    show Run p e below s _ _ _ (T8.setTop (mkF m 60 #[.val (.int p1), .val (.int p2), .val (.ref cs1), .val (.int v3), .val (.int (1 : Int32)), .val (.int (1 : Int32)), .unset] [(.int (own_b ((p1 + (1 : Int32)) = p1)))]))
    refine Run.x_ifNo (q := 63) X8 hx (hb hby at_60) ((if0 _ _).trans (teq (own_b0 (own_p1 (b := p1)))).2) rfl ?_
    refine Run.x_iconst (q := 64) X8 hx (hb hby at_63) (z := (1 : Int32)) rfl rfl ?_
    refine Run.x_goto (q := 68) X8 hx (hb hby at_64) (by decide) (by decide) ?_
    refine Run.x_istore (q := 70) X8 hx #[.val (.int p1), .val (.int p2), .val (.ref cs1), .val (.int v3), .val (.int (1 : Int32)), .val (.int (1 : Int32)), .val (.int (1 : Int32))] (hb hby at_68) rfl rfl ?_
    refine Run.x_iloadN (q := 71) X8 hx (hb hby at_70) rfl rfl ?_
    refine Run.x_ifNo (q := 74) X8 hx (hb hby at_71) ((if0 _ _).trans (feq (own_b1n hv3 rfl)).1) rfl ?_
    refine Run.x_iload (q := 76) X8 hx (hb hby at_74) rfl rfl ?_
    refine Run.x_ifNo (q := 79) X8 hx (hb hby at_76) ((if0 _ _).trans (feq (by decide : ¬ ((1 : Int32) = (0 : Int32)))).1) rfl ?_
    refine Run.x_iload (q := 81) X8 hx (hb hby at_79) rfl rfl ?_
    refine Run.x_ifNo (q := 84) X8 hx (hb hby at_81) ((if0 _ _).trans (feq (by decide : ¬ ((1 : Int32) = (0 : Int32)))).1) rfl ?_
    refine Run.x_iload (q := 86) X8 hx (hb hby at_84) rfl rfl ?_
    refine Run.x_ifNo (q := 89) X8 hx (hb hby at_86) ((if0 _ _).trans (feq (by decide : ¬ ((1 : Int32) = (0 : Int32)))).1) rfl ?_
    refine Run.x_iconst (q := 90) X8 hx (hb hby at_89) (z := (1 : Int32)) rfl rfl ?_
    refine Run.x_goto (q := 94) X8 hx (hb hby at_90) (by decide) (by decide) ?_
    refine Run.retN X8 hx hlk e8 (t := .boolean) hret (by simp) (z' := (1 : Int32)) (by decide) (hb hby at_94) (by decide) (by decide) ?_
    exact ⟨rfl, N8⟩
set_option maxRecDepth 65536 in
set_option maxHeartbeats 40000000 in
theorem comes_1 {Post : Tables → Env → Array Value → State → Outcome → State → Prop} (hpost : ∀ tb e args s v u, (limb_1_1.after args s (.returned v) u = true ∧ limb_1_2.after args s (.returned v) u = true ∧ True) → FrameEnd s (.returned v) u (Jvm.fieldLocs frame_1_writes args s ++ Jvm.arrayLocs frame_1_arrays args s ++ Jvm.staticLocs frame_1_statics s) 16 128 → Post tb e args s (.returned v) u) :
    ArmFor flags0 classFile x code maxLocals ret World_1 tables_1 room_1 Calls_1 rest_1 Pre_1 Post := by
  intro l hfl _ _ p e ha hc hk s m args below hf hA hF happ hP
  obtain ⟨hcalls, hrest, hpre⟩ := hP
  obtain ⟨-, -, -, hnamed, -, -, -, hat⟩ := (Spec.applies_iff hf).mp happ
  obtain ⟨hg, hn⟩ := and_e (Cond.before_iff.mp (show (Jvm.Cond.and given_1 narrow_1).before args s = true from hpre))
  obtain ⟨g1, g2⟩ := and_e hg
  obtain ⟨g3, g4⟩ := and_e g2
  obtain ⟨w0, w1, rfl⟩ : ∃ w0 w1 : Value, args = #[w0, w1] := by
    have hs : args.size = 2 := by simpa [Cond.value, given_1] using g1
    obtain ⟨L⟩ := args
    match L, hs with
    | [w0, w1], _ => exact ⟨w0, w1, rfl⟩
  have hw := fun d (hd : d ∈ tables_1) => atoms_spec (ws := Jvm.Cond.code x code maxLocals ret :: tables_1) hat d (List.mem_cons_of_mem _ hd)
  have hfit : Fit s := fun {y c} hc i hi => by
    obtain ⟨ha, rfl⟩ := Array.getElem?_eq_some_iff.mp hc
    have q := List.all_eq_true.mp ((Array.all_eq_true_iff_forall_mem.mp hF) _ (Array.getElem_mem ha)) i (List.mem_range.mpr hi)
    simpa [Array.getElem?_eq_getElem hi] using q
  obtain ⟨i0, ei0⟩ := is_v g3
  obtain rfl : w0 = (.int i0) := Option.some.inj ei0
  obtain ⟨i1, ei1⟩ := is_v g4
  obtain rfl : w1 = (.int i1) := Option.some.inj ei1
  obtain ⟨n, o, h1, h2, h3, _, L, rfl, ⟨rfl, N⟩, hq⟩ := c_law l s _ hw i0 i1 s.heap s.heap.size (Nat.le_refl _)  tables_1 p e ha hc hk s m _ below hf ((Spec.applies_iff_loose hf).mp happ).1 ⟨rfl, State.Warmed39.refl s, rfl⟩ trivial
  refine ⟨n, _, h1, h2, h3, hpost _ _ _ _ _ _ ⟨Cond.after_iff.mpr rfl, Cond.after_iff.mpr (eq_i res_at (Term.int_eval (1)) rfl), trivial⟩ ⟨hq.1, hq.2.1, (hq.2.2.sift fun y hy => Or.inr (N y hy)).mono (by decide) (by decide)⟩⟩
theorem main_1_1 : Claimed_1_1 := comes_1 fun _ _ _ _ _ _ h hF => ⟨h.1, hF⟩
theorem main_1_2 : Claimed_1_2 := comes_1 fun _ _ _ _ _ _ h hF => ⟨h.2.1, hF⟩
end Jvm.Pilot.@@N@@
namespace Jvm.Pilot.@@N@@
open Jvm Jvm.ClassFile Sem Op Lib Jvm.Free Jvm.Stand Jvm.Pilot.@@N@@.Jvm.D
/-! MADE BY PROGRAM (witnessworld.py) out of the Statement's table words and the real class files: 14 classes; the members and pool entries that the words name. The judged class is class 1, her method 1. -/
namespace start1
open Jvm.ClassFile
def u (s : String) : CpInfo := .utf8 (stringToUtf16 s)
/-- a pool by its gaps: so many unusable entries, then the entry; so many at the end -/
def gap : Nat → List CpInfo → List CpInfo
  | 0, r => r
  | n + 1, r => .unusable :: gap n r
def poolList (es : List (Nat × CpInfo)) (last : Nat) : List CpInfo := es.foldr (fun e r => gap e.1 (e.2 :: r)) (gap last [])
def pool (es : List (Nat × CpInfo)) (last : Nat) : Array CpInfo := ⟨poolList es last⟩
def fileOf (pool : Array CpInfo) (this : Nat) (attrs : Array Attribute := #[]) (ms : Array MethodInfo := #[]) (fl : Nat := 33) (sup : Nat := 0) (ifs : Array Nat := #[]) (fds : Array FieldInfo := #[]) : ClassFile where
  minorVersion := 0
  majorVersion := 65
  constantPool := pool
  accessFlags := fl
  thisClass := this
  superClass := sup
  interfaces := ifs
  fields := fds
  methods := ms
  attributes := attrs
def plain (name : String) (sup : Option ClassId) : Class where
  name := name
  kind := .ordinary
  loader := none
  accessFlags := 33
  super := sup
  interfaces := #[]
  cf := none
  fields := #[]
  methods := #[]
  instanceTypes := #[]
  staticTypes := #[]
  resolved := #[]
  callSites := []
  init := .initialized
  statics := none
  mirror := none

def pool0 : Array CpInfo := pool [(5, u "<init>"), (0, u "()V"), (1, .class_ 10), (1, u "java/lang/Object")] 113

def k0c0 : Code := { maxStack := 0, maxLocals := 1, code := object_method_1_code, exceptionTable := #[], attributes := #[] }
def k0m0 : Method := { name := "<init>", desc := "()V", sig := { parameters := [], returnType := none }, accessFlags := 1, code := some k0c0 }
/-- java/lang/Object -/
def k0 : Class := { plain "java/lang/Object" none with
  accessFlags := 33
  interfaces := #[]
  cf := some (fileOf pool0 8 #[] #[{ accessFlags := 1, nameIndex := 5, descriptorIndex := 6, attributes := #[] }] 33 0 #[] #[])
  fields := #[]
  methods := #[k0m0]
  instanceTypes := #[]
  staticTypes := #[]
  resolved := Array.replicate 124 none
  statics := none }

def pool1 : Array CpInfo := pool [(2, .class_ 4), (1, u "java/lang/Object"), (0, u "<init>"), (0, u "()V"), (0, .methodref 8 9), (0, .class_ 10), (0, .nameAndType 11 12), (0, u "com/example/sayso/sayso/CharacterSet"), (0, u "of"), (0, u "(I)Lcom/example/sayso/sayso/CharacterSet;"), (0, .methodref 8 14), (0, .nameAndType 15 16), (0, u "contains"), (0, u "(I)Z"), (0, .class_ 18), (0, u "com/example/sayso/sayso/CharacterSetOfPinLaw"), (2, u "law"), (0, u "(II)Z")] 3

def k1m0 : Method := { name := "<init>", desc := "()V", sig := { parameters := [], returnType := none }, accessFlags := 1, code := none }
def k1c1 : Code := { maxStack := 3, maxLocals := 7, code := code, exceptionTable := #[], attributes := #[] }
def k1m1 : Method := { name := "law", desc := "(II)Z", sig := { parameters := [.int, .int], returnType := some .boolean }, accessFlags := 9, code := some k1c1 }
/-- com/example/sayso/sayso/CharacterSetOfPinLaw -/
def k1 : Class := { plain "com/example/sayso/sayso/CharacterSetOfPinLaw" (some 0) with
  accessFlags := 49
  interfaces := #[]
  cf := some (fileOf pool1 17 #[] #[{ accessFlags := 1, nameIndex := 5, descriptorIndex := 6, attributes := #[] }, { accessFlags := 9, nameIndex := 21, descriptorIndex := 22, attributes := #[] }] 49 2 #[] #[])
  fields := #[]
  methods := #[k1m0, k1m1]
  instanceTypes := #[]
  staticTypes := #[]
  resolved := Array.replicate 26 none
  statics := none }

def pool2 : Array CpInfo := pool [(1, .methodref 2 3), (0, .class_ 4), (0, .nameAndType 5 6), (0, u "java/lang/Object"), (0, u "<init>"), (0, u "()V"), (0, .fieldref 8 9), (0, .class_ 10), (0, .nameAndType 11 12), (0, u "com/example/sayso/sayso/CharacterSet"), (0, u "ranges"), (0, u "[I"), (0, .fieldref 8 14), (0, .nameAndType 15 16), (0, u "classes"), (0, u "[Lcom/example/sayso/sayso/CharacterClass;"), (0, .fieldref 8 18), (0, .nameAndType 19 20), (0, u "negated"), (0, u "Z"), (0, .class_ 22), (0, u "com/example/sayso/sayso/CharacterClass"), (0, .methodref 8 24), (0, .nameAndType 5 25), (0, u "([I[Lcom/example/sayso/sayso/CharacterClass;Z)V"), (2, u "contains"), (0, u "(I)Z"), (2, u "of"), (0, u "(I)Lcom/example/sayso/sayso/CharacterSet;"), (6, .class_ 41), (0, u "com/example/sayso/sayso/CharacterSet$Builder")] 2

def k2c0 : Code := { maxStack := 2, maxLocals := 4, code := prog_13_method_1_code, exceptionTable := #[], attributes := #[] }
def k2m0 : Method := { name := "<init>", desc := "([I[Lcom/example/sayso/sayso/CharacterClass;Z)V", sig := { parameters := [(.array .int), (.array (.object "com/example/sayso/sayso/CharacterClass")), .boolean], returnType := none }, accessFlags := 2, code := some k2c0 }
def k2c1 : Code := { maxStack := 6, maxLocals := 1, code := prog_13_method_2_code, exceptionTable := #[], attributes := #[] }
def k2m1 : Method := { name := "of", desc := "(I)Lcom/example/sayso/sayso/CharacterSet;", sig := { parameters := [.int], returnType := some (.object "com/example/sayso/sayso/CharacterSet") }, accessFlags := 8, code := some k2c1 }
def k2c2 : Code := { maxStack := 4, maxLocals := 4, code := prog_13_method_4_code, exceptionTable := #[], attributes := #[] }
def k2m2 : Method := { name := "contains", desc := "(I)Z", sig := { parameters := [.int], returnType := some .boolean }, accessFlags := 0, code := some k2c2 }
/-- com/example/sayso/sayso/CharacterSet -/
def k2 : Class := { plain "com/example/sayso/sayso/CharacterSet" (some 0) with
  accessFlags := 32
  interfaces := #[]
  cf := some (fileOf pool2 8 #[.nestMembers #[40]] #[{ accessFlags := 2, nameIndex := 5, descriptorIndex := 25, attributes := #[] }, { accessFlags := 8, nameIndex := 32, descriptorIndex := 33, attributes := #[] }, { accessFlags := 0, nameIndex := 28, descriptorIndex := 29, attributes := #[] }] 32 2 #[] #[{ accessFlags := 18, nameIndex := 11, descriptorIndex := 12, attributes := #[] }, { accessFlags := 18, nameIndex := 15, descriptorIndex := 16, attributes := #[] }, { accessFlags := 18, nameIndex := 19, descriptorIndex := 20, attributes := #[] }])
  fields := #[{ name := "ranges", type := (.array .int), accessFlags := 18, slot := 0, constantValue := 0 }, { name := "classes", type := (.array (.object "com/example/sayso/sayso/CharacterClass")), accessFlags := 18, slot := 1, constantValue := 0 }, { name := "negated", type := .boolean, accessFlags := 18, slot := 2, constantValue := 0 }]
  methods := #[k2m0, k2m1, k2m2]
  instanceTypes := #[(.array .int), (.array (.object "com/example/sayso/sayso/CharacterClass")), .boolean]
  staticTypes := #[]
  resolved := Array.replicate 44 none
  statics := none }

def pool3 : Array CpInfo := pool [(1, .class_ 2), (0, u "java/lang/constant/Constable"), (0, .class_ 4), (0, u "java/lang/Object")] 6

/-- java/lang/constant/Constable -/
def k3 : Class := { plain "java/lang/constant/Constable" (some 0) with
  accessFlags := 1537
  interfaces := #[]
  cf := some (fileOf pool3 1 #[] #[] 1537 3 #[] #[])
  fields := #[]
  methods := #[]
  instanceTypes := #[]
  staticTypes := #[]
  resolved := Array.replicate 11 none
  statics := none }

def pool4 : Array CpInfo := pool [(1, .class_ 2), (0, u "java/lang/Comparable"), (0, .class_ 4), (0, u "java/lang/Object")] 7

/-- java/lang/Comparable -/
def k4 : Class := { plain "java/lang/Comparable" (some 0) with
  accessFlags := 1537
  interfaces := #[]
  cf := some (fileOf pool4 1 #[] #[] 1537 3 #[] #[])
  fields := #[]
  methods := #[]
  instanceTypes := #[]
  staticTypes := #[]
  resolved := Array.replicate 12 none
  statics := none }

def pool5 : Array CpInfo := pool [(1, .class_ 2), (0, u "java/io/Serializable"), (0, .class_ 4), (0, u "java/lang/Object")] 2

/-- java/io/Serializable -/
def k5 : Class := { plain "java/io/Serializable" (some 0) with
  accessFlags := 1537
  interfaces := #[]
  cf := some (fileOf pool5 1 #[] #[] 1537 3 #[] #[])
  fields := #[]
  methods := #[]
  instanceTypes := #[]
  staticTypes := #[]
  resolved := Array.replicate 7 none
  statics := none }

def pool6 : Array CpInfo := pool [(2, .class_ 4), (1, u "java/lang/Enum"), (0, u "name"), (0, u "Ljava/lang/String;"), (2, u "ordinal"), (0, u "I"), (1, .class_ 14), (1, u "java/lang/Object"), (4, u "hash"), (86, .class_ 108), (1, u "java/lang/Enum$EnumDesc"), (2, .class_ 112), (0, u "java/lang/constant/Constable"), (0, .class_ 114), (0, u "java/lang/Comparable"), (0, .class_ 116), (0, u "java/io/Serializable")] 87

/-- java/lang/Enum -/
def k6 : Class := { plain "java/lang/Enum" (some 0) with
  accessFlags := 1057
  interfaces := #[3, 4, 5]
  cf := some (fileOf pool6 2 #[.nestMembers #[106]] #[] 1057 12 #[111, 113, 115] #[{ accessFlags := 18, nameIndex := 5, descriptorIndex := 6, attributes := #[] }, { accessFlags := 18, nameIndex := 9, descriptorIndex := 10, attributes := #[] }, { accessFlags := 2, nameIndex := 19, descriptorIndex := 10, attributes := #[] }])
  fields := #[{ name := "name", type := (.object "java/lang/String"), accessFlags := 18, slot := 0, constantValue := 0 }, { name := "ordinal", type := .int, accessFlags := 18, slot := 1, constantValue := 0 }, { name := "hash", type := .int, accessFlags := 2, slot := 2, constantValue := 0 }]
  methods := #[]
  instanceTypes := #[(.object "java/lang/String"), .int, .int]
  staticTypes := #[]
  resolved := Array.replicate 204 none
  statics := none }

def pool7 : Array CpInfo := pool [(1, .class_ 2), (0, u "com/example/sayso/sayso/CharacterClass"), (2, u "ALNUM"), (0, u "Lcom/example/sayso/sayso/CharacterClass;"), (2, u "ALPHA"), (2, u "BLANK"), (2, u "CNTRL"), (2, u "DIGIT"), (2, u "GRAPH"), (2, u "LOWER"), (2, u "PRINT"), (2, u "PUNCT"), (2, u "SPACE"), (2, u "UPPER"), (2, u "XDIGIT"), (2, u "$VALUES"), (0, u "[Lcom/example/sayso/sayso/CharacterClass;"), (6, .class_ 52), (1, u "java/lang/Enum"), (8, u "members"), (0, u "Ljava/util/function/IntPredicate;")] 199

/-- com/example/sayso/sayso/CharacterClass -/
def k7 : Class := { plain "com/example/sayso/sayso/CharacterClass" (some 6) with
  accessFlags := 16432
  interfaces := #[]
  cf := some (fileOf pool7 1 #[] #[] 16432 50 #[] #[{ accessFlags := 16409, nameIndex := 5, descriptorIndex := 6, attributes := #[] }, { accessFlags := 16409, nameIndex := 9, descriptorIndex := 6, attributes := #[] }, { accessFlags := 16409, nameIndex := 12, descriptorIndex := 6, attributes := #[] }, { accessFlags := 16409, nameIndex := 15, descriptorIndex := 6, attributes := #[] }, { accessFlags := 16409, nameIndex := 18, descriptorIndex := 6, attributes := #[] }, { accessFlags := 16409, nameIndex := 21, descriptorIndex := 6, attributes := #[] }, { accessFlags := 16409, nameIndex := 24, descriptorIndex := 6, attributes := #[] }, { accessFlags := 16409, nameIndex := 27, descriptorIndex := 6, attributes := #[] }, { accessFlags := 16409, nameIndex := 30, descriptorIndex := 6, attributes := #[] }, { accessFlags := 16409, nameIndex := 33, descriptorIndex := 6, attributes := #[] }, { accessFlags := 16409, nameIndex := 36, descriptorIndex := 6, attributes := #[] }, { accessFlags := 16409, nameIndex := 39, descriptorIndex := 6, attributes := #[] }, { accessFlags := 18, nameIndex := 61, descriptorIndex := 62, attributes := #[] }, { accessFlags := 4122, nameIndex := 42, descriptorIndex := 43, attributes := #[] }])
  fields := #[{ name := "ALNUM", type := (.object "com/example/sayso/sayso/CharacterClass"), accessFlags := 16409, slot := 0, constantValue := 0 }, { name := "ALPHA", type := (.object "com/example/sayso/sayso/CharacterClass"), accessFlags := 16409, slot := 1, constantValue := 0 }, { name := "BLANK", type := (.object "com/example/sayso/sayso/CharacterClass"), accessFlags := 16409, slot := 2, constantValue := 0 }, { name := "CNTRL", type := (.object "com/example/sayso/sayso/CharacterClass"), accessFlags := 16409, slot := 3, constantValue := 0 }, { name := "DIGIT", type := (.object "com/example/sayso/sayso/CharacterClass"), accessFlags := 16409, slot := 4, constantValue := 0 }, { name := "GRAPH", type := (.object "com/example/sayso/sayso/CharacterClass"), accessFlags := 16409, slot := 5, constantValue := 0 }, { name := "LOWER", type := (.object "com/example/sayso/sayso/CharacterClass"), accessFlags := 16409, slot := 6, constantValue := 0 }, { name := "PRINT", type := (.object "com/example/sayso/sayso/CharacterClass"), accessFlags := 16409, slot := 7, constantValue := 0 }, { name := "PUNCT", type := (.object "com/example/sayso/sayso/CharacterClass"), accessFlags := 16409, slot := 8, constantValue := 0 }, { name := "SPACE", type := (.object "com/example/sayso/sayso/CharacterClass"), accessFlags := 16409, slot := 9, constantValue := 0 }, { name := "UPPER", type := (.object "com/example/sayso/sayso/CharacterClass"), accessFlags := 16409, slot := 10, constantValue := 0 }, { name := "XDIGIT", type := (.object "com/example/sayso/sayso/CharacterClass"), accessFlags := 16409, slot := 11, constantValue := 0 }, { name := "members", type := (.object "java/util/function/IntPredicate"), accessFlags := 18, slot := 3, constantValue := 0 }, { name := "$VALUES", type := (.array (.object "com/example/sayso/sayso/CharacterClass")), accessFlags := 4122, slot := 12, constantValue := 0 }]
  methods := #[]
  instanceTypes := #[(.object "java/lang/String"), .int, .int, (.object "java/util/function/IntPredicate")]
  staticTypes := #[(.object "com/example/sayso/sayso/CharacterClass"), (.object "com/example/sayso/sayso/CharacterClass"), (.object "com/example/sayso/sayso/CharacterClass"), (.object "com/example/sayso/sayso/CharacterClass"), (.object "com/example/sayso/sayso/CharacterClass"), (.object "com/example/sayso/sayso/CharacterClass"), (.object "com/example/sayso/sayso/CharacterClass"), (.object "com/example/sayso/sayso/CharacterClass"), (.object "com/example/sayso/sayso/CharacterClass"), (.object "com/example/sayso/sayso/CharacterClass"), (.object "com/example/sayso/sayso/CharacterClass"), (.object "com/example/sayso/sayso/CharacterClass"), (.array (.object "com/example/sayso/sayso/CharacterClass"))]
  resolved := Array.replicate 262 none
  statics := none }

def pool8 : Array CpInfo := pool [(1, u "java/lang/Cloneable"), (0, .class_ 1), (0, u "java/lang/Object"), (0, .class_ 3)] 3

/-- java/lang/Cloneable -/
def k8 : Class := { plain "java/lang/Cloneable" (some 0) with
  accessFlags := 1537
  interfaces := #[]
  cf := some (fileOf pool8 2 #[] #[] 1537 4 #[] #[])
  fields := #[]
  methods := #[]
  instanceTypes := #[]
  staticTypes := #[]
  resolved := Array.replicate 8 none
  statics := none }

/-- the primitive byte -/
def k9 : Class := { plain "byte" none with kind := .primitive 'B', accessFlags := 0x411 }
/-- [B -/
def k10 : Class := { plain "[B" (some 0) with kind := .array 9 .byte, interfaces := #[8, 5], accessFlags := 1041 }

/-- the primitive int -/
def k11 : Class := { plain "int" none with kind := .primitive 'I', accessFlags := 0x411 }
/-- [I -/
def k12 : Class := { plain "[I" (some 0) with kind := .array 11 .int, interfaces := #[8, 5], accessFlags := 1041 }

/-- [Lcom/example/sayso/sayso/CharacterClass; -/
def k13 : Class := { plain "[Lcom/example/sayso/sayso/CharacterClass;" (some 0) with kind := .array 7 (.object "com/example/sayso/sayso/CharacterClass"), interfaces := #[8, 5], accessFlags := 1041 }

def heap : Heap := #[]
def classes : Array Class := #[k0, k1, k2, k3, k4, k5, k6, k7, k8, k9, k10, k11, k12, k13]
def interned : List (Array UInt16 × Addr) := []
def slotsUsed : Nat := 0
def theMethod : MethodId := ⟨1, 1⟩
def args0 : Array Value := #[.int 65, .int 66]
def aboutOver (below : List Frame) : State where
  vm := { classes := classes, interned := interned.toArray }
  heap := heap
  slotsUsed := slotsUsed
  threads := #[{ frames := .invoking theMethod args0 :: below }]
def below0 : List Frame := [.native { method := ⟨0, 0⟩, args := #[] }]
def about1 : State := aboutOver below0
def p0 : Program := .bare "" "" ""
def e0 : Env := launch0.env 0 0 0
theorem w_frames : about1.frames = Frame.invoking theMethod args0 :: below0 := rfl
set_option maxRecDepth 65536 in
theorem w_args : argsFit about1.vm theMethod args0 = true := by decide +kernel
set_option maxRecDepth 65536 in
theorem w_heap : heapFits about1 = true := by decide +kernel
set_option maxRecDepth 65536 in
theorem w_runnable : about1.curStatus? = some .runnable := by decide +kernel
set_option maxRecDepth 65536 in
theorem w_alone : about1.alone = true := by decide +kernel
set_option maxRecDepth 65536 in
theorem w_named : about1.methodNamed? x = some theMethod := by decide +kernel
set_option maxRecDepth 65536 in
theorem w_hears : about1.hears theMethod below0 = true := by decide +kernel
set_option maxRecDepth 65536 in
theorem w_ripe : about1.ripe theMethod args0 below0 = true := by decide +kernel
theorem w_running : about1.status = .running := rfl
set_option maxRecDepth 65536 in
theorem w_room : about1.hasRoom e0.platform room_1 = true :=
  launch0.hasRoom_least _ room_1 (by decide +kernel) (by decide +kernel) (by decide +kernel) (by decide +kernel) (by decide +kernel) (by decide +kernel)
theorem allAtoms_all (ts : List Jvm.Cond) (a : Array Jvm.Value) (st : Jvm.State) : (allAtoms ts).before a st = ts.all (fun c => c.before a st) := by
  induction ts with
  | nil => rfl
  | cons c t ih =>
    show (Jvm.Cond.and c (allAtoms t)).before a st = _
    rw [Jvm.Cond.before_and, ih, List.all_cons]
def words1 : List Jvm.Cond := Jvm.Cond.code x code maxLocals ret :: tables_1
/-- a 'code' word, met by the world's own term for the bytes: nothing is compared byte by byte -/
theorem code_word {y : MethodName} {bytes : ByteArray} {mx : Nat} {rt : Option FieldType} {a : Array Value} {s : State} {m : MethodId} {meth : Method} {c : Code} (h1 : s.methodNamed? y = some m) (h2 : s.vm.method? m = some meth) (h3 : meth.code = some c) (h4 : c.code = bytes)
    (h5 : (c.maxLocals == mx && c.exceptionTable.isEmpty && decide (c.maxStack ≤ mostOperands) && decide (meth.sig.returnType = rt) && !meth.locks && decide (parseMethodDescriptor y.desc = some meth.sig)) = true) : (Jvm.Cond.code y bytes mx rt).before a s = true := by
  simp only [Bool.and_eq_true, beq_iff_eq, Bool.not_eq_true', decide_eq_true_eq] at h5
  obtain ⟨⟨⟨⟨⟨g1, g2⟩, g3⟩, g4⟩, g5⟩, g6⟩ := h5
  simp [Cond.before, Cond.holds, Cond.value, h1, h2, h3, h4, g1, g2, g3, g4, g5, g6]
def isCode : Jvm.Cond → Bool
  | .code _ _ _ _ => true
  | _ => false
theorem all_split {L : List Jvm.Cond} {P : Jvm.Cond → Bool} (h1 : L.all (fun c => isCode c || P c) = true) (h2 : ∀ c ∈ L.filter isCode, P c = true) : L.all P = true := by
  refine List.all_eq_true.mpr fun c hc => ?_
  have h := List.all_eq_true.mp h1 c hc
  rcases Bool.eq_false_or_eq_true (isCode c) with hi | hi
  · exact h2 c (List.mem_filter.mpr ⟨hc, hi⟩)
  · simpa [hi] using h
set_option maxRecDepth 65536 in
theorem w_c0 : (Jvm.Cond.code x code maxLocals ret).before args0 about1 = true := code_word (m := ⟨1, 1⟩) (meth := k1m1) (c := k1c1) (by decide +kernel) rfl rfl rfl (by decide +kernel)
set_option maxRecDepth 65536 in
theorem w_c1 : (Jvm.Cond.code ({ cls := "com/example/sayso/sayso/CharacterSet", name := "of", desc := "(I)Lcom/example/sayso/sayso/CharacterSet;" } : Jvm.MethodName) prog_13_method_2_code (1 : Nat) (Option.some (Jvm.ClassFile.FieldType.object "com/example/sayso/sayso/CharacterSet"))).before args0 about1 = true := code_word (m := ⟨2, 1⟩) (meth := k2m1) (c := k2c1) (by decide +kernel) rfl rfl rfl (by decide +kernel)
set_option maxRecDepth 65536 in
theorem w_c2 : (Jvm.Cond.code ({ cls := "com/example/sayso/sayso/CharacterSet", name := "<init>", desc := "([I[Lcom/example/sayso/sayso/CharacterClass;Z)V" } : Jvm.MethodName) prog_13_method_1_code (4 : Nat) (Option.none : Option Jvm.ClassFile.FieldType)).before args0 about1 = true := code_word (m := ⟨2, 0⟩) (meth := k2m0) (c := k2c0) (by decide +kernel) rfl rfl rfl (by decide +kernel)
set_option maxRecDepth 65536 in
theorem w_c3 : (Jvm.Cond.code ({ cls := "java/lang/Object", name := "<init>", desc := "()V" } : Jvm.MethodName) object_method_1_code (1 : Nat) (Option.none : Option Jvm.ClassFile.FieldType)).before args0 about1 = true := code_word (m := ⟨0, 0⟩) (meth := k0m0) (c := k0c0) (by decide +kernel) rfl rfl rfl (by decide +kernel)
set_option maxRecDepth 65536 in
theorem w_c4 : (Jvm.Cond.code ({ cls := "com/example/sayso/sayso/CharacterSet", name := "contains", desc := "(I)Z" } : Jvm.MethodName) prog_13_method_4_code (4 : Nat) (Option.some Jvm.ClassFile.FieldType.boolean)).before args0 about1 = true := code_word (m := ⟨2, 2⟩) (meth := k2m2) (c := k2c2) (by decide +kernel) rfl rfl rfl (by decide +kernel)
def codes1 : List Jvm.Cond := [Jvm.Cond.code x code maxLocals ret, Jvm.Cond.code ({ cls := "com/example/sayso/sayso/CharacterSet", name := "of", desc := "(I)Lcom/example/sayso/sayso/CharacterSet;" } : Jvm.MethodName) prog_13_method_2_code (1 : Nat) (Option.some (Jvm.ClassFile.FieldType.object "com/example/sayso/sayso/CharacterSet")), Jvm.Cond.code ({ cls := "com/example/sayso/sayso/CharacterSet", name := "<init>", desc := "([I[Lcom/example/sayso/sayso/CharacterClass;Z)V" } : Jvm.MethodName) prog_13_method_1_code (4 : Nat) (Option.none : Option Jvm.ClassFile.FieldType), Jvm.Cond.code ({ cls := "java/lang/Object", name := "<init>", desc := "()V" } : Jvm.MethodName) object_method_1_code (1 : Nat) (Option.none : Option Jvm.ClassFile.FieldType), Jvm.Cond.code ({ cls := "com/example/sayso/sayso/CharacterSet", name := "contains", desc := "(I)Z" } : Jvm.MethodName) prog_13_method_4_code (4 : Nat) (Option.some Jvm.ClassFile.FieldType.boolean)]
set_option maxRecDepth 65536 in
theorem codes_eq : words1.filter isCode = codes1 := rfl
theorem w_codes : ∀ c ∈ words1.filter isCode, c.before args0 about1 = true := by
  rw [codes_eq]
  intro c hc
  simp only [codes1, List.mem_cons, List.not_mem_nil, or_false] at hc
  rcases hc with rfl | rfl | rfl | rfl | rfl
  · exact w_c0
  · exact w_c1
  · exact w_c2
  · exact w_c3
  · exact w_c4
set_option maxRecDepth 65536 in
theorem w_t1 : (words1.take 24).all (fun c => isCode c || c.before args0 about1) = true := by decide +kernel
set_option maxRecDepth 65536 in
theorem w_t2 : (words1.drop 24).all (fun c => isCode c || c.before args0 about1) = true := by decide +kernel
theorem w_tables : (allAtoms (Jvm.Cond.code x code maxLocals ret :: tables_1)).before args0 about1 = true := by
  rw [allAtoms_all]
  show words1.all (fun c => c.before args0 about1) = true
  refine all_split ?_ w_codes
  rw [← List.take_append_drop 24 words1, List.all_append, w_t1, w_t2]
  rfl
set_option maxRecDepth 65536 in
theorem w_case : (Jvm.Cond.and given_1 narrow_1).before args0 about1 = true := by decide +kernel
theorem w_applies : (headSpec (Jvm.Cond.code x code maxLocals ret :: tables_1) room_1).applies x e0.platform about1 = true :=
  (Spec.applies_iff w_frames).mpr ⟨w_running, w_runnable, w_alone, w_named, w_hears, w_ripe, w_room, w_tables⟩
theorem atStart : AtStart classFile x code maxLocals ret World_1 tables_1 room_1 Calls_1 rest_1 Pre_1 launch0 p0 e0 about1 theMethod args0 below0 :=
  ⟨lists_1, trivial, launch0.admits_env _ _ _, launch0.least_env, fairChoices_fair.cas, fairChoices_fair.clock, w_frames, w_args, w_heap, w_applies, trivial, trivial, w_case⟩
end start1
theorem witness_1 : WitnessClaimed_1 := ⟨start1.p0, start1.e0, start1.about1, start1.theMethod, start1.args0, start1.below0, start1.atStart⟩
end Jvm.Pilot.@@N@@
